/- The proof of Rows.LawS6370CWholeSaid; the frame is the guide's shell turned to this function's five parameters. -/
import Derived.Test.YbulkeaxaRows
import Derived.Test.YbulkeaxaLaw2
import Derived.ProofKit
import Derived.OpenShut
import Derived.ShutString
import Derived.ChangeOld
import Derived.Below
import Derived.SliceStrings
import Derived.Deep.Grids
namespace Go.Proofs.Ybulkeaxa.lawS6370CWhole
open Go.ChangeShapes Go.WideShapes Go.ChangeAt Go.RowKit
open Go.ChangeMaps (open_string shut_string)
set_option linter.unusedVariables false

theorem own : ownKnob Yba.prog.godebug = none := by kernel_rfl
theorem laidOut : laidOutB Yba.prog = true := by kernel_rfl
theorem cells9 : Yba.prog.cellsOf 9 = 1 := by kernel_rfl
theorem cells4 : Yba.prog.cellsOf 4 = 1 := by kernel_rfl

theorem cell_lt {w : World} {a : Addr} {v : Value} (h : w.cell? a = some v) : a.block < w.heap.size := by
  apply Classical.byContradiction
  intro hn
  have : w.heap[a.block]? = none := Array.getElem?_eq_none (by omega)
  simp [World.cell?, this] at h

theorem strs_of {H : Type} {enc : TypeId × Value → H} {W : World} {a : Option Addr} {len cap : Nat} {d : DataW H} {p : List MemPlace}
    (h : DataW.Trod enc Yba.prog W 0 (fun _ => true) true 22 (.slice a len cap) d p) : ∃ ss, StrsAt W a len ss ∧ (∀ i, i < len → (ss.getD i ByteArray.empty).size ≤ maxLen) ∧ len ≤ maxLen := by
  obtain ⟨fuel, hf⟩ := h
  rcases open_strings Yba.underlying22 Yba.underlying9 cells9 hf with ⟨hcs, _⟩ | ⟨x, l, c, ss, hcs, _, hl, hm, hz, _, hcell, hws⟩
  · simp [Value.cells] at hcs
    obtain ⟨rfl, rfl, rfl⟩ := hcs
    exact ⟨[], ⟨rfl, .inl rfl⟩, fun i hi => by omega, by omega⟩
  · simp [Value.cells] at hcs
    obtain ⟨rfl, rfl, rfl⟩ := hcs
    simp only [if_true] at hz
    have hg : ∀ i, i < len → (ss.take len).getD i ByteArray.empty = ss.getD i ByteArray.empty := fun i hi => by simp [List.getD_eq_getElem?_getD, hi]
    refine ⟨ss.take len, ⟨by simp; omega, ?_⟩, fun i hi => ?_, by omega⟩
    · by_cases h0 : len = 0
      · exact .inl h0
      · obtain ⟨b, off, sp⟩ := x
        have hc0 := hcell 0 (by omega)
        have hsp : sp = none := by simpa [Addr.add] using World.cell?_spot hc0
        subst hsp
        refine .inr ⟨b, off, rfl, by simpa [Addr.add] using cell_lt hc0, fun i hi => ?_⟩
        rw [← add_plain, hcell i (by omega), hg i hi]
    · rw [hg i hi]
      refine hws _ ?_
      rw [List.getD_eq_getElem?_getD, List.getElem?_eq_getElem (by omega)]
      exact List.getElem_mem _

theorem bools_of {H : Type} {enc : TypeId × Value → H} {W : World} {a : Option Addr} {len cap : Nat} {d : DataW H} {p : List MemPlace}
    (h : DataW.Trod enc Yba.prog W 0 (fun _ => true) true 23 (.slice a len cap) d p) : ∃ ss, BoolsAt W a len ss ∧ len ≤ maxLen := by
  obtain ⟨fuel, hf⟩ := h
  rcases Go.Deep.open_bools Yba.underlying23 Yba.underlying4 cells4 hf with ⟨hcs, _⟩ | ⟨x, l, c, B, hcs, _, hl, hm, _, hcell⟩
  · simp [Value.cells] at hcs
    obtain ⟨rfl, rfl, rfl⟩ := hcs
    exact ⟨[], ⟨rfl, .inl rfl⟩, by omega⟩
  · simp [Value.cells] at hcs
    obtain ⟨rfl, rfl, rfl⟩ := hcs
    refine ⟨(List.range len).map B, ⟨by simp, ?_⟩, by omega⟩
    by_cases h0 : len = 0
    · exact .inl h0
    · obtain ⟨b, off, sp⟩ := x
      have hc0 := hcell 0 (by omega)
      have hsp : sp = none := by simpa [Addr.add] using World.cell?_spot hc0
      subst hsp
      refine .inr ⟨b, off, rfl, by simpa [Addr.add] using cell_lt hc0, fun i hi => ?_⟩
      rw [← add_plain, hcell i (by omega)]
      simp [List.getD_eq_getElem?_getD, hi]

theorem walk (a0 a1 a2 : Option Addr) (len0 cap0 len1 cap1 len2 cap2 : Nat) (s0 s1 : List ByteArray) (s2 : List Bool) (a3 : ByteArray) (a4 : Int) (w : World)
    (w0 : StrsAt w a0 len0 s0) (z0 : ∀ i, i < len0 → (s0.getD i ByteArray.empty).size ≤ maxLen) (w1 : StrsAt w a1 len1 s1) (m1 : len1 ≤ maxLen) (w2 : BoolsAt w a2 len2 s2) (m2 : len2 ≤ maxLen) (w3 : a3.size ≤ maxLen) (w4 : (Lit.int .u8 a4).wf = true) :
    Calls Yba.prog 3 #[.slice a0 len0 cap0, .slice a1 len1 cap1, .slice a2 len2 cap2, .string a3, .int .u8 a4] w fun e w' => e = .returned (.bool true) ∧ Below w.heap.size w w' := by
  obtain ⟨hs0, hs1⟩ := bounds_u8 w4
  by_cases hbig : 4096 < (len0 : Int)
  · exact big a0 a1 a2 len0 cap0 len1 cap1 len2 cap2 a3 a4 w hbig
  by_cases hz : len0 = 0
  · exact law_A a0 len0 cap0 a1 a2 len1 cap1 len2 cap2 s0 s1 s2 a3 a4 w (by omega) (by omega) m1 m2 w0 w1 w2 w3 hs0 hs1
  obtain ⟨hl0, hw0⟩ := w0
  rcases hw0 with h | ⟨nb, no, rfl, hnb, hcn⟩
  · exact absurd h hz
  by_cases hsel : a4 % ((len0 : Int) + 1) < (len0 : Int)
  · have hm0 : 0 ≤ a4 % ((len0 : Int) + 1) := Int.emod_nonneg _ (by omega)
    have hi : (a4 % ((len0 : Int) + 1)).toNat < len0 := by omega
    exact law_B nb no len0 cap0 a1 a2 len1 cap1 len2 cap2 s0 s1 s2 a3 _ a4 w hl0 (by omega) (by omega) m1 m2 hnb hcn w1 w2 w3 z0 hs0 hs1 hsel hm0 (hcn _ hi) (z0 _ hi)
  · exact law_C nb no len0 cap0 a1 a2 len1 cap1 len2 cap2 s0 s1 s2 a3 a4 w hl0 (by omega) (by omega) m1 m2 hnb hcn w1 w2 w3 z0 hs0 hs1 (by omega)

set_option maxRecDepth 100000 in
theorem lifted (os : Os) (started : os.Started) (H : Type) (enc : TypeId × Value → H) :
    ReturnsInHanded {} Yba.checked os 3 .any (Rows.lawS6370CWholeSpec.pre6 enc Yba.prog Yba.f3 Rows.lawS6370CWholeRow.domain false) (Rows.lawS6370CWholeSpec.post enc Yba.prog Yba.f3 false true false false) := by
  refine returnsInHanded_of_change (C := Yba.checked) own started (by kernel_rfl) Yba.func3
    (ChangeSpec.witness6 (enc := enc) (C := Yba.checked) false ⟨#[], #[.slice none 0 0, .slice none 0 0, .slice none 0 0, .string ⟨#[]⟩, .int .u8 0], []⟩ 8 (by kernel_rfl) (by kernel_rfl) (by kernel_rfl) (by kernel_rfl)) ?_
  intro W base args ds gs before hval0 hW hcnd _
  have hval : ∀ (j : Nat) t v, Yba.f3.params[j]? = some t → args[j]? = some v → Value.okWide Yba.prog W .any base t v := hval0
  have hW' := hW
  obtain ⟨p, q, hA0, hV, rfl, hfz, hnd⟩ := hW
  have hA : DataW.TrodAll enc Yba.prog W 0 (fun _ => true) true Yba.f3.params.toList args.toList ds p := hA0
  rw [Yba.params3] at hA hval
  obtain ⟨v0, vs0, d0, ds0, p0, q0, hargs, rfl, rfl, h0, r0⟩ := trodAll_cons hA
  obtain ⟨v1, vs1, d1, ds1, p1, q1, rfl, rfl, rfl, h1, r1⟩ := trodAll_cons r0
  obtain ⟨v2, vs2, d2, ds2, p2, q2, rfl, rfl, rfl, h2, r2⟩ := trodAll_cons r1
  obtain ⟨v3, vs3, d3, ds3, p3, q3, rfl, rfl, rfl, h3, r3⟩ := trodAll_cons r2
  obtain ⟨v4, vs4, d4, ds4, p4, q4, rfl, rfl, rfl, h4, r4⟩ := trodAll_cons r3
  obtain ⟨rfl, rfl, rfl⟩ := trodAll_nil r4
  obtain rfl : args = #[v0, v1, v2, v3, v4] := by cases args; simp_all
  obtain ⟨rfl, rfl⟩ := trodVars_none hV
  obtain ⟨a0, len0, cap0, rfl⟩ := okWide_slice Yba.underlying22 (hval 0 22 v0 rfl rfl)
  have k0 := h0
  have lt0 : ∀ x ∈ p0, x.block < W.heap.size := by obtain ⟨m, hm⟩ := k0; exact DataW.trod_lt m _ _ _ hm
  obtain ⟨s0, w0, z0, m0⟩ := strs_of h0
  obtain ⟨a1, len1, cap1, rfl⟩ := okWide_slice Yba.underlying22 (hval 1 22 v1 rfl rfl)
  have k1 := h1
  have lt1 : ∀ x ∈ p1, x.block < W.heap.size := by obtain ⟨m, hm⟩ := k1; exact DataW.trod_lt m _ _ _ hm
  obtain ⟨s1, w1, z1, m1⟩ := strs_of h1
  obtain ⟨a2, len2, cap2, rfl⟩ := okWide_slice Yba.underlying23 (hval 2 23 v2 rfl rfl)
  have k2 := h2
  have lt2 : ∀ x ∈ p2, x.block < W.heap.size := by obtain ⟨m, hm⟩ := k2; exact DataW.trod_lt m _ _ _ hm
  obtain ⟨s2, w2, m2⟩ := bools_of h2
  obtain ⟨a3, rfl, rfl, rfl, w3⟩ := open_string Yba.underlying9 (hval 3 9 v3 rfl rfl) h3
  obtain ⟨a4, rfl, rfl, rfl, w4⟩ := open_int Yba.underlying5 (hval 4 5 v4 rfl rfl) h4
  clear hA0 hval0
  refine (walk a0 a1 a2 len0 cap0 len1 cap1 len2 cap2 s0 s1 s2 a3 a4 W w0 z0 w1 m1 w2 m2 w3 w4).mono fun e W' ⟨he, bel⟩ => ?_
  subst he
  exact ⟨_, rfl, _, _, _, [], _, [], hW', trodAll_mk1 (shut_bool Yba.underlying4 _), (trodAll_cons_mk (Below.trod laidOut (by kernel_rfl) (of_decide_eq_true (by kernel_rfl)) k0 bel lt0) (trodAll_cons_mk (Below.trod laidOut (by kernel_rfl) (of_decide_eq_true (by kernel_rfl)) k1 bel lt1) (trodAll_cons_mk (Below.trod laidOut (by kernel_rfl) (of_decide_eq_true (by kernel_rfl)) k2 bel lt2) (trodAll_cons_mk (shut_string Yba.underlying9 w3) (trodAll_cons_mk (shut_int Yba.underlying5 w4) trodAll_mk0))))), rfl, bel.frame _, fun h => by cases h⟩

theorem over : Rows.lawS6370CWholeRow.holds Yba.pinned (OpenSpec.ofChange Rows.lawS6370CWholeSpec) :=
  OpenClaim.holds_of_wide 3 Yba.f3 rfl rfl rfl rfl rfl rfl rfl ⟨rfl, rfl, rfl, rfl, rfl⟩ rfl rfl rfl rfl rfl (by kernel_rfl) Yba.func3 (by kernel_rfl)
    (of_decide_eq_true (by kernel_rfl)) (by unfold Func.isWrapper; first | (rw [if_pos (by decide +kernel)]; kernel_rfl) | (rw [if_neg (by decide +kernel)]; exact ⟨rfl, rfl⟩))
    (fun os started H enc _ => lifted os started H enc)

/-- ████ THE STATEMENT ████ -/
theorem proved : Rows.LawS6370CWholeSaid := over
end Go.Proofs.Ybulkeaxa.lawS6370CWhole
namespace Go.Proofs.Ybulkeaxa
theorem lawS6370CWhole_proved : Rows.LawS6370CWholeSaid := lawS6370CWhole.proved
end Go.Proofs.Ybulkeaxa
