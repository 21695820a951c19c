/- The proof of Rows.LawS6380AWholeSaid; the frame is the guide's shell turned to this function's seven parameters. -/
import Derived.Test.YbulkebckRows
import Derived.Test.YbulkebckLawA2
import Derived.ProofKit
import Derived.OpenShut
import Derived.ShutString
import Derived.ChangeOld
import Derived.Below
import Derived.Deep.Slices
import Derived.Deep.Grids
import Derived.Lib.SmallJoins
namespace Go.Proofs.Ybulkebck.lawS6380AWhole
open Go.ChangeShapes Go.WideShapes Go.ChangeAt Go.RowKit
set_option linter.unusedVariables false

theorem own : ownKnob Yba.prog.godebug = none := by kernel_rfl
theorem laidOut : laidOutB Yba.prog = true := by kernel_rfl
theorem cells27 : Yba.prog.cellsOf 27 = 4 := by kernel_rfl
theorem cells22 : Yba.prog.cellsOf 22 = 1 := by kernel_rfl
theorem cells23 : Yba.prog.cellsOf 23 = 1 := by kernel_rfl
theorem cells3 : Yba.prog.cellsOf 3 = 1 := by kernel_rfl

theorem cell_lt {w : World} {a : Addr} {v : Value} (h : w.cell? a = some v) : a.block < w.heap.size := by
  apply Classical.byContradiction
  intro hn
  have : w.heap[a.block]? = none := Array.getElem?_eq_none (by omega)
  simp [World.cell?, this] at h

theorem list4 {α : Type} (l : List α) (h : l.length = 4) : ∃ a b c d, l = [a, b, c, d] := by
  match l, h with
  | [a, b, c, d], _ => exact ⟨a, b, c, d, rfl⟩

/-- One zone of the argument, out of its reading. -/
theorem zone_of {H : Type} {enc : TypeId × Value → H} {W : World} {sp : Nat → Bool} {n : Nat} {cs : List Value} {x : DataW H × List MemPlace} (h : DataW.trod enc Yba.prog W 0 sp true n 27 cs = some x) :
    ∃ p q g s : Int, cs = [.int .u64 p, .int .u64 q, .int .u32 g, .int .i64 s] ∧ (Lit.int .u64 p).wf = true ∧ (Lit.int .u64 q).wf = true := by
  obtain ⟨y0, y1, y2, y3, m, _, hl, h0, h1, h2, h3⟩ := Go.Joins.trod_struct4 Yba.underlying27 h
  rw [cells27] at hl
  obtain ⟨c0, c1, c2, c3, rfl⟩ := list4 cs hl
  simp only [cells22, cells23, cells3, List.drop_zero, List.drop_succ_cons, List.take_succ_cons, List.take_zero] at h0 h1 h2 h3
  obtain ⟨p, e0, _, w0⟩ := DataW.trod_int Yba.underlying22 h0
  obtain ⟨q, e1, _, w1⟩ := DataW.trod_int Yba.underlying22 h1
  obtain ⟨g, e2, _, _⟩ := DataW.trod_int Yba.underlying23 h2
  obtain ⟨s, e3, _, _⟩ := DataW.trod_int Yba.underlying3 h3
  simp at e0 e1 e2 e3
  subst e0 e1 e2 e3
  exact ⟨p, q, g, s, rfl, w0, w1⟩

/-- What the walk is told of the slice of zones. -/
def Zones (w : World) (a : Option Addr) (len cap : Nat) : Prop :=
  (a = none ∧ len = 0 ∧ cap = 0) ∨ (∃ x, a = some x ∧ len = 0) ∨ ∃ b off z, a = some ⟨b, off, none⟩ ∧ 0 < len ∧ b < w.heap.size ∧ PRow w b off len z ∧ Fits z len

theorem zones_of {H : Type} {enc : TypeId × Value → H} {W : World} {a : Option Addr} {len cap : Nat} {d : DataW H} {p : List MemPlace}
    (h : DataW.Trod enc Yba.prog W 0 (fun _ => true) true 24 (.slice a len cap) d p) : Zones W a len cap := by
  obtain ⟨fuel, hf⟩ := h
  rcases Go.Deep.open_slice Yba.underlying24 hf with ⟨hcs, _⟩ | ⟨x, l, c, m, n, D, Pl, hcs, _, hl, hm, hmm, _, hx⟩
  · simp [Value.cells] at hcs
    obtain ⟨rfl, rfl, rfl⟩ := hcs
    exact .inl ⟨rfl, rfl, rfl⟩
  · simp [Value.cells] at hcs
    obtain ⟨rfl, rfl, rfl⟩ := hcs
    by_cases h0 : len = 0
    · exact .inr (.inl ⟨_, rfl, h0⟩)
    · right; right
      simp only [if_true] at hmm
      rw [cells27] at hx
      have hz : ∀ i, i < len → ∃ y : Int × Int × Int × Int, W.cell? (x.add (i * 4)) = some (.int .u64 y.1) ∧ W.cell? ((x.add (i * 4)).add 1) = some (.int .u64 y.2.1) ∧ W.cell? ((x.add (i * 4)).add 2) = some (.int .u32 y.2.2.1) ∧ W.cell? ((x.add (i * 4)).add 3) = some (.int .i64 y.2.2.2) ∧ (Lit.int .u64 y.1).wf = true ∧ (Lit.int .u64 y.2.1).wf = true := by
        intro i hi
        obtain ⟨cs', hc, ht⟩ := hx i (by omega)
        obtain ⟨p, q, g, s, rfl, w0, w1⟩ := zone_of ht
        have hcell := (World.cells?_some hc).2.2
        refine ⟨(p, q, g, s), ?_, ?_, ?_, ?_, w0, w1⟩
        · simpa [Addr.add] using hcell 0 (by omega)
        · simpa using hcell 1 (by omega)
        · simpa using hcell 2 (by omega)
        · simpa using hcell 3 (by omega)
      obtain ⟨f, hfz⟩ := Go.Deep.choose_lt hz
      obtain ⟨b, off, sp⟩ := x
      have hc0 := (hfz 0 (by omega)).1
      have hsp : sp = none := by simpa [Addr.add] using World.cell?_spot hc0
      subst hsp
      have ad : ∀ i j, ((⟨b, off, none⟩ : Addr).add (i * 4)).add j = ⟨b, off + i * 4 + j, none⟩ := fun i j => by rw [add_plain, add_plain]
      refine ⟨b, off, ⟨fun i => (f i).1, fun i => (f i).2.1, fun i => (f i).2.2.1, fun i => (f i).2.2.2⟩, rfl, by omega, by simpa [Addr.add] using cell_lt hc0, fun i hi => ?_, fun i hi => ?_⟩
      · obtain ⟨y0, y1, y2, y3, _, _⟩ := hfz i hi
        rw [ad] at y1 y2 y3
        rw [add_plain] at y0
        exact ⟨y0, y1, y2, y3⟩
      · obtain ⟨_, _, _, _, w0, w1⟩ := hfz i hi
        have b0 := bounds_u64 w0
        have b1 := bounds_u64 w1
        exact ⟨b0.1, by have := b0.2; show (f i).1 < _; omega, b1.1, by have := b1.2; show (f i).2.1 < _; omega⟩

theorem walk (a0 a1 a2 a3 a4 a6 : Int) (pa : Option Addr) (n c : Nat) (w : World) (h : Zones w pa n c) :
    Calls Yba.prog 3 #[.int .u64 a0, .int .u64 a1, .int .u64 a2, .int .u32 a3, .int .i64 a4, .slice pa n c, .int .u64 a6] w fun e w' => e = .returned (.bool true) ∧ Below w.heap.size w w' := by
  by_cases hbig : 1048576 < (n : Int)
  · exact bigA a0 a1 a2 a3 a4 a6 pa n c w hbig
  rcases h with ⟨rfl, rfl, rfl⟩ | ⟨x, rfl, rfl⟩ | ⟨b, off, z, rfl, h0, hb, hp, hf⟩
  · exact lawA_nil a0 a1 a2 a3 a4 a6 w
  · exact lawA_empty a0 a1 a2 a3 a4 a6 x c w
  · exact lawA_pos a0 a1 a2 a3 a4 a6 b off n c z w h0 (by omega) hb hp hf

set_option maxRecDepth 100000 in
theorem lifted (os : Os) (started : os.Started) (H : Type) (enc : TypeId × Value → H) :
    ReturnsInHanded {} Yba.checked os 3 .any (Rows.lawS6380AWholeSpec.pre6 enc Yba.prog Yba.f3 Rows.lawS6380AWholeRow.domain false) (Rows.lawS6380AWholeSpec.post enc Yba.prog Yba.f3 false true false false) := by
  refine returnsInHanded_of_change (C := Yba.checked) own started (by kernel_rfl) Yba.func3
    (ChangeSpec.witness6 (enc := enc) (C := Yba.checked) false ⟨#[], #[.int .u64 0, .int .u64 0, .int .u64 0, .int .u32 0, .int .i64 0, .slice none 0 0, .int .u64 0], []⟩ 8 (by kernel_rfl) (by kernel_rfl) (by kernel_rfl) (by kernel_rfl)) ?_
  intro W base args ds gs before hval0 hW hcnd _
  have hval : ∀ (j : Nat) t v, Yba.f3.params[j]? = some t → args[j]? = some v → Value.okWide Yba.prog W .any base t v := hval0
  have hW' := hW
  obtain ⟨p, q, hA0, hV, rfl, hfz, hnd⟩ := hW
  have hA : DataW.TrodAll enc Yba.prog W 0 (fun _ => true) true Yba.f3.params.toList args.toList ds p := hA0
  rw [Yba.params3] at hA hval
  obtain ⟨v0, vs0, d0, ds0, p0, q0, hargs, rfl, rfl, h0, r0⟩ := trodAll_cons hA
  obtain ⟨v1, vs1, d1, ds1, p1, q1, rfl, rfl, rfl, h1, r1⟩ := trodAll_cons r0
  obtain ⟨v2, vs2, d2, ds2, p2, q2, rfl, rfl, rfl, h2, r2⟩ := trodAll_cons r1
  obtain ⟨v3, vs3, d3, ds3, p3, q3, rfl, rfl, rfl, h3, r3⟩ := trodAll_cons r2
  obtain ⟨v4, vs4, d4, ds4, p4, q4, rfl, rfl, rfl, h4, r4⟩ := trodAll_cons r3
  obtain ⟨v5, vs5, d5, ds5, p5, q5, rfl, rfl, rfl, h5, r5⟩ := trodAll_cons r4
  obtain ⟨v6, vs6, d6, ds6, p6, q6, rfl, rfl, rfl, h6, r6⟩ := trodAll_cons r5
  obtain ⟨rfl, rfl, rfl⟩ := trodAll_nil r6
  obtain rfl : args = #[v0, v1, v2, v3, v4, v5, v6] := by cases args; simp_all
  obtain ⟨rfl, rfl⟩ := trodVars_none hV
  obtain ⟨a0, rfl, rfl, rfl, w0⟩ := open_int Yba.underlying22 (hval 0 22 v0 rfl rfl) h0
  obtain ⟨a1, rfl, rfl, rfl, w1⟩ := open_int Yba.underlying22 (hval 1 22 v1 rfl rfl) h1
  obtain ⟨a2, rfl, rfl, rfl, w2⟩ := open_int Yba.underlying22 (hval 2 22 v2 rfl rfl) h2
  obtain ⟨a3, rfl, rfl, rfl, w3⟩ := open_int Yba.underlying23 (hval 3 23 v3 rfl rfl) h3
  obtain ⟨a4, rfl, rfl, rfl, w4⟩ := open_int Yba.underlying3 (hval 4 3 v4 rfl rfl) h4
  obtain ⟨a5, len5, cap5, rfl⟩ := okWide_slice Yba.underlying24 (hval 5 24 v5 rfl rfl)
  have k5 := h5
  have lt5 : ∀ x ∈ p5, x.block < W.heap.size := by obtain ⟨m, hm⟩ := k5; exact DataW.trod_lt m _ _ _ hm
  have w5 := zones_of h5
  obtain ⟨a6, rfl, rfl, rfl, w6⟩ := open_int Yba.underlying22 (hval 6 22 v6 rfl rfl) h6
  clear hA0 hval0
  refine (walk a0 a1 a2 a3 a4 a6 a5 len5 cap5 W w5).mono fun e W' ⟨he, bel⟩ => ?_
  subst he
  exact ⟨_, rfl, _, _, _, [], _, [], hW', trodAll_mk1 (shut_bool Yba.underlying4 _), (trodAll_cons_mk (shut_int Yba.underlying22 w0) (trodAll_cons_mk (shut_int Yba.underlying22 w1) (trodAll_cons_mk (shut_int Yba.underlying22 w2) (trodAll_cons_mk (shut_int Yba.underlying23 w3) (trodAll_cons_mk (shut_int Yba.underlying3 w4) (trodAll_cons_mk (Below.trod laidOut (by kernel_rfl) (of_decide_eq_true (by kernel_rfl)) k5 bel lt5) (trodAll_cons_mk (shut_int Yba.underlying22 w6) trodAll_mk0))))))), rfl, bel.frame _, fun h => by cases h⟩

theorem over : Rows.lawS6380AWholeRow.holds Yba.pinned (OpenSpec.ofChange Rows.lawS6380AWholeSpec) :=
  OpenClaim.holds_of_wide 3 Yba.f3 rfl rfl rfl rfl rfl rfl rfl ⟨rfl, rfl, rfl, rfl, rfl⟩ rfl rfl rfl rfl rfl (by kernel_rfl) Yba.func3 (by kernel_rfl)
    (of_decide_eq_true (by kernel_rfl)) (by unfold Func.isWrapper; first | (rw [if_pos (by decide +kernel)]; kernel_rfl) | (rw [if_neg (by decide +kernel)]; exact ⟨rfl, rfl⟩))
    (fun os started H enc _ => lifted os started H enc)

/-- ████ THE STATEMENT ████ -/
theorem proved : Rows.LawS6380AWholeSaid := over
end Go.Proofs.Ybulkebck.lawS6380AWhole
namespace Go.Proofs.Ybulkebck
theorem lawS6380AWhole_proved : Rows.LawS6380AWholeSaid := lawS6380AWhole.proved
end Go.Proofs.Ybulkebck
