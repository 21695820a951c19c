/- The proof of Rows.LawS6380CWholeSaid; the frame is the guide's shell turned to this function's six parameters. -/
import Derived.Test.YbulkebckRows
import Derived.Test.YbulkebckLawC
import Derived.Test.YbulkebckLawC2
import Derived.ProofKit
import Derived.OpenShut
import Derived.ShutString
import Derived.ChangeOld
import Derived.Below
import Derived.Deep.Slices
import Derived.Deep.Grids
import Derived.Lib.SmallJoins
namespace Go.Proofs.Ybulkebck.lawS6380CWhole
open Go.ChangeShapes Go.WideShapes Go.ChangeAt Go.RowKit
set_option linter.unusedVariables false

theorem own : ownKnob Yba.prog.godebug = none := by kernel_rfl
theorem laidOut : laidOutB Yba.prog = true := by kernel_rfl
theorem cells53 : Yba.prog.cellsOf 53 = 9 := by kernel_rfl
theorem cells22 : Yba.prog.cellsOf 22 = 1 := by kernel_rfl
theorem cells23 : Yba.prog.cellsOf 23 = 1 := by kernel_rfl
theorem cells3 : Yba.prog.cellsOf 3 = 1 := by kernel_rfl
theorem cells4 : Yba.prog.cellsOf 4 = 1 := by kernel_rfl

theorem list9 {α : Type} (l : List α) (h : l.length = 9) : ∃ a b c d e f g i j, l = [a, b, c, d, e, f, g, i, j] := by
  match l, h with
  | [a, b, c, d, e, f, g, i, j], _ => exact ⟨a, b, c, d, e, f, g, i, j, rfl⟩

/-- The hop, out of its reading. -/
theorem hop_of {H : Type} {enc : TypeId × Value → H} {W : World} {sp : Nat → Bool} {n : Nat} {cs : List Value} {x : DataW H × List MemPlace} (h : DataW.trod enc Yba.prog W 0 sp true n 53 cs = some x) :
    ∃ key op og os fp fg fs at_ : Int, ∃ jn : Bool, cs = [.int .u64 key, .int .u64 op, .int .u32 og, .int .i64 os, .bool jn, .int .u64 fp, .int .u32 fg, .int .i64 fs, .int .u64 at_] := by
  obtain ⟨xs, m, _, _, hl, hxl, hx⟩ := DataW.trod_struct Yba.underlying53 h
  rw [cells53] at hl
  obtain ⟨c0, c1, c2, c3, c4, c5, c6, c7, c8, rfl⟩ := list9 cs hl
  have hxl' : xs.length = 9 := hxl
  have hs : ∀ i, i < 9 → ∃ y, xs[i]? = some y := fun i hi => ⟨_, List.getElem?_eq_getElem (by omega)⟩
  obtain ⟨y0, e0⟩ := hs 0 (by omega)
  obtain ⟨y1, e1⟩ := hs 1 (by omega)
  obtain ⟨y2, e2⟩ := hs 2 (by omega)
  obtain ⟨y3, e3⟩ := hs 3 (by omega)
  obtain ⟨y4, e4⟩ := hs 4 (by omega)
  obtain ⟨y5, e5⟩ := hs 5 (by omega)
  obtain ⟨y6, e6⟩ := hs 6 (by omega)
  obtain ⟨y7, e7⟩ := hs 7 (by omega)
  obtain ⟨y8, e8⟩ := hs 8 (by omega)
  have q0 : DataW.trod enc Yba.prog W 0 sp true m 22 (([c0, c1, c2, c3, c4, c5, c6, c7, c8].drop 0).take (Yba.prog.cellsOf 22)) = some y0 := (hx 0 _ rfl).trans e0
  rw [cells22] at q0
  have q1 : DataW.trod enc Yba.prog W 0 sp true m 22 (([c0, c1, c2, c3, c4, c5, c6, c7, c8].drop 1).take (Yba.prog.cellsOf 22)) = some y1 := (hx 1 _ rfl).trans e1
  rw [cells22] at q1
  have q2 : DataW.trod enc Yba.prog W 0 sp true m 23 (([c0, c1, c2, c3, c4, c5, c6, c7, c8].drop 2).take (Yba.prog.cellsOf 23)) = some y2 := (hx 2 _ rfl).trans e2
  rw [cells23] at q2
  have q3 : DataW.trod enc Yba.prog W 0 sp true m 3 (([c0, c1, c2, c3, c4, c5, c6, c7, c8].drop 3).take (Yba.prog.cellsOf 3)) = some y3 := (hx 3 _ rfl).trans e3
  rw [cells3] at q3
  have q4 : DataW.trod enc Yba.prog W 0 sp true m 4 (([c0, c1, c2, c3, c4, c5, c6, c7, c8].drop 4).take (Yba.prog.cellsOf 4)) = some y4 := (hx 4 _ rfl).trans e4
  rw [cells4] at q4
  have q5 : DataW.trod enc Yba.prog W 0 sp true m 22 (([c0, c1, c2, c3, c4, c5, c6, c7, c8].drop 5).take (Yba.prog.cellsOf 22)) = some y5 := (hx 5 _ rfl).trans e5
  rw [cells22] at q5
  have q6 : DataW.trod enc Yba.prog W 0 sp true m 23 (([c0, c1, c2, c3, c4, c5, c6, c7, c8].drop 6).take (Yba.prog.cellsOf 23)) = some y6 := (hx 6 _ rfl).trans e6
  rw [cells23] at q6
  have q7 : DataW.trod enc Yba.prog W 0 sp true m 3 (([c0, c1, c2, c3, c4, c5, c6, c7, c8].drop 7).take (Yba.prog.cellsOf 3)) = some y7 := (hx 7 _ rfl).trans e7
  rw [cells3] at q7
  have q8 : DataW.trod enc Yba.prog W 0 sp true m 22 (([c0, c1, c2, c3, c4, c5, c6, c7, c8].drop 8).take (Yba.prog.cellsOf 22)) = some y8 := (hx 8 _ rfl).trans e8
  rw [cells22] at q8
  obtain ⟨a0, f0, _, _⟩ := DataW.trod_int Yba.underlying22 q0
  obtain ⟨a1, f1, _, _⟩ := DataW.trod_int Yba.underlying22 q1
  obtain ⟨a2, f2, _, _⟩ := DataW.trod_int Yba.underlying23 q2
  obtain ⟨a3, f3, _, _⟩ := DataW.trod_int Yba.underlying3 q3
  obtain ⟨a4, f4, _⟩ := DataW.trod_bool Yba.underlying4 q4
  obtain ⟨a5, f5, _, _⟩ := DataW.trod_int Yba.underlying22 q5
  obtain ⟨a6, f6, _, _⟩ := DataW.trod_int Yba.underlying23 q6
  obtain ⟨a7, f7, _, _⟩ := DataW.trod_int Yba.underlying3 q7
  obtain ⟨a8, f8, _, _⟩ := DataW.trod_int Yba.underlying22 q8
  simp at f0 f1 f2 f3 f4 f5 f6 f7 f8
  subst f0 f1 f2 f3 f4 f5 f6 f7 f8
  exact ⟨a0, a1, a2, a3, a5, a6, a7, a8, a4, rfl⟩

theorem walk (sc key op og os fp fg fs at_ ans mode : Int) (jn hit anil : Bool) (w : World) (hm : (Lit.int .u8 mode).wf = true) :
    Calls Yba.prog 5 #[.int .i64 sc, .agg #[.int .u64 key, .int .u64 op, .int .u32 og, .int .i64 os, .bool jn, .int .u64 fp, .int .u32 fg, .int .i64 fs, .int .u64 at_], .int .u64 ans, .bool hit, .int .u8 mode, .bool anil] w
      fun e w' => e = .returned (.bool true) ∧ Below w.heap.size w w' := by
  have b := bounds_u8 hm
  by_cases hsc : sc = 0
  · subst hsc
    exact lawC_whole key op og os fp fg fs at_ ans mode jn hit anil w (by omega) (by omega)
  · exact lawC_sub sc key op og os fp fg fs at_ ans mode jn hit anil w (by omega) (by omega) hsc

set_option maxRecDepth 100000 in
theorem lifted (os : Os) (started : os.Started) (H : Type) (enc : TypeId × Value → H) :
    ReturnsInHanded {} Yba.checked os 5 .any (Rows.lawS6380CWholeSpec.pre6 enc Yba.prog Yba.f5 Rows.lawS6380CWholeRow.domain false) (Rows.lawS6380CWholeSpec.post enc Yba.prog Yba.f5 false true false false) := by
  refine returnsInHanded_of_change (C := Yba.checked) own started (by kernel_rfl) Yba.func5
    (ChangeSpec.witness6 (enc := enc) (C := Yba.checked) false ⟨#[], #[.int .i64 0, .agg #[.int .u64 0, .int .u64 0, .int .u32 0, .int .i64 0, .bool false, .int .u64 0, .int .u32 0, .int .i64 0, .int .u64 0], .int .u64 0, .bool false, .int .u8 0, .bool false], []⟩ 8 (by kernel_rfl) (by kernel_rfl) (by kernel_rfl) (by kernel_rfl)) ?_
  intro W base args ds gs before hval0 hW hcnd _
  have hval : ∀ (j : Nat) t v, Yba.f5.params[j]? = some t → args[j]? = some v → Value.okWide Yba.prog W .any base t v := hval0
  have hW' := hW
  obtain ⟨p, q, hA0, hV, rfl, hfz, hnd⟩ := hW
  have hA : DataW.TrodAll enc Yba.prog W 0 (fun _ => true) true Yba.f5.params.toList args.toList ds p := hA0
  rw [Yba.params5] at hA hval
  obtain ⟨v0, vs0, d0, ds0, p0, q0, hargs, rfl, rfl, h0, r0⟩ := trodAll_cons hA
  obtain ⟨v1, vs1, d1, ds1, p1, q1, rfl, rfl, rfl, h1, r1⟩ := trodAll_cons r0
  obtain ⟨v2, vs2, d2, ds2, p2, q2, rfl, rfl, rfl, h2, r2⟩ := trodAll_cons r1
  obtain ⟨v3, vs3, d3, ds3, p3, q3, rfl, rfl, rfl, h3, r3⟩ := trodAll_cons r2
  obtain ⟨v4, vs4, d4, ds4, p4, q4, rfl, rfl, rfl, h4, r4⟩ := trodAll_cons r3
  obtain ⟨v5, vs5, d5, ds5, p5, q5, rfl, rfl, rfl, h5, r5⟩ := trodAll_cons r4
  obtain ⟨rfl, rfl, rfl⟩ := trodAll_nil r5
  obtain rfl : args = #[v0, v1, v2, v3, v4, v5] := by cases args; simp_all
  obtain ⟨rfl, rfl⟩ := trodVars_none hV
  obtain ⟨a0, rfl, rfl, rfl, w0⟩ := open_int Yba.underlying3 (hval 0 3 v0 rfl rfl) h0
  obtain ⟨cs, rfl, hcsz⟩ := okWide_struct Yba.underlying53 (hval 1 53 v1 rfl rfl)
  have k1 := h1
  have lt1 : ∀ x ∈ p1, x.block < W.heap.size := by obtain ⟨m, hm⟩ := k1; exact DataW.trod_lt m _ _ _ hm
  obtain ⟨key, op, og, osz, fp, fg, fs, at_, jn, hcs⟩ : ∃ key op og os fp fg fs at_ : Int, ∃ jn : Bool, cs.toList = [.int .u64 key, .int .u64 op, .int .u32 og, .int .i64 os, .bool jn, .int .u64 fp, .int .u32 fg, .int .i64 fs, .int .u64 at_] := by
    obtain ⟨fuel, hf⟩ := h1
    exact hop_of hf
  obtain rfl : cs = #[.int .u64 key, .int .u64 op, .int .u32 og, .int .i64 osz, .bool jn, .int .u64 fp, .int .u32 fg, .int .i64 fs, .int .u64 at_] := by
    cases cs; simp_all
  obtain ⟨a2, rfl, rfl, rfl, w2⟩ := open_int Yba.underlying22 (hval 2 22 v2 rfl rfl) h2
  obtain ⟨a3, rfl, rfl, rfl⟩ := open_bool Yba.underlying4 (hval 3 4 v3 rfl rfl) h3
  obtain ⟨a4, rfl, rfl, rfl, w4⟩ := open_int Yba.underlying5 (hval 4 5 v4 rfl rfl) h4
  obtain ⟨a5, rfl, rfl, rfl⟩ := open_bool Yba.underlying4 (hval 5 4 v5 rfl rfl) h5
  clear hA0 hval0
  refine (walk a0 key op og osz fp fg fs at_ a2 a4 jn a3 a5 W w4).mono fun e W' ⟨he, bel⟩ => ?_
  subst he
  exact ⟨_, rfl, _, _, _, [], _, [], hW', trodAll_mk1 (shut_bool Yba.underlying4 _), (trodAll_cons_mk (shut_int Yba.underlying3 w0) (trodAll_cons_mk (Below.trod laidOut (by kernel_rfl) (of_decide_eq_true (by kernel_rfl)) k1 bel lt1) (trodAll_cons_mk (shut_int Yba.underlying22 w2) (trodAll_cons_mk (shut_bool Yba.underlying4 _) (trodAll_cons_mk (shut_int Yba.underlying5 w4) (trodAll_cons_mk (shut_bool Yba.underlying4 _) trodAll_mk0)))))), rfl, bel.frame _, fun h => by cases h⟩

theorem over : Rows.lawS6380CWholeRow.holds Yba.pinned (OpenSpec.ofChange Rows.lawS6380CWholeSpec) :=
  OpenClaim.holds_of_wide 5 Yba.f5 rfl rfl rfl rfl rfl rfl rfl ⟨rfl, rfl, rfl, rfl, rfl⟩ rfl rfl rfl rfl rfl (by kernel_rfl) Yba.func5 (by kernel_rfl)
    (of_decide_eq_true (by kernel_rfl)) (by unfold Func.isWrapper; first | (rw [if_pos (by decide +kernel)]; kernel_rfl) | (rw [if_neg (by decide +kernel)]; exact ⟨rfl, rfl⟩))
    (fun os started H enc _ => lifted os started H enc)
end Go.Proofs.Ybulkebck.lawS6380CWhole
namespace Go.Proofs.Ybulkebck
/-- The statement. -/
theorem lawS6380CWhole_proved : Rows.LawS6380CWholeSaid := lawS6380CWhole.over
end Go.Proofs.Ybulkebck
