import Derived.Test.YbulkebckLawA
namespace Go.Proofs.Ybulkebck
open Go.RowKit
set_option linter.unusedVariables false

theorem pt_cells {W w2 : World} {t : Nat} {op og os on base lead : Int} {par : Value} (h : PT W t op og os on base par lead) (hb : Below W.heap.size W w2) :
    w2.cell? ⟨t, 0, none⟩ = some (.int .u64 op) ∧ w2.cell? ⟨t, 1, none⟩ = some (.int .u32 og) ∧ w2.cell? ⟨t, 2, none⟩ = some (.int .i64 os) ∧ w2.cell? ⟨t, 3, none⟩ = some (.int .u64 on) ∧ w2.cell? ⟨t, 4, none⟩ = some (.int .u64 base) ∧ w2.cell? ⟨t, 5, none⟩ = some par ∧ w2.cell? ⟨t, 6, none⟩ = some (.slice none 0 0) ∧ w2.cell? ⟨t, 7, none⟩ = some (.int .u64 lead) := by
  have h2 := RowAt.kept h hb (RowAt.lt h)
  exact ⟨h2.cell 0, h2.cell 1, h2.cell 2, h2.cell 3, h2.cell 4, h2.cell 5, h2.cell 6, h2.cell 7⟩

set_option maxRecDepth 100000 in
set_option maxHeartbeats 1600000 in
theorem lawA_nil (a0 a1 a2 a3 a4 a6 : Int) (w : World) :
    Calls Yba.prog 3 #[.int .u64 a0, .int .u64 a1, .int .u64 a2, .int .u32 a3, .int .i64 a4, .slice none 0 0, .int .u64 a6] w fun e w' => e = .returned (.bool true) ∧ Below w.heap.size w w' := by
  have q25 := q25
  have q24 := q24
  have r25 := r25
  have r24 := r24
  have n32 := neq32
  have g32 := guard32
  go_enter Yba.func3, Yba.ntmps3
  go_wp2_with fail
  refine wp_loop_rounds 1 ?_
  rw [rounds_succ]
  go_wp2_with (first
    | (go_at_call 6; refine (clone_nil _).mono ?_; rintro e w1 ⟨rfl, rfl⟩)
    | (go_at_call 7; refine (tip_none _ _ _ _ _ _ _ _ _ (by exact pt_new)).mono ?_; rintro e w2 ⟨rfl, rfl⟩))
  go_quiet (fail)
  go_wp2_with (go_at_call 9; refine (equal_nil _ _ _ _ _).mono ?_; rintro e w3 ⟨rfl, rfl⟩)
  go_ret
  exact ⟨rfl, by repeat (first | exact Below.refl _ _ | refine below_drewN ?_ _ | refine Below.alloc ?_ (by simp) _)⟩

theorem make25_0 (w : World) : (Instr.makeSlice 25 (.int .i64 0) (.int .i64 0)).run Yba.prog w = .ok (.slice (some ⟨w.heap.size, 0, none⟩) 0 0) (w.alloc (.cells #[] 32)) := by
  have h := make25 0 (by omega) w
  simpa [madeCells, Array.range_zero'] using h

set_option maxRecDepth 100000 in
set_option maxHeartbeats 1600000 in
theorem lawA_empty (a0 a1 a2 a3 a4 a6 : Int) (x : Addr) (c : Nat) (w : World) :
    Calls Yba.prog 3 #[.int .u64 a0, .int .u64 a1, .int .u64 a2, .int .u32 a3, .int .i64 a4, .slice (some x) 0 c, .int .u64 a6] w fun e w' => e = .returned (.bool true) ∧ Below w.heap.size w w' := by
  have q25 := q25
  have q24 := q24
  have r25 := r25
  have r24 := r24
  have n32 := neq32
  have g32 := guard32
  have hmk := make25_0
  go_enter Yba.func3, Yba.ntmps3
  go_wp2_with fail
  refine wp_loop_rounds 1 ?_
  rw [rounds_succ]
  go_wp2_with (first
    | (go_at_call 6; refine (clone_some w.heap.size 0 0 (w.alloc (.cells #[] 32)) (by omega) (by simp) [] rfl (by simp) (by simp)).mono ?_; rintro e w1 ⟨g, cap, rfl, hg0, hg1, hb1, _⟩)
    | (go_at_call 7; refine (tip_none _ _ _ _ _ _ _ _ _ (by exact pt_new)).mono ?_; rintro e w2 ⟨rfl, rfl⟩))
  go_quiet (fail)
  go_wp2_with (go_at_call 9; refine (equal_nil _ _ _ _ _).mono ?_; rintro e w3 ⟨rfl, rfl⟩)
  go_ret
  have h0 : Below w.heap.size w w1 := ((Below.refl _ _).alloc (Nat.le_refl _) _).trans (hb1.mono (by simp))
  exact ⟨rfl, h0.trans (Below.mono (B := w1.heap.size) (by repeat (first | exact Below.refl _ _ | refine below_drewN ?_ _ | refine Below.alloc ?_ (by simp) _)) h0.size)⟩
end Go.Proofs.Ybulkebck
