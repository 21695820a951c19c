import Derived.Test.YbulkebckLawB
namespace Go.Proofs.Ybulkebck
open Go.RowKit
set_option linter.unusedVariables false

theorem make43_0 (w : World) : (Instr.makeSlice 43 (.int .i64 0) (.int .i64 0)).run Yba.prog w = .ok (.slice (some ⟨w.heap.size, 0, none⟩) 0 0) (w.alloc (.cells #[] 44)) := by
  have h := make43 0 (by omega) w
  have e : madeCells #[Value.pointer none] 0 = #[] := Array.eq_empty_of_size_eq_zero (by simp [size_madeCells])
  rw [e] at h
  exact h

theorem laid_nil {w wp : World} {kk : Nat} {a0 s : Int} (hp : Pool w kk kk wp) :
    ∀ X, X = (wp.alloc (.cells #[.int .u64 a0, .int .i64 s, .slice none 0 0, .int .u64 0, .int .i64 0, .int .i64 0, .pointer none] 49)).alloc (.cells #[] 44) →
    RowAt X w.heap.size 44 (partly kk kk (nodeV w.heap.size)) ∧ (∀ j, j < kk → NodeAt X w.heap.size j) ∧ RowAt X wp.heap.size 49 [.int .u64 a0, .int .i64 s, .slice none 0 0, .int .u64 0, .int .i64 0, .int .i64 0, .pointer none] ∧ Below w.heap.size w X := by
  rintro X rfl
  have hs := hp.2.2.1
  exact ⟨(hp.1.alloc _).alloc _, fun j hj => RowAt.alloc (RowAt.alloc (hp.2.1 j hj) _) _, (RowAt.new wp 49 _).alloc _, (hp.2.2.2.alloc (by omega) _).alloc (by simp; omega) _⟩

set_option maxRecDepth 100000 in
set_option maxHeartbeats 1600000 in
theorem lawB_nil (a0 a1 a2 a4 : Int) (w : World) (h1 : 0 ≤ a1) (h1' : a1 < 256) (h2 : 0 ≤ a2) (h2' : a2 < 256) (h4 : -9223372036854775808 ≤ a4) (h4' : a4 ≤ 9223372036854775807) :
    Calls Yba.prog 4 #[.int .u64 a0, .int .u8 a1, .int .u8 a2, .slice none 0 0, .int .i64 a4] w fun e w' => e = .returned (.bool true) ∧ Below w.heap.size w w' := by
  obtain ⟨kk, hk⟩ : ∃ kk : Nat, a2 % 4 + 1 = (kk : Int) := ⟨(a2 % 4 + 1).toNat, by omega⟩
  have hk1 : 1 ≤ kk := by omega
  have hk4 : kk ≤ 4 := by omega
  have hmk := make43 kk (by omega)
  have q43 := q43
  have r43 := r43
  have r42 := r42
  go_enter Yba.func4, Yba.ntmps4
  go_wp2_with fail
  go_loopw [13] (fun i wr => ∃ k : Nat, k ≤ kk ∧ i = .int .i64 k ∧ Pool w kk k wr) (fun i _ => kk - (intOf i).toNat)
  case atStart => exact ⟨0, Nat.zero_le _, rfl, Pool.start w kk⟩
  case round =>
    obtain ⟨k, hkk, rfl, hp⟩ := hrel
    by_cases hlt : k < kk
    · have y0 : wr.cell? ⟨w.heap.size, k, none⟩ = some (.pointer none) := by rw [hp.1.cell, part_get _ hlt, if_neg (by omega)]
      have f0 := hp.1.free k
      have hlt0 : w.heap.size < wr.heap.size := hp.1.lt
      have hlt1 : (k : Int) < (kk : Int) := by omega
      have HP : Hid (Pool w kk k wr) := hp
      clear hp
      go_wp2_with (go_at_call 10; refine (new_any _ _).mono ?_; rintro e w1 ⟨rfl, rfl⟩)
      go_roundw
      case rel => exact ⟨k + 1, by omega, by go_num, HP.out.step hlt⟩
      case measure => simp [intOf]; omega
    · obtain rfl : kk = k := by omega
      rename World => wp
      have HP : Hid (Pool w kk kk wp) := hp
      clear hp hlt hkk hmk
      have hm0 := make43_0
      go_wp2_with (refine wpList_copy_nothing rfl (.tmp 86) (.tmp 87) 43 43 rfl 44 Yba.underlying43 Yba.size44 (some ⟨wp.heap.size + 1, 0, none⟩) none 0 0 0 0 rfl rfl rfl ?_)
      obtain ⟨X, hX⟩ : ∃ X, X = (wp.alloc (.cells #[.int .u64 a0, .int .i64 (a1 % 5 + 1), .slice none 0 0, .int .u64 0, .int .i64 0, .int .i64 0, .pointer none] 49)).alloc (.cells #[] 44) := ⟨_, rfl⟩
      rw [← hX]
      obtain ⟨x1, x2, x3, x4⟩ := laid_nil HP.out X hX
      obtain ⟨s5, hs5⟩ : ∃ s5, s5 = a1 % 5 + 1 := ⟨_, rfl⟩
      obtain ⟨T, hT⟩ : ∃ T, T = wp.heap.size := ⟨_, rfl⟩
      rw [← hs5, ← hT] at x3 ⊢
      have H1 : Hid (RowAt X w.heap.size 44 (partly kk kk (nodeV w.heap.size))) := x1
      have H2 : Hid (∀ j, j < kk → NodeAt X w.heap.size j) := x2
      have t0 : X.cell? ⟨T, 0, none⟩ = some (.int .u64 a0) := x3.cell 0
      have t1 : X.cell? ⟨T, 1, none⟩ = some (.int .i64 s5) := x3.cell 1
      have t2 : X.cell? ⟨T, 2, none⟩ = some (.slice none 0 0) := x3.cell 2
      have t3 : X.cell? ⟨T, 3, none⟩ = some (.int .u64 0) := x3.cell 3
      have t4 : X.cell? ⟨T, 4, none⟩ = some (.int .i64 0) := x3.cell 4
      have t5 : X.cell? ⟨T, 5, none⟩ = some (.int .i64 0) := x3.cell 5
      have t6 : X.cell? ⟨T, 6, none⟩ = some (.pointer none) := x3.cell 6
      have HB : Hid (Below w.heap.size w X) := x4
      clear x1 x2 x3 x4 hX hs5 hT HP
      go_wp2_with fail
      refine wp_loop_rounds 1 ?_
      rw [rounds_succ]
      go_upto_if 117 with fail
      go_cut [22] (fun s wx => (s = .int .i64 (if a4 < 0 then a4 else 0)) ∧ X = wx)
      case first =>
        by_cases ha : a4 < 0
        · have e : (if a4 < 0 then a4 else 0) = a4 := if_pos ha
          have hd : decide (a4 < 0) = true := decide_eq_true ha
          go_wp2
          go_meet
          exact ⟨congrArg _ e.symm, rfl⟩
        · have e : (if a4 < 0 then a4 else 0) = 0 := if_neg ha
          have hd : decide (a4 < 0) = false := decide_eq_false ha
          go_wp2
          go_meet
          exact ⟨congrArg _ e.symm, rfl⟩
      case rest =>
      obtain ⟨rfl, rfl⟩ := hcut
      obtain ⟨m0, hm1⟩ : ∃ m0, m0 = if a4 < 0 then a4 else 0 := ⟨_, rfl⟩
      rw [← hm1]
      have HM : Hid (m0 ≤ 0) := show m0 ≤ 0 by rw [hm1]; split <;> omega
      clear hm1
      go_upto_if 120 with fail
      go_cut [22] (fun s wx => s = .int .i64 0 ∧ X = wx)
      case first =>
        by_cases ha : m0 < 0
        · have hd : decide (m0 < 0) = true := decide_eq_true ha
          go_wp2
          go_meet
          exact ⟨rfl, rfl⟩
        · have e : m0 = 0 := by have := HM.out; omega
          subst e
          go_wp2
          go_meet
          exact ⟨rfl, rfl⟩
      case rest =>
      obtain ⟨rfl, rfl⟩ := hcut
      have n47 := neq47
      have g47 := guard47
      go_wp2_with (go_at_call 11; refine (pred_zero T none 0 a4 X t2).mono ?_; rintro e w5 ⟨rfl, rfl⟩)
      refine wp_loop_rounds 1 ?_
      rw [rounds_succ]
      go_wp2_with fail
      refine wp_loop_rounds 1 ?_
      rw [rounds_succ]
      go_wp2_with fail
      refine wp_loop_rounds 1 ?_
      rw [rounds_succ]
      go_wp2_with fail
      go_loopw [27] (fun i wx => ∃ k : Nat, k ≤ kk ∧ i = .int .i64 k ∧ wx = w5) (fun i _ => kk - (intOf i).toNat)
      case atStart => exact ⟨0, Nat.zero_le _, rfl, rfl⟩
      case round =>
        obtain ⟨k, hkm, rfl, rfl⟩ := hrel
        by_cases hlt : k < kk
        · have y0 : wr.cell? ⟨w.heap.size, k, none⟩ = some (.pointer (some ⟨w.heap.size + 1 + k, 0, none⟩)) := by rw [H1.out.cell]; exact part_lt _ hlt hlt
          have y1 : wr.cell? ⟨w.heap.size + 1 + k, 1, none⟩ = some (.int .i64 1) := RowAt.cell (H2.out k hlt) 1
          have y2 : wr.cell? ⟨w.heap.size + 1 + k, 2, none⟩ = some (.slice none 0 0) := RowAt.cell (H2.out k hlt) 2
          have hlt1 : (k : Int) < (kk : Int) := by omega
          go_wp2
          go_roundw
          case rel => exact ⟨k + 1, by omega, by go_num, trivial⟩
          case measure => simp [intOf]; omega
        · obtain rfl : kk = k := by omega
          go_wp2
          go_ret
          exact ⟨rfl, HB.out⟩
end Go.Proofs.Ybulkebck
