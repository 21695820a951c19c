import Derived.Test.YbulkebauLawA
import Derived.Lib.Builder
namespace Go.Proofs.Ybulkebau
open Go.RowKit
set_option linter.unusedVariables false

set_option maxHeartbeats 800000 in
theorem empty_neg (a0 : Int) (x : Addr) (c : Nat) (w : World) (h : a0 < 0) (h2 : (a0 == 2) = false) :
    Calls Yba.prog 3 #[.int .i64 a0, .slice (some x) 0 c] w fun e w' => e = .returned (.bool true) ∧ Below w.heap.size w w' := by
  have q22 := q22
  have q26 := q26
  go_enter Yba.func3, Yba.ntmps3
  go_wp2_with (first | (go_at_call 6; refine (clone_empty _ _ _).mono ?_; rintro e w1 ⟨rfl, hb, hz⟩) | (go_at_call 8; refine (eq_nil _ _ _ _ _).mono ?_; rintro e w' ⟨rfl, nq, rfl⟩) | go_in)
  go_quiet (fail)
  go_wp2_with (first | (go_at_call 8; refine (eq_nil _ _ _ _ _).mono ?_; rintro e w' ⟨rfl, nq, rfl⟩) | go_in)
  go_ret
  exact ⟨rfl, hb.trans (Below.mono (B := w1.heap.size) (by repeat (first | exact Below.refl _ _ | refine below_drewN ?_ _ | refine Below.alloc ?_ (by simp) _)) hb.size)⟩

set_option maxHeartbeats 800000 in
theorem empty_oth (a0 : Int) (x : Addr) (c : Nat) (w : World) (h : 0 ≤ a0) (hm : a0 ≤ 9223372036854775807) (h2 : (a0 % 5 == 2) = false) :
    Calls Yba.prog 3 #[.int .i64 a0, .slice (some x) 0 c] w fun e w' => e = .returned (.bool true) ∧ Below w.heap.size w w' := by
  have q22 := q22
  have q26 := q26
  go_enter Yba.func3, Yba.ntmps3
  go_wp2_with (first | (go_at_call 6; refine (clone_empty _ _ _).mono ?_; rintro e w1 ⟨rfl, hb, hz⟩) | (go_at_call 8; refine (eq_nil _ _ _ _ _).mono ?_; rintro e w' ⟨rfl, nq, rfl⟩) | go_in)
  go_quiet (fail)
  go_wp2_with (first | (go_at_call 8; refine (eq_nil _ _ _ _ _).mono ?_; rintro e w' ⟨rfl, nq, rfl⟩) | go_in)
  go_ret
  exact ⟨rfl, hb.trans (Below.mono (B := w1.heap.size) (by repeat (first | exact Below.refl _ _ | refine below_drewN ?_ _ | refine Below.alloc ?_ (by simp) _)) hb.size)⟩

set_option maxHeartbeats 800000 in
theorem empty_two (a0 : Int) (x : Addr) (c : Nat) (w : World) (h : 0 ≤ a0) (hm : a0 ≤ 9223372036854775807) (h2 : (a0 % 5 == 2) = true) :
    Calls Yba.prog 3 #[.int .i64 a0, .slice (some x) 0 c] w fun e w' => e = .returned (.bool true) ∧ Below w.heap.size w w' := by
  have q22 := q22
  have q26 := q26
  go_enter Yba.func3, Yba.ntmps3
  go_wp2_with (first | (go_at_call 6; refine (clone_empty _ _ _).mono ?_; rintro e w1 ⟨rfl, hb, hz⟩) | (go_at_call 8; refine (eq_nil _ _ _ _ _).mono ?_; rintro e w' ⟨rfl, nq, rfl⟩) | go_in)
  go_quiet (fail)
  go_wp2_with (first | (go_at_call 8; refine (eq_nil _ _ _ _ _).mono ?_; rintro e w' ⟨rfl, nq, rfl⟩) | go_in)
  go_quiet (fail)
  go_wp2
  go_ret
  exact ⟨rfl, hb.trans (Below.mono (B := w1.heap.size) (by repeat (first | exact Below.refl _ _ | refine below_drewN ?_ _ | refine Below.alloc ?_ (by simp) _)) hb.size)⟩

theorem p40 : ∀ (w : World) (a : Addr), (binOp .neq 40 (.pointer (some a)) (.pointer (some a))).run Yba.prog w = .ok (.bool false) w := by
  intro w a
  obtain ⟨i, hi, _⟩ := Option.map_eq_some_iff.1 Yba.info5
  exact Lib.run_neq_ptr_same w a Yba.underlying40 hi

theorem keepBoth {b off n : Nat} {xs : List Int} {w w1 : World} (hbl : b < w.heap.size) (hb : Below w.heap.size w w1) (hz : w1.heap.size = w.heap.size + 1)
    (h1 : ∀ i, i < n → w.cell? ⟨b, off + i, none⟩ = some (.int .u8 (xs.getD i 0))) (h2 : ∀ i, i < n → w1.cell? ⟨w.heap.size, i, none⟩ = some (.int .u8 (xs.getD i 0))) :
    Hid (∀ X, Below w1.heap.size w1 X → ∀ i, i < n → X.cell? ⟨b, off + i, none⟩ = some (.int .u8 (xs.getD i 0))) ∧ Hid (∀ X, Below w1.heap.size w1 X → ∀ i, i < n → X.cell? ⟨w.heap.size, 0 + i, none⟩ = some (.int .u8 (xs.getD i 0))) := by
  refine ⟨fun X hX i hi => ?_, fun X hX i hi => ?_⟩
  · rw [hX.cell (p := ⟨b, off + i, none⟩) (by show b < _; omega), hb.cell (p := ⟨b, off + i, none⟩) hbl]; exact h1 i hi
  · rw [Nat.zero_add, hX.cell (p := ⟨w.heap.size, i, none⟩) (by show w.heap.size < _; omega)]; exact h2 i hi

set_option maxHeartbeats 800000 in
theorem pos_neg (a0 : Int) (b off n c : Nat) (xs : List Int) (w : World) (hn : n ≤ 1048576) (hl : xs.length = n) (hbl : b < w.heap.size) (hp : 0 < (n : Int))
    (h1 : ∀ i, i < n → w.cell? ⟨b, off + i, none⟩ = some (.int .u8 (xs.getD i 0))) (h : a0 < 0) (h2 : (a0 == 2) = false) :
    Calls Yba.prog 3 #[.int .i64 a0, .slice (some ⟨b, off, none⟩) n c] w fun e w' => e = .returned (.bool true) ∧ Below w.heap.size w w' := by
  have q22 := q22
  have q26 := q26
  have H1 : Hid (∀ i, i < n → w.cell? ⟨b, off + i, none⟩ = some (.int .u8 (xs.getD i 0))) := h1
  have HL : Hid (xs.length = n) := hl
  have hp' : 0 < n := by omega
  have hd : decide ((0 : Int) < (n : Int)) = true := by simpa using hp'
  have hd2 : decide (0 < n) = true := by simpa using hp'
  have p40 := p40
  clear h1 hl
  go_enter Yba.func3, Yba.ntmps3
  go_wp2_with (first | (go_at_call 6; refine (clone_some b off n c xs w hn HL.out hbl H1.out).mono ?_; rintro e w1 ⟨rfl, hb, hz, H2⟩; obtain ⟨H3, H4⟩ := keepBoth hbl hb hz H1.out H2; clear H2 hz) | (go_at_call 8; refine (eq_pos b off w.heap.size 0 n _ _ xs _ hn HL.out (by exact H3.out _ (by repeat (first | exact Below.refl _ _ | refine below_drewN ?_ _ | refine Below.alloc ?_ (by simp) _))) (by exact H4.out _ (by repeat (first | exact Below.refl _ _ | refine below_drewN ?_ _ | refine Below.alloc ?_ (by simp) _)))).mono ?_; rintro e w' ⟨rfl, nq, rfl⟩) | go_in)
  go_quiet (fail)
  go_wp2_with (first | (go_at_call 8; refine (eq_pos b off w.heap.size 0 n _ _ xs _ hn HL.out (by exact H3.out _ (by repeat (first | exact Below.refl _ _ | refine below_drewN ?_ _ | refine Below.alloc ?_ (by simp) _))) (by exact H4.out _ (by repeat (first | exact Below.refl _ _ | refine below_drewN ?_ _ | refine Below.alloc ?_ (by simp) _)))).mono ?_; rintro e w' ⟨rfl, nq, rfl⟩) | go_in)
  go_ret
  exact ⟨rfl, hb.trans (Below.mono (B := w1.heap.size) (by repeat (first | exact Below.refl _ _ | refine below_drewN ?_ _ | refine Below.alloc ?_ (by simp) _)) hb.size)⟩

set_option maxHeartbeats 800000 in
theorem pos_oth (a0 : Int) (b off n c : Nat) (xs : List Int) (w : World) (hn : n ≤ 1048576) (hl : xs.length = n) (hbl : b < w.heap.size) (hp : 0 < (n : Int))
    (h1 : ∀ i, i < n → w.cell? ⟨b, off + i, none⟩ = some (.int .u8 (xs.getD i 0))) (h : 0 ≤ a0) (hm : a0 ≤ 9223372036854775807) (h2 : (a0 % 5 == 2) = false) :
    Calls Yba.prog 3 #[.int .i64 a0, .slice (some ⟨b, off, none⟩) n c] w fun e w' => e = .returned (.bool true) ∧ Below w.heap.size w w' := by
  have q22 := q22
  have q26 := q26
  have H1 : Hid (∀ i, i < n → w.cell? ⟨b, off + i, none⟩ = some (.int .u8 (xs.getD i 0))) := h1
  have HL : Hid (xs.length = n) := hl
  have hp' : 0 < n := by omega
  have hd : decide ((0 : Int) < (n : Int)) = true := by simpa using hp'
  have hd2 : decide (0 < n) = true := by simpa using hp'
  have p40 := p40
  clear h1 hl
  go_enter Yba.func3, Yba.ntmps3
  go_wp2_with (first | (go_at_call 6; refine (clone_some b off n c xs w hn HL.out hbl H1.out).mono ?_; rintro e w1 ⟨rfl, hb, hz, H2⟩; obtain ⟨H3, H4⟩ := keepBoth hbl hb hz H1.out H2; clear H2 hz) | (go_at_call 8; refine (eq_pos b off w.heap.size 0 n _ _ xs _ hn HL.out (by exact H3.out _ (by repeat (first | exact Below.refl _ _ | refine below_drewN ?_ _ | refine Below.alloc ?_ (by simp) _))) (by exact H4.out _ (by repeat (first | exact Below.refl _ _ | refine below_drewN ?_ _ | refine Below.alloc ?_ (by simp) _)))).mono ?_; rintro e w' ⟨rfl, nq, rfl⟩) | go_in)
  go_quiet (fail)
  go_wp2_with (first | (go_at_call 8; refine (eq_pos b off w.heap.size 0 n _ _ xs _ hn HL.out (by exact H3.out _ (by repeat (first | exact Below.refl _ _ | refine below_drewN ?_ _ | refine Below.alloc ?_ (by simp) _))) (by exact H4.out _ (by repeat (first | exact Below.refl _ _ | refine below_drewN ?_ _ | refine Below.alloc ?_ (by simp) _)))).mono ?_; rintro e w' ⟨rfl, nq, rfl⟩) | go_in)
  go_ret
  exact ⟨rfl, hb.trans (Below.mono (B := w1.heap.size) (by repeat (first | exact Below.refl _ _ | refine below_drewN ?_ _ | refine Below.alloc ?_ (by simp) _)) hb.size)⟩

set_option maxHeartbeats 800000 in
theorem pos_two (a0 : Int) (b off n c : Nat) (xs : List Int) (w : World) (hn : n ≤ 1048576) (hl : xs.length = n) (hbl : b < w.heap.size) (hp : 0 < (n : Int))
    (h1 : ∀ i, i < n → w.cell? ⟨b, off + i, none⟩ = some (.int .u8 (xs.getD i 0))) (h : 0 ≤ a0) (hm : a0 ≤ 9223372036854775807) (h2 : (a0 % 5 == 2) = true) :
    Calls Yba.prog 3 #[.int .i64 a0, .slice (some ⟨b, off, none⟩) n c] w fun e w' => e = .returned (.bool true) ∧ Below w.heap.size w w' := by
  have q22 := q22
  have q26 := q26
  have H1 : Hid (∀ i, i < n → w.cell? ⟨b, off + i, none⟩ = some (.int .u8 (xs.getD i 0))) := h1
  have HL : Hid (xs.length = n) := hl
  have hp' : 0 < n := by omega
  have hd : decide ((0 : Int) < (n : Int)) = true := by simpa using hp'
  have hd2 : decide (0 < n) = true := by simpa using hp'
  have p40 := p40
  clear h1 hl
  go_enter Yba.func3, Yba.ntmps3
  go_wp2_with (first | (go_at_call 6; refine (clone_some b off n c xs w hn HL.out hbl H1.out).mono ?_; rintro e w1 ⟨rfl, hb, hz, H2⟩; obtain ⟨H3, H4⟩ := keepBoth hbl hb hz H1.out H2; clear H2 hz) | (go_at_call 8; refine (eq_pos b off w.heap.size 0 n _ _ xs _ hn HL.out (by exact H3.out _ (by repeat (first | exact Below.refl _ _ | refine below_drewN ?_ _ | refine Below.alloc ?_ (by simp) _))) (by exact H4.out _ (by repeat (first | exact Below.refl _ _ | refine below_drewN ?_ _ | refine Below.alloc ?_ (by simp) _)))).mono ?_; rintro e w' ⟨rfl, nq, rfl⟩) | go_in)
  go_quiet (fail)
  go_wp2_with (first | (go_at_call 8; refine (eq_pos b off w.heap.size 0 n _ _ xs _ hn HL.out (by exact H3.out _ (by repeat (first | exact Below.refl _ _ | refine below_drewN ?_ _ | refine Below.alloc ?_ (by simp) _))) (by exact H4.out _ (by repeat (first | exact Below.refl _ _ | refine below_drewN ?_ _ | refine Below.alloc ?_ (by simp) _)))).mono ?_; rintro e w' ⟨rfl, nq, rfl⟩) | go_in)
  go_quiet (fail)
  go_wp2
  go_ret
  exact ⟨rfl, hb.trans (Below.mono (B := w1.heap.size) (by repeat (first | exact Below.refl _ _ | refine below_drewN ?_ _ | refine Below.alloc ?_ (by simp) _)) hb.size)⟩

end Go.Proofs.Ybulkebau
