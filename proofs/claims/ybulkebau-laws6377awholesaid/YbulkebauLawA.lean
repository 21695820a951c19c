import Derived.Test.YbulkebauClone
import Derived.Laws.Pointers
import Derived.WalkLawsBesides
namespace Go.Proofs.Ybulkebau
open Go.RowKit
set_option linter.unusedVariables false

theorem big (a0 : Int) (a : Option Addr) (n c : Nat) (w : World) (h : 1048576 < (n : Int)) :
    Calls Yba.prog 3 #[.int .i64 a0, .slice a n c] w fun e w' => e = .returned (.bool true) ∧ Below w.heap.size w w' := by
  go_enter Yba.func3, Yba.ntmps3
  go_wp2
  go_ret
  exact ⟨rfl, Below.refl _ _⟩

set_option maxHeartbeats 800000 in
theorem nil_neg (a0 : Int) (w : World) (h : a0 < 0) (h2 : (a0 == 2) = false) :
    Calls Yba.prog 3 #[.int .i64 a0, .slice none 0 0] w fun e w' => e = .returned (.bool true) ∧ Below w.heap.size w w' := by
  have q22 := q22
  have q26 := q26
  go_enter Yba.func3, Yba.ntmps3
  go_wp2_with (first | (go_at_call 6; refine (clone_nil _).mono ?_; rintro e w' ⟨rfl, rfl⟩) | (go_at_call 8; refine (eq_nil _ _ _ _ _).mono ?_; rintro e w' ⟨rfl, n, rfl⟩) | go_in)
  go_quiet (fail)
  go_wp2_with (first | (go_at_call 8; refine (eq_nil _ _ _ _ _).mono ?_; rintro e w' ⟨rfl, n, rfl⟩) | go_in)
  go_ret
  exact ⟨rfl, by repeat (first | exact Below.refl _ _ | refine below_drewN ?_ _ | refine Below.alloc ?_ (by simp) _)⟩

set_option maxHeartbeats 800000 in
theorem nil_oth (a0 : Int) (w : World) (h : 0 ≤ a0) (hm : a0 ≤ 9223372036854775807) (h2 : (a0 % 5 == 2) = false) :
    Calls Yba.prog 3 #[.int .i64 a0, .slice none 0 0] w fun e w' => e = .returned (.bool true) ∧ Below w.heap.size w w' := by
  have q22 := q22
  have q26 := q26
  go_enter Yba.func3, Yba.ntmps3
  go_wp2_with (first | (go_at_call 6; refine (clone_nil _).mono ?_; rintro e w' ⟨rfl, rfl⟩) | (go_at_call 8; refine (eq_nil _ _ _ _ _).mono ?_; rintro e w' ⟨rfl, n, rfl⟩) | go_in)
  go_quiet (fail)
  go_wp2_with (first | (go_at_call 8; refine (eq_nil _ _ _ _ _).mono ?_; rintro e w' ⟨rfl, n, rfl⟩) | go_in)
  go_ret
  exact ⟨rfl, by repeat (first | exact Below.refl _ _ | refine below_drewN ?_ _ | refine Below.alloc ?_ (by simp) _)⟩

set_option maxHeartbeats 800000 in
theorem nil_two (a0 : Int) (w : World) (h : 0 ≤ a0) (hm : a0 ≤ 9223372036854775807) (h2 : (a0 % 5 == 2) = true) :
    Calls Yba.prog 3 #[.int .i64 a0, .slice none 0 0] w fun e w' => e = .returned (.bool true) ∧ Below w.heap.size w w' := by
  have q22 := q22
  have q26 := q26
  go_enter Yba.func3, Yba.ntmps3
  go_wp2_with (first | (go_at_call 6; refine (clone_nil _).mono ?_; rintro e w' ⟨rfl, rfl⟩) | (go_at_call 8; refine (eq_nil _ _ _ _ _).mono ?_; rintro e w' ⟨rfl, n, rfl⟩) | go_in)
  go_quiet (fail)
  go_wp2_with (first | (go_at_call 8; refine (eq_nil _ _ _ _ _).mono ?_; rintro e w' ⟨rfl, n, rfl⟩) | go_in)
  go_quiet (fail)
  go_wp2
  go_ret
  exact ⟨rfl, by repeat (first | exact Below.refl _ _ | refine below_drewN ?_ _ | refine Below.alloc ?_ (by simp) _)⟩

end Go.Proofs.Ybulkebau
