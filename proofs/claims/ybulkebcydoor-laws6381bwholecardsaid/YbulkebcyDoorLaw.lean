import Derived.Test.YbulkebcyDoorDec
namespace Go.Proofs.YbulkebcyDoor
open Go.RowKit Go.Lib
set_option linter.unusedVariables false

theorem zz_any (u : Nat) (hu64 : u < 18446744073709551616) (w : World) :
    Calls Ybad.prog 6 #[.int .u64 u] w fun e w' => e = .returned (.string ⟨(decDigits u).toArray⟩) ∧ Below w.heap.size w w' := by
  by_cases h : u = 0
  · subst h
    refine (zz_zero w).mono ?_
    rintro e w' ⟨rfl, rfl⟩
    exact ⟨by rw [decDigits_one (by omega)]; rfl, Below.refl _ _⟩
  · exact zz_pos u (by omega) hu64 w

theorem law_nil (w : World) : Calls Ybad.prog 3 #[.pointer none] w fun e w' => e = .returned (.bool true) ∧ Below w.heap.size w w' := by
  go_enter Ybad.func3, Ybad.ntmps3
  go_wp2_with (go_at_call 5; refine (number_nil _).mono ?_; rintro e w' ⟨rfl, rfl⟩)
  go_ret
  exact ⟨rfl, Below.refl _ _⟩

set_option maxHeartbeats 800000 in
theorem law_some (b off u : Nat) (hu64 : u < 18446744073709551616) (w : World) (hc : w.cell? ⟨b, off, none⟩ = some (.int .u64 u)) (hb : b < w.heap.size) (htab : TabIs Ybad.prog w Ybad.tabName .u64 pow10Tab) :
    Calls Ybad.prog 3 #[.pointer (some ⟨b, off, none⟩)] w fun e w' => e = .returned (.bool true) ∧ Below w.heap.size w w' := by
  have HT : Go.RowKit.Hid (TabIs Ybad.prog w Ybad.tabName .u64 pow10Tab) := htab
  clear htab
  go_enter Ybad.func3, Ybad.ntmps3
  go_wp2_with (first
    | (go_at_call 5; refine (number_some b off u hu64 w hc HT.out).mono ?_; rintro e w1 ⟨rfl, hb1⟩)
    | (go_at_call 6; refine (zz_any u hu64 _).mono ?_; rintro e w2 ⟨rfl, hb2⟩; have hb3 := hb1.trans (hb2.mono hb1.size); have hc2 := (hb3.cell (p := ⟨b, off, none⟩) hb).trans hc))
  go_ret
  exact ⟨rfl, hb1.trans (hb2.mono hb1.size)⟩
end Go.Proofs.YbulkebcyDoor
