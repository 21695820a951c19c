import Derived.Test.YbulkebauRows
import Derived.WalkKit
import Derived.WalkSpells
import Derived.RegionTactic
import Derived.Deep.QuietTactic
import Derived.BigQuiet
import Derived.Below
namespace Go.Proofs.Ybulkebau
open Go.RowKit
set_option linter.unusedVariables false

/-- The first 'n' cells behind the address hold the bytes 'xs'. -/
def Bytes (w : World) (a : Option Addr) (n : Nat) (xs : List Int) : Prop :=
  xs.length = n ∧ (n = 0 ∨ ∃ b off, a = some ⟨b, off, none⟩ ∧ ∀ i, i < n → w.cell? ⟨b, off + i, none⟩ = some (.int .u8 (xs.getD i 0)))

theorem drewN_drew (w : World) (n : Nat) : (w.drewN n).drew = w.drewN (n + 1) := by
  rfl

set_option maxHeartbeats 400000 in
theorem eq_nil (a b : Option Addr) (ca cb : Nat) (w : World) :
    Calls Yba.prog 8 #[.slice a 0 ca, .slice b 0 cb] w fun e w' => e = .returned (.bool true) ∧ ∃ n, w' = w.drewN n := by
  go_enter Yba.func8, Yba.ntmps8
  go_wp2
  refine wp_loop_rounds 1 ?_
  rw [rounds_succ]
  go_wp2
  go_ret
  exact ⟨rfl, 0, rfl⟩

set_option maxHeartbeats 400000 in
theorem eq_pos (b1 o1 b2 o2 n c1 c2 : Nat) (xs : List Int) (w : World) (hn : n ≤ 1048576) (hl : xs.length = n)
    (h1 : ∀ i, i < n → w.cell? ⟨b1, o1 + i, none⟩ = some (.int .u8 (xs.getD i 0)))
    (h2 : ∀ i, i < n → w.cell? ⟨b2, o2 + i, none⟩ = some (.int .u8 (xs.getD i 0))) :
    Calls Yba.prog 8 #[.slice (some ⟨b1, o1, none⟩) n c1, .slice (some ⟨b2, o2, none⟩) n c2] w fun e w' => e = .returned (.bool true) ∧ ∃ n, w' = w.drewN n := by
  go_enter Yba.func8, Yba.ntmps8
  go_wp2
  go_loopw [5] (fun i wr => ∃ k q : Nat, k ≤ n ∧ i = .int .i64 k ∧ wr = w.drewN q) (fun i _ => n - (intOf i).toNat)
  case atStart => exact ⟨0, 0, Nat.zero_le _, rfl, rfl⟩
  case round =>
    obtain ⟨k, q, hk, rfl, rfl⟩ := hrel
    by_cases hlt : k < n
    · have g1 := h1 k hlt
      have g2 := h2 k hlt
      have hi : (k : Int) < (n : Int) := by omega
      clear h1 h2
      go_wp2
      go_quiet (fail)
      go_wp2
      go_roundw
      case rel => exact ⟨k + 1, _, by omega, by go_num, rfl⟩
      case measure => simp [intOf]; omega
    · clear h1 h2
      go_wp2
      go_ret
      exact ⟨rfl, q, rfl⟩
end Go.Proofs.Ybulkebau
