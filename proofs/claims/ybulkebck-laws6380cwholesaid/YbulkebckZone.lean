import Derived.Test.YbulkebckRows
import Derived.WalkKit
import Derived.WalkSpells
import Derived.WalkLawsBesides
import Derived.RegionTactic
import Derived.Deep.QuietTactic
import Derived.BigQuiet
import Derived.Below
import Derived.OneCell
import Derived.WalkSmall
namespace Go.Proofs.Ybulkebck
open Go.RowKit
set_option linter.unusedVariables false

/-- How far q lies clockwise from p. -/
def dst (p q : Int) : Int := IntKind.u64.wrap (q - p)
/-- Whether k lies in the zone from p up to n: as the Go text of ring reckons. -/
def conB (p n k : Int) : Bool := (p == n) || decide (dst p k < dst p n)
/-- .. as the law's own model reckons. -/
def conZ (p n k : Int) : Bool := if p = n then true else if p < n then decide (p ≤ k) && decide (k < n) else decide (p ≤ k) || decide (k < n)

theorem dst_eq (p q : Int) (hp0 : 0 ≤ p) (hp : p < 18446744073709551616) (hq0 : 0 ≤ q) (hq : q < 18446744073709551616) : dst p q = if p ≤ q then q - p else q - p + 18446744073709551616 := by
  unfold dst
  simp only [IntKind.wrap_u64]
  split <;> omega

theorem con_eq (p n k : Int) (hp0 : 0 ≤ p) (hp : p < 18446744073709551616) (hn0 : 0 ≤ n) (hn : n < 18446744073709551616) (hk0 : 0 ≤ k) (hk : k < 18446744073709551616) : conB p n k = conZ p n k := by
  unfold conB conZ
  rw [dst_eq p k hp0 hp hk0 hk, dst_eq p n hp0 hp hn0 hn]
  by_cases h : p = n
  · simp [h]
  · have hb : (p == n) = false := beq_eq_false_iff_ne.2 h
    rw [hb, if_neg h, Bool.false_or]
    by_cases h1 : p < n
    · rw [if_pos h1]
      rw [if_pos (show p ≤ n by omega)]
      by_cases h2 : p ≤ k
      · rw [if_pos h2]; simp [h2] <;> omega
      · rw [if_neg h2]; simp [h2] <;> omega
    · rw [if_neg h1, if_neg (show ¬ p ≤ n by omega)]
      by_cases h2 : p ≤ k
      · rw [if_pos h2]; simp [h2] <;> omega
      · rw [if_neg h2]; simp [h2]

theorem dist_any (p q : Int) (w : World) :
    Calls Yba.prog 18 #[.int .u64 p, .int .u64 q] w fun e w' => e = .returned (.int .u64 (dst p q)) ∧ w = w' := by
  go_enter Yba.func18, Yba.ntmps18
  go_wp2
  go_ret
  exact ⟨rfl, rfl⟩

set_option maxHeartbeats 400000 in
theorem zone_any (p q : Int) (w : World) :
    Calls Yba.prog 17 #[.int .u64 p, .int .u64 q] w fun e w' => e = .returned (.agg #[.int .u64 p, .int .u64 (dst p q), .bool (p == q)]) ∧ Below w.heap.size w w' := by
  go_enter Yba.func17, Yba.ntmps17
  go_wp2_with (go_at_call 18; refine (dist_any _ _ _).mono ?_; rintro e w' ⟨rfl, rfl⟩)
  exact bodyPost_ret (v := .agg #[.int .u64 p, .int .u64 (dst p q), .bool (p == q)]) (by simp [results, Yba.results17, go_sem]) rfl ⟨rfl, (Below.refl _ _).alloc (Nat.le_refl _) _⟩

theorem bcell {W w1 : World} (hb : Below W.heap.size W w1) : (∀ b o, b < W.heap.size → w1.cell? ⟨b, o, none⟩ = W.cell? ⟨b, o, none⟩) ∧ (∀ b o, b < W.heap.size → w1.frozen? ⟨b, o, none⟩ = W.frozen? ⟨b, o, none⟩) :=
  ⟨fun b o h => hb.cell (p := ⟨b, o, none⟩) h, fun b o h => hb.frozen (p := ⟨b, o, none⟩) h⟩

set_option maxHeartbeats 400000 in
theorem span_any (p g s n : Int) (w : World) :
    Calls Yba.prog 14 #[.agg #[.int .u64 p, .int .u32 g, .int .i64 s, .int .u64 n]] w fun e w' => e = .returned (.agg #[.int .u64 p, .int .u64 (dst p n), .bool (p == n)]) ∧ Below w.heap.size w w' := by
  go_enter Yba.func14, Yba.ntmps14
  go_wp2_with (go_at_call 17; refine (zone_any _ _ _).mono ?_; rintro e w1 ⟨rfl, hb⟩; obtain ⟨hc, hf⟩ := bcell hb; have hz : w.heap.size + 1 < w1.heap.size := (by have := hb.size; simp at this; omega))
  exact bodyPost_ret (v := .agg #[.int .u64 p, .int .u64 (dst p n), .bool (p == n)]) (by simp [results, Yba.results14, go_sem, hc]) rfl ⟨rfl, (by
    have h0 : Below w.heap.size w w1 := (((Below.refl _ _).alloc (Nat.le_refl _) _).alloc (by simp) _).trans (hb.mono (by simp; omega))
    exact ((h0.setCell (by simp) _).setCell (by simp) _).setCell (by simp) _)⟩

set_option maxHeartbeats 400000 in
theorem contains_whole (p l k : Int) (w : World) :
    Calls Yba.prog 15 #[.agg #[.int .u64 p, .int .u64 l, .bool true], .int .u64 k] w fun e w' => e = .returned (.bool true) ∧ Below w.heap.size w w' := by
  go_enter Yba.func15, Yba.ntmps15
  go_wp2
  go_quiet (fail)
  go_wp2
  go_ret
  exact ⟨rfl, by repeat (first | exact Below.refl _ _ | refine below_drewN ?_ _ | refine Below.alloc ?_ (by simp) _)⟩

set_option maxHeartbeats 400000 in
theorem contains_part (p l k : Int) (w : World) :
    Calls Yba.prog 15 #[.agg #[.int .u64 p, .int .u64 l, .bool false], .int .u64 k] w fun e w' => e = .returned (.bool (decide (dst p k < l))) ∧ Below w.heap.size w w' := by
  go_enter Yba.func15, Yba.ntmps15
  go_wp2
  go_quiet ((go_at_call 18; exact Calls.quiet_of_same ((dist_any _ _ _).mono (fun e w' h => ⟨h.1, h.2.symm⟩))))
  go_wp2
  go_ret
  exact ⟨rfl, by repeat (first | exact Below.refl _ _ | refine below_drewN ?_ _ | refine Below.alloc ?_ (by simp) _)⟩

/-- (span).contains, of a zone's span. -/
theorem contains_any (p n k : Int) (w : World) :
    Calls Yba.prog 15 #[.agg #[.int .u64 p, .int .u64 (dst p n), .bool (p == n)], .int .u64 k] w fun e w' => e = .returned (.bool (conB p n k)) ∧ Below w.heap.size w w' := by
  unfold conB
  cases h : (p == n)
  · rw [Bool.false_or]; exact contains_part p _ k w
  · rw [Bool.true_or]; exact contains_whole p _ k w

set_option maxHeartbeats 400000 in
theorem zz_any (p n k : Int) (w : World) :
    Calls Yba.prog 8 #[.int .u64 p, .int .u64 n, .int .u64 k] w fun e w' => e = .returned (.bool (conZ p n k)) ∧ w = w' := by
  unfold conZ
  by_cases h : p = n
  · have hb : (p == n) = true := beq_iff_eq.2 h
    rw [if_pos h]
    clear h
    go_enter Yba.func8, Yba.ntmps8
    go_wp2
    go_ret
    exact ⟨rfl, rfl⟩
  · have hb : (p == n) = false := beq_eq_false_iff_ne.2 h
    rw [if_neg h]
    clear h
    by_cases h1 : p < n
    · rw [if_pos h1]
      by_cases h2 : p ≤ k
      · have e : (decide (p ≤ k) && decide (k < n)) = decide (k < n) := by simp [h2]
        rw [e]
        go_enter Yba.func8, Yba.ntmps8
        go_wp2
        go_ret
        exact ⟨rfl, rfl⟩
      · have e : (decide (p ≤ k) && decide (k < n)) = false := by simp [h2]
        rw [e]
        go_enter Yba.func8, Yba.ntmps8
        go_wp2
        go_ret
        exact ⟨rfl, rfl⟩
    · rw [if_neg h1]
      by_cases h2 : p ≤ k
      · have e : (decide (p ≤ k) || decide (k < n)) = true := by simp [h2]
        rw [e]
        go_enter Yba.func8, Yba.ntmps8
        go_wp2
        go_ret
        exact ⟨rfl, rfl⟩
      · have e : (decide (p ≤ k) || decide (k < n)) = decide (k < n) := by simp [h2]
        rw [e]
        go_enter Yba.func8, Yba.ntmps8
        go_wp2
        go_ret
        exact ⟨rfl, rfl⟩
end Go.Proofs.Ybulkebck
