import Derived.Test.YbulkebckSlices
import Derived.LaidEqlPtr
import Derived.Lib.Builder
namespace Go.Proofs.Ybulkebck
open Go.RowKit
set_option linter.unusedVariables false

/-! ### the plain law: runs of equal links, read forwards and backwards -/
def fw (f : Nat → Nat) : Nat → List Nat
  | 0 => []
  | k + 1 => if k = 0 ∨ f (k - 1) ≠ f k then fw f k ++ [f k] else fw f k
/-- Behind j steps down from n - 1. -/
def bw (f : Nat → Nat) (n : Nat) : Nat → List Nat
  | 0 => []
  | j + 1 => if j = 0 ∨ f (n - 1 - j) ≠ f (n - j) then bw f n j ++ [f (n - 1 - j)] else bw f n j

theorem fw_succ (f : Nat → Nat) (k : Nat) : fw f (k + 1) = if k = 0 ∨ f (k - 1) ≠ f k then fw f k ++ [f k] else fw f k := rfl
theorem bw_succ (f : Nat → Nat) (n j : Nat) : bw f n (j + 1) = if j = 0 ∨ f (n - 1 - j) ≠ f (n - j) then bw f n j ++ [f (n - 1 - j)] else bw f n j := rfl

theorem fw_last (f : Nat → Nat) (k : Nat) : (fw f (k + 1)).getLast? = some (f k) := by
  induction k with
  | zero => simp [fw]
  | succ k ih =>
    rw [fw_succ f (k + 1)]
    split
    · simp
    · rename_i h
      have e : f k = f (k + 1) := by
        apply Classical.byContradiction
        intro hne
        exact h (.inr (by simpa using hne))
      rw [ih, e]
theorem fw_len (f : Nat → Nat) (k : Nat) : (fw f k).length ≤ k := by
  induction k with
  | zero => simp [fw]
  | succ k ih =>
    rw [fw_succ]
    split
    · simp; omega
    · omega
theorem fw_pos (f : Nat → Nat) (k : Nat) : 0 < (fw f (k + 1)).length := by
  have h := fw_last f k
  cases e : fw f (k + 1) with
  | nil => rw [e] at h; simp at h
  | cons a l => simp
theorem bw_len (f : Nat → Nat) (n j : Nat) : (bw f n j).length ≤ j := by
  induction j with
  | zero => simp [bw]
  | succ j ih =>
    rw [bw_succ]
    split
    · simp; omega
    · omega
theorem bw_one (f : Nat → Nat) (n : Nat) : bw f n 1 = [f (n - 1)] := by simp [bw]
theorem bw_up (f : Nat → Nat) (n j : Nat) (hj : j + 1 ≤ n) : bw f (n + 1) (j + 2) = if n = 0 ∨ f (n - 1) ≠ f n then f n :: bw f n (j + 1) else bw f n (j + 1) := by
  induction j with
  | zero =>
    rw [bw_succ f (n + 1) 1, bw_one, bw_one]
    have h0 : ¬ n = 0 := by omega
    by_cases h : f (n - 1) = f n
    · simp [h0, h]
    · simp [h0, h]
  | succ j ih =>
    have ih := ih (by omega)
    rw [bw_succ f (n + 1) (j + 2), ih, bw_succ f n (j + 1)]
    rw [show n + 1 - 1 - (j + 2) = n - 1 - (j + 1) by omega, show n + 1 - (j + 2) = n - (j + 1) by omega]
    have e0 : ¬ (j + 2 = 0) := by omega
    have e1 : ¬ (j + 1 = 0) := by omega
    simp only [e0, e1, false_or]
    by_cases h1 : f (n - 1 - (j + 1)) = f (n - (j + 1))
    · simp [h1]
    · by_cases h2 : n = 0 ∨ f (n - 1) ≠ f n
      · rw [if_pos h1, if_pos h2, if_pos h2, if_pos h1]; rfl
      · rw [if_pos h1, if_neg h2, if_neg h2, if_pos h1]
theorem bw_rev (f : Nat → Nat) (n : Nat) : bw f n n = (fw f n).reverse := by
  induction n with
  | zero => simp [fw, bw]
  | succ n ih =>
    cases n with
    | zero => simp [fw, bw]
    | succ m =>
      rw [bw_up f (m + 1) m (by omega), ih, fw_succ f (m + 1)]
      by_cases h : m + 1 = 0 ∨ f (m + 1 - 1) ≠ f (m + 1)
      · rw [if_pos h, if_pos h]; simp
      · rw [if_neg h, if_neg h]

/-- The first m of a list, said by its growing: what predecessors has gathered. -/
theorem bw_prefix (f : Nat → Nat) (n j i : Nat) (h : j ≤ i) : ∃ r, bw f n i = bw f n j ++ r := by
  induction i with
  | zero => obtain rfl : j = 0 := by omega
            exact ⟨[], by simp⟩
  | succ i ih =>
    by_cases e : j = i + 1
    · subst e; exact ⟨[], by simp⟩
    · obtain ⟨r, hr⟩ := ih (by omega)
      rw [bw_succ]
      split
      · exact ⟨r ++ [f (n - 1 - i)], by rw [hr]; simp⟩
      · exact ⟨r, hr⟩

/-- The node number j, as a pointer. -/
def nodeV (B j : Nat) : Value := .pointer (some ⟨B + 1 + j, 0, none⟩)

/-- The pool's tables in memory. -/
def NodeAt (W : World) (B j : Nat) : Prop := RowAt W (B + 1 + j) 49 [.int .u64 ((j : Int) * 7 + 1), .int .i64 1, .slice none 0 0, .int .u64 0, .int .i64 0, .int .i64 0, .pointer none]

theorem Yba.info49 : (Yba.prog.info? 49).map (fun i => decide (i.size = 0)) = some false := by kernel_rfl

theorem neq_ptr {W : World} {a b : Addr} {ca cb : Array Value} {ta tb : TypeId} (hne : a ≠ b) (ha : W.heap[a.block]? = some (.cells ca ta (0, 0))) (hb : W.heap[b.block]? = some (.cells cb tb (0, 0))) :
    (binOp .neq 44 (.pointer (some a)) (.pointer (some b))).run Yba.prog W = .ok (.bool true) W := by
  obtain ⟨j, hte, hsz⟩ := Option.map_eq_some_iff.1 Yba.info49
  have hsz' : j.size ≠ 0 := by simpa using hsz
  have h : ∀ d : Nat, (Op.equalIn (d + 1) 44 (.pointer (some a)) (.pointer (some b))).run Yba.prog W = .ok false W := fun d => by
    simp [Op.equalIn, run_underlying Yba.underlying44, sizeOf, typeInfo, hte, hsz', run_sameAddr_other W hne ha hb]
  simp only [binOp]
  simp [Op.equal, Op.maxDepth, h 9999]

theorem neq_ptr_same (W : World) (a : Addr) : (binOp .neq 44 (.pointer (some a)) (.pointer (some a))).run Yba.prog W = .ok (.bool false) W := by
  obtain ⟨j, hte, hsz⟩ := Option.map_eq_some_iff.1 Yba.info49
  exact Lib.run_neq_ptr_same W a Yba.underlying44 hte

/-- '!=' between two nodes of the pool. -/
theorem neq_nodes {W : World} {B i j : Nat} (hi : NodeAt W B i) (hj : NodeAt W B j) :
    (binOp .neq 44 (.pointer (some ⟨B + 1 + i, 0, none⟩)) (.pointer (some ⟨B + 1 + j, 0, none⟩))).run Yba.prog W = .ok (.bool (!(i == j))) W := by
  by_cases h : i = j
  · subst h
    rw [neq_ptr_same]; simp
  · have hb : (i == j) = false := beq_eq_false_iff_ne.2 h
    rw [hb]
    exact neq_ptr (by intro e; injection e with e1; omega) hi hj

set_option maxHeartbeats 400000 in
theorem new_any (o : Int) (w : World) :
    Calls Yba.prog 10 #[.int .u64 o, .int .i64 1] w fun e w' => e = .returned (.pointer (some ⟨w.heap.size, 0, none⟩)) ∧ w' = w.alloc (.cells #[.int .u64 o, .int .i64 1, .slice none 0 0, .int .u64 0, .int .i64 0, .int .i64 0, .pointer none] 49) := by
  go_enter Yba.func10, Yba.ntmps10
  go_wp2
  go_ret
  exact ⟨rfl, rfl⟩
end Go.Proofs.Ybulkebck
