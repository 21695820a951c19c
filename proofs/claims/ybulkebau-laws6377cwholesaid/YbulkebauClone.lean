import Derived.Test.YbulkebauEq
import Derived.Deep.OwnRows
import Derived.OneCell
import Derived.Lib.SliceRun
namespace Go.Proofs.Ybulkebau
open Go.RowKit
set_option linter.unusedVariables false

/-- Block 'g' is a row of cells 'cs' of element type 'e', none of it frozen. -/
def RowAt (w : World) (g : Nat) (e : TypeId) (cs : List Value) : Prop := w.heap[g]? = some (.cells cs.toArray e (0, 0))

theorem RowAt.cell {w : World} {g : Nat} {e : TypeId} {cs : List Value} (h : RowAt w g e cs) (i : Nat) : w.cell? ⟨g, i, none⟩ = cs[i]? := by
  rw [cell_of_row w g i cs.toArray e (0, 0) h]
  simp
theorem RowAt.free {w : World} {g : Nat} {e : TypeId} {cs : List Value} (h : RowAt w g e cs) (i : Nat) : w.frozen? ⟨g, i, none⟩ = false :=
  frozen_of_row w g i cs.toArray e h
theorem RowAt.lt {w : World} {g : Nat} {e : TypeId} {cs : List Value} (h : RowAt w g e cs) : g < w.heap.size := by
  unfold RowAt at h
  exact (Array.getElem?_eq_some_iff.1 h).1
theorem RowAt.set {w : World} {g : Nat} {e : TypeId} {cs : List Value} (h : RowAt w g e cs) (i : Nat) (u : Value) : RowAt (w.setCell ⟨g, i, none⟩ u) g e (cs.set i u) := by
  have := heap_setCell_same w g i cs.toArray e u h
  unfold RowAt
  rw [this]
  simp
theorem RowAt.new (w : World) (e : TypeId) (cs : Array Value) : RowAt (w.alloc (.cells cs e)) w.heap.size e cs.toList := by
  unfold RowAt
  rw [heap_alloc_new]
theorem RowAt.kept {w w' : World} {B g : Nat} {e : TypeId} {cs : List Value} (h : RowAt w g e cs) (hb : Below B w w') (hg : g < B) : RowAt w' g e cs := by
  unfold RowAt
  rw [hb.block g hg]
  exact h

theorem Yba.info5 : (Yba.prog.info? 5).map (fun i => (i.zero, i.size, i.bytes)) = some (some (.int .u8 0), 1, 1) := by kernel_rfl

theorem set_get (cs : List Value) (k : Nat) (u : Value) (f : Nat → Value) (hk : k < cs.length) (h : ∀ i, i < k → cs[i]? = some (f i)) (hu : u = f k) :
    ∀ i, i < k + 1 → (cs.set k u)[i]? = some (f i) := by
  intro i hi
  by_cases e : i = k
  · subst e; rw [List.getElem?_set_self hk, hu]
  · rw [List.getElem?_set_ne (by omega)]; exact h i (by omega)

theorem q22 : ∀ (w : World) (a : Option Addr) (n c n' c' : Nat), (binOp .eql 22 (.slice a n c) (.slice none n' c')).run Yba.prog w = .ok (.bool a.isNone) w := fun w a n c n' c' => Lib.run_eql_slice_nil w _ _ a n c n' c' Yba.underlying22
theorem q26 : ∀ (w : World) (a : Option Addr) (n c n' c' : Nat), (binOp .eql 26 (.slice a n c) (.slice none n' c')).run Yba.prog w = .ok (.bool a.isNone) w := fun w a n c n' c' => Lib.run_eql_slice_nil w _ _ a n c n' c' Yba.underlying26

set_option maxHeartbeats 400000 in
theorem clone_nil (w : World) :
    Calls Yba.prog 6 #[.slice none 0 0] w fun e w' => e = .returned (.slice none 0 0) ∧ w = w' := by
  have q22 := q22
  go_enter Yba.func6, Yba.ntmps6
  go_wp2
  go_ret
  exact ⟨rfl, rfl⟩

set_option maxHeartbeats 400000 in
theorem clone_empty (x : Addr) (c : Nat) (w : World) :
    Calls Yba.prog 6 #[.slice (some x) 0 c] w fun e w' => e = .returned (.slice (some ⟨w.heap.size, 0, none⟩) 0 0) ∧ Below w.heap.size w w' ∧
      w'.heap.size = w.heap.size + 1 := by
  have q22 := q22
  have hmk := run_make_row' (P := Yba.prog) 22 5 (.int .u8 0) 1 Yba.underlying22 Yba.info5 rfl .i64 .i64 0 (by omega) (by omega)
  simp only [Int.natCast_zero] at hmk
  go_enter Yba.func6, Yba.ntmps6
  go_wp2
  refine wp_loop_rounds 1 ?_
  rw [rounds_succ]
  go_wp2
  go_ret
  exact ⟨rfl, (Below.refl _ _).alloc (Nat.le_refl _) _, by simp⟩

set_option maxHeartbeats 400000 in
theorem clone_some (b off n c : Nat) (xs : List Int) (w : World) (hn : n ≤ 1048576) (hl : xs.length = n) (hb : b < w.heap.size)
    (h1 : ∀ i, i < n → w.cell? ⟨b, off + i, none⟩ = some (.int .u8 (xs.getD i 0))) :
    Calls Yba.prog 6 #[.slice (some ⟨b, off, none⟩) n c] w fun e w' => e = .returned (.slice (some ⟨w.heap.size, 0, none⟩) n n) ∧ Below w.heap.size w w' ∧
      w'.heap.size = w.heap.size + 1 ∧ ∀ i, i < n → w'.cell? ⟨w.heap.size, i, none⟩ = some (.int .u8 (xs.getD i 0)) := by
  have q22 := q22
  have hmk := run_make_row' (P := Yba.prog) 22 5 (.int .u8 0) 1 Yba.underlying22 Yba.info5 rfl .i64 .i64 n (by omega) (by omega)
  go_enter Yba.func6, Yba.ntmps6
  go_wp2
  clear hmk q22
  go_loopw [4] (fun i wr => ∃ (k : Nat) (cs : List Value), k ≤ n ∧ i = .int .i64 k ∧ RowAt wr w.heap.size 5 cs ∧ cs.length = n ∧ (∀ i, i < k → cs[i]? = some (.int .u8 (xs.getD i 0))) ∧ Below w.heap.size w wr ∧ wr.heap.size = w.heap.size + 1) (fun i _ => n - (intOf i).toNat)
  case atStart => exact ⟨0, _, Nat.zero_le _, rfl, RowAt.new _ _ _, by rw [toList_madeCells_one]; simp, by intro i hi; omega, (Below.refl _ _).alloc (Nat.le_refl _) _, by simp⟩
  case round =>
    obtain ⟨k, cs, hk, rfl, hrow, hcl, hget, hbel, hsz⟩ := hrel
    by_cases hlt : k < n
    · have g1' : wr.cell? ⟨b, off + k, none⟩ = some (.int .u8 (xs.getD k 0)) := (hbel.cell (p := ⟨b, off + k, none⟩) hb).trans (h1 k hlt)
      obtain ⟨z, hz⟩ : ∃ z, z = xs.getD k 0 := ⟨_, rfl⟩
      have g1 : wr.cell? ⟨b, off + k, none⟩ = some (.int .u8 z) := by rw [hz]; exact g1'
      obtain ⟨u, hu⟩ : ∃ u, cs[k]? = some u := ⟨_, List.getElem?_eq_getElem (by omega)⟩
      have g2 : wr.cell? ⟨w.heap.size, k, none⟩ = some u := (hrow.cell k).trans hu
      have g3 : wr.frozen? ⟨w.heap.size, k, none⟩ = false := hrow.free k
      have R1 : Hid (RowAt (wr.setCell ⟨w.heap.size, k, none⟩ (.int .u8 z)) w.heap.size 5 (cs.set k (.int .u8 z))) := hrow.set k _
      have R2 : Hid (∀ i, i < k + 1 → (cs.set k (.int .u8 z))[i]? = some (.int .u8 (xs.getD i 0))) := set_get cs k _ (fun i => .int .u8 (xs.getD i 0)) (by omega) hget (by rw [hz])
      have R3 : Hid (Below w.heap.size w (wr.setCell ⟨w.heap.size, k, none⟩ (.int .u8 z))) := hbel.setCell (Nat.le_refl _) _
      have R4 : Hid (wr.heap.size = w.heap.size + 1) := hsz
      have R5 : Hid (cs.length = n) := hcl
      clear hrow hget hbel hu hsz hcl h1 g1' hz
      go_wp2
      go_roundw
      case rel => exact ⟨k + 1, _, by omega, by go_num, R1.out, by simp [R5.out], R2.out, R3.out, by simp [R4.out]⟩
      case measure => simp [intOf]; omega
    · clear h1
      have R1 : Hid (Below w.heap.size w wr) := hbel
      have R2 : Hid (∀ i, i < n → wr.cell? ⟨w.heap.size, i, none⟩ = some (.int .u8 (xs.getD i 0))) := fun i hi => (hrow.cell i).trans (hget i (by omega))
      have R4 : Hid (wr.heap.size = w.heap.size + 1) := hsz
      clear hrow hget hbel hsz hcl
      go_wp2
      go_ret
      exact ⟨rfl, R1.out, R4.out, R2.out⟩
end Go.Proofs.Ybulkebau
