import Derived.Test.YbulkebckZone
import Derived.Deep.OwnRows
import Derived.Lib.SliceRun
namespace Go.Proofs.Ybulkebck
open Go.RowKit
set_option linter.unusedVariables false

def RowAt (w : World) (g : Nat) (e : TypeId) (cs : List Value) : Prop := w.heap[g]? = some (.cells cs.toArray e (0, 0))
theorem RowAt.cell {w : World} {g : Nat} {e : TypeId} {cs : List Value} (h : RowAt w g e cs) (i : Nat) : w.cell? ⟨g, i, none⟩ = cs[i]? := by
  rw [cell_of_row w g i cs.toArray e (0, 0) h]
  simp
theorem RowAt.free {w : World} {g : Nat} {e : TypeId} {cs : List Value} (h : RowAt w g e cs) (i : Nat) : w.frozen? ⟨g, i, none⟩ = false :=
  frozen_of_row w g i cs.toArray e h
theorem RowAt.lt {w : World} {g : Nat} {e : TypeId} {cs : List Value} (h : RowAt w g e cs) : g < w.heap.size := by
  unfold RowAt at h
  exact (Array.getElem?_eq_some_iff.1 h).1
theorem RowAt.set {w : World} {g : Nat} {e : TypeId} {cs : List Value} (h : RowAt w g e cs) (i : Nat) (u : Value) : RowAt (w.setCell ⟨g, i, none⟩ u) g e (cs.set i u) := by
  have := heap_setCell_same w g i cs.toArray e u h
  unfold RowAt
  rw [this]
  simp
theorem RowAt.other {w : World} {g : Nat} {e : TypeId} {cs : List Value} (h : RowAt w g e cs) {p : Addr} (hp : g ≠ p.block) (u : Value) : RowAt (w.setCell p u) g e cs := by
  unfold RowAt
  rw [Below.heap_setCell _ _ _ _ hp]
  exact h
theorem RowAt.new (w : World) (e : TypeId) (cs : Array Value) : RowAt (w.alloc (.cells cs e)) w.heap.size e cs.toList := by
  unfold RowAt
  rw [heap_alloc_new]
theorem RowAt.alloc {w : World} {g : Nat} {e : TypeId} {cs : List Value} (h : RowAt w g e cs) (o : Obj) : RowAt (w.alloc o) g e cs := by
  unfold RowAt
  rw [Below.heap_alloc _ _ _ h.lt]
  exact h
theorem RowAt.kept {w w' : World} {B g : Nat} {e : TypeId} {cs : List Value} (h : RowAt w g e cs) (hb : Below B w w') (hg : g < B) : RowAt w' g e cs := by
  unfold RowAt
  rw [hb.block g hg]
  exact h

/-- Zone i: position, next, group, size. -/
structure Zs where
  p : Nat → Int
  n : Nat → Int
  g : Nat → Int
  s : Nat → Int

/-- The first n zones of a row of Go's type Zone. -/
def ZRow (w : World) (b n : Nat) (z : Zs) : Prop := ∀ i, i < n → w.cell? ⟨b, i * 4, none⟩ = some (.int .u64 (z.p i)) ∧ w.cell? ⟨b, i * 4 + 1, none⟩ = some (.int .u32 (z.g i)) ∧ w.cell? ⟨b, i * 4 + 2, none⟩ = some (.int .i64 (z.s i)) ∧ w.cell? ⟨b, i * 4 + 3, none⟩ = some (.int .u64 (z.n i))

theorem ZRow.kept {w w' : World} {B b n : Nat} {z : Zs} (h : ZRow w b n z) (hb : Below B w w') (hB : b < B) : ZRow w' b n z := fun i hi => by
  rw [hb.cell (p := ⟨b, i * 4, none⟩) hB, hb.cell (p := ⟨b, i * 4 + 1, none⟩) hB, hb.cell (p := ⟨b, i * 4 + 2, none⟩) hB, hb.cell (p := ⟨b, i * 4 + 3, none⟩) hB]
  exact h i hi

/-- The ParentTable in memory. -/
def PT (w : World) (t : Nat) (op og os on base : Int) (par : Value) (lead : Int) : Prop := RowAt w t 36 [.int .u64 op, .int .u32 og, .int .i64 os, .int .u64 on, .int .u64 base, par, .slice none 0 0, .int .u64 lead]

set_option maxHeartbeats 800000 in
theorem tip_none (t : Nat) (op og os on base lead : Int) (pa : Option Addr) (w : World) (h : PT w t op og os on base (.slice pa 0 0) lead) :
    Calls Yba.prog 7 #[.pointer (some ⟨t, 0, none⟩)] w fun e w' => e = .returned (.tuple #[.int .u64 0, .bool false]) ∧ w = w' := by
  have c5 : w.cell? ⟨t, 5, none⟩ = some (.slice pa 0 0) := h.cell 5
  clear h
  go_enter Yba.func7, Yba.ntmps7
  go_wp2
  go_ret2
  exact ⟨rfl, rfl⟩

/-- What Tip finds, going down from zone k - 1. -/
def tipDown (z : Zs) (st d : Int) : Nat → Int
  | 0 => d
  | k + 1 => if conB (z.p k) (z.n k) st = true then z.p k else tipDown z st d k
theorem tipDown_hit {z : Zs} {st d : Int} {k : Nat} (h : conB (z.p k) (z.n k) st = true) : tipDown z st d (k + 1) = z.p k := by simp only [tipDown]; rw [if_pos h]
theorem tipDown_miss {z : Zs} {st d : Int} {k : Nat} (h : conB (z.p k) (z.n k) st = false) : tipDown z st d (k + 1) = tipDown z st d k := by simp only [tipDown]; rw [if_neg (by rw [h]; simp)]

theorem down_i (j : Nat) : (j = 0 ∧ Value.int .i64 ((j : Int) - 1) = .int .i64 (-1)) ∨ ∃ i : Nat, j = i + 1 ∧ Value.int .i64 ((j : Int) - 1) = .int .i64 (i : Int) := by
  cases j with
  | zero => exact .inl ⟨rfl, rfl⟩
  | succ i => exact .inr ⟨i, rfl, by congr 1; omega⟩

set_option maxHeartbeats 1600000 in
theorem tip_some (t b n : Nat) (op og os on base lead : Int) (z : Zs) (w : World) (hn0 : 0 < n) (hn : n ≤ 1048576) (h : PT w t op og os on base (.slice (some ⟨b, 0, none⟩) n n) lead) (hb : b < w.heap.size) (hz : ZRow w b n z) :
    Calls Yba.prog 7 #[.pointer (some ⟨t, 0, none⟩)] w fun e w' => e = .returned (.tuple #[.int .u64 (tipDown z (IntKind.u64.wrap (on * base)) (z.n (n - 1)) n), .bool true]) ∧ Below w.heap.size w w' := by
  have c3 : w.cell? ⟨t, 3, none⟩ = some (.int .u64 on) := h.cell 3
  have c4 : w.cell? ⟨t, 4, none⟩ = some (.int .u64 base) := h.cell 4
  have c5 : w.cell? ⟨t, 5, none⟩ = some (.slice (some ⟨b, 0, none⟩) n n) := h.cell 5
  have HT : Hid (PT w t op og os on base (.slice (some ⟨b, 0, none⟩) n n) lead) := h
  have HZ : Hid (ZRow w b n z) := hz
  have hne : ((n : Int) == 0) = false := beq_eq_false_iff_ne.2 (by omega)
  clear h hz
  go_enter Yba.func7, Yba.ntmps7
  go_wp2
  go_quiet (fail)
  obtain ⟨st, hst⟩ : ∃ st, st = IntKind.u64.wrap (on * base) := ⟨_, rfl⟩
  rw [← hst]
  have HS : Hid (st = IntKind.u64.wrap (on * base)) := hst
  clear hst c3 c4
  go_wp2
  clear c5
  go_loopw [5] (fun i wr => (∃ k : Nat, k ≤ n ∧ ((k = 0 ∧ i = .int .i64 (-1)) ∨ ∃ j, k = j + 1 ∧ i = .int .i64 (j : Nat)) ∧ tipDown z st (z.n (n - 1)) n = tipDown z st (z.n (n - 1)) k) ∧ Below w.heap.size w wr) (fun i _ => (intOf i + 1).toNat)
  case atStart =>
    exact ⟨⟨n, Nat.le_refl _, .inr ⟨n - 1, by omega, by go_num⟩, rfl⟩, below_drewN (Below.refl _ _) _⟩
  case round =>
    obtain ⟨⟨k, hk, hi, htip⟩, hbel⟩ := hrel
    have HTK : Hid (tipDown z st (z.n (n - 1)) n = tipDown z st (z.n (n - 1)) k) := htip
    have c5 : wr.cell? ⟨t, 5, none⟩ = some (.slice (some ⟨b, 0, none⟩) n n) := (HT.out.kept hbel HT.out.lt).cell 5
    clear htip
    rcases hi with ⟨rfl, rfl⟩ | ⟨j, rfl, rfl⟩
    · obtain ⟨zp, zg, zs, zn⟩ := HZ.out (n - 1) (by omega)
      have zn' : wr.cell? ⟨b, (n - 1) * 4 + 3, none⟩ = some (.int .u64 (z.n (n - 1))) := (hbel.cell (p := ⟨b, (n - 1) * 4 + 3, none⟩) hb).trans zn
      clear zp zg zs zn
      have hm0 : (0 : Int) ≤ (n : Int) - 1 := by omega
      have hm1 : (n : Int) - 1 < (n : Int) := by omega
      have hm2 : ((n : Int) - 1).toNat = n - 1 := by omega
      have HB : Hid (Below w.heap.size w wr) := hbel
      clear hbel
      go_wp2
      go_quiet (fail)
      go_wp2
      go_ret2
      exact ⟨by rw [← HS.out, HTK.out]; rfl, below_drewN HB.out _⟩
    · obtain ⟨zp, zg, zs, zn⟩ := (HZ.out.kept hbel hb) j (by omega)
      have hjn : (j : Int) < (n : Int) := by omega
      have HB : Hid (Below w.heap.size w wr) := hbel
      have HTW : Hid (t < wr.heap.size) := Nat.lt_of_lt_of_le HT.out.lt hbel.size
      have HBW : Hid (b < wr.heap.size) := Nat.lt_of_lt_of_le hb hbel.size
      clear hbel
      cases hc : conB (z.p j) (z.n j) st
      · have HC : Hid (tipDown z st (z.n (n - 1)) (j + 1) = tipDown z st (z.n (n - 1)) j) := tipDown_miss hc
        have HCc : Hid (conB (z.p j) (z.n j) st = false) := hc
        clear hc
        go_wp2_with (first | (go_at_call 14; refine (span_any _ _ _ _ _).mono ?_; rintro e w1 ⟨rfl, hb1⟩) | (go_at_call 15; refine (contains_any _ _ _ _).mono ?_; rintro e w2 ⟨rfl, hb2⟩; rw [HCc.out]))
        go_roundw
        case rel => exact ⟨⟨j, by omega, down_i j, by rw [HTK.out, HC.out]⟩, HB.out.trans ((hb1.trans (hb2.mono hb1.size)).mono HB.out.size)⟩
        case measure => simp [intOf]
      · have HC : Hid (tipDown z st (z.n (n - 1)) (j + 1) = z.p j) := tipDown_hit hc
        have HCc : Hid (conB (z.p j) (z.n j) st = true) := hc
        clear hc
        go_wp2_with (first | (go_at_call 14; refine (span_any _ _ _ _ _).mono ?_; rintro e w1 ⟨rfl, hb1⟩) | (go_at_call 15; refine (contains_any _ _ _ _).mono ?_; rintro e w2 ⟨rfl, hb2⟩; rw [HCc.out]; have hb3 := hb1.trans (hb2.mono hb1.size); have d5 := (hb3.cell (p := ⟨t, 5, none⟩) HTW.out).trans c5; have dp := (hb3.cell (p := ⟨b, j * 4, none⟩) HBW.out).trans zp))
        go_ret2
        exact ⟨by rw [← HS.out, HTK.out, HC.out]; rfl, HB.out.trans ((hb1.trans (hb2.mono hb1.size)).mono HB.out.size)⟩
end Go.Proofs.Ybulkebck
