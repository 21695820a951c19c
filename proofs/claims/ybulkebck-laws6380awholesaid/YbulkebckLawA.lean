import Derived.Test.YbulkebckSlices
import Derived.Deep.RegionHeld3
namespace Go.Proofs.Ybulkebck
open Go.RowKit
set_option linter.unusedVariables false

set_option maxRecDepth 100000 in
theorem bigA (a0 a1 a2 a3 a4 a6 : Int) (pa : Option Addr) (n c : Nat) (w : World) (h : 1048576 < (n : Int)) :
    Calls Yba.prog 3 #[.int .u64 a0, .int .u64 a1, .int .u64 a2, .int .u32 a3, .int .i64 a4, .slice pa n c, .int .u64 a6] w fun e w' => e = .returned (.bool true) ∧ Below w.heap.size w w' := by
  go_enter Yba.func3, Yba.ntmps3
  go_wp2
  go_ret
  exact ⟨rfl, Below.refl _ _⟩

/-- The zones as the law gets them: position, next, group, size. -/
def PRow (w : World) (b o n : Nat) (z : Zs) : Prop := ∀ i, i < n → w.cell? ⟨b, o + i * 4, none⟩ = some (.int .u64 (z.p i)) ∧ w.cell? ⟨b, o + i * 4 + 1, none⟩ = some (.int .u64 (z.n i)) ∧ w.cell? ⟨b, o + i * 4 + 2, none⟩ = some (.int .u32 (z.g i)) ∧ w.cell? ⟨b, o + i * 4 + 3, none⟩ = some (.int .i64 (z.s i))
theorem PRow.kept {w w' : World} {B b o n : Nat} {z : Zs} (h : PRow w b o n z) (hb : Below B w w') (hB : b < B) : PRow w' b o n z := fun i hi => by
  rw [hb.cell (p := ⟨b, o + i * 4, none⟩) hB, hb.cell (p := ⟨b, o + i * 4 + 1, none⟩) hB, hb.cell (p := ⟨b, o + i * 4 + 2, none⟩) hB, hb.cell (p := ⟨b, o + i * 4 + 3, none⟩) hB]
  exact h i hi

theorem make25 (n : Nat) (hn : n ≤ 1048576) (w : World) : (Instr.makeSlice 25 (.int .i64 (n : Int)) (.int .i64 (n : Int))).run Yba.prog w = .ok (.slice (some ⟨w.heap.size, 0, none⟩) n n) (w.alloc (.cells (madeCells #[.int .u64 0, .int .u32 0, .int .i64 0, .int .u64 0] (n * 4)) 32)) := by
  obtain ⟨i0, hi, hz0, hz1, hz2⟩ := info_parts Yba.info32
  have h := run_make (P := Yba.prog) w 25 32 i0 _ Yba.underlying25 hi hz0 .i64 .i64 n n (by omega) (Int.le_refl _) (by rw [hz2]; omega) (by omega)
  rw [hz1] at h
  simpa [Value.cells] using h

/-- Behind k rounds of the first loop. -/
def Made (w : World) (n : Nat) (z : Zs) (W : World) (k : Nat) : Prop :=
  ∃ cs : List Value, RowAt W w.heap.size 32 cs ∧ cs.length = n * 4 ∧ (∀ u ∈ cs, u.oneCell' = true) ∧ (∀ i, i < k → cs[i * 4]? = some (.int .u64 (z.p i)) ∧ cs[i * 4 + 1]? = some (.int .u32 (z.g i)) ∧ cs[i * 4 + 2]? = some (.int .i64 (z.s i)) ∧ cs[i * 4 + 3]? = some (.int .u64 (z.n i))) ∧ Below w.heap.size w W

theorem mem_made (z : Array Value) (n : Nat) (hz : ∀ u ∈ z, u.oneCell' = true) (h0 : 0 < z.size) : ∀ u ∈ (madeCells z n).toList, u.oneCell' = true := by
  intro u hu
  simp [madeCells] at hu
  obtain ⟨i, _, rfl⟩ := hu
  have hlt : i % z.size < z.size := Nat.mod_lt _ h0
  rw [getElem!_pos z _ hlt]
  exact hz _ (Array.getElem_mem hlt)

theorem Made.start (w : World) (n : Nat) (z : Zs) : Made w n z (w.alloc (.cells (madeCells #[.int .u64 0, .int .u32 0, .int .i64 0, .int .u64 0] (n * 4)) 32)) 0 :=
  ⟨_, RowAt.new _ _ _, by simp [size_madeCells], mem_made _ _ (by simp [Value.oneCell']) (by simp), fun i hi => by omega, (Below.refl _ _).alloc (Nat.le_refl _) _⟩

theorem get_set_lt (cs : List Value) (i j : Nat) (u : Value) (h : j < i) : (cs.set i u)[j]? = cs[j]? := List.getElem?_set_ne (by omega)
theorem get_set_gt (cs : List Value) (i j : Nat) (u : Value) (h : i < j) : (cs.set i u)[j]? = cs[j]? := List.getElem?_set_ne (by omega)

theorem one_set {cs : List Value} {i : Nat} {u : Value} (h : ∀ v ∈ cs, v.oneCell' = true) (hu : u.oneCell' = true) : ∀ v ∈ cs.set i u, v.oneCell' = true := by
  intro v hv
  rcases List.mem_or_eq_of_mem_set hv with h1 | h1
  · exact h v h1
  · rw [h1]; exact hu

theorem Made.step {w : World} {n : Nat} {z : Zs} {wr : World} {k : Nat} {cs : List Value} (o : Obj) (hk : k < n)
    (h : RowAt wr w.heap.size 32 cs ∧ cs.length = n * 4 ∧ (∀ u ∈ cs, u.oneCell' = true) ∧ (∀ i, i < k → cs[i * 4]? = some (.int .u64 (z.p i)) ∧ cs[i * 4 + 1]? = some (.int .u32 (z.g i)) ∧ cs[i * 4 + 2]? = some (.int .i64 (z.s i)) ∧ cs[i * 4 + 3]? = some (.int .u64 (z.n i))) ∧ Below w.heap.size w wr) :
    Made w n z (((((wr.setCell ⟨w.heap.size, k * 4, none⟩ (.int .u64 (z.p k))).setCell ⟨w.heap.size, k * 4 + 1, none⟩ (.int .u32 (z.g k))).setCell ⟨w.heap.size, k * 4 + 2, none⟩ (.int .i64 (z.s k))).setCell ⟨w.heap.size, k * 4 + 3, none⟩ (.int .u64 (z.n k))).alloc o) (k + 1) := by
  obtain ⟨hrow, hcl, hone, hget, hbel⟩ := h
  refine ⟨_, ((((hrow.set (k * 4) _).set (k * 4 + 1) _).set (k * 4 + 2) _).set (k * 4 + 3) _).alloc o, by simpa using hcl, one_set (one_set (one_set (one_set hone rfl) rfl) rfl) rfl, fun i hi => ?_, ?_⟩
  · by_cases e : i = k
    · subst e
      refine ⟨?_, ?_, ?_, ?_⟩
      · rw [get_set_lt _ _ _ _ (by omega), get_set_lt _ _ _ _ (by omega), get_set_lt _ _ _ _ (by omega), List.getElem?_set_self (by omega)]
      · rw [get_set_lt _ _ _ _ (by omega), get_set_lt _ _ _ _ (by omega), List.getElem?_set_self (by simp; omega)]
      · rw [get_set_lt _ _ _ _ (by omega), List.getElem?_set_self (by simp; omega)]
      · rw [List.getElem?_set_self (by simp; omega)]
    · obtain ⟨g0, g1, g2, g3⟩ := hget i (by omega)
      refine ⟨?_, ?_, ?_, ?_⟩
      · rw [get_set_lt _ _ _ _ (by omega), get_set_lt _ _ _ _ (by omega), get_set_lt _ _ _ _ (by omega), get_set_lt _ _ _ _ (by omega)]; exact g0
      · rw [get_set_lt _ _ _ _ (by omega), get_set_lt _ _ _ _ (by omega), get_set_lt _ _ _ _ (by omega), get_set_lt _ _ _ _ (by omega)]; exact g1
      · rw [get_set_lt _ _ _ _ (by omega), get_set_lt _ _ _ _ (by omega), get_set_lt _ _ _ _ (by omega), get_set_lt _ _ _ _ (by omega)]; exact g2
      · rw [get_set_lt _ _ _ _ (by omega), get_set_lt _ _ _ _ (by omega), get_set_lt _ _ _ _ (by omega), get_set_lt _ _ _ _ (by omega)]; exact g3
  · have hlt := hrow.lt
    exact ((((hbel.setCell (Nat.le_refl _) _).setCell (Nat.le_refl _) _).setCell (Nat.le_refl _) _).setCell (Nat.le_refl _) _).alloc (by simp; omega) _

/-- A row of zones out of its cells. -/
theorem ZRow.of {w : World} {b n : Nat} {z : Zs} {cs : List Value} (hc : ∀ j u, cs[j]? = some u → w.cell? ⟨b, j, none⟩ = some u)
    (h : ∀ i, i < n → cs[i * 4]? = some (.int .u64 (z.p i)) ∧ cs[i * 4 + 1]? = some (.int .u32 (z.g i)) ∧ cs[i * 4 + 2]? = some (.int .i64 (z.s i)) ∧ cs[i * 4 + 3]? = some (.int .u64 (z.n i))) : ZRow w b n z := fun i hi => by
  obtain ⟨g0, g1, g2, g3⟩ := h i hi
  exact ⟨hc _ _ g0, hc _ _ g1, hc _ _ g2, hc _ _ g3⟩

/-- Behind slices.Clone: the two rows, and the table's struct, in whatever later world. -/
theorem after_clone {w wr w1 : World} {n g : Nat} {z : Zs} {cs : List Value} (hrow : RowAt wr w.heap.size 32 cs)
    (hget : ∀ i, i < n → cs[i * 4]? = some (.int .u64 (z.p i)) ∧ cs[i * 4 + 1]? = some (.int .u32 (z.g i)) ∧ cs[i * 4 + 2]? = some (.int .i64 (z.s i)) ∧ cs[i * 4 + 3]? = some (.int .u64 (z.n i)))
    (hb1 : Below wr.heap.size wr w1) (hcl : ∀ j u, cs[j]? = some u → w1.cell? ⟨g, j, none⟩ = some u) (hg : g < w1.heap.size) :
    Hid (∀ X, Below w1.heap.size w1 X → ZRow X w.heap.size n z ∧ ZRow X g n z) := by
  intro X hX
  have hr1 := hrow.kept hb1 hrow.lt
  exact ⟨(ZRow.of (fun j u hj => (hr1.cell j).trans hj) hget).kept hX hr1.lt, (ZRow.of hcl hget).kept hX hg⟩

/-! ### the plain law: the last zone that holds the start -/
def fnd (z : Zs) (st : Int) : Nat → Int
  | 0 => -1
  | j + 1 => if conZ (z.p j) (z.n j) st = true then (j : Int) else fnd z st j
theorem fnd_hit {z : Zs} {st : Int} {k : Nat} (h : conZ (z.p k) (z.n k) st = true) : fnd z st (k + 1) = k := by simp only [fnd]; rw [if_pos h]
theorem fnd_miss {z : Zs} {st : Int} {k : Nat} (h : conZ (z.p k) (z.n k) st = false) : fnd z st (k + 1) = fnd z st k := by simp only [fnd]; rw [if_neg (by rw [h]; simp)]
def Fits (z : Zs) (n : Nat) : Prop := ∀ i, i < n → 0 ≤ z.p i ∧ z.p i < 18446744073709551616 ∧ 0 ≤ z.n i ∧ z.n i < 18446744073709551616
theorem tip_is {z : Zs} {st d : Int} {n : Nat} (hf : Fits z n) (h0 : 0 ≤ st) (h1 : st < 18446744073709551616) : ∀ k, k ≤ n → (fnd z st k = -1 ∧ tipDown z st d k = d) ∨ ∃ j, j < k ∧ fnd z st k = (j : Int) ∧ tipDown z st d k = z.p j := by
  intro k
  induction k with
  | zero => intro _; exact .inl ⟨rfl, rfl⟩
  | succ k ih =>
    intro hk
    obtain ⟨p0, p1, n0, n1⟩ := hf k (by omega)
    have e := con_eq (z.p k) (z.n k) st p0 p1 n0 n1 h0 h1
    cases h : conZ (z.p k) (z.n k) st
    · rw [fnd_miss h, tipDown_miss (by rw [e]; exact h)]
      rcases ih (by omega) with h2 | ⟨j, hj, h2⟩
      · exact .inl h2
      · exact .inr ⟨j, by omega, h2⟩
    · exact .inr ⟨k, by omega, fnd_hit h, tipDown_hit (by rw [e]; exact h)⟩
theorem fnd_bd (z : Zs) (st : Int) (k : Nat) : -1 ≤ fnd z st k ∧ fnd z st k < k := by
  induction k with
  | zero => simp [fnd]
  | succ k ih =>
    cases h : conZ (z.p k) (z.n k) st
    · rw [fnd_miss h]; omega
    · rw [fnd_hit h]; omega
theorem wrap_bd (x : Int) : 0 ≤ IntKind.u64.wrap x ∧ IntKind.u64.wrap x < 18446744073709551616 := by
  simp only [IntKind.wrap_u64]
  omega

/-- The table's struct as the law lays it. -/
theorem pt_new {w1 : World} {o : Obj} {a0 a3 a4 a1 a2 a6 : Int} {v : Value} : PT ((w1.alloc o).alloc (.cells #[.int .u64 a0, .int .u32 a3, .int .i64 a4, .int .u64 a1, .int .u64 a2, v, .slice none 0 0, .int .u64 a6] 36)) (w1.heap.size + 1) a0 a3 a4 a1 a2 v a6 := by
  have h := RowAt.new (w1.alloc o) 36 #[.int .u64 a0, .int .u32 a3, .int .i64 a4, .int .u64 a1, .int .u64 a2, v, .slice none 0 0, .int .u64 a6]
  simp only [World.size_alloc] at h
  exact h

theorem zz_is (p n k : Int) (b : Bool) (h : conZ p n k = b) (w : World) :
    Calls Yba.prog 8 #[.int .u64 p, .int .u64 n, .int .u64 k] w fun e w' => e = .returned (.bool b) ∧ w' = w := by
  subst h
  exact (zz_any p n k w).mono (fun e w' h => ⟨h.1, h.2.symm⟩)

theorem own_new {w1 : World} {o : Obj} {a0 a3 a4 a1 : Int} : RowAt ((w1.alloc (.cells #[.int .u64 a0, .int .u32 a3, .int .i64 a4, .int .u64 a1] 32)).alloc o) w1.heap.size 32 [.int .u64 a0, .int .u32 a3, .int .i64 a4, .int .u64 a1] :=
  (RowAt.new w1 32 #[.int .u64 a0, .int .u32 a3, .int .i64 a4, .int .u64 a1]).alloc o

set_option maxRecDepth 100000 in
set_option maxHeartbeats 1600000 in
theorem lawA_pos (a0 a1 a2 a3 a4 a6 : Int) (pb po n c : Nat) (z : Zs) (w : World) (hn0 : 0 < n) (hn : n ≤ 1048576) (hpb : pb < w.heap.size) (hp : PRow w pb po n z) (hf : Fits z n) :
    Calls Yba.prog 3 #[.int .u64 a0, .int .u64 a1, .int .u64 a2, .int .u32 a3, .int .i64 a4, .slice (some ⟨pb, po, none⟩) n c, .int .u64 a6] w fun e w' => e = .returned (.bool true) ∧ Below w.heap.size w w' := by
  have HP : Hid (PRow w pb po n z) := hp
  have HF : Hid (Fits z n) := hf
  clear hp hf
  have hmk := make25 n hn
  have q25 := q25
  have q24 := q24
  have r25 := r25
  have r24 := r24
  have hd0 : decide ((1048576 : Int) < (n : Int)) = false := decide_eq_false (by omega)
  have hd1 : decide (0 < n) = true := decide_eq_true hn0
  go_enter Yba.func3, Yba.ntmps3
  go_wp2_with fail
  clear hmk
  go_loopw [38] (fun i wr => ∃ k : Nat, k ≤ n ∧ i = .int .i64 k ∧ Made w n z wr k) (fun i _ => n - (intOf i).toNat)
  case atStart => exact ⟨0, Nat.zero_le _, rfl, Made.start w n z⟩
  case round =>
    obtain ⟨k, hk, rfl, cs, hrow, hcl, hone, hget, hbel⟩ := hrel
    by_cases hlt : k < n
    · obtain ⟨x0, x1, x2, x3⟩ := HP.out.kept hbel hpb k hlt
      obtain ⟨u0, hu0⟩ : ∃ u, cs[k * 4]? = some u := ⟨_, List.getElem?_eq_getElem (by omega)⟩
      obtain ⟨u1, hu1⟩ : ∃ u, cs[k * 4 + 1]? = some u := ⟨_, List.getElem?_eq_getElem (by omega)⟩
      obtain ⟨u2, hu2⟩ : ∃ u, cs[k * 4 + 2]? = some u := ⟨_, List.getElem?_eq_getElem (by omega)⟩
      obtain ⟨u3, hu3⟩ : ∃ u, cs[k * 4 + 3]? = some u := ⟨_, List.getElem?_eq_getElem (by omega)⟩
      have y0 := (hrow.cell (k * 4)).trans hu0
      have y1 := (hrow.cell (k * 4 + 1)).trans hu1
      have y2 := (hrow.cell (k * 4 + 2)).trans hu2
      have y3 := (hrow.cell (k * 4 + 3)).trans hu3
      have f0 := hrow.free (k * 4)
      have f1 := hrow.free (k * 4 + 1)
      have f2 := hrow.free (k * 4 + 2)
      have f3 := hrow.free (k * 4 + 3)
      have hlt0 : w.heap.size < wr.heap.size := hrow.lt
      have HR : Hid (RowAt wr w.heap.size 32 cs ∧ cs.length = n * 4 ∧ (∀ u ∈ cs, u.oneCell' = true) ∧ (∀ i, i < k → cs[i * 4]? = some (.int .u64 (z.p i)) ∧ cs[i * 4 + 1]? = some (.int .u32 (z.g i)) ∧ cs[i * 4 + 2]? = some (.int .i64 (z.s i)) ∧ cs[i * 4 + 3]? = some (.int .u64 (z.n i))) ∧ Below w.heap.size w wr) := ⟨hrow, hcl, hone, hget, hbel⟩
      clear hrow hcl hone hget hbel hu0 hu1 hu2 hu3
      go_wp2
      go_roundw
      case rel => exact ⟨k + 1, by omega, by go_num, Made.step _ hlt HR.out⟩
      case measure => simp [intOf]; omega
    · obtain rfl : k = n := by omega
      have HRow : Hid (RowAt wr w.heap.size 32 cs) := hrow
      have HGet : Hid (∀ i, i < k → cs[i * 4]? = some (.int .u64 (z.p i)) ∧ cs[i * 4 + 1]? = some (.int .u32 (z.g i)) ∧ cs[i * 4 + 2]? = some (.int .i64 (z.s i)) ∧ cs[i * 4 + 3]? = some (.int .u64 (z.n i))) := hget
      have HB : Hid (Below w.heap.size w wr) := hbel
      have HCL : Hid (cs.length = k * 4) := hcl
      have HOne : Hid (∀ u ∈ cs, u.oneCell' = true) := hone
      clear hrow hget hbel hcl hone hlt hk
      go_wp2_with (first
        | (go_at_call 6; refine (clone_some w.heap.size k k wr hn HRow.out.lt cs HCL.out HOne.out (fun j u hj => (HRow.out.cell j).trans hj)).mono ?_; rintro e w1 ⟨g, cap, rfl, hg0, hg1, hb1, hcl1⟩; have HZZ := after_clone HRow.out HGet.out hb1 hcl1 hg1; clear hcl1))
      have HB1 : Hid (Below w.heap.size w w1) := HB.out.trans (hb1.mono HB.out.size)
      have HW1 : Hid (w.heap.size < w1.heap.size) := Nat.lt_of_lt_of_le HRow.out.lt hb1.size
      refine (tip_some (w1.heap.size + 1) w.heap.size k a0 a3 a4 a1 a2 a6 z _ hn0 hn pt_new (by simp; have := HW1.out; omega) (HZZ.out _ (((Below.refl _ _).alloc (Nat.le_refl _) _).alloc (by simp) _)).1).mono ?_
      rintro e w2 ⟨rfl, hb2⟩
      obtain ⟨st, hst⟩ : ∃ st, st = IntKind.u64.wrap (a1 * a2) := ⟨_, rfl⟩
      obtain ⟨T, hT⟩ : ∃ T, T = tipDown z st (z.n (k - 1)) k := ⟨_, rfl⟩
      rw [← hst, ← hT]
      have hpt := pt_new (w1 := w1) (o := .cells #[.int .u64 a0, .int .u32 a3, .int .i64 a4, .int .u64 a1] 32) (a0 := a0) (a3 := a3) (a4 := a4) (a1 := a1) (a2 := a2) (a6 := a6) (v := .slice (some ⟨w.heap.size, 0, none⟩) k k)
      have hpt2 := RowAt.kept hpt hb2 (RowAt.lt hpt)
      have how := own_new (w1 := w1) (a0 := a0) (a3 := a3) (a4 := a4) (a1 := a1) (o := .cells #[.int .u64 a0, .int .u32 a3, .int .i64 a4, .int .u64 a1, .int .u64 a2, .slice (some ⟨w.heap.size, 0, none⟩) k k, .slice none 0 0, .int .u64 a6] 36)
      have how2 := RowAt.kept how hb2 (RowAt.lt how)
      have hX : Below w1.heap.size w1 w2 := (((Below.refl _ _).alloc (Nat.le_refl _) _).alloc (by simp) _).trans (hb2.mono (by simp; omega))
      have HZ2 : Hid (ZRow w2 w.heap.size k z ∧ ZRow w2 g k z) := HZZ.out _ hX
      have HB2 : Hid (Below w.heap.size w w2) := HB1.out.trans (hX.mono HB1.out.size)
      have HST : Hid (st = IntKind.u64.wrap (a1 * a2)) := hst
      have HTT : Hid (T = tipDown z st (z.n (k - 1)) k) := hT
      have t0 : w2.cell? ⟨w1.heap.size + 1, 0, none⟩ = some (.int .u64 a0) := hpt2.cell 0
      have t1 : w2.cell? ⟨w1.heap.size + 1, 1, none⟩ = some (.int .u32 a3) := hpt2.cell 1
      have t2 : w2.cell? ⟨w1.heap.size + 1, 2, none⟩ = some (.int .i64 a4) := hpt2.cell 2
      have t3 : w2.cell? ⟨w1.heap.size + 1, 3, none⟩ = some (.int .u64 a1) := hpt2.cell 3
      have t4 : w2.cell? ⟨w1.heap.size + 1, 4, none⟩ = some (.int .u64 a2) := hpt2.cell 4
      have t5 : w2.cell? ⟨w1.heap.size + 1, 5, none⟩ = some (.slice (some ⟨w.heap.size, 0, none⟩) k k) := hpt2.cell 5
      have t6 : w2.cell? ⟨w1.heap.size + 1, 6, none⟩ = some (.slice none 0 0) := hpt2.cell 6
      have t7 : w2.cell? ⟨w1.heap.size + 1, 7, none⟩ = some (.int .u64 a6) := hpt2.cell 7
      have o0 : w2.cell? ⟨w1.heap.size, 0, none⟩ = some (.int .u64 a0) := how2.cell 0
      have o1 : w2.cell? ⟨w1.heap.size, 1, none⟩ = some (.int .u32 a3) := how2.cell 1
      have o2 : w2.cell? ⟨w1.heap.size, 2, none⟩ = some (.int .i64 a4) := how2.cell 2
      have o3 : w2.cell? ⟨w1.heap.size, 3, none⟩ = some (.int .u64 a1) := how2.cell 3
      clear hpt hpt2 how how2 hX hb1 hb2 hT
      go_wp2_with fail
      rw [← hst]
      clear hst
      go_loopw [26, 27] (fun f i wx => ∃ j q : Nat, j ≤ k ∧ i = .int .i64 j ∧ f = .int .i64 (fnd z st j) ∧ wx = w2.drewN q) (fun _ i _ => k - (intOf i).toNat)
      case atStart => exact ⟨0, 0, Nat.zero_le _, rfl, rfl, rfl⟩
      case round =>
        obtain ⟨j, q, hj, rfl, rfl, rfl⟩ := hrel
        by_cases hlt : j < k
        · obtain ⟨x0, x1, x2, x3⟩ := HP.out.kept HB2.out hpb j hlt
          have hi : (j : Int) < (k : Int) := by omega
          cases hc : conZ (z.p j) (z.n j) st
          · have HC : Hid (fnd z st (j + 1) = fnd z st j) := fnd_miss hc
            have HZC : Hid (conZ (z.p j) (z.n j) st = false) := hc
            clear hc
            go_wp2
            go_quiet ((go_at_call 8; exact (zz_is _ _ _ _ HZC.out _).mono (fun e w9 h9 => ⟨h9.1, _, h9.2⟩)))
            go_wp2
            go_roundw
            case rel => exact ⟨j + 1, _, by omega, by go_num, by rw [HC.out], rfl⟩
            case measure => simp [intOf]; omega
          · have HC : Hid (fnd z st (j + 1) = (j : Int)) := fnd_hit hc
            have HZC : Hid (conZ (z.p j) (z.n j) st = true) := hc
            clear hc
            go_wp2
            go_quiet ((go_at_call 8; exact (zz_is _ _ _ _ HZC.out _).mono (fun e w9 h9 => ⟨h9.1, _, h9.2⟩)))
            go_wp2
            go_roundw
            case rel => exact ⟨j + 1, _, by omega, by go_num, by rw [HC.out], rfl⟩
            case measure => simp [intOf]; omega
        · obtain rfl : j = k := by omega
          clear hlt hj
          have HTI := tip_is (z := z) (st := st) (d := z.n (j - 1)) HF.out (by rw [HST.out]; exact (wrap_bd _).1) (by rw [HST.out]; exact (wrap_bd _).2) j (Nat.le_refl _)
          rcases HTI with ⟨hf1, htip⟩ | ⟨i, hij, hf1, htip⟩
          · have hTe : T = z.n (j - 1) := by rw [HTT.out, htip]
            subst hTe
            rw [hf1]
            clear hf1 htip
            obtain ⟨x0, x1, x2, x3⟩ := HP.out.kept HB2.out hpb (j - 1) (by omega)
            have hm0 : (0 : Int) ≤ (j : Int) - 1 := by omega
            have hm1 : (j : Int) - 1 < (j : Int) := by omega
            have hm2 : ((j : Int) - 1).toNat = j - 1 := by omega
            have n32 := neq32
            have g32 := guard32
            go_wp2
            go_quiet (fail)
            go_wp2_with (go_at_call 9; refine (equal_some _ _ _ _ _ z _ hn (by exact HZ2.out.1) (by exact HZ2.out.2)).mono ?_; rintro e w3 ⟨rfl, q3, rfl⟩)
            go_ret
            exact ⟨rfl, by repeat (first | exact HB2.out | refine below_drewN ?_ _)⟩
          · have hTe : T = z.p i := by rw [HTT.out, htip]
            subst hTe
            rw [hf1]
            clear hf1 htip
            obtain ⟨x0, x1, x2, x3⟩ := HP.out.kept HB2.out hpb i hij
            have hi : (i : Int) < (j : Int) := by omega
            have n32 := neq32
            have g32 := guard32
            go_wp2
            go_quiet (fail)
            go_wp2_with (go_at_call 9; refine (equal_some _ _ _ _ _ z _ hn (by exact HZ2.out.1) (by exact HZ2.out.2)).mono ?_; rintro e w3 ⟨rfl, q3, rfl⟩)
            go_ret
            exact ⟨rfl, by repeat (first | exact HB2.out | refine below_drewN ?_ _)⟩
end Go.Proofs.Ybulkebck
