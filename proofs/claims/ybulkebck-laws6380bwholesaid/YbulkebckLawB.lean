import Derived.Test.YbulkebckPred
import Derived.Laws.CopyOwn
import Derived.Deep.DeepCutAuto
namespace Go.Proofs.Ybulkebck
open Go.RowKit
set_option linter.unusedVariables false

theorem make43 (n : Nat) (hn : n ≤ 1048576) (w : World) : (Instr.makeSlice 43 (.int .i64 (n : Int)) (.int .i64 (n : Int))).run Yba.prog w = .ok (.slice (some ⟨w.heap.size, 0, none⟩) n n) (w.alloc (.cells (madeCells #[.pointer none] n) 44)) :=
  run_make_row' 43 44 _ _ Yba.underlying43 Yba.info44 rfl .i64 .i64 n (by omega) (by omega) w
theorem q43 : ∀ (w : World) (a : Option Addr) (n c n' c' : Nat), (binOp .eql 43 (.slice a n c) (.slice none n' c')).run Yba.prog w = .ok (.bool a.isNone) w := fun w a n c n' c' => Lib.run_eql_slice_nil w _ _ a n c n' c' Yba.underlying43
theorem r43 : ∀ (w : World) (a : Option Addr) (n c n' c' : Nat), (binOp .neq 43 (.slice a n c) (.slice none n' c')).run Yba.prog w = .ok (.bool (!a.isNone)) w := fun w a n c n' c' => run_neq_slice_nil_any w _ _ a n c n' c' Yba.underlying43
theorem r42 : ∀ (w : World) (a : Option Addr) (n c n' c' : Nat), (binOp .neq 42 (.slice a n c) (.slice none n' c')).run Yba.prog w = .ok (.bool (!a.isNone)) w := fun w a n c n' c' => run_neq_slice_nil_any w _ _ a n c n' c' Yba.underlying42

set_option maxRecDepth 100000 in
theorem bigB (a0 a1 a2 a4 : Int) (pa : Option Addr) (n c : Nat) (w : World) (h : 1048576 < (n : Int)) :
    Calls Yba.prog 4 #[.int .u64 a0, .int .u8 a1, .int .u8 a2, .slice pa n c, .int .i64 a4] w fun e w' => e = .returned (.bool true) ∧ Below w.heap.size w w' := by
  go_enter Yba.func4, Yba.ntmps4
  go_wp2
  go_ret
  exact ⟨rfl, Below.refl _ _⟩

/-- A row of k places, the first i of them filled by g. -/
def partly (k i : Nat) (g : Nat → Value) : List Value := (List.range k).map (fun j => if j < i then g j else .pointer none)
theorem part_len (k i : Nat) (g : Nat → Value) : (partly k i g).length = k := by simp [partly]
theorem part_get {k i j : Nat} (g : Nat → Value) (hj : j < k) : (partly k i g)[j]? = some (if j < i then g j else .pointer none) := by
  simp [partly, hj]
theorem part_lt {k i j : Nat} (g : Nat → Value) (hj : j < k) (hi : j < i) : (partly k i g)[j]? = some (g j) := by
  rw [part_get g hj, if_pos hi]
theorem part_set {k i : Nat} (g : Nat → Value) (hi : i < k) : (partly k i g).set i (g i) = partly k (i + 1) g := by
  apply List.ext_getElem?
  intro j
  by_cases hj : j < k
  · rw [part_get g hj]
    by_cases e : j = i
    · subst e
      rw [List.getElem?_set_self (by rw [part_len]; exact hj), if_pos (by omega)]
    · rw [List.getElem?_set_ne (by omega), part_get g hj]
      by_cases h : j < i
      · rw [if_pos h, if_pos (by omega)]
      · rw [if_neg h, if_neg (by omega)]
  · rw [List.getElem?_eq_none (by simp [part_len]; omega), List.getElem?_eq_none (by rw [part_len]; omega)]
theorem part_made (k : Nat) (g : Nat → Value) : (madeCells #[Value.pointer none] k).toList = partly k 0 g := by
  apply List.ext_getElem?
  intro j
  by_cases hj : j < k
  · rw [part_get g hj, if_neg (by omega)]
    simp [madeCells, hj, Nat.mod_one]
  · rw [List.getElem?_eq_none (by simp [size_madeCells]; omega), List.getElem?_eq_none (by rw [part_len]; omega)]

/-- The pool, i of its kk nodes made. -/
def Pool (w : World) (kk i : Nat) (wr : World) : Prop :=
  RowAt wr w.heap.size 44 (partly kk i (nodeV w.heap.size)) ∧ (∀ j, j < i → NodeAt wr w.heap.size j) ∧ wr.heap.size = w.heap.size + 1 + i ∧ Below w.heap.size w wr
theorem Pool.start (w : World) (kk : Nat) : Pool w kk 0 (w.alloc (.cells (madeCells #[.pointer none] kk) 44)) :=
  ⟨by have := RowAt.new w 44 (madeCells #[.pointer none] kk); rw [part_made kk (nodeV w.heap.size)] at this; exact this, fun j hj => by omega, by simp, (Below.refl _ _).alloc (Nat.le_refl _) _⟩
theorem Pool.step {w wr : World} {kk i : Nat} (h : Pool w kk i wr) (hi : i < kk) :
    Pool w kk (i + 1) ((wr.setCell ⟨w.heap.size, i, none⟩ (.pointer (some ⟨wr.heap.size, 0, none⟩))).alloc (.cells #[.int .u64 ((i : Int) * 7 + 1), .int .i64 1, .slice none 0 0, .int .u64 0, .int .i64 0, .int .i64 0, .pointer none] 49)) := by
  obtain ⟨h1, h2, h3, h4⟩ := h
  refine ⟨?_, fun j hj => ?_, by simp; omega, (h4.setCell (Nat.le_refl _) _).alloc (by simp; omega) _⟩
  · rw [← part_set _ hi, h3]
    exact (h1.set i _).alloc _
  · by_cases e : j = i
    · subst e
      have hn := RowAt.new (wr.setCell ⟨w.heap.size, j, none⟩ (.pointer (some ⟨wr.heap.size, 0, none⟩))) 49 #[.int .u64 ((j : Int) * 7 + 1), .int .i64 1, .slice none 0 0, .int .u64 0, .int .i64 0, .int .i64 0, .pointer none]
      rw [World.size_setCell, h3] at hn
      rw [h3]
      exact hn
    · exact RowAt.alloc (RowAt.other (h2 j (by omega)) (by simp; omega) _) _

/-- The links, i of the N laid. -/
def Links (B L N : Nat) (f : Nat → Nat) (wp : World) (i : Nat) (wr : World) : Prop :=
  RowAt wr L 44 (partly N i (fun j => nodeV B (f j))) ∧ Below L wp wr ∧ wr.heap.size = L + 1
theorem Links.start (B N : Nat) (f : Nat → Nat) (wp : World) : Links B wp.heap.size N f wp 0 (wp.alloc (.cells (madeCells #[.pointer none] N) 44)) :=
  ⟨by have := RowAt.new wp 44 (madeCells #[.pointer none] N); rw [part_made N (fun j => nodeV B (f j))] at this; exact this, (Below.refl _ _).alloc (Nat.le_refl _) _, by simp⟩
theorem Links.step {B L N : Nat} {f : Nat → Nat} {wp wr : World} {i : Nat} (h : Links B L N f wp i wr) (hi : i < N) :
    Links B L N f wp (i + 1) (wr.setCell ⟨L, i, none⟩ (.pointer (some ⟨B + 1 + f i, 0, none⟩))) :=
  ⟨by rw [← part_set _ hi]; exact h.1.set i _, h.2.1.setCell (Nat.le_refl _) _, by simp; exact h.2.2⟩

/-- All that is laid behind the copy. -/
def Laid (B kk N L T D : Nat) (f : Nat → Nat) (a0 s : Int) (la : Option Addr) (X : World) : Prop :=
  RowAt X B 44 (partly kk kk (nodeV B)) ∧ (∀ j, j < kk → NodeAt X B j) ∧ (0 < N → la = some ⟨L, 0, none⟩ ∧ RowAt X L 44 (partly N N (fun j => nodeV B (f j)))) ∧ RowAt X T 49 [.int .u64 a0, .int .i64 s, .slice la N N, .int .u64 0, .int .i64 0, .int .i64 0, .pointer none] ∧ RowAt X D 44 (partly N N (fun j => nodeV B (f j)))
theorem Laid.kept {B kk N L T D : Nat} {f : Nat → Nat} {a0 s : Int} {la : Option Addr} {X Y : World} (h : Laid B kk N L T D f a0 s la X) (hb : Below X.heap.size X Y) : Laid B kk N L T D f a0 s la Y :=
  ⟨h.1.kept hb h.1.lt, fun j hj => RowAt.kept (h.2.1 j hj) hb (RowAt.lt (h.2.1 j hj)), fun h0 => ⟨(h.2.2.1 h0).1, (h.2.2.1 h0).2.kept hb (h.2.2.1 h0).2.lt⟩, h.2.2.2.1.kept hb h.2.2.2.1.lt, h.2.2.2.2.kept hb h.2.2.2.2.lt⟩
theorem splice_all (N : Nat) (g : Nat → Value) : splice (partly N 0 g) 0 (partly N N g) = partly N N g := by
  simp [splice, part_len]
theorem part_one (B N i : Nat) (f : Nat → Nat) : ∀ v ∈ partly N i (fun j => nodeV B (f j)), v.oneCell' = true := by
  intro v hv
  simp only [partly, List.mem_map] at hv
  obtain ⟨j, _, rfl⟩ := hv
  split <;> rfl
theorem Yba.size44 : (Yba.prog.info? 44).map (·.size) = some 1 := by kernel_rfl

theorem laid_mk {w wp wr W3 : World} {kk N : Nat} {f : Nat → Nat} {a0 s : Int} (hp : Pool w kk kk wp) (hl : Links w.heap.size wp.heap.size N f wp N wr)
    (hb3 : Below (wr.heap.size + 1) (wr.alloc (.cells #[.int .u64 a0, .int .i64 s, .slice (some ⟨wp.heap.size, 0, none⟩) N N, .int .u64 0, .int .i64 0, .int .i64 0, .pointer none] 49)) W3)
    (hd : W3.heap[wr.heap.size + 1]? = some (.cells (splice (partly N 0 (fun j => nodeV w.heap.size (f j))) 0 (partly N N (fun j => nodeV w.heap.size (f j)))).toArray 44 (0, 0))) :
    Laid w.heap.size kk N wp.heap.size wr.heap.size (wr.heap.size + 1) f a0 s (some ⟨wp.heap.size, 0, none⟩) W3 ∧ Below w.heap.size w W3 := by
  rw [splice_all] at hd
  have hB : w.heap.size < wp.heap.size := hp.1.lt
  have hL := hl.2.2
  refine ⟨⟨?_, fun j hj => ?_, fun h0 => ⟨rfl, ?_⟩, ?_, hd⟩, ?_⟩
  · exact ((hp.1.kept hl.2.1 hB).alloc _).kept hb3 (by omega)
  · have hlt := RowAt.lt (hp.2.1 j hj)
    exact (RowAt.alloc (RowAt.kept (hp.2.1 j hj) hl.2.1 hlt) _).kept hb3 (by omega)
  · exact (hl.1.alloc _).kept hb3 (by omega)
  · exact (RowAt.new wr 49 _).kept hb3 (by omega)
  · exact (hp.2.2.2.trans (hl.2.1.mono (by omega))).trans (((Below.refl _ _).alloc (by omega) _).trans (hb3.mono (by omega)))

/-- Behind k rounds of the law's own gathering. -/
def Runs (W : World) (B : Nat) (f : Nat → Nat) (k : Nat) (v : Value) (wr : World) : Prop :=
  wr.ownsRow W.heap.size 44 1 v (fw f k).length ((fw f k).map (nodeV B)) ∧ (fw f k = [] → v = .slice none 0 0) ∧ Below W.heap.size W wr
theorem runs_app {W : World} {B : Nat} {f : Nat → Nat} {k : Nat} {v v' : Value} {wr w1 : World} {o : Obj} (h : Runs W B f k v wr)
    (hc : k = 0 ∨ f (k - 1) ≠ f k) (hown : w1.ownsRow W.heap.size 44 1 v' ((fw f k).length + 1) ((fw f k).map (nodeV B) ++ [nodeV B (f k)])) (hg : (wr.alloc o).grownBy w1 v.ownBlock) : Runs W B f (k + 1) v' w1 := by
  have e : fw f (k + 1) = fw f k ++ [f k] := by rw [fw_succ, if_pos hc]
  unfold Runs
  rw [e]
  refine ⟨by simpa using hown, by simp, ?_⟩
  have h0 := h.2.2.alloc h.2.2.size o
  refine h0.grown hg (by have := h.2.2.size; simp; omega) (fun k hk => ?_)
  rcases h.1.2 with ⟨rfl, _⟩ | ⟨g, cap, cur, rfl, hb, _⟩
  · simp [Value.ownBlock] at hk
  · simp [Value.ownBlock] at hk; omega
theorem runs_skip {W : World} {B : Nat} {f : Nat → Nat} {k : Nat} {v : Value} {wr : World} (h : Runs W B f k v wr) (hc : ¬ (k = 0 ∨ f (k - 1) ≠ f k)) : Runs W B f (k + 1) v wr := by
  have e : fw f (k + 1) = fw f k := by rw [fw_succ, if_neg hc]
  unfold Runs
  rw [e]
  exact h

theorem pred_any (T L B N kk D : Nat) (f : Nat → Nat) (n a0 s : Int) (la : Option Addr) (W : World) (hN : N ≤ 1048576) (hn : n ≤ 9223372036854775807) (hf : ∀ i, f i < kk) (h : Laid B kk N L T D f a0 s la W) :
    Calls Yba.prog 11 #[.pointer (some ⟨T, 0, none⟩), .int .i64 n] W fun e w' => ∃ v, e = .returned v ∧ Got W B N f n v w' := by
  have hT : W.cell? ⟨T, 2, none⟩ = some (.slice la N N) := h.2.2.2.1.cell 2
  by_cases h0 : N = 0
  · subst h0
    refine (pred_zero T la 0 n W hT).mono ?_
    rintro e w' ⟨rfl, rfl⟩
    exact ⟨_, rfl, by simpa [bw] using World.ownsRow_nil w' w'.heap.size 44 1, fun _ => rfl, Below.refl _ _⟩
  · obtain ⟨rfl, hl⟩ := h.2.2.1 (by omega)
    exact pred_pos T L B N f n W (by omega) hN hn h.2.2.2.1.lt hl.lt hT (fun i hi => by rw [hl.cell]; exact part_lt _ hi hi) (fun i _ => h.2.1 _ (hf i))

def GotM (W : World) (B N m : Nat) (f : Nat → Nat) (n : Int) (ga : Option Addr) (gcap : Nat) (w' : World) : Prop :=
  (m = 0 → ga = none ∧ gcap = 0) ∧ w'.ownsRow W.heap.size 44 1 (.slice ga m gcap) m (((bw f N N).take n.toNat).map (nodeV B)) ∧ Below W.heap.size W w'
theorem pred_mm (T L B N kk D m l : Nat) (f : Nat → Nat) (n a0 s : Int) (la : Option Addr) (W : World) (hN : N ≤ 1048576) (hn : n ≤ 9223372036854775807) (hf : ∀ i, f i < kk) (h : Laid B kk N L T D f a0 s la W) (hl : l = (fw f N).length) (hm : m = min n.toNat l) :
    Calls Yba.prog 11 #[.pointer (some ⟨T, 0, none⟩), .int .i64 n] W fun e w' => ∃ ga gcap, e = .returned (.slice ga m gcap) ∧ GotM W B N m f n ga gcap w' := by
  refine (pred_any T L B N kk D f n a0 s la W hN hn hf h).mono ?_
  rintro e w5 ⟨v, rfl, hgot⟩
  obtain ⟨ga, gcap, rfl⟩ := owns_form hgot.1
  have hgl : ((bw f N N).take n.toNat).length = m := by rw [hm, List.length_take, bw_rev, List.length_reverse, ← hl]
  refine ⟨ga, gcap, by rw [hgl], fun h0 => ?_, ?_, hgot.2.2⟩
  · have := hgot.2.1 (List.eq_nil_of_length_eq_zero (by omega))
    injection this with e1 _ e2
    exact ⟨e1, e2⟩
  · have := hgot.1
    rw [hgl] at this
    exact this

theorem owned_row {w : World} {base e size : Nat} {v : Value} {n : Nat} {xs : List Value} (h : w.ownsRow base e size v n xs) (hv : v ≠ .slice none 0 0) :
    ∃ g cap cs, v = .slice (some ⟨g, 0, none⟩) n cap ∧ base ≤ g ∧ RowAt w g e cs ∧ xs.length ≤ cs.length ∧ ∀ j u, xs[j]? = some u → w.cell? ⟨g, j, none⟩ = some u := by
  obtain ⟨g, cap, hv', hg, hlt, hnc, hcells⟩ := owned_at h hv
  obtain ⟨hl, h2⟩ := h
  rcases h2 with ⟨h2, _⟩ | ⟨g', cap', cur, he, hg', hh, hnc', _, _, ht⟩
  · exact absurd h2 hv
  · obtain ⟨rfl, rfl⟩ : g = g' ∧ cap = cap' := by rw [hv'] at he; injection he with e1 _ e2; injection e1 with e1; injection e1 with e1; exact ⟨e1, e2⟩
    refine ⟨g, cap, cur.toList, hv', hg, by simpa [RowAt] using hh, ?_, hcells⟩
    rw [← ht]
    simp
    exact Nat.min_le_right _ _

/-- The two gatherings answer one another. -/
theorem mirror {f : Nat → Nat} {N m k : Nat} (hm : m ≤ (fw f N).length) (hk : k < m) : ∃ r, (fw f N)[(fw f N).length - 1 - k]? = some r ∧ ((bw f N N).take m)[k]? = some r := by
  refine ⟨(fw f N)[(fw f N).length - 1 - k]'(by omega), List.getElem?_eq_getElem _, ?_⟩
  rw [List.getElem?_take_of_lt hk, bw_rev, List.getElem?_reverse (by omega)]
  exact List.getElem?_eq_getElem _

/-- The row that predecessors handed back, whatever it now holds. -/
def Wipe (W : World) (gg mm : Nat) (X : World) : Prop := (0 < mm → ∃ cs, RowAt X gg 44 cs ∧ mm ≤ cs.length ∧ W.heap.size ≤ gg) ∧ Below W.heap.size W X
theorem Wipe.step {W X : World} {gg mm o : Nat} {u : Value} (h : Wipe W gg mm X) (h0 : 0 < mm) : Wipe W gg mm (X.setCell ⟨gg, o, none⟩ u) := by
  obtain ⟨cs, hr, hl, hg⟩ := h.1 h0
  exact ⟨fun _ => ⟨_, hr.set o u, by simpa using hl, hg⟩, h.2.setCell hg _⟩

theorem neq47 (w : World) : (binOp .neq 47 (.agg #[.int .u64 0, .int .i64 0, .int .i64 0, .pointer none]) (.agg #[.int .u64 0, .int .i64 0, .int .i64 0, .pointer none])).run Yba.prog w = .ok (.bool false) w := by
  kernel_rfl
theorem guard47 : Yba.prog.eqGuardType Yba.prog.depth 47 = false := by kernel_rfl

set_option maxRecDepth 100000 in
set_option maxHeartbeats 1600000 in
theorem lawB_some (a0 a1 a2 a4 : Int) (x : Addr) (b off N c : Nat) (z : Nat → Int) (w : World) (h1 : 0 ≤ a1) (h1' : a1 < 256) (h2 : 0 ≤ a2) (h2' : a2 < 256) (h4 : -9223372036854775808 ≤ a4) (h4' : a4 ≤ 9223372036854775807) (hN : N ≤ 1048576)
    (hx : ∀ i, i < N → x = ⟨b, off, none⟩ ∧ b < w.heap.size ∧ w.cell? ⟨b, off + i, none⟩ = some (.int .u8 (z i)) ∧ 0 ≤ z i ∧ z i < 256) :
    Calls Yba.prog 4 #[.int .u64 a0, .int .u8 a1, .int .u8 a2, .slice (some x) N c, .int .i64 a4] w fun e w' => e = .returned (.bool true) ∧ Below w.heap.size w w' := by
  have HX : Hid (∀ i, i < N → x = ⟨b, off, none⟩ ∧ b < w.heap.size ∧ w.cell? ⟨b, off + i, none⟩ = some (.int .u8 (z i)) ∧ 0 ≤ z i ∧ z i < 256) := hx
  clear hx
  obtain ⟨kk, hk⟩ : ∃ kk : Nat, a2 % 4 + 1 = (kk : Int) := ⟨(a2 % 4 + 1).toNat, by omega⟩
  have hk1 : 1 ≤ kk := by omega
  have hk4 : kk ≤ 4 := by omega
  have hmk := make43 kk (by omega)
  have q43 := q43
  have r43 := r43
  have r42 := r42
  have hd0 : decide ((1048576 : Int) < (N : Int)) = false := decide_eq_false (by omega)
  go_enter Yba.func4, Yba.ntmps4
  go_wp2_with fail
  go_loopw [13] (fun i wr => ∃ k : Nat, k ≤ kk ∧ i = .int .i64 k ∧ Pool w kk k wr) (fun i _ => kk - (intOf i).toNat)
  case atStart => exact ⟨0, Nat.zero_le _, rfl, Pool.start w kk⟩
  case round =>
    obtain ⟨k, hkk, rfl, hp⟩ := hrel
    by_cases hlt : k < kk
    · have y0 : wr.cell? ⟨w.heap.size, k, none⟩ = some (.pointer none) := by rw [hp.1.cell, part_get _ hlt, if_neg (by omega)]
      have f0 := hp.1.free k
      have hs := hp.2.2.1
      have hlt0 : w.heap.size < wr.heap.size := hp.1.lt
      have hlt1 : (k : Int) < (kk : Int) := by omega
      have HP : Hid (Pool w kk k wr) := hp
      have HS : Hid (wr.heap.size = w.heap.size + 1 + k) := hs
      clear hp hs
      go_wp2_with (go_at_call 10; refine (new_any _ _).mono ?_; rintro e w1 ⟨rfl, rfl⟩)
      go_roundw
      case rel => exact ⟨k + 1, by omega, by go_num, HP.out.step hlt⟩
      case measure => simp [intOf]; omega
    · obtain rfl : kk = k := by omega
      obtain ⟨f, hf⟩ : ∃ f : Nat → Nat, ∀ i, z i % (kk : Int) = (f i : Nat) ∧ f i < kk := ⟨fun i => (z i % (kk : Int)).toNat, fun i => by
        have h1 := Int.emod_nonneg (z i) (b := (kk : Int)) (by omega)
        have h2 := Int.emod_lt_of_pos (z i) (b := (kk : Int)) (by omega)
        dsimp
        omega⟩
      have HF : Hid (∀ i, z i % (kk : Int) = (f i : Nat) ∧ f i < kk) := hf
      have HP : Hid (Pool w kk kk wr) := hp
      clear hp hf hlt hkk
      have hmN := make43 N (by omega)
      rename World => wp
      go_wp2_with fail
      clear hmk
      go_loopw [15] (fun i wr => ∃ k : Nat, k ≤ N ∧ i = .int .i64 k ∧ Links w.heap.size wp.heap.size N f wp k wr) (fun i _ => N - (intOf i).toNat)
      case atStart => exact ⟨0, Nat.zero_le _, rfl, Links.start _ _ _ _⟩
      case round =>
        obtain ⟨k, hkk, rfl, hl⟩ := hrel
        have HL : Hid (Links w.heap.size wp.heap.size N f wp k wr) := hl
        clear hl
        by_cases hlt : k < N
        · obtain ⟨rfl, hb, hc, hz0, hz1⟩ := HX.out k hlt
          obtain ⟨q, hq⟩ : ∃ q, q = f k := ⟨_, rfl⟩
          have hq1 : z k % (kk : Int) = (q : Int) := by rw [hq]; exact (HF.out k).1
          have hq2 : q < kk := by rw [hq]; exact (HF.out k).2
          have hq3 : (q : Int) < (kk : Int) := by omega
          have hlt1 : (k : Int) < (N : Int) := by omega
          have hBp : w.heap.size < wp.heap.size := HP.out.1.lt
          have c0 : wr.cell? ⟨b, off + k, none⟩ = some (.int .u8 (z k)) := (HL.out.2.1.cell (p := ⟨b, off + k, none⟩) (by simp; omega)).trans ((HP.out.2.2.2.cell (p := ⟨b, off + k, none⟩) hb).trans hc)
          have c1 : wr.cell? ⟨w.heap.size, q, none⟩ = some (.pointer (some ⟨w.heap.size + 1 + q, 0, none⟩)) := (HL.out.2.1.cell (p := ⟨w.heap.size, q, none⟩) hBp).trans (by rw [HP.out.1.cell]; exact part_lt _ hq2 hq2)
          have c2 : wr.cell? ⟨wp.heap.size, k, none⟩ = some (.pointer none) := by rw [HL.out.1.cell, part_get _ hlt, if_neg (by omega)]
          have f2 := HL.out.1.free k
          have HQ : Hid (q = f k) := hq
          clear hc hq
          go_wp2
          go_roundw
          case rel => exact ⟨k + 1, by omega, by go_num, by rw [HQ.out]; exact HL.out.step hlt⟩
          case measure => simp [intOf]; omega
        · obtain rfl : N = k := by omega
          clear hlt hkk
          go_wp2_with (refine wpList_copy_splice rfl (.tmp 86) (.tmp 87) 43 43 rfl 44 Yba.underlying43 Yba.size44 (some ⟨wr.heap.size + 1, 0, none⟩) (some ⟨wp.heap.size, 0, none⟩) N N N N rfl rfl (wr.heap.size + 1) 0 (partly N 0 (fun j => nodeV w.heap.size (f j))) 44 ?cg (partly N N (fun j => nodeV w.heap.size (f j))) ?cn ?cp ?cf (part_one _ _ _ _) (wr.heap.size + 1) (wr.alloc (.cells #[.int .u64 a0, .int .i64 (a1 % 5 + 1), .slice (some ⟨wp.heap.size, 0, none⟩) N N, .int .u64 0, .int .i64 0, .int .i64 0, .pointer none] 49)) ?cb (Nat.le_refl _) ?_)
          case cg => rw [← part_made]; have h := RowAt.new (wr.alloc (.cells #[.int .u64 a0, .int .i64 (a1 % 5 + 1), .slice (some ⟨wp.heap.size, 0, none⟩) N N, .int .u64 0, .int .i64 0, .int .i64 0, .pointer none] 49)) 44 (madeCells #[.pointer none] N); simpa [RowAt] using h
          case cn => simp [part_len]
          case cp => intro h0 j v hj; rw [((HL.out.1.alloc _).alloc _).cell]; exact hj
          case cf => simp [part_len]
          case cb => exact (Below.refl _ _).alloc (by simp) _
          intro W3 HD3 hb3
          obtain ⟨hlaid, hbw⟩ := laid_mk HP.out HL.out hb3 HD3.out
          obtain ⟨s5, hs5⟩ : ∃ s5, s5 = a1 % 5 + 1 := ⟨_, rfl⟩
          obtain ⟨L, hL⟩ : ∃ L, L = wp.heap.size := ⟨_, rfl⟩
          obtain ⟨T, hT⟩ : ∃ T, T = wr.heap.size := ⟨_, rfl⟩
          rw [← hs5, ← hL, ← hT] at hlaid ⊢
          have HLaid : Hid (Laid w.heap.size kk N L T (T + 1) f a0 s5 (some ⟨L, 0, none⟩) W3) := hlaid
          have HBW : Hid (Below w.heap.size w W3) := hbw
          have HFK : Hid (∀ i, f i < kk) := fun i => (HF.out i).2
          clear hlaid hbw hb3 HD3 HL HP HF hmN hs5 hL hT HX
          obtain ⟨i0, hi, hz0, hz1, hz2⟩ := info_parts Yba.info44
          go_wp2_with fail
          go_loopw [19, 91, 21] (fun v i _ wr => ∃ k : Nat, k ≤ N ∧ i = .int .i64 k ∧ Runs W3 w.heap.size f k v wr) (fun _ i _ _ => N - (intOf i).toNat)
          case atStart => exact ⟨0, Nat.zero_le _, rfl, World.ownsRow_nil _ _ _ _, fun _ => rfl, Below.refl _ _⟩
          case round =>
            obtain ⟨k, hkk, rfl, hr⟩ := hrel
            obtain ⟨ra, rcap, rfl⟩ := owns_form hr.1
            have hlen := fw_len f k
            obtain ⟨l, hl⟩ : ∃ l, l = (fw f k).length := ⟨_, rfl⟩
            have HR : Hid (Runs W3 w.heap.size f k (.slice ra l rcap) wr) := by rw [hl]; exact hr
            rw [← hl] at hlen ⊢
            have HLn : Hid (l = (fw f k).length) := hl
            have HO : Hid (wr.ownsRow W3.heap.size 44 1 (.slice ra l rcap) l ((fw f k).map (nodeV w.heap.size))) := by have := HR.out.1; rw [← HLn.out] at this; exact this
            clear hr hl
            by_cases hlt : k < N
            · have HK := HLaid.out.kept HR.out.2.2
              have y0 : wr.cell? ⟨T + 1, k, none⟩ = some (.pointer (some ⟨w.heap.size + 1 + f k, 0, none⟩)) := by rw [HK.2.2.2.2.cell]; exact part_lt _ hlt hlt
              have hlt1 : (k : Int) < (N : Int) := by omega
              have n0 := HK.2.1 (f k) (HFK.out k)
              have n1 := HK.2.1 (f (k - 1)) (HFK.out (k - 1))
              have hnn := neq_nodes n1 n0
              clear HK n0 n1
              by_cases hk0 : k = 0
              · have HCC : Hid (k = 0 ∨ f (k - 1) ≠ f k) := Or.inl hk0
                have hl0 : l = 0 := by rw [HLn.out, hk0]; rfl
                have hd : ((l : Int) == 0) = true := beq_iff_eq.2 (by omega)
                clear hk0 hnn hl0
                go_wp2_with (at_builtin; refine wpList_append_own _ rfl (.tmp 108) (.tmp 110) 43 rfl W3.heap.size 44 i0 _ 1 8 Yba.underlying43 hi hz0 hz1 hz2 rfl (by decide) _ l ((fw f k).map (nodeV w.heap.size)) rfl (HO.out.alloc _) ⟨wr.heap.size, 0, none⟩ 1 1 [nodeV w.heap.size (f k)] rfl rfl (news_one _ _ _) (one_node _ _) ?c3 ?c4 ?c5 ?_)
                case c3 => unfold maxLen; omega
                case c4 => omega
                case c5 => have := HR.out.2.2.size; simp; omega
                intro v' w1 hown' hgrow _
                obtain ⟨a1', cap1, rfl⟩ := owns_form hown'
                have HG1 : Hid (Runs W3 w.heap.size f (k + 1) (.slice a1' (l + 1) cap1) w1) := runs_app HR.out HCC.out (by rw [← HLn.out]; exact hown') hgrow
                clear hown' hgrow
                go_wp2
                go_roundw
                case rel => exact ⟨k + 1, by omega, by go_num, HG1.out⟩
                case measure => simp [intOf]; omega
              · have hl0 : 0 < l := by rw [HLn.out, show k = (k - 1) + 1 by omega]; exact fw_pos f (k - 1)
                have hd : ((l : Int) == 0) = false := beq_eq_false_iff_ne.2 (by omega)
                obtain ⟨g, cap, hv, hg0, hg1, _, hcells⟩ := owned_at HO.out (fun e => by injection e; omega)
                obtain ⟨rfl, rfl⟩ : ra = some ⟨g, 0, none⟩ ∧ rcap = cap := by injection hv with e1 _ e2; exact ⟨e1, e2⟩
                have y1 : wr.cell? ⟨g, l - 1, none⟩ = some (.pointer (some ⟨w.heap.size + 1 + f (k - 1), 0, none⟩)) := hcells _ _ (by
                  rw [HLn.out, List.getElem?_map, ← List.getLast?_eq_getElem?, show k = (k - 1) + 1 by omega, fw_last]; rfl)
                have hm0 : (0 : Int) ≤ (l : Int) - 1 := by omega
                have hm1 : (l : Int) - 1 < (l : Int) := by omega
                have hm2 : ((l : Int) - 1).toNat = l - 1 := by omega
                clear hcells hv
                by_cases hff : f (k - 1) = f k
                · have hb : (f (k - 1) == f k) = true := beq_iff_eq.2 hff
                  have HCC : Hid (¬ (k = 0 ∨ f (k - 1) ≠ f k)) := show ¬ (k = 0 ∨ f (k - 1) ≠ f k) from fun h => h.elim hk0 (fun h => h hff)
                  rw [hb] at hnn
                  clear hff hk0
                  go_wp2
                  go_roundw
                  case rel => exact ⟨k + 1, by omega, by go_num, runs_skip HR.out HCC.out⟩
                  case measure => simp [intOf]; omega
                · have hb : (f (k - 1) == f k) = false := beq_eq_false_iff_ne.2 hff
                  have HCC : Hid (k = 0 ∨ f (k - 1) ≠ f k) := Or.inr hff
                  rw [hb] at hnn
                  clear hff hk0
                  go_wp2_with (at_builtin; refine wpList_append_own _ rfl (.tmp 108) (.tmp 110) 43 rfl W3.heap.size 44 i0 _ 1 8 Yba.underlying43 hi hz0 hz1 hz2 rfl (by decide) _ l ((fw f k).map (nodeV w.heap.size)) rfl (HO.out.alloc _) ⟨wr.heap.size, 0, none⟩ 1 1 [nodeV w.heap.size (f k)] rfl rfl (news_one _ _ _) (one_node _ _) ?c3 ?c4 ?c5 ?_)
                  case c3 => unfold maxLen; omega
                  case c4 => omega
                  case c5 => have := HR.out.2.2.size; simp; omega
                  intro v' w1 hown' hgrow _
                  obtain ⟨a1', cap1, rfl⟩ := owns_form hown'
                  have HG1 : Hid (Runs W3 w.heap.size f (k + 1) (.slice a1' (l + 1) cap1) w1) := runs_app HR.out HCC.out (by rw [← HLn.out]; exact hown') hgrow
                  clear hown' hgrow
                  go_wp2
                  go_roundw
                  case rel => exact ⟨k + 1, by omega, by go_num, HG1.out⟩
                  case measure => simp [intOf]; omega
            · obtain rfl : N = k := by omega
              clear hlt hkk
              rename World => w4
              have HBW4 : Hid (Below w.heap.size w w4) := HBW.out.trans (HR.out.2.2.mono HBW.out.size)
              have HL4 : Hid (Laid w.heap.size kk N L T (T + 1) f a0 s5 (some ⟨L, 0, none⟩) w4) := HLaid.out.kept HR.out.2.2
              obtain ⟨m0, hm0⟩ : ∃ m0 : Int, m0 = if a4 < (l : Int) then a4 else (l : Int) := ⟨_, rfl⟩
              have HM0 : Hid (m0 = if a4 < (l : Int) then a4 else (l : Int)) := hm0
              obtain ⟨mm, hmm⟩ : ∃ mm : Nat, mm = min a4.toNat l := ⟨_, rfl⟩
              have hmx : (m0 < 0 → mm = 0) ∧ (0 ≤ m0 → m0 = (mm : Int)) := by
                rw [hm0, hmm]
                split <;> constructor <;> omega
              have hml : mm ≤ l := by omega
              have HMM : Hid (mm = min a4.toNat l) := hmm
              have HMX : Hid ((m0 < 0 → mm = 0) ∧ (0 ≤ m0 → m0 = (mm : Int))) := hmx
              clear hm0 hmm hmx
              go_upto_if 117 with fail
              go_cut [22] (fun s wx => s = .int .i64 m0 ∧ w4 = wx)
              case first =>
                by_cases ha : a4 < (l : Int)
                · have e : m0 = a4 := by rw [HM0.out, if_pos ha]
                  have hd : decide (a4 < (l : Int)) = true := decide_eq_true ha
                  clear HM0
                  subst e
                  go_wp2
                  go_meet
                  exact ⟨rfl, rfl⟩
                · have e : m0 = (l : Int) := by rw [HM0.out, if_neg ha]
                  have hd : decide (a4 < (l : Int)) = false := decide_eq_false ha
                  clear HM0
                  subst e
                  go_wp2
                  go_meet
                  exact ⟨rfl, rfl⟩
              case rest =>
              obtain ⟨rfl, rfl⟩ := hcut
              go_upto_if 120 with fail
              go_cut [22] (fun s wx => s = .int .i64 (mm : Nat) ∧ w4 = wx)
              case first =>
                by_cases ha : m0 < 0
                · have e : mm = 0 := HMX.out.1 ha
                  have hd : decide (m0 < 0) = true := decide_eq_true ha
                  go_wp2
                  go_meet
                  exact ⟨by rw [e]; rfl, rfl⟩
                · have e : m0 = (mm : Int) := HMX.out.2 (by omega)
                  have hd : decide (m0 < 0) = false := decide_eq_false ha
                  go_wp2
                  go_meet
                  exact ⟨rfl, rfl⟩
              case rest =>
              obtain ⟨rfl, rfl⟩ := hcut
              clear HM0 HMX
              go_upto_region 35 with (go_at_call 11; refine (pred_mm T L w.heap.size N kk (T + 1) mm l f a4 a0 s5 _ w4 hN h4' HFK.out HL4.out HLn.out HMM.out).mono ?_; rintro e w5 ⟨ga, gcap, rfl, hgot⟩)
              have HG : Hid (GotM w4 w.heap.size N mm f a4 ga gcap w5) := hgot
              clear hgot
              go_cut [133] (fun s wx => s = .bool false ∧ w5 = wx)
              case first =>
                by_cases h0 : mm = 0
                · obtain ⟨rfl, rfl⟩ := HG.out.1 h0
                  have hd : ((mm : Int) == 0) = true := beq_iff_eq.2 (by omega)
                  clear h0
                  go_wp2
                  go_meet
                  exact ⟨rfl, rfl⟩
                · have hd : ((mm : Int) == 0) = false := beq_eq_false_iff_ne.2 (by omega)
                  go_wp2
                  go_meet
                  exact ⟨rfl, rfl⟩
              case rest =>
              obtain ⟨rfl, rfl⟩ := hcut
              have nsame := neq_ptr_same
              have HB5 : Hid (Below w4.heap.size w4 w5) := HG.out.2.2
              go_wp2_with fail
              go_loopw [24] (fun i wx => ∃ k q : Nat, k ≤ mm ∧ i = .int .i64 k ∧ wx = w5.drewN q) (fun i _ => mm - (intOf i).toNat)
              case atStart => exact ⟨0, 0, Nat.zero_le _, rfl, rfl⟩
              case round =>
                obtain ⟨k, q, hkm, rfl, rfl⟩ := hrel
                by_cases hlt : k < mm
                · obtain ⟨r, hr1, hr2⟩ := mirror (f := f) (N := N) (m := mm) (k := k) (by rw [← HLn.out]; exact hml) hlt
                  obtain ⟨g, cap, hv, hg0, hg1, _, hcells⟩ := owned_at HO.out (fun e => by injection e; omega)
                  obtain ⟨rfl, rfl⟩ : ra = some ⟨g, 0, none⟩ ∧ rcap = cap := by injection hv with e1 _ e2; exact ⟨e1, e2⟩
                  obtain ⟨g', cap', hv', hg0', hg1', _, hcells'⟩ := owned_at HG.out.2.1 (fun e => by injection e; omega)
                  obtain ⟨rfl, rfl⟩ : ga = some ⟨g', 0, none⟩ ∧ gcap = cap' := by injection hv' with e1 _ e2; exact ⟨e1, e2⟩
                  have y0 : w5.cell? ⟨g', k, none⟩ = some (.pointer (some ⟨w.heap.size + 1 + r, 0, none⟩)) := hcells' _ _ (by
                    rw [List.getElem?_map]
                    have : (bw f N N).take a4.toNat = (bw f N N).take mm := by
                      have h1 : (bw f N N).length = l := by rw [bw_rev, List.length_reverse, ← HLn.out]
                      have h2 := HMM.out
                      by_cases h3 : a4.toNat ≤ l
                      · rw [show mm = a4.toNat by omega]
                      · rw [List.take_of_length_le (by omega), List.take_of_length_le (by omega)]
                    rw [this, hr2]; rfl)
                  have y1 : w5.cell? ⟨g, l - 1 - k, none⟩ = some (.pointer (some ⟨w.heap.size + 1 + r, 0, none⟩)) := (HB5.out.cell (p := ⟨g, l - 1 - k, none⟩) hg1).trans (hcells _ _ (by
                    rw [List.getElem?_map, HLn.out, hr1]; rfl))
                  have hm0 : (0 : Int) ≤ (l : Int) - 1 - (k : Int) := by omega
                  have hm1 : (l : Int) - 1 - (k : Int) < (l : Int) := by omega
                  have hm2 : ((l : Int) - 1 - (k : Int)).toNat = l - 1 - k := by omega
                  have hlt1 : (k : Int) < (mm : Int) := by omega
                  clear hcells hcells' hr1 hr2 hv hv'
                  go_wp2
                  go_quiet (fail)
                  go_wp2
                  go_roundw
                  case rel => exact ⟨k + 1, _, by omega, by go_num, rfl⟩
                  case measure => simp [intOf]; omega
                · obtain rfl : mm = k := by omega
                  clear hlt hkm
                  obtain ⟨gg, hgg⟩ : ∃ gg, (0 < mm → ga = some ⟨gg, 0, none⟩) ∧ Wipe w4 gg mm (w5.drewN q) := by
                    by_cases h0 : mm = 0
                    · exact ⟨0, fun h => by omega, fun h => by omega, below_drewN HB5.out q⟩
                    · obtain ⟨g', cap', cs, hv', hg0', hrow, hlen', _⟩ := owned_row HG.out.2.1 (fun e => by injection e; omega)
                      refine ⟨g', fun _ => by injection hv', fun _ => ⟨cs, hrow, ?_, hg0'⟩, below_drewN HB5.out q⟩
                      have h2 := HMM.out
                      have h1 : (bw f N N).length = l := by rw [bw_rev, List.length_reverse, ← HLn.out]
                      simp at hlen'
                      omega
                  have HGA : Hid (0 < mm → ga = some ⟨gg, 0, none⟩) := hgg.1
                  have HW0 : Hid (Wipe w4 gg mm (w5.drewN q)) := hgg.2
                  clear hgg
                  go_wp2_with fail
                  go_loopw [25] (fun i wx => ∃ k : Nat, k ≤ mm ∧ i = .int .i64 k ∧ Wipe w4 gg mm wx) (fun i _ => mm - (intOf i).toNat)
                  case atStart => exact ⟨0, Nat.zero_le _, rfl, HW0.out⟩
                  case round =>
                    obtain ⟨k, hkm, rfl, hw⟩ := hrel
                    have HW : Hid (Wipe w4 gg mm wr) := hw
                    clear hw
                    by_cases hlt : k < mm
                    · obtain rfl := HGA.out (by omega)
                      obtain ⟨cs, hrow, hlen', _⟩ := HW.out.1 (by omega)
                      obtain ⟨u, hu⟩ : ∃ u, cs[k]? = some u := ⟨_, List.getElem?_eq_getElem (by omega)⟩
                      have y0 := (hrow.cell k).trans hu
                      have f0 := hrow.free k
                      have hlt1 : (k : Int) < (mm : Int) := by omega
                      clear hrow hu hlen'
                      go_wp2
                      go_roundw
                      case rel => exact ⟨k + 1, by omega, by go_num, HW.out.step (by omega)⟩
                      case measure => simp [intOf]; omega
                    · obtain rfl : mm = k := by omega
                      clear hlt hkm
                      rename World => w6
                      have HL6 : Hid (Laid w.heap.size kk N L T (T + 1) f a0 s5 (some ⟨L, 0, none⟩) w6) := HL4.out.kept HW.out.2
                      have HBW6 : Hid (Below w.heap.size w w6) := HBW4.out.trans (HW.out.2.mono HBW4.out.size)
                      have t0 : w6.cell? ⟨T, 0, none⟩ = some (.int .u64 a0) := HL6.out.2.2.2.1.cell 0
                      have t1 : w6.cell? ⟨T, 1, none⟩ = some (.int .i64 s5) := HL6.out.2.2.2.1.cell 1
                      have t2 : w6.cell? ⟨T, 2, none⟩ = some (.slice (some ⟨L, 0, none⟩) N N) := HL6.out.2.2.2.1.cell 2
                      have t3 : w6.cell? ⟨T, 3, none⟩ = some (.int .u64 0) := HL6.out.2.2.2.1.cell 3
                      have t4 : w6.cell? ⟨T, 4, none⟩ = some (.int .i64 0) := HL6.out.2.2.2.1.cell 4
                      have t5 : w6.cell? ⟨T, 5, none⟩ = some (.int .i64 0) := HL6.out.2.2.2.1.cell 5
                      have t6 : w6.cell? ⟨T, 6, none⟩ = some (.pointer none) := HL6.out.2.2.2.1.cell 6
                      have n47 := neq47
                      have g47 := guard47
                      go_wp2_with fail
                      go_loopw [26] (fun i wx => ∃ k q : Nat, k ≤ N ∧ i = .int .i64 k ∧ wx = w6.drewN q) (fun i _ => N - (intOf i).toNat)
                      case atStart => exact ⟨0, 0, Nat.zero_le _, rfl, rfl⟩
                      case round =>
                        obtain ⟨k, q, hkm, rfl, rfl⟩ := hrel
                        by_cases hlt : k < N
                        · have y0 : w6.cell? ⟨L, k, none⟩ = some (.pointer (some ⟨w.heap.size + 1 + f k, 0, none⟩)) := by rw [(HL6.out.2.2.1 (by omega)).2.cell]; exact part_lt _ hlt hlt
                          have y1 : w6.cell? ⟨T + 1, k, none⟩ = some (.pointer (some ⟨w.heap.size + 1 + f k, 0, none⟩)) := by rw [HL6.out.2.2.2.2.cell]; exact part_lt _ hlt hlt
                          have hlt1 : (k : Int) < (N : Int) := by omega
                          go_wp2
                          go_quiet (fail)
                          go_wp2
                          go_roundw
                          case rel => exact ⟨k + 1, _, by omega, by go_num, rfl⟩
                          case measure => simp [intOf]; omega
                        · obtain rfl : N = k := by omega
                          clear hlt hkm
                          go_wp2_with fail
                          go_loopw [27] (fun i wx => ∃ k : Nat, k ≤ kk ∧ i = .int .i64 k ∧ wx = w6.drewN q) (fun i _ => kk - (intOf i).toNat)
                          case atStart => exact ⟨0, Nat.zero_le _, rfl, rfl⟩
                          case round =>
                            obtain ⟨k, hkm, rfl, rfl⟩ := hrel
                            by_cases hlt : k < kk
                            · have y0 : w6.cell? ⟨w.heap.size, k, none⟩ = some (.pointer (some ⟨w.heap.size + 1 + k, 0, none⟩)) := by rw [HL6.out.1.cell]; exact part_lt _ hlt hlt
                              have y1 : w6.cell? ⟨w.heap.size + 1 + k, 1, none⟩ = some (.int .i64 1) := RowAt.cell (HL6.out.2.1 k hlt) 1
                              have y2 : w6.cell? ⟨w.heap.size + 1 + k, 2, none⟩ = some (.slice none 0 0) := RowAt.cell (HL6.out.2.1 k hlt) 2
                              have hlt1 : (k : Int) < (kk : Int) := by omega
                              go_wp2
                              go_roundw
                              case rel => exact ⟨k + 1, by omega, by go_num, trivial⟩
                              case measure => simp [intOf]; omega
                            · obtain rfl : kk = k := by omega
                              go_wp2
                              go_ret
                              exact ⟨rfl, below_drewN HBW6.out q⟩
end Go.Proofs.Ybulkebck
