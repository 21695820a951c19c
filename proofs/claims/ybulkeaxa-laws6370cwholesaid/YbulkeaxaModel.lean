import Derived.Test.YbulkeaxaVer
namespace Go.Proofs.Ybulkeaxa
open Go.RowKit
set_option linter.unusedVariables false

/-- What zzs6370cmodel has in hand behind k rounds. -/
def modelTo (ns vs : List ByteArray) (ps : List Bool) (key : ByteArray) : Nat → ByteArray × Bool
  | 0 => (ByteArray.empty, false)
  | k + 1 => if ((ns.getD k ByteArray.empty).toList == key.toList) = true then verOf vs ps k else modelTo ns vs ps key k

def RowAt (w : World) (g : Nat) (e : TypeId) (cs : List Value) : Prop := w.heap[g]? = some (.cells cs.toArray e (0, 0))
theorem RowAt.cell {w : World} {g : Nat} {e : TypeId} {cs : List Value} (h : RowAt w g e cs) (i : Nat) : w.cell? ⟨g, i, none⟩ = cs[i]? := by
  rw [cell_of_row w g i cs.toArray e (0, 0) h]
  simp
theorem RowAt.free {w : World} {g : Nat} {e : TypeId} {cs : List Value} (h : RowAt w g e cs) (i : Nat) : w.frozen? ⟨g, i, none⟩ = false :=
  frozen_of_row w g i cs.toArray e h
theorem RowAt.lt {w : World} {g : Nat} {e : TypeId} {cs : List Value} (h : RowAt w g e cs) : g < w.heap.size := by
  unfold RowAt at h
  exact (Array.getElem?_eq_some_iff.1 h).1
theorem RowAt.set {w : World} {g : Nat} {e : TypeId} {cs : List Value} (h : RowAt w g e cs) (i : Nat) (u : Value) : RowAt (w.setCell ⟨g, i, none⟩ u) g e (cs.set i u) := by
  have := heap_setCell_same w g i cs.toArray e u h
  unfold RowAt
  rw [this]
  simp
theorem RowAt.other {w : World} {g : Nat} {e : TypeId} {cs : List Value} (h : RowAt w g e cs) {p : Addr} (hp : g ≠ p.block) (u : Value) : RowAt (w.setCell p u) g e cs := by
  unfold RowAt
  rw [Below.heap_setCell _ _ _ _ hp]
  exact h
theorem RowAt.new (w : World) (e : TypeId) (cs : Array Value) : RowAt (w.alloc (.cells cs e)) w.heap.size e cs.toList := by
  unfold RowAt
  rw [heap_alloc_new]
theorem RowAt.kept {w w' : World} {B g : Nat} {e : TypeId} {cs : List Value} (h : RowAt w g e cs) (hb : Below B w w') (hg : g < B) : RowAt w' g e cs := by
  unfold RowAt
  rw [hb.block g hg]
  exact h

set_option maxHeartbeats 800000 in
theorem model_zero (na va pa : Option Addr) (nc vl vc pl pc : Nat) (key : ByteArray) (w : World) :
    Calls Yba.prog 6 #[.slice na 0 nc, .slice va vl vc, .slice pa pl pc, .string key] w fun e w' => e = .returned (verV (ByteArray.empty, false)) ∧ Below w.heap.size w w' := by
  go_enter Yba.func6, Yba.ntmps6
  go_wp2
  refine wp_loop_rounds 1 ?_
  rw [rounds_succ]
  go_wp2
  exact bodyPost_ret (v := .agg #[.string ByteArray.empty, .bool false]) (by simp [results, Yba.results6, go_sem]; rfl) rfl ⟨rfl, (by repeat (first | exact Below.refl _ _ | refine Below.setCell ?_ (by simp) _ | refine Below.alloc ?_ (by simp) _))⟩

theorem modelTo_hit {ns vs : List ByteArray} {ps : List Bool} {key : ByteArray} {k : Nat} (h : ((ns.getD k ByteArray.empty).toList == key.toList) = true) : modelTo ns vs ps key (k + 1) = verOf vs ps k := by
  simp only [modelTo]; rw [if_pos h]
theorem modelTo_miss {ns vs : List ByteArray} {ps : List Bool} {key : ByteArray} {k : Nat} (h : ((ns.getD k ByteArray.empty).toList == key.toList) = false) : modelTo ns vs ps key (k + 1) = modelTo ns vs ps key k := by
  simp only [modelTo]; rw [if_neg (by rw [h]; simp)]

theorem ver_split (va pa : Option Addr) (vl vc pl pc i : Nat) (vs : List ByteArray) (ps : List Bool) (s : ByteArray) (t : Bool) (e : verOf vs ps i = (s, t)) (w : World) (hi : i ≤ 4096) (hvm : vl ≤ maxLen) (hpm : pl ≤ maxLen) (hv : StrsAt w va vl vs) (hp : BoolsAt w pa pl ps) :
    Calls Yba.prog 4 #[.slice va vl vc, .slice pa pl pc, .int .i64 i] w fun e w' => e = .returned (.agg #[.string s, .bool t]) ∧ Below w.heap.size w w' := by
  have h := ver_any va pa vl vc pl pc i vs ps w hi hvm hpm hv hp
  rw [e] at h
  exact h

/-- Behind the call of zzs6370cver: the cells of 'want' as the store finds them; and what stands behind the store. -/
theorem after_ver {W : Nat} {w wr w1 : World} {a0 : ByteArray} {a1 : Bool} {l0 : List Value} (h : RowAt wr W 37 l0 ∧ RowAt wr (W + 1) 37 [.string a0, .bool a1] ∧ Below W w wr) (hb : Below wr.heap.size wr w1) (s : ByteArray) (t : Bool) :
    w1.cell? ⟨W + 1, 0, none⟩ = some (.string a0) ∧ w1.cell? ⟨W + 1, 1, none⟩ = some (.bool a1) ∧ w1.frozen? ⟨W + 1, 0, none⟩ = false ∧ w1.frozen? ⟨W + 1, 1, none⟩ = false ∧
    Hid (RowAt ((w1.setCell ⟨W + 1, 0, none⟩ (.string s)).setCell ⟨W + 1, 1, none⟩ (.bool t)) W 37 l0 ∧ RowAt ((w1.setCell ⟨W + 1, 0, none⟩ (.string s)).setCell ⟨W + 1, 1, none⟩ (.bool t)) (W + 1) 37 [.string s, .bool t] ∧
      Below W w ((w1.setCell ⟨W + 1, 0, none⟩ (.string s)).setCell ⟨W + 1, 1, none⟩ (.bool t))) := by
  obtain ⟨h0, h1, h2⟩ := h
  have k0 := h0.kept hb h0.lt
  have k1 := h1.kept hb h1.lt
  refine ⟨k1.cell 0, k1.cell 1, k1.free 0, k1.free 1, ?_, ?_, ?_⟩
  · exact (k0.other (by simp) _).other (by simp) _
  · exact (k1.set 0 (.string s)).set 1 (.bool t)
  · exact ((h2.trans (hb.mono (by have := h0.lt; omega))).setCell (by simp) _).setCell (by simp) _

set_option maxRecDepth 100000 in
set_option maxHeartbeats 1600000 in
theorem model_some (nb no nl nc : Nat) (va pa : Option Addr) (vl vc pl pc : Nat) (ns vs : List ByteArray) (ps : List Bool) (key : ByteArray) (w : World) (hn : nl ≤ 4096) (hvm : vl ≤ maxLen) (hpm : pl ≤ maxLen)
    (hnb : nb < w.heap.size) (hcn : ∀ i, i < nl → w.cell? ⟨nb, no + i, none⟩ = some (.string (ns.getD i ByteArray.empty))) (hv : StrsAt w va vl vs) (hp : BoolsAt w pa pl ps) :
    Calls Yba.prog 6 #[.slice (some ⟨nb, no, none⟩) nl nc, .slice va vl vc, .slice pa pl pc, .string key] w fun e w' => e = .returned (verV (modelTo ns vs ps key nl)) ∧ Below w.heap.size w w' := by
  have HC : Hid (∀ i, i < nl → w.cell? ⟨nb, no + i, none⟩ = some (.string (ns.getD i ByteArray.empty))) := hcn
  clear hcn
  go_enter Yba.func6, Yba.ntmps6
  go_wp2
  go_loopw [14] (fun i wr => ∃ (k : Nat), k ≤ nl ∧ i = .int .i64 k ∧ RowAt wr w.heap.size 37 [.string ByteArray.empty, .bool false] ∧ RowAt wr (w.heap.size + 1) 37 [.string (modelTo ns vs ps key k).1, .bool (modelTo ns vs ps key k).2] ∧ Below w.heap.size w wr) (fun i _ => nl - (intOf i).toNat)
  case atStart =>
    refine ⟨0, Nat.zero_le _, rfl, ?_, ?_, ?_⟩
    · exact (RowAt.new w 37 _).kept (B := w.heap.size + 1) ((Below.refl _ _).alloc (by simp) _) (by omega)
    · have := RowAt.new (w.alloc (Obj.cells #[Value.string { data := #[] }, Value.bool false] 37)) 37 #[Value.string { data := #[] }, Value.bool false]
      simp only [World.size_alloc] at this
      exact this
    · repeat (first | exact Below.refl _ _ | refine Below.alloc ?_ (by simp) _)
  case round =>
    obtain ⟨k, hk, rfl, hr0, hr1, hbel⟩ := hrel
    by_cases hlt : k < nl
    · have g1' : wr.cell? ⟨nb, no + k, none⟩ = some (.string (ns.getD k ByteArray.empty)) := (hbel.cell (p := ⟨nb, no + k, none⟩) hnb).trans (HC.out k hlt)
      obtain ⟨z, hz⟩ : ∃ z, z = ns.getD k ByteArray.empty := ⟨_, rfl⟩
      have g1 : wr.cell? ⟨nb, no + k, none⟩ = some (.string z) := by rw [hz]; exact g1'
      have hvr := hv.kept hbel (Nat.le_refl _)
      have hpr := hp.kept hbel (Nat.le_refl _)
      cases hkey : (z.toList == key.toList)
      · have R1 : Hid (modelTo ns vs ps key (k + 1) = modelTo ns vs ps key k) := modelTo_miss (by rw [← hz]; exact hkey)
        have R2 : Hid (RowAt wr w.heap.size 37 [.string ByteArray.empty, .bool false] ∧ RowAt wr (w.heap.size + 1) 37 [.string (modelTo ns vs ps key k).1, .bool (modelTo ns vs ps key k).2] ∧ Below w.heap.size w wr) := ⟨hr0, hr1, hbel⟩
        clear hz g1' hr0 hr1 hbel hv hp hvr hpr
        go_wp2
        go_roundw
        case rel => exact ⟨k + 1, by omega, by go_num, R2.out.1, by rw [R1.out]; exact R2.out.2.1, R2.out.2.2⟩
        case measure => simp [intOf]; omega
      · obtain ⟨s, t, hst⟩ : ∃ s t, verOf vs ps k = (s, t) := ⟨_, _, rfl⟩
        have hc := ver_split va pa vl vc pl pc k vs ps s t hst wr (by omega) hvm hpm hvr hpr
        have HC2 : Hid (Calls Yba.prog 4 #[.slice va vl vc, .slice pa pl pc, .int .i64 k] wr fun e w' => e = .returned (.agg #[.string s, .bool t]) ∧ Below wr.heap.size wr w') := hc
        have R1 : Hid (modelTo ns vs ps key (k + 1) = (s, t)) := by rw [← hst]; exact modelTo_hit (by rw [← hz]; exact hkey)
        have R2 : Hid (RowAt wr w.heap.size 37 [.string ByteArray.empty, .bool false] ∧ RowAt wr (w.heap.size + 1) 37 [.string (modelTo ns vs ps key k).1, .bool (modelTo ns vs ps key k).2] ∧ Below w.heap.size w wr) := ⟨hr0, hr1, hbel⟩
        clear hz g1' hr0 hr1 hbel hv hp hvr hpr hc hst
        go_wp2_with (go_at_call 4; refine HC2.out.mono ?_; rintro e w1 ⟨rfl, hb1⟩; obtain ⟨q0, q1, q2, q3, R4⟩ := after_ver R2.out hb1 s t; clear hb1)
        go_roundw
        case rel => exact ⟨k + 1, by omega, by go_num, R4.out.1, by rw [R1.out]; exact R4.out.2.1, R4.out.2.2⟩
        case measure => simp [intOf]; omega
    · have R2 : Hid (RowAt wr w.heap.size 37 [.string ByteArray.empty, .bool false] ∧ RowAt wr (w.heap.size + 1) 37 [.string (modelTo ns vs ps key k).1, .bool (modelTo ns vs ps key k).2] ∧ Below w.heap.size w wr) := ⟨hr0, hr1, hbel⟩
      obtain rfl : k = nl := by omega
      obtain ⟨s, t, hst⟩ : ∃ s t, modelTo ns vs ps key k = (s, t) := ⟨_, _, rfl⟩
      rw [hst] at hr1 R2
      have c0 := hr1.cell 0
      have c1 := hr1.cell 1
      have d0 := hr0.cell 0
      have d1 := hr0.cell 1
      have f0 := hr0.free 0
      have f1 := hr0.free 1
      simp at c0 c1 d0 d1
      have R1 : Hid (modelTo ns vs ps key k = (s, t)) := hst
      clear hr0 hr1 hst hbel hv hp
      go_wp2
      exact bodyPost_ret (v := .agg #[.string s, .bool t]) (by simp [results, Yba.results6, go_sem, d0, d1]) rfl ⟨by rw [R1.out]; rfl, (R2.out.2.2.setCell (Nat.le_refl _) _).setCell (Nat.le_refl _) _⟩
/-- The contract of zzs6370cmodel. -/
theorem model_any (na va pa : Option Addr) (nl nc vl vc pl pc : Nat) (ns vs : List ByteArray) (ps : List Bool) (key : ByteArray) (w : World) (hn : nl ≤ 4096) (hvm : vl ≤ maxLen) (hpm : pl ≤ maxLen)
    (hns : StrsAt w na nl ns) (hv : StrsAt w va vl vs) (hp : BoolsAt w pa pl ps) :
    Calls Yba.prog 6 #[.slice na nl nc, .slice va vl vc, .slice pa pl pc, .string key] w fun e w' => e = .returned (verV (modelTo ns vs ps key nl)) ∧ Below w.heap.size w w' := by
  obtain ⟨hl, hns⟩ := hns
  rcases hns with h0 | ⟨b, off, rfl, hlt, hc⟩
  · subst h0
    exact model_zero na va pa nc vl vc pl pc key w
  · exact model_some b off nl nc va pa vl vc pl pc ns vs ps key w hn hvm hpm hlt hc hv hp
end Go.Proofs.Ybulkeaxa
