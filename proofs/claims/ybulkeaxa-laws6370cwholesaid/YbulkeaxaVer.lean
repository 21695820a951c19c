import Derived.Test.YbulkeaxaRows
import Derived.WalkKit
import Derived.WalkSpells
import Derived.Below
import Derived.OneCell
namespace Go.Proofs.Ybulkeaxa
open Go.RowKit
set_option linter.unusedVariables false

/-- What the Go function zzs6370cver gives: the value and the mark. -/
def verOf (vs : List ByteArray) (ps : List Bool) (i : Nat) : ByteArray × Bool :=
  (if vs.length = 0 then ByteArray.empty else vs.getD (i % vs.length) ByteArray.empty, if ps.length = 0 then true else ps.getD (i % ps.length) false)
/-- A version as a value of Go. -/
def verV (v : ByteArray × Bool) : Value := .agg #[.string v.1, .bool v.2]

/-- The first 'n' cells behind the address hold the strings 'ss'. -/
def StrsAt (w : World) (a : Option Addr) (n : Nat) (ss : List ByteArray) : Prop :=
  ss.length = n ∧ (n = 0 ∨ ∃ b off, a = some ⟨b, off, none⟩ ∧ b < w.heap.size ∧ ∀ i, i < n → w.cell? ⟨b, off + i, none⟩ = some (.string (ss.getD i ByteArray.empty)))
def BoolsAt (w : World) (a : Option Addr) (n : Nat) (ss : List Bool) : Prop :=
  ss.length = n ∧ (n = 0 ∨ ∃ b off, a = some ⟨b, off, none⟩ ∧ b < w.heap.size ∧ ∀ i, i < n → w.cell? ⟨b, off + i, none⟩ = some (.bool (ss.getD i false)))
theorem StrsAt.kept {w w' : World} {B : Nat} {a : Option Addr} {n : Nat} {ss : List ByteArray} (h : StrsAt w a n ss) (hb : Below B w w') (hB : w.heap.size ≤ B) : StrsAt w' a n ss := by
  refine ⟨h.1, ?_⟩
  rcases h.2 with h0 | ⟨b, off, e, hlt, hc⟩
  · exact .inl h0
  · exact .inr ⟨b, off, e, Nat.lt_of_lt_of_le hlt hb.size, fun i hi => by rw [hb.cell (p := ⟨b, off + i, none⟩) (by show b < _; omega)]; exact hc i hi⟩
theorem BoolsAt.kept {w w' : World} {B : Nat} {a : Option Addr} {n : Nat} {ss : List Bool} (h : BoolsAt w a n ss) (hb : Below B w w') (hB : w.heap.size ≤ B) : BoolsAt w' a n ss := by
  refine ⟨h.1, ?_⟩
  rcases h.2 with h0 | ⟨b, off, e, hlt, hc⟩
  · exact .inl h0
  · exact .inr ⟨b, off, e, Nat.lt_of_lt_of_le hlt hb.size, fun i hi => by rw [hb.cell (p := ⟨b, off + i, none⟩) (by show b < _; omega)]; exact hc i hi⟩

theorem emod_toNat (i n : Nat) : ((i : Int) % (n : Int)).toNat = i % n := by
  rw [← Int.natCast_emod]; exact Int.toNat_natCast _

set_option maxHeartbeats 800000 in
theorem ver_00 (va : Option Addr) (pa : Option Addr) (vc pc : Nat) (i : Nat) (w : World) (hi : i ≤ 4096) :
    Calls Yba.prog 4 #[.slice va 0 vc, .slice pa 0 pc, .int .i64 i] w fun e w' => e = .returned (verV (ByteArray.empty, true)) ∧ Below w.heap.size w w' := by
  go_enter Yba.func4, Yba.ntmps4
  go_wp2
  exact bodyPost_ret (v := .agg #[.string ByteArray.empty, .bool true]) (by simp [results, Yba.results4, go_sem]; rfl) rfl ⟨rfl, (by repeat (first | exact Below.refl _ _ | refine Below.setCell ?_ (by simp) _ | refine Below.alloc ?_ (by simp) _))⟩

set_option maxHeartbeats 800000 in
theorem ver_10 (vb vo vl : Nat) (s : ByteArray) (pa : Option Addr) (vc pc : Nat) (i : Nat) (w : World) (hi : i ≤ 4096) (hvl : 0 < (vl : Int)) (hvl' : vl ≤ 9223372036854775807) (hvb : vb < w.heap.size) (hv : w.cell? ⟨vb, vo + i % vl, none⟩ = some (.string s)) :
    Calls Yba.prog 4 #[.slice (some ⟨vb, vo, none⟩) vl vc, .slice pa 0 pc, .int .i64 i] w fun e w' => e = .returned (verV (s, true)) ∧ Below w.heap.size w w' := by
  have hv0 : (0 : Int) ≤ (i : Int) % (vl : Int) := Int.emod_nonneg _ (by omega)
  have hv1 : (i : Int) % (vl : Int) < (vl : Int) := Int.emod_lt_of_pos _ hvl
  have hv2 : ((i : Int) % (vl : Int)).toNat = i % vl := emod_toNat _ _
  go_enter Yba.func4, Yba.ntmps4
  go_wp2
  exact bodyPost_ret (v := .agg #[.string s, .bool true]) (by simp [results, Yba.results4, go_sem]) rfl ⟨rfl, (by repeat (first | exact Below.refl _ _ | refine Below.setCell ?_ (by simp) _ | refine Below.alloc ?_ (by simp) _))⟩

set_option maxHeartbeats 800000 in
theorem ver_01 (va : Option Addr) (pb po pl : Nat) (t : Bool) (vc pc : Nat) (i : Nat) (w : World) (hi : i ≤ 4096) (hpl : 0 < (pl : Int)) (hpl' : pl ≤ 9223372036854775807) (hpb : pb < w.heap.size) (hp : w.cell? ⟨pb, po + i % pl, none⟩ = some (.bool t)) :
    Calls Yba.prog 4 #[.slice va 0 vc, .slice (some ⟨pb, po, none⟩) pl pc, .int .i64 i] w fun e w' => e = .returned (verV (ByteArray.empty, t)) ∧ Below w.heap.size w w' := by
  have hp0 : (0 : Int) ≤ (i : Int) % (pl : Int) := Int.emod_nonneg _ (by omega)
  have hp1 : (i : Int) % (pl : Int) < (pl : Int) := Int.emod_lt_of_pos _ hpl
  have hp2 : ((i : Int) % (pl : Int)).toNat = i % pl := emod_toNat _ _
  go_enter Yba.func4, Yba.ntmps4
  go_wp2
  exact bodyPost_ret (v := .agg #[.string ByteArray.empty, .bool t]) (by simp [results, Yba.results4, go_sem]; rfl) rfl ⟨rfl, (by repeat (first | exact Below.refl _ _ | refine Below.setCell ?_ (by simp) _ | refine Below.alloc ?_ (by simp) _))⟩

set_option maxHeartbeats 800000 in
theorem ver_11 (vb vo vl : Nat) (s : ByteArray) (pb po pl : Nat) (t : Bool) (vc pc : Nat) (i : Nat) (w : World) (hi : i ≤ 4096) (hvl : 0 < (vl : Int)) (hvl' : vl ≤ 9223372036854775807) (hvb : vb < w.heap.size) (hv : w.cell? ⟨vb, vo + i % vl, none⟩ = some (.string s)) (hpl : 0 < (pl : Int)) (hpl' : pl ≤ 9223372036854775807) (hpb : pb < w.heap.size) (hp : w.cell? ⟨pb, po + i % pl, none⟩ = some (.bool t)) :
    Calls Yba.prog 4 #[.slice (some ⟨vb, vo, none⟩) vl vc, .slice (some ⟨pb, po, none⟩) pl pc, .int .i64 i] w fun e w' => e = .returned (verV (s, t)) ∧ Below w.heap.size w w' := by
  have hv0 : (0 : Int) ≤ (i : Int) % (vl : Int) := Int.emod_nonneg _ (by omega)
  have hv1 : (i : Int) % (vl : Int) < (vl : Int) := Int.emod_lt_of_pos _ hvl
  have hv2 : ((i : Int) % (vl : Int)).toNat = i % vl := emod_toNat _ _
  have hp0 : (0 : Int) ≤ (i : Int) % (pl : Int) := Int.emod_nonneg _ (by omega)
  have hp1 : (i : Int) % (pl : Int) < (pl : Int) := Int.emod_lt_of_pos _ hpl
  have hp2 : ((i : Int) % (pl : Int)).toNat = i % pl := emod_toNat _ _
  go_enter Yba.func4, Yba.ntmps4
  go_wp2
  exact bodyPost_ret (v := .agg #[.string s, .bool t]) (by simp [results, Yba.results4, go_sem]) rfl ⟨rfl, (by repeat (first | exact Below.refl _ _ | refine Below.setCell ?_ (by simp) _ | refine Below.alloc ?_ (by simp) _))⟩

/-- The contract of zzs6370cver. -/
theorem ver_any (va pa : Option Addr) (vl vc pl pc i : Nat) (vs : List ByteArray) (ps : List Bool) (w : World) (hi : i ≤ 4096) (hvm : vl ≤ maxLen) (hpm : pl ≤ maxLen) (hv : StrsAt w va vl vs) (hp : BoolsAt w pa pl ps) :
    Calls Yba.prog 4 #[.slice va vl vc, .slice pa pl pc, .int .i64 i] w fun e w' => e = .returned (verV (verOf vs ps i)) ∧ Below w.heap.size w w' := by
  unfold maxLen at hvm hpm
  obtain ⟨hvl, hv⟩ := hv
  obtain ⟨hpl, hp⟩ := hp
  by_cases hv0 : vl = 0
  · subst hv0
    by_cases hp0 : pl = 0
    · subst hp0
      have e : verOf vs ps i = (ByteArray.empty, true) := by simp [verOf, hvl, hpl]
      rw [e]; exact ver_00 va pa vc pc i w hi
    · rcases hp with h | ⟨pb, po, rfl, hpb, hc⟩
      · exact absurd h hp0
      · have e : verOf vs ps i = (ByteArray.empty, ps.getD (i % pl) false) := by simp [verOf, hvl, hpl, hp0]
        rw [e]; exact ver_01 va pb po pl _ vc pc i w hi (by omega) hpm hpb (hc _ (Nat.mod_lt _ (by omega)))
  · rcases hv with h | ⟨vb, vo, rfl, hvb, hcv⟩
    · exact absurd h hv0
    by_cases hp0 : pl = 0
    · subst hp0
      have e : verOf vs ps i = (vs.getD (i % vl) ByteArray.empty, true) := by simp [verOf, hvl, hpl, hv0]
      rw [e]; exact ver_10 vb vo vl _ pa vc pc i w hi (by omega) hvm hvb (hcv _ (Nat.mod_lt _ (by omega)))
    · rcases hp with h | ⟨pb, po, rfl, hpb, hc⟩
      · exact absurd h hp0
      · have e : verOf vs ps i = (vs.getD (i % vl) ByteArray.empty, ps.getD (i % pl) false) := by simp [verOf, hvl, hpl, hv0, hp0]
        rw [e]; exact ver_11 vb vo vl _ pb po pl _ vc pc i w hi (by omega) hvm hvb (hcv _ (Nat.mod_lt _ (by omega))) (by omega) hpm hpb (hc _ (Nat.mod_lt _ (by omega)))
end Go.Proofs.Ybulkeaxa
