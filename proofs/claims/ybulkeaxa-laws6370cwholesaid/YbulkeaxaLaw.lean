import Derived.Test.YbulkeaxaPlain
import Derived.WalkLawsBesides
import Derived.Deep.RegionWith
import Derived.Deep.RegionHeld3
import Derived.Carry
namespace Go.Proofs.Ybulkeaxa
open Go.RowKit Go.Maps Go.MuLone
set_option linter.unusedVariables false

theorem big (na va pa : Option Addr) (nl nc vl vc pl pc : Nat) (name : ByteArray) (sel : Int) (w : World) (h : 4096 < (nl : Int)) :
    Calls Yba.prog 3 #[.slice na nl nc, .slice va vl vc, .slice pa pl pc, .string name, .int .u8 sel] w fun e w' => e = .returned (.bool true) ∧ Below w.heap.size w w' := by
  go_enter Yba.func3, Yba.ntmps3
  go_wp2
  go_ret
  exact ⟨rfl, Below.refl _ _⟩

/-- What stands in every round of both loops. -/
def Inv (w : World) (ns vs : List ByteArray) (ps : List Bool) (W : World) (k : Nat) : Prop :=
  RowAt W (w.heap.size + 1) 35 [.pointer none, .int .i32 0, .int .u32 0, .map (some w.heap.size)] ∧ W.ownsMap Yba.prog 9 R w.heap.size k (DTo ns vs ps k) ∧ Below w.heap.size w W

theorem Inv.kept {w : World} {ns vs : List ByteArray} {ps : List Bool} {W W' : World} {k : Nat} (h : Inv w ns vs ps W k) (hb : Below W.heap.size W W') : Inv w ns vs ps W' k := by
  obtain ⟨h1, h2, h3⟩ := h
  refine ⟨h1.kept hb h1.lt, ?_, h3.trans (hb.mono h3.size)⟩
  exact h2.kept (row := none) ⟨hb.os, hb.tape, hb.output, hb.size, fun j hj _ => hb.block j hj⟩ (by simp)

theorem Inv.start (w : World) (ns vs : List ByteArray) (ps : List Bool) :
    Inv w ns vs ps ((w.alloc (.map #[] 0)).alloc (.cells #[.pointer none, .int .i32 0, .int .u32 0, .map (some w.heap.size)] 35)) 0 := by
  refine ⟨?_, (World.ownsMap_made w Yba.prog 9 R).alloc _, ?_⟩
  · have := RowAt.new (w.alloc (.map #[] 0)) 35 #[.pointer none, .int .i32 0, .int .u32 0, .map (some w.heap.size)]
    simp only [World.size_alloc] at this
    exact this
  · exact ((Below.refl _ _).alloc (Nat.le_refl _) _).alloc (by simp) _

/-- A round of the first loop: what the region finds behind the call of zzs6370cver, and what the store leaves. -/
theorem build_step {w : World} {ns vs : List ByteArray} {ps : List Bool} {wr w1 : World} {k : Nat} {z s : ByteArray} {t : Bool} (h : Inv w ns vs ps wr k) (hb : Below wr.heap.size wr w1) (hk : k ≤ 4096) (hz : z = ns.getD k ByteArray.empty) (hzl : z.size ≤ maxLen) (hst : verOf vs ps k = (s, t)) {nb o : Nat} (hnb : nb < w.heap.size) (hcn : w.cell? ⟨nb, o, none⟩ = some (.string (ns.getD k ByteArray.empty))) :
    ∃ w2, (Instr.mapUpdate 25 (.map (some w.heap.size)) (.string z) (.agg #[.string s, .bool t])).run Yba.prog w1 = .ok () w2 ∧ Hid (Inv w ns vs ps w2 (k + 1)) ∧ w2.cell? ⟨w.heap.size + 1, 3, none⟩ = some (.map (some w.heap.size)) ∧ w2.cell? ⟨nb, o, none⟩ = some (.string z) := by
  obtain ⟨h1, h2, h3⟩ := h.kept hb
  obtain ⟨w2, hrun, hown, hgrow⟩ := h2.update law9 Yba.underlying25 (by unfold maxLen; omega) (WideMaps.keyOf_string_mk Yba.underlying9 hzl) (R_mk s t)
  have hi : Inv w ns vs ps w2 (k + 1) := by
    refine ⟨?_, ?_, ?_⟩
    · unfold RowAt
      rw [hgrow.block _ h1.lt (by simp)]
      exact h1
    · have e : DTo ns vs ps (k + 1) = (DTo ns vs ps k).put (.string z.data.toList) (.held (.agg #[.string s, .bool t])) := by
        show (DTo ns vs ps k).put _ (.held (verV (verOf vs ps k))) = _
        rw [hst, ← hz]; rfl
      rw [e]
      exact hown
    · exact h3.grown hgrow h3.size (fun j hj => by cases hj; exact Nat.le_refl _)
  exact ⟨w2, hrun, hi, hi.1.cell 3, by rw [hi.2.2.cell (p := ⟨nb, o, none⟩) hnb, hcn, hz]⟩

theorem StrsAt.of {w : World} {b off n : Nat} {ss : List ByteArray} (hl : ss.length = n) (hb : b < w.heap.size) (hc : ∀ i, i < n → w.cell? ⟨b, off + i, none⟩ = some (.string (ss.getD i ByteArray.empty))) : StrsAt w (some ⟨b, off, none⟩) n ss :=
  ⟨hl, .inr ⟨b, off, rfl, hb, hc⟩⟩

theorem got_cells {w1 : World} {a : ByteArray} {b : Bool} : (w1.alloc (.cells #[.string a, .bool b] 37)).cell? ⟨w1.heap.size, 0, none⟩ = some (.string a) ∧ (w1.alloc (.cells #[.string a, .bool b] 37)).cell? ⟨w1.heap.size, 1, none⟩ = some (.bool b) :=
  ⟨(RowAt.new w1 37 #[.string a, .bool b]).cell 0, (RowAt.new w1 37 #[.string a, .bool b]).cell 1⟩
theorem below_got {w w1 : World} {o : Obj} (h : Below w.heap.size w w1) : Below w.heap.size w (w1.alloc o).drew := (h.alloc h.size _).drew

/-- Behind the call of zzs6370cmodel: 'got' as it was laid, the map's struct, its length, and what stands in every round. -/
theorem after_model {w w1 w2 : World} {ns vs : List ByteArray} {ps : List Bool} {k : Nat} {a : ByteArray} {b : Bool} (h : Inv w ns vs ps w1 k) (hb : Below (w1.alloc (.cells #[.string a, .bool b] 37)).drew.heap.size (w1.alloc (.cells #[.string a, .bool b] 37)).drew w2) :
    w2.cell? ⟨w1.heap.size, 0, none⟩ = some (.string a) ∧ w2.cell? ⟨w1.heap.size, 1, none⟩ = some (.bool b) ∧ w2.cell? ⟨w.heap.size + 1, 3, none⟩ = some (.map (some w.heap.size)) ∧
    (∀ ty, (Builtin.len_ #[25] ty #[.map (some w.heap.size)]).run Yba.prog w2 = .ok (.int .i64 (Maps.size (DTo ns vs ps k))) w2) ∧ Hid (Inv w ns vs ps w2 k) := by
  have hb1 : Below (w1.alloc (.cells #[.string a, .bool b] 37)).heap.size (w1.alloc (.cells #[.string a, .bool b] 37)) w2 := ⟨hb.os, hb.tape, hb.output, hb.size, hb.block⟩
  have hr := (RowAt.new w1 37 #[.string a, .bool b]).kept hb1 (by simp)
  have hi : Inv w ns vs ps w2 k := h.kept (((Below.refl _ _).alloc (Nat.le_refl _) _).trans (hb1.mono (by simp)))
  exact ⟨hr.cell 0, hr.cell 1, hi.1.cell 3, hi.2.1.len Yba.underlying25, hi⟩

set_option maxRecDepth 100000 in
set_option maxHeartbeats 1600000 in
theorem law_C (nb no nl nc : Nat) (va pa : Option Addr) (vl vc pl pc : Nat) (ns vs : List ByteArray) (ps : List Bool) (name : ByteArray) (sel : Int) (w : World) (hnl : ns.length = nl) (hn : nl ≤ 4096) (hnp : 0 < (nl : Int)) (hvm : vl ≤ maxLen) (hpm : pl ≤ maxLen)
    (hnb : nb < w.heap.size) (hcn : ∀ i, i < nl → w.cell? ⟨nb, no + i, none⟩ = some (.string (ns.getD i ByteArray.empty))) (hv : StrsAt w va vl vs) (hp : BoolsAt w pa pl ps) (hnm : name.size ≤ maxLen) (hns : ∀ i, i < nl → (ns.getD i ByteArray.empty).size ≤ maxLen)
    (hs0 : 0 ≤ sel) (hs1 : sel ≤ 255) (hsel : (nl : Int) ≤ sel % ((nl : Int) + 1)) :
    Calls Yba.prog 3 #[.slice (some ⟨nb, no, none⟩) nl nc, .slice va vl vc, .slice pa pl pc, .string name, .int .u8 sel] w fun e w' => e = .returned (.bool true) ∧ Below w.heap.size w w' := by
  have HC : Hid (∀ i, i < nl → w.cell? ⟨nb, no + i, none⟩ = some (.string (ns.getD i ByteArray.empty))) := hcn
  have HV : Hid (StrsAt w va vl vs ∧ BoolsAt w pa pl ps) := ⟨hv, hp⟩
  have HS : Hid (StrsAt w (some ⟨nb, no, none⟩) nl ns) := StrsAt.of hnl hnb hcn
  have HN : Hid (∀ i, i < nl → (ns.getD i ByteArray.empty).size ≤ maxLen) := hns
  clear hcn hv hp hns hnl
  have hmm := @run_makeMap Yba.prog
  have hd0 : decide ((4096 : Int) < (nl : Int)) = false := decide_eq_false (by omega)
  have hd1 : decide (0 < nl) = true := decide_eq_true (by omega)
  have hd2 : decide (sel % ((nl : Int) + 1) < (nl : Int)) = false := decide_eq_false (by omega)
  go_enter Yba.func3, Yba.ntmps3
  go_wp2_with fail
  clear hmm
  go_loopw [44] (fun i wr => ∃ (k : Nat), k ≤ nl ∧ i = .int .i64 k ∧ Inv w ns vs ps wr k) (fun i _ => nl - (intOf i).toNat)
  case atStart => exact ⟨0, Nat.zero_le _, rfl, Inv.start w ns vs ps⟩
  case round =>
    obtain ⟨k, hk, rfl, hinv⟩ := hrel
    have hbel := hinv.2.2
    by_cases hlt : k < nl
    · have g1' : wr.cell? ⟨nb, no + k, none⟩ = some (.string (ns.getD k ByteArray.empty)) := (hbel.cell (p := ⟨nb, no + k, none⟩) hnb).trans (HC.out k hlt)
      obtain ⟨z, hz⟩ : ∃ z, z = ns.getD k ByteArray.empty := ⟨_, rfl⟩
      have g1 : wr.cell? ⟨nb, no + k, none⟩ = some (.string z) := by rw [hz]; exact g1'
      have g2 : wr.cell? ⟨w.heap.size + 1, 3, none⟩ = some (.map (some w.heap.size)) := hinv.1.cell 3
      have HZ : Hid (z = ns.getD k ByteArray.empty) := hz
      have HZL : Hid (z.size ≤ maxLen) := by rw [hz]; exact HN.out k hlt
      obtain ⟨s, t, hst⟩ : ∃ s t, verOf vs ps k = (s, t) := ⟨_, _, rfl⟩
      have HST : Hid (verOf vs ps k = (s, t)) := hst
      have hvr := HV.out.1.kept hbel (Nat.le_refl _)
      have hpr := HV.out.2.kept hbel (Nat.le_refl _)
      have HC2 : Hid (Calls Yba.prog 4 #[.slice va vl vc, .slice pa pl pc, .int .i64 k] wr.drew fun e w' => e = .returned (.agg #[.string s, .bool t]) ∧ Below wr.heap.size wr w') :=
        (ver_split va pa vl vc pl pc k vs ps s t hst wr.drew (by omega) hvm hpm hvr hpr).mono (fun e w' h => ⟨h.1, h.2.os, h.2.tape, h.2.output, h.2.size, h.2.block⟩)
      have HI : Hid (Inv w ns vs ps wr k) := hinv
      have hk4 : k ≤ 4096 := by omega
      have hB : w.heap.size + 1 < wr.heap.size := hinv.1.lt
      have hB2 : nb < wr.heap.size := by omega
      have hi : (k : Int) < (nl : Int) := by omega
      clear hz g1' hinv hvr hpr hst hbel
      go_wp2_with fail
      go_region_held3 (fun X => X.cell? ⟨w.heap.size + 1, 3, none⟩ = some (.map (some w.heap.size)) ∧ X.cell? ⟨nb, no + k, none⟩ = some (.string z))
        (first | exact ⟨g2, g1⟩ | exact ⟨g3, g4⟩ | exact ⟨g5, g6⟩)
        (first | (go_at_call 4; refine HC2.out.mono ?_; rintro e w1 ⟨rfl, hb1⟩; obtain ⟨w2, hrun, hinv2, g5, g6⟩ := build_step HI.out hb1 hk4 HZ.out HZL.out HST.out hnb (HC.out k hlt); have g3 := (hb1.cell (p := ⟨w.heap.size + 1, 3, none⟩) hB).trans g2; have g4 := (hb1.cell (p := ⟨nb, no + k, none⟩) hB2).trans g1; clear hb1))
      all_goals
        go_wp2
        go_roundw
        case rel => exact ⟨k + 1, by omega, by go_num, hinv2.out⟩
        case measure => simp [intOf]; omega
    · obtain rfl : k = nl := by omega
      clear hlt hk
      obtain ⟨a, b, hab⟩ : ∃ a b, modelTo ns vs ps name k = (a, b) := ⟨_, _, rfl⟩
      have HAB : Hid (modelTo ns vs ps name k = (a, b)) := hab
      have hDat : Hid ((DTo ns vs ps k).atKey (.string name.data.toList) zd = .held (.agg #[.string a, .bool b])) := by rw [Hid, DTo_at, hab]; rfl
      have g2 : wr.cell? ⟨w.heap.size + 1, 3, none⟩ = some (.map (some w.heap.size)) := hinv.1.cell 3
      have hlen := hinv.2.1.len Yba.underlying25
      have HI : Hid (Inv w ns vs ps wr k) := hinv
      clear hinv hbel hab
      have n37 := neq37
      have g37 := guard37
      have HM : Hid (∀ X, Below w.heap.size w X → Calls Yba.prog 6 #[.slice (some ⟨nb, no, none⟩) k nc, .slice va vl vc, .slice pa pl pc, .string name] X fun e w' => e = .returned (.agg #[.string a, .bool b]) ∧ Below X.heap.size X w') := by
        intro X hX
        have h := model_any (some ⟨nb, no, none⟩) va pa k nc vl vc pl pc ns vs ps name X hn hvm hpm (HS.out.kept hX (Nat.le_refl _)) (HV.out.1.kept hX (Nat.le_refl _)) (HV.out.2.kept hX (Nat.le_refl _))
        rw [HAB.out] at h
        exact h
      go_wp2_with (go_at_call 5; refine (get_any (w.heap.size + 1) w.heap.size k _ name a b _ HI.out.1 HI.out.2.1 (by omega) hnm hDat.out).mono ?_; rintro e w1 ⟨rfl, hb1⟩; have HI1 : Hid (Inv w ns vs ps w1 k) := HI.out.kept hb1; clear hb1)
      obtain ⟨c2, c3⟩ := got_cells (w1 := w1) (a := a) (b := b)
      go_region_held3 (fun X => X.cell? ⟨w1.heap.size, 0, none⟩ = some (.string a) ∧ X.cell? ⟨w1.heap.size, 1, none⟩ = some (.bool b))
        (first | exact ⟨c2, c3⟩ | exact ⟨c0, c1⟩)
        (first | (go_at_call 6; refine (HM.out _ (below_got HI1.out.2.2)).mono ?_; rintro e w2 ⟨rfl, hb2⟩; obtain ⟨c0, c1, g5, hlen2, HI2⟩ := after_model HI1.out hb2; clear hb2))
      all_goals
        go_wp2
        have HI3 : Hid (Inv w ns vs ps w2 k) := HI2
        clear HI HI1 HI2 hlen hlen2 g2 g5 c0 c1 hDat HM
        go_loopw [84] (fun i wx => ∃ (j : Nat), j ≤ k ∧ i = .int .i64 j ∧ Inv w ns vs ps wx k) (fun i _ => k - (intOf i).toNat)
        case atStart => exact ⟨0, Nat.zero_le _, rfl, HI3.out⟩
        case round =>
          obtain ⟨j, hj, rfl, hinv⟩ := hrel
          have hbel := hinv.2.2
          clear HI3
          by_cases hlt : j < k
          · have g1' : wr.cell? ⟨nb, no + j, none⟩ = some (.string (ns.getD j ByteArray.empty)) := (hbel.cell (p := ⟨nb, no + j, none⟩) hnb).trans (HC.out j hlt)
            obtain ⟨z, hz⟩ : ∃ z, z = ns.getD j ByteArray.empty := ⟨_, rfl⟩
            have g1 : wr.cell? ⟨nb, no + j, none⟩ = some (.string z) := by rw [hz]; exact g1'
            have g2 : wr.cell? ⟨w.heap.size + 1, 3, none⟩ = some (.map (some w.heap.size)) := hinv.1.cell 3
            have hzl : z.size ≤ maxLen := by rw [hz]; exact HN.out j hlt
            obtain ⟨s, t, hst⟩ : ∃ s t, modelTo ns vs ps z k = (s, t) := ⟨_, _, rfl⟩
            have HL : Hid (∀ X, Inv w ns vs ps X k → (Instr.lookup 25 (.map (some w.heap.size)) (.string z) false).run Yba.prog X = .ok (.agg #[.string s, .bool t]) X) := fun X hX => look_run hzl hX.2.1 (by rw [DTo_at, hst]; rfl)
            have hrun : (Instr.lookup 25 (.map (some w.heap.size)) (.string z) false).run Yba.prog wr.drew = .ok (.agg #[.string s, .bool t]) wr.drew := HL.out wr.drew (hinv.kept (Below.refl _ _).drew)
            have HM : Hid (Calls Yba.prog 6 #[.slice (some ⟨nb, no, none⟩) k nc, .slice va vl vc, .slice pa pl pc, .string z] wr.drew fun e w' => e = .returned (.agg #[.string s, .bool t]) ∧ Below wr.heap.size wr w') := by
              have h := model_any (some ⟨nb, no, none⟩) va pa k nc vl vc pl pc ns vs ps z wr.drew hn hvm hpm (HS.out.kept hbel.drew (Nat.le_refl _)) (HV.out.1.kept hbel.drew (Nat.le_refl _)) (HV.out.2.kept hbel.drew (Nat.le_refl _))
              rw [hst] at h
              exact h.mono (fun e w' h => ⟨h.1, h.2.os, h.2.tape, h.2.output, h.2.size, h.2.block⟩)
            have hB : w.heap.size + 1 < wr.heap.size := hinv.1.lt
            have hB2 : nb < wr.heap.size := by omega
            have hi : (j : Int) < (k : Int) := by omega
            have HI4 : Hid (Inv w ns vs ps wr k) := hinv
            clear hz g1' hinv hbel hst hzl
            go_wp2_with fail
            go_region_held3 (fun X => X.cell? ⟨w.heap.size + 1, 3, none⟩ = some (.map (some w.heap.size)) ∧ X.cell? ⟨nb, no + j, none⟩ = some (.string z) ∧ (Instr.lookup 25 (.map (some w.heap.size)) (.string z) false).run Yba.prog X = .ok (.agg #[.string s, .bool t]) X)
              (first | exact ⟨g2, g1, hrun⟩ | exact ⟨g3, g4, hrun3⟩)
              (first | (go_at_call 6; refine HM.out.mono ?_; rintro e w3 ⟨rfl, hb3⟩; have HI5 : Hid (Inv w ns vs ps w3 k) := HI4.out.kept hb3; have hrun3 := HL.out w3 HI5.out; have g3 := (hb3.cell (p := ⟨w.heap.size + 1, 3, none⟩) hB).trans g2; have g4 := (hb3.cell (p := ⟨nb, no + j, none⟩) hB2).trans g1; clear hb3))
            all_goals
              go_wp2
              go_roundw
              case rel => exact ⟨j + 1, by omega, by go_num, HI5.out⟩
              case measure => simp [intOf]; omega
          · have HI4 : Hid (Inv w ns vs ps wr k) := hinv
            have c0 : wr.cell? ⟨w.heap.size + 1, 1, none⟩ = some (.int .i32 0) := hinv.1.cell 1
            have f0 : wr.frozen? ⟨w.heap.size + 1, 1, none⟩ = false := hinv.1.free 1
            clear hinv hbel
            go_wp2_with (first | (go_at_call 7; refine (trylock_free ⟨w.heap.size + 1, 1, none⟩ _ c0 f0).mono ?_; rintro e w4 ⟨rfl, rfl⟩) | (go_at_call 8; refine (unlock_held muLib ⟨w.heap.size + 1, 1, none⟩ _ ((HI4.out.1.set 1 (.int .i32 1)).cell 1) ((HI4.out.1.set 1 (.int .i32 1)).free 1)).mono ?_; rintro e w4 ⟨rfl, rfl⟩))
            go_ret
            exact ⟨rfl, HI4.out.2.2.trans ((below_back2 HI4.out.1).mono HI4.out.2.2.size)⟩
end Go.Proofs.Ybulkeaxa
