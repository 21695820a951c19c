import Derived.Test.YbulkeaxaModel
import Derived.Test.YbulkeaxaLocks
import Derived.Maps.OwnSet
namespace Go.Proofs.Ybulkeaxa
open Go.RowKit Go.Maps Go.MuLone
set_option linter.unusedVariables false

/-- How an element of the map reads: a version is itself. -/
def R (v : Value) : Option (DataW Value × List MemPlace) :=
  match v with
  | .agg cs => (match cs.toList with
    | [.string _, .bool _] => some (.held v, [])
    | _ => none)
  | _ => none
theorem R_mk (a : ByteArray) (b : Bool) : R (.agg #[.string a, .bool b]) = some (.held (.agg #[.string a, .bool b]), []) := rfl
theorem R_inv {v : Value} {z : DataW Value × List MemPlace} (h : R v = some z) : ∃ a b, v = .agg #[.string a, .bool b] ∧ z = (.held v, []) := by
  unfold R at h
  split at h
  · rename_i cs
    split at h
    · rename_i a b hl
      cases h
      obtain ⟨l⟩ := cs
      simp only at hl
      subst hl
      exact ⟨a, b, rfl, rfl⟩
    · cases h
  · cases h

theorem law9 : Keyed Yba.prog 9 := string_keyed Yba.underlying9
theorem zero37 (w : World) : (zeroValue 37).run Yba.prog w = .ok (.agg #[.string ⟨#[]⟩, .bool false]) w := by kernel_rfl
abbrev Dat := DataW Value
def zd : Dat := .held (.agg #[.string ⟨#[]⟩, .bool false])

/-- A look-up in the map, in whatever world that owns it. -/
theorem look_run {W : World} {bm n : Nat} {D : Dat} {s : ByteArray} {a : ByteArray} {b : Bool} (hs : s.size ≤ maxLen) (h : W.ownsMap Yba.prog 9 R bm n D) (hD : D.atKey (.string s.data.toList) zd = .held (.agg #[.string a, .bool b])) :
    (Instr.lookup 25 (.map (some bm)) (.string s) false).run Yba.prog W = .ok (.agg #[.string a, .bool b]) W := by
  obtain ⟨v, ps, hrun, hR⟩ := h.lookup law9 Yba.underlying25 (zero37 W) (R_mk _ _) (WideMaps.keyOf_string_mk Yba.underlying9 hs)
  obtain ⟨a', b', rfl, hz⟩ := R_inv hR
  have h2 := congrArg Prod.fst hz
  have h3 : D.atKey (.string s.data.toList) zd = DataW.held (.agg #[.string a', .bool b']) := h2
  rw [hD] at h3
  rw [DataW.held.inj h3]
  exact hrun

theorem row_alloc {w : World} {g : Nat} {e : TypeId} {cs : List Value} (h : RowAt w g e cs) (o : Obj) : RowAt (w.alloc o) g e cs := by
  unfold RowAt
  rw [Below.heap_alloc _ _ _ h.lt]
  exact h

/-- A lock that is taken and let go again leaves its block as it was. -/
theorem below_back {w : World} {mb : Nat} {p u m : Value} (hm : RowAt w mb 35 [p, .int .i32 0, u, m]) (X : Obj) :
    Below w.heap.size w (((w.setCell ⟨mb, 1, none⟩ (.int .i32 1)).alloc X).setCell ⟨mb, 1, none⟩ (.int .i32 0)) := by
  refine ⟨rfl, rfl, rfl, by simp, fun k hk => ?_⟩
  by_cases e : k = mb
  · subst e
    have h3 : RowAt (((w.setCell ⟨k, 1, none⟩ (.int .i32 1)).alloc X).setCell ⟨k, 1, none⟩ (.int .i32 0)) k 35 [p, .int .i32 0, u, m] := (row_alloc (hm.set 1 (.int .i32 1)) X).set 1 (.int .i32 0)
    exact Eq.trans h3 (Eq.symm hm)
  · rw [Below.heap_setCell _ _ _ _ e, Below.heap_alloc _ _ _ (by simpa using hk), Below.heap_setCell _ _ _ _ e]

theorem below_back2 {w : World} {mb : Nat} {p u m : Value} (hm : RowAt w mb 35 [p, .int .i32 0, u, m]) :
    Below w.heap.size w ((w.setCell ⟨mb, 1, none⟩ (.int .i32 1)).setCell ⟨mb, 1, none⟩ (.int .i32 0)) := by
  refine ⟨rfl, rfl, rfl, by simp, fun k hk => ?_⟩
  by_cases e : k = mb
  · subst e
    have h3 : RowAt ((w.setCell ⟨k, 1, none⟩ (.int .i32 1)).setCell ⟨k, 1, none⟩ (.int .i32 0)) k 35 [p, .int .i32 0, u, m] := (hm.set 1 (.int .i32 1)).set 1 (.int .i32 0)
    exact Eq.trans h3 (Eq.symm hm)
  · rw [Below.heap_setCell _ _ _ _ e, Below.heap_setCell _ _ _ _ e]

set_option maxRecDepth 100000 in
set_option maxHeartbeats 1600000 in
theorem get_any (mb bm n : Nat) (D : Dat) (s a : ByteArray) (b : Bool) (w : World) (hm : RowAt w mb 35 [.pointer none, .int .i32 0, .int .u32 0, .map (some bm)]) (hown : w.ownsMap Yba.prog 9 R bm n D) (hne : bm ≠ mb) (hs : s.size ≤ maxLen) (hD : D.atKey (.string s.data.toList) zd = .held (.agg #[.string a, .bool b])) :
    Calls Yba.prog 5 #[.pointer (some ⟨mb, 0, none⟩), .string s] w fun e w' => e = .returned (.agg #[.string a, .bool b]) ∧ Below w.heap.size w w' := by
  have c0 : w.cell? ⟨mb, 1, none⟩ = some (.int .i32 0) := hm.cell 1
  have c2 : w.cell? ⟨mb, 3, none⟩ = some (.map (some bm)) := hm.cell 3
  have f0 : w.frozen? ⟨mb, 1, none⟩ = false := hm.free 1
  have hmb : mb < w.heap.size := hm.lt
  have hW : Hid (((w.setCell ⟨mb, 1, none⟩ (.int .i32 1)).alloc (.cells #[.string ⟨#[]⟩, .bool false] 37)).ownsMap Yba.prog 9 R bm n D) := (hown.setCell (a := ⟨mb, 1, none⟩) hne _).alloc _
  have hrun := look_run hs hW.out hD
  have HM : Hid (RowAt w mb 35 [.pointer none, .int .i32 0, .int .u32 0, .map (some bm)]) := hm
  clear hown hm hD
  go_enter_defers Yba.func5, Yba.ntmps5
  go_wp2_with (go_at_call 9; refine (lock_free muLib ⟨mb, 1, none⟩ _ ?_ ?_).mono ?_; rotate_right; rintro e w' ⟨rfl, rfl⟩)
  · refine leaves_cons (f := 8) (args := #[.pointer (some ⟨mb, 1, none⟩)]) (by simp) (by simp [go_sem]) ?_
    refine (unlock_deferred muLib ⟨mb, 1, none⟩ .returning _ ?_ ?_).mono ?_
    · exact (row_alloc (HM.out.set 1 (.int .i32 1)) _).cell 1
    · exact (row_alloc (HM.out.set 1 (.int .i32 1)) _).free 1
    rintro e u' w'' ⟨rfl, rfl, rfl⟩
    refine ⟨.agg #[.string a, .bool b], ?_, rfl, below_back HM.out _⟩
    simp [results, Yba.results5, go_sem]
  · exact (row_alloc HM.out _).cell 1
  · exact (row_alloc HM.out _).free 1
end Go.Proofs.Ybulkeaxa
