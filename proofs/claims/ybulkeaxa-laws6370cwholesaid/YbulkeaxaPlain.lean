import Derived.Test.YbulkeaxaGet
import Derived.Laws.StructEq
namespace Go.Proofs.Ybulkeaxa
open Go.RowKit Go.Maps Go.MuLone
theorem neq37 (w : World) (a : ByteArray) (b : Bool) : (binOp .neq 37 (.agg #[.string a, .bool b]) (.agg #[.string a, .bool b])).run Yba.prog w = .ok (.bool false) w := by
  have h9 : ∀ d, (Op.equalIn (d + 1) 9 (.string a) (.string a)).run Yba.prog w = .ok true w := fun d => by
    rw [run_equalIn_string w d 9 a a Yba.underlying9]; simp
  have h4 : ∀ d, (Op.equalIn (d + 1) 4 (.bool b) (.bool b)).run Yba.prog w = .ok true w := fun d => by
    rw [run_equalIn_bool w d 4 b b Yba.underlying4]; simp
  have p0 : (part 9 #[Value.string a, Value.bool b] 0).run Yba.prog w = .ok (.string a) w := by kernel_rfl
  have p1 : (part 4 #[Value.string a, Value.bool b] 1).run Yba.prog w = .ok (.bool b) w := by kernel_rfl
  have h : ∀ d : Nat, (Op.equalIn (d + 2) 37 (.agg #[.string a, .bool b]) (.agg #[.string a, .bool b])).run Yba.prog w = .ok true w := fun d => by
    unfold Op.equalIn
    simp [run_underlying Yba.underlying37, p0, p1, h9, h4]
  simp only [binOp]
  simp [Op.equal, Op.maxDepth, h 9998]
theorem guard37 : Yba.prog.eqGuardType Yba.prog.depth 37 = false := by kernel_rfl

/-! ### the plain law: what the map holds is what the model says -/
def DTo (ns vs : List ByteArray) (ps : List Bool) : Nat → Dat
  | 0 => .map []
  | k + 1 => (DTo ns vs ps k).put (.string (ns.getD k ByteArray.empty).data.toList) (.held (verV (verOf vs ps k)))

theorem DTo_isMap (ns vs : List ByteArray) (ps : List Bool) (k : Nat) : IsMap (DTo ns vs ps k) := by
  induction k with
  | zero => exact isMap_empty
  | succ k ih => exact ih.put _ _

theorem bytes_eq {a b : ByteArray} (h : a.data.toList = b.data.toList) : a = b := by
  cases a; cases b
  simp only [ByteArray.mk.injEq]
  exact Array.toList_inj.1 h

theorem toList_iff (a b : ByteArray) : (a.toList == b.toList) = true ↔ a = b := by
  rw [ByteArray.toList_eq, ByteArray.toList_eq]
  constructor
  · intro h; exact bytes_eq (eq_of_beq h)
  · intro h; subst h; simp

theorem DTo_at (ns vs : List ByteArray) (ps : List Bool) (key : ByteArray) (k : Nat) :
    (DTo ns vs ps k).atKey (.string key.data.toList) zd = .held (verV (modelTo ns vs ps key k)) := by
  induction k with
  | zero => rfl
  | succ k ih =>
    cases h : ((ns.getD k ByteArray.empty).toList == key.toList)
    · have hne : ¬ (ns.getD k ByteArray.empty) = key := fun e => by rw [(toList_iff _ _).2 e] at h; cases h
      rw [modelTo_miss h, ← ih]
      exact atKey_put_other (fun e => hne (bytes_eq (by injection e with e1; exact e1.symm))) _ _
    · have he := (toList_iff _ _).1 h
      rw [modelTo_hit h]
      show ((DTo ns vs ps k).put (.string (ns.getD k ByteArray.empty).data.toList) _).atKey _ _ = _
      rw [he]
      exact atKey_put_same (DTo_isMap ns vs ps k) (by trivial) _ _
end Go.Proofs.Ybulkeaxa
