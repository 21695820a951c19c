/-
  No cell of these rows narrows 'for every input' (looked for: loops, veiled, ifaces, maps, wideKeys, modest, calm, conditions, laid).
  DERIVED. THE GIVEN ROWS OF THIS SEAT. 3 by the template 'for every input the law returns true; each argument reads behind the call as it read before'; 0 by the template 'total and deterministic' (their statements: YbulkebauTotals.lean).
  GIVEN WITH THE SEED: the statements are not yours to turn. If you find one false, say at which input.
  Laid BY PROGRAM, IN A SANDBOX (cutbox-rows.mjs): the forced cells as the released guide's own fill.sh prints them over the translation 702764cabab78863… (all of the seat's roots in one cut). By AI agents, Wed Nov 11 2026. No macro, syntax, notation, axiom, sorry.
-/
import Derived.Test.YbulkebauChecked
import GoSem.Claim
import GoSem.ClaimJoined
import GoSem.ClaimMapViews
import Derived.JoinedTies
import Derived.KernelRfl
namespace Go.Proofs.Ybulkebau
/- THE CELL 'sum', in the pinned program and in every row, IS THE sha256 OF THE DUMP (.gsa) THAT YbulkebauProg.lean LOADS. Nothing in Lean hashes anything: it is a label: what it is worth is what the hold of that sum in a sandbox is worth. -/
noncomputable def Yba.pinned : Pinned := { name := "ybulkebau", sum := "702764cabab78863165d644d1c45988cc128f8b73fe429ec59918b260348a09f", checked := Yba.checked }
namespace Rows
def none {H : Type} : Left H := { results := [], args := [] }

/-- 'palisade.LawS6377AWhole': WHATEVER THE INPUT: true; the input reads as it did. -/
def lawS6377AWholeSpec : ChangeSpec := { name := "lawS6377AWhole", fn := fun _ => fun
  | [d1, d2] => { results := [.lit (.bool true)], args := [d1, d2] }
  | _ => none }
def lawS6377AWholeRow : OpenClaim := { program := "ybulkebau", sum := "702764cabab78863165d644d1c45988cc128f8b73fe429ec59918b260348a09f", func := "example.com/palisade/palisade.LawS6377AWhole", spec := "lawS6377AWhole", plainKeys := false, apart := false }
def LawS6377AWholeSaid : Prop := lawS6377AWholeRow.holds Yba.pinned (OpenSpec.ofChange lawS6377AWholeSpec)

/-- ITS FALSE NEIGHBOUR: 'it returns false'. Refute it at one input. -/
def lawS6377AWholeWrong : ChangeSpec := { name := "lawS6377AWhole", fn := fun _ => fun
  | [d1, d2] => { results := [.lit (.bool false)], args := [d1, d2] }
  | _ => none }
def LawS6377AWholeWrongFalsely : Prop := lawS6377AWholeRow.holds Yba.pinned (OpenSpec.ofChange lawS6377AWholeWrong)

/-- 'palisade.LawS6377BWhole': WHATEVER THE INPUT: true; the input reads as it did. -/
def lawS6377BWholeSpec : ChangeSpec := { name := "lawS6377BWhole", fn := fun _ => fun
  | [d1, d2, d3, d4, d5, d6, d7, d8] => { results := [.lit (.bool true)], args := [d1, d2, d3, d4, d5, d6, d7, d8] }
  | _ => none }
def lawS6377BWholeRow : OpenClaim := { program := "ybulkebau", sum := "702764cabab78863165d644d1c45988cc128f8b73fe429ec59918b260348a09f", func := "example.com/palisade/palisade.LawS6377BWhole", spec := "lawS6377BWhole", unfollowed := true, recurses := true, plainKeys := false, apart := false }
def LawS6377BWholeSaid : Prop := lawS6377BWholeRow.holds Yba.pinned (OpenSpec.ofChange lawS6377BWholeSpec)

/-- ITS FALSE NEIGHBOUR: 'it returns false'. Refute it at one input. -/
def lawS6377BWholeWrong : ChangeSpec := { name := "lawS6377BWhole", fn := fun _ => fun
  | [d1, d2, d3, d4, d5, d6, d7, d8] => { results := [.lit (.bool false)], args := [d1, d2, d3, d4, d5, d6, d7, d8] }
  | _ => none }
def LawS6377BWholeWrongFalsely : Prop := lawS6377BWholeRow.holds Yba.pinned (OpenSpec.ofChange lawS6377BWholeWrong)

/-- 'palisade.LawS6377CWhole': WHATEVER THE INPUT: true; the input reads as it did. -/
def lawS6377CWholeSpec : ChangeSpec := { name := "lawS6377CWhole", fn := fun _ => fun
  | [d1, d2, d3, d4, d5, d6, d7, d8, d9, d10] => { results := [.lit (.bool true)], args := [d1, d2, d3, d4, d5, d6, d7, d8, d9, d10] }
  | _ => none }
def lawS6377CWholeRow : OpenClaim := { program := "ybulkebau", sum := "702764cabab78863165d644d1c45988cc128f8b73fe429ec59918b260348a09f", func := "example.com/palisade/palisade.LawS6377CWhole", spec := "lawS6377CWhole", plainKeys := false, apart := false }
def LawS6377CWholeSaid : Prop := lawS6377CWholeRow.holds Yba.pinned (OpenSpec.ofChange lawS6377CWholeSpec)

/-- ITS FALSE NEIGHBOUR: 'it returns false'. Refute it at one input. -/
def lawS6377CWholeWrong : ChangeSpec := { name := "lawS6377CWhole", fn := fun _ => fun
  | [d1, d2, d3, d4, d5, d6, d7, d8, d9, d10] => { results := [.lit (.bool false)], args := [d1, d2, d3, d4, d5, d6, d7, d8, d9, d10] }
  | _ => none }
def LawS6377CWholeWrongFalsely : Prop := lawS6377CWholeRow.holds Yba.pinned (OpenSpec.ofChange lawS6377CWholeWrong)

end Rows
end Go.Proofs.Ybulkebau
