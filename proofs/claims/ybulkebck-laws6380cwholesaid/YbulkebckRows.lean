/-
  No cell of these rows narrows 'for every input' (looked for: loops, veiled, ifaces, maps, wideKeys, modest, calm, conditions, laid).
  DERIVED. THE GIVEN ROWS OF THIS SEAT. 3 by the template 'for every input the law returns true; each argument reads behind the call as it read before'; 0 by the template 'total and deterministic' (their statements: YbulkebckTotals.lean).
  GIVEN WITH THE SEED: the statements are not yours to turn. If you find one false, say at which input.
  Laid BY PROGRAM, IN A SANDBOX (cutbox-rows.mjs): the forced cells as the released guide's own fill.sh prints them over the translation 408991d15f192752… (all of the seat's roots in one cut). By AI agents, Wed Nov 11 2026. No macro, syntax, notation, axiom, sorry.
-/
import Derived.Test.YbulkebckChecked
import GoSem.Claim
import GoSem.ClaimJoined
import GoSem.ClaimMapViews
import Derived.JoinedTies
import Derived.KernelRfl
namespace Go.Proofs.Ybulkebck
/- THE CELL 'sum', in the pinned program and in every row, IS THE sha256 OF THE DUMP (.gsa) THAT YbulkebckProg.lean LOADS. Nothing in Lean hashes anything: it is a label: what it is worth is what the hold of that sum in a sandbox is worth. -/
noncomputable def Yba.pinned : Pinned := { name := "ybulkebck", sum := "408991d15f19275297d5acb06802e21dca27a3565875266a976fb2284ecfb944", checked := Yba.checked }
namespace Rows
def none {H : Type} : Left H := { results := [], args := [] }

/-- 'ring.LawS6380AWhole': WHATEVER THE INPUT: true; the input reads as it did. -/
def lawS6380AWholeSpec : ChangeSpec := { name := "lawS6380AWhole", fn := fun _ => fun
  | [d1, d2, d3, d4, d5, d6, d7] => { results := [.lit (.bool true)], args := [d1, d2, d3, d4, d5, d6, d7] }
  | _ => none }
def lawS6380AWholeRow : OpenClaim := { program := "ybulkebck", sum := "408991d15f19275297d5acb06802e21dca27a3565875266a976fb2284ecfb944", func := "example.com/annulus/annulus/internal/ring.LawS6380AWhole", spec := "lawS6380AWhole", apart := false }
def LawS6380AWholeSaid : Prop := lawS6380AWholeRow.holds Yba.pinned (OpenSpec.ofChange lawS6380AWholeSpec)

/-- ITS FALSE NEIGHBOUR: 'it returns false'. Refute it at one input. -/
def lawS6380AWholeWrong : ChangeSpec := { name := "lawS6380AWhole", fn := fun _ => fun
  | [d1, d2, d3, d4, d5, d6, d7] => { results := [.lit (.bool false)], args := [d1, d2, d3, d4, d5, d6, d7] }
  | _ => none }
def LawS6380AWholeWrongFalsely : Prop := lawS6380AWholeRow.holds Yba.pinned (OpenSpec.ofChange lawS6380AWholeWrong)

/-- 'ring.LawS6380BWhole': WHATEVER THE INPUT: true; the input reads as it did. -/
def lawS6380BWholeSpec : ChangeSpec := { name := "lawS6380BWhole", fn := fun _ => fun
  | [d1, d2, d3, d4, d5] => { results := [.lit (.bool true)], args := [d1, d2, d3, d4, d5] }
  | _ => none }
def lawS6380BWholeRow : OpenClaim := { program := "ybulkebck", sum := "408991d15f19275297d5acb06802e21dca27a3565875266a976fb2284ecfb944", func := "example.com/annulus/annulus/internal/ring.LawS6380BWhole", spec := "lawS6380BWhole", apart := false }
def LawS6380BWholeSaid : Prop := lawS6380BWholeRow.holds Yba.pinned (OpenSpec.ofChange lawS6380BWholeSpec)

/-- ITS FALSE NEIGHBOUR: 'it returns false'. Refute it at one input. -/
def lawS6380BWholeWrong : ChangeSpec := { name := "lawS6380BWhole", fn := fun _ => fun
  | [d1, d2, d3, d4, d5] => { results := [.lit (.bool false)], args := [d1, d2, d3, d4, d5] }
  | _ => none }
def LawS6380BWholeWrongFalsely : Prop := lawS6380BWholeRow.holds Yba.pinned (OpenSpec.ofChange lawS6380BWholeWrong)

/-- 'ring.LawS6380CWhole': WHATEVER THE INPUT: true; the input reads as it did. -/
def lawS6380CWholeSpec : ChangeSpec := { name := "lawS6380CWhole", fn := fun _ => fun
  | [d1, d2, d3, d4, d5, d6] => { results := [.lit (.bool true)], args := [d1, d2, d3, d4, d5, d6] }
  | _ => none }
def lawS6380CWholeRow : OpenClaim := { program := "ybulkebck", sum := "408991d15f19275297d5acb06802e21dca27a3565875266a976fb2284ecfb944", func := "example.com/annulus/annulus/internal/ring.LawS6380CWhole", spec := "lawS6380CWhole", unfollowed := true, recurses := true, apart := false }
def LawS6380CWholeSaid : Prop := lawS6380CWholeRow.holds Yba.pinned (OpenSpec.ofChange lawS6380CWholeSpec)

/-- ITS FALSE NEIGHBOUR: 'it returns false'. Refute it at one input. -/
def lawS6380CWholeWrong : ChangeSpec := { name := "lawS6380CWhole", fn := fun _ => fun
  | [d1, d2, d3, d4, d5, d6] => { results := [.lit (.bool false)], args := [d1, d2, d3, d4, d5, d6] }
  | _ => none }
def LawS6380CWholeWrongFalsely : Prop := lawS6380CWholeRow.holds Yba.pinned (OpenSpec.ofChange lawS6380CWholeWrong)

end Rows
end Go.Proofs.Ybulkebck
