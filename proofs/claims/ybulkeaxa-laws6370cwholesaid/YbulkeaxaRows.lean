/-
  No cell of these rows narrows 'for every input' (looked for: loops, veiled, ifaces, maps, wideKeys, modest, calm, conditions, laid).
  DERIVED. THE GIVEN ROWS OF THIS SEAT. 1 by the template 'for every input the law returns true; each argument reads behind the call as it read before'; 0 by the template 'total and deterministic' (their statements: YbulkeaxaTotals.lean).
  GIVEN WITH THE SEED: the statements are not yours to turn. If you find one false, say at which input.
  Laid BY PROGRAM, IN A SANDBOX (cutbox-rows.mjs): the forced cells as the released guide's own fill.sh prints them over the translation a786d046f0db4b36… (all of the seat's roots in one cut). By AI agents, Wed Nov 11 2026. No macro, syntax, notation, axiom, sorry.
-/
import Derived.Test.YbulkeaxaChecked
import GoSem.Claim
import GoSem.ClaimJoined
import GoSem.ClaimMapViews
import Derived.JoinedTies
import Derived.KernelRfl
namespace Go.Proofs.Ybulkeaxa
/- THE CELL 'sum', in the pinned program and in every row, IS THE sha256 OF THE DUMP (.gsa) THAT YbulkeaxaProg.lean LOADS. Nothing in Lean hashes anything: it is a label: what it is worth is what the hold of that sum in a sandbox is worth. -/
noncomputable def Yba.pinned : Pinned := { name := "ybulkeaxa", sum := "a786d046f0db4b36efd96dfd58288cf50d83c54a0019e3c04b527e8244059bbb", checked := Yba.checked }
namespace Rows
def none {H : Type} : Left H := { results := [], args := [] }

/-- 'recordmap.LawS6370CWhole': WHATEVER THE INPUT: true; the input reads as it did. -/
def lawS6370CWholeSpec : ChangeSpec := { name := "lawS6370CWhole", fn := fun _ => fun
  | [d1, d2, d3, d4, d5] => { results := [.lit (.bool true)], args := [d1, d2, d3, d4, d5] }
  | _ => none }
def lawS6370CWholeRow : OpenClaim := { program := "ybulkeaxa", sum := "a786d046f0db4b36efd96dfd58288cf50d83c54a0019e3c04b527e8244059bbb", func := "example.com/holdfast/holdfast/internal/recordmap.LawS6370CWhole", spec := "lawS6370CWhole", inPlace := ["(*internal/sync.Mutex).Lock", "internal/race.Disable", "sync/atomic.CompareAndSwapInt32", "internal/race.Enable", "internal/race.Acquire", "(*internal/sync.Mutex).lockSlow", "internal/sync.runtime_canSpin", "internal/sync.runtime_doSpin", "internal/sync.throw", "internal/sync.runtime_nanotime", "internal/sync.runtime_SemacquireMutex", "sync/atomic.AddInt32", "(*internal/sync.Mutex).Unlock", "internal/race.ReleaseMerge", "(*internal/sync.Mutex).unlockSlow", "internal/sync.fatal", "internal/sync.runtime_Semrelease", "(*internal/sync.Mutex).TryLock"], apart := false }
def LawS6370CWholeSaid : Prop := lawS6370CWholeRow.holds Yba.pinned (OpenSpec.ofChange lawS6370CWholeSpec)

/-- ITS FALSE NEIGHBOUR: 'it returns false'. Refute it at one input. -/
def lawS6370CWholeWrong : ChangeSpec := { name := "lawS6370CWhole", fn := fun _ => fun
  | [d1, d2, d3, d4, d5] => { results := [.lit (.bool false)], args := [d1, d2, d3, d4, d5] }
  | _ => none }
def LawS6370CWholeWrongFalsely : Prop := lawS6370CWholeRow.holds Yba.pinned (OpenSpec.ofChange lawS6370CWholeWrong)

end Rows
end Go.Proofs.Ybulkeaxa
