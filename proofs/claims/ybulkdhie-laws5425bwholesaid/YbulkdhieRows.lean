/-
  No cell of these rows narrows 'for every input' (looked for: loops, veiled, ifaces, maps, wideKeys, modest, calm, conditions, laid).
  DERIVED. THE GIVEN ROWS OF THIS SEAT. 3 by the template 'for every input the law returns true; each argument reads behind the call as it read before'; 0 by the template 'total and deterministic' (their statements: YbulkdhieTotals.lean).
  GIVEN WITH THE SEED: the statements are not yours to turn. If you find one false, say at which input.
  Laid BY PROGRAM, IN A SANDBOX (cutbox-rows.mjs): the forced cells as the released guide's own fill.sh prints them over the translation 544807b5e3531f8a… (all of the seat's roots in one cut). By AI agents, Wed Nov 11 2026. No macro, syntax, notation, axiom, sorry.
-/
import Derived.Test.YbulkdhieChecked
import GoSem.Claim
import GoSem.ClaimJoined
import GoSem.ClaimMapViews
import Derived.JoinedTies
import Derived.KernelRfl
namespace Go.Proofs.Ybulkdhie
/- THE CELL 'sum', in the pinned program and in every row, IS THE sha256 OF THE DUMP (.gsa) THAT YbulkdhieProg.lean LOADS. Nothing in Lean hashes anything: it is a label: what it is worth is what the hold of that sum in a sandbox is worth. -/
noncomputable def Yba.pinned : Pinned := { name := "ybulkdhie", sum := "544807b5e3531f8a53d61011479efadc61aaa86f0d18e2ebfd351479aa3d60c9", checked := Yba.checked }
namespace Rows
def none {H : Type} : Left H := { results := [], args := [] }

/-- 'forkstream.LawS5425AWhole': WHATEVER THE INPUT: true; the input reads as it did. -/
def lawS5425AWholeSpec : ChangeSpec := { name := "lawS5425AWhole", fn := fun _ => fun
  | [d] => { results := [.lit (.bool true)], args := [d] }
  | _ => none }
def lawS5425AWholeRow : OpenClaim := { program := "ybulkdhie", sum := "544807b5e3531f8a53d61011479efadc61aaa86f0d18e2ebfd351479aa3d60c9", func := "example.com/forkstream/forkstream.LawS5425AWhole", spec := "lawS5425AWhole", apart := false }
def LawS5425AWholeSaid : Prop := lawS5425AWholeRow.holds Yba.pinned (OpenSpec.ofChange lawS5425AWholeSpec)

/-- ITS FALSE NEIGHBOUR: 'it returns false'. Refute it at one input. -/
def lawS5425AWholeWrong : ChangeSpec := { name := "lawS5425AWhole", fn := fun _ => fun
  | [d] => { results := [.lit (.bool false)], args := [d] }
  | _ => none }
def LawS5425AWholeWrongFalsely : Prop := lawS5425AWholeRow.holds Yba.pinned (OpenSpec.ofChange lawS5425AWholeWrong)

/-- 'forkstream.LawS5425BWhole': WHATEVER THE INPUT: true; the input reads as it did. -/
def lawS5425BWholeSpec : ChangeSpec := { name := "lawS5425BWhole", fn := fun _ => fun
  | [d1, d2] => { results := [.lit (.bool true)], args := [d1, d2] }
  | _ => none }
def lawS5425BWholeRow : OpenClaim := { program := "ybulkdhie", sum := "544807b5e3531f8a53d61011479efadc61aaa86f0d18e2ebfd351479aa3d60c9", func := "example.com/forkstream/forkstream.LawS5425BWhole", spec := "lawS5425BWhole", inPlace := ["(*sync.WaitGroup).Add", "internal/race.ReleaseMerge", "internal/race.Disable", "internal/race.Enable", "internal/synctest.IsInBubble", "internal/synctest.Associate[sync.WaitGroup]", "sync.fatal", "sync/atomic.OrUint64", "sync/atomic.AddUint64", "internal/race.Read", "sync/atomic.LoadUint64", "sync/atomic.StoreUint64", "internal/synctest.Disassociate[sync.WaitGroup]", "sync.runtime_Semrelease", "(*sync.WaitGroup).Done", "(*sync.WaitGroup).Wait", "internal/race.Acquire", "internal/synctest.IsAssociated[sync.WaitGroup]", "sync/atomic.CompareAndSwapUint64", "internal/race.Write", "sync.runtime_SemacquireWaitGroup"], unfollowed := true, recurses := true, apart := false }
def LawS5425BWholeSaid : Prop := lawS5425BWholeRow.holds Yba.pinned (OpenSpec.ofChange lawS5425BWholeSpec)

/-- ITS FALSE NEIGHBOUR: 'it returns false'. Refute it at one input. -/
def lawS5425BWholeWrong : ChangeSpec := { name := "lawS5425BWhole", fn := fun _ => fun
  | [d1, d2] => { results := [.lit (.bool false)], args := [d1, d2] }
  | _ => none }
def LawS5425BWholeWrongFalsely : Prop := lawS5425BWholeRow.holds Yba.pinned (OpenSpec.ofChange lawS5425BWholeWrong)

/-- 'forkstream.LawS5425CWhole': WHATEVER THE INPUT: true; the input reads as it did. -/
def lawS5425CWholeSpec : ChangeSpec := { name := "lawS5425CWhole", fn := fun _ => fun
  | [d1, d2, d3, d4, d5] => { results := [.lit (.bool true)], args := [d1, d2, d3, d4, d5] }
  | _ => none }
def lawS5425CWholeRow : OpenClaim := { program := "ybulkdhie", sum := "544807b5e3531f8a53d61011479efadc61aaa86f0d18e2ebfd351479aa3d60c9", func := "example.com/forkstream/forkstream.LawS5425CWhole", spec := "lawS5425CWhole", recurses := true, apart := false }
def LawS5425CWholeSaid : Prop := lawS5425CWholeRow.holds Yba.pinned (OpenSpec.ofChange lawS5425CWholeSpec)

/-- ITS FALSE NEIGHBOUR: 'it returns false'. Refute it at one input. -/
def lawS5425CWholeWrong : ChangeSpec := { name := "lawS5425CWhole", fn := fun _ => fun
  | [d1, d2, d3, d4, d5] => { results := [.lit (.bool false)], args := [d1, d2, d3, d4, d5] }
  | _ => none }
def LawS5425CWholeWrongFalsely : Prop := lawS5425CWholeRow.holds Yba.pinned (OpenSpec.ofChange lawS5425CWholeWrong)

end Rows
end Go.Proofs.Ybulkdhie
