/-
  No cell of these rows narrows 'for every input' (looked for: loops, veiled, ifaces, maps, wideKeys, modest, calm, conditions, laid).
  DERIVED. THE GIVEN ROWS OF THIS SEAT. 2 by the template 'for every input the law returns true; each argument reads behind the call as it read before'; 0 by the template 'total and deterministic' (their statements: YbulkdhhqTotals.lean).
  GIVEN WITH THE SEED: the statements are not yours to turn. If you find one false, say at which input.
  Laid BY PROGRAM, IN A SANDBOX (cutbox-rows.mjs): the forced cells as the released guide's own fill.sh prints them over the translation 236278bb098ce91a… (all of the seat's roots in one cut). By AI agents, Wed Nov 11 2026. No macro, syntax, notation, axiom, sorry.
-/
import Derived.Test.YbulkdhhqChecked
import GoSem.Claim
import GoSem.ClaimJoined
import GoSem.ClaimMapViews
import Derived.JoinedTies
import Derived.KernelRfl
namespace Go.Proofs.Ybulkdhhq
/- THE CELL 'sum', in the pinned program and in every row, IS THE sha256 OF THE DUMP (.gsa) THAT YbulkdhhqProg.lean LOADS. Nothing in Lean hashes anything: it is a label: what it is worth is what the hold of that sum in a sandbox is worth. -/
noncomputable def Yba.pinned : Pinned := { name := "ybulkdhhq", sum := "236278bb098ce91a3c2ce40c1eb05ca247231125127b33761814893fed5e48a0", checked := Yba.checked }
namespace Rows
def none {H : Type} : Left H := { results := [], args := [] }

/-- 'journal.LawS5424BWhole': WHATEVER THE INPUT: true; the input reads as it did. -/
def lawS5424BWholeSpec : ChangeSpec := { name := "lawS5424BWhole", fn := fun _ => fun
  | [d1, d2, d3] => { results := [.lit (.bool true)], args := [d1, d2, d3] }
  | _ => none }
def lawS5424BWholeRow : OpenClaim := { program := "ybulkdhhq", sum := "236278bb098ce91a3c2ce40c1eb05ca247231125127b33761814893fed5e48a0", func := "example.com/counterstep/counterstep/internal/journal.LawS5424BWhole", spec := "lawS5424BWhole", apart := false }
def LawS5424BWholeSaid : Prop := lawS5424BWholeRow.holds Yba.pinned (OpenSpec.ofChange lawS5424BWholeSpec)

/-- ITS FALSE NEIGHBOUR: 'it returns false'. Refute it at one input. -/
def lawS5424BWholeWrong : ChangeSpec := { name := "lawS5424BWhole", fn := fun _ => fun
  | [d1, d2, d3] => { results := [.lit (.bool false)], args := [d1, d2, d3] }
  | _ => none }
def LawS5424BWholeWrongFalsely : Prop := lawS5424BWholeRow.holds Yba.pinned (OpenSpec.ofChange lawS5424BWholeWrong)

/-- 'store.LawS5424CWhole': WHATEVER THE INPUT: true; the input reads as it did. -/
def lawS5424CWholeSpec : ChangeSpec := { name := "lawS5424CWhole", fn := fun _ => fun
  | [d1, d2, d3, d4] => { results := [.lit (.bool true)], args := [d1, d2, d3, d4] }
  | _ => none }
def lawS5424CWholeRow : OpenClaim := { program := "ybulkdhhq", sum := "236278bb098ce91a3c2ce40c1eb05ca247231125127b33761814893fed5e48a0", func := "example.com/counterstep/counterstep/internal/store.LawS5424CWhole", spec := "lawS5424CWhole", unfollowed := true, recurses := true, named := ["encoding/binary.BigEndian"], apart := false }
def LawS5424CWholeSaid : Prop := lawS5424CWholeRow.holds Yba.pinned (OpenSpec.ofChange lawS5424CWholeSpec)

/-- ITS FALSE NEIGHBOUR: 'it returns false'. Refute it at one input. -/
def lawS5424CWholeWrong : ChangeSpec := { name := "lawS5424CWhole", fn := fun _ => fun
  | [d1, d2, d3, d4] => { results := [.lit (.bool false)], args := [d1, d2, d3, d4] }
  | _ => none }
def LawS5424CWholeWrongFalsely : Prop := lawS5424CWholeRow.holds Yba.pinned (OpenSpec.ofChange lawS5424CWholeWrong)

end Rows
end Go.Proofs.Ybulkdhhq
