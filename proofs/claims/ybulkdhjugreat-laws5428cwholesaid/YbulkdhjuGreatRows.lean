/-
  No cell of these rows narrows 'for every input' (looked for: loops, veiled, ifaces, maps, wideKeys, modest, calm, conditions, laid).
  DERIVED. THE GIVEN ROWS OF THIS SEAT. 1 by the template 'for every input the law returns true; each argument reads behind the call as it read before'; 0 by the template 'total and deterministic' (their statements: YbulkdhjuGreatTotals.lean).
  GIVEN WITH THE SEED: the statements are not yours to turn. If you find one false, say at which input.
  Laid BY PROGRAM, IN A SANDBOX (cutbox-rows.mjs): the forced cells as the released guide's own fill.sh prints them over the translation 34a79ea66ec3bc6f… (all of the seat's roots in one cut). By AI agents, Wed Nov 11 2026. No macro, syntax, notation, axiom, sorry.
-/
import Derived.Test.YbulkdhjuGreatChecked
import GoSem.Claim
import GoSem.ClaimJoined
import GoSem.ClaimMapViews
import Derived.JoinedTies
import Derived.KernelRfl
namespace Go.Proofs.YbulkdhjuGreat
/- THE CELL 'sum', in the pinned program and in every row, IS THE sha256 OF THE DUMP (.gsa) THAT YbulkdhjuGreatProg.lean LOADS. Nothing in Lean hashes anything: it is a label: what it is worth is what the hold of that sum in a sandbox is worth. -/
noncomputable def Ybaz.pinned : Pinned := { name := "ybulkdhjugreat", sum := "34a79ea66ec3bc6fe84d1f5452969649702516509dd1eff6c2f563ef043493de", checked := Ybaz.checked }
namespace Rows
def none {H : Type} : Left H := { results := [], args := [] }

/-- 'gir.LawS5428CWhole': WHATEVER THE INPUT: true; the input reads as it did. -/
def lawS5428CWholeSpec : ChangeSpec := { name := "lawS5428CWhole", fn := fun _ => fun
  | [d1, d2, d3, d4, d5, d6, d7, d8] => { results := [.lit (.bool true)], args := [d1, d2, d3, d4, d5, d6, d7, d8] }
  | _ => none }
def lawS5428CWholeRow : OpenClaim := { program := "ybulkdhjugreat", sum := "34a79ea66ec3bc6fe84d1f5452969649702516509dd1eff6c2f563ef043493de", func := "example.com/typeweld/typeweld/internal/gir.LawS5428CWhole", spec := "lawS5428CWhole", plainKeys := false, apart := false }
def LawS5428CWholeSaid : Prop := lawS5428CWholeRow.holds Ybaz.pinned (OpenSpec.ofChange lawS5428CWholeSpec)

/-- ITS FALSE NEIGHBOUR: 'it returns false'. Refute it at one input. -/
def lawS5428CWholeWrong : ChangeSpec := { name := "lawS5428CWhole", fn := fun _ => fun
  | [d1, d2, d3, d4, d5, d6, d7, d8] => { results := [.lit (.bool false)], args := [d1, d2, d3, d4, d5, d6, d7, d8] }
  | _ => none }
def LawS5428CWholeWrongFalsely : Prop := lawS5428CWholeRow.holds Ybaz.pinned (OpenSpec.ofChange lawS5428CWholeWrong)

end Rows
end Go.Proofs.YbulkdhjuGreat
