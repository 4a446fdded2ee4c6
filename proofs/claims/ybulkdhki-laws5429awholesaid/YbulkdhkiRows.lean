/-
  No cell of these rows narrows 'for every input' (looked for: loops, veiled, ifaces, maps, wideKeys, modest, calm, conditions, laid).
  DERIVED. THE GIVEN ROWS OF THIS SEAT. 2 by the template 'for every input the law returns true; each argument reads behind the call as it read before'; 0 by the template 'total and deterministic' (their statements: YbulkdhkiTotals.lean).
  GIVEN WITH THE SEED: the statements are not yours to turn. If you find one false, say at which input.
  Laid BY PROGRAM, IN A SANDBOX (cutbox-rows.mjs): the forced cells as the released guide's own fill.sh prints them over the translation c31130dc3786662b… (all of the seat's roots in one cut). By AI agents, Wed Nov 11 2026. No macro, syntax, notation, axiom, sorry.
-/
import Derived.Test.YbulkdhkiChecked
import GoSem.Claim
import GoSem.ClaimJoined
import GoSem.ClaimMapViews
import Derived.JoinedTies
import Derived.KernelRfl
namespace Go.Proofs.Ybulkdhki
/- THE CELL 'sum', in the pinned program and in every row, IS THE sha256 OF THE DUMP (.gsa) THAT YbulkdhkiProg.lean LOADS. Nothing in Lean hashes anything: it is a label: what it is worth is what the hold of that sum in a sandbox is worth. -/
noncomputable def Yba.pinned : Pinned := { name := "ybulkdhki", sum := "c31130dc3786662b8650dd478dbbd85ceac92b67b6111b36eed3721290c0d3aa", checked := Yba.checked }
namespace Rows
def none {H : Type} : Left H := { results := [], args := [] }

/-- 'holdfast.LawS5429AWhole': WHATEVER THE INPUT: true; the input reads as it did. -/
def lawS5429AWholeSpec : ChangeSpec := { name := "lawS5429AWhole", fn := fun _ => fun
  | [d1, d2, d3, d4, d5] => { results := [.lit (.bool true)], args := [d1, d2, d3, d4, d5] }
  | _ => none }
def lawS5429AWholeRow : OpenClaim := { program := "ybulkdhki", sum := "c31130dc3786662b8650dd478dbbd85ceac92b67b6111b36eed3721290c0d3aa", func := "example.com/holdfast/holdfast.LawS5429AWhole", spec := "lawS5429AWhole", plainKeys := false, apart := false }
def LawS5429AWholeSaid : Prop := lawS5429AWholeRow.holds Yba.pinned (OpenSpec.ofChange lawS5429AWholeSpec)

/-- ITS FALSE NEIGHBOUR: 'it returns false'. Refute it at one input. -/
def lawS5429AWholeWrong : ChangeSpec := { name := "lawS5429AWhole", fn := fun _ => fun
  | [d1, d2, d3, d4, d5] => { results := [.lit (.bool false)], args := [d1, d2, d3, d4, d5] }
  | _ => none }
def LawS5429AWholeWrongFalsely : Prop := lawS5429AWholeRow.holds Yba.pinned (OpenSpec.ofChange lawS5429AWholeWrong)

/-- 'holdfast.LawS5429BWhole': WHATEVER THE INPUT: true; the input reads as it did. -/
def lawS5429BWholeSpec : ChangeSpec := { name := "lawS5429BWhole", fn := fun _ => fun
  | [d1, d2, d3, d4, d5, d6, d7, d8, d9, d10] => { results := [.lit (.bool true)], args := [d1, d2, d3, d4, d5, d6, d7, d8, d9, d10] }
  | _ => none }
def lawS5429BWholeRow : OpenClaim := { program := "ybulkdhki", sum := "c31130dc3786662b8650dd478dbbd85ceac92b67b6111b36eed3721290c0d3aa", func := "example.com/holdfast/holdfast.LawS5429BWhole", spec := "lawS5429BWhole", inPlace := ["sync/atomic.StoreUint32", "sync/atomic.StoreUint64", "sync/atomic.StorePointer", "sync/atomic.LoadPointer", "sync/atomic.LoadUint64", "sync/atomic.LoadUint32"], plainKeys := false, apart := false }
def LawS5429BWholeSaid : Prop := lawS5429BWholeRow.holds Yba.pinned (OpenSpec.ofChange lawS5429BWholeSpec)

/-- ITS FALSE NEIGHBOUR: 'it returns false'. Refute it at one input. -/
def lawS5429BWholeWrong : ChangeSpec := { name := "lawS5429BWhole", fn := fun _ => fun
  | [d1, d2, d3, d4, d5, d6, d7, d8, d9, d10] => { results := [.lit (.bool false)], args := [d1, d2, d3, d4, d5, d6, d7, d8, d9, d10] }
  | _ => none }
def LawS5429BWholeWrongFalsely : Prop := lawS5429BWholeRow.holds Yba.pinned (OpenSpec.ofChange lawS5429BWholeWrong)

end Rows
end Go.Proofs.Ybulkdhki
