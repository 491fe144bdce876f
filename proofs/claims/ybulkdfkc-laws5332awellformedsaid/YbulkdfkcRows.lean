/-
  No cell of these rows narrows 'for every input' (looked for: loops, veiled, ifaces, maps, wideKeys, modest, calm, conditions, laid).
  DERIVED. THE GIVEN ROWS OF THIS SEAT. 2 by the template 'for every input the law returns true; each argument reads behind the call as it read before'; 0 by the template 'total and deterministic' (their statements: YbulkdfkcTotals.lean).
  GIVEN WITH THE SEED: the statements are not yours to turn. If you find one false, say at which input.
  Laid BY PROGRAM, IN A SANDBOX (cutbox-rows.mjs): the forced cells as the released guide's own fill.sh prints them over the translation 07d24d263a9f5f1b… (all of the seat's roots in one cut). By AI agents, Wed Nov 11 2026. No macro, syntax, notation, axiom, sorry.
-/
import Derived.Test.YbulkdfkcChecked
import GoSem.Claim
import GoSem.ClaimJoined
import GoSem.ClaimMapViews
import Derived.JoinedTies
import Derived.KernelRfl
namespace Go.Proofs.Ybulkdfkc
/- THE CELL 'sum', in the pinned program and in every row, IS THE sha256 OF THE DUMP (.gsa) THAT YbulkdfkcProg.lean LOADS. Nothing in Lean hashes anything: it is a label: what it is worth is what the hold of that sum in a sandbox is worth. -/
noncomputable def Yba.pinned : Pinned := { name := "ybulkdfkc", sum := "07d24d263a9f5f1b68941670ff6eef84f411e2f1452f0007b31d102c3d325f69", checked := Yba.checked }
namespace Rows
def none {H : Type} : Left H := { results := [], args := [] }

/-- 'eventlog.LawS5332AWellFormed': WHATEVER THE INPUT: true; the input reads as it did. -/
def lawS5332AWellFormedSpec : ChangeSpec := { name := "lawS5332AWellFormed", fn := fun _ => fun
  | [d1, d2, d3] => { results := [.lit (.bool true)], args := [d1, d2, d3] }
  | _ => none }
def lawS5332AWellFormedRow : OpenClaim := { program := "ybulkdfkc", sum := "07d24d263a9f5f1b68941670ff6eef84f411e2f1452f0007b31d102c3d325f69", func := "example.com/estampille/estampille/internal/eventlog.LawS5332AWellFormed", spec := "lawS5332AWellFormed", apart := false }
def LawS5332AWellFormedSaid : Prop := lawS5332AWellFormedRow.holds Yba.pinned (OpenSpec.ofChange lawS5332AWellFormedSpec)

/-- ITS FALSE NEIGHBOUR: 'it returns false'. Refute it at one input. -/
def lawS5332AWellFormedWrong : ChangeSpec := { name := "lawS5332AWellFormed", fn := fun _ => fun
  | [d1, d2, d3] => { results := [.lit (.bool false)], args := [d1, d2, d3] }
  | _ => none }
def LawS5332AWellFormedWrongFalsely : Prop := lawS5332AWellFormedRow.holds Yba.pinned (OpenSpec.ofChange lawS5332AWellFormedWrong)

/-- 'eventlog.LawS5332ATruncated': WHATEVER THE INPUT: true; the input reads as it did. -/
def lawS5332ATruncatedSpec : ChangeSpec := { name := "lawS5332ATruncated", fn := fun _ => fun
  | [d1, d2, d3] => { results := [.lit (.bool true)], args := [d1, d2, d3] }
  | _ => none }
def lawS5332ATruncatedRow : OpenClaim := { program := "ybulkdfkc", sum := "07d24d263a9f5f1b68941670ff6eef84f411e2f1452f0007b31d102c3d325f69", func := "example.com/estampille/estampille/internal/eventlog.LawS5332ATruncated", spec := "lawS5332ATruncated", apart := false }
def LawS5332ATruncatedSaid : Prop := lawS5332ATruncatedRow.holds Yba.pinned (OpenSpec.ofChange lawS5332ATruncatedSpec)

/-- ITS FALSE NEIGHBOUR: 'it returns false'. Refute it at one input. -/
def lawS5332ATruncatedWrong : ChangeSpec := { name := "lawS5332ATruncated", fn := fun _ => fun
  | [d1, d2, d3] => { results := [.lit (.bool false)], args := [d1, d2, d3] }
  | _ => none }
def LawS5332ATruncatedWrongFalsely : Prop := lawS5332ATruncatedRow.holds Yba.pinned (OpenSpec.ofChange lawS5332ATruncatedWrong)

end Rows
end Go.Proofs.Ybulkdfkc
