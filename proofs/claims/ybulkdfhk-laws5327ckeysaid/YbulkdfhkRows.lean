/-
  No cell of these rows narrows 'for every input' (looked for: loops, veiled, ifaces, maps, wideKeys, modest, calm, conditions, laid).
  DERIVED. THE GIVEN ROWS OF THIS SEAT. 2 by the template 'for every input the law returns true; each argument reads behind the call as it read before'; 0 by the template 'total and deterministic' (their statements: YbulkdfhkTotals.lean).
  GIVEN WITH THE SEED: the statements are not yours to turn. If you find one false, say at which input.
  Laid BY PROGRAM, IN A SANDBOX (cutbox-rows.mjs): the forced cells as the released guide's own fill.sh prints them over the translation 91875b284b44ccd9… (all of the seat's roots in one cut). By AI agents, Wed Nov 11 2026. No macro, syntax, notation, axiom, sorry.
-/
import Derived.Test.YbulkdfhkChecked
import GoSem.Claim
import GoSem.ClaimJoined
import GoSem.ClaimMapViews
import Derived.JoinedTies
import Derived.KernelRfl
namespace Go.Proofs.Ybulkdfhk
/- THE CELL 'sum', in the pinned program and in every row, IS THE sha256 OF THE DUMP (.gsa) THAT YbulkdfhkProg.lean LOADS. Nothing in Lean hashes anything: it is a label: what it is worth is what the hold of that sum in a sandbox is worth. -/
noncomputable def Yba.pinned : Pinned := { name := "ybulkdfhk", sum := "91875b284b44ccd987e76a4cff28f29e0c19b58ab3ac73bdb0f62234037deb29", checked := Yba.checked }
namespace Rows
def none {H : Type} : Left H := { results := [], args := [] }

/-- 'seal.LawS5327CKey': WHATEVER THE INPUT: true; the input reads as it did. -/
def lawS5327CKeySpec : ChangeSpec := { name := "lawS5327CKey", fn := fun _ => fun
  | [d1, d2, d3] => { results := [.lit (.bool true)], args := [d1, d2, d3] }
  | _ => none }
def lawS5327CKeyRow : OpenClaim := { program := "ybulkdfhk", sum := "91875b284b44ccd987e76a4cff28f29e0c19b58ab3ac73bdb0f62234037deb29", func := "example.com/sealwright/sealwright/seal.LawS5327CKey", spec := "lawS5327CKey", named := ["encoding/binary.LittleEndian"], apart := false }
def LawS5327CKeySaid : Prop := lawS5327CKeyRow.holds Yba.pinned (OpenSpec.ofChange lawS5327CKeySpec)

/-- ITS FALSE NEIGHBOUR: 'it returns false'. Refute it at one input. -/
def lawS5327CKeyWrong : ChangeSpec := { name := "lawS5327CKey", fn := fun _ => fun
  | [d1, d2, d3] => { results := [.lit (.bool false)], args := [d1, d2, d3] }
  | _ => none }
def LawS5327CKeyWrongFalsely : Prop := lawS5327CKeyRow.holds Yba.pinned (OpenSpec.ofChange lawS5327CKeyWrong)

/-- 'seal.LawS5327CAdvance': WHATEVER THE INPUT: true; the input reads as it did. -/
def lawS5327CAdvanceSpec : ChangeSpec := { name := "lawS5327CAdvance", fn := fun _ => fun
  | [d1, d2] => { results := [.lit (.bool true)], args := [d1, d2] }
  | _ => none }
def lawS5327CAdvanceRow : OpenClaim := { program := "ybulkdfhk", sum := "91875b284b44ccd987e76a4cff28f29e0c19b58ab3ac73bdb0f62234037deb29", func := "example.com/sealwright/sealwright/seal.LawS5327CAdvance", spec := "lawS5327CAdvance", named := ["encoding/binary.LittleEndian"], apart := false }
def LawS5327CAdvanceSaid : Prop := lawS5327CAdvanceRow.holds Yba.pinned (OpenSpec.ofChange lawS5327CAdvanceSpec)

/-- ITS FALSE NEIGHBOUR: 'it returns false'. Refute it at one input. -/
def lawS5327CAdvanceWrong : ChangeSpec := { name := "lawS5327CAdvance", fn := fun _ => fun
  | [d1, d2] => { results := [.lit (.bool false)], args := [d1, d2] }
  | _ => none }
def LawS5327CAdvanceWrongFalsely : Prop := lawS5327CAdvanceRow.holds Yba.pinned (OpenSpec.ofChange lawS5327CAdvanceWrong)

end Rows
end Go.Proofs.Ybulkdfhk
