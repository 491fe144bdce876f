/-
  No cell of these rows narrows 'for every input' (looked for: loops, veiled, ifaces, maps, wideKeys, modest, calm, conditions, laid).
  DERIVED. THE GIVEN ROWS OF THIS SEAT. 3 by the template 'for every input the law returns true; each argument reads behind the call as it read before'; 0 by the template 'total and deterministic' (their statements: YbulkdfjaTotals.lean).
  GIVEN WITH THE SEED: the statements are not yours to turn. If you find one false, say at which input.
  Laid BY PROGRAM, IN A SANDBOX (cutbox-rows.mjs): the forced cells as the released guide's own fill.sh prints them over the translation 742cf51a4bcda844… (all of the seat's roots in one cut). By AI agents, Wed Nov 11 2026. No macro, syntax, notation, axiom, sorry.
-/
import Derived.Test.YbulkdfjaChecked
import GoSem.Claim
import GoSem.ClaimJoined
import GoSem.ClaimMapViews
import Derived.JoinedTies
import Derived.KernelRfl
namespace Go.Proofs.Ybulkdfja
/- THE CELL 'sum', in the pinned program and in every row, IS THE sha256 OF THE DUMP (.gsa) THAT YbulkdfjaProg.lean LOADS. Nothing in Lean hashes anything: it is a label: what it is worth is what the hold of that sum in a sandbox is worth. -/
noncomputable def Yba.pinned : Pinned := { name := "ybulkdfja", sum := "742cf51a4bcda844e496fc42746ff91e7116a1a62521a9b27a079b77d2aea9fd", checked := Yba.checked }
namespace Rows
def none {H : Type} : Left H := { results := [], args := [] }

/-- 'space.LawS5330BExact': WHATEVER THE INPUT: true; the input reads as it did. -/
def lawS5330BExactSpec : ChangeSpec := { name := "lawS5330BExact", fn := fun _ => fun
  | [d1, d2] => { results := [.lit (.bool true)], args := [d1, d2] }
  | _ => none }
def lawS5330BExactRow : OpenClaim := { program := "ybulkdfja", sum := "742cf51a4bcda844e496fc42746ff91e7116a1a62521a9b27a079b77d2aea9fd", func := "example.com/tessera/tessera/space.LawS5330BExact", spec := "lawS5330BExact", unfollowed := true, recurses := true, named := ["encoding/binary.BigEndian"], plainKeys := false, apart := false }
def LawS5330BExactSaid : Prop := lawS5330BExactRow.holds Yba.pinned (OpenSpec.ofChange lawS5330BExactSpec)

/-- ITS FALSE NEIGHBOUR: 'it returns false'. Refute it at one input. -/
def lawS5330BExactWrong : ChangeSpec := { name := "lawS5330BExact", fn := fun _ => fun
  | [d1, d2] => { results := [.lit (.bool false)], args := [d1, d2] }
  | _ => none }
def LawS5330BExactWrongFalsely : Prop := lawS5330BExactRow.holds Yba.pinned (OpenSpec.ofChange lawS5330BExactWrong)

/-- 'space.LawS5330BPrefix': WHATEVER THE INPUT: true; the input reads as it did. -/
def lawS5330BPrefixSpec : ChangeSpec := { name := "lawS5330BPrefix", fn := fun _ => fun
  | [d] => { results := [.lit (.bool true)], args := [d] }
  | _ => none }
def lawS5330BPrefixRow : OpenClaim := { program := "ybulkdfja", sum := "742cf51a4bcda844e496fc42746ff91e7116a1a62521a9b27a079b77d2aea9fd", func := "example.com/tessera/tessera/space.LawS5330BPrefix", spec := "lawS5330BPrefix", unfollowed := true, recurses := true, named := ["encoding/binary.BigEndian"], plainKeys := false, apart := false }
def LawS5330BPrefixSaid : Prop := lawS5330BPrefixRow.holds Yba.pinned (OpenSpec.ofChange lawS5330BPrefixSpec)

/-- ITS FALSE NEIGHBOUR: 'it returns false'. Refute it at one input. -/
def lawS5330BPrefixWrong : ChangeSpec := { name := "lawS5330BPrefix", fn := fun _ => fun
  | [d] => { results := [.lit (.bool false)], args := [d] }
  | _ => none }
def LawS5330BPrefixWrongFalsely : Prop := lawS5330BPrefixRow.holds Yba.pinned (OpenSpec.ofChange lawS5330BPrefixWrong)

/-- 'store.LawS5330CAhead': WHATEVER THE INPUT: true; the input reads as it did. -/
def lawS5330CAheadSpec : ChangeSpec := { name := "lawS5330CAhead", fn := fun _ => fun
  | [d1, d2, d3, d4] => { results := [.lit (.bool true)], args := [d1, d2, d3, d4] }
  | _ => none }
def lawS5330CAheadRow : OpenClaim := { program := "ybulkdfja", sum := "742cf51a4bcda844e496fc42746ff91e7116a1a62521a9b27a079b77d2aea9fd", func := "example.com/tessera/tessera/store.LawS5330CAhead", spec := "lawS5330CAhead", unfollowed := true, recurses := true, plainKeys := false, apart := false }
def LawS5330CAheadSaid : Prop := lawS5330CAheadRow.holds Yba.pinned (OpenSpec.ofChange lawS5330CAheadSpec)

/-- ITS FALSE NEIGHBOUR: 'it returns false'. Refute it at one input. -/
def lawS5330CAheadWrong : ChangeSpec := { name := "lawS5330CAhead", fn := fun _ => fun
  | [d1, d2, d3, d4] => { results := [.lit (.bool false)], args := [d1, d2, d3, d4] }
  | _ => none }
def LawS5330CAheadWrongFalsely : Prop := lawS5330CAheadRow.holds Yba.pinned (OpenSpec.ofChange lawS5330CAheadWrong)

end Rows
end Go.Proofs.Ybulkdfja
