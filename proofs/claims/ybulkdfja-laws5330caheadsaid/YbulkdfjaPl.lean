/-
  A place of a list, and what get (30) finds.
-/
import Derived.Test.YbulkdfjaPlain
import Derived.Test.YbulkdfjaEq
import Derived.StillTailTactics
import Derived.WalkSpells
namespace Go.Proofs.Ybulkdfja
open Go.RowKit
set_option linter.unusedVariables false

theorem mixed : Yba.prog.follows .mixedOrders = true := by kernel_rfl
theorem still_all {P : Program} {id : Nat} {Q : Exit → Act → World → Prop} {a : Act} {w : World} {l : List Oper} (hm : P.follows .mixedOrders = true) (hB : Region.lexB .any l.toArray = true)
    (h : wpStill P l.toArray w.drew (fun a' => Q .normal a' w.drew) l a) : (Code.region id l.toArray true).wp P Q a w := wp_region_still_lit hm hB h

/-- One place's fifteen cells: its slot and its Entry. -/
structure PlAt (W : World) (g o : Nat) (c id : ByteArray) (cp st sq : Int) (body : Value) (rm gn : Bool) : Prop where
  p0 : W.cell? ⟨g, o, none⟩ = some (.string id)
  p1 : W.cell? ⟨g, o + 1, none⟩ = some (.int .i64 cp)
  p2 : W.cell? ⟨g, o + 2, none⟩ = some (.string c)
  p3 : W.cell? ⟨g, o + 3, none⟩ = some (.string id)
  p4 : W.cell? ⟨g, o + 4, none⟩ = some (.int .i64 cp)
  p5 : W.cell? ⟨g, o + 5, none⟩ = some (.slice none 0 0)
  p6 : W.cell? ⟨g, o + 6, none⟩ = some body
  p7 : W.cell? ⟨g, o + 7, none⟩ = some (.int .u64 sq)
  p8 : W.cell? ⟨g, o + 8, none⟩ = some (.int .u64 st)
  p9 : W.cell? ⟨g, o + 9, none⟩ = some (.bool rm)
  p10 : W.cell? ⟨g, o + 10, none⟩ = some (.bool gn)
  p11 : W.cell? ⟨g, o + 11, none⟩ = some (.int .u64 0)
  p12 : W.cell? ⟨g, o + 12, none⟩ = some (.int .i64 0)
  p13 : W.cell? ⟨g, o + 13, none⟩ = some (.pointer none)
  p14 : W.cell? ⟨g, o + 14, none⟩ = some (.bool false)

def entV (c id : ByteArray) (cp st sq : Int) (body : Value) (rm gn : Bool) : Value :=
  .agg #[.string c, .string id, .int .i64 cp, .slice none 0 0, body, .int .u64 sq, .int .u64 st, .bool rm, .bool gn, .int .u64 0, .int .i64 0, .pointer none, .bool false]

theorem nm43 (w : World) : (binOp .neq 43 (.map none) (.map none)).run Yba.prog w = .ok (.bool false) w :=
  run_neq_map_nil w 43 _ _ none Yba.underlying43

/-- The first of f places from i on that is the slot. -/
def getFrom (eid : Nat → ByteArray) (ecp : Nat → Int) (id : ByteArray) (cp : Int) : Nat → Nat → Option Nat
  | 0, _ => none
  | f + 1, i => if (eid i).toList = id.toList ∧ ecp i = cp then some i else getFrom eid ecp id cp f (i + 1)

def zeroE : Value := .agg #[.string ⟨#[]⟩, .string ⟨#[]⟩, .int .i64 0, .slice none 0 0, .slice none 0 0, .int .u64 0, .int .u64 0, .bool false, .bool false, .int .u64 0, .int .i64 0, .pointer none, .bool false]

theorem drew_alloc2 (w : World) (a b : Obj) : ((w.alloc a).alloc b).drew = (w.drew.alloc a).alloc b := rfl

theorem PlAt.alloc2 {W : World} {g o : Nat} {c id : ByteArray} {cp st sq : Int} {body : Value} {rm gn : Bool} (h : PlAt W g o c id cp st sq body rm gn) (a b : Obj) : PlAt ((W.alloc a).alloc b) g o c id cp st sq body rm gn := by
  have hg : g < W.heap.size := World.block_lt_of_cell? W _ h.p0
  have e : ∀ f, ((W.alloc a).alloc b).cell? ⟨g, f, none⟩ = W.cell? ⟨g, f, none⟩ := fun f => by
    rw [World.cell?_alloc_lt _ _ _ (by simp; omega), World.cell?_alloc_lt _ _ _ hg]
  constructor <;> (rw [e]; first | exact h.p0 | exact h.p1 | exact h.p2 | exact h.p3 | exact h.p4 | exact h.p5 | exact h.p6 | exact h.p7 | exact h.p8 | exact h.p9 | exact h.p10 | exact h.p11 | exact h.p12 | exact h.p13 | exact h.p14)

end Go.Proofs.Ybulkdfja
