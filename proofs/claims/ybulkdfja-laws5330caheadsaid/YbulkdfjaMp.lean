/-
  The store's map with its one shelf; New (14).
-/
import Derived.Test.YbulkdfjaPl
import Derived.WideMake
import Derived.RangeFuncBox
namespace Go.Proofs.Ybulkdfja
open Go.RowKit
set_option linter.unusedVariables false

theorem ba_eq (c : ByteArray) : (c == c) = true := (MapKept.bytes_beq c c).2 rfl
theorem ba_ne {s c : ByteArray} (h : s ≠ c) : (s == c) = false := by
  cases e : s == c with
  | false => rfl
  | true => exact absurd ((MapKept.bytes_beq s c).1 e) h

/-- Block r is the map that holds v at c alone. -/
def OneMap (W : World) (r : Nat) (c : ByteArray) (v : Value) : Prop := ∃ born clk, W.heap[r]? = some (.map #[{ key := .string c, val := v, born := born }] clk)

theorem OneMap.below {n₀ : Nat} {W W' : World} {r : Nat} {c : ByteArray} {v : Value} (hb : Below n₀ W W') (hr : r < n₀) (h : OneMap W r c v) : OneMap W' r c v := by
  obtain ⟨b, k, e⟩ := h
  exact ⟨b, k, (hb.block r hr).trans e⟩

set_option maxRecDepth 100000 in
theorem look_hit {W : World} {r : Nat} {c : ByteArray} {v : Value} (h : OneMap W r c v) : (Instr.lookup 87 (.map (some r)) (.string c) false).run Yba.prog W = .ok v W := by
  obtain ⟨b, k, e⟩ := h
  have hg : (getObj r).run Yba.prog W = .ok (.map #[{ key := .string c, val := v, born := b }] k) W := MapKept.run_getObj_map e
  have hck : (Instr.checkKey false 10000 9 (.string c)).run Yba.prog W = .ok () W := by
    exact MapKept.run_checkKey Yba.underlying9 (by simp [MapKept.IsKey]) false 9999
  simp [Instr.lookup, Sem.run_bind, run_underlying Yba.underlying87, hg, hck, Instr.findKey, run_underlying Yba.underlying9, Instr.findNow, Instr.sameNow, ba_eq]

set_option maxRecDepth 100000 in
theorem look_miss {W : World} {r : Nat} {c s : ByteArray} {v : Value} (h : OneMap W r c v) (hne : s ≠ c) : (Instr.lookup 87 (.map (some r)) (.string s) false).run Yba.prog W = .ok (.pointer none) W := by
  obtain ⟨b, k, e⟩ := h
  have hg : (getObj r).run Yba.prog W = .ok (.map #[{ key := .string c, val := v, born := b }] k) W := MapKept.run_getObj_map e
  have hck : (Instr.checkKey false 10000 9 (.string s)).run Yba.prog W = .ok () W := by
    exact MapKept.run_checkKey Yba.underlying9 (by simp [MapKept.IsKey]) false 9999
  have hn : (s == c) = false := ba_ne hne
  simp [Instr.lookup, Sem.run_bind, run_underlying Yba.underlying87, hg, hck, Instr.findKey, run_underlying Yba.underlying9, Instr.findNow, Instr.sameNow, hn, Yba.zeroValue41]

set_option maxRecDepth 100000 in
theorem new14 (w : World) : Calls Yba.prog 14 #[] w fun e w' => e = .returned (.pointer (some ⟨w.heap.size + 2, 0, none⟩)) ∧ Below w.heap.size w w' ∧ w'.heap.size = w.heap.size + 3 ∧ w'.cell? ⟨w.heap.size + 2, 3, none⟩ = some (.map (some (w.heap.size + 1))) ∧ w'.heap[w.heap.size + 1]? = some (.map #[] 0) := by
  have hmm := @run_makeMap_plain Yba.prog
  go_enter Yba.func14, Yba.ntmps14
  go_wp2
  go_ret
  refine ⟨rfl, (((Below.refl _ _).alloc (Nat.le_refl _) _).alloc (by simp) _).alloc (by simp; omega) _, by simp, ?_, ?_⟩
  · have := World.alloc_heap_new ((w.alloc (Obj.map #[] 0)).alloc (Obj.map #[] 0)) (Obj.cells #[Value.int IntKind.i32 0, Value.int IntKind.u32 0, Value.map (some w.heap.size), Value.map (some (w.heap.size + 1)), Value.int IntKind.i64 0, Value.int IntKind.u64 0, Value.int IntKind.i64 0, Value.slice none 0 0, Value.slice none 0 0, Value.int IntKind.u64 0, Value.int IntKind.i64 0, Value.pointer none, Value.pointer none] 92)
    simp only [World.size_alloc] at this
    unfold World.cell?
    rw [this]
    rfl
  · rw [Below.heap_alloc _ _ _ (by simp)]
    have := World.alloc_heap_new (w.alloc (Obj.map #[] 0)) (Obj.map #[] 0)
    rwa [World.size_alloc] at this

/-- The world behind the map's first key. -/
def putMap (w : World) (r : Nat) (c : ByteArray) (v : Value) : World := { w with heap := w.heap.setIfInBounds r (.map #[{ key := .string c, val := v, born := 0 }] 1) }
theorem putMap_run {w : World} {r : Nat} (c : ByteArray) (v : Value) (h : w.heap[r]? = some (.map #[] 0)) : (Instr.mapUpdate 87 (.map (some r)) (.string c) v).run Yba.prog w = .ok () (putMap w r c v) :=
  run_mapUpdate_first _ 87 9 41 r 0 c v Yba.underlying87 Yba.underlying9 h
theorem putMap_one {w : World} {r : Nat} (c : ByteArray) (v : Value) (h : r < w.heap.size) : OneMap (putMap w r c v) r c v := ⟨0, 1, by simp [putMap, h]⟩
theorem putMap_below {B r : Nat} {a w : World} (c : ByteArray) (v : Value) (h : Below B a w) (hr : B ≤ r) : Below B a (putMap w r c v) :=
  ⟨h.os, h.tape, h.output, by simp only [putMap, Array.size_setIfInBounds]; exact h.size, fun k hk => by
    rw [← h.block k hk]; simp only [putMap]; rw [Array.getElem?_setIfInBounds_ne (by omega)]⟩
theorem putMap_cell {w : World} {r b o : Nat} (c : ByteArray) (v : Value) (h : b ≠ r) : (putMap w r c v).cell? ⟨b, o, none⟩ = w.cell? ⟨b, o, none⟩ :=
  World.cell?_of_block (w := w) (by simp only [putMap]; rw [Array.getElem?_setIfInBounds_ne (by omega)])
end Go.Proofs.Ybulkdfja
