/-
  The waiters in memory. Block N: the Mutex; N + 1: the row ws; N + 2 + 2 i: waiter i's channel; N + 3 + 2 i: waiter i.
-/
import Derived.Test.YbulkdfimHo
namespace Go.Proofs.Ybulkdfim
open Go.RowKit Go.Conc

/-! ### cells -/
theorem ce {w : World} {b o : Nat} {v : Value} (h : (w.cell? ⟨b, o, none⟩).isSome = true) (b' o' : Nat) : (w.setCell ⟨b, o, none⟩ v).cell? ⟨b', o', none⟩ = if b' = b ∧ o' = o then some v else w.cell? ⟨b', o', none⟩ := by
  obtain ⟨u, hu⟩ := Option.isSome_iff_exists.1 h
  by_cases e : b' = b ∧ o' = o
  · obtain ⟨rfl, rfl⟩ := e; rw [if_pos ⟨rfl, rfl⟩]; exact sam hu
  · rw [if_neg e]; exact oth (by omega) rfl
theorem ltc {w : World} {b o : Nat} {v : Value} (h : w.cell? ⟨b, o, none⟩ = some v) : b < w.heap.size := by
  unfold World.cell? at h
  rcases Nat.lt_or_ge b w.heap.size with hlt | hge
  · exact hlt
  · rw [Array.getElem?_eq_none hge] at h; simp at h
theorem cell_far {w : World} {b o : Nat} (h : w.heap.size ≤ b) : w.cell? ⟨b, o, none⟩ = none := by
  unfold World.cell?
  rw [Array.getElem?_eq_none h]
theorem ca (w : World) (cs : Array Value) (t : TypeId) (b o : Nat) : (w.alloc (.cells cs t)).cell? ⟨b, o, none⟩ = if b = w.heap.size then cs[o]? else w.cell? ⟨b, o, none⟩ := by
  by_cases e : b = w.heap.size
  · subst e; rw [if_pos rfl, World.cell?_alloc_new]
  · rw [if_neg e, World.cell?_alloc_old _ _ _ (by simpa using e)]
theorem cc (w : World) (cp : Nat) (bf : Array Value) (cl : Bool) (s r : Nat) (tm : Bool) (b o : Nat) : (w.alloc (.chan cp bf cl s r tm)).cell? ⟨b, o, none⟩ = w.cell? ⟨b, o, none⟩ := by
  by_cases e : b = w.heap.size
  · subst e
    rw [cell_far (Nat.le_refl _)]
    simp only [World.cell?, World.alloc, Array.getElem?_push_size]
  · rw [World.cell?_alloc_old _ _ _ (by simpa using e)]
theorem fa (w : World) (cs : Array Value) (t : TypeId) (p : Addr) : (w.alloc (.cells cs t)).frozen? p = w.frozen? p := frozen?_alloc_cells w cs t p
theorem fc (w : World) (cp : Nat) (bf : Array Value) (cl : Bool) (s r : Nat) (tm : Bool) (b o : Nat) : (w.alloc (.chan cp bf cl s r tm)).frozen? ⟨b, o, none⟩ = w.frozen? ⟨b, o, none⟩ := by
  unfold World.frozen?
  simp only [World.alloc, Array.getElem?_push]
  by_cases e : b = w.heap.size
  · subst e; simp
  · rw [if_neg e]
theorem hs (w : World) (b o : Nat) (v : Value) (k : Nat) (h : k ≠ b) : (w.setCell ⟨b, o, none⟩ v).heap[k]? = w.heap[k]? := Below.heap_setCell _ _ _ _ (by simpa using h)
theorem ha (w : World) (ob : Obj) (k : Nat) : (w.alloc ob).heap[k]? = if k = w.heap.size then some ob else w.heap[k]? := by
  show (w.heap.push ob)[k]? = _
  rw [Array.getElem?_push]
theorem chan_cell (w : World) (c cp : Nat) (bf : Array Value) (cl : Bool) (s r : Nat) (tm : Bool) (b o : Nat) (h : b ≠ c) : (w.setChan c cp bf cl s r tm).cell? ⟨b, o, none⟩ = w.cell? ⟨b, o, none⟩ := by
  simp only [World.cell?, World.setChan]
  rw [Array.getElem?_setIfInBounds_ne (by simpa using h.symm)]
theorem chan_frozen (w : World) (c cp : Nat) (bf : Array Value) (cl : Bool) (s r : Nat) (tm : Bool) (b o : Nat) (h : w.frozen? ⟨b, o, none⟩ = false) : (w.setChan c cp bf cl s r tm).frozen? ⟨b, o, none⟩ = false := by
  by_cases e : b = c
  · subst e
    simp only [World.frozen?, World.setChan, Array.getElem?_setIfInBounds]
    by_cases hl : b < w.heap.size
    · simp [hl]
    · simp [hl]
  · simp only [World.frozen?, World.setChan] at h ⊢
    rw [Array.getElem?_setIfInBounds_ne (by simpa using (Ne.symm e))]
    exact h
theorem chan_heap (w : World) (c cp : Nat) (bf : Array Value) (cl : Bool) (s r : Nat) (tm : Bool) (k : Nat) (hc : c < w.heap.size) : (w.setChan c cp bf cl s r tm).heap[k]? = if k = c then some (.chan cp bf cl s r tm) else w.heap[k]? := by
  simp only [World.setChan]
  by_cases e : k = c
  · subst e; rw [if_pos rfl, Array.getElem?_setIfInBounds_self_of_lt hc]
  · rw [if_neg e, Array.getElem?_setIfInBounds_ne (Ne.symm e)]

/-! ### the state -/
def px (N i : Nat) : Option Addr := some ⟨N + 3 + 2 * i, 0, none⟩
/-- n waiters, k of them told. -/
structure Lw (W : World) (N n k : Nat) (z : Nat → Int) (st h : Int) : Prop where
  m0 : W.cell? ⟨N, 0, none⟩ = some (.int .u32 st)
  m5 : W.cell? ⟨N, 5, none⟩ = some (.int .i64 h)
  m6 : W.cell? ⟨N, 6, none⟩ = some (.int .i64 0)
  m7 : W.cell? ⟨N, 7, none⟩ = some (.int .i32 0)
  m9 : W.cell? ⟨N, 9, none⟩ = some (.pointer (if k < n then px N k else none))
  m10 : W.cell? ⟨N, 10, none⟩ = some (.pointer (if k < n then px N (n - 1) else none))
  ws : ∀ i, i < n → W.cell? ⟨N + 1, i, none⟩ = some (.pointer (px N i))
  nx : ∀ i, i < n → W.cell? ⟨N + 3 + 2 * i, 0, none⟩ = some (.pointer (if k ≤ i ∧ i + 1 < n then px N (i + 1) else none))
  pv : ∀ i, i < n → W.cell? ⟨N + 3 + 2 * i, 1, none⟩ = some (.pointer (if k < i then px N (i - 1) else none))
  rd : ∀ i, i < n → W.cell? ⟨N + 3 + 2 * i, 2, none⟩ = some (.chan (some (N + 2 + 2 * i)))
  sn : ∀ i, i < n → W.cell? ⟨N + 3 + 2 * i, 3, none⟩ = some (.int .i64 (z i))
  ch : ∀ i, i < n → W.heap[N + 2 + 2 * i]? = some (.chan 1 (if i < k then #[.bool true] else #[]) false (if i < k then 1 else 0) 0 false)
  free : ∀ b o, N ≤ b → W.frozen? ⟨b, o, none⟩ = false
end Go.Proofs.Ybulkdfim
