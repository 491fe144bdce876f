/-
  What a callee leaves alone: 'Kp S w w'': every old block but those of the list S is as it was. An array of 16 words in a block: 'Arr'.
-/
import Derived.Test.YbulkdfhkQr
import Derived.StillTailTactics
import Derived.Deep.Draws
namespace Go.Proofs.Ybulkdfhk
open Go.RowKit

theorem mixed : Yba.prog.follows .mixedOrders = true := by kernel_rfl

/-- a region that draws: its first n operations turn nothing, the rest is a forced chain; the world spelt by 'drew' -/
theorem still_tail {P : Program} {id : Nat} {Q : Exit → Act → World → Prop} {a : Act} {w : World} {l : List Oper} (n : Nat) (hm : P.follows .mixedOrders = true) (hB : Region.lexTailB .any l.toArray n = true)
    (h : wpStill P l.toArray w.drew (fun a' => wpList P l.toArray Q (l.drop n) a' w.drew) (l.take n) a) : (Code.region id l.toArray true).wp P Q a w :=
  wp_region_still_tail n hm hB h

structure Kp (S : List Nat) (w w' : World) : Prop where
  os : w'.os = w.os
  tape : w'.tape = w.tape
  output : w'.output = w.output
  size : w.heap.size ≤ w'.heap.size
  block : ∀ k, k < w.heap.size → k ∉ S → w'.heap[k]? = w.heap[k]?

theorem Kp.refl (S : List Nat) (w : World) : Kp S w w := ⟨rfl, rfl, rfl, Nat.le_refl _, fun _ _ _ => rfl⟩
theorem Kp.trans {S : List Nat} {a b c : World} (h : Kp S a b) (k : Kp S b c) : Kp S a c :=
  ⟨k.os.trans h.os, k.tape.trans h.tape, k.output.trans h.output, Nat.le_trans h.size k.size, fun i hi hn => (k.block i (Nat.lt_of_lt_of_le hi h.size) hn).trans (h.block i hi hn)⟩
theorem Kp.mono {S T : List Nat} {w w' : World} (h : Kp S w w') (hs : ∀ k, k ∈ S → k ∈ T) : Kp T w w' :=
  ⟨h.os, h.tape, h.output, h.size, fun k hk hn => h.block k hk (fun hh => hn (hs k hh))⟩
theorem Kp.drew {S : List Nat} {a w : World} (h : Kp S a w) : Kp S a w.drew := ⟨h.os, h.tape, h.output, h.size, h.block⟩
theorem Kp.drewN {S : List Nat} {a w : World} (h : Kp S a w) (n : Nat) : Kp S a (w.drewN n) := ⟨h.os, h.tape, h.output, h.size, h.block⟩
theorem Kp.setCell {S : List Nat} {a w : World} (h : Kp S a w) {p : Addr} (hp : p.block ∈ S) (u : Value) : Kp S a (w.setCell p u) :=
  h.trans ⟨rfl, rfl, rfl, by simp, fun k _ hn => Below.heap_setCell _ _ _ _ (fun e => hn (e ▸ hp))⟩
theorem Kp.alloc {S : List Nat} {a w : World} (h : Kp S a w) (o : Obj) : Kp S a (w.alloc o) :=
  h.trans ⟨rfl, rfl, rfl, by simp, fun k hk _ => Below.heap_alloc _ _ _ hk⟩
theorem Kp.setCells {S : List Nat} {b : Nat} (hb : b ∈ S) : ∀ (vs : List Value) (o : Nat) {a w : World}, Kp S a w → Kp S a (w.setCells b o vs)
  | [], _, _, _, h => h
  | v :: vs, o, _, _, h => Kp.setCells hb vs (o + 1) (h.setCell (p := ⟨b, o, none⟩) hb v)
theorem Kp.cell {S : List Nat} {w w' : World} (h : Kp S w w') {p : Addr} (hp : p.block < w.heap.size) (hn : p.block ∉ S) : w'.cell? p = w.cell? p := World.cell?_of_block (w := w) (h.block p.block hp hn)
theorem Kp.frozen {S : List Nat} {w w' : World} (h : Kp S w w') {p : Addr} (hp : p.block < w.heap.size) (hn : p.block ∉ S) : w'.frozen? p = w.frozen? p := World.frozen?_of_block (w := w) (h.block p.block hp hn)
theorem Kp.below {S : List Nat} {w w' : World} (h : Kp S w w') {B : Nat} (hB : B ≤ w.heap.size) (hS : ∀ k, k ∈ S → B ≤ k) : Below B w w' :=
  ⟨h.os, h.tape, h.output, h.size, fun k hk => h.block k (Nat.lt_of_lt_of_le hk hB) (fun hh => Nat.not_le_of_lt hk (hS k hh))⟩

/-- The 16 words s lie in block X, and may be written. -/
structure Arr (w : World) (X : Nat) (s : Nat → Int) : Prop where
  cell : ∀ i, i < 16 → w.cell? ⟨X, i, none⟩ = some (.int .u32 (s i))
  free : ∀ i, i < 16 → w.frozen? ⟨X, i, none⟩ = false

def put (s : Nat → Int) (i : Nat) (v : Int) : Nat → Int := fun j => if j = i then v else s j

theorem lt_of_cell {w : World} {X i : Nat} {v : Value} (h : w.cell? ⟨X, i, none⟩ = some v) : X < w.heap.size := by
  unfold World.cell? at h
  rcases Nat.lt_or_ge X w.heap.size with hlt | hge
  · exact hlt
  · rw [Array.getElem?_eq_none hge] at h; simp at h
theorem Arr.lt {w : World} {X : Nat} {s : Nat → Int} (h : Arr w X s) : X < w.heap.size := lt_of_cell (h.cell 0 (by omega))
theorem Arr.drew {w : World} {X : Nat} {s : Nat → Int} (h : Arr w X s) : Arr w.drew X s := ⟨h.cell, h.free⟩
theorem Arr.drewN {w : World} {X : Nat} {s : Nat → Int} (h : Arr w X s) (n : Nat) : Arr (w.drewN n) X s := ⟨h.cell, h.free⟩
theorem Arr.kp {w w' : World} {X : Nat} {s : Nat → Int} (h : Arr w X s) {S : List Nat} (k : Kp S w w') (hn : X ∉ S) : Arr w' X s :=
  ⟨fun i hi => (k.cell h.lt hn).trans (h.cell i hi), fun i hi => (k.frozen h.lt hn).trans (h.free i hi)⟩
theorem Arr.set {w : World} {X : Nat} {s : Nat → Int} (h : Arr w X s) {i : Nat} (hi : i < 16) (v : Int) : Arr (w.setCell ⟨X, i, none⟩ (.int .u32 v)) X (put s i v) := by
  refine ⟨fun j hj => ?_, fun j hj => by rw [World.frozen?_setCell]; exact h.free j hj⟩
  unfold put
  by_cases e : j = i
  · subst e; rw [if_pos rfl]; exact World.cell?_setCell_same _ _ _ (h.cell j hj)
  · rw [if_neg e, World.cell?_setCell_other _ _ _ _ (fun hh => e (Addr.mk.inj hh).2.1.symm)]; exact h.cell j hj
theorem Arr.congr {w : World} {X : Nat} {s t : Nat → Int} (h : Arr w X s) (e : ∀ i, i < 16 → s i = t i) : Arr w X t :=
  ⟨fun i hi => by rw [← e i hi]; exact h.cell i hi, h.free⟩
end Go.Proofs.Ybulkdfhk
