/-
  LawS5330CAhead (5).
-/
import Derived.Test.YbulkdfjaPw
import Derived.Test.YbulkdfjaKeep
import Derived.Deep.AppendLies
import Derived.Lib.SlBytesConst
import Derived.OwnWalk
import Derived.LaidEqlPtr
namespace Go.Proofs.Ybulkdfja
open Go.RowKit
set_option linter.unusedVariables false
set_option linter.unusedSimpArgs false

def plc (c id : ByteArray) (cp st sq : Int) (body : Value) (rm gn : Bool) : List Value :=
  [.string id, .int .i64 cp, .string c, .string id, .int .i64 cp, .slice none 0 0, body, .int .u64 sq, .int .u64 st, .bool rm, .bool gn, .int .u64 0, .int .i64 0, .pointer none, .bool false]
/-- The shelf's block. -/
def shB (l0 l2 l6 : Value) : Obj := .cells #[l0, .map none, l2, .map none, .slice none 0 0, .map none, l6, .map none, .slice none 0 0, .int .i64 0, .slice none 0 0] 57 (0, 0)

theorem flatMap_congr {α : Type} {n : Nat} {f g : Nat → List α} (h : ∀ j, j < n → f j = g j) : (List.range n).flatMap f = (List.range n).flatMap g := by
  rw [List.flatMap_def, List.flatMap_def, List.map_congr_left fun i hi => h i (List.mem_range.1 hi)]
def zero70 : Value := .agg #[.string ⟨#[]⟩, .int .i64 0, .string ⟨#[]⟩, .string ⟨#[]⟩, .int .i64 0, .slice none 0 0, .slice none 0 0, .int .u64 0, .int .u64 0, .bool false, .bool false, .int .u64 0, .int .i64 0, .pointer none, .bool false]
theorem info70 : (Yba.prog.info? 70).map (fun i => (i.zero, i.size, i.bytes)) = some (some zero70, 15, 168) := by kernel_rfl

theorem grown_set (W : World) (b o : Nat) (v : Value) : W.grownBy (W.setCell ⟨b, o, none⟩ v) (some b) :=
  ⟨rfl, rfl, rfl, by simp [World.setCell], fun k _ hk => Below.heap_setCell _ _ _ k (fun e => hk (by rw [e]))⟩
theorem heap_set {W : World} {b : Nat} {cs : Array Value} {t : TypeId} (h : W.heap[b]? = some (.cells cs t (0, 0))) (o : Nat) (v : Value) : (W.setCell ⟨b, o, none⟩ v).heap[b]? = some (.cells (cs.setIfInBounds o v) t (0, 0)) := by
  obtain ⟨hlt, hk⟩ := Array.getElem?_eq_some_iff.1 h
  show (W.heap.modify b _)[b]? = _
  rw [Array.getElem?_eq_getElem (by rw [Array.size_modify]; exact hlt), Array.getElem_modify_self, hk]
  rfl
theorem ownBlock_ne {W : World} {base : Nat} {e : TypeId} {size : Nat} {v : Value} {n : Nat} {xs : List Value} (h : W.ownsRow base e size v n xs) {b : Nat} (hb : b < base ∨ W.heap.size ≤ b) : some b ≠ v.ownBlock := fun e' => by
  have := h.lt b e'.symm
  omega

def zero77 : Value := .agg #[.string ⟨#[]⟩, .int .i64 0]
def zero97 : Value := .agg #[.string ⟨#[]⟩, .int .i64 0, .int .u64 0, .bool false]
theorem info97 : (Yba.prog.info? 97).map (fun i => (i.zero, i.size, i.bytes)) = some (some zero97, 4, 40) := by kernel_rfl
theorem info77 : (Yba.prog.info? 77).map (fun i => (i.zero, i.size, i.bytes)) = some (some zero77, 2, 32) := by kernel_rfl

theorem ptr_eq41 (N : Nat) (w : World) : (binOp .eql 41 (.pointer (some ⟨N, 0, none⟩)) (.pointer (some ⟨N, 0, none⟩))).run Yba.prog w = .ok (.bool true) w := by
  have h : (Yba.prog.info? 57).isSome = true := by kernel_rfl
  obtain ⟨j, hj⟩ := Option.isSome_iff_exists.1 h
  exact run_eql_ptr_same w _ Yba.underlying41 hj
theorem pl_of_row {W : World} {base g n cap : Nat} {c : ByteArray} {id : Nat → ByteArray} {cp st : Nat → Int} {sq : Int} {body : Nat → Value} {rm gn : Nat → Bool}
    (h : W.ownsRow base 70 15 (.slice (some ⟨g, 0, none⟩) n cap) n ((List.range n).flatMap fun j => plc c (id j) (cp j) (st j) sq (body j) (rm j) (gn j))) (i : Nat) (hi : i < n) :
    PlAt W g (i * 15) c (id i) (cp i) (st i) sq (body i) (rm i) (gn i) := by
  have k : ∀ j u, j < 15 → (plc c (id i) (cp i) (st i) sq (body i) (rm i) (gn i))[j]? = some u → W.cell? ⟨g, i * 15 + j, none⟩ = some u := fun j u hj hu =>
    row_cell (l := List.range n) (f := fun j => plc c (id j) (cp j) (st j) sq (body j) (rm j) (gn j)) (fun x => rfl) h (i := i) (x := i) (by simp [hi]) hj hu
  exact ⟨k 0 _ (by decide) rfl, k 1 _ (by decide) rfl, k 2 _ (by decide) rfl, k 3 _ (by decide) rfl, k 4 _ (by decide) rfl, k 5 _ (by decide) rfl, k 6 _ (by decide) rfl, k 7 _ (by decide) rfl, k 8 _ (by decide) rfl, k 9 _ (by decide) rfl, k 10 _ (by decide) rfl, k 11 _ (by decide) rfl, k 12 _ (by decide) rfl, k 13 _ (by decide) rfl, k 14 _ (by decide) rfl⟩

set_option maxRecDepth 100000 in
set_option maxHeartbeats 20000000 in
theorem main_walk (c : ByteArray) (w : World) (hcs : c.size + 1 ≤ 9223372036854775807)
    (eb eo ne ce : Nat) (lpe : Option Addr) (hlpe : 0 < ne → lpe = some ⟨eb, eo, none⟩) (eid ecp est : Nat → Int) (h1 : ne ≤ 1024)
    (he0 : ∀ i, i < ne → w.cell? ⟨eb, eo + i * 3, none⟩ = some (.int .u8 (eid i))) (he1 : ∀ i, i < ne → w.cell? ⟨eb, eo + i * 3 + 1, none⟩ = some (.int .u8 (ecp i))) (he2 : ∀ i, i < ne → w.cell? ⟨eb, eo + i * 3 + 2, none⟩ = some (.int .u64 (est i)))
    (be0 : ∀ i, 0 ≤ eid i ∧ eid i ≤ 255) (be1 : ∀ i, 0 ≤ ecp i ∧ ecp i ≤ 255)
    (rb ro nr cr : Nat) (lpr : Option Addr) (hlpr : 0 < nr → lpr = some ⟨rb, ro, none⟩) (rid rcp rst : Nat → Int) (rrm : Nat → Bool) (h2 : nr ≤ 1024)
    (hr0 : ∀ i, i < nr → w.cell? ⟨rb, ro + i * 4, none⟩ = some (.int .u8 (rid i))) (hr1 : ∀ i, i < nr → w.cell? ⟨rb, ro + i * 4 + 1, none⟩ = some (.int .u8 (rcp i))) (hr2 : ∀ i, i < nr → w.cell? ⟨rb, ro + i * 4 + 2, none⟩ = some (.int .u64 (rst i))) (hr3 : ∀ i, i < nr → w.cell? ⟨rb, ro + i * 4 + 3, none⟩ = some (.bool (rrm i)))
    (br0 : ∀ i, 0 ≤ rid i ∧ rid i ≤ 255) (br1 : ∀ i, 0 ≤ rcp i ∧ rcp i ≤ 255)
    (ub uo nu cu : Nat) (lpu : Option Addr) (hlpu : 0 < nu → lpu = some ⟨ub, uo, none⟩) (uid ucp : Nat → Int) (h3 : nu ≤ 1024)
    (hu0 : ∀ i, i < nu → w.cell? ⟨ub, uo + i * 2, none⟩ = some (.int .u8 (uid i))) (hu1 : ∀ i, i < nu → w.cell? ⟨ub, uo + i * 2 + 1, none⟩ = some (.int .u8 (ucp i)))
    (bu0 : ∀ i, 0 ≤ uid i ∧ uid i ≤ 255) (bu1 : ∀ i, 0 ≤ ucp i ∧ ucp i ≤ 255) :
    Calls Yba.prog 5 #[.string c, .slice lpe ne ce, .slice lpr nr cr, .slice lpu nu cu] w fun e w' => e = .returned (.bool true) ∧ Below w.heap.size w w' := by
  have q1 : ¬ ((1024 : Int) < ne) := by omega
  have q2 : ¬ ((1024 : Int) < nr) := by omega
  have q3 : ¬ ((1024 : Int) < nu) := by omega
  obtain ⟨N, hN⟩ : ∃ N, w.heap.size = N := ⟨_, rfl⟩
  have HN : Hid (w.heap.size = N) := hN
  obtain ⟨i70, hi70, hz70, hz71, hz72⟩ := info_parts info70
  obtain ⟨i77, hi77, hw70, hw71, hw72⟩ := info_parts info77
  obtain ⟨i97, hi97, hx70, hx71, hx72⟩ := info_parts info97
  go_enter Yba.func5, Yba.ntmps5
  go_wp2
  clear hN
  obtain ⟨V0, HV0⟩ : ∃ u, Hid (u = w.alloc (shB (.slice none 0 0) (.slice none 0 0) (.slice none 0 0))) := ⟨_, rfl⟩
  have hV0 : Below N w V0 := by rw [HV0.out]; exact (Below.refl _ _).alloc (by rw [HN.out]; exact Nat.le_refl _) _
  have hV0s : V0.heap[N]? = some (shB (.slice none 0 0) (.slice none 0 0) (.slice none 0 0)) := by
    rw [HV0.out, ← HN.out]; exact World.alloc_heap_new w _
  have hM0 : V0.heap.size = N + 1 := by rw [HV0.out, World.size_alloc, HN.out]
  obtain ⟨M0, HM0⟩ : ∃ u, V0.heap.size = u := ⟨_, rfl⟩
  have hNM0 : N < M0 := by omega
  unfold shB at HV0
  rw [← HV0.out]
  clear HV0 hM0
  go_loopw [48] (fun vi wr => ∃ i : Nat, i ≤ ne ∧ vi = .int .i64 i ∧ ∃ (lv : Value) (bd : Nat → Nat), V0.grownBy wr (some N) ∧ wr.heap[N]? = some (shB lv (.slice none 0 0) (.slice none 0 0)) ∧
      wr.ownsRow M0 70 15 lv i ((List.range i).flatMap fun j => plc c (sid (eid j)) (ecp j % 3) (est j) 7 (.slice (some ⟨bd j, 0, none⟩) 2 2) false false)) (fun vi _ => ne - (intOf vi).toNat)
  case atStart => exact ⟨0, by omega, rfl, .slice none 0 0, fun _ => 0, grown_refl _ _, hV0s, World.ownsRow_nil _ _ _ _⟩
  obtain ⟨i, hi, rfl, lv, bd, hG, hsh, hrow⟩ := hrel
  have hB : Below N w wr := hV0.grown hG (by omega) (fun k e => by cases e; exact Nat.le_refl _)
  by_cases hlt : i < ne
  · obtain rfl := hlpe (by omega)
    have qlt : (i : Int) < ne := by omega
    have hN1 : N < wr.heap.size := (Array.getElem?_eq_some_iff.1 hsh).1
    have heb : eb < N := by rw [← HN.out]; exact World.block_lt_of_cell? w _ (he0 i hlt)
    have e0 := (hB.cell (p := ⟨eb, eo + i * 3, none⟩) heb).trans (he0 i hlt)
    have e1 := (hB.cell (p := ⟨eb, eo + i * 3 + 1, none⟩) heb).trans (he1 i hlt)
    have e2 := (hB.cell (p := ⟨eb, eo + i * 3 + 2, none⟩) heb).trans (he2 i hlt)
    obtain ⟨l0, l1⟩ := be0 i
    obtain ⟨m0, m1⟩ := be1 i
    have hr3 : (ecp i).tmod 3 = ecp i % 3 := Int.tmod_eq_emod_of_nonneg m0
    have hw3 : IntKind.u8.wrap (ecp i % 3) = ecp i % 3 := by rw [IntKind.wrap_u8]; omega
    have hw4 : IntKind.i64.wrap (ecp i % 3) = ecp i % 3 := by rw [IntKind.wrap_i64]; omega
    obtain ⟨H, hH⟩ : ∃ H, wr.heap.size = H := ⟨_, rfl⟩
    have HH : Hid (wr.heap.size = H) := hH
    go_wp2
    obtain ⟨W7, HW7⟩ : ∃ u, Hid (u = wr.alloc (Obj.cells #[Value.int IntKind.u8 (eid i), Value.int IntKind.u8 (ecp i), Value.int IntKind.u64 (est i)] 59)) := ⟨_, rfl⟩
    rw [← HW7.out]
    have p7 : W7.heap[H]? = some (.cells #[Value.int IntKind.u8 (eid i), Value.int IntKind.u8 (ecp i), Value.int IntKind.u64 (est i)] 59 (0, 0)) := by
      rw [HW7.out, ← HH.out]; exact World.alloc_heap_new wr _
    have f0 : W7.drew.cell? ⟨H, 0, none⟩ = some (.int .u8 (eid i)) := by show W7.cell? _ = _; simp [World.cell?, p7]
    have f1 : W7.drew.cell? ⟨H, 1, none⟩ = some (.int .u8 (ecp i)) := by show W7.cell? _ = _; simp [World.cell?, p7]
    have hS : W7.drew.grownBy W7.drew none := grown_refl _ _
    clear hH e0 e1 e2
    refine regionK (fun W => W7.drew.grownBy W none) 9 (by kernel_rfl) ?_
    refine takeK 0 rfl (by kernel_rfl) (by kernel_rfl) (by kernel_rfl) (by kernel_rfl) (fun _ _ _ h => h) hS rfl (by intro W hW; go_simp <;> with_reducible rfl) ?_
    try simp only [Act.put, List.setIfInBounds_toArray, List.set_cons_zero, List.set_cons_succ]
    refine takeK 1 rfl (by kernel_rfl) (by kernel_rfl) (by kernel_rfl) (by kernel_rfl) (fun _ _ _ h => h) hS rfl (by intro W hW; have g0 := hW.cell f0 (by simp); go_simp <;> with_reducible rfl) ?_
    try simp only [Act.put, List.setIfInBounds_toArray, List.set_cons_zero, List.set_cons_succ]
    refine takeCallK 2 rfl (by kernel_rfl) (by kernel_rfl) (by kernel_rfl) (by kernel_rfl) (fun _ _ _ h => h) hS rfl (by intro W hW; go_simp <;> with_reducible rfl) (fun W => cid (eid i) W l0 l1) ?_
    try simp only [Act.put, List.setIfInBounds_toArray, List.set_cons_zero, List.set_cons_succ]
    refine takeK 3 rfl (by kernel_rfl) (by kernel_rfl) (by kernel_rfl) (by kernel_rfl) (fun _ _ _ h => h) hS rfl (by intro W hW; go_simp <;> with_reducible rfl) ?_
    try simp only [Act.put, List.setIfInBounds_toArray, List.set_cons_zero, List.set_cons_succ]
    refine takeK 4 rfl (by kernel_rfl) (by kernel_rfl) (by kernel_rfl) (by kernel_rfl) (fun _ _ _ h => h) hS rfl (by intro W hW; have g0 := hW.cell f1 (by simp); go_simp <;> with_reducible rfl) ?_
    try simp only [Act.put, List.setIfInBounds_toArray, List.set_cons_zero, List.set_cons_succ]
    refine takeK 5 rfl (by kernel_rfl) (by kernel_rfl) (by kernel_rfl) (by kernel_rfl) (fun _ _ _ h => h) hS rfl (by intro W hW; go_simp <;> with_reducible rfl) ?_
    try simp only [Act.put, List.setIfInBounds_toArray, List.set_cons_zero, List.set_cons_succ]
    refine takeK 6 rfl (by kernel_rfl) (by kernel_rfl) (by kernel_rfl) (by kernel_rfl) (fun _ _ _ h => h) hS rfl (by intro W hW; go_simp <;> with_reducible rfl) ?_
    try simp only [Act.put, List.setIfInBounds_toArray, List.set_cons_zero, List.set_cons_succ]
    refine takeK 7 rfl (by kernel_rfl) (by kernel_rfl) (by kernel_rfl) (by kernel_rfl) (fun _ _ _ h => h) hS rfl (by intro W hW; go_simp <;> with_reducible rfl) ?_
    try simp only [Act.put, List.setIfInBounds_toArray, List.set_cons_zero, List.set_cons_succ]
    have hs7 : W7.heap.size = H + 1 := by rw [HW7.out, World.size_alloc, HH.out]
    refine stepK 8 rfl (by kernel_rfl) rfl (fun K hK => ?_)
    go_simp
    refine hK _ _ (fun _ => grown_alloc hS _) ?_
    clear hK K
    try simp only [Act.put, List.setIfInBounds_toArray, List.set_cons_zero, List.set_cons_succ]
    refine stepK 9 rfl (by kernel_rfl) rfl (fun K hK => ?_)
    go_simp
    refine hK _ _ (fun h => absurd rfl h) ?_
    clear hK K
    try simp only [Act.put, List.setIfInBounds_toArray, List.set_cons_zero, List.set_cons_succ]
    refine doneK (by kernel_rfl) ?_ _
    clear hS f0 f1
    go_wp2
    obtain ⟨W8, HW8⟩ : ∃ u, Hid (u = (W7.alloc (Obj.cells #[Value.string (sid (eid i)), Value.int IntKind.i64 (ecp i % 3)] 62)).drew) := ⟨_, rfl⟩
    rw [← HW8.out]
    have B8 : Below wr.heap.size wr W8 := by rw [HW8.out, HW7.out]; exact (((Below.refl _ _).alloc (Nat.le_refl _) _).alloc (by simp) _).drew
    have hs8 : W8.heap.size = H + 2 := by rw [HW8.out]; show (W7.alloc _).heap.size = _; rw [World.size_alloc, hs7]
    have p8 : W8.heap[H]? = some (.cells #[Value.int IntKind.u8 (eid i), Value.int IntKind.u8 (ecp i), Value.int IntKind.u64 (est i)] 59 (0, 0)) := by
      rw [HW8.out]; exact (Below.heap_alloc W7 _ H (by rw [hs7]; omega)).trans p7
    have k8 : W8.heap[H + 1]? = some (.cells #[Value.string (sid (eid i)), Value.int IntKind.i64 (ecp i % 3)] 62 (0, 0)) := by
      rw [HW8.out, ← hs7]; exact World.alloc_heap_new W7 _
    have sh8 : W8.heap[N]? = some (shB lv (.slice none 0 0) (.slice none 0 0)) := (B8.block N hN1).trans hsh
    have row8 := ownsRow_below B8 hrow
    have rN : some N ≠ lv.ownBlock := ownBlock_ne hrow (.inl (by omega))
    have rH : some H ≠ lv.ownBlock := ownBlock_ne hrow (.inr (by rw [HH.out]; exact Nat.le_refl _))
    have rK : some (H + 1) ≠ lv.ownBlock := ownBlock_ne hrow (.inr (by rw [HH.out]; omega))
    have c5 : W8.drew.cell? ⟨N, 0, none⟩ = some lv := by show W8.cell? _ = _; simp [World.cell?, sh8, shB]
    have c6 : W8.drew.cell? ⟨H + 1, 0, none⟩ = some (.string (sid (eid i))) := by show W8.cell? _ = _; simp [World.cell?, k8]
    have c7 : W8.drew.cell? ⟨H + 1, 1, none⟩ = some (.int .i64 (ecp i % 3)) := by show W8.cell? _ = _; simp [World.cell?, k8]
    have c8 : W8.drew.cell? ⟨H, 2, none⟩ = some (Value.int IntKind.u64 (est i)) := by show W8.cell? _ = _; simp [World.cell?, p8]
    have hNH : N < H := by rw [← HH.out]; exact hN1
    have hMH : M0 ≤ H := by have := hG.size; rw [HH.out] at this; omega
    have hS : W8.drew.grownBy W8.drew lv.ownBlock := grown_refl _ _
    have hG8 : V0.grownBy W8.drew (some N) := grown_trans hG ⟨B8.os, B8.tape, B8.output, B8.size, fun k hk _ => B8.block k hk⟩
    clear HW8 HW7 hs7 p7 p8 k8 B8 hN1 hsh hrow
    refine regionK (fun W => W8.drew.grownBy W lv.ownBlock) 23 (by kernel_rfl) ?_
    refine takeK 0 rfl (by kernel_rfl) (by kernel_rfl) (by kernel_rfl) (by kernel_rfl) (fun _ _ _ h => h) hS rfl (by intro W hW; go_simp <;> with_reducible rfl) ?_
    try simp only [Act.put, List.setIfInBounds_toArray, List.set_cons_zero, List.set_cons_succ]
    refine takeK 1 rfl (by kernel_rfl) (by kernel_rfl) (by kernel_rfl) (by kernel_rfl) (fun _ _ _ h => h) hS rfl (by intro W hW; go_simp <;> with_reducible rfl) ?_
    try simp only [Act.put, List.setIfInBounds_toArray, List.set_cons_zero, List.set_cons_succ]
    refine takeK 2 rfl (by kernel_rfl) (by kernel_rfl) (by kernel_rfl) (by kernel_rfl) (fun _ _ _ h => h) hS rfl (by intro W hW; go_simp <;> with_reducible rfl) ?_
    try simp only [Act.put, List.setIfInBounds_toArray, List.set_cons_zero, List.set_cons_succ]
    refine takeK 3 rfl (by kernel_rfl) (by kernel_rfl) (by kernel_rfl) (by kernel_rfl) (fun _ _ _ h => h) hS rfl (by intro W hW; go_simp <;> with_reducible rfl) ?_
    try simp only [Act.put, List.setIfInBounds_toArray, List.set_cons_zero, List.set_cons_succ]
    refine takeK 4 rfl (by kernel_rfl) (by kernel_rfl) (by kernel_rfl) (by kernel_rfl) (fun _ _ _ h => h) hS rfl (by intro W hW; go_simp <;> with_reducible rfl) ?_
    try simp only [Act.put, List.setIfInBounds_toArray, List.set_cons_zero, List.set_cons_succ]
    refine takeK 5 rfl (by kernel_rfl) (by kernel_rfl) (by kernel_rfl) (by kernel_rfl) (fun _ _ _ h => h) hS rfl (by intro W hW; have g0 := hW.cell c5 rN; go_simp <;> with_reducible rfl) ?_
    try simp only [Act.put, List.setIfInBounds_toArray, List.set_cons_zero, List.set_cons_succ]
    refine takeK 6 rfl (by kernel_rfl) (by kernel_rfl) (by kernel_rfl) (by kernel_rfl) (fun _ _ _ h => h) hS rfl (by intro W hW; have g0 := hW.cell c6 rK; have g1 := hW.cell c7 rK; go_simp <;> with_reducible rfl) ?_
    try simp only [Act.put, List.setIfInBounds_toArray, List.set_cons_zero, List.set_cons_succ]
    refine takeK 7 rfl (by kernel_rfl) (by kernel_rfl) (by kernel_rfl) (by kernel_rfl) (fun _ _ _ h => h) hS rfl (by intro W hW; go_simp <;> with_reducible rfl) ?_
    try simp only [Act.put, List.setIfInBounds_toArray, List.set_cons_zero, List.set_cons_succ]
    refine takeK 8 rfl (by kernel_rfl) (by kernel_rfl) (by kernel_rfl) (by kernel_rfl) (fun _ _ _ h => h) hS rfl (by intro W hW; go_simp <;> with_reducible rfl) ?_
    try simp only [Act.put, List.setIfInBounds_toArray, List.set_cons_zero, List.set_cons_succ]
    refine takeK 9 rfl (by kernel_rfl) (by kernel_rfl) (by kernel_rfl) (by kernel_rfl) (fun _ _ _ h => h) hS rfl (by intro W hW; have g0 := hW.cell c6 rK; go_simp <;> with_reducible rfl) ?_
    try simp only [Act.put, List.setIfInBounds_toArray, List.set_cons_zero, List.set_cons_succ]
    refine takeK 10 rfl (by kernel_rfl) (by kernel_rfl) (by kernel_rfl) (by kernel_rfl) (fun _ _ _ h => h) hS rfl (by intro W hW; go_simp <;> with_reducible rfl) ?_
    try simp only [Act.put, List.setIfInBounds_toArray, List.set_cons_zero, List.set_cons_succ]
    refine takeK 11 rfl (by kernel_rfl) (by kernel_rfl) (by kernel_rfl) (by kernel_rfl) (fun _ _ _ h => h) hS rfl (by intro W hW; have g0 := hW.cell c7 rK; go_simp <;> with_reducible rfl) ?_
    try simp only [Act.put, List.setIfInBounds_toArray, List.set_cons_zero, List.set_cons_succ]
    refine takeK 12 rfl (by kernel_rfl) (by kernel_rfl) (by kernel_rfl) (by kernel_rfl) (fun _ _ _ h => h) hS rfl (by intro W hW; go_simp <;> with_reducible rfl) ?_
    try simp only [Act.put, List.setIfInBounds_toArray, List.set_cons_zero, List.set_cons_succ]
    refine takeK 13 rfl (by kernel_rfl) (by kernel_rfl) (by kernel_rfl) (by kernel_rfl) (fun _ _ _ h => h) hS rfl (by intro W hW; have g0 := hW.cell c8 rH; go_simp <;> with_reducible rfl) ?_
    try simp only [Act.put, List.setIfInBounds_toArray, List.set_cons_zero, List.set_cons_succ]
    have hcv : (convert 29 29 (.slice (some ⟨H + 2, 0, none⟩) 2 2)).run Yba.prog (W8.alloc (Obj.cells #[Value.int IntKind.u8 123, Value.int IntKind.u8 125] 5)).drew = .ok (.slice (some ⟨H + 2, 0, none⟩) 2 2) (W8.alloc (Obj.cells #[Value.int IntKind.u8 123, Value.int IntKind.u8 125] 5 (2, 3))).drew := by
      have := Lib.run_convert_bytes_const (P := Yba.prog) W8.drew 29 5 #[Value.int IntKind.u8 123, Value.int IntKind.u8 125] 2 2 Yba.underlying29 Yba.underlying5
      rw [show W8.drew.heap.size = H + 2 from hs8] at this
      exact this
    have hS0 := hS
    refine stepK 14 rfl (by kernel_rfl) rfl (fun K hK => ?_)
    go_simp
    refine hK _ _ (fun _ => grown_alloc hS _) ?_
    clear hK K
    try simp only [Act.put, List.setIfInBounds_toArray, List.set_cons_zero, List.set_cons_succ]
    refine stepK 15 rfl (by kernel_rfl) rfl (fun K hK => ?_)
    go_simp
    refine hK _ _ (fun _ => grown_alloc hS0 _) ?_
    clear hK K
    try simp only [Act.put, List.setIfInBounds_toArray, List.set_cons_zero, List.set_cons_succ]
    replace hS := grown_alloc hS0 (Obj.cells #[Value.int IntKind.u8 123, Value.int IntKind.u8 125] 5 (2, 3))
    clear hcv hS0
    refine takeK 16 rfl (by kernel_rfl) (by kernel_rfl) (by kernel_rfl) (by kernel_rfl) (fun _ _ _ h => h) hS rfl (by intro W hW; go_simp <;> with_reducible rfl) ?_
    try simp only [Act.put, List.setIfInBounds_toArray, List.set_cons_zero, List.set_cons_succ]
    refine takeK 17 rfl (by kernel_rfl) (by kernel_rfl) (by kernel_rfl) (by kernel_rfl) (fun _ _ _ h => h) hS rfl (by intro W hW; go_simp <;> with_reducible rfl) ?_
    try simp only [Act.put, List.setIfInBounds_toArray, List.set_cons_zero, List.set_cons_succ]
    refine stepK 18 rfl (by kernel_rfl) rfl (fun K hK => ?_)
    go_simp
    refine hK _ _ (fun _ => grown_alloc hS _) ?_
    clear hK K
    try simp only [Act.put, List.setIfInBounds_toArray, List.set_cons_zero, List.set_cons_succ]
    replace hS := grown_alloc hS (Obj.cells #[.string (sid (eid i)), .int .i64 (ecp i % 3), .string c, .string (sid (eid i)), .int .i64 (ecp i % 3), .slice none 0 0, .slice (some ⟨H + 2, 0, none⟩) 2 2, .int .u64 7, .int .u64 (est i), .bool false, .bool false, .int .u64 0, .int .i64 0, .pointer none, .bool false] 70)
    have row9 := ((row8.alloc (Obj.cells #[Value.int IntKind.u8 123, Value.int IntKind.u8 125] 5 (2, 3))).alloc (Obj.cells #[.string (sid (eid i)), .int .i64 (ecp i % 3), .string c, .string (sid (eid i)), .int .i64 (ecp i % 3), .slice none 0 0, .slice (some ⟨H + 2, 0, none⟩) 2 2, .int .u64 7, .int .u64 (est i), .bool false, .bool false, .int .u64 0, .int .i64 0, .pointer none, .bool false] 70))
    refine stepK 19 rfl (by kernel_rfl) rfl (fun K hK => ?_)
    refine wp_append_lies _ _ _ 42 rfl M0 70 i70 zero70 15 168 Yba.underlying42 hi70 hz70 hz71 hz72 rfl (by decide) lv i _ (by rfl) (show World.ownsRow (World.drew _) _ _ _ _ _ _ from row9) ⟨H + 3, 0, none⟩ 1 1 [.string (sid (eid i)), .int .i64 (ecp i % 3), .string c, .string (sid (eid i)), .int .i64 (ecp i % 3), .slice none 0 0, .slice (some ⟨H + 2, 0, none⟩) 2 2, .int .u64 7, .int .u64 (est i), .bool false, .bool false, .int .u64 0, .int .i64 0, .pointer none, .bool false] (by rfl) (by rfl) (World.news_of_block (by
      have := World.alloc_heap_new (W8.alloc (Obj.cells #[Value.int IntKind.u8 123, Value.int IntKind.u8 125] 5 (2, 3))) (Obj.cells #[.string (sid (eid i)), .int .i64 (ecp i % 3), .string c, .string (sid (eid i)), .int .i64 (ecp i % 3), .slice none 0 0, .slice (some ⟨H + 2, 0, none⟩) 2 2, .int .u64 7, .int .u64 (est i), .bool false, .bool false, .int .u64 0, .int .i64 0, .pointer none, .bool false] 70)
      rw [World.size_alloc, hs8] at this
      exact this)) (by simp [Value.oneCell']) (by decide) (by unfold maxLen; omega) (by omega) (by show M0 ≤ ((W8.alloc (Obj.cells #[Value.int IntKind.u8 123, Value.int IntKind.u8 125] 5 (2, 3))).alloc _).heap.size; simp [hs8]; omega) _ rfl ?_
    intro g cap w1 hown hgrow hat hgl
    replace hS := grown_trans hS hgrow
    refine hK _ _ (fun _ => hS) ?_
    clear hK K
    dsimp only [Act.put]
    simp only [List.setIfInBounds_toArray, List.set_cons_zero, List.set_cons_succ]
    have hc1 := hS.cell c5 rN
    have sh1 : w1.heap[N]? = some (shB lv (.slice none 0 0) (.slice none 0 0)) := (hS.block N (by show N < W8.heap.size; omega) rN).trans sh8
    have hfz : w1.frozen? ⟨N, 0, none⟩ = false := by simp [World.frozen?, sh1, shB]
    have hG1 : V0.grownBy w1 (some N) := ⟨hS.os.trans hG8.os, hS.tape.trans hG8.tape, hS.output.trans hG8.output, Nat.le_trans hG8.size hS.size, fun k hk hr => (hS.block k (Nat.lt_of_lt_of_le hk hG8.size) (ownBlock_ne row8 (.inl (by omega)))).trans (hG8.block k hk hr)⟩
    refine stepK 20 rfl (by kernel_rfl) rfl (fun K hK => ?_)
    go_simp
    refine hK _ _ (fun _ => hS) ?_
    clear hK K
    try simp only [Act.put, List.setIfInBounds_toArray, List.set_cons_zero, List.set_cons_succ]
    refine stepK 21 rfl (by kernel_rfl) rfl (fun K hK => ?_)
    go_simp
    refine hK _ _ (fun _ => hS) ?_
    clear hK K
    try simp only [Act.put, List.setIfInBounds_toArray, List.set_cons_zero, List.set_cons_succ]
    refine stepK 22 rfl (by kernel_rfl) rfl (fun K hK => ?_)
    go_simp
    refine hK _ _ (fun _ => hS) ?_
    clear hK K
    try simp only [Act.put, List.setIfInBounds_toArray, List.set_cons_zero, List.set_cons_succ]
    refine stepK 23 rfl (by kernel_rfl) rfl (fun K hK => ?_)
    go_simp
    refine hK _ _ (fun h => absurd rfl h) ?_
    clear hK K
    try simp only [Act.put, List.setIfInBounds_toArray, List.set_cons_zero, List.set_cons_succ]
    refine doneK (by kernel_rfl) ?_ _
    clear hc1 hfz
    go_wp2
    go_roundw
    case rel =>
      refine ⟨i + 1, by omega, by go_num, _, fun j => if j = i then H + 2 else bd j, grown_trans hG1 (grown_set w1 N 0 _), heap_set sh1 0 _, ?_⟩
      have hrow' := hown.kept (grown_set w1 N 0 (.slice (some ⟨g, 0, none⟩) (i + 1) cap)) (.inr (fun e => by have := (hown.lt N e).1; omega))
      rw [List.range_succ, List.flatMap_append, List.flatMap_singleton]
      rw [show ((List.range i).flatMap fun j => plc c (sid (eid j)) (ecp j % 3) (est j) 7 (.slice (some ⟨if j = i then H + 2 else bd j, 0, none⟩) 2 2) false false) = ((List.range i).flatMap fun j => plc c (sid (eid j)) (ecp j % 3) (est j) 7 (.slice (some ⟨bd j, 0, none⟩) 2 2) false false) from flatMap_congr (fun j hj => by rw [if_neg (by omega)])]
      simp only [if_true]
      exact hrow'
    case measure => simp [intOf]; omega

  have hie : ne = i := by omega
  subst hie
  obtain ⟨V1, HX⟩ : ∃ u, wr = u := ⟨_, rfl⟩
  rw [HX] at hB hG hsh hrow
  rw [HX]
  obtain ⟨lvE, HX2⟩ : ∃ u, lv = u := ⟨_, rfl⟩
  rw [HX2] at hsh hrow
  obtain ⟨M1, HM1⟩ : ∃ u, V1.heap.size = u := ⟨_, rfl⟩
  have hNM1 : N < M1 := by have := hG.size; omega
  have hV1 : Below N w V1 := hB
  have hV1s : V1.heap[N]? = some (shB lvE (.slice none 0 0) (.slice none 0 0)) := hsh
  have row1 := hrow
  have grw1 := hG
  clear HX HX2 hB hG hsh hrow hlt hi
  clear wr lv
  go_wp2
  go_loopw [86] (fun vi wr => ∃ i : Nat, i ≤ nr ∧ vi = .int .i64 i ∧ ∃ lv : Value, V1.grownBy wr (some N) ∧ wr.heap[N]? = some (shB lvE lv (.slice none 0 0)) ∧
      wr.ownsRow M1 70 15 lv i ((List.range i).flatMap fun j => plc c (sid (rid j)) (rcp j % 3) (rst j) 5 (.slice none 0 0) (rrm j) (!(rrm j)))) (fun vi _ => nr - (intOf vi).toNat)
  case atStart => exact ⟨0, by omega, rfl, .slice none 0 0, grown_refl _ _, hV1s, World.ownsRow_nil _ _ _ _⟩
  obtain ⟨i, hi, rfl, lv, hG, hsh, hrow⟩ := hrel
  have hB : Below N w wr := hV1.grown hG (by omega) (fun k e => by cases e; exact Nat.le_refl _)
  by_cases hlt : i < nr
  · obtain rfl := hlpr (by omega)
    have qlt : (i : Int) < nr := by omega
    have hN1 : N < wr.heap.size := (Array.getElem?_eq_some_iff.1 hsh).1
    have heb : rb < N := by rw [← HN.out]; exact World.block_lt_of_cell? w _ (hr0 i hlt)
    have e0 := (hB.cell (p := ⟨rb, ro + i * 4, none⟩) heb).trans (hr0 i hlt)
    have e1 := (hB.cell (p := ⟨rb, ro + i * 4 + 1, none⟩) heb).trans (hr1 i hlt)
    have e2 := (hB.cell (p := ⟨rb, ro + i * 4 + 2, none⟩) heb).trans (hr2 i hlt)
    have e3 := (hB.cell (p := ⟨rb, ro + i * 4 + 3, none⟩) heb).trans (hr3 i hlt)
    obtain ⟨l0, l1⟩ := br0 i
    obtain ⟨m0, m1⟩ := br1 i
    have hr3 : (rcp i).tmod 3 = rcp i % 3 := Int.tmod_eq_emod_of_nonneg m0
    have hw3 : IntKind.u8.wrap (rcp i % 3) = rcp i % 3 := by rw [IntKind.wrap_u8]; omega
    have hw4 : IntKind.i64.wrap (rcp i % 3) = rcp i % 3 := by rw [IntKind.wrap_i64]; omega
    obtain ⟨H, hH⟩ : ∃ H, wr.heap.size = H := ⟨_, rfl⟩
    have HH : Hid (wr.heap.size = H) := hH
    go_wp2
    obtain ⟨W7, HW7⟩ : ∃ u, Hid (u = wr.alloc (Obj.cells #[Value.int IntKind.u8 (rid i), Value.int IntKind.u8 (rcp i), Value.int IntKind.u64 (rst i), Value.bool (rrm i)] 72)) := ⟨_, rfl⟩
    rw [← HW7.out]
    have p7 : W7.heap[H]? = some (.cells #[Value.int IntKind.u8 (rid i), Value.int IntKind.u8 (rcp i), Value.int IntKind.u64 (rst i), Value.bool (rrm i)] 72 (0, 0)) := by
      rw [HW7.out, ← HH.out]; exact World.alloc_heap_new wr _
    have f0 : W7.drew.cell? ⟨H, 0, none⟩ = some (.int .u8 (rid i)) := by show W7.cell? _ = _; simp [World.cell?, p7]
    have f1 : W7.drew.cell? ⟨H, 1, none⟩ = some (.int .u8 (rcp i)) := by show W7.cell? _ = _; simp [World.cell?, p7]
    have hS : W7.drew.grownBy W7.drew none := grown_refl _ _
    clear hH e0 e1 e2 e3
    refine regionK (fun W => W7.drew.grownBy W none) 9 (by kernel_rfl) ?_
    refine takeK 0 rfl (by kernel_rfl) (by kernel_rfl) (by kernel_rfl) (by kernel_rfl) (fun _ _ _ h => h) hS rfl (by intro W hW; go_simp <;> with_reducible rfl) ?_
    try simp only [Act.put, List.setIfInBounds_toArray, List.set_cons_zero, List.set_cons_succ]
    refine takeK 1 rfl (by kernel_rfl) (by kernel_rfl) (by kernel_rfl) (by kernel_rfl) (fun _ _ _ h => h) hS rfl (by intro W hW; have g0 := hW.cell f0 (by simp); go_simp <;> with_reducible rfl) ?_
    try simp only [Act.put, List.setIfInBounds_toArray, List.set_cons_zero, List.set_cons_succ]
    refine takeCallK 2 rfl (by kernel_rfl) (by kernel_rfl) (by kernel_rfl) (by kernel_rfl) (fun _ _ _ h => h) hS rfl (by intro W hW; go_simp <;> with_reducible rfl) (fun W => cid (rid i) W l0 l1) ?_
    try simp only [Act.put, List.setIfInBounds_toArray, List.set_cons_zero, List.set_cons_succ]
    refine takeK 3 rfl (by kernel_rfl) (by kernel_rfl) (by kernel_rfl) (by kernel_rfl) (fun _ _ _ h => h) hS rfl (by intro W hW; go_simp <;> with_reducible rfl) ?_
    try simp only [Act.put, List.setIfInBounds_toArray, List.set_cons_zero, List.set_cons_succ]
    refine takeK 4 rfl (by kernel_rfl) (by kernel_rfl) (by kernel_rfl) (by kernel_rfl) (fun _ _ _ h => h) hS rfl (by intro W hW; have g0 := hW.cell f1 (by simp); go_simp <;> with_reducible rfl) ?_
    try simp only [Act.put, List.setIfInBounds_toArray, List.set_cons_zero, List.set_cons_succ]
    refine takeK 5 rfl (by kernel_rfl) (by kernel_rfl) (by kernel_rfl) (by kernel_rfl) (fun _ _ _ h => h) hS rfl (by intro W hW; go_simp <;> with_reducible rfl) ?_
    try simp only [Act.put, List.setIfInBounds_toArray, List.set_cons_zero, List.set_cons_succ]
    refine takeK 6 rfl (by kernel_rfl) (by kernel_rfl) (by kernel_rfl) (by kernel_rfl) (fun _ _ _ h => h) hS rfl (by intro W hW; go_simp <;> with_reducible rfl) ?_
    try simp only [Act.put, List.setIfInBounds_toArray, List.set_cons_zero, List.set_cons_succ]
    refine takeK 7 rfl (by kernel_rfl) (by kernel_rfl) (by kernel_rfl) (by kernel_rfl) (fun _ _ _ h => h) hS rfl (by intro W hW; go_simp <;> with_reducible rfl) ?_
    try simp only [Act.put, List.setIfInBounds_toArray, List.set_cons_zero, List.set_cons_succ]
    have hs7 : W7.heap.size = H + 1 := by rw [HW7.out, World.size_alloc, HH.out]
    refine stepK 8 rfl (by kernel_rfl) rfl (fun K hK => ?_)
    go_simp
    refine hK _ _ (fun _ => grown_alloc hS _) ?_
    clear hK K
    try simp only [Act.put, List.setIfInBounds_toArray, List.set_cons_zero, List.set_cons_succ]
    refine stepK 9 rfl (by kernel_rfl) rfl (fun K hK => ?_)
    go_simp
    refine hK _ _ (fun h => absurd rfl h) ?_
    clear hK K
    try simp only [Act.put, List.setIfInBounds_toArray, List.set_cons_zero, List.set_cons_succ]
    refine doneK (by kernel_rfl) ?_ _
    clear hS f0 f1
    go_wp2
    obtain ⟨W8, HW8⟩ : ∃ u, Hid (u = (W7.alloc (Obj.cells #[Value.string (sid (rid i)), Value.int IntKind.i64 (rcp i % 3)] 62)).drew) := ⟨_, rfl⟩
    rw [← HW8.out]
    have B8 : Below wr.heap.size wr W8 := by rw [HW8.out, HW7.out]; exact (((Below.refl _ _).alloc (Nat.le_refl _) _).alloc (by simp) _).drew
    have hs8 : W8.heap.size = H + 2 := by rw [HW8.out]; show (W7.alloc _).heap.size = _; rw [World.size_alloc, hs7]
    have p8 : W8.heap[H]? = some (.cells #[Value.int IntKind.u8 (rid i), Value.int IntKind.u8 (rcp i), Value.int IntKind.u64 (rst i), Value.bool (rrm i)] 72 (0, 0)) := by
      rw [HW8.out]; exact (Below.heap_alloc W7 _ H (by rw [hs7]; omega)).trans p7
    have k8 : W8.heap[H + 1]? = some (.cells #[Value.string (sid (rid i)), Value.int IntKind.i64 (rcp i % 3)] 62 (0, 0)) := by
      rw [HW8.out, ← hs7]; exact World.alloc_heap_new W7 _
    have sh8 : W8.heap[N]? = some (shB lvE lv (.slice none 0 0)) := (B8.block N hN1).trans hsh
    have row8 := ownsRow_below B8 hrow
    have rN : some N ≠ lv.ownBlock := ownBlock_ne hrow (.inl (by omega))
    have rH : some H ≠ lv.ownBlock := ownBlock_ne hrow (.inr (by rw [HH.out]; exact Nat.le_refl _))
    have rK : some (H + 1) ≠ lv.ownBlock := ownBlock_ne hrow (.inr (by rw [HH.out]; omega))
    have c5 : W8.drew.cell? ⟨N, 2, none⟩ = some lv := by show W8.cell? _ = _; simp [World.cell?, sh8, shB]
    have c6 : W8.drew.cell? ⟨H + 1, 0, none⟩ = some (.string (sid (rid i))) := by show W8.cell? _ = _; simp [World.cell?, k8]
    have c7 : W8.drew.cell? ⟨H + 1, 1, none⟩ = some (.int .i64 (rcp i % 3)) := by show W8.cell? _ = _; simp [World.cell?, k8]
    have c8 : W8.drew.cell? ⟨H, 2, none⟩ = some (Value.int IntKind.u64 (rst i)) := by show W8.cell? _ = _; simp [World.cell?, p8]
    have c9 : W8.drew.cell? ⟨H, 3, none⟩ = some (Value.bool (rrm i)) := by show W8.cell? _ = _; simp [World.cell?, p8]
    have hNH : N < H := by rw [← HH.out]; exact hN1
    have hMH : M1 ≤ H := by have := hG.size; rw [HH.out] at this; omega
    have hS : W8.drew.grownBy W8.drew lv.ownBlock := grown_refl _ _
    have hG8 : V1.grownBy W8.drew (some N) := grown_trans hG ⟨B8.os, B8.tape, B8.output, B8.size, fun k hk _ => B8.block k hk⟩
    clear HW8 HW7 hs7 p7 p8 k8 B8 hN1 hsh hrow
    refine regionK (fun W => W8.drew.grownBy W lv.ownBlock) 26 (by kernel_rfl) ?_
    refine takeK 0 rfl (by kernel_rfl) (by kernel_rfl) (by kernel_rfl) (by kernel_rfl) (fun _ _ _ h => h) hS rfl (by intro W hW; go_simp <;> with_reducible rfl) ?_
    try simp only [Act.put, List.setIfInBounds_toArray, List.set_cons_zero, List.set_cons_succ]
    refine takeK 1 rfl (by kernel_rfl) (by kernel_rfl) (by kernel_rfl) (by kernel_rfl) (fun _ _ _ h => h) hS rfl (by intro W hW; go_simp <;> with_reducible rfl) ?_
    try simp only [Act.put, List.setIfInBounds_toArray, List.set_cons_zero, List.set_cons_succ]
    refine takeK 2 rfl (by kernel_rfl) (by kernel_rfl) (by kernel_rfl) (by kernel_rfl) (fun _ _ _ h => h) hS rfl (by intro W hW; go_simp <;> with_reducible rfl) ?_
    try simp only [Act.put, List.setIfInBounds_toArray, List.set_cons_zero, List.set_cons_succ]
    refine takeK 3 rfl (by kernel_rfl) (by kernel_rfl) (by kernel_rfl) (by kernel_rfl) (fun _ _ _ h => h) hS rfl (by intro W hW; go_simp <;> with_reducible rfl) ?_
    try simp only [Act.put, List.setIfInBounds_toArray, List.set_cons_zero, List.set_cons_succ]
    refine takeK 4 rfl (by kernel_rfl) (by kernel_rfl) (by kernel_rfl) (by kernel_rfl) (fun _ _ _ h => h) hS rfl (by intro W hW; go_simp <;> with_reducible rfl) ?_
    try simp only [Act.put, List.setIfInBounds_toArray, List.set_cons_zero, List.set_cons_succ]
    refine takeK 5 rfl (by kernel_rfl) (by kernel_rfl) (by kernel_rfl) (by kernel_rfl) (fun _ _ _ h => h) hS rfl (by intro W hW; have g0 := hW.cell c5 rN; go_simp <;> with_reducible rfl) ?_
    try simp only [Act.put, List.setIfInBounds_toArray, List.set_cons_zero, List.set_cons_succ]
    refine takeK 6 rfl (by kernel_rfl) (by kernel_rfl) (by kernel_rfl) (by kernel_rfl) (fun _ _ _ h => h) hS rfl (by intro W hW; have g0 := hW.cell c6 rK; have g1 := hW.cell c7 rK; go_simp <;> with_reducible rfl) ?_
    try simp only [Act.put, List.setIfInBounds_toArray, List.set_cons_zero, List.set_cons_succ]
    refine takeK 7 rfl (by kernel_rfl) (by kernel_rfl) (by kernel_rfl) (by kernel_rfl) (fun _ _ _ h => h) hS rfl (by intro W hW; go_simp <;> with_reducible rfl) ?_
    try simp only [Act.put, List.setIfInBounds_toArray, List.set_cons_zero, List.set_cons_succ]
    refine takeK 8 rfl (by kernel_rfl) (by kernel_rfl) (by kernel_rfl) (by kernel_rfl) (fun _ _ _ h => h) hS rfl (by intro W hW; go_simp <;> with_reducible rfl) ?_
    try simp only [Act.put, List.setIfInBounds_toArray, List.set_cons_zero, List.set_cons_succ]
    refine takeK 9 rfl (by kernel_rfl) (by kernel_rfl) (by kernel_rfl) (by kernel_rfl) (fun _ _ _ h => h) hS rfl (by intro W hW; have g0 := hW.cell c6 rK; go_simp <;> with_reducible rfl) ?_
    try simp only [Act.put, List.setIfInBounds_toArray, List.set_cons_zero, List.set_cons_succ]
    refine takeK 10 rfl (by kernel_rfl) (by kernel_rfl) (by kernel_rfl) (by kernel_rfl) (fun _ _ _ h => h) hS rfl (by intro W hW; go_simp <;> with_reducible rfl) ?_
    try simp only [Act.put, List.setIfInBounds_toArray, List.set_cons_zero, List.set_cons_succ]
    refine takeK 11 rfl (by kernel_rfl) (by kernel_rfl) (by kernel_rfl) (by kernel_rfl) (fun _ _ _ h => h) hS rfl (by intro W hW; have g0 := hW.cell c7 rK; go_simp <;> with_reducible rfl) ?_
    try simp only [Act.put, List.setIfInBounds_toArray, List.set_cons_zero, List.set_cons_succ]
    refine takeK 12 rfl (by kernel_rfl) (by kernel_rfl) (by kernel_rfl) (by kernel_rfl) (fun _ _ _ h => h) hS rfl (by intro W hW; go_simp <;> with_reducible rfl) ?_
    try simp only [Act.put, List.setIfInBounds_toArray, List.set_cons_zero, List.set_cons_succ]
    refine takeK 13 rfl (by kernel_rfl) (by kernel_rfl) (by kernel_rfl) (by kernel_rfl) (fun _ _ _ h => h) hS rfl (by intro W hW; have g0 := hW.cell c8 rH; go_simp <;> with_reducible rfl) ?_
    try simp only [Act.put, List.setIfInBounds_toArray, List.set_cons_zero, List.set_cons_succ]
    refine takeK 14 rfl (by kernel_rfl) (by kernel_rfl) (by kernel_rfl) (by kernel_rfl) (fun _ _ _ h => h) hS rfl (by intro W hW; go_simp <;> with_reducible rfl) ?_
    try simp only [Act.put, List.setIfInBounds_toArray, List.set_cons_zero, List.set_cons_succ]
    refine takeK 15 rfl (by kernel_rfl) (by kernel_rfl) (by kernel_rfl) (by kernel_rfl) (fun _ _ _ h => h) hS rfl (by intro W hW; have g0 := hW.cell c9 rH; go_simp <;> with_reducible rfl) ?_
    try simp only [Act.put, List.setIfInBounds_toArray, List.set_cons_zero, List.set_cons_succ]
    refine takeK 16 rfl (by kernel_rfl) (by kernel_rfl) (by kernel_rfl) (by kernel_rfl) (fun _ _ _ h => h) hS rfl (by intro W hW; go_simp <;> with_reducible rfl) ?_
    try simp only [Act.put, List.setIfInBounds_toArray, List.set_cons_zero, List.set_cons_succ]
    refine takeK 17 rfl (by kernel_rfl) (by kernel_rfl) (by kernel_rfl) (by kernel_rfl) (fun _ _ _ h => h) hS rfl (by intro W hW; have g0 := hW.cell c9 rH; go_simp <;> with_reducible rfl) ?_
    try simp only [Act.put, List.setIfInBounds_toArray, List.set_cons_zero, List.set_cons_succ]
    refine takeK 18 rfl (by kernel_rfl) (by kernel_rfl) (by kernel_rfl) (by kernel_rfl) (fun _ _ _ h => h) hS rfl (by intro W hW; go_simp <;> with_reducible rfl) ?_
    try simp only [Act.put, List.setIfInBounds_toArray, List.set_cons_zero, List.set_cons_succ]
    refine takeK 19 rfl (by kernel_rfl) (by kernel_rfl) (by kernel_rfl) (by kernel_rfl) (fun _ _ _ h => h) hS rfl (by intro W hW; go_simp <;> with_reducible rfl) ?_
    try simp only [Act.put, List.setIfInBounds_toArray, List.set_cons_zero, List.set_cons_succ]
    refine takeK 20 rfl (by kernel_rfl) (by kernel_rfl) (by kernel_rfl) (by kernel_rfl) (fun _ _ _ h => h) hS rfl (by intro W hW; go_simp <;> with_reducible rfl) ?_
    try simp only [Act.put, List.setIfInBounds_toArray, List.set_cons_zero, List.set_cons_succ]
    refine stepK 21 rfl (by kernel_rfl) rfl (fun K hK => ?_)
    go_simp
    refine hK _ _ (fun _ => grown_alloc hS _) ?_
    clear hK K
    try simp only [Act.put, List.setIfInBounds_toArray, List.set_cons_zero, List.set_cons_succ]
    replace hS := grown_alloc hS (Obj.cells #[.string (sid (rid i)), .int .i64 (rcp i % 3), .string c, .string (sid (rid i)), .int .i64 (rcp i % 3), .slice none 0 0, .slice none 0 0, .int .u64 5, .int .u64 (rst i), .bool (rrm i), .bool (!(rrm i)), .int .u64 0, .int .i64 0, .pointer none, .bool false] 70)
    have row9 := (row8.alloc (Obj.cells #[.string (sid (rid i)), .int .i64 (rcp i % 3), .string c, .string (sid (rid i)), .int .i64 (rcp i % 3), .slice none 0 0, .slice none 0 0, .int .u64 5, .int .u64 (rst i), .bool (rrm i), .bool (!(rrm i)), .int .u64 0, .int .i64 0, .pointer none, .bool false] 70))
    refine stepK 22 rfl (by kernel_rfl) rfl (fun K hK => ?_)
    refine wp_append_lies _ _ _ 42 rfl M1 70 i70 zero70 15 168 Yba.underlying42 hi70 hz70 hz71 hz72 rfl (by decide) lv i _ (by rfl) (show World.ownsRow (World.drew _) _ _ _ _ _ _ from row9) ⟨H + 2, 0, none⟩ 1 1 [.string (sid (rid i)), .int .i64 (rcp i % 3), .string c, .string (sid (rid i)), .int .i64 (rcp i % 3), .slice none 0 0, .slice none 0 0, .int .u64 5, .int .u64 (rst i), .bool (rrm i), .bool (!(rrm i)), .int .u64 0, .int .i64 0, .pointer none, .bool false] (by rfl) (by rfl) (World.news_of_block (by
      have := World.alloc_heap_new W8 (Obj.cells #[.string (sid (rid i)), .int .i64 (rcp i % 3), .string c, .string (sid (rid i)), .int .i64 (rcp i % 3), .slice none 0 0, .slice none 0 0, .int .u64 5, .int .u64 (rst i), .bool (rrm i), .bool (!(rrm i)), .int .u64 0, .int .i64 0, .pointer none, .bool false] 70)
      rw [hs8] at this
      exact this)) (by simp [Value.oneCell']) (by decide) (by unfold maxLen; omega) (by omega) (by show M1 ≤ (W8.alloc _).heap.size; simp [hs8]; omega) _ rfl ?_
    intro g cap w1 hown hgrow hat hgl
    replace hS := grown_trans hS hgrow
    refine hK _ _ (fun _ => hS) ?_
    clear hK K
    dsimp only [Act.put]
    simp only [List.setIfInBounds_toArray, List.set_cons_zero, List.set_cons_succ]
    have hc1 := hS.cell c5 rN
    have sh1 : w1.heap[N]? = some (shB lvE lv (.slice none 0 0)) := (hS.block N (by show N < W8.heap.size; omega) rN).trans sh8
    have hfz : w1.frozen? ⟨N, 2, none⟩ = false := by simp [World.frozen?, sh1, shB]
    have hG1 : V1.grownBy w1 (some N) := ⟨hS.os.trans hG8.os, hS.tape.trans hG8.tape, hS.output.trans hG8.output, Nat.le_trans hG8.size hS.size, fun k hk hr => (hS.block k (Nat.lt_of_lt_of_le hk hG8.size) (ownBlock_ne row8 (.inl (by omega)))).trans (hG8.block k hk hr)⟩
    refine stepK 23 rfl (by kernel_rfl) rfl (fun K hK => ?_)
    go_simp
    refine hK _ _ (fun _ => hS) ?_
    clear hK K
    try simp only [Act.put, List.setIfInBounds_toArray, List.set_cons_zero, List.set_cons_succ]
    refine stepK 24 rfl (by kernel_rfl) rfl (fun K hK => ?_)
    go_simp
    refine hK _ _ (fun _ => hS) ?_
    clear hK K
    try simp only [Act.put, List.setIfInBounds_toArray, List.set_cons_zero, List.set_cons_succ]
    refine stepK 25 rfl (by kernel_rfl) rfl (fun K hK => ?_)
    go_simp
    refine hK _ _ (fun _ => hS) ?_
    clear hK K
    try simp only [Act.put, List.setIfInBounds_toArray, List.set_cons_zero, List.set_cons_succ]
    refine stepK 26 rfl (by kernel_rfl) rfl (fun K hK => ?_)
    go_simp
    refine hK _ _ (fun h => absurd rfl h) ?_
    clear hK K
    try simp only [Act.put, List.setIfInBounds_toArray, List.set_cons_zero, List.set_cons_succ]
    refine doneK (by kernel_rfl) ?_ _
    clear hc1 hfz
    go_wp2
    go_roundw
    case rel =>
      refine ⟨i + 1, by omega, by go_num, _, grown_trans hG1 (grown_set w1 N 2 _), heap_set sh1 2 _, ?_⟩
      have hrow' := hown.kept (grown_set w1 N 2 (.slice (some ⟨g, 0, none⟩) (i + 1) cap)) (.inr (fun e => by have := (hown.lt N e).1; omega))
      rw [List.range_succ, List.flatMap_append, List.flatMap_singleton]
      exact hrow'
    case measure => simp [intOf]; omega

  have hie : nr = i := by omega
  subst hie
  obtain ⟨V2, HX⟩ : ∃ u, wr = u := ⟨_, rfl⟩
  rw [HX] at hB hG hsh hrow
  rw [HX]
  obtain ⟨lvR, HX2⟩ : ∃ u, lv = u := ⟨_, rfl⟩
  rw [HX2] at hsh hrow
  obtain ⟨M2, HM2⟩ : ∃ u, V2.heap.size = u := ⟨_, rfl⟩
  have hNM2 : N < M2 := by have := hG.size; omega
  have hV2 : Below N w V2 := hB
  have hV2s : V2.heap[N]? = some (shB lvE lvR (.slice none 0 0)) := hsh
  have row2 := hrow
  have grw2 := hG
  clear HX HX2 hB hG hsh hrow hlt hi
  go_wp2
  go_loopw [127] (fun vi wr => ∃ i : Nat, i ≤ nu ∧ vi = .int .i64 i ∧ ∃ lv : Value, V2.grownBy wr (some N) ∧ wr.heap[N]? = some (shB lvE lvR lv) ∧
      wr.ownsRow M2 77 2 lv i ((List.range i).flatMap fun j => [.string (sid (uid j)), .int .i64 (ucp j % 3)])) (fun vi _ => nu - (intOf vi).toNat)
  case atStart => exact ⟨0, by omega, rfl, .slice none 0 0, grown_refl _ _, hV2s, World.ownsRow_nil _ _ _ _⟩
  obtain ⟨i, hi, rfl, lv, hG, hsh, hrow⟩ := hrel
  have hB : Below N w wr := hV2.grown hG (by omega) (fun k e => by cases e; exact Nat.le_refl _)
  by_cases hlt : i < nu
  · obtain rfl := hlpu (by omega)
    have qlt : (i : Int) < nu := by omega
    have hN1 : N < wr.heap.size := (Array.getElem?_eq_some_iff.1 hsh).1
    have heb : ub < N := by rw [← HN.out]; exact World.block_lt_of_cell? w _ (hu0 i hlt)
    have e0 := (hB.cell (p := ⟨ub, uo + i * 2, none⟩) heb).trans (hu0 i hlt)
    have e1 := (hB.cell (p := ⟨ub, uo + i * 2 + 1, none⟩) heb).trans (hu1 i hlt)
    obtain ⟨l0, l1⟩ := bu0 i
    obtain ⟨m0, m1⟩ := bu1 i
    have hr3 : (ucp i).tmod 3 = ucp i % 3 := Int.tmod_eq_emod_of_nonneg m0
    have hw3 : IntKind.u8.wrap (ucp i % 3) = ucp i % 3 := by rw [IntKind.wrap_u8]; omega
    have hw4 : IntKind.i64.wrap (ucp i % 3) = ucp i % 3 := by rw [IntKind.wrap_i64]; omega
    obtain ⟨H, hH⟩ : ∃ H, wr.heap.size = H := ⟨_, rfl⟩
    have HH : Hid (wr.heap.size = H) := hH
    go_wp2
    obtain ⟨W7, HW7⟩ : ∃ u, Hid (u = wr.alloc (Obj.cells #[Value.int IntKind.u8 (uid i), Value.int IntKind.u8 (ucp i)] 74)) := ⟨_, rfl⟩
    rw [← HW7.out]
    have p7 : W7.heap[H]? = some (.cells #[Value.int IntKind.u8 (uid i), Value.int IntKind.u8 (ucp i)] 74 (0, 0)) := by
      rw [HW7.out, ← HH.out]; exact World.alloc_heap_new wr _
    have f0 : W7.drew.cell? ⟨H, 0, none⟩ = some (.int .u8 (uid i)) := by show W7.cell? _ = _; simp [World.cell?, p7]
    have f1 : W7.drew.cell? ⟨H, 1, none⟩ = some (.int .u8 (ucp i)) := by show W7.cell? _ = _; simp [World.cell?, p7]
    have hS : W7.drew.grownBy W7.drew none := grown_refl _ _
    clear hH e0 e1
    refine regionK (fun W => W7.drew.grownBy W none) 9 (by kernel_rfl) ?_
    refine takeK 0 rfl (by kernel_rfl) (by kernel_rfl) (by kernel_rfl) (by kernel_rfl) (fun _ _ _ h => h) hS rfl (by intro W hW; go_simp <;> with_reducible rfl) ?_
    try simp only [Act.put, List.setIfInBounds_toArray, List.set_cons_zero, List.set_cons_succ]
    refine takeK 1 rfl (by kernel_rfl) (by kernel_rfl) (by kernel_rfl) (by kernel_rfl) (fun _ _ _ h => h) hS rfl (by intro W hW; have g0 := hW.cell f0 (by simp); go_simp <;> with_reducible rfl) ?_
    try simp only [Act.put, List.setIfInBounds_toArray, List.set_cons_zero, List.set_cons_succ]
    refine takeCallK 2 rfl (by kernel_rfl) (by kernel_rfl) (by kernel_rfl) (by kernel_rfl) (fun _ _ _ h => h) hS rfl (by intro W hW; go_simp <;> with_reducible rfl) (fun W => cid (uid i) W l0 l1) ?_
    try simp only [Act.put, List.setIfInBounds_toArray, List.set_cons_zero, List.set_cons_succ]
    refine takeK 3 rfl (by kernel_rfl) (by kernel_rfl) (by kernel_rfl) (by kernel_rfl) (fun _ _ _ h => h) hS rfl (by intro W hW; go_simp <;> with_reducible rfl) ?_
    try simp only [Act.put, List.setIfInBounds_toArray, List.set_cons_zero, List.set_cons_succ]
    refine takeK 4 rfl (by kernel_rfl) (by kernel_rfl) (by kernel_rfl) (by kernel_rfl) (fun _ _ _ h => h) hS rfl (by intro W hW; have g0 := hW.cell f1 (by simp); go_simp <;> with_reducible rfl) ?_
    try simp only [Act.put, List.setIfInBounds_toArray, List.set_cons_zero, List.set_cons_succ]
    refine takeK 5 rfl (by kernel_rfl) (by kernel_rfl) (by kernel_rfl) (by kernel_rfl) (fun _ _ _ h => h) hS rfl (by intro W hW; go_simp <;> with_reducible rfl) ?_
    try simp only [Act.put, List.setIfInBounds_toArray, List.set_cons_zero, List.set_cons_succ]
    refine takeK 6 rfl (by kernel_rfl) (by kernel_rfl) (by kernel_rfl) (by kernel_rfl) (fun _ _ _ h => h) hS rfl (by intro W hW; go_simp <;> with_reducible rfl) ?_
    try simp only [Act.put, List.setIfInBounds_toArray, List.set_cons_zero, List.set_cons_succ]
    refine takeK 7 rfl (by kernel_rfl) (by kernel_rfl) (by kernel_rfl) (by kernel_rfl) (fun _ _ _ h => h) hS rfl (by intro W hW; go_simp <;> with_reducible rfl) ?_
    try simp only [Act.put, List.setIfInBounds_toArray, List.set_cons_zero, List.set_cons_succ]
    have hs7 : W7.heap.size = H + 1 := by rw [HW7.out, World.size_alloc, HH.out]
    refine stepK 8 rfl (by kernel_rfl) rfl (fun K hK => ?_)
    go_simp
    refine hK _ _ (fun _ => grown_alloc hS _) ?_
    clear hK K
    try simp only [Act.put, List.setIfInBounds_toArray, List.set_cons_zero, List.set_cons_succ]
    refine stepK 9 rfl (by kernel_rfl) rfl (fun K hK => ?_)
    go_simp
    refine hK _ _ (fun h => absurd rfl h) ?_
    clear hK K
    try simp only [Act.put, List.setIfInBounds_toArray, List.set_cons_zero, List.set_cons_succ]
    refine doneK (by kernel_rfl) ?_ _
    clear hS f0 f1
    go_wp2
    obtain ⟨W8, HW8⟩ : ∃ u, Hid (u = (W7.alloc (Obj.cells #[Value.string (sid (uid i)), Value.int IntKind.i64 (ucp i % 3)] 62)).drew) := ⟨_, rfl⟩
    rw [← HW8.out]
    have B8 : Below wr.heap.size wr W8 := by rw [HW8.out, HW7.out]; exact (((Below.refl _ _).alloc (Nat.le_refl _) _).alloc (by simp) _).drew
    have hs8 : W8.heap.size = H + 2 := by rw [HW8.out]; show (W7.alloc _).heap.size = _; rw [World.size_alloc, hs7]
    have p8 : W8.heap[H]? = some (.cells #[Value.int IntKind.u8 (uid i), Value.int IntKind.u8 (ucp i)] 74 (0, 0)) := by
      rw [HW8.out]; exact (Below.heap_alloc W7 _ H (by rw [hs7]; omega)).trans p7
    have k8 : W8.heap[H + 1]? = some (.cells #[Value.string (sid (uid i)), Value.int IntKind.i64 (ucp i % 3)] 62 (0, 0)) := by
      rw [HW8.out, ← hs7]; exact World.alloc_heap_new W7 _
    have sh8 : W8.heap[N]? = some (shB lvE lvR lv) := (B8.block N hN1).trans hsh
    have row8 := ownsRow_below B8 hrow
    have rN : some N ≠ lv.ownBlock := ownBlock_ne hrow (.inl (by omega))
    have rH : some H ≠ lv.ownBlock := ownBlock_ne hrow (.inr (by rw [HH.out]; exact Nat.le_refl _))
    have rK : some (H + 1) ≠ lv.ownBlock := ownBlock_ne hrow (.inr (by rw [HH.out]; omega))
    have c5 : W8.drew.cell? ⟨N, 6, none⟩ = some lv := by show W8.cell? _ = _; simp [World.cell?, sh8, shB]
    have c6 : W8.drew.cell? ⟨H + 1, 0, none⟩ = some (.string (sid (uid i))) := by show W8.cell? _ = _; simp [World.cell?, k8]
    have c7 : W8.drew.cell? ⟨H + 1, 1, none⟩ = some (.int .i64 (ucp i % 3)) := by show W8.cell? _ = _; simp [World.cell?, k8]
    have hNH : N < H := by rw [← HH.out]; exact hN1
    have hMH : M2 ≤ H := by have := hG.size; rw [HH.out] at this; omega
    have hS : W8.drew.grownBy W8.drew lv.ownBlock := grown_refl _ _
    have hG8 : V2.grownBy W8.drew (some N) := grown_trans hG ⟨B8.os, B8.tape, B8.output, B8.size, fun k hk _ => B8.block k hk⟩
    clear HW8 HW7 hs7 p7 p8 k8 B8 hN1 hsh hrow
    refine regionK (fun W => W8.drew.grownBy W lv.ownBlock) 13 (by kernel_rfl) ?_
    refine takeK 0 rfl (by kernel_rfl) (by kernel_rfl) (by kernel_rfl) (by kernel_rfl) (fun _ _ _ h => h) hS rfl (by intro W hW; go_simp <;> with_reducible rfl) ?_
    try simp only [Act.put, List.setIfInBounds_toArray, List.set_cons_zero, List.set_cons_succ]
    refine takeK 1 rfl (by kernel_rfl) (by kernel_rfl) (by kernel_rfl) (by kernel_rfl) (fun _ _ _ h => h) hS rfl (by intro W hW; go_simp <;> with_reducible rfl) ?_
    try simp only [Act.put, List.setIfInBounds_toArray, List.set_cons_zero, List.set_cons_succ]
    refine takeK 2 rfl (by kernel_rfl) (by kernel_rfl) (by kernel_rfl) (by kernel_rfl) (fun _ _ _ h => h) hS rfl (by intro W hW; go_simp <;> with_reducible rfl) ?_
    try simp only [Act.put, List.setIfInBounds_toArray, List.set_cons_zero, List.set_cons_succ]
    refine takeK 3 rfl (by kernel_rfl) (by kernel_rfl) (by kernel_rfl) (by kernel_rfl) (fun _ _ _ h => h) hS rfl (by intro W hW; go_simp <;> with_reducible rfl) ?_
    try simp only [Act.put, List.setIfInBounds_toArray, List.set_cons_zero, List.set_cons_succ]
    refine takeK 4 rfl (by kernel_rfl) (by kernel_rfl) (by kernel_rfl) (by kernel_rfl) (fun _ _ _ h => h) hS rfl (by intro W hW; go_simp <;> with_reducible rfl) ?_
    try simp only [Act.put, List.setIfInBounds_toArray, List.set_cons_zero, List.set_cons_succ]
    refine takeK 5 rfl (by kernel_rfl) (by kernel_rfl) (by kernel_rfl) (by kernel_rfl) (fun _ _ _ h => h) hS rfl (by intro W hW; have g0 := hW.cell c5 rN; go_simp <;> with_reducible rfl) ?_
    try simp only [Act.put, List.setIfInBounds_toArray, List.set_cons_zero, List.set_cons_succ]
    refine takeK 6 rfl (by kernel_rfl) (by kernel_rfl) (by kernel_rfl) (by kernel_rfl) (fun _ _ _ h => h) hS rfl (by intro W hW; have g0 := hW.cell c6 rK; have g1 := hW.cell c7 rK; go_simp <;> with_reducible rfl) ?_
    try simp only [Act.put, List.setIfInBounds_toArray, List.set_cons_zero, List.set_cons_succ]
    refine takeK 7 rfl (by kernel_rfl) (by kernel_rfl) (by kernel_rfl) (by kernel_rfl) (fun _ _ _ h => h) hS rfl (by intro W hW; go_simp <;> with_reducible rfl) ?_
    try simp only [Act.put, List.setIfInBounds_toArray, List.set_cons_zero, List.set_cons_succ]
    refine stepK 8 rfl (by kernel_rfl) rfl (fun K hK => ?_)
    go_simp
    refine hK _ _ (fun _ => grown_alloc hS _) ?_
    clear hK K
    try simp only [Act.put, List.setIfInBounds_toArray, List.set_cons_zero, List.set_cons_succ]
    replace hS := grown_alloc hS (Obj.cells #[.string (sid (uid i)), .int .i64 (ucp i % 3)] 77)
    have row9 := (row8.alloc (Obj.cells #[.string (sid (uid i)), .int .i64 (ucp i % 3)] 77))
    refine stepK 9 rfl (by kernel_rfl) rfl (fun K hK => ?_)
    refine wp_append_lies _ _ _ 50 rfl M2 77 i77 zero77 2 32 Yba.underlying50 hi77 hw70 hw71 hw72 rfl (by decide) lv i _ (by rfl) (show World.ownsRow (World.drew _) _ _ _ _ _ _ from row9) ⟨H + 2, 0, none⟩ 1 1 [.string (sid (uid i)), .int .i64 (ucp i % 3)] (by rfl) (by rfl) (World.news_of_block (by
      have := World.alloc_heap_new W8 (Obj.cells #[.string (sid (uid i)), .int .i64 (ucp i % 3)] 77)
      rw [hs8] at this
      exact this)) (by simp [Value.oneCell']) (by decide) (by unfold maxLen; omega) (by omega) (by show M2 ≤ (W8.alloc _).heap.size; simp [hs8]; omega) _ rfl ?_
    intro g cap w1 hown hgrow hat hgl
    replace hS := grown_trans hS hgrow
    refine hK _ _ (fun _ => hS) ?_
    clear hK K
    dsimp only [Act.put]
    simp only [List.setIfInBounds_toArray, List.set_cons_zero, List.set_cons_succ]
    have hc1 := hS.cell c5 rN
    have sh1 : w1.heap[N]? = some (shB lvE lvR lv) := (hS.block N (by show N < W8.heap.size; omega) rN).trans sh8
    have hfz : w1.frozen? ⟨N, 6, none⟩ = false := by simp [World.frozen?, sh1, shB]
    have hG1 : V2.grownBy w1 (some N) := ⟨hS.os.trans hG8.os, hS.tape.trans hG8.tape, hS.output.trans hG8.output, Nat.le_trans hG8.size hS.size, fun k hk hr => (hS.block k (Nat.lt_of_lt_of_le hk hG8.size) (ownBlock_ne row8 (.inl (by omega)))).trans (hG8.block k hk hr)⟩
    refine stepK 10 rfl (by kernel_rfl) rfl (fun K hK => ?_)
    go_simp
    refine hK _ _ (fun _ => hS) ?_
    clear hK K
    try simp only [Act.put, List.setIfInBounds_toArray, List.set_cons_zero, List.set_cons_succ]
    refine stepK 11 rfl (by kernel_rfl) rfl (fun K hK => ?_)
    go_simp
    refine hK _ _ (fun _ => hS) ?_
    clear hK K
    try simp only [Act.put, List.setIfInBounds_toArray, List.set_cons_zero, List.set_cons_succ]
    refine stepK 12 rfl (by kernel_rfl) rfl (fun K hK => ?_)
    go_simp
    refine hK _ _ (fun _ => hS) ?_
    clear hK K
    try simp only [Act.put, List.setIfInBounds_toArray, List.set_cons_zero, List.set_cons_succ]
    refine stepK 13 rfl (by kernel_rfl) rfl (fun K hK => ?_)
    go_simp
    refine hK _ _ (fun h => absurd rfl h) ?_
    clear hK K
    try simp only [Act.put, List.setIfInBounds_toArray, List.set_cons_zero, List.set_cons_succ]
    refine doneK (by kernel_rfl) ?_ _
    clear hc1 hfz
    go_wp2
    go_roundw
    case rel =>
      refine ⟨i + 1, by omega, by go_num, _, grown_trans hG1 (grown_set w1 N 6 _), heap_set sh1 6 _, ?_⟩
      have hrow' := hown.kept (grown_set w1 N 6 (.slice (some ⟨g, 0, none⟩) (i + 1) cap)) (.inr (fun e => by have := (hown.lt N e).1; omega))
      rw [List.range_succ, List.flatMap_append, List.flatMap_singleton]
      exact hrow'
    case measure => simp [intOf]; omega

  have hie : nu = i := by omega
  subst hie
  obtain ⟨V3, HX⟩ : ∃ u, wr = u := ⟨_, rfl⟩
  rw [HX] at hB hG hsh hrow
  rw [HX]
  obtain ⟨lvU, HX2⟩ : ∃ u, lv = u := ⟨_, rfl⟩
  rw [HX2] at hsh hrow
  obtain ⟨M3, HM3⟩ : ∃ u, V3.heap.size = u := ⟨_, rfl⟩
  have hNM3 : N < M3 := by have := hG.size; omega
  have hV3 : Below N w V3 := hB
  have hV3s : V3.heap[N]? = some (shB lvE lvR lvU) := hsh
  have row3 := hrow
  have grw3 := hG
  clear HX HX2 hB hG hsh hrow hlt hi
  go_wp2_with (go_at_call 14; refine (new14 _).mono ?_; rintro e w' ⟨rfl, hb14, hs14, hc14, hm14⟩; rw [HM3] at hb14 hs14 hc14 hm14; have hmu := putMap_run c (.pointer (some ⟨N, 0, none⟩)) hm14)
  obtain ⟨U0, HU0⟩ : ∃ u, Hid (u = putMap w' (M3 + 1) c (.pointer (some ⟨N, 0, none⟩))) := ⟨_, rfl⟩
  rw [← HU0.out]
  have hU0 : Below M3 V3 U0 := by rw [HU0.out]; exact putMap_below c _ hb14 (by omega)
  have hU0s : U0.heap.size = M3 + 3 := by rw [HU0.out, ← hs14]; simp [putMap]
  have hom : OneMap U0 (M3 + 1) c (.pointer (some ⟨N, 0, none⟩)) := by rw [HU0.out]; exact putMap_one c _ (by omega)
  have hst : U0.cell? ⟨M3 + 2, 3, none⟩ = some (.map (some (M3 + 1))) := by rw [HU0.out, putMap_cell c _ (by omega)]; exact hc14
  have hwU : Below N w U0 := hV3.trans (hU0.mono (by omega))
  clear HU0 hb14 hs14 hc14 hm14 hmu
  go_loopw [21, 20] (fun vi vw wr => ∃ k : Nat, k ≤ nu ∧ vi = .int .i64 ((k : Int) - 1) ∧ Below (M3 + 3) U0 wr ∧
      wr.ownsRow (M3 + 3) 97 4 vw (nu - k) (((upto (fun j => (sid (uid (nu - 1 - j)), ucp (nu - 1 - j) % 3)) (nu - k)).map (wU eid ecp est ne)).flatMap wantC)) (fun vi _ _ => (intOf vi + 1).toNat)
  case atStart => exact ⟨nu, Nat.le_refl _, rfl, Below.refl _ _, by rw [Nat.sub_self]; exact World.ownsRow_nil _ _ _ _⟩
  obtain ⟨k, hk, rfl, hBU, hrow⟩ := hrel
  obtain rfl | ⟨j, rfl⟩ : k = 0 ∨ ∃ j, k = j + 1 := by cases k; exact .inl rfl; exact .inr ⟨_, rfl⟩
  case inr =>
    rw [show ((j + 1 : Nat) : Int) - 1 = j by omega]
    have hkl : j < nu := by omega
    obtain rfl := hlpu (by omega)
    have qlt : (j : Int) < nu := by omega
    have hBw : Below N w wr := hwU.trans (hBU.mono (by omega))
    have hub : ub < N := by rw [← HN.out]; exact World.block_lt_of_cell? w _ (hu0 j hkl)
    have e0 := (hBw.cell (p := ⟨ub, uo + j * 2, none⟩) hub).trans (hu0 j hkl)
    have e1 := (hBw.cell (p := ⟨ub, uo + j * 2 + 1, none⟩) hub).trans (hu1 j hkl)
    obtain ⟨l0, l1⟩ := bu0 j
    obtain ⟨m0, m1⟩ := bu1 j
    have hr3 : (ucp j).tmod 3 = ucp j % 3 := Int.tmod_eq_emod_of_nonneg m0
    have hw3 : IntKind.u8.wrap (ucp j % 3) = ucp j % 3 := by rw [IntKind.wrap_u8]; omega
    have hw4 : IntKind.i64.wrap (ucp j % 3) = ucp j % 3 := by rw [IntKind.wrap_i64]; omega
    have heb : ∀ i, i < ne → eb < N := fun i hi => by rw [← HN.out]; exact World.block_lt_of_cell? w _ (he0 i hi)
    have hcf := cfind' eb eo ne ce lpe hlpe eid ecp est (sid (uid j)) (ucp j % 3) wr h1 (fun i hi => (hBw.cell (p := ⟨eb, eo + i * 3, none⟩) (heb i hi)).trans (he0 i hi)) (fun i hi => (hBw.cell (p := ⟨eb, eo + i * 3 + 1, none⟩) (heb i hi)).trans (he1 i hi)) (fun i hi => (hBw.cell (p := ⟨eb, eo + i * 3 + 2, none⟩) (heb i hi)).trans (he2 i hi)) be0 be1
    have hsU : M3 + 3 ≤ wr.heap.size := by rw [← hU0s]; exact hBU.size
    have ej : nu - j = nu - (j + 1) + 1 := by omega
    have el : nu - 1 - (nu - (j + 1)) = j := by omega
    have hl4 : nu - (j + 1) + 1 ≤ 1024 := by omega
    obtain ⟨n4, hn4⟩ : ∃ u, nu - (j + 1) = u := ⟨_, rfl⟩
    rw [hn4] at hrow ej el hl4
    obtain ⟨⟨fst, fok⟩, hfr⟩ : ∃ r, findFrom eid ecp est (sid (uid j)) (ucp j % 3) ne 0 = r := ⟨_, rfl⟩
    rw [hfr] at hcf
    dsimp only at hcf
    have hd := cid (uid j) wr l0 l1
    clear heb hub hlpe
    cases fok with
    | true =>
      go_wp2_with (first | (go_at_call 13; refine hd.mono ?_; rintro e w' ⟨rfl, hw'⟩; rw [hw']; clear hd hw') | (go_at_call 15; refine hcf.mono ?_; rintro e w' ⟨rfl, hw'⟩; rw [hw']; clear hcf hw') | (at_builtin; refine wpList_append_lies _ rfl _ _ 93 rfl (M3 + 3) 97 i97 zero97 4 40 Yba.underlying93 hi97 hx70 hx71 hx72 rfl (by decide) u20 n4 _ rfl (hrow.alloc _) ⟨wr.heap.size, 0, none⟩ 1 1 [.string (sid (uid j)), .int .i64 (ucp j % 3), .int .u64 fst, .bool false] rfl rfl (World.news_of_block (heap_alloc_new wr _)) (by simp [Value.oneCell']) (by decide) (by unfold maxLen; omega) (by omega) (by simp; omega) _ rfl ?_; intro g cap w1 hown hgrow hat hgl))
      go_roundw
      case rel =>
        refine ⟨j, by omega, rfl, ((hBU.alloc hsU _).grown hgrow (by simp; omega) (fun k e => (hrow.lt k e).1)), ?_⟩
        rw [ej, upto_succ, List.map_append, List.flatMap_append, List.map_singleton, List.flatMap_singleton, el]
        have : wU eid ecp est ne (sid (uid j), ucp j % 3) = ⟨sid (uid j), ucp j % 3, fst, false⟩ := by unfold wU; rw [hfr]; rfl
        rw [this]
        exact hown
      case measure => simp [intOf] <;> omega
    | false =>
      go_wp2_with (first | (go_at_call 13; refine hd.mono ?_; rintro e w' ⟨rfl, hw'⟩; rw [hw']; clear hd hw') | (go_at_call 15; refine hcf.mono ?_; rintro e w' ⟨rfl, hw'⟩; rw [hw']; clear hcf hw') | (at_builtin; refine wpList_append_lies _ rfl _ _ 93 rfl (M3 + 3) 97 i97 zero97 4 40 Yba.underlying93 hi97 hx70 hx71 hx72 rfl (by decide) u20 n4 _ rfl (hrow.alloc _) ⟨wr.heap.size, 0, none⟩ 1 1 [.string ⟨#[]⟩, .int .i64 0, .int .u64 0, .bool false] rfl rfl (World.news_of_block (heap_alloc_new wr _)) (by simp [Value.oneCell']) (by decide) (by unfold maxLen; omega) (by omega) (by simp; omega) _ rfl ?_; intro g cap w1 hown hgrow hat hgl))
      go_roundw
      case rel =>
        refine ⟨j, by omega, rfl, ((hBU.alloc hsU _).grown hgrow (by simp; omega) (fun k e => (hrow.lt k e).1)), ?_⟩
        rw [ej, upto_succ, List.map_append, List.flatMap_append, List.map_singleton, List.flatMap_singleton, el]
        have : wU eid ecp est ne (sid (uid j), ucp j % 3) = ⟨⟨#[]⟩, 0, 0, false⟩ := by unfold wU; rw [hfr]; rfl
        rw [this]
        exact hown
      case measure => simp [intOf] <;> omega
  rw [show ((0 : Nat) : Int) - 1 = -1 from rfl]
  rw [Nat.sub_zero] at hrow
  obtain ⟨L4, HL4⟩ : ∃ L, (upto (fun j => (sid (uid (nu - 1 - j)), ucp (nu - 1 - j) % 3)) nu).map (wU eid ecp est ne) = L := ⟨_, rfl⟩
  rw [HL4] at hrow
  have hL4 : L4.length = nu := by rw [← HL4, List.length_map, upto_length]
  obtain ⟨U1, HX⟩ : ∃ u, wr = u := ⟨_, rfl⟩
  rw [HX] at hBU hrow
  rw [HX]
  have hU1 : Below (M3 + 3) U0 U1 := hBU
  have rowW := hrow
  clear HX hBU hrow hk
  go_wp2
  go_loopw [26, 20] (fun vi vw wr => ∃ k : Nat, k ≤ nr ∧ vi = .int .i64 ((k : Int) - 1) ∧ Below (M3 + 3) U0 wr ∧
      wr.ownsRow (M3 + 3) 97 4 vw (nu + (gR (upto (fun j => (⟨sid (rid (nr - 1 - j)), rcp (nr - 1 - j) % 3, rst (nr - 1 - j), rrm (nr - 1 - j)⟩ : RecD)) (nr - k))).length) (L4.flatMap wantC ++ (gR (upto (fun j => (⟨sid (rid (nr - 1 - j)), rcp (nr - 1 - j) % 3, rst (nr - 1 - j), rrm (nr - 1 - j)⟩ : RecD)) (nr - k))).flatMap wantC)) (fun vi _ _ => (intOf vi + 1).toNat)
  case atStart => exact ⟨nr, Nat.le_refl _, rfl, hU1, by rw [Nat.sub_self]; simpa [gR, upto] using rowW⟩
  clear rowW
  obtain ⟨k, hk, rfl, hBU, hrow⟩ := hrel
  obtain rfl | ⟨j, rfl⟩ : k = 0 ∨ ∃ j, k = j + 1 := by cases k; exact .inl rfl; exact .inr ⟨_, rfl⟩
  case inr =>
    rw [show ((j + 1 : Nat) : Int) - 1 = j by omega]
    have hkl : j < nr := by omega
    obtain rfl := hlpr (by omega)
    have qlt : (j : Int) < nr := by omega
    have hBw : Below N w wr := hwU.trans (hBU.mono (by omega))
    have hrb : rb < N := by rw [← HN.out]; exact World.block_lt_of_cell? w _ (hr0 j hkl)
    have e0 := (hBw.cell (p := ⟨rb, ro + j * 4, none⟩) hrb).trans (hr0 j hkl)
    have e1 := (hBw.cell (p := ⟨rb, ro + j * 4 + 1, none⟩) hrb).trans (hr1 j hkl)
    have e2 := (hBw.cell (p := ⟨rb, ro + j * 4 + 2, none⟩) hrb).trans (hr2 j hkl)
    have e3 := (hBw.cell (p := ⟨rb, ro + j * 4 + 3, none⟩) hrb).trans (hr3 j hkl)
    obtain ⟨l0, l1⟩ := br0 j
    obtain ⟨m0, m1⟩ := br1 j
    have ht3 : (rcp j).tmod 3 = rcp j % 3 := Int.tmod_eq_emod_of_nonneg m0
    have hw3 : IntKind.u8.wrap (rcp j % 3) = rcp j % 3 := by rw [IntKind.wrap_u8]; omega
    have hw4 : IntKind.i64.wrap (rcp j % 3) = rcp j % 3 := by rw [IntKind.wrap_i64]; omega
    have hsU : M3 + 3 ≤ wr.heap.size := by rw [← hU0s]; exact hBU.size
    have ej : nr - j = nr - (j + 1) + 1 := by omega
    have el : nr - 1 - (nr - (j + 1)) = j := by omega
    have hgl5 : (gR (upto (fun j => (⟨sid (rid (nr - 1 - j)), rcp (nr - 1 - j) % 3, rst (nr - 1 - j), rrm (nr - 1 - j)⟩ : RecD)) (nr - (j + 1)))).length ≤ nr - (j + 1) := by
      unfold gR
      rw [List.length_map]
      exact Nat.le_trans (List.length_filter_le _ _) (by rw [upto_length]; exact Nat.le_refl _)
    obtain ⟨L5, HL5⟩ : ∃ L, gR (upto (fun j => (⟨sid (rid (nr - 1 - j)), rcp (nr - 1 - j) % 3, rst (nr - 1 - j), rrm (nr - 1 - j)⟩ : RecD)) (nr - (j + 1))) = L := ⟨_, rfl⟩
    rw [HL5] at hrow hgl5
    have hl5 : nu + L5.length + 1 ≤ 2048 := by omega
    cases hrm : rrm j with
    | false =>
      rw [hrm] at e3
      have hL : gR (upto (fun j => (⟨sid (rid (nr - 1 - j)), rcp (nr - 1 - j) % 3, rst (nr - 1 - j), rrm (nr - 1 - j)⟩ : RecD)) (nr - j)) = L5 := by rw [ej, upto_succ, el, gR_miss _ (show RecD.rm _ = false from hrm), HL5]
      clear e0 e1 e2
      go_wp2
      go_roundw
      case rel => exact ⟨j, by omega, rfl, hBU, by rw [hL]; exact hrow⟩
      case measure => simp [intOf] <;> omega
    | true =>
      rw [hrm] at e3
      have hL : gR (upto (fun j => (⟨sid (rid (nr - 1 - j)), rcp (nr - 1 - j) % 3, rst (nr - 1 - j), rrm (nr - 1 - j)⟩ : RecD)) (nr - j)) = L5 ++ [⟨sid (rid j), rcp j % 3, rst j, true⟩] := by rw [ej, upto_succ, el, gR_hit _ (show RecD.rm _ = true from hrm), HL5]
      go_wp2
      have d0 : wr.drew.cell? ⟨rb, ro + j * 4, none⟩ = some (.int .u8 (rid j)) := e0
      have d1 : wr.drew.cell? ⟨rb, ro + j * 4 + 1, none⟩ = some (.int .u8 (rcp j)) := e1
      have d2 : wr.drew.cell? ⟨rb, ro + j * 4 + 2, none⟩ = some (.int .u64 (rst j)) := e2
      have rR : some rb ≠ u20.ownBlock := ownBlock_ne hrow (.inl (by omega))
      have hS : wr.drew.grownBy wr.drew u20.ownBlock := grown_refl _ _
      obtain ⟨H, hH⟩ : ∃ H, wr.heap.size = H := ⟨_, rfl⟩
      clear e0 e1 e2 e3
      refine regionK (fun W => wr.drew.grownBy W u20.ownBlock) 22 (by kernel_rfl) ?_
      refine takeK 0 rfl (by kernel_rfl) (by kernel_rfl) (by kernel_rfl) (by kernel_rfl) (fun _ _ _ h => h) hS rfl (by intro W hW; go_simp <;> with_reducible rfl) ?_
      try simp only [Act.put, List.setIfInBounds_toArray, List.set_cons_zero, List.set_cons_succ]
      refine takeK 1 rfl (by kernel_rfl) (by kernel_rfl) (by kernel_rfl) (by kernel_rfl) (fun _ _ _ h => h) hS rfl (by intro W hW; go_simp <;> with_reducible rfl) ?_
      try simp only [Act.put, List.setIfInBounds_toArray, List.set_cons_zero, List.set_cons_succ]
      refine takeK 2 rfl (by kernel_rfl) (by kernel_rfl) (by kernel_rfl) (by kernel_rfl) (fun _ _ _ h => h) hS rfl (by intro W hW; go_simp <;> with_reducible rfl) ?_
      try simp only [Act.put, List.setIfInBounds_toArray, List.set_cons_zero, List.set_cons_succ]
      refine takeK 3 rfl (by kernel_rfl) (by kernel_rfl) (by kernel_rfl) (by kernel_rfl) (fun _ _ _ h => h) hS rfl (by intro W hW; go_simp <;> with_reducible rfl) ?_
      try simp only [Act.put, List.setIfInBounds_toArray, List.set_cons_zero, List.set_cons_succ]
      refine takeK 4 rfl (by kernel_rfl) (by kernel_rfl) (by kernel_rfl) (by kernel_rfl) (fun _ _ _ h => h) hS rfl (by intro W hW; go_simp <;> with_reducible rfl) ?_
      try simp only [Act.put, List.setIfInBounds_toArray, List.set_cons_zero, List.set_cons_succ]
      refine takeK 5 rfl (by kernel_rfl) (by kernel_rfl) (by kernel_rfl) (by kernel_rfl) (fun _ _ _ h => h) hS rfl (by intro W hW; have g0 := hW.cell d0 rR; go_simp <;> with_reducible rfl) ?_
      try simp only [Act.put, List.setIfInBounds_toArray, List.set_cons_zero, List.set_cons_succ]
      refine takeCallK 6 rfl (by kernel_rfl) (by kernel_rfl) (by kernel_rfl) (by kernel_rfl) (fun _ _ _ h => h) hS rfl (by intro W hW; go_simp <;> with_reducible rfl) (fun W => cid (rid j) W l0 l1) ?_
      try simp only [Act.put, List.setIfInBounds_toArray, List.set_cons_zero, List.set_cons_succ]
      refine takeK 7 rfl (by kernel_rfl) (by kernel_rfl) (by kernel_rfl) (by kernel_rfl) (fun _ _ _ h => h) hS rfl (by intro W hW; go_simp <;> with_reducible rfl) ?_
      try simp only [Act.put, List.setIfInBounds_toArray, List.set_cons_zero, List.set_cons_succ]
      refine takeK 8 rfl (by kernel_rfl) (by kernel_rfl) (by kernel_rfl) (by kernel_rfl) (fun _ _ _ h => h) hS rfl (by intro W hW; go_simp <;> with_reducible rfl) ?_
      try simp only [Act.put, List.setIfInBounds_toArray, List.set_cons_zero, List.set_cons_succ]
      refine takeK 9 rfl (by kernel_rfl) (by kernel_rfl) (by kernel_rfl) (by kernel_rfl) (fun _ _ _ h => h) hS rfl (by intro W hW; go_simp <;> with_reducible rfl) ?_
      try simp only [Act.put, List.setIfInBounds_toArray, List.set_cons_zero, List.set_cons_succ]
      refine takeK 10 rfl (by kernel_rfl) (by kernel_rfl) (by kernel_rfl) (by kernel_rfl) (fun _ _ _ h => h) hS rfl (by intro W hW; go_simp <;> with_reducible rfl) ?_
      try simp only [Act.put, List.setIfInBounds_toArray, List.set_cons_zero, List.set_cons_succ]
      refine takeK 11 rfl (by kernel_rfl) (by kernel_rfl) (by kernel_rfl) (by kernel_rfl) (fun _ _ _ h => h) hS rfl (by intro W hW; have g0 := hW.cell d1 rR; go_simp <;> with_reducible rfl) ?_
      try simp only [Act.put, List.setIfInBounds_toArray, List.set_cons_zero, List.set_cons_succ]
      refine takeK 12 rfl (by kernel_rfl) (by kernel_rfl) (by kernel_rfl) (by kernel_rfl) (fun _ _ _ h => h) hS rfl (by intro W hW; go_simp <;> with_reducible rfl) ?_
      try simp only [Act.put, List.setIfInBounds_toArray, List.set_cons_zero, List.set_cons_succ]
      refine takeK 13 rfl (by kernel_rfl) (by kernel_rfl) (by kernel_rfl) (by kernel_rfl) (fun _ _ _ h => h) hS rfl (by intro W hW; go_simp <;> with_reducible rfl) ?_
      try simp only [Act.put, List.setIfInBounds_toArray, List.set_cons_zero, List.set_cons_succ]
      refine takeK 14 rfl (by kernel_rfl) (by kernel_rfl) (by kernel_rfl) (by kernel_rfl) (fun _ _ _ h => h) hS rfl (by intro W hW; go_simp <;> with_reducible rfl) ?_
      try simp only [Act.put, List.setIfInBounds_toArray, List.set_cons_zero, List.set_cons_succ]
      refine takeK 15 rfl (by kernel_rfl) (by kernel_rfl) (by kernel_rfl) (by kernel_rfl) (fun _ _ _ h => h) hS rfl (by intro W hW; go_simp <;> with_reducible rfl) ?_
      try simp only [Act.put, List.setIfInBounds_toArray, List.set_cons_zero, List.set_cons_succ]
      refine takeK 16 rfl (by kernel_rfl) (by kernel_rfl) (by kernel_rfl) (by kernel_rfl) (fun _ _ _ h => h) hS rfl (by intro W hW; go_simp <;> with_reducible rfl) ?_
      try simp only [Act.put, List.setIfInBounds_toArray, List.set_cons_zero, List.set_cons_succ]
      refine takeK 17 rfl (by kernel_rfl) (by kernel_rfl) (by kernel_rfl) (by kernel_rfl) (fun _ _ _ h => h) hS rfl (by intro W hW; go_simp <;> with_reducible rfl) ?_
      try simp only [Act.put, List.setIfInBounds_toArray, List.set_cons_zero, List.set_cons_succ]
      refine takeK 18 rfl (by kernel_rfl) (by kernel_rfl) (by kernel_rfl) (by kernel_rfl) (fun _ _ _ h => h) hS rfl (by intro W hW; have g0 := hW.cell d2 rR; go_simp <;> with_reducible rfl) ?_
      try simp only [Act.put, List.setIfInBounds_toArray, List.set_cons_zero, List.set_cons_succ]
      refine takeK 19 rfl (by kernel_rfl) (by kernel_rfl) (by kernel_rfl) (by kernel_rfl) (fun _ _ _ h => h) hS rfl (by intro W hW; go_simp <;> with_reducible rfl) ?_
      try simp only [Act.put, List.setIfInBounds_toArray, List.set_cons_zero, List.set_cons_succ]
      refine stepK 20 rfl (by kernel_rfl) rfl (fun K hK => ?_)
      go_simp
      refine hK _ _ (fun _ => grown_alloc hS _) ?_
      clear hK K
      try simp only [Act.put, List.setIfInBounds_toArray, List.set_cons_zero, List.set_cons_succ]
      replace hS := grown_alloc hS (Obj.cells #[.string (sid (rid j)), .int .i64 (rcp j % 3), .int .u64 (rst j), .bool true] 97)
      refine stepK 21 rfl (by kernel_rfl) rfl (fun K hK => ?_)
      refine wp_append_lies _ _ _ 93 rfl (M3 + 3) 97 i97 zero97 4 40 Yba.underlying93 hi97 hx70 hx71 hx72 rfl (by decide) u20 (nu + L5.length) _ (by rfl) (show World.ownsRow (World.drew _) _ _ _ _ _ _ from hrow.alloc (Obj.cells #[.string (sid (rid j)), .int .i64 (rcp j % 3), .int .u64 (rst j), .bool true] 97)) ⟨H, 0, none⟩ 1 1 [.string (sid (rid j)), .int .i64 (rcp j % 3), .int .u64 (rst j), .bool true] (by rfl) (by rfl) (World.news_of_block (by
        have := World.alloc_heap_new wr (Obj.cells #[.string (sid (rid j)), .int .i64 (rcp j % 3), .int .u64 (rst j), .bool true] 97)
        rw [hH] at this
        exact this)) (by simp [Value.oneCell']) (by decide) (by unfold maxLen; omega) (by omega) (by show M3 + 3 ≤ (wr.alloc _).heap.size; simp; omega) _ rfl ?_
      intro g cap w1 hown hgrow hat hgl
      replace hS := grown_trans hS hgrow
      refine hK _ _ (fun _ => hS) ?_
      clear hK K
      dsimp only [Act.put]
      simp only [List.setIfInBounds_toArray, List.set_cons_zero, List.set_cons_succ]
      refine stepK 22 rfl (by kernel_rfl) rfl (fun K hK => ?_)
      go_simp
      refine hK _ _ (fun h => absurd rfl h) ?_
      clear hK K
      try simp only [Act.put, List.setIfInBounds_toArray, List.set_cons_zero, List.set_cons_succ]
      refine doneK (by kernel_rfl) ?_ _
      have hB1 : Below (M3 + 3) U0 w1 := (((hBU.drew (w := wr)).alloc (by show M3 + 3 ≤ wr.heap.size; omega) _).grown hgrow (by show M3 + 3 ≤ (wr.alloc _).heap.size; simp; omega) (fun k e => (hrow.lt k e).1))
      go_wp2
      go_roundw
      case rel =>
        refine ⟨j, by omega, rfl, hB1, ?_⟩
        rw [hL, List.length_append, List.flatMap_append, List.flatMap_singleton, ← Nat.add_assoc, ← List.append_assoc]
        exact hown
      case measure => simp [intOf] <;> omega
  rw [show ((0 : Nat) : Int) - 1 = -1 from rfl]
  rw [Nat.sub_zero] at hrow
  obtain ⟨L5, HL5⟩ : ∃ L, gR (upto (fun j => (⟨sid (rid (nr - 1 - j)), rcp (nr - 1 - j) % 3, rst (nr - 1 - j), rrm (nr - 1 - j)⟩ : RecD)) nr) = L := ⟨_, rfl⟩
  rw [HL5] at hrow
  have hgl5 : L5.length ≤ nr := by
    rw [← HL5]
    unfold gR
    rw [List.length_map]
    exact Nat.le_trans (List.length_filter_le _ _) (by rw [upto_length]; exact Nat.le_refl _)
  obtain ⟨U2, HX⟩ : ∃ u, wr = u := ⟨_, rfl⟩
  rw [HX] at hBU hrow
  rw [HX]
  have hU2 : Below (M3 + 3) U0 U2 := hBU
  have rowW := hrow
  clear HX hBU hrow hk hU1
  have hV3U2 : Below V3.heap.size V3 U2 := by rw [HM3]; exact hU0.trans (hU2.mono (by omega))
  have rowE2 := ownsRow_below hV3U2 ((row1.kept grw2 (.inr (fun e => by have := (row1.lt N e).1; omega))).kept grw3 (.inr (fun e => by have := (row1.lt N e).1; omega)))
  have rowR2 := ownsRow_below hV3U2 (row2.kept grw3 (.inr (fun e => by have := (row2.lt N e).1; omega)))
  have rowU2 := ownsRow_below hV3U2 row3
  have hshU : U2.heap[N]? = some (shB lvE lvR lvU) := (hV3U2.block N (by rw [HM3]; exact hNM3)).trans hV3s
  have hstU : U2.cell? ⟨M3 + 2, 3, none⟩ = some (.map (some (M3 + 1))) := (hU2.cell (p := ⟨M3 + 2, 3, none⟩) (by show M3 + 2 < M3 + 3; omega)).trans hst
  have homU := hom.below hU2 (by omega)
  have hwU2 : Below N w U2 := hwU.trans (hU2.mono (by omega))
  clear row1 row2 row3 grw1 grw2 grw3 hV3U2 hst hom hwU
  obtain ⟨pE, gE, kE, hvE, hpE⟩ := row_form rowE2
  obtain ⟨pR, gRb, kR, hvR, hpR⟩ := row_form rowR2
  obtain ⟨pU, gUb, kU, hvU, hpU⟩ := row_form rowU2
  have s0 : U2.cell? ⟨N, 0, none⟩ = some lvE := by simp [World.cell?, hshU, shB]
  have s1 : U2.cell? ⟨N, 1, none⟩ = some (.map none) := by simp [World.cell?, hshU, shB]
  have s2 : U2.cell? ⟨N, 2, none⟩ = some lvR := by simp [World.cell?, hshU, shB]
  have s3 : U2.cell? ⟨N, 3, none⟩ = some (.map none) := by simp [World.cell?, hshU, shB]
  have s6 : U2.cell? ⟨N, 6, none⟩ = some lvU := by simp [World.cell?, hshU, shB]
  have s7 : U2.cell? ⟨N, 7, none⟩ = some (.map none) := by simp [World.cell?, hshU, shB]
  have hAh := ahead_hit (M3 + 2) (M3 + 1) N c U2 hstU homU gE ne kE pE (fun h => (hpE h).1) (fun j => sid (eid j)) (fun j => ecp j % 3) est (fun j => some ⟨bd j, 0, none⟩) (fun _ => 2) (fun _ => 2) h1 (by rw [s0, hvE]) s1
    (fun i hi => pl_of_row (body := fun j => .slice (some ⟨bd j, 0, none⟩) 2 2) (rm := fun _ => false) (gn := fun _ => false) (by rw [(hpE (by omega)).2.1] at rowE2; exact rowE2) i hi)
    gRb nr kR pR (fun h => (hpR h).1) (fun j => ⟨sid (rid j), rcp j % 3, rst j, rrm j⟩) h2 (by rw [s2, hvR]) s3
    (fun i hi => pl_of_row (id := fun j => sid (rid j)) (cp := fun j => rcp j % 3) (st := rst) (body := fun _ => .slice none 0 0) (rm := rrm) (gn := fun j => !(rrm j)) (by rw [(hpR (by omega)).2.1] at rowR2; exact rowR2) i hi)
    gUb nu kU pU (fun h => (hpU h).1) (fun j => (sid (uid j), ucp j % 3)) h3 (by rw [s6, hvU]) s7
    (fun i hi => row_cell (l := List.range nu) (f := fun j => [.string (sid (uid j)), .int .i64 (ucp j % 3)]) (fun x => rfl) (by rw [(hpU (by omega)).2.1] at rowU2; exact rowU2) (i := i) (x := i) (j := 0) (by simp [hi]) (by decide) rfl)
    (fun i hi => row_cell (l := List.range nu) (f := fun j => [.string (sid (uid j)), .int .i64 (ucp j % 3)]) (fun x => rfl) (by rw [(hpU (by omega)).2.1] at rowU2; exact rowU2) (i := i) (x := i) (j := 1) (by simp [hi]) (by decide) rfl)
    (fun h => (hpU h).2.2.2.2)
  clear rowE2 rowR2 rowU2 hpE hpR hpU s1 s3 s7
  obtain ⟨T, hT⟩ : ∃ T, nu + L5.length = T := ⟨_, rfl⟩
  obtain ⟨OUTS, HO⟩ : ∃ L, (upto (fun j => (sid (uid (nu - 1 - j)), ucp (nu - 1 - j) % 3)) nu).map (gU (fun j => sid (eid j)) (fun j => ecp j % 3) est ne) ++ L5 = L := ⟨_, rfl⟩
  have hOl : OUTS.length = T := by rw [← HO, List.length_append, List.length_map, upto_length, hT]
  replace hAh : Calls Yba.prog 16 #[.pointer (some ⟨M3 + 2, 0, none⟩), .string c] U2 fun e w' => ∃ v, e = .returned v ∧ w'.ownsRow U2.heap.size 68 13 v T (rowCells c OUTS) ∧ (v = .slice none 0 0 ↔ OUTS = []) ∧ Below U2.heap.size U2 w' := by
    refine hAh.mono ?_
    rintro e w' ⟨v, h1, h2, h3, h4⟩
    have e1 : (upto (fun j => (fun j => (sid (uid j), ucp j % 3)) (nu - 1 - j)) nu).map (gU (fun j => sid (eid j)) (fun j => ecp j % 3) est ne) ++ gR (upto (fun j => (fun j => (⟨sid (rid j), rcp j % 3, rst j, rrm j⟩ : RecD)) (nr - 1 - j)) nr) = OUTS := by rw [← HO, ← HL5]
    rw [e1, hOl] at h2
    rw [e1] at h3
    exact ⟨v, h1, h2, h3, h4⟩
  rw [hT] at rowW
  have n98 : ∀ w : World, (binOp .neq 98 (.slice none 0 0) (.slice none 0 0)).run Yba.prog w = .ok (.bool false) w := fun w => run_neq_slice_nil_any w 98 _ none 0 0 0 0 Yba.underlying98
  obtain ⟨pw, gw, kw, hwf, hpw⟩ := row_form rowW
  rcases Nat.eq_zero_or_pos T with hT0 | hT0
  · obtain rfl : T = 0 := hT0
    have hO0 : OUTS = [] := List.length_eq_zero_iff.1 hOl
    subst hwf
    clear hpw rowW
    go_wp2_with (go_at_call 16; refine hAh.mono ?_; rintro e w' ⟨v, rfl, rowG, hvn, hBG⟩; obtain rfl : v = .slice none 0 0 := hvn.2 hO0; clear rowG hvn hAh)
    obtain ⟨X1, HX⟩ : ∃ u, w' = u := ⟨_, rfl⟩
    rw [HX] at hBG
    rw [HX]
    go_loopw [250] (fun vi wr => vi = .int .i64 0 ∧ wr = X1) (fun _ _ => 0)
    case atStart => exact ⟨rfl, rfl⟩
    obtain ⟨rfl, rfl⟩ := hrel
    have hUX : Below U2.heap.size U2 wr := hBG
    clear hBG
    have hMU : M3 + 3 ≤ U2.heap.size := by rw [← hU0s]; exact hU2.size
    have hstX := (hUX.cell (p := ⟨M3 + 2, 3, none⟩) (by show M3 + 2 < U2.heap.size; omega)).trans hstU
    have homX := homU.below hUX (by omega)
    have shX := (hUX.block N (by omega)).trans hshU
    have hne : c ++ ({ data := #[47] } : ByteArray) ≠ c := fun h => by have := congrArg ByteArray.size h; rw [ByteArray.size_append] at this; have h2 : ({ data := #[47] } : ByteArray).size = 1 := rfl; omega
    have hmiss := ahead_miss (M3 + 2) (M3 + 1) c (c ++ { data := #[47] }) _ wr hstX homX hne
    have hNX : N < wr.heap.size := by have := hUX.size; omega
    clear s0 s2 s6
    go_wp2_with fail
    refine hmiss.mono ?_
    rintro e X2 ⟨rfl, hB2⟩
    clear hmiss
    have sh2 := (hB2.block N hNX).trans shX
    have t0 : X2.cell? ⟨N, 0, none⟩ = some (.slice pE ne kE) := by rw [← hvE]; simp [World.cell?, sh2, shB]
    have t2 : X2.cell? ⟨N, 2, none⟩ = some (.slice pR nr kR) := by rw [← hvR]; simp [World.cell?, sh2, shB]
    have t6 : X2.cell? ⟨N, 6, none⟩ = some (.slice pU nu kU) := by rw [← hvU]; simp [World.cell?, sh2, shB]
    have lk := look_hit (homX.below hB2 (by have := hUX.size; omega))
    have st2 := (hB2.cell (p := ⟨M3 + 2, 3, none⟩) (by show M3 + 2 < wr.heap.size; have := hUX.size; omega)).trans hstX
    clear sh2 homX hstX
    have hpe := ptr_eq41
    go_wp2
    go_ret
    exact ⟨rfl, by rw [HN.out]; exact (hwU2.trans (hUX.mono (by omega))).trans (hB2.mono (by omega))⟩

  · have qT : ¬ ((T : Int) = 0) := by omega
    obtain ⟨rfl, _, hgw1, hgw2, _⟩ := hpw hT0
    subst hwf
    have HrW : Hid (U2.ownsRow (M3 + 3) 97 4 (.slice (some ⟨gw, 0, none⟩) T kw) T (L4.flatMap wantC ++ L5.flatMap wantC)) := rowW
    clear rowW hpw
    go_wp2_with (go_at_call 16; refine hAh.mono ?_; rintro e w' ⟨v, rfl, rowG, hvn, hBG⟩; obtain ⟨pv, gv, kv, hvf, hpv⟩ := row_form rowG; obtain ⟨rfl, _, hgv1, hgv2, _⟩ := hpv hT0; subst hvf; have HrG : Hid (w'.ownsRow U2.heap.size 68 13 (.slice (some ⟨gv, 0, none⟩) T kv) T (rowCells c OUTS)) := rowG; clear rowG hvn hAh hpv)
    obtain ⟨X0, HX⟩ : ∃ u, w' = u := ⟨_, rfl⟩
    rw [HX] at hBG hgv2 HrG
    rw [HX]
    have hTl : T ≤ 2048 := by omega
    have HL45 : Hid ((L4 ++ L5).length = T) := show (L4 ++ L5).length = T by rw [List.length_append, hL4, hT]
    go_loopw [250] (fun vi wr => ∃ i : Nat, i ≤ T ∧ vi = .int .i64 i ∧ Below X0.heap.size X0 wr) (fun vi _ => T - (intOf vi).toNat)
    case atStart => exact ⟨0, by omega, rfl, Below.refl _ _⟩
    obtain ⟨i, hi, rfl, hBX⟩ := hrel
    by_cases hlt : i < T
    · have qlt : (i : Int) < T := by omega
      obtain ⟨wO, hwO⟩ : ∃ o, (L4 ++ L5)[i]? = some o := ⟨_, List.getElem?_eq_getElem (by rw [HL45.out]; exact hlt)⟩
      obtain ⟨gO, hgO, hlk⟩ := like_all eid ecp est ne (upto (fun j => (sid (uid (nu - 1 - j)), ucp (nu - 1 - j) % 3)) nu) L5 i wO (by rw [HL4]; exact hwO)
      rw [HO] at hgO
      have cg : ∀ j u, j < 13 → (outCells c gO)[j]? = some u → wr.cell? ⟨gv, i * 13 + j, none⟩ = some u := fun j u hj hu =>
        (hBX.cell (p := ⟨gv, i * 13 + j, none⟩) hgv2).trans (row_cell (f := outCells c) (l := OUTS) (fun x => rfl) HrG.out hgO hj hu)
      have cw : ∀ j u, j < 4 → (wantC wO)[j]? = some u → wr.cell? ⟨gw, i * 4 + j, none⟩ = some u := fun j u hj hu =>
        (hBX.cell (p := ⟨gw, i * 4 + j, none⟩) (Nat.lt_of_lt_of_le hgw2 hBG.size)).trans ((hBG.cell (p := ⟨gw, i * 4 + j, none⟩) hgw2).trans (row_cell (f := wantC) (l := L4 ++ L5) (fun x => rfl) (by have := HrW.out; rw [← List.flatMap_append] at this; exact this) hwO hj hu))
      obtain ⟨gid, gcp, gst, grm⟩ := gO
      obtain ⟨wid, wcp, wst, wrm⟩ := wO
      obtain ⟨hl1, hl2, hl3, hl4⟩ := hlk
      dsimp only at hl1 hl2 hl3 hl4
      subst hl2 hl3 hl4
      have hidb : (gid.toList == wid.toList) = true := by rw [hl1]; simp
      have g0 : wr.cell? ⟨gv, i * 13, none⟩ = some (.string c) := cg 0 _ (by decide) rfl
      have g1 := cg 1 _ (by decide) rfl
      have g2 := cg 2 _ (by decide) rfl
      have g3 := cg 3 _ (by decide) rfl
      have g4 := cg 4 _ (by decide) rfl
      have g5 := cg 5 _ (by decide) rfl
      have g6 := cg 6 _ (by decide) rfl
      have g7 := cg 7 _ (by decide) rfl
      have g8 := cg 8 _ (by decide) rfl
      have g9 := cg 9 _ (by decide) rfl
      have g10 := cg 10 _ (by decide) rfl
      have g11 := cg 11 _ (by decide) rfl
      have g12 := cg 12 _ (by decide) rfl
      have o0 : wr.cell? ⟨gw, i * 4, none⟩ = some (.string wid) := cw 0 _ (by decide) rfl
      have o1 := cw 1 _ (by decide) rfl
      have o2 := cw 2 _ (by decide) rfl
      have o3 := cw 3 _ (by decide) rfl
      dsimp only at g1 g2 g6 g7 g12 o1 o2 o3
      have o0a : ∀ o, (wr.alloc o).cell? ⟨gw, i * 4, none⟩ = some (.string wid) := fun o => (World.cell?_alloc_lt _ _ _ (World.block_lt_of_cell? wr _ o0)).trans o0
      have o1a : ∀ o, (wr.alloc o).cell? ⟨gw, i * 4 + 1, none⟩ = some (.int .i64 gcp) := fun o => (World.cell?_alloc_lt _ _ _ (World.block_lt_of_cell? wr _ o1)).trans o1
      have o2a : ∀ o, (wr.alloc o).cell? ⟨gw, i * 4 + 2, none⟩ = some (.int .u64 gst) := fun o => (World.cell?_alloc_lt _ _ _ (World.block_lt_of_cell? wr _ o2)).trans o2
      have o3a : ∀ o, (wr.alloc o).cell? ⟨gw, i * 4 + 3, none⟩ = some (.bool grm) := fun o => (World.cell?_alloc_lt _ _ _ (World.block_lt_of_cell? wr _ o3)).trans o3
      clear cg cw o0 o1 o2 o3 hgO hwO
      obtain ⟨H, hH⟩ : ∃ H, wr.heap.size = H := ⟨_, rfl⟩
      have HH : Hid (wr.heap.size = H) := hH
      have hpl := cplain c gid gcp gst grm (!grm)
      unfold bare at hpl
      cases grm
      · simp only [Bool.not_false, Bool.not_true] at hpl g12
        go_wp2_with fail
        obtain ⟨W9, HW9⟩ : ∃ u, Hid (u = (wr.alloc (.cells #[.string c, .string gid, .int .i64 gcp, .slice none 0 0, .slice none 0 0, .int .u64 0, .int .u64 gst, .bool false, .bool false, .int .u64 0, .int .i64 0, .pointer none, .bool true] 68)).alloc (.cells #[.string wid, .int .i64 gcp, .int .u64 gst, .bool false] 97)) := ⟨_, rfl⟩
        rw [← HW9.out]
        have hs9 : W9.heap.size = H + 2 := by rw [HW9.out]; simp [HH.out]
        have b9 : W9.heap[H]? = some (.cells #[.string c, .string gid, .int .i64 gcp, .slice none 0 0, .slice none 0 0, .int .u64 0, .int .u64 gst, .bool false, .bool false, .int .u64 0, .int .i64 0, .pointer none, .bool true] 68 (0, 0)) := by
          rw [HW9.out, Below.heap_alloc _ _ _ (by simp [HH.out]), ← HH.out]; exact World.alloc_heap_new wr _
        have d9 : W9.heap[H + 1]? = some (.cells #[.string wid, .int .i64 gcp, .int .u64 gst, .bool false] 97 (0, 0)) := by
          have := World.alloc_heap_new (wr.alloc (.cells #[.string c, .string gid, .int .i64 gcp, .slice none 0 0, .slice none 0 0, .int .u64 0, .int .u64 gst, .bool false, .bool false, .int .u64 0, .int .i64 0, .pointer none, .bool true] 68)) (.cells #[.string wid, .int .i64 gcp, .int .u64 gst, .bool false] 97)
          rw [World.size_alloc, HH.out] at this
          rw [HW9.out]; exact this
        have B9 : Below X0.heap.size X0 W9 := by rw [HW9.out]; exact (hBX.alloc hBX.size _).alloc (by have := hBX.size; simp; omega) _
        refine (hpl W9).mono ?_
        rintro e w2 ⟨rfl, hB17⟩
        have b2 := (hB17.block H (by omega)).trans b9
        have d2 := (hB17.block (H + 1) (by omega)).trans d9
        have v1 : w2.cell? ⟨H, 1, none⟩ = some (.string gid) := by simp [World.cell?, b2]
        have v2 : w2.cell? ⟨H, 2, none⟩ = some (.int .i64 gcp) := by simp [World.cell?, b2]
        have v6 : w2.cell? ⟨H, 6, none⟩ = some (.int .u64 gst) := by simp [World.cell?, b2]
        have v7 : w2.cell? ⟨H, 7, none⟩ = some (.bool false) := by simp [World.cell?, b2]
        have v12 : w2.cell? ⟨H, 12, none⟩ = some (.bool true) := by simp [World.cell?, b2]
        have x0 : w2.cell? ⟨H + 1, 0, none⟩ = some (.string wid) := by simp [World.cell?, d2]
        have x1 : w2.cell? ⟨H + 1, 1, none⟩ = some (.int .i64 gcp) := by simp [World.cell?, d2]
        have x2 : w2.cell? ⟨H + 1, 2, none⟩ = some (.int .u64 gst) := by simp [World.cell?, d2]
        have x3 : w2.cell? ⟨H + 1, 3, none⟩ = some (.bool false) := by simp [World.cell?, d2]
        have HB2 : Hid (Below X0.heap.size X0 w2) := B9.trans (hB17.mono B9.size)
        clear hpl g0 g1 g2 g3 g4 g5 g6 g7 g8 g9 g10 g11 g12 o0a o1a o2a o3a b9 d9 b2 d2 hB17 hH HW9 B9
        go_wp2
        go_roundw
        case rel => exact ⟨i + 1, by omega, by go_num, HB2.out⟩
        case measure => simp [intOf]; omega
      · simp only [Bool.not_false, Bool.not_true] at hpl g12
        go_wp2_with fail
        obtain ⟨W9, HW9⟩ : ∃ u, Hid (u = (wr.alloc (.cells #[.string c, .string gid, .int .i64 gcp, .slice none 0 0, .slice none 0 0, .int .u64 0, .int .u64 gst, .bool true, .bool false, .int .u64 0, .int .i64 0, .pointer none, .bool false] 68)).alloc (.cells #[.string wid, .int .i64 gcp, .int .u64 gst, .bool true] 97)) := ⟨_, rfl⟩
        rw [← HW9.out]
        have hs9 : W9.heap.size = H + 2 := by rw [HW9.out]; simp [HH.out]
        have b9 : W9.heap[H]? = some (.cells #[.string c, .string gid, .int .i64 gcp, .slice none 0 0, .slice none 0 0, .int .u64 0, .int .u64 gst, .bool true, .bool false, .int .u64 0, .int .i64 0, .pointer none, .bool false] 68 (0, 0)) := by
          rw [HW9.out, Below.heap_alloc _ _ _ (by simp [HH.out]), ← HH.out]; exact World.alloc_heap_new wr _
        have d9 : W9.heap[H + 1]? = some (.cells #[.string wid, .int .i64 gcp, .int .u64 gst, .bool true] 97 (0, 0)) := by
          have := World.alloc_heap_new (wr.alloc (.cells #[.string c, .string gid, .int .i64 gcp, .slice none 0 0, .slice none 0 0, .int .u64 0, .int .u64 gst, .bool true, .bool false, .int .u64 0, .int .i64 0, .pointer none, .bool false] 68)) (.cells #[.string wid, .int .i64 gcp, .int .u64 gst, .bool true] 97)
          rw [World.size_alloc, HH.out] at this
          rw [HW9.out]; exact this
        have B9 : Below X0.heap.size X0 W9 := by rw [HW9.out]; exact (hBX.alloc hBX.size _).alloc (by have := hBX.size; simp; omega) _
        refine (hpl W9).mono ?_
        rintro e w2 ⟨rfl, hB17⟩
        have b2 := (hB17.block H (by omega)).trans b9
        have d2 := (hB17.block (H + 1) (by omega)).trans d9
        have v1 : w2.cell? ⟨H, 1, none⟩ = some (.string gid) := by simp [World.cell?, b2]
        have v2 : w2.cell? ⟨H, 2, none⟩ = some (.int .i64 gcp) := by simp [World.cell?, b2]
        have v6 : w2.cell? ⟨H, 6, none⟩ = some (.int .u64 gst) := by simp [World.cell?, b2]
        have v7 : w2.cell? ⟨H, 7, none⟩ = some (.bool true) := by simp [World.cell?, b2]
        have v12 : w2.cell? ⟨H, 12, none⟩ = some (.bool false) := by simp [World.cell?, b2]
        have x0 : w2.cell? ⟨H + 1, 0, none⟩ = some (.string wid) := by simp [World.cell?, d2]
        have x1 : w2.cell? ⟨H + 1, 1, none⟩ = some (.int .i64 gcp) := by simp [World.cell?, d2]
        have x2 : w2.cell? ⟨H + 1, 2, none⟩ = some (.int .u64 gst) := by simp [World.cell?, d2]
        have x3 : w2.cell? ⟨H + 1, 3, none⟩ = some (.bool true) := by simp [World.cell?, d2]
        have HB2 : Hid (Below X0.heap.size X0 w2) := B9.trans (hB17.mono B9.size)
        clear hpl g0 g1 g2 g3 g4 g5 g6 g7 g8 g9 g10 g11 g12 o0a o1a o2a o3a b9 d9 b2 d2 hB17 hH HW9 B9
        go_wp2
        go_roundw
        case rel => exact ⟨i + 1, by omega, by go_num, HB2.out⟩
        case measure => simp [intOf]; omega

    have hie : T = i := by omega
    subst hie
    have hUX : Below U2.heap.size U2 wr := hBG.trans (hBX.mono hBG.size)
    clear hBG hBX HrG HrW
    have hMU : M3 + 3 ≤ U2.heap.size := by rw [← hU0s]; exact hU2.size
    have hstX := (hUX.cell (p := ⟨M3 + 2, 3, none⟩) (by show M3 + 2 < U2.heap.size; omega)).trans hstU
    have homX := homU.below hUX (by omega)
    have shX := (hUX.block N (by omega)).trans hshU
    have hne : c ++ ({ data := #[47] } : ByteArray) ≠ c := fun h => by have := congrArg ByteArray.size h; rw [ByteArray.size_append] at this; have h2 : ({ data := #[47] } : ByteArray).size = 1 := rfl; omega
    have hmiss := ahead_miss (M3 + 2) (M3 + 1) c (c ++ { data := #[47] }) _ wr hstX homX hne
    have hNX : N < wr.heap.size := by have := hUX.size; omega
    clear s0 s2 s6
    go_wp2_with fail
    refine hmiss.mono ?_
    rintro e X2 ⟨rfl, hB2⟩
    clear hmiss
    have sh2 := (hB2.block N hNX).trans shX
    have t0 : X2.cell? ⟨N, 0, none⟩ = some (.slice pE ne kE) := by rw [← hvE]; simp [World.cell?, sh2, shB]
    have t2 : X2.cell? ⟨N, 2, none⟩ = some (.slice pR nr kR) := by rw [← hvR]; simp [World.cell?, sh2, shB]
    have t6 : X2.cell? ⟨N, 6, none⟩ = some (.slice pU nu kU) := by rw [← hvU]; simp [World.cell?, sh2, shB]
    have lk := look_hit (homX.below hB2 (by have := hUX.size; omega))
    have st2 := (hB2.cell (p := ⟨M3 + 2, 3, none⟩) (by show M3 + 2 < wr.heap.size; have := hUX.size; omega)).trans hstX
    clear sh2 homX hstX
    have hpe := ptr_eq41
    go_wp2
    go_ret
    exact ⟨rfl, by rw [HN.out]; exact (hwU2.trans (hUX.mono (by omega))).trans (hB2.mono (by omega))⟩

end Go.Proofs.Ybulkdfja
