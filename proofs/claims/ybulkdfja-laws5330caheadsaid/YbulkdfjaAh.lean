/-
  (*Store).Ahead (16).
-/
import Derived.Test.YbulkdfjaAt
import Derived.Test.YbulkdfjaIt
import Derived.Test.YbulkdfjaMp
import Derived.Maps.AppendAt
import Derived.Deep.AppendLies
namespace Go.Proofs.Ybulkdfja
open Go.RowKit Go.Shelf
set_option linter.unusedVariables false
attribute [local go_sem] Oper.semAt_some

theorem ptr_nil41 (w : World) : (binOp .eql 41 (.pointer none) (.pointer none)).run Yba.prog w = .ok (.bool true) w := by
  go_simp

set_option maxRecDepth 100000 in
set_option maxHeartbeats 2000000 in
/-- Another container: nil. -/
theorem ahead_miss (st r : Nat) (c s : ByteArray) (v : Value) (w : World) (hs : w.cell? ⟨st, 3, none⟩ = some (.map (some r))) (hm : OneMap w r c v) (hne : s ≠ c) :
    Calls Yba.prog 16 #[.pointer (some ⟨st, 0, none⟩), .string s] w fun e w' => e = .returned (.slice none 0 0) ∧ Below w.heap.size w w' := by
  have hst : st < w.heap.size := World.block_lt_of_cell? w _ hs
  have hr : r < w.heap.size := by obtain ⟨_, _, e⟩ := hm; exact (Array.getElem?_eq_some_iff.1 e).1
  have hb : ∀ o, Below w.heap.size w (w.alloc o).drew := fun o => ((Below.refl _ _).alloc (Nat.le_refl _) _).drew
  have hb2 : ∀ o o2, Below w.heap.size w ((w.alloc o).alloc o2).drew := fun o o2 => (((Below.refl _ _).alloc (Nat.le_refl _) _).alloc (by simp) _).drew
  have c1 : ∀ o, (w.alloc o).drew.cell? ⟨st, 3, none⟩ = some (.map (some r)) := fun o => ((hb o).cell (p := ⟨st, 3, none⟩) hst).trans hs
  have c2 : ∀ o o2, ((w.alloc o).alloc o2).drew.cell? ⟨st, 3, none⟩ = some (.map (some r)) := fun o o2 => ((hb2 o o2).cell (p := ⟨st, 3, none⟩) hst).trans hs
  have l1 : ∀ o, (Instr.lookup 87 (.map (some r)) (.string s) false).run Yba.prog (w.alloc o).drew = .ok (.pointer none) (w.alloc o).drew := fun o => look_miss (hm.below (hb o) hr) hne
  have l2 : ∀ o o2, (Instr.lookup 87 (.map (some r)) (.string s) false).run Yba.prog ((w.alloc o).alloc o2).drew = .ok (.pointer none) ((w.alloc o).alloc o2).drew := fun o o2 => look_miss (hm.below (hb2 o o2) hr) hne
  go_enter Yba.func16, Yba.ntmps16
  go_wp2
  go_region
  go_wp2
  go_ret
  exact ⟨rfl, hb2 _ _⟩

/-- What a copy of Ahead's bears. -/
structure OutD where
  id : ByteArray
  cp : Int
  st : Int
  rm : Bool
def outCells (c : ByteArray) (o : OutD) : List Value := [.string c, .string o.id, .int .i64 o.cp, .slice none 0 0, .slice none 0 0, .int .u64 0, .int .u64 o.st, .bool o.rm, .bool false, .int .u64 0, .int .i64 0, .pointer none, .bool (!o.rm)]
def rowCells (c : ByteArray) (l : List OutD) : List Value := l.flatMap (outCells c)
theorem rowCells_append (c : ByteArray) (l m : List OutD) : rowCells c (l ++ m) = rowCells c l ++ rowCells c m := by simp [rowCells]
theorem rowCells_snoc (c : ByteArray) (l : List OutD) (o : OutD) : rowCells c (l ++ [o]) = rowCells c l ++ outCells c o := by simp [rowCells]
def gU (eid : Nat → ByteArray) (ecp est : Nat → Int) (n : Nat) (x : ByteArray × Int) : OutD :=
  match getFrom eid ecp x.1 x.2 n 0 with
  | some i => ⟨eid i, ecp i, est i, false⟩
  | none => ⟨⟨#[]⟩, 0, 0, false⟩
def gR (l : List RecD) : List OutD := (l.filter (·.rm)).map fun x => ⟨x.id, x.cp, x.st, true⟩
theorem gR_hit (pre : List RecD) {x : RecD} (h : x.rm = true) : gR (pre ++ [x]) = gR pre ++ [⟨x.id, x.cp, x.st, true⟩] := by simp [gR, h]
theorem gR_miss (pre : List RecD) {x : RecD} (h : x.rm = false) : gR (pre ++ [x]) = gR pre := by simp [gR, h]

theorem got_form (c : ByteArray) (eid : Nat → ByteArray) (ecp est : Nat → Int) (bd : Nat → Option Addr) (bl bc : Nat → Nat) (n : Nat) (x : ByteArray × Int) :
    ∃ a0 a1 a2 p4 l4 k4 a5 a6, gotE c eid ecp est bd bl bc (getFrom eid ecp x.1 x.2 n 0) = .agg #[.string a0, .string a1, .int .i64 a2, .slice none 0 0, .slice p4 l4 k4, .int .u64 a5, .int .u64 a6, .bool false, .bool false, .int .u64 0, .int .i64 0, .pointer none, .bool false] ∧
      gU eid ecp est n x = ⟨a1, a2, a6, false⟩ := by
  unfold gU
  cases getFrom eid ecp x.1 x.2 n 0 with
  | none => exact ⟨_, _, _, _, _, _, _, _, rfl, rfl⟩
  | some i => exact ⟨_, _, _, _, _, _, _, _, rfl, rfl⟩

theorem below_grown {W W' : World} (h : Below W.heap.size W W') : W.grownBy W' none := ⟨h.os, h.tape, h.output, h.size, fun k hk _ => h.block k hk⟩
theorem ownsRow_below {W W' : World} {base : Nat} {e : TypeId} {size : Nat} {v : Value} {k : Nat} {xs : List Value} (h : Below W.heap.size W W') (hr : W.ownsRow base e size v k xs) : W'.ownsRow base e size v k xs :=
  hr.kept (below_grown h) (by cases v.ownBlock with
    | none => exact .inl rfl
    | some b => exact .inr (by simp))
theorem keeps_below {W W' : World} (h : Below W.heap.size W W') : KeepsOthers W W' := ⟨h.size, fun k o hk _ => (h.block k (Array.getElem?_eq_some_iff.1 hk).1).trans hk⟩
theorem box_behind {W2 w1 : World} {B O t e : Nat} {u v v' : Value} {base size k : Nat} {xs : List Value} {tmp : Obj} (h : Boxed W2 B t u) (hte : t ≠ e) (hrow : W2.ownsRow base e size v k xs) (hgrow : (W2.alloc tmp).grownBy w1 v.ownBlock) (hne : B ≠ O) :
    Boxed (w1.setCell ⟨O, 0, none⟩ v') B t u := ((h.alloc tmp).kept hgrow (h.not_row hte hrow)).other hne v'

theorem Yba.info68 : (Yba.prog.info? 68).map (fun i => (i.zero, i.size, i.bytes)) = some (some zeroE, 13, 144) := by kernel_rfl

theorem blk_own {β : Type} (b : Nat) (cs : β → Array Value) (t : TypeId) : Own (fun s W => W.heap[b]? = some (.cells (cs s) t (0, 0))) := fun s X Y row hs hg hrow =>
  (hg.block b (Array.getElem?_eq_some_iff.1 hs).1 (fun e' => by obtain ⟨o, ho, hc⟩ := hrow b e'.symm; rw [hs] at ho; cases ho; cases hc)).trans hs

/-- The loop's box is kept, and whatever lay below. -/
theorem kpB_t (n₀ Bs : Nat) : ∀ {A B C : World}, KpB n₀ Bs A B → KpB n₀ Bs B C → KpB n₀ Bs A C := fun h k => h.trans k
theorem kpB_b {n₀ Bs : Nat} {w : World} (hn : n₀ ≤ w.heap.size) (W : World) (l : Nat) (o o' : Obj) (hl : w.heap.size ≤ l) (ho : W.heap[l]? = some o) (hc : o.isCells = false) (hw : o.isWalk = false) : KpB n₀ Bs W (W.putObj l o') :=
  ⟨belowK_b hn W l o o' hl ho hc hw, fun v hv => cell_kept hv (grownBy_putObj' W l o') (fun r e => by cases e; exact ⟨_, ho, hc⟩)⟩

set_option maxRecDepth 100000 in
set_option maxHeartbeats 4000000 in
theorem ahead_hit (st r sh : Nat) (c : ByteArray) (w : World) (hst : w.cell? ⟨st, 3, none⟩ = some (.map (some r))) (hm : OneMap w r c (.pointer (some ⟨sh, 0, none⟩)))
    (ge ne ce : Nat) (lpe : Option Addr) (hlpe : 0 < ne → lpe = some ⟨ge, 0, none⟩) (eid : Nat → ByteArray) (ecp est : Nat → Int) (bd : Nat → Option Addr) (bl bc : Nat → Nat) (hne : ne ≤ 1024)
    (he0 : w.cell? ⟨sh, 0, none⟩ = some (.slice lpe ne ce)) (he1 : w.cell? ⟨sh, 1, none⟩ = some (.map none))
    (hep : ∀ i, i < ne → PlAt w ge (i * 15) c (eid i) (ecp i) (est i) 7 (.slice (bd i) (bl i) (bc i)) false false)
    (gr nr cr : Nat) (lpr : Option Addr) (hlpr : 0 < nr → lpr = some ⟨gr, 0, none⟩) (fr : Nat → RecD) (hnr : nr ≤ 1024)
    (hr0 : w.cell? ⟨sh, 2, none⟩ = some (.slice lpr nr cr)) (hr1 : w.cell? ⟨sh, 3, none⟩ = some (.map none))
    (hrp : ∀ i, i < nr → PlAt w gr (i * 15) c (fr i).id (fr i).cp (fr i).st 5 (.slice none 0 0) (fr i).rm (!(fr i).rm))
    (gu nu cu : Nat) (lpu : Option Addr) (hlpu : 0 < nu → lpu = some ⟨gu, 0, none⟩) (fu : Nat → ByteArray × Int) (hnu : nu ≤ 1024)
    (hu0 : w.cell? ⟨sh, 6, none⟩ = some (.slice lpu nu cu)) (hu1 : w.cell? ⟨sh, 7, none⟩ = some (.map none))
    (huc0 : ∀ i, i < nu → w.cell? ⟨gu, i * 2, none⟩ = some (.string (fu i).1)) (huc1 : ∀ i, i < nu → w.cell? ⟨gu, i * 2 + 1, none⟩ = some (.int .i64 (fu i).2)) (hub : 0 < nu → ∃ cur fz, w.heap[gu]? = some (.cells cur 77 fz)) :
    Calls Yba.prog 16 #[.pointer (some ⟨st, 0, none⟩), .string c] w fun e w' => ∃ v, e = .returned v ∧
      w'.ownsRow w.heap.size 68 13 v ((upto (fun j => fu (nu - 1 - j)) nu).map (gU eid ecp est ne) ++ gR (upto (fun j => fr (nr - 1 - j)) nr)).length (rowCells c ((upto (fun j => fu (nu - 1 - j)) nu).map (gU eid ecp est ne) ++ gR (upto (fun j => fr (nr - 1 - j)) nr))) ∧
      (v = .slice none 0 0 ↔ (upto (fun j => fu (nu - 1 - j)) nu).map (gU eid ecp est ne) ++ gR (upto (fun j => fr (nr - 1 - j)) nr) = []) ∧ Below w.heap.size w w' := by
  have hshl : sh < w.heap.size := World.block_lt_of_cell? w _ he0
  have hstl : st < w.heap.size := World.block_lt_of_cell? w _ hst
  have hrl : r < w.heap.size := by obtain ⟨_, _, e⟩ := hm; exact (Array.getElem?_eq_some_iff.1 e).1
  have hb : ∀ o, Below w.heap.size w (w.alloc o).drew := fun o => ((Below.refl _ _).alloc (Nat.le_refl _) _).drew
  have hb2 : ∀ o o2, Below w.heap.size w ((w.alloc o).alloc o2).drew := fun o o2 => (((Below.refl _ _).alloc (Nat.le_refl _) _).alloc (by simp) _).drew
  have c1 : ∀ o, (w.alloc o).drew.cell? ⟨st, 3, none⟩ = some (.map (some r)) := fun o => ((hb o).cell (p := ⟨st, 3, none⟩) hstl).trans hst
  have c2 : ∀ o o2, ((w.alloc o).alloc o2).drew.cell? ⟨st, 3, none⟩ = some (.map (some r)) := fun o o2 => ((hb2 o o2).cell (p := ⟨st, 3, none⟩) hstl).trans hst
  have l1 : ∀ o, (Instr.lookup 87 (.map (some r)) (.string c) false).run Yba.prog (w.alloc o).drew = .ok (.pointer (some ⟨sh, 0, none⟩)) (w.alloc o).drew := fun o => look_hit (hm.below (hb o) hrl)
  have l2 : ∀ o o2, (Instr.lookup 87 (.map (some r)) (.string c) false).run Yba.prog ((w.alloc o).alloc o2).drew = .ok (.pointer (some ⟨sh, 0, none⟩)) ((w.alloc o).alloc o2).drew := fun o o2 => look_hit (hm.below (hb2 o o2) hrl)
  obtain ⟨i0, hi0, hz0, hz1, hz2⟩ := info_parts Yba.info68
  obtain ⟨L1, hL1⟩ : ∃ L, (upto (fun j => fu (nu - 1 - j)) nu).map (gU eid ecp est ne) = L := ⟨_, rfl⟩
  rw [hL1]
  obtain ⟨N, hN⟩ : ∃ N, w.heap.size = N := ⟨_, rfl⟩
  have HN : Hid (w.heap.size = N) := hN
  refine (callsIn_wide (n := 5)).1 ?_
  refine callsIn_of_wp_marks Yba.func16 rfl trivial ?_ rfl
  simp only [Yba.ntmps16, List.size_toArray, List.length_cons, List.length_nil, Nat.reduceAdd, Nat.reduceSub, Array.replicate_succ, Array.replicate_zero, List.push_toArray, List.append_toArray, List.nil_append, List.cons_append]
  gi_wp2
  refine wpIn_wide.2 ?_
  go_region
  clear l1 l2 c1 c2
  gi_wp2_with (refine ⟨trivial, ?_⟩; gi_at_call 21; refine (all21_in _ _ _).mono ?_; rintro e w' ⟨rfl, rfl⟩)
  obtain ⟨W0, HW0⟩ : ∃ u, Hid (u = ((((w.alloc (Obj.cells #[Value.string c] 9)).alloc (Obj.cells #[Value.pointer (some { block := sh, off := 0 })] 41)).alloc (Obj.cells #[Value.slice none 0 0] 98)).alloc (Obj.cells #[Value.pointer (some { block := sh, off := 6 })] 126)).drew) := ⟨_, rfl⟩
  rw [← HW0.out]
  have hsz : W0.heap.size = N + 4 := by rw [HW0.out]; simp [World.drew, HN.out]
  have hB0 : Below N w W0 := by rw [HW0.out]; exact (((((Below.refl _ _).alloc (by simp [HN.out]) _).alloc (by simp [HN.out]) _).alloc (by simp [HN.out]; omega) _).alloc (by simp [HN.out]; omega) _).drew
  have dr : ∀ {W : World} {B t v}, Boxed W B t v → Boxed W.drew B t v := fun h => h
  have bC : Boxed W0 N 9 (.string c) := by
    rw [HW0.out]; have := Boxed.new w 9 (.string c); rw [HN.out] at this; exact dr (((this.alloc _).alloc _).alloc _)
  have bS : Boxed W0 (N + 1) 41 (.pointer (some ⟨sh, 0, none⟩)) := by
    rw [HW0.out]; have := Boxed.new (w.alloc (Obj.cells #[Value.string c] 9)) 41 (.pointer (some ⟨sh, 0, none⟩)); rw [World.size_alloc, HN.out] at this; exact dr ((this.alloc _).alloc _)
  have bO : Boxed W0 (N + 1 + 1) 98 (.slice none 0 0) := by
    rw [HW0.out]; have := Boxed.new ((w.alloc (Obj.cells #[Value.string c] 9)).alloc (Obj.cells #[Value.pointer (some { block := sh, off := 0 })] 41)) 98 (.slice none 0 0); simp only [World.size_alloc, HN.out] at this; exact dr (this.alloc _)
  have bB : Boxed W0 (N + 1 + 1 + 1) 126 (.pointer (some ⟨sh, 6, none⟩)) := by
    rw [HW0.out]; have := Boxed.new (((w.alloc (Obj.cells #[Value.string c] 9)).alloc (Obj.cells #[Value.pointer (some { block := sh, off := 0 })] 41)).alloc (Obj.cells #[Value.slice none 0 0] 98)) 126 (.pointer (some ⟨sh, 6, none⟩)); simp only [World.size_alloc, HN.out] at this; exact dr this
  clear HW0 hb hb2 hN
  rw [HN.out] at hshl
  have kc : ∀ {W : World}, Below N w W → ∀ b o v, w.cell? ⟨b, o, none⟩ = some v → W.cell? ⟨b, o, none⟩ = some v := fun hB b o v h => (hB.cell (p := ⟨b, o, none⟩) (by rw [← HN.out]; exact World.block_lt_of_cell? w _ h)).trans h
  have hgu : 0 < nu → gu < N := fun h => by rw [← HN.out]; exact World.block_lt_of_cell? w _ (huc0 0 h)
  have hat : ∀ (x : ByteArray × Int) (W : World), Below N w W → Calls Yba.prog 22 #[.pointer (some ⟨sh, 0, none⟩), .agg #[.string x.1, .int .i64 x.2]] W fun e w' =>
      e = .returned (gotE c eid ecp est bd bl bc (getFrom eid ecp x.1 x.2 ne 0)) ∧ Below W.heap.size W w' := fun x W hB =>
    at_walk sh ge ne ce lpe hlpe c eid ecp est bd bl bc x.1 x.2 W hne (kc hB _ _ _ he0) (kc hB _ _ _ he1) (fun i hi => (hep i hi).below hB (by rw [← HN.out]; exact World.block_lt_of_cell? w _ (hep i hi).p0))
  refine wpIn_rangeFunc_ownH rfl (by decide) (gf := 29) (lb := #[.pointer (some ⟨N + 1 + 1 + 1, 0, none⟩)]) rfl trivial (enters_of Yba.func29 (by kernel_rfl) rfl)
    (unsent_stops 4 (N + 1 + 1 + 1) N sh gu nu cu lpu fu hnu hlpu hshl hgu W0 (by omega) (by omega) bB.cell (kc hB0 _ _ _ hu0) (kc hB0 _ _ _ hu1) (fun i hi => kc hB0 _ _ _ (huc0 i hi)) (fun i hi => kc hB0 _ _ _ (huc1 i hi)) (fun h => by obtain ⟨cur, fz, e⟩ := hub h; exact ⟨cur, fz, (hB0.block gu (hgu h)).trans e⟩))
    (kpB_t _ _) (kpB_b (by omega)) (Below.refl _ _) (fun _ => rfl)
    (fun (pre : List (ByteArray × Int)) W => (∃ v, Boxed W (N + 1 + 1) 98 v ∧ W.ownsRow N 68 13 v pre.length (rowCells c (pre.map (gU eid ecp est ne))) ∧ (v = .slice none 0 0 ↔ pre.map (gU eid ecp est ne) = [])) ∧ (Boxed W N 9 (.string c) ∧ Boxed W (N + 1) 41 (.pointer (some ⟨sh, 0, none⟩)) ∧ Boxed W (N + 1 + 1 + 1) 126 (.pointer (some ⟨sh, 6, none⟩))) ∧ Below N w W)
    (fun _ _ _ => False)
    (OwnFrom.and (Own.from (holdsRow_own N (N + 1 + 1) 98 68 13 (fun (pre : List (ByteArray × Int)) => pre.length) (fun (pre : List (ByteArray × Int)) => rowCells c (pre.map (gU eid ecp est ne))) (fun (pre : List (ByteArray × Int)) v => v = .slice none 0 0 ↔ pre.map (gU eid ecp est ne) = [])) _) (OwnFrom.and (OwnFrom.and (Own.from (boxed_own _ _ _) _) (OwnFrom.and (Own.from (boxed_own _ _ _) _) (Own.from (boxed_own _ _ _) _))) (ownFrom_below (by rw [HN.out]; exact Nat.le_refl _) (by omega))))
    (fun _ _ _ _ _ hs _ _ => hs)
    ⟨⟨_, bO, World.ownsRow_nil _ _ _ _, by simp⟩, ⟨bC, bS, bB⟩, hB0⟩
    (fun x a' W => ∃ Bx, N + 1 + 1 + 1 < Bx ∧ W.heap[Bx]? = some (.cells #[.string x.1, .int .i64 x.2] 62 (0, 0)) ∧ a' = { tmps := #[.pointer (some ⟨st, 0, none⟩), .string c, undef, .pointer (some ⟨N, 0, none⟩), .slice none 0 0, .pointer (some ⟨N + 1, 0, none⟩), .pointer (some ⟨N + 1 + 1, 0, none⟩), .pointer (some ⟨Bx, 0, none⟩), undef, undef, undef, .pointer (some ⟨st, 0, none⟩), .pointer (some ⟨st, 0, none⟩), .pointer (some ⟨st, 3, none⟩), .map (some r), .string c, .pointer (some ⟨sh, 0, none⟩), .pointer (some ⟨sh, 0, none⟩), .bool false, .pointer (some ⟨sh, 0, none⟩), .pointer (some ⟨sh, 0, none⟩), .pointer (some ⟨sh, 6, none⟩), .func (.func 29) #[] #[.pointer (some ⟨N + 1 + 1 + 1, 0, none⟩)], .agg #[.string x.1, .int .i64 x.2], .agg #[], undef, undef, undef, undef, undef, undef, undef, undef, undef, undef, undef, undef, undef, undef, undef, undef, undef, undef, undef, undef, undef, undef, undef, undef, undef, undef, undef, undef, undef, undef, undef, undef, undef, undef], defers := [] })
    (fun x a' _ X Y row hs hg hr => by obtain ⟨Bx, h1, h2, h3⟩ := hs; exact ⟨Bx, h1, blk_own Bx (fun (_ : Unit) => #[.string x.1, .int .i64 x.2]) 62 () X Y row h2 hg (fun r e => (hr r e).2), h3⟩)
    ?assign ?body ?done ?stop
  case assign =>
    rintro l pre x W K ⟨⟨v, hv, hrow, hnil⟩, ⟨bC1, bS1, bB1⟩, hB1⟩ hK
    unfold encU
    gi_wp2
    have hk : KpB N (N + 1 + 1 + 1) W (W.alloc (.cells #[.string x.1, .int .i64 x.2] 62)) := ⟨(Below.refl _ W).alloc (by have := hB1.size; rw [HN.out] at this; omega) _, fun u hu => by rw [bB1.cell] at hu; rw [← hu]; exact (bB1.alloc _).cell⟩
    exact hK _ _ ((KeepsOthers.alloc _ _).from _) hk ⟨⟨v, hv.alloc _, hrow.alloc _, hnil⟩, ⟨bC1.alloc _, bS1.alloc _, bB1.alloc _⟩, hB1.alloc (by have := hB1.size; rw [HN.out] at this; omega) _⟩ ⟨W.heap.size, bB1.lt, World.alloc_heap_new W _, rfl⟩
  case body =>
    rintro l pre x a' W hl ⟨rr, hrr⟩ ⟨⟨v, hv, hrow, hnil⟩, ⟨bC1, bS1, bB1⟩, hB1⟩ ⟨Bx, hBx, hX, rfl⟩ hlt
    obtain ⟨a0, a1, a2, p4, l4, k4, a5, a6, hgot, hgu1⟩ := got_form c eid ecp est bd bl bc ne x
    have ha := hat x W hB1
    rw [hgot] at ha
    have cS := bS1.cell
    have x0 : W.cell? ⟨Bx, 0, none⟩ = some (.string x.1) := by simp [World.cell?, hX]
    have x1 : W.cell? ⟨Bx, 1, none⟩ = some (.int .i64 x.2) := by simp [World.cell?, hX]
    have hsW : N ≤ W.heap.size := by rw [← HN.out]; exact hB1.size
    have hlen : pre.length + 1 ≤ 1024 := by omega
    gi_wp2_with (first | (refine ⟨trivial, ?_⟩; gi_at_call 22; refine (CallsIn.inRound l (callsIn_wide.2 ha)).mono ?_; rintro e w' ⟨rfl, hB22⟩; clear ha; have hvw : Boxed w' (N + 1 + 1) 98 v := (hB22.block _ hv.lt).trans hv; have hcw : Boxed w' N 9 (.string c) := (hB22.block _ bC1.lt).trans bC1; have hv1 := fun o => (hvw.alloc o).cell; have hc1 := fun o => (hcw.alloc o).cell) | (gi_at_builtin; refine wpListIn_append_own _ rfl _ _ 98 rfl N 68 i0 zeroE 13 144 Yba.underlying98 hi0 hz0 hz1 hz2 rfl (by decide) _ _ _ rfl (((ownsRow_below hB22 hrow).alloc _).alloc _) ⟨w'.heap.size + 1, 0, none⟩ 1 1 [.string c, .string a1, .int .i64 a2, .slice none 0 0, .slice none 0 0, .int .u64 0, .int .u64 a6, .bool false, .bool false, .int .u64 0, .int .i64 0, .pointer none, .bool true] rfl rfl (World.news_of_block (by have := heap_alloc_new (w'.alloc (.cells #[.string a0, .string a1, .int .i64 a2, .slice none 0 0, .slice p4 l4 k4, .int .u64 a5, .int .u64 a6, .bool false, .bool false, .int .u64 0, .int .i64 0, .pointer none, .bool false] 68)) (.cells #[.string c, .string a1, .int .i64 a2, .slice none 0 0, .slice none 0 0, .int .u64 0, .int .u64 a6, .bool false, .bool false, .int .u64 0, .int .i64 0, .pointer none, .bool true] 68); rw [World.size_alloc] at this; exact this)) (by simp [Value.oneCell']) (by unfold maxLen; omega) (by omega) (by have := hB22.size; simp; omega) ?_; intro v' w1 hown' hgrow _; obtain ⟨g', cap', rfl⟩ := ownsRow_succ hown'; obtain ⟨hv5, hv2, hr2, hk2, hb2⟩ := (hvw.alloc (.cells #[.string a0, .string a1, .int .i64 a2, .slice none 0 0, .slice p4 l4 k4, .int .u64 a5, .int .u64 a6, .bool false, .bool false, .int .u64 0, .int .i64 0, .pointer none, .bool false] 68)).appended (by decide) ((ownsRow_below hB22 hrow).alloc _) (by have := hB22.size; simp; omega) (by omega) hown' hgrow; have hc5 := hv5.cell; have hf5 := hv5.frozen))
    have hbs := fun (B t : Nat) (u : Value) (h : Boxed W B t u) (hte : t ≠ 68) (hne : B ≠ N + 1 + 1) => box_behind (v' := .slice (some ⟨g', 0, none⟩) (pre.length + 1) cap') ((show Boxed w' B t u from (hB22.block _ h.lt).trans h).alloc _) hte ((ownsRow_below hB22 hrow).alloc _) hgrow hne
    have bB2 := hbs _ _ _ bB1 (by decide) (by omega)
    have hBW : Below N W (w'.alloc (.cells #[.string a0, .string a1, .int .i64 a2, .slice none 0 0, .slice p4 l4 k4, .int .u64 a5, .int .u64 a6, .bool false, .bool false, .int .u64 0, .int .i64 0, .pointer none, .bool false] 68)) := (hB22.mono hsW).alloc (by have := hB22.size; omega) _
    exact ⟨((keeps_below hB22).trans ((KeepsOthers.alloc _ _).trans hk2)).from _, ⟨hBW.trans hb2, fun u hu => by rw [bB1.cell] at hu; rw [← hu]; exact bB2.cell⟩,
      ⟨_, hv2, by rw [List.map_append, List.map_singleton, rowCells_snoc, hgu1, List.length_append]; exact hr2, by simp⟩, ⟨hbs _ _ _ bC1 (by decide) (by omega), hbs _ _ _ bS1 (by decide) (by omega), bB2⟩, hB1.trans (hBW.trans hb2)⟩
  case done =>
    rintro D ys W hD rfl ⟨⟨v, hv, hrow, hnil⟩, ⟨bC1, bS1, bB1⟩, hB1⟩ hK
    rw [hL1] at hrow hnil
    rw [upto_length] at hrow
    have hLl : L1.length = nu := by rw [← hL1, List.length_map, upto_length]
    rw [← hLl] at hrow hnu
    clear hL1 hLl
    have cS := bS1.cell
    have hDW : D < W.heap.size := (Array.getElem?_eq_some_iff.1 hK).1
    have hNW : N ≤ W.heap.size := by rw [← HN.out]; exact hB1.size
    obtain ⟨H, hH⟩ : ∃ H, W.heap.size = H := ⟨_, rfl⟩
    gi_wp2_with (refine ⟨trivial, ?_⟩; gi_at_call 23; refine (all23_in _ _ _).mono ?_; rintro e w' ⟨rfl, rfl⟩)
    clear hat hub huc0 huc1 hgu hu0 hu1 hep he0 he1 bC bS bO bB
    have hgr : 0 < nr → gr < N := fun h => by rw [← HN.out]; exact World.block_lt_of_cell? w _ (hrp 0 h).p0
    have bN := Boxed.new W 130 (.pointer (some ⟨sh, 2, none⟩))
    rw [hH] at bN
    have hBN : Below N w (W.alloc (.cells #[.pointer (some ⟨sh, 2, none⟩)] 130)) := hB1.alloc hNW _
    have hsz1 : (W.alloc (.cells #[.pointer (some ⟨sh, 2, none⟩)] 130)).heap.size = H + 1 := by rw [World.size_alloc, hH]
    have hvA := hv.alloc (.cells #[.pointer (some ⟨sh, 2, none⟩)] 130)
    have hrowA := hrow.alloc (.cells #[.pointer (some ⟨sh, 2, none⟩)] 130)
    have bCA := bC1.alloc (.cells #[.pointer (some ⟨sh, 2, none⟩)] 130)
    have hDA : (W.alloc (.cells #[.pointer (some ⟨sh, 2, none⟩)] 130)).heap[D]? = some (.deferred (some [])) := (Below.heap_alloc W _ D hDW).trans hK
    have hN0 : N + 4 ≤ H := by have := hsz; omega
    obtain ⟨W1, HW1⟩ : ∃ u, Hid (W.alloc (.cells #[.pointer (some ⟨sh, 2, none⟩)] 130) = u) := ⟨_, rfl⟩
    rw [HW1.out] at bN hBN hsz1 hvA hrowA bCA hDA
    rw [HW1.out]
    rw [hH] at hDW
    clear HW1 hv hrow bC1 bS1 bB1 hB1 hK cS hNW hH hB0
    refine wpIn_rangeFunc_ownH rfl (by decide) (gf := 31) (lb := #[.pointer (some ⟨H, 0, none⟩)]) rfl trivial (enters_of Yba.func31 (by kernel_rfl) rfl)
      (recs_stops 4 H N sh gr nr cr lpr c fr hnr hlpr hshl hgr W1 (by omega) (by omega) bN.cell (kc hBN _ _ _ hr0) (kc hBN _ _ _ hr1) (fun i hi => (hrp i hi).below hBN (hgr (by omega))))
      (kpB_t _ _) (kpB_b (by omega)) (Below.refl _ _) (fun _ => rfl)
      (fun (pre : List RecD) W => (∃ v, Boxed W (N + 1 + 1) 98 v ∧ W.ownsRow N 68 13 v (L1.length + (gR pre).length) (rowCells c L1 ++ rowCells c (gR pre)) ∧ (v = .slice none 0 0 ↔ L1 = [] ∧ gR pre = [])) ∧ (Boxed W N 9 (.string c) ∧ Boxed W H 130 (.pointer (some ⟨sh, 2, none⟩)) ∧ W.heap[D]? = some (.deferred (some []))) ∧ Below N w W)
      (fun _ _ _ => False)
      (OwnFrom.and (Own.from (holdsRow_own N (N + 1 + 1) 98 68 13 (fun (pre : List RecD) => L1.length + (gR pre).length) (fun (pre : List RecD) => rowCells c L1 ++ rowCells c (gR pre)) (fun (pre : List RecD) v => v = .slice none 0 0 ↔ L1 = [] ∧ gR pre = [])) _) (OwnFrom.and (OwnFrom.and (Own.from (boxed_own _ _ _) _) (OwnFrom.and (Own.from (boxed_own _ _ _) _) (fun s X Y row hs hg hr => (hg.block D (Array.getElem?_eq_some_iff.1 hs).1 (fun e => by have := (hr D e.symm).1; omega)).trans hs))) (ownFrom_below (by rw [HN.out]; exact Nat.le_refl _) (by omega))))
      (fun _ _ _ _ _ hs _ _ => hs)
      ⟨⟨_, hvA, by simpa [gR, rowCells] using hrowA, by simpa [gR] using hnil⟩, ⟨bCA, bN, hDA⟩, hBN⟩
      (fun x a' W => ∃ Bx, H < Bx ∧ W.heap[Bx]? = some (.cells #[.string c, .string x.id, .int .i64 x.cp, .slice none 0 0, .slice none 0 0, .int .u64 5, .int .u64 x.st, .bool x.rm, .bool (!x.rm), .int .u64 0, .int .i64 0, .pointer none, .bool false] 68 (0, 0)) ∧ a' = { tmps := #[.pointer (some ⟨st, 0, none⟩), .string c, undef, .pointer (some ⟨N, 0, none⟩), .slice none 0 0, .pointer (some ⟨N + 1, 0, none⟩), .pointer (some ⟨N + 1 + 1, 0, none⟩), undef, undef, undef, .pointer (some ⟨Bx, 0, none⟩), .pointer (some ⟨st, 0, none⟩), .pointer (some ⟨st, 0, none⟩), .pointer (some ⟨st, 3, none⟩), .map (some r), .string c, .pointer (some ⟨sh, 0, none⟩), .pointer (some ⟨sh, 0, none⟩), .bool false, .pointer (some ⟨sh, 0, none⟩), .pointer (some ⟨sh, 0, none⟩), .pointer (some ⟨sh, 6, none⟩), .func (.func 29) #[] #[.pointer (some ⟨N + 1 + 1 + 1, 0, none⟩)], undef, undef, undef, undef, undef, undef, undef, undef, undef, undef, undef, undef, undef, undef, undef, undef, .pointer (some ⟨sh, 0, none⟩), .pointer (some ⟨sh, 0, none⟩), .pointer (some ⟨sh, 2, none⟩), .func (.func 31) #[] #[.pointer (some ⟨H, 0, none⟩)], .agg #[.string x.id, .int .i64 x.cp], entV c x.id x.cp x.st 5 (.slice none 0 0) x.rm (!x.rm), undef, undef, undef, undef, undef, undef, undef, undef, undef, undef, undef, undef, undef, undef], defers := [] })
      (fun x a' _ X Y row hs hg hr => by obtain ⟨Bx, h1, h2, h3⟩ := hs; exact ⟨Bx, h1, blk_own Bx (fun (_ : Unit) => #[.string c, .string x.id, .int .i64 x.cp, .slice none 0 0, .slice none 0 0, .int .u64 5, .int .u64 x.st, .bool x.rm, .bool (!x.rm), .int .u64 0, .int .i64 0, .pointer none, .bool false]) 68 () X Y row h2 hg (fun r e => (hr r e).2), h3⟩)
      ?assign2 ?body2 ?done2 ?stop2
    case assign2 =>
      rintro l pre x W K ⟨⟨v, hv, hrow, hnil⟩, ⟨bC1, bB1, hD1⟩, hB1⟩ hK
      have hsW : N ≤ W.heap.size := by rw [← HN.out]; exact hB1.size
      unfold encR entV
      gi_wp2
      have hk : KpB N H W (W.alloc (.cells #[.string c, .string x.id, .int .i64 x.cp, .slice none 0 0, .slice none 0 0, .int .u64 5, .int .u64 x.st, .bool x.rm, .bool (!x.rm), .int .u64 0, .int .i64 0, .pointer none, .bool false] 68)) := ⟨(Below.refl _ W).alloc hsW _, fun u hu => by rw [bB1.cell] at hu; rw [← hu]; exact (bB1.alloc _).cell⟩
      exact hK _ _ ((KeepsOthers.alloc _ _).from _) hk ⟨⟨v, hv.alloc _, hrow.alloc _, hnil⟩, ⟨bC1.alloc _, bB1.alloc _, (Below.heap_alloc W _ D (Array.getElem?_eq_some_iff.1 hD1).1).trans hD1⟩, hB1.alloc hsW _⟩ ⟨W.heap.size, bB1.lt, World.alloc_heap_new W _, rfl⟩
    case body2 =>
      rintro l pre x a' W hl ⟨rr, hrr⟩ ⟨⟨v, hv, hrow, hnil⟩, ⟨bC1, bB1, hD1⟩, hB1⟩ ⟨Bx, hBx, hX, rfl⟩ hlt
      have hsW : N ≤ W.heap.size := by rw [← HN.out]; exact hB1.size
      have hgl : (gR pre).length ≤ pre.length := by unfold gR; rw [List.length_map]; exact List.length_filter_le _ _
      have hlen : L1.length + (gR pre).length + 1 ≤ 2048 := by omega
      obtain ⟨xid, xcp, xst, xrm⟩ := x
      have x7 : W.cell? ⟨Bx, 7, none⟩ = some (.bool xrm) := by simp [World.cell?, hX]
      have x1 : W.cell? ⟨Bx, 1, none⟩ = some (.string xid) := by simp [World.cell?, hX]
      have x2 : W.cell? ⟨Bx, 2, none⟩ = some (.int .i64 xcp) := by simp [World.cell?, hX]
      have x6 : W.cell? ⟨Bx, 6, none⟩ = some (.int .u64 xst) := by simp [World.cell?, hX]
      have cv := hv.cell
      have cc := bC1.cell
      clear hX
      cases xrm with
      | false =>
        gi_wp2
        exact ⟨KeepsFrom.refl _ _, KpB.refl _ _ _, ⟨v, hv, by rw [gR_miss pre rfl]; exact hrow, by rw [gR_miss pre rfl]; exact hnil⟩, ⟨bC1, bB1, hD1⟩, hB1⟩
      | true =>
        gi_wp2_with (gi_at_builtin; refine wpListIn_append_own _ rfl _ _ 98 rfl N 68 i0 zeroE 13 144 Yba.underlying98 hi0 hz0 hz1 hz2 rfl (by decide) _ _ _ rfl (hrow.alloc _) ⟨W.heap.size, 0, none⟩ 1 1 [.string c, .string xid, .int .i64 xcp, .slice none 0 0, .slice none 0 0, .int .u64 0, .int .u64 xst, .bool true, .bool false, .int .u64 0, .int .i64 0, .pointer none, .bool false] rfl rfl (World.news_of_block (heap_alloc_new W (.cells #[.string c, .string xid, .int .i64 xcp, .slice none 0 0, .slice none 0 0, .int .u64 0, .int .u64 xst, .bool true, .bool false, .int .u64 0, .int .i64 0, .pointer none, .bool false] 68))) (by simp [Value.oneCell']) (by unfold maxLen; omega) (by omega) (by simp; omega) ?_; intro v' w1 hown' hgrow _; obtain ⟨g', cap', rfl⟩ := ownsRow_succ hown'; obtain ⟨hv5, hv2, hr2, hk2, hb2⟩ := hv.appended (by decide) hrow hsW (by omega) hown' hgrow; have hc5 := hv5.cell; have hf5 := hv5.frozen)
        have hbs := fun (B t : Nat) (u : Value) (h : Boxed W B t u) (hte : t ≠ 68) (hne : B ≠ N + 1 + 1) => box_behind (v' := .slice (some ⟨g', 0, none⟩) (L1.length + (gR pre).length + 1) cap') h hte hrow hgrow hne
        have bB2 := hbs _ _ _ bB1 (by decide) (by omega)
        exact ⟨hk2.from _, ⟨hb2, fun u hu => by rw [bB1.cell] at hu; rw [← hu]; exact bB2.cell⟩,
          ⟨_, hv2, by rw [gR_hit pre rfl, rowCells_snoc, List.length_append, ← Nat.add_assoc, ← List.append_assoc]; exact hr2, by rw [gR_hit pre rfl]; simp⟩, ⟨hbs _ _ _ bC1 (by decide) (by omega), bB2, hk2.same D _ hD1 rfl⟩, hB1.trans hb2⟩
    case done2 =>
      rintro D2 ys W2 hD2 rfl ⟨⟨v, hv, hrow, hnil⟩, ⟨bC1, bB1, hD1⟩, hB1⟩ hK2
      have cv := hv.cell
      gi_wp2
      have hDD : D ≠ D2 := by omega
      refine ⟨by simp, .inl ⟨_, _, rfl, run_takeDeferred hK2, ?_⟩⟩
      have hK1 : (W2.putObj D2 (.deferred none)).heap[D]? = some (.deferred (some [])) := (World.putObj_heap_other hDD).trans hD1
      refine ⟨by simp, .inl ⟨_, _, rfl, run_takeDeferred hK1, ?_⟩⟩
      have hNw : N ≤ w.heap.size := by rw [HN.out]; exact Nat.le_refl _
      have hNw2 : w.heap.size ≤ N := by rw [HN.out]; exact Nat.le_refl _
      exact ⟨_, results_tmp rfl _ _ _, v, rfl, by rw [HN.out, List.length_append, rowCells_append]; exact ownsRow_putObj (ownsRow_putObj hrow _ hK2 rfl) _ hK1 rfl, by simpa using hnil,
        by rw [HN.out]; exact (hB1.trans (belowK_b (w := w) hNw W2 D2 _ _ (by omega) hK2 rfl rfl)).trans (belowK_b (w := w) hNw _ D _ _ (by omega) hK1 rfl rfl)⟩
    case stop2 =>
      rintro D c pre W _ _ h _
      exact h.elim
  case stop =>
    rintro D c pre W _ _ h _
    exact h.elim
end Go.Proofs.Ybulkdfja
