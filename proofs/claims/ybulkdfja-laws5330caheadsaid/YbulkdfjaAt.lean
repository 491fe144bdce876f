/-
  (*shelf).at (22).
-/
import Derived.Test.YbulkdfjaGet
import Derived.Deep.RegionHeld3
import Derived.Deep.DrawnRows
import Derived.RangeFuncBox
import Derived.Deep.MidRow
namespace Go.Proofs.Ybulkdfja
open Go.RowKit
set_option linter.unusedVariables false
attribute [local go_sem ↓] Go.wp_at_zero Go.wp_at_succ

theorem results_cell1 {P : Program} {fn : Func} {p : Tmp} {ty : TypeId} (h : fn.results = #[.cell p ty]) (tmps : Array Value) (w : World) (b o : Nat) (cs : List Value) (d : TypeDesc)
    (hp : tmps.getD p undef = .pointer (some ⟨b, o, none⟩)) (hc : w.rangeAt b o cs) (hu : P.underlying ty = some d) (hd : d.isRow = true) (hi : (P.info? ty).map (·.size) = some cs.length) :
    (results fn tmps).run P w = .ok (.agg cs.toArray) w := by
  have hp' : tmps[p]?.getD undef = .pointer (some ⟨b, o, none⟩) := by simpa using hp
  simp [results, h, hp', asAddr, run_loadVar_mid w b o ty cs d hc hu hd hi]
theorem below_setCells {B : Nat} {a : World} (b : Nat) (hb : B ≤ b) : ∀ (vs : List Value) (o : Nat) (w : World), Below B a w → Below B a (w.setCells b o vs)
  | [], _, _, h => h
  | v :: r, o, w, h => below_setCells b hb r (o + 1) _ (h.setCell (p := ⟨b, o, none⟩) hb v)
theorem there_of_block {W : World} {b : Nat} {cs : Array Value} {t : TypeId} (h : W.heap[b]? = some (.cells cs t (0, 0))) : W.there b 0 cs.size := fun j hj => by
  simp [World.cell?, World.frozen?, h, hj]
theorem range_of_block {W : World} {b : Nat} {cs : List Value} {t : TypeId} {fr : Nat × Nat} (h : W.heap[b]? = some (.cells cs.toArray t fr)) : W.rangeAt b 0 cs := fun j v hv => by
  simp [World.cell?, h, hv]

/-- The thirteen cells of a zero Entry. -/
def Zero13 (W : World) (b : Nat) : Prop := W.cell? ⟨b, 0, none⟩ = some (Value.string { data := #[] }) ∧ W.cell? ⟨b, 1, none⟩ = some (Value.string { data := #[] }) ∧ W.cell? ⟨b, 2, none⟩ = some (Value.int IntKind.i64 0) ∧ W.cell? ⟨b, 3, none⟩ = some (Value.slice none 0 0) ∧
  W.cell? ⟨b, 4, none⟩ = some (Value.slice none 0 0) ∧ W.cell? ⟨b, 5, none⟩ = some (Value.int IntKind.u64 0) ∧ W.cell? ⟨b, 6, none⟩ = some (Value.int IntKind.u64 0) ∧ W.cell? ⟨b, 7, none⟩ = some (Value.bool false) ∧ W.cell? ⟨b, 8, none⟩ = some (Value.bool false) ∧
  W.cell? ⟨b, 9, none⟩ = some (Value.int IntKind.u64 0) ∧ W.cell? ⟨b, 10, none⟩ = some (Value.int IntKind.i64 0) ∧ W.cell? ⟨b, 11, none⟩ = some (Value.pointer none) ∧ W.cell? ⟨b, 12, none⟩ = some (Value.bool false) ∧ ∀ o, W.frozen? ⟨b, o, none⟩ = false
theorem Zero13.of {W : World} {b : Nat} (h : W.heap[b]? = some (Obj.cells #[Value.string { data := #[] }, Value.string { data := #[] }, Value.int IntKind.i64 0, Value.slice none 0 0, Value.slice none 0 0, Value.int IntKind.u64 0, Value.int IntKind.u64 0, Value.bool false, Value.bool false, Value.int IntKind.u64 0, Value.int IntKind.i64 0, Value.pointer none, Value.bool false] 68)) : Zero13 W b := by
  refine ⟨?_, ?_, ?_, ?_, ?_, ?_, ?_, ?_, ?_, ?_, ?_, ?_, ?_, fun o => ?_⟩ <;> simp [World.cell?, World.frozen?, h]

set_option maxRecDepth 100000 in
set_option maxHeartbeats 4000000 in
theorem at_walk (sh g n cap : Nat) (lp : Option Addr) (hlp : 0 < n → lp = some ⟨g, 0, none⟩) (c : ByteArray) (eid : Nat → ByteArray) (ecp est : Nat → Int) (bd : Nat → Option Addr) (bl bc : Nat → Nat) (id : ByteArray) (cp : Int) (w : World) (hn : n ≤ 1024)
    (hs0 : w.cell? ⟨sh, 0, none⟩ = some (.slice lp n cap)) (hs1 : w.cell? ⟨sh, 1, none⟩ = some (.map none))
    (hp : ∀ i, i < n → PlAt w g (i * 15) c (eid i) (ecp i) (est i) 7 (.slice (bd i) (bl i) (bc i)) false false) :
    Calls Yba.prog 22 #[.pointer (some ⟨sh, 0, none⟩), .agg #[.string id, .int .i64 cp]] w fun e w' =>
      e = .returned (gotE c eid ecp est bd bl bc (getFrom eid ecp id cp n 0)) ∧ Below w.heap.size w w' := by
  obtain ⟨r, hr⟩ : ∃ r, getFrom eid ecp id cp n 0 = r := ⟨_, rfl⟩
  have hget : ∀ W, Below w.heap.size w W → Calls Yba.prog 30 #[.pointer (some ⟨sh, 0, none⟩), .agg #[.string id, .int .i64 cp]] W fun e w' =>
      e = .returned (.tuple #[gotE c eid ecp est bd bl bc r, .bool r.isSome]) ∧ Below W.heap.size W w' := by
    intro W hW
    have hk : ∀ b o v, w.cell? ⟨b, o, none⟩ = some v → W.cell? ⟨b, o, none⟩ = some v := fun b o v h => (hW.cell (p := ⟨b, o, none⟩) (World.block_lt_of_cell? w _ h)).trans h
    have := get_walk sh g n cap lp hlp c eid ecp est bd bl bc id cp W hn (hk _ _ _ hs0) (hk _ _ _ hs1) (fun i hi => by
      have P := hp i hi
      exact ⟨hk _ _ _ P.p0, hk _ _ _ P.p1, hk _ _ _ P.p2, hk _ _ _ P.p3, hk _ _ _ P.p4, hk _ _ _ P.p5, hk _ _ _ P.p6, hk _ _ _ P.p7, hk _ _ _ P.p8, hk _ _ _ P.p9, hk _ _ _ P.p10, hk _ _ _ P.p11, hk _ _ _ P.p12, hk _ _ _ P.p13, hk _ _ _ P.p14⟩)
    rwa [hr] at this
  obtain ⟨a0, a1, a2, p4, l4, k4, a5, a6, hv⟩ : ∃ a0 a1 a2 p4 l4 k4 a5 a6, gotE c eid ecp est bd bl bc r = .agg #[.string a0, .string a1, .int .i64 a2, .slice none 0 0, .slice p4 l4 k4, .int .u64 a5, .int .u64 a6, .bool false, .bool false, .int .u64 0, .int .i64 0, .pointer none, .bool false] := by
    cases r with
    | none => exact ⟨_, _, _, _, _, _, _, _, rfl⟩
    | some i => exact ⟨_, _, _, _, _, _, _, _, rfl⟩
  rw [hr]
  clear hp hs0 hs1 hr hlp
  rw [hv] at hget ⊢
  obtain ⟨N, hN⟩ : ∃ N, w.heap.size = N := ⟨_, rfl⟩
  have HN : Hid (w.heap.size = N) := hN
  go_enter Yba.func22, Yba.ntmps22
  go_wp2
  obtain ⟨W0, HW0⟩ : ∃ u, Hid (u = (w.alloc (Obj.cells #[Value.string id, Value.int IntKind.i64 cp] 62)).alloc (Obj.cells #[Value.string { data := #[] }, Value.string { data := #[] }, Value.int IntKind.i64 0, Value.slice none 0 0, Value.slice none 0 0, Value.int IntKind.u64 0, Value.int IntKind.u64 0, Value.bool false, Value.bool false, Value.int IntKind.u64 0, Value.int IntKind.i64 0, Value.pointer none, Value.bool false] 68)) := ⟨_, rfl⟩
  rw [← HW0.out]
  have hS : W0.heap.size = N + 2 := by rw [HW0.out]; simp [HN.out]
  have hB0 : Below N w W0 := by rw [HW0.out]; exact ((Below.refl _ _).alloc (by simp [HN.out]) _).alloc (by simp [HN.out]) _
  have hb0 : W0.heap[N]? = some (Obj.cells #[Value.string id, Value.int IntKind.i64 cp] 62) := by
    rw [HW0.out, Below.heap_alloc _ _ _ (by simp [HN.out])]
    have := World.alloc_heap_new w (Obj.cells #[Value.string id, Value.int IntKind.i64 cp] 62)
    rwa [HN.out] at this
  have hb1 : W0.heap[N + 1]? = some (Obj.cells #[Value.string { data := #[] }, Value.string { data := #[] }, Value.int IntKind.i64 0, Value.slice none 0 0, Value.slice none 0 0, Value.int IntKind.u64 0, Value.int IntKind.u64 0, Value.bool false, Value.bool false, Value.int IntKind.u64 0, Value.int IntKind.i64 0, Value.pointer none, Value.bool false] 68) := by
    rw [HW0.out]
    have := World.alloc_heap_new (w.alloc (Obj.cells #[Value.string id, Value.int IntKind.i64 cp] 62)) (Obj.cells #[Value.string { data := #[] }, Value.string { data := #[] }, Value.int IntKind.i64 0, Value.slice none 0 0, Value.slice none 0 0, Value.int IntKind.u64 0, Value.int IntKind.u64 0, Value.bool false, Value.bool false, Value.int IntKind.u64 0, Value.int IntKind.i64 0, Value.pointer none, Value.bool false] 68)
    rw [World.size_alloc, HN.out] at this
    exact this
  have k0 : W0.cell? ⟨N, 0, none⟩ = some (.string id) := by simp [World.cell?, hb0]
  have k1 : W0.cell? ⟨N, 1, none⟩ = some (.int .i64 cp) := by simp [World.cell?, hb0]
  have HB1 : Hid _ := hb1
  clear hb0 hb1 hN
  have kB : ∀ W, Below (N + 2) W0 W → W.cell? ⟨N, 0, none⟩ = some (.string id) ∧ W.cell? ⟨N, 1, none⟩ = some (.int .i64 cp) := fun W h => ⟨(h.cell (p := ⟨N, 0, none⟩) (by simp)).trans k0, (h.cell (p := ⟨N, 1, none⟩) (by simp)).trans k1⟩
  have kZ : ∀ W b, W.heap[b]? = some (Obj.cells #[Value.string { data := #[] }, Value.string { data := #[] }, Value.int IntKind.i64 0, Value.slice none 0 0, Value.slice none 0 0, Value.int IntKind.u64 0, Value.int IntKind.u64 0, Value.bool false, Value.bool false, Value.int IntKind.u64 0, Value.int IntKind.i64 0, Value.pointer none, Value.bool false] 68) → Zero13 W b := fun W b h => Zero13.of h
  have kA : ∀ w', Below W0.drew.heap.size W0.drew w' → (w'.cell? ⟨N, 0, none⟩ = some (.string id) ∧ w'.cell? ⟨N, 1, none⟩ = some (.int .i64 cp)) ∧ Below (N + 2) W0 w' := fun w' h => by
    have h2 : Below (N + 2) W0 w' := (Below.refl _ _).drew.trans (h.mono (by simp [hS]))
    exact ⟨kB _ h2, h2⟩
  have kC : ∀ w', Below (W0.alloc (Obj.cells #[Value.string { data := #[] }, Value.string { data := #[] }, Value.int IntKind.i64 0, Value.slice none 0 0, Value.slice none 0 0, Value.int IntKind.u64 0, Value.int IntKind.u64 0, Value.bool false, Value.bool false, Value.int IntKind.u64 0, Value.int IntKind.i64 0, Value.pointer none, Value.bool false] 68)).drew.heap.size (W0.alloc (Obj.cells #[Value.string { data := #[] }, Value.string { data := #[] }, Value.int IntKind.i64 0, Value.slice none 0 0, Value.slice none 0 0, Value.int IntKind.u64 0, Value.int IntKind.u64 0, Value.bool false, Value.bool false, Value.int IntKind.u64 0, Value.int IntKind.i64 0, Value.pointer none, Value.bool false] 68)).drew w' → ((w'.cell? ⟨N, 0, none⟩ = some (.string id) ∧ w'.cell? ⟨N, 1, none⟩ = some (.int .i64 cp)) ∧ Below (N + 2) W0 w') ∧ Zero13 w' (N + 2) ∧ Hid (w'.there (N + 2) 0 13) := fun w' h => by
    have h2 : Below (N + 2) W0 w' := ((Below.refl _ _).alloc (by simp [hS]) _).drew.trans (h.mono (by simp [hS]))
    suffices hx : w'.heap[N + 2]? = some (Obj.cells #[Value.string { data := #[] }, Value.string { data := #[] }, Value.int IntKind.i64 0, Value.slice none 0 0, Value.slice none 0 0, Value.int IntKind.u64 0, Value.int IntKind.u64 0, Value.bool false, Value.bool false, Value.int IntKind.u64 0, Value.int IntKind.i64 0, Value.pointer none, Value.bool false] 68) from ⟨⟨kB _ h2, h2⟩, kZ _ _ hx, there_of_block hx⟩
    rw [h.block (N + 2) (by simp [hS])]
    have := World.alloc_heap_new W0 (Obj.cells #[Value.string { data := #[] }, Value.string { data := #[] }, Value.int IntKind.i64 0, Value.slice none 0 0, Value.slice none 0 0, Value.int IntKind.u64 0, Value.int IntKind.u64 0, Value.bool false, Value.bool false, Value.int IntKind.u64 0, Value.int IntKind.i64 0, Value.pointer none, Value.bool false] 68)
    rw [hS] at this
    exact this
  have kU : ∀ W w', (W = W0.drew ∨ W = (W0.alloc (Obj.cells #[Value.string { data := #[] }, Value.string { data := #[] }, Value.int IntKind.i64 0, Value.slice none 0 0, Value.slice none 0 0, Value.int IntKind.u64 0, Value.int IntKind.u64 0, Value.bool false, Value.bool false, Value.int IntKind.u64 0, Value.int IntKind.i64 0, Value.pointer none, Value.bool false] 68)).drew) → Below W.heap.size W w' → ((w'.cell? ⟨N, 0, none⟩ = some (.string id) ∧ w'.cell? ⟨N, 1, none⟩ = some (.int .i64 cp)) ∧ Below (N + 2) W0 w') ∧ (W0.heap.size < W.heap.size → Zero13 w' (N + 2)) ∧ Hid (W0.heap.size < W.heap.size → w'.there (N + 2) 0 13) := by
    rintro W w' (rfl | rfl) h
    · exact ⟨kA _ h, fun h => absurd h (by simp), fun h => absurd h (by simp)⟩
    · exact ⟨(kC _ h).1, fun _ => (kC _ h).2.1, fun _ => (kC _ h).2.2⟩
  clear kB kZ kA kC
  go_region_held3 (fun w' => w'.cell? ⟨N, 0, none⟩ = some (.string id) ∧ w'.cell? ⟨N, 1, none⟩ = some (.int .i64 cp)) (go_keep)
    (first | (go_at_call 30; refine (hget _ ?_).mono ?_; (rw [HN.out]; repeat first | exact hB0 | refine Below.drew ?_ | refine Below.alloc ?_ (by simp [hS]) _); rintro e w' ⟨rfl, hB⟩; obtain ⟨⟨⟨s0, s1⟩, hB2⟩, hz, hth⟩ := kU _ _ (by first | exact .inl rfl | exact .inr rfl) hB; clear hB; have z0 := fun h => (hz h).1; have z1 := fun h => (hz h).2.1; have z2 := fun h => (hz h).2.2.1; have z3 := fun h => (hz h).2.2.2.1; have z4 := fun h => (hz h).2.2.2.2.1; have z5 := fun h => (hz h).2.2.2.2.2.1; have z6 := fun h => (hz h).2.2.2.2.2.2.1; have z7 := fun h => (hz h).2.2.2.2.2.2.2.1; have z8 := fun h => (hz h).2.2.2.2.2.2.2.2.1; have z9 := fun h => (hz h).2.2.2.2.2.2.2.2.2.1; have z10 := fun h => (hz h).2.2.2.2.2.2.2.2.2.2.1; have z11 := fun h => (hz h).2.2.2.2.2.2.2.2.2.2.2.1; have z12 := fun h => (hz h).2.2.2.2.2.2.2.2.2.2.2.2.1; have zf := fun h => (hz h).2.2.2.2.2.2.2.2.2.2.2.2.2; clear hz))
  · have hT : (w'.alloc (.cells #[.string a0, .string a1, .int .i64 a2, .slice none 0 0, .slice p4 l4 k4, .int .u64 a5, .int .u64 a6, .bool false, .bool false, .int .u64 0, .int .i64 0, .pointer none, .bool false] 68)).there (N + 1) 0 13 := by
      have := there_of_block ((Below.heap_alloc w' (.cells #[.string a0, .string a1, .int .i64 a2, .slice none 0 0, .slice p4 l4 k4, .int .u64 a5, .int .u64 a6, .bool false, .bool false, .int .u64 0, .int .i64 0, .pointer none, .bool false] 68) (N + 1) (by have := hB2.size; omega)).trans ((hB2.block (N + 1) (by simp)).trans HB1.out))
      exact this
    have hR : (w'.alloc (.cells #[.string a0, .string a1, .int .i64 a2, .slice none 0 0, .slice p4 l4 k4, .int .u64 a5, .int .u64 a6, .bool false, .bool false, .int .u64 0, .int .i64 0, .pointer none, .bool false] 68)).rangeAt w'.heap.size 0 [.string a0, .string a1, .int .i64 a2, .slice none 0 0, .slice p4 l4 k4, .int .u64 a5, .int .u64 a6, .bool false, .bool false, .int .u64 0, .int .i64 0, .pointer none, .bool false] := range_of_block (heap_alloc_new w' _)
    have hBB : Below N w (w'.alloc (.cells #[.string a0, .string a1, .int .i64 a2, .slice none 0 0, .slice p4 l4 k4, .int .u64 a5, .int .u64 a6, .bool false, .bool false, .int .u64 0, .int .i64 0, .pointer none, .bool false] 68)) := (hB0.trans (hB2.mono (by omega))).alloc (by have := hB2.size; omega) _
    clear hget s0 s1 z0 z1 z2 z3 z4 z5 z6 z7 z8 z9 z10 z11 z12 zf
    refine ‹∀ (a : Act) (w : World), Code.wp Yba.prog _ _ a w → _› _ _ ?_
    refine wp_seq (wp_region_lit ?_)
    refine wpList_load_mid rfl 68 _ rfl _ 0 rfl _ _ hR Yba.underlying68 rfl (by kernel_rfl) ?_
    refine wpList_store_mid rfl 68 _ _ rfl (N + 1) 0 _ rfl rfl hT (by kernel_rfl) (by simp [Value.oneCell']) ?_
    refine wpList_nil ?_
    go_wp2
    exact bodyPost_ret (results_cell1 rfl _ _ (N + 1) 0 _ _ rfl (World.rangeAt_setCells_same _ _ _ _ hT) Yba.underlying68 rfl (by kernel_rfl)) rfl ⟨rfl, by rw [HN.out]; exact below_setCells _ (by omega) _ _ _ hBB⟩
  · have hth := hth.out (by simp [hS])
    have hT : (w'.setCells (N + 2) 0 [.string a0, .string a1, .int .i64 a2, .slice none 0 0, .slice p4 l4 k4, .int .u64 a5, .int .u64 a6, .bool false, .bool false, .int .u64 0, .int .i64 0, .pointer none, .bool false]).there (N + 1) 0 13 := by
      have := there_of_block ((hB2.block (N + 1) (by simp)).trans HB1.out)
      exact World.there_setCells this _ _ _
    have hR : (w'.setCells (N + 2) 0 [.string a0, .string a1, .int .i64 a2, .slice none 0 0, .slice p4 l4 k4, .int .u64 a5, .int .u64 a6, .bool false, .bool false, .int .u64 0, .int .i64 0, .pointer none, .bool false]).rangeAt (N + 2) 0 [.string a0, .string a1, .int .i64 a2, .slice none 0 0, .slice p4 l4 k4, .int .u64 a5, .int .u64 a6, .bool false, .bool false, .int .u64 0, .int .i64 0, .pointer none, .bool false] := World.rangeAt_setCells_same _ _ _ _ hth
    have hBB : Below N w (w'.setCells (N + 2) 0 [.string a0, .string a1, .int .i64 a2, .slice none 0 0, .slice p4 l4 k4, .int .u64 a5, .int .u64 a6, .bool false, .bool false, .int .u64 0, .int .i64 0, .pointer none, .bool false]) := below_setCells _ (by omega) _ _ _ (hB0.trans (hB2.mono (by omega)))
    clear hget s0 s1 z0 z1 z2 z3 z4 z5 z6 z7 z8 z9 z10 z11 z12 zf
    refine ‹∀ (a : Act) (w : World), Code.wp Yba.prog _ _ a w → _› _ _ ?_
    refine wp_seq (wp_region_lit ?_)
    refine wpList_load_mid rfl 68 _ rfl _ 0 rfl _ _ hR Yba.underlying68 rfl (by kernel_rfl) ?_
    refine wpList_store_mid rfl 68 _ _ rfl (N + 1) 0 _ rfl rfl hT (by kernel_rfl) (by simp [Value.oneCell']) ?_
    refine wpList_nil ?_
    go_wp2
    exact bodyPost_ret (results_cell1 rfl _ _ (N + 1) 0 _ _ rfl (World.rangeAt_setCells_same _ _ _ _ hT) Yba.underlying68 rfl (by kernel_rfl)) rfl ⟨rfl, by rw [HN.out]; exact below_setCells _ (by omega) _ _ _ hBB⟩
end Go.Proofs.Ybulkdfja
