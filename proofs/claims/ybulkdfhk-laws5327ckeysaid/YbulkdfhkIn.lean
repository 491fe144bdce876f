/-
  (*poly1305).init (9).
-/
import Derived.Test.YbulkdfhkBin
import Derived.Deep.RegionHeld3
import Derived.Deep.DrawnRows
namespace Go.Proofs.Ybulkdfhk
open Go.RowKit
attribute [local go_sem ↓] Go.wp_at_zero Go.wp_at_succ

/-- The 32 bytes b lie in block G. -/
structure B32 (w : World) (G : Nat) (b : Nat → Int) : Prop where
  cell : ∀ i, i < 32 → w.cell? ⟨G, i, none⟩ = some (.int .u8 (b i))
theorem B32.next {w : World} {G : Nat} {b : Nat → Int} (h : B32 w G b) (o : Obj) (k : Nat) : B32 ((w.alloc o).drewN k) G b := ⟨fun i hi => cell_old o (h.cell i hi)⟩
theorem B32.drew {w : World} {G : Nat} {b : Nat → Int} (h : B32 w G b) : B32 w.drew G b := ⟨h.cell⟩
theorem get64at (G o n c : Nat) (b : Nat → Int) (w : World) (h : B32 w G b) (hb : ∀ i, 0 ≤ b i ∧ b i < 256) (ho : o + 8 ≤ 32) (hn : (8 : Int) ≤ n) :
    Calls Yba.prog 13 #[.agg #[], .slice (some ⟨G, o, none⟩) n c] w fun e w' => e = .returned (.int .u64 (le8 (b o) (b (o + 1)) (b (o + 2)) (b (o + 3)) (b (o + 4)) (b (o + 5)) (b (o + 6)) (b (o + 7)))) ∧ ∃ k, w' = (w.alloc (.cells #[] 50)).drewN k :=
  get64 G o n c _ _ _ _ _ _ _ _ w hn (hb _) (hb _) (hb _) (hb _) (hb _) (hb _) (hb _) (hb _) (h.cell _ (by omega)) (h.cell _ (by omega)) (h.cell _ (by omega)) (h.cell _ (by omega)) (h.cell _ (by omega)) (h.cell _ (by omega)) (h.cell _ (by omega)) (h.cell _ (by omega))

theorem new_cell {w : World} {X i : Nat} {v : Value} (h : w.cell? ⟨X, i, none⟩ = some v) (o : Obj) (k : Nat) : ((w.alloc o).drewN k).cell? ⟨X, i, none⟩ = some v := cell_old o h
theorem new_free {w : World} {X i : Nat} (h : w.frozen? ⟨X, i, none⟩ = false) (c : Array Value) (t : TypeId) (k : Nat) : ((w.alloc (.cells c t)).drewN k).frozen? ⟨X, i, none⟩ = false := (frozen?_alloc_cells w c t _).trans h

theorem b32set {W : World} {G M i : Nat} {b : Nat → Int} {v : Value} (h : B32 W G b) (hne : G ≠ M) : B32 (W.setCell ⟨M, i, none⟩ v) G b :=
  ⟨fun j hj => (World.cell?_setCell_other _ _ _ _ (fun e => hne (Addr.mk.inj e).1.symm)).trans (h.cell j hj)⟩
/-- What the region knows of its world: the bytes, the seven cells of the authenticator, and that nothing old has turned. -/
abbrev St (w : World) (G : Nat) (b : Nat → Int) (M : Nat) (m0 m1 m2 m3 m4 m5 m6 : Value) (W : World) : Prop := B32 W G b ∧ Kp [] w W ∧ W.cell? ⟨M, 0, none⟩ = some m0 ∧ W.cell? ⟨M, 1, none⟩ = some m1 ∧ W.cell? ⟨M, 2, none⟩ = some m2 ∧ W.cell? ⟨M, 3, none⟩ = some m3 ∧ W.cell? ⟨M, 4, none⟩ = some m4 ∧ W.cell? ⟨M, 5, none⟩ = some m5 ∧ W.cell? ⟨M, 6, none⟩ = some m6
      ∧ W.frozen? ⟨M, 0, none⟩ = false ∧ W.frozen? ⟨M, 1, none⟩ = false ∧ W.frozen? ⟨M, 2, none⟩ = false ∧ W.frozen? ⟨M, 3, none⟩ = false ∧ W.frozen? ⟨M, 4, none⟩ = false ∧ W.frozen? ⟨M, 5, none⟩ = false ∧ W.frozen? ⟨M, 6, none⟩ = false
theorem St.on {w W W' : World} {G : Nat} {b : Nat → Int} {M : Nat} {m0 m1 m2 m3 m4 m5 m6 : Value} (h : St w G b M m0 m1 m2 m3 m4 m5 m6 W) (k : Kp [] W W') : St w G b M m0 m1 m2 m3 m4 m5 m6 W' := by
  obtain ⟨h0, hk, h1, h2, h3, h4, h5, h6, h7, g0, g1, g2, g3, g4, g5, g6⟩ := h
  have l := lt_of_cell h1
  have c : ∀ i v, W.cell? ⟨M, i, none⟩ = some v → W'.cell? ⟨M, i, none⟩ = some v := fun i v e => (k.cell (p := ⟨M, i, none⟩) l (by simp)).trans e
  have f : ∀ i, W.frozen? ⟨M, i, none⟩ = false → W'.frozen? ⟨M, i, none⟩ = false := fun i e => (k.frozen (p := ⟨M, i, none⟩) l (by simp)).trans e
  exact ⟨⟨fun i hi => (k.cell (lt_of_cell (h0.cell i hi)) (by simp)).trans (h0.cell i hi)⟩, hk.trans k, c _ _ h1, c _ _ h2, c _ _ h3, c _ _ h4, c _ _ h5, c _ _ h6, c _ _ h7, f _ g0, f _ g1, f _ g2, f _ g3, f _ g4, f _ g5, f _ g6⟩
theorem get64st (G o n c : Nat) (b : Nat → Int) (w W : World) (M : Nat) (m0 m1 m2 m3 m4 m5 m6 : Value) (h : St w G b M m0 m1 m2 m3 m4 m5 m6 W) (hb : ∀ i, 0 ≤ b i ∧ b i < 256) (ho : o + 8 ≤ 32) (hn : (8 : Int) ≤ n) :
    Calls Yba.prog 13 #[.agg #[], .slice (some ⟨G, o, none⟩) n c] W fun e w' => e = .returned (.int .u64 (le8 (b o) (b (o + 1)) (b (o + 2)) (b (o + 3)) (b (o + 4)) (b (o + 5)) (b (o + 6)) (b (o + 7)))) ∧ St w G b M m0 m1 m2 m3 m4 m5 m6 w' := by
  refine (get64at G o n c b W h.1 hb ho hn).mono ?_
  rintro e w' ⟨rfl, k, rfl⟩
  exact ⟨rfl, St.on h (((Kp.refl _ _).alloc _).drewN _)⟩

/-- The seven cells of the authenticator. -/
structure Mac (w : World) (M : Nat) (x0 x1 x2 x3 x4 x5 x6 : Value) : Prop where
  c0 : w.cell? ⟨M, 0, none⟩ = some x0
  c1 : w.cell? ⟨M, 1, none⟩ = some x1
  c2 : w.cell? ⟨M, 2, none⟩ = some x2
  c3 : w.cell? ⟨M, 3, none⟩ = some x3
  c4 : w.cell? ⟨M, 4, none⟩ = some x4
  c5 : w.cell? ⟨M, 5, none⟩ = some x5
  c6 : w.cell? ⟨M, 6, none⟩ = some x6
def set7 (w : World) (M : Nat) (x0 x1 x2 x3 x4 x5 x6 : Value) : World :=
  ((((((w.setCell ⟨M, 0, none⟩ x0).setCell ⟨M, 1, none⟩ x1).setCell ⟨M, 2, none⟩ x2).setCell ⟨M, 3, none⟩ x3).setCell ⟨M, 4, none⟩ x4).setCell ⟨M, 5, none⟩ x5).setCell ⟨M, 6, none⟩ x6
theorem mac_set7 {w : World} {M : Nat} {m0 m1 m2 m3 m4 m5 m6 : Value} (h : Mac w M m0 m1 m2 m3 m4 m5 m6) (x0 x1 x2 x3 x4 x5 x6 : Value) : Mac (set7 w M x0 x1 x2 x3 x4 x5 x6) M x0 x1 x2 x3 x4 x5 x6 := by
  obtain ⟨h0, h1, h2, h3, h4, h5, h6⟩ := h
  have so : ∀ (W : World) (i j : Nat) (v u : Value), i ≠ j → W.cell? ⟨M, j, none⟩ = some u → (W.setCell ⟨M, i, none⟩ v).cell? ⟨M, j, none⟩ = some u := fun W i j v u hij e =>
    (World.cell?_setCell_other _ _ _ _ (fun hh => hij (Addr.mk.inj hh).2.1)).trans e
  have ss : ∀ (W : World) (i : Nat) (v u : Value), W.cell? ⟨M, i, none⟩ = some u → (W.setCell ⟨M, i, none⟩ v).cell? ⟨M, i, none⟩ = some v := fun W i v u e => World.cell?_setCell_same _ _ _ e
  unfold set7
  exact ⟨(so _ _ _ _ _ (by decide) (so _ _ _ _ _ (by decide) (so _ _ _ _ _ (by decide) (so _ _ _ _ _ (by decide) (so _ _ _ _ _ (by decide) (so _ _ _ _ _ (by decide) (ss _ _ _ _ h0))))))),
    (so _ _ _ _ _ (by decide) (so _ _ _ _ _ (by decide) (so _ _ _ _ _ (by decide) (so _ _ _ _ _ (by decide) (so _ _ _ _ _ (by decide) (ss _ _ _ _ (so _ _ _ _ _ (by decide) h1))))))),
    (so _ _ _ _ _ (by decide) (so _ _ _ _ _ (by decide) (so _ _ _ _ _ (by decide) (so _ _ _ _ _ (by decide) (ss _ _ _ _ (so _ _ _ _ _ (by decide) (so _ _ _ _ _ (by decide) h2))))))),
    (so _ _ _ _ _ (by decide) (so _ _ _ _ _ (by decide) (so _ _ _ _ _ (by decide) (ss _ _ _ _ (so _ _ _ _ _ (by decide) (so _ _ _ _ _ (by decide) (so _ _ _ _ _ (by decide) h3))))))),
    (so _ _ _ _ _ (by decide) (so _ _ _ _ _ (by decide) (ss _ _ _ _ (so _ _ _ _ _ (by decide) (so _ _ _ _ _ (by decide) (so _ _ _ _ _ (by decide) (so _ _ _ _ _ (by decide) h4))))))),
    (so _ _ _ _ _ (by decide) (ss _ _ _ _ (so _ _ _ _ _ (by decide) (so _ _ _ _ _ (by decide) (so _ _ _ _ _ (by decide) (so _ _ _ _ _ (by decide) (so _ _ _ _ _ (by decide) h5))))))),
    (ss _ _ _ _ (so _ _ _ _ _ (by decide) (so _ _ _ _ _ (by decide) (so _ _ _ _ _ (by decide) (so _ _ _ _ _ (by decide) (so _ _ _ _ _ (by decide) (so _ _ _ _ _ (by decide) h6)))))))⟩
theorem kp_set7 {w W : World} {M : Nat} (k : Kp [] w W) (x0 x1 x2 x3 x4 x5 x6 : Value) : Kp [M] w (set7 W M x0 x1 x2 x3 x4 x5 x6) := by
  have m : M ∈ [M] := by simp
  exact (((((((k.mono (T := [M]) (by simp)).setCell (p := ⟨M, 0, none⟩) m _).setCell (p := ⟨M, 1, none⟩) m _).setCell (p := ⟨M, 2, none⟩) m _).setCell (p := ⟨M, 3, none⟩) m _).setCell (p := ⟨M, 4, none⟩) m _).setCell (p := ⟨M, 5, none⟩) m _).setCell (p := ⟨M, 6, none⟩) m _
def keyR0 (b : Nat → Int) : Int := bits BinOp.and IntKind.u64 (le8 (b 0) (b 1) (b 2) (b 3) (b 4) (b 5) (b 6) (b 7)) 1152921487695413247
def keyR1 (b : Nat → Int) : Int := bits BinOp.and IntKind.u64 (le8 (b 8) (b 9) (b 10) (b 11) (b 12) (b 13) (b 14) (b 15)) 1152921487695413244
def keyS0 (b : Nat → Int) : Int := le8 (b 16) (b 17) (b 18) (b 19) (b 20) (b 21) (b 22) (b 23)
def keyS1 (b : Nat → Int) : Int := le8 (b 24) (b 25) (b 26) (b 27) (b 28) (b 29) (b 30) (b 31)

set_option maxRecDepth 100000 in
set_option maxHeartbeats 4000000 in
theorem init_any (G M : Nat) (b : Nat → Int) (m0 m1 m2 m3 m4 m5 m6 : Value) (w : World) (hb : ∀ i, 0 ≤ b i ∧ b i < 256) (hne : G ≠ M) (h0 : St w G b M m0 m1 m2 m3 m4 m5 m6 w) :
    Calls Yba.prog 9 #[.pointer (some ⟨M, 0, none⟩), .slice (some ⟨G, 0, none⟩) 32 64] w fun e w' => e = .returned (.tuple #[]) ∧ Mac w' M (.int .u64 0) (.int .u64 0) (.int .u64 0) (.int .u64 (keyR0 b)) (.int .u64 (keyR1 b)) (.int .u64 (keyS0 b)) (.int .u64 (keyS1 b)) ∧ Kp [M] w w' := by
  have h1 : St w G b M m0 m1 m2 m3 m4 m5 m6 w.drew := St.on h0 ((Kp.refl _ _).drew)
  clear h0
  go_enter Yba.func9, Yba.ntmps9
  go_wp2
  go_region_held3 (fun w' => B32 w' G b)
    (first | (with_reducible exact And.left ‹St w G b M m0 m1 m2 m3 m4 m5 m6 _›) | (refine b32set (b32set (b32set (b32set (b32set (b32set (b32set (And.left ‹St w G b M m0 m1 m2 m3 m4 m5 m6 _›) hne) hne) hne) hne) hne) hne) hne))
    (first | (go_at_call 13; refine (get64st G _ _ _ b w _ M m0 m1 m2 m3 m4 m5 m6 ?_ hb ?_ ?_).mono ?_; (with_reducible assumption); (omega); (omega); rintro e w' ⟨rfl, hst⟩))
  obtain ⟨_, hk, m0, m1, m2, m3, m4, m5, m6, _⟩ := hst
  go_end0
  exact ⟨rfl, mac_set7 ⟨m0, m1, m2, m3, m4, m5, m6⟩ _ _ _ _ _ _ _, kp_set7 hk _ _ _ _ _ _ _⟩
end Go.Proofs.Ybulkdfhk
