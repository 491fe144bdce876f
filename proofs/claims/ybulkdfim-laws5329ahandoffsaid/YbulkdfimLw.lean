/-
  handOff on the state 'Lw'.
-/
import Derived.Test.YbulkdfimMem
namespace Go.Proofs.Ybulkdfim
open Go.RowKit Go.Conc
set_option linter.unusedVariables false

theorem below_set {B : Nat} {a w : World} (h : Below B a w) {b o : Nat} (hb : B ≤ b) (v : Value) : Below B a (w.setCell ⟨b, o, none⟩ v) := h.setCell (p := ⟨b, o, none⟩) hb v

theorem lw_none (N n k : Nat) (z : Nat → Int) (st h : Int) (W : World) (hL : Lw W N n k z st h) (hk : ¬ k < n) :
    Calls Yba.prog 7 #[.pointer (some ⟨N, 0, none⟩)] W fun e w' => e = .returned (.bool false) ∧ Lw w' N n k z st h ∧ Below N W w' := by
  have m9 := hL.m9
  rw [if_neg hk] at m9
  refine (ho_none N W hL.m7 (hL.free _ _ (Nat.le_refl _)) m9).mono ?_
  rintro e w' ⟨rfl, rfl⟩
  have s7 : (W.cell? ⟨N, 7, none⟩).isSome = true := by rw [hL.m7]; rfl
  have s7' : ((W.setCell ⟨N, 7, none⟩ (.int .i32 1)).cell? ⟨N, 7, none⟩).isSome = true := by rw [sam hL.m7]; rfl
  have C : ∀ b o, ((W.setCell ⟨N, 7, none⟩ (.int .i32 1)).setCell ⟨N, 7, none⟩ (.int .i32 0)).cell? ⟨b, o, none⟩ = if b = N ∧ o = 7 then some (.int .i32 0) else W.cell? ⟨b, o, none⟩ := by
    intro b o
    rw [ce s7', ce s7]
    by_cases e : b = N ∧ o = 7
    · rw [if_pos e, if_pos e]
    · rw [if_neg e, if_neg e, if_neg e]
  refine ⟨rfl, ⟨?_, ?_, ?_, ?_, ?_, ?_, ?_, ?_, ?_, ?_, ?_, ?_, ?_⟩, below_set (below_set (Below.refl _ _) (Nat.le_refl _) _) (Nat.le_refl _) _⟩
  · rw [C, if_neg (by omega)]; exact hL.m0
  · rw [C, if_neg (by omega)]; exact hL.m5
  · rw [C, if_neg (by omega)]; exact hL.m6
  · rw [C, if_pos (by omega)]
  · rw [C, if_neg (by omega)]; exact hL.m9
  · rw [C, if_neg (by omega)]; exact hL.m10
  · intro i hi; rw [C, if_neg (by omega)]; exact hL.ws i hi
  · intro i hi; rw [C, if_neg (by omega)]; exact hL.nx i hi
  · intro i hi; rw [C, if_neg (by omega)]; exact hL.pv i hi
  · intro i hi; rw [C, if_neg (by omega)]; exact hL.rd i hi
  · intro i hi; rw [C, if_neg (by omega)]; exact hL.sn i hi
  · intro i hi; rw [hs _ _ _ _ _ (by omega), hs _ _ _ _ _ (by omega)]; exact hL.ch i hi
  · intro b o hb; exact frs (frs (hL.free b o hb))

theorem lw_last (N n k : Nat) (z : Nat → Int) (st h : Int) (W : World) (hL : Lw W N n k z st h) (hk : k + 1 = n) :
    Calls Yba.prog 7 #[.pointer (some ⟨N, 0, none⟩)] W fun e w' => e = .returned (.bool true) ∧ Lw w' N n (k + 1) z ((st + 4294967288) % 4294967296) h ∧ Below N W w' := by
  have m9 := hL.m9
  rw [if_pos (by omega)] at m9
  have n0 := hL.nx k (by omega)
  rw [if_neg (by omega)] at n0
  have p0 := hL.pv k (by omega)
  rw [if_neg (by omega)] at p0
  have r0 := hL.rd k (by omega)
  have c0 := hL.ch k (by omega)
  rw [if_neg (by omega), if_neg (by omega)] at c0
  refine (ho_last N (N + 3 + 2 * k) (N + 2 + 2 * k) st _ 0 0 W (by omega) (by omega) (by omega) hL.m0 hL.m7 m9 hL.m10 n0 p0 r0 c0 (fun o => hL.free _ _ (Nat.le_refl _)) (fun o => hL.free _ _ (by omega))).mono ?_
  rintro e w' ⟨rfl, rfl⟩
  generalize hX : N + 3 + 2 * k = X at *
  generalize hC : N + 2 + 2 * k = Cc at *
  have is : ∀ {W : World} {b o b' o' : Nat} {v : Value}, (W.cell? ⟨b', o', none⟩).isSome = true → ((W.setCell ⟨b, o, none⟩ v).cell? ⟨b', o', none⟩).isSome = true := by
    intro W b o b' o' v hh
    obtain ⟨u, hu⟩ := Option.isSome_iff_exists.1 hh
    by_cases e : b = b' ∧ o = o'
    · obtain ⟨rfl, rfl⟩ := e; rw [sam hu]; rfl
    · rw [oth (by omega) hu]; rfl
  have i0 : (W.cell? ⟨N, 0, none⟩).isSome = true := by rw [hL.m0]; rfl
  have i7 : (W.cell? ⟨N, 7, none⟩).isSome = true := by rw [hL.m7]; rfl
  have i9 : (W.cell? ⟨N, 9, none⟩).isSome = true := by rw [m9]; rfl
  have i10 : (W.cell? ⟨N, 10, none⟩).isSome = true := by rw [hL.m10]; rfl
  have j0 : (W.cell? ⟨X, 0, none⟩).isSome = true := by rw [n0]; rfl
  have j1 : (W.cell? ⟨X, 1, none⟩).isSome = true := by rw [p0]; rfl
  have hCl : Cc < W.heap.size := by
    rcases Nat.lt_or_ge Cc W.heap.size with h' | h'
    · exact h'
    · rw [Array.getElem?_eq_none h'] at c0; simp at c0
  have C : ∀ b o, b ≠ Cc → ((((((((W.setCell ⟨N, 7, none⟩ (.int .i32 1)).setCell ⟨N, 9, none⟩ (.pointer none)).setCell ⟨N, 10, none⟩ (.pointer none)).setCell ⟨X, 0, none⟩ (.pointer none)).setCell ⟨X, 1, none⟩ (.pointer none)).setCell
        ⟨N, 0, none⟩ (.int .u32 ((st + 4294967288) % 4294967296))).setCell ⟨N, 7, none⟩ (.int .i32 0)).setChan Cc 1 #[.bool true] false (0 + 1) 0 false).cell? ⟨b, o, none⟩ =
      if b = N ∧ o = 7 then some (.int .i32 0) else if b = N ∧ o = 0 then some (.int .u32 ((st + 4294967288) % 4294967296)) else if b = X ∧ o = 1 then some (.pointer none) else if b = X ∧ o = 0 then some (.pointer none)
      else if b = N ∧ o = 10 then some (.pointer none) else if b = N ∧ o = 9 then some (.pointer none) else W.cell? ⟨b, o, none⟩ := by
    intro b o hb
    rw [chan_cell _ _ _ _ _ _ _ _ _ _ hb, ce (is (is (is (is (is (is i7)))))), ce (is (is (is (is (is i0))))), ce (is (is (is (is j1)))), ce (is (is (is j0))), ce (is (is i10)), ce (is i9), ce i7]
    by_cases e : b = N ∧ o = 7
    · rw [if_pos e, if_pos e]
    · rw [if_neg e, if_neg e, if_neg e]
  refine ⟨rfl, ⟨?_, ?_, ?_, ?_, ?_, ?_, ?_, ?_, ?_, ?_, ?_, ?_, ?_⟩, ?_⟩
  · rw [C _ _ (by omega), if_neg (by omega), if_pos (by omega)]
  · rw [C _ _ (by omega), if_neg (by omega), if_neg (by omega), if_neg (by omega), if_neg (by omega), if_neg (by omega), if_neg (by omega)]; exact hL.m5
  · rw [C _ _ (by omega), if_neg (by omega), if_neg (by omega), if_neg (by omega), if_neg (by omega), if_neg (by omega), if_neg (by omega)]; exact hL.m6
  · rw [C _ _ (by omega), if_pos (by omega)]
  · rw [C _ _ (by omega), if_neg (by omega), if_neg (by omega), if_neg (by omega), if_neg (by omega), if_neg (by omega), if_pos (by omega), if_neg (by omega)]
  · rw [C _ _ (by omega), if_neg (by omega), if_neg (by omega), if_neg (by omega), if_neg (by omega), if_pos (by omega), if_neg (by omega)]
  · intro i hi; rw [C _ _ (by omega), if_neg (by omega), if_neg (by omega), if_neg (by omega), if_neg (by omega), if_neg (by omega), if_neg (by omega)]; exact hL.ws i hi
  · intro i hi
    by_cases e : i = k
    · rw [C _ _ (by omega), if_neg (by omega), if_neg (by omega), if_neg (by omega), if_pos (by omega), if_neg (by omega)]
    · rw [C _ _ (by omega), if_neg (by omega), if_neg (by omega), if_neg (by omega), if_neg (by omega), if_neg (by omega), if_neg (by omega), hL.nx i hi, if_neg (by omega), if_neg (by omega)]
  · intro i hi
    by_cases e : i = k
    · rw [C _ _ (by omega), if_neg (by omega), if_neg (by omega), if_pos (by omega), if_neg (by omega)]
    · rw [C _ _ (by omega), if_neg (by omega), if_neg (by omega), if_neg (by omega), if_neg (by omega), if_neg (by omega), if_neg (by omega), hL.pv i hi, if_neg (by omega), if_neg (by omega)]
  · intro i hi; rw [C _ _ (by omega), if_neg (by omega), if_neg (by omega), if_neg (by omega), if_neg (by omega), if_neg (by omega), if_neg (by omega)]; exact hL.rd i hi
  · intro i hi; rw [C _ _ (by omega), if_neg (by omega), if_neg (by omega), if_neg (by omega), if_neg (by omega), if_neg (by omega), if_neg (by omega)]; exact hL.sn i hi
  · intro i hi
    rw [chan_heap _ _ _ _ _ _ _ _ _ (by simpa using hCl)]
    by_cases e : i = k
    · rw [if_pos (by omega), if_pos (by omega), if_pos (by omega)]
    · rw [if_neg (by omega), hs _ _ _ _ _ (by omega), hs _ _ _ _ _ (by omega), hs _ _ _ _ _ (by omega), hs _ _ _ _ _ (by omega), hs _ _ _ _ _ (by omega), hs _ _ _ _ _ (by omega), hs _ _ _ _ _ (by omega), hL.ch i hi]
      by_cases e' : i < k
      · rw [if_pos e', if_pos e', if_pos (by omega), if_pos (by omega)]
      · omega
  · intro b o hb
    exact chan_frozen _ _ _ _ _ _ _ _ _ _ (frs (frs (frs (frs (frs (frs (frs (hL.free b o hb))))))))
  · exact below_setChan (below_set (below_set (below_set (below_set (below_set (below_set (below_set (Below.refl _ _) (Nat.le_refl _) _) (Nat.le_refl _) _) (Nat.le_refl _) _) (by omega) _) (by omega) _) (Nat.le_refl _) _) (Nat.le_refl _) _) (by omega) _ _ _ _ _ _
theorem sdr (w : World) (p : Addr) (v : Value) : w.drew.setCell p v = (w.setCell p v).drew := rfl
theorem lw_next (N n k : Nat) (z : Nat → Int) (st h : Int) (W : World) (hL : Lw W N n k z st h) (hk : k + 1 < n) :
    Calls Yba.prog 7 #[.pointer (some ⟨N, 0, none⟩)] W fun e w' => e = .returned (.bool true) ∧ Lw w' N n (k + 1) z ((st + 4294967288) % 4294967296) (z (k + 1)) ∧ Below N W w' := by
  have m9 := hL.m9
  rw [if_pos (by omega)] at m9
  have n0 := hL.nx k (by omega)
  rw [if_pos (by omega)] at n0
  have p0 := hL.pv k (by omega)
  rw [if_neg (by omega)] at p0
  have r0 := hL.rd k (by omega)
  have q1 := hL.pv (k + 1) (by omega)
  have q3 := hL.sn (k + 1) (by omega)
  have c0 := hL.ch k (by omega)
  rw [if_neg (by omega), if_neg (by omega)] at c0
  refine (ho_next N (N + 3 + 2 * k) (N + 3 + 2 * (k + 1)) (N + 2 + 2 * k) st (z (k + 1)) h _ 0 0 W (by omega) (by omega) (by omega) (by omega) (by omega) (by omega) hL.m0 hL.m7 m9 hL.m5 q1 q3 n0 p0 r0 c0 (fun o => hL.free _ _ (Nat.le_refl _)) (fun o => hL.free _ _ (by omega)) (fun o => hL.free _ _ (by omega))).mono ?_
  rintro e w' ⟨rfl, rfl⟩
  have is : ∀ {W : World} {b o b' o' : Nat} {v : Value}, (W.cell? ⟨b', o', none⟩).isSome = true → ((W.setCell ⟨b, o, none⟩ v).cell? ⟨b', o', none⟩).isSome = true := by
    intro W b o b' o' v hh
    obtain ⟨u, hu⟩ := Option.isSome_iff_exists.1 hh
    by_cases e : b = b' ∧ o = o'
    · obtain ⟨rfl, rfl⟩ := e; rw [sam hu]; rfl
    · rw [oth (by omega) hu]; rfl
  have i0 : (W.cell? ⟨N, 0, none⟩).isSome = true := by rw [hL.m0]; rfl
  have i5 : (W.cell? ⟨N, 5, none⟩).isSome = true := by rw [hL.m5]; rfl
  have i7 : (W.cell? ⟨N, 7, none⟩).isSome = true := by rw [hL.m7]; rfl
  have i9 : (W.cell? ⟨N, 9, none⟩).isSome = true := by rw [m9]; rfl
  obtain ⟨X, hX⟩ : ∃ X, N + 3 + 2 * k = X := ⟨_, rfl⟩
  obtain ⟨Y, hY⟩ : ∃ Y, N + 3 + 2 * (k + 1) = Y := ⟨_, rfl⟩
  obtain ⟨Cc, hC⟩ : ∃ Cc, N + 2 + 2 * k = Cc := ⟨_, rfl⟩
  have j0 : (W.cell? ⟨X, 0, none⟩).isSome = true := by rw [← hX, n0]; rfl
  have j1 : (W.cell? ⟨X, 1, none⟩).isSome = true := by rw [← hX, p0]; rfl
  have l1 : (W.cell? ⟨Y, 1, none⟩).isSome = true := by rw [← hY, q1]; rfl
  have hCl : Cc < W.heap.size := by
    rw [← hC]
    rcases Nat.lt_or_ge (N + 2 + 2 * k) W.heap.size with h' | h'
    · exact h'
    · rw [Array.getElem?_eq_none h'] at c0; simp at c0
  have hw : ((((((((W.setCell ⟨N, 7, none⟩ (.int .i32 1)).setCell ⟨N, 9, none⟩ (.pointer (some ⟨N + 3 + 2 * (k + 1), 0, none⟩))).setCell ⟨N + 3 + 2 * (k + 1), 1, none⟩ (.pointer none)).setCell ⟨N + 3 + 2 * k, 0, none⟩ (.pointer none)).setCell ⟨N + 3 + 2 * k, 1, none⟩ (.pointer none)).drew.setCell
        ⟨N, 0, none⟩ (.int .u32 ((st + 4294967288) % 4294967296))).drew.setCell ⟨N, 5, none⟩ (.int .i64 (z (k + 1)))).setCell ⟨N, 7, none⟩ (.int .i32 0)).setChan (N + 2 + 2 * k) 1 #[.bool true] false (0 + 1) 0 false
      = ((((((((W.setCell ⟨N, 7, none⟩ (.int .i32 1)).setCell ⟨N, 9, none⟩ (.pointer (px N (k + 1)))).setCell ⟨Y, 1, none⟩ (.pointer none)).setCell ⟨X, 0, none⟩ (.pointer none)).setCell ⟨X, 1, none⟩ (.pointer none)).setCell
        ⟨N, 0, none⟩ (.int .u32 ((st + 4294967288) % 4294967296))).setCell ⟨N, 5, none⟩ (.int .i64 (z (k + 1)))).setCell ⟨N, 7, none⟩ (.int .i32 0)).drew.drew.setChan Cc 1 #[.bool true] false (0 + 1) 0 false := by
    subst hX hY hC; unfold px; simp only [sdr]
  rw [hw]
  clear hw
  have C : ∀ b o, b ≠ Cc → (((((((((W.setCell ⟨N, 7, none⟩ (.int .i32 1)).setCell ⟨N, 9, none⟩ (.pointer (px N (k + 1)))).setCell ⟨Y, 1, none⟩ (.pointer none)).setCell ⟨X, 0, none⟩ (.pointer none)).setCell ⟨X, 1, none⟩ (.pointer none)).setCell
        ⟨N, 0, none⟩ (.int .u32 ((st + 4294967288) % 4294967296))).setCell ⟨N, 5, none⟩ (.int .i64 (z (k + 1)))).setCell ⟨N, 7, none⟩ (.int .i32 0)).drew.drew.setChan Cc 1 #[.bool true] false (0 + 1) 0 false).cell? ⟨b, o, none⟩ =
      if b = N ∧ o = 7 then some (.int .i32 0) else if b = N ∧ o = 5 then some (.int .i64 (z (k + 1))) else if b = N ∧ o = 0 then some (.int .u32 ((st + 4294967288) % 4294967296)) else if b = X ∧ o = 1 then some (.pointer none) else if b = X ∧ o = 0 then some (.pointer none)
      else if b = Y ∧ o = 1 then some (.pointer none) else if b = N ∧ o = 9 then some (.pointer (px N (k + 1))) else W.cell? ⟨b, o, none⟩ := by
    intro b o hb
    rw [chan_cell _ _ _ _ _ _ _ _ _ _ hb, World.cell?_drew, World.cell?_drew, ce (is (is (is (is (is (is (is i7))))))), ce (is (is (is (is (is (is i5)))))), ce (is (is (is (is (is i0))))), ce (is (is (is (is j1)))), ce (is (is (is j0))), ce (is (is l1)), ce (is i9), ce i7]
    by_cases e : b = N ∧ o = 7
    · rw [if_pos e, if_pos e]
    · rw [if_neg e, if_neg e, if_neg e]
  refine ⟨rfl, ⟨?_, ?_, ?_, ?_, ?_, ?_, ?_, ?_, ?_, ?_, ?_, ?_, ?_⟩, ?_⟩
  · rw [C _ _ (by omega), if_neg (by omega), if_neg (by omega), if_pos (by omega)]
  · rw [C _ _ (by omega), if_neg (by omega), if_pos (by omega)]
  · rw [C _ _ (by omega), if_neg (by omega), if_neg (by omega), if_neg (by omega), if_neg (by omega), if_neg (by omega), if_neg (by omega), if_neg (by omega)]; exact hL.m6
  · rw [C _ _ (by omega), if_pos (by omega)]
  · rw [C _ _ (by omega), if_neg (by omega), if_neg (by omega), if_neg (by omega), if_neg (by omega), if_neg (by omega), if_neg (by omega), if_pos (by omega), if_pos (by omega)]
  · rw [C _ _ (by omega), if_neg (by omega), if_neg (by omega), if_neg (by omega), if_neg (by omega), if_neg (by omega), if_neg (by omega), if_neg (by omega), if_pos (by omega), hL.m10, if_pos (by omega)]
  · intro i hi; rw [C _ _ (by omega), if_neg (by omega), if_neg (by omega), if_neg (by omega), if_neg (by omega), if_neg (by omega), if_neg (by omega), if_neg (by omega)]; exact hL.ws i hi
  · intro i hi
    by_cases e : i = k
    · rw [C _ _ (by omega), if_neg (by omega), if_neg (by omega), if_neg (by omega), if_neg (by omega), if_pos (by omega), if_neg (by omega)]
    · rw [C _ _ (by omega), if_neg (by omega), if_neg (by omega), if_neg (by omega), if_neg (by omega), if_neg (by omega), if_neg (by omega), if_neg (by omega), hL.nx i hi]
      by_cases e' : k ≤ i ∧ i + 1 < n
      · rw [if_pos e', if_pos (by omega)]
      · rw [if_neg e', if_neg (by omega)]
  · intro i hi
    by_cases e : i = k
    · rw [C _ _ (by omega), if_neg (by omega), if_neg (by omega), if_neg (by omega), if_pos (by omega), if_neg (by omega)]
    · by_cases e2 : i = k + 1
      · rw [C _ _ (by omega), if_neg (by omega), if_neg (by omega), if_neg (by omega), if_neg (by omega), if_neg (by omega), if_pos (by omega), if_neg (by omega)]
      · rw [C _ _ (by omega), if_neg (by omega), if_neg (by omega), if_neg (by omega), if_neg (by omega), if_neg (by omega), if_neg (by omega), if_neg (by omega), hL.pv i hi]
        by_cases e' : k < i
        · rw [if_pos e', if_pos (by omega)]
        · rw [if_neg e', if_neg (by omega)]
  · intro i hi; rw [C _ _ (by omega), if_neg (by omega), if_neg (by omega), if_neg (by omega), if_neg (by omega), if_neg (by omega), if_neg (by omega), if_neg (by omega)]; exact hL.rd i hi
  · intro i hi; rw [C _ _ (by omega), if_neg (by omega), if_neg (by omega), if_neg (by omega), if_neg (by omega), if_neg (by omega), if_neg (by omega), if_neg (by omega)]; exact hL.sn i hi
  · intro i hi
    rw [chan_heap _ _ _ _ _ _ _ _ _ (by simpa using hCl)]
    by_cases e : i = k
    · rw [if_pos (by omega), if_pos (by omega), if_pos (by omega)]
    · rw [if_neg (by omega), hpd, hpd, hs _ _ _ _ _ (by omega), hs _ _ _ _ _ (by omega), hs _ _ _ _ _ (by omega), hs _ _ _ _ _ (by omega), hs _ _ _ _ _ (by omega), hs _ _ _ _ _ (by omega), hs _ _ _ _ _ (by omega), hs _ _ _ _ _ (by omega), hL.ch i hi]
      by_cases e' : i < k
      · rw [if_pos e', if_pos e', if_pos (by omega), if_pos (by omega)]
      · rw [if_neg e', if_neg e', if_neg (by omega), if_neg (by omega)]
  · intro b o hb
    exact chan_frozen _ _ _ _ _ _ _ _ _ _ (by rw [frd, frd]; exact frs (frs (frs (frs (frs (frs (frs (frs (hL.free b o hb)))))))))
  · exact below_setChan (below_set (below_set (below_set (below_set (below_set (below_set (below_set (below_set (Below.refl _ _) (Nat.le_refl _) _) (Nat.le_refl _) _) (by omega) _) (by omega) _) (by omega) _) (Nat.le_refl _) _) (Nat.le_refl _) _) (Nat.le_refl _) _).drew.drew (by omega) _ _ _ _ _ _
end Go.Proofs.Ybulkdfim
