/-
  LawS5329AHandOff (3): the walks.
-/
import Derived.Test.YbulkdfimDr
namespace Go.Proofs.Ybulkdfim
open Go.RowKit Go.Conc
set_option linter.unusedVariables false

theorem still_all {P : Program} {id : Nat} {Q : Exit → Act → World → Prop} {a : Act} {w : World} {l : List Oper} (hm : P.follows .mixedOrders = true) (hB : Region.lexB .any l.toArray = true)
    (h : wpStill P l.toArray w.drew (fun a' => Q .normal a' w.drew) l a) : (Code.region id l.toArray true).wp P Q a w := wp_region_still_lit hm hB h

theorem lw_touch {N n k : Nat} {z : Nat → Int} {st h : Int} {W : World} (hL : Lw W N n k z st h) : Lw ((W.setCell ⟨N, 7, none⟩ (.int .i32 1)).setCell ⟨N, 7, none⟩ (.int .i32 0)) N n k z st h ∧ Below N W ((W.setCell ⟨N, 7, none⟩ (.int .i32 1)).setCell ⟨N, 7, none⟩ (.int .i32 0)) := by
  have s7 : (W.cell? ⟨N, 7, none⟩).isSome = true := by rw [hL.m7]; rfl
  have s7' : ((W.setCell ⟨N, 7, none⟩ (.int .i32 1)).cell? ⟨N, 7, none⟩).isSome = true := by rw [sam hL.m7]; rfl
  have C : ∀ b o, ((W.setCell ⟨N, 7, none⟩ (.int .i32 1)).setCell ⟨N, 7, none⟩ (.int .i32 0)).cell? ⟨b, o, none⟩ = if b = N ∧ o = 7 then some (.int .i32 0) else W.cell? ⟨b, o, none⟩ := by
    intro b o
    rw [ce s7', ce s7]
    by_cases e : b = N ∧ o = 7
    · rw [if_pos e, if_pos e]
    · rw [if_neg e, if_neg e, if_neg e]
  refine ⟨⟨?_, ?_, ?_, ?_, ?_, ?_, ?_, ?_, ?_, ?_, ?_, ?_, ?_⟩, below_set (below_set (Below.refl _ _) (Nat.le_refl _) _) (Nat.le_refl _) _⟩
  · rw [C, if_neg (by omega)]; exact hL.m0
  · rw [C, if_neg (by omega)]; exact hL.m5
  · rw [C, if_neg (by omega)]; exact hL.m6
  · rw [C, if_pos (by omega)]
  · rw [C, if_neg (by omega)]; exact hL.m9
  · rw [C, if_neg (by omega)]; exact hL.m10
  · intro i hi; rw [C, if_neg (by omega)]; exact hL.ws i hi
  · intro i hi; rw [C, if_neg (by omega)]; exact hL.nx i hi
  · intro i hi; rw [C, if_neg (by omega)]; exact hL.pv i hi
  · intro i hi; rw [C, if_neg (by omega)]; exact hL.rd i hi
  · intro i hi; rw [C, if_neg (by omega)]; exact hL.sn i hi
  · intro i hi; rw [hs _ _ _ _ _ (by omega), hs _ _ _ _ _ (by omega)]; exact hL.ch i hi
  · intro b o hb; exact frs (frs (hL.free b o hb))

set_option maxRecDepth 100000 in
theorem hand_long (a0 : Option Addr) (n cap : Nat) (low h0 : Int) (w : World) (hn : (1024 : Int) < n) :
    Calls Yba.prog 3 #[.slice a0 n cap, .int .u8 low, .int .i64 h0] w fun e w' => e = .returned (.bool true) ∧ Below w.heap.size w w' := by
  go_enter Yba.func3, Yba.ntmps3
  go_wp2
  go_ret
  exact ⟨rfl, Below.refl _ _⟩

set_option maxRecDepth 100000 in
set_option maxHeartbeats 4000000 in
theorem hand0 (a0 : Option Addr) (n cap : Nat) (z : Nat → Int) (low h0 : Int) (w : World) (hn : n = 0) :
    Calls Yba.prog 3 #[.slice a0 n cap, .int .u8 low, .int .i64 h0] w fun e w' => e = .returned (.bool true) ∧ Below w.heap.size w w' := by
  have hb : ¬ ((1024 : Int) < (n : Int)) := by omega
  have hb0 : ((n : Int) == 0) = true := by simp [hn]
  have hB := build_src a0 n cap z low h0 w (by omega) (.inl hn)
  obtain ⟨N, hN⟩ : ∃ N, Hid (w.heap.size = N) := ⟨_, rfl⟩
  rw [hN.out] at hB
  have hn' : Hid (n = 0) := hn
  clear hn
  go_enter Yba.func3, Yba.ntmps3
  go_wp2_with fail
  refine hB.mono ?_
  rintro e w1 ⟨rfl, hL, hbel⟩
  clear hB
  go_wp2_with fail
  refine (lw_none N n 0 z _ h0 w1 hL (by have := hn'.out; omega)).mono ?_
  rintro e w2 ⟨rfl, hL2, hb2⟩
  go_wp2_with fail
  refine (tryf N 7 w2 hL2.m7 (hL2.free _ _ (Nat.le_refl _))).mono ?_
  rintro e w3 ⟨rfl, hw3⟩
  have H3 : Hid (w3 = _) := hw3
  clear hw3
  go_wp2_with fail
  refine (unlockf N 7 w3 (by rw [H3.out]; exact sam hL2.m7) (by rw [H3.out]; exact frs (hL2.free _ _ (Nat.le_refl _)))).mono ?_
  rintro e w4 ⟨rfl, hw4⟩
  obtain ⟨hL4, hb4⟩ := lw_touch hL2
  rw [H3.out] at hw4
  rw [← hw4] at hL4 hb4
  clear hw4 H3
  go_wp2_with fail
  refine (iload N 6 _ w4 hL4.m6).mono ?_
  rintro e w' ⟨rfl, hw'⟩
  rw [hw']
  clear hw'
  go_wp2_with fail
  refine (uload N 0 _ w4 hL4.m0).mono ?_
  rintro e w' ⟨rfl, hw'⟩
  rw [hw']
  clear hw'
  go_wp2_with fail
  refine (iload N 5 _ w4 hL4.m5).mono ?_
  rintro e w' ⟨rfl, hw'⟩
  rw [hw']
  clear hw'
  have m9 := hL4.m9
  have m10 := hL4.m10
  rw [if_neg (by have := hn'.out; omega)] at m9 m10
  go_wp2
  go_ret
  exact ⟨rfl, by rw [hN.out]; exact (hbel.trans hb2).trans hb4⟩
theorem ho_first (N n : Nat) (z : Nat → Int) (st h : Int) (W : World) (hL : Lw W N n 0 z st h) (hk : 1 < n) :
    Calls Yba.prog 7 #[.pointer (some ⟨N, 0, none⟩)] W fun e w' => e = .returned (.bool true) ∧ Lw w' N n 1 z ((st + 4294967288) % 4294967296) (z 1) ∧ Below N W w' := lw_next N n 0 z st h W hL (by omega)
theorem ho_only (N n : Nat) (z : Nat → Int) (st h : Int) (W : World) (hL : Lw W N n 0 z st h) (hk : n = 1) :
    Calls Yba.prog 7 #[.pointer (some ⟨N, 0, none⟩)] W fun e w' => e = .returned (.bool true) ∧ Lw w' N n 1 z ((st + 4294967288) % 4294967296) h ∧ Below N W w' := lw_last N n 0 z st h W hL (by omega)

/-- After the first waiter's receive. -/
structure Lr (W : World) (N n sb so : Nat) (z : Nat → Int) : Prop where
  m9 : W.cell? ⟨N, 9, none⟩ = some (.pointer (some ⟨N + 3 + 2 * 1, 0, none⟩))
  m10 : W.cell? ⟨N, 10, none⟩ = some (.pointer (some ⟨N + 3 + 2 * (n - 1), 0, none⟩))
  ws : ∀ i, i < n → W.cell? ⟨N + 1, i, none⟩ = some (.pointer (some ⟨N + 3 + 2 * i, 0, none⟩))
  nx : ∀ i, 1 ≤ i → i < n → W.cell? ⟨N + 3 + 2 * i, 0, none⟩ = some (.pointer (if i + 1 < n then some ⟨N + 3 + 2 * (i + 1), 0, none⟩ else none))
  pv : ∀ i, 1 ≤ i → i < n → W.cell? ⟨N + 3 + 2 * i, 1, none⟩ = some (.pointer (if 1 < i then some ⟨N + 3 + 2 * (i - 1), 0, none⟩ else none))
  rd : ∀ i, i < n → W.cell? ⟨N + 3 + 2 * i, 2, none⟩ = some (.chan (some (N + 2 + 2 * i)))
  sn : ∀ i, i < n → W.cell? ⟨N + 3 + 2 * i, 3, none⟩ = some (.int .i64 (z i))
  ch : ∀ i, 1 ≤ i → i < n → W.heap[N + 2 + 2 * i]? = some (.chan 1 #[] false 0 0 false)
  src : ∀ i, i < n → W.cell? ⟨sb, so + i, none⟩ = some (.int .i64 (z i))

theorem Lr.drew {W : World} {N n sb so : Nat} {z : Nat → Int} (h : Lr W N n sb so z) : Lr W.drew N n sb so z := ⟨h.m9, h.m10, h.ws, h.nx, h.pv, h.rd, h.sn, h.ch, h.src⟩

theorem lr_of {N n sb so : Nat} {z : Nat → Int} {st h : Int} {W : World} (hL : Lw W N n 1 z st h) (hn : 1 < n) (hsb : sb < N) (hc : ∀ i, i < n → W.cell? ⟨sb, so + i, none⟩ = some (.int .i64 (z i))) : Lr (W.setChan (N + 2) 1 #[] false 1 1 false) N n sb so z := by
  have hsz : N + 2 < W.heap.size := by have := ltc (hL.nx 0 (by omega)); omega
  refine ⟨?_, ?_, ?_, ?_, ?_, ?_, ?_, ?_, ?_⟩
  · rw [chan_cell _ _ _ _ _ _ _ _ _ _ (by omega), hL.m9, if_pos hn]; rfl
  · rw [chan_cell _ _ _ _ _ _ _ _ _ _ (by omega), hL.m10, if_pos hn]; rfl
  · intro i hi; rw [chan_cell _ _ _ _ _ _ _ _ _ _ (by omega), hL.ws i hi]; rfl
  · intro i h1 hi; rw [chan_cell _ _ _ _ _ _ _ _ _ _ (by omega), hL.nx i hi]
    by_cases e : i + 1 < n
    · rw [if_pos ⟨h1, e⟩, if_pos e]; rfl
    · rw [if_neg (by omega), if_neg e]
  · intro i h1 hi; rw [chan_cell _ _ _ _ _ _ _ _ _ _ (by omega), hL.pv i hi]; rfl
  · intro i hi; rw [chan_cell _ _ _ _ _ _ _ _ _ _ (by omega), hL.rd i hi]
  · intro i hi; rw [chan_cell _ _ _ _ _ _ _ _ _ _ (by omega), hL.sn i hi]
  · intro i h1 hi; rw [chan_heap _ _ _ _ _ _ _ _ _ hsz, if_neg (by omega), hL.ch i hi, if_neg (by omega), if_neg (by omega)]
  · intro i hi; rw [chan_cell _ _ _ _ _ _ _ _ _ _ (by omega)]; exact hc i hi

set_option maxRecDepth 100000 in
set_option maxHeartbeats 4000000 in
theorem hand1 (a0 : Option Addr) (n cap : Nat) (z : Nat → Int) (low h0 : Int) (w : World) (hn : n = 1) (hsrc : n = 0 ∨ ∃ sb so, a0 = some ⟨sb, so, none⟩ ∧ ∀ i, i < n → w.cell? ⟨sb, so + i, none⟩ = some (.int .i64 (z i))) :
    Calls Yba.prog 3 #[.slice a0 n cap, .int .u8 low, .int .i64 h0] w fun e w' => e = .returned (.bool true) ∧ Below w.heap.size w w' := by
  have hb : ¬ ((1024 : Int) < (n : Int)) := by omega
  have hb0 : ((n : Int) == 0) = false := by simp [hn]
  have hb1 : ((n : Int) == 1) = true := by simp [hn]
  have hbb : ¬ ((1 : Int) < (n : Int)) := by omega
  have hbp : (0 : Int) < (n : Int) := by omega
  have hB := build_src a0 n cap z low h0 w (by omega) hsrc
  have hn' : Hid (n = 1) := hn
  clear hn hsrc
  obtain ⟨N, hN⟩ : ∃ N, Hid (w.heap.size = N) := ⟨_, rfl⟩
  rw [hN.out] at hB
  refine calls_of_wpN Yba.func3 rfl ?_
  simp only [Yba.ntmps3, List.size_toArray, List.length_cons, List.length_nil, Nat.reduceAdd, Nat.reduceSub, Array.replicate_succ, Array.replicate_zero, List.push_toArray, List.append_toArray, List.nil_append, List.cons_append]
  refine wpN_seq_k (fun K hK => ?_)
  go_wp2_with fail
  refine wpN_seq_k (fun K hK => ?_)
  go_wp2_with fail
  refine wpN_seq_k (fun K hK => ?_)
  go_wp2_with fail
  refine wpN_seq_k (fun K hK => ?_)
  go_wp2_with fail
  refine hB.mono ?_
  rintro e w1 ⟨rfl, hL, hbel⟩
  clear hB
  go_wp2_with fail
  refine wpN_seq_k (fun K hK => ?_)
  go_wp2_with fail
  refine (ho_only N n z _ h0 w1 hL hn'.out).mono ?_
  rintro e w2 ⟨rfl, hL2, hb2⟩
  go_wp2_with fail
  refine wpN_seq_k (fun K hK => ?_)
  go_wp2_with fail
  refine (tryf N 7 w2 hL2.m7 (hL2.free _ _ (Nat.le_refl _))).mono ?_
  rintro e w3 ⟨rfl, hw3⟩
  have H3 : Hid (w3 = _) := hw3
  clear hw3
  go_wp2_with fail
  refine wpN_seq_k (fun K hK => ?_)
  go_wp2_with fail
  refine (unlockf N 7 w3 (by rw [H3.out]; exact sam hL2.m7) (by rw [H3.out]; exact frs (hL2.free _ _ (Nat.le_refl _)))).mono ?_
  rintro e w4 ⟨rfl, hw4⟩
  obtain ⟨hL4, hb4⟩ := lw_touch hL2
  rw [H3.out] at hw4
  rw [← hw4] at hL4 hb4
  have bel : Below N w w4 := (hbel.trans hb2).trans hb4
  clear hw4 H3 hL hL2 hbel hb2 hb4
  go_wp2_with fail
  refine wpN_seq_k (fun K hK => ?_)
  go_wp2_with fail
  refine (iload N 6 _ w4 hL4.m6).mono ?_
  rintro e w' ⟨rfl, hw'⟩
  rw [hw']
  clear hw'
  go_wp2_with fail
  refine wpN_seq_k (fun K hK => ?_)
  go_wp2_with fail
  refine wpN_seq_k (fun K hK => ?_)
  go_wp2_with fail
  refine (uload N 0 _ w4 hL4.m0).mono ?_
  rintro e w' ⟨rfl, hw'⟩
  rw [hw']
  clear hw'
  have hst : ((s0v n low + 4294967288) % 4294967296 != (s0v n low - 8) % 4294967296) = false := by
    have : (s0v n low + 4294967288) % 4294967296 = (s0v n low - 8) % 4294967296 := by omega
    rw [this]; simp
  go_wp2_with fail
  clear hst
  refine wpN_seq_k (fun K hK => ?_)
  go_wp2_with fail
  refine wpN_seq_k (fun K hK => ?_)
  go_wp2_with fail
  refine wpN_seq_k (fun K hK => ?_)
  go_wp2_with fail
  refine (iload N 5 _ w4 hL4.m5).mono ?_
  rintro e w' ⟨rfl, hw'⟩
  rw [hw']
  clear hw'
  go_wp2_with fail
  have c1 := hL4.ws 0 (by have := hn'.out; omega)
  have c2 := hL4.rd 0 (by have := hn'.out; omega)
  have c3 := hL4.nx 0 (by have := hn'.out; omega)
  have c4 := hL4.pv 0 (by have := hn'.out; omega)
  have c5 := hL4.ch 0 (by have := hn'.out; omega)
  rw [if_neg (by omega)] at c3 c4
  rw [if_pos (by omega), if_pos (by omega)] at c5
  simp only [px, Nat.mul_zero, Nat.add_zero] at c1 c2 c3 c4 c5
  have hl : (Builtin.len_ #[49] 3 #[.chan (some (N + 2))]).run Yba.prog w4 = .ok (.int .i64 1) w4 := lenc w4 0 N c5 3
  refine wpN_seq_k (fun K hK => ?_)
  go_wp2_with fail
  refine wpN_seq_k (fun K hK => ?_)
  go_wp2_with fail
  clear hl
  have hbn : 0 < n := by have := hn'.out; omega
  refine wpN_seq (wpN_region ?_)
  simp only [List.size_toArray, List.length_cons, List.length_nil, Nat.reduceAdd, Nat.zero_add, List.range, List.range.loop]
  refine OpsN.value rfl (by simp [Region.wanted]) (by go_simp; first | exact ⟨rfl, rfl⟩ | (rw [if_pos hbn])) ?_
  refine OpsN.value rfl (by simp [Region.wanted]) (by go_simp; first | exact ⟨rfl, rfl⟩ | (rw [if_pos hbn])) ?_
  refine OpsN.value rfl (by simp [Region.wanted]) (by go_simp; first | exact ⟨rfl, rfl⟩ | (rw [if_pos hbn])) ?_
  refine OpsN.value rfl (by simp [Region.wanted]) (by go_simp; first | exact ⟨rfl, rfl⟩ | (rw [if_pos hbn])) ?_
  refine OpsN.value rfl (by simp [Region.wanted]) (by go_simp; first | exact ⟨rfl, rfl⟩ | (rw [if_pos hbn])) ?_
  refine OpsN.value rfl (by simp [Region.wanted]) (by go_simp; first | exact ⟨rfl, rfl⟩ | (rw [if_pos hbn])) ?_
  refine OpsN.recv (z := .bool false) rfl (by simp [Region.wanted]) (by go_simp; rfl) c5 (by simp) ?_
  refine OpsN.value rfl (by simp [Region.wanted]) (by go_simp; first | exact ⟨rfl, rfl⟩ | (rw [if_pos hbn])) ?_
  refine OpsN.nil ?_
  have bel' : Below N w (w4.setChan (N + 2) 1 #[] false 1 1 false) := below_setChan bel (by omega) _ _ _ _ _ _
  have m9 : (w4.setChan (N + 2) 1 #[] false 1 1 false).cell? ⟨N, 9, none⟩ = some (.pointer none) := by
    rw [chan_cell _ _ _ _ _ _ _ _ _ _ (by omega), hL4.m9, if_neg (by have := hn'.out; omega)]
  have m10 : (w4.setChan (N + 2) 1 #[] false 1 1 false).cell? ⟨N, 10, none⟩ = some (.pointer none) := by
    rw [chan_cell _ _ _ _ _ _ _ _ _ _ (by omega), hL4.m10, if_neg (by have := hn'.out; omega)]
  generalize hW' : World.setChan w4 _ _ _ _ _ _ _ = W'
  have hw : w4.setChan (N + 2) 1 #[] false 1 1 false = W' := hW'
  rw [hw] at m9 m10 bel'
  clear hw hW' c1 c2 c3 c4 c5 hL4 bel
  simp only [Exit.then, Act.put]
  refine wpN_of_wp ?_
  go_wp2
  go_ret
  exact ⟨rfl, by rw [hN.out]; exact bel'⟩

set_option maxRecDepth 100000 in
set_option maxHeartbeats 4000000 in
theorem hand2 (sb so n cap : Nat) (z : Nat → Int) (low h0 : Int) (w : World) (hn : 1 < n) (hn2 : n ≤ 1024) (hz : ∀ i, i < n → w.cell? ⟨sb, so + i, none⟩ = some (.int .i64 (z i))) :
    Calls Yba.prog 3 #[.slice (some ⟨sb, so, none⟩) n cap, .int .u8 low, .int .i64 h0] w fun e w' => e = .returned (.bool true) ∧ Below w.heap.size w w' := by
  have hb : ¬ ((1024 : Int) < (n : Int)) := by omega
  have hb0 : ((n : Int) == 0) = false := by simp; omega
  have hb1 : ((n : Int) == 1) = false := by simp; omega
  have hbb : (1 : Int) < (n : Int) := by omega
  have hbp : (0 : Int) < (n : Int) := by omega
  have hB := build_src (some ⟨sb, so, none⟩) n cap z low h0 w (by omega) (.inr ⟨sb, so, rfl, hz⟩)
  have hn' : Hid (1 < n) := hn
  have hm' : Hid (n ≤ 1024) := hn2
  have hz' : Hid (∀ i, i < n → w.cell? ⟨sb, so + i, none⟩ = some (.int .i64 (z i))) := hz
  clear hn hn2 hz
  obtain ⟨N, hN⟩ : ∃ N, Hid (w.heap.size = N) := ⟨_, rfl⟩
  rw [hN.out] at hB
  refine calls_of_wpN Yba.func3 rfl ?_
  simp only [Yba.ntmps3, List.size_toArray, List.length_cons, List.length_nil, Nat.reduceAdd, Nat.reduceSub, Array.replicate_succ, Array.replicate_zero, List.push_toArray, List.append_toArray, List.nil_append, List.cons_append]
  refine wpN_seq_k (fun K hK => ?_)
  go_wp2_with fail
  refine wpN_seq_k (fun K hK => ?_)
  go_wp2_with fail
  refine wpN_seq_k (fun K hK => ?_)
  go_wp2_with fail
  refine wpN_seq_k (fun K hK => ?_)
  go_wp2_with fail
  refine hB.mono ?_
  rintro e w1 ⟨rfl, hL, hbel⟩
  clear hB
  go_wp2_with fail
  refine wpN_seq_k (fun K hK => ?_)
  go_wp2_with fail
  refine (ho_first N n z _ h0 w1 hL hn'.out).mono ?_
  rintro e w2 ⟨rfl, hL2, hb2⟩
  go_wp2_with fail
  refine wpN_seq_k (fun K hK => ?_)
  go_wp2_with fail
  refine (tryf N 7 w2 hL2.m7 (hL2.free _ _ (Nat.le_refl _))).mono ?_
  rintro e w3 ⟨rfl, hw3⟩
  have H3 : Hid (w3 = _) := hw3
  clear hw3
  go_wp2_with fail
  refine wpN_seq_k (fun K hK => ?_)
  go_wp2_with fail
  refine (unlockf N 7 w3 (by rw [H3.out]; exact sam hL2.m7) (by rw [H3.out]; exact frs (hL2.free _ _ (Nat.le_refl _)))).mono ?_
  rintro e w4 ⟨rfl, hw4⟩
  obtain ⟨hL4, hb4⟩ := lw_touch hL2
  rw [H3.out] at hw4
  rw [← hw4] at hL4 hb4
  have bel : Below N w w4 := (hbel.trans hb2).trans hb4
  clear hw4 H3 hL hL2 hbel hb2 hb4
  go_wp2_with fail
  refine wpN_seq_k (fun K hK => ?_)
  go_wp2_with fail
  refine (iload N 6 _ w4 hL4.m6).mono ?_
  rintro e w' ⟨rfl, hw'⟩
  rw [hw']
  clear hw'
  go_wp2_with fail
  refine wpN_seq_k (fun K hK => ?_)
  go_wp2_with fail
  refine wpN_seq_k (fun K hK => ?_)
  go_wp2_with fail
  refine (uload N 0 _ w4 hL4.m0).mono ?_
  rintro e w' ⟨rfl, hw'⟩
  rw [hw']
  clear hw'
  have hst : ((s0v n low + 4294967288) % 4294967296 != (s0v n low - 8) % 4294967296) = false := by
    have : (s0v n low + 4294967288) % 4294967296 = (s0v n low - 8) % 4294967296 := by omega
    rw [this]; simp
  go_wp2_with fail
  clear hst
  refine wpN_seq_k (fun K hK => ?_)
  go_wp2_with fail
  refine wpN_seq_k (fun K hK => ?_)
  have hsb : sb < N := by have := ltc (hz'.out 0 (by have := hn'.out; omega)); have := hN.out; omega
  have hc : Hid (∀ i, i < n → w4.cell? ⟨sb, so + i, none⟩ = some (.int .i64 (z i))) := fun i hi => (bel.cell (p := ⟨sb, so + i, none⟩) hsb).trans (hz'.out i hi)
  have c0 := hc.out 1 hn'.out
  go_wp2_with fail
  refine wpN_seq_k (fun K hK => ?_)
  go_wp2_with fail
  refine (iload N 5 _ w4 hL4.m5).mono ?_
  rintro e w' ⟨rfl, hw'⟩
  rw [hw']
  clear hw'
  go_wp2_with fail
  have c1 := hL4.ws 0 (by have := hn'.out; omega)
  have c2 := hL4.rd 0 (by have := hn'.out; omega)
  have c3 := hL4.nx 0 (by have := hn'.out; omega)
  have c4 := hL4.pv 0 (by have := hn'.out; omega)
  have c5 := hL4.ch 0 (by have := hn'.out; omega)
  rw [if_neg (by omega)] at c3 c4
  rw [if_pos (by omega), if_pos (by omega)] at c5
  simp only [px, Nat.mul_zero, Nat.add_zero] at c1 c2 c3 c4 c5
  have hl : (Builtin.len_ #[49] 3 #[.chan (some (N + 2))]).run Yba.prog w4 = .ok (.int .i64 1) w4 := lenc w4 0 N c5 3
  refine wpN_seq_k (fun K hK => ?_)
  go_wp2_with fail
  refine wpN_seq_k (fun K hK => ?_)
  go_wp2_with fail
  clear hl
  have hbn : 0 < n := by have := hn'.out; omega
  refine wpN_seq (wpN_region ?_)
  simp only [List.size_toArray, List.length_cons, List.length_nil, Nat.reduceAdd, Nat.zero_add, List.range, List.range.loop]
  refine OpsN.value rfl (by simp [Region.wanted]) (by go_simp; first | exact ⟨rfl, rfl⟩ | (rw [if_pos hbn])) ?_
  refine OpsN.value rfl (by simp [Region.wanted]) (by go_simp; first | exact ⟨rfl, rfl⟩ | (rw [if_pos hbn])) ?_
  refine OpsN.value rfl (by simp [Region.wanted]) (by go_simp; first | exact ⟨rfl, rfl⟩ | (rw [if_pos hbn])) ?_
  refine OpsN.value rfl (by simp [Region.wanted]) (by go_simp; first | exact ⟨rfl, rfl⟩ | (rw [if_pos hbn])) ?_
  refine OpsN.value rfl (by simp [Region.wanted]) (by go_simp; first | exact ⟨rfl, rfl⟩ | (rw [if_pos hbn])) ?_
  refine OpsN.value rfl (by simp [Region.wanted]) (by go_simp; first | exact ⟨rfl, rfl⟩ | (rw [if_pos hbn])) ?_
  refine OpsN.recv (z := .bool false) rfl (by simp [Region.wanted]) (by go_simp; rfl) c5 (by simp) ?_
  refine OpsN.value rfl (by simp [Region.wanted]) (by go_simp; first | exact ⟨rfl, rfl⟩ | (rw [if_pos hbn])) ?_
  refine OpsN.nil ?_
  have bel' : Below N w (w4.setChan (N + 2) 1 #[] false 1 1 false) := below_setChan bel (by omega) _ _ _ _ _ _
  have hr := lr_of (sb := sb) (so := so) hL4 hn'.out hsb hc.out
  generalize hW' : World.setChan w4 _ _ _ _ _ _ _ = W'
  have hw : w4.setChan (N + 2) 1 #[] false 1 1 false = W' := hW'
  rw [hw] at hr bel'
  clear hw hW' c0 c1 c2 c3 c4 c5 hL4 bel hc
  simp only [Exit.then, Act.put]
  refine wpN_of_wp ?_
  have d0 : W'.drew.cell? _ = _ := hr.ws 1 hn'.out
  have d1 : W'.drew.cell? _ = _ := hr.ws (n - 1) (by have := hn'.out; omega)
  have m9 : W'.drew.cell? _ = _ := hr.m9
  have m10 : W'.drew.cell? _ = _ := hr.m10
  have wK : IntKind.i64.wrap ((n : Int) - 1) = (n : Int) - 1 := by rw [IntKind.wrap_i64]; omega
  have eK : ((n : Int) - 1).toNat = n - 1 := by omega
  have b1 : (n : Int) - 1 < n := by omega
  have b2 : 0 ≤ (n : Int) - 1 := by omega
  have b4 : (1 : Int) ≤ n := by omega
  have b5 : (n : Int) < n + 1 := by omega
  have b7 : 1 ≤ n := by omega
  have hpp := ptr_same
  go_wp2
  refine still_all mixed (by kernel_rfl) ?_
  repeat still_step
  refine wpStill_nil ?_
  clear d0 d1 m9 m10
  have hr2 := hr.drew
  have bel2 := bel'.drew
  generalize hW2 : World.drew W' = W2
  have hw2 : W'.drew = W2 := hW2
  rw [hw2] at hr2 bel2
  clear hW2 hw2 hr bel'
  have HR : Hid (Lr W2 N n sb so z ∧ Below N w W2) := ⟨hr2, bel2⟩
  clear hr2 bel2 b1 b2 b4 b5 b7 eK
  go_wp2
  go_loopw [14, 15, 16] (fun i _ _ wr => ∃ k : Nat, 1 ≤ k ∧ k ≤ n ∧ i = .int .i64 k ∧ Lr wr N n sb so z ∧ Below N w wr) (fun i _ _ _ => n - (intOf i).toNat)
  case atStart => exact ⟨1, by omega, by have := hn'.out; omega, rfl, HR.out⟩
  case round =>
    obtain ⟨k, hk1, hk, rfl, hR, hbl⟩ := hrel
    clear HR
    by_cases hlt : k < n
    · have c1 := hR.ws k hlt
      have c2 := hR.nx k hk1 hlt
      have c3 := hR.pv k hk1 hlt
      have c4 := hR.rd k hlt
      have c5 := hR.sn k hlt
      have c6 := hR.ch k hk1 hlt
      have c7 := hR.src k hlt
      have e1 : wr.drew.cell? _ = _ := c1
      have e4 : wr.drew.cell? _ = _ := c4
      have e5 : wr.drew.cell? _ = _ := c5
      have e7 : wr.drew.cell? _ = _ := c7
      have hl : (Builtin.len_ #[49] 3 #[.chan (some (N + 2 + 2 * k))]).run Yba.prog wr.drew = .ok (.int .i64 0) wr.drew := lenc0 wr.drew k N c6 3
      have wA : IntKind.i64.wrap ((k : Int) + 1) = (k : Int) + 1 := by rw [IntKind.wrap_i64]; omega
      have wB : IntKind.i64.wrap ((k : Int) - 1) = (k : Int) - 1 := by rw [IntKind.wrap_i64]; omega
      have q1 : (k : Int) < n := by omega
      have q2 : ((k : Int) - 1).toNat = k - 1 := by omega
      have q3 : ((k : Int) + 1).toNat = k + 1 := by omega
      have b1 : (k : Int) - 1 < n := by omega
      have b2 : 0 ≤ (k : Int) - 1 := by omega
      have b4 : (1 : Int) ≤ k := by omega
      have b5 : (k : Int) < n + 1 := by omega
      have b7 : 1 ≤ k := by omega
      have b8 : k < n + 1 := by omega
      clear c4 c5 c6 c7
      have fin : ∃ k' : Nat, 1 ≤ k' ∧ k' ≤ n ∧ Value.int .i64 (k + 1 : Int) = .int .i64 k' ∧ Lr wr.drew N n sb so z ∧ Below N w wr.drew := ⟨k + 1, by omega, by omega, by go_num, hR.drew, hbl.drew⟩
      have hfin : Hid (∃ k' : Nat, 1 ≤ k' ∧ k' ≤ n ∧ Value.int .i64 (k + 1 : Int) = .int .i64 k' ∧ Lr wr.drew N n sb so z ∧ Below N w wr.drew) := fin
      clear fin
      by_cases h1 : 1 < k
      · rw [if_pos h1] at c3
        have p1 : (1 : Int) < k := by omega
        have d1 := hR.ws (k - 1) (by omega)
        have e3 : wr.drew.cell? _ = _ := c3
        by_cases h2 : k + 1 < n
        · rw [if_pos h2] at c2
          have p2 : (k : Int) < (n : Int) - 1 := by omega
          have p3 : (k : Int) + 1 < n := by omega
          have d2 := hR.ws (k + 1) h2
          have e2 : wr.drew.cell? _ = _ := c2
          clear hR
          go_wp2
          refine still_all mixed (by kernel_rfl) ?_
          repeat still_step
          refine wpStill_nil ?_
          clear e1 e2 e3 e4 e5 e7 c1 c2 c3 hl
          go_wp2
          go_roundw
          case rel => exact hfin.out
          case measure => simp [intOf]; omega
        · rw [if_neg h2] at c2
          have p2 : ¬ ((k : Int) < (n : Int) - 1) := by omega
          have e2 : wr.drew.cell? _ = _ := c2
          clear hR
          go_wp2
          refine still_all mixed (by kernel_rfl) ?_
          repeat still_step
          refine wpStill_nil ?_
          clear e1 e2 e3 e4 e5 e7 c1 c2 c3 hl
          go_wp2
          go_roundw
          case rel => exact hfin.out
          case measure => simp [intOf]; omega
      · rw [if_neg h1] at c3
        have p1 : ¬ ((1 : Int) < k) := by omega
        have e3 : wr.drew.cell? _ = _ := c3
        by_cases h2 : k + 1 < n
        · rw [if_pos h2] at c2
          have p2 : (k : Int) < (n : Int) - 1 := by omega
          have p3 : (k : Int) + 1 < n := by omega
          have d2 := hR.ws (k + 1) h2
          have e2 : wr.drew.cell? _ = _ := c2
          clear hR
          go_wp2
          refine still_all mixed (by kernel_rfl) ?_
          repeat still_step
          refine wpStill_nil ?_
          clear e1 e2 e3 e4 e5 e7 c1 c2 c3 hl
          go_wp2
          go_roundw
          case rel => exact hfin.out
          case measure => simp [intOf]; omega
        · rw [if_neg h2] at c2
          have p2 : ¬ ((k : Int) < (n : Int) - 1) := by omega
          have e2 : wr.drew.cell? _ = _ := c2
          clear hR
          go_wp2
          refine still_all mixed (by kernel_rfl) ?_
          repeat still_step
          refine wpStill_nil ?_
          clear e1 e2 e3 e4 e5 e7 c1 c2 c3 hl
          go_wp2
          go_roundw
          case rel => exact hfin.out
          case measure => simp [intOf]; omega
    · have q1 : ¬ ((k : Int) < n) := by omega
      clear hR
      go_wp2
      go_ret
      exact ⟨rfl, by rw [hN.out]; exact hbl⟩
end Go.Proofs.Ybulkdfim
