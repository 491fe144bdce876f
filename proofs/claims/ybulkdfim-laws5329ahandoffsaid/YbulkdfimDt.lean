/-
  LawS5329ADrain (4): a round of its last loop.
-/
import Derived.Test.YbulkdfimTl
namespace Go.Proofs.Ybulkdfim
open Go.RowKit Go.Conc
set_option linter.unusedVariables false

set_option maxRecDepth 100000 in
set_option maxHeartbeats 4000000 in
theorem dr_leave (w : World) (N n m : Nat) (a : Act) (W : World) (Q : Exit → Act → World → Prop) (h : Lp w N n m a W) (hm : m = 0) (hQ : ∀ (t : Array Value) W, t.size = 126 → Below N w W → Q (.exit 4) ⟨t, []⟩ W) (J : Act → World → Prop) :
    wpN Yba.prog (sub (Yba.f4.body.getD .skip) [1, 1, 1, 1, 1, 1, 0, 1, 0, 0]) (Exit.then J Q) a W := by
  obtain ⟨j, hd, hs, h7, h9, h15, hj, hT, hbl⟩ := h
  obtain ⟨t, d⟩ := a
  simp only at hd hs h7 h9 h15
  subst hd
  obtain ⟨u, hu, rfl⟩ := open126 t hs
  clear hs hu
  have e7 : u 7 = _ := h7
  have e9 : u 9 = _ := h9
  have e15 : u 15 = _ := h15
  rw [e7, e9, e15]
  clear h7 h9 h15 e7 e9 e15
  have hb : ¬ (j : Int) < n := by omega
  simp only [sub, Yba.f4, Option.getD_some]
  clear hT hj hm
  refine wpN_seq_k (fun K hK => ?_)
  go_wp2_with fail
  exact hQ _ _ rfl hbl

set_option maxRecDepth 100000 in
set_option maxHeartbeats 4000000 in
theorem dr_round (w : World) (N n m : Nat) (hn : n ≤ 512) (a : Act) (W : World) (Q : Exit → Act → World → Prop) (h : Lp w N n (m + 1) a W) :
    wpN Yba.prog (sub (Yba.f4.body.getD .skip) [1, 1, 1, 1, 1, 1, 0, 1, 0, 0]) (Exit.then (fun a w' => ∃ m', m' < m + 1 ∧ Lp w N n m' a w') Q) a W := by
  obtain ⟨j, hd, hs, h7, h9, h15, hj, hT, hbl⟩ := h
  obtain ⟨t, d⟩ := a
  simp only at hd hs h7 h9 h15
  subst hd
  obtain ⟨u, hu, rfl⟩ := open126 t hs
  clear hs hu
  have e7 : u 7 = _ := h7
  have e9 : u 9 = _ := h9
  have e15 : u 15 = _ := h15
  rw [e7, e9, e15]
  clear h7 h9 h15 e7 e9 e15
  have hb : (j : Int) < n := by omega
  have hb2 : (j : Int) ≤ 512 := by omega
  have hjn : j < n := by omega
  have c1 := hT.ws j hjn
  have c2 := hT.rd j hjn
  have c3 := hT.nx j hjn
  have c4 := hT.pv j hjn
  have c5 := hT.ch j (Nat.le_refl _) hjn
  have hT' := tl_next hT hjn
  simp only [sub, Yba.f4, Option.getD_some]
  refine wpN_seq_k (fun K hK => ?_)
  go_wp2_with fail
  refine wpN_seq (wpN_block (wpN_seq (wpN_region ?_)))
  simp only [List.size_toArray, List.length_cons, List.length_nil, Nat.reduceAdd, Nat.zero_add, List.range, List.range.loop]
  refine OpsN.value rfl (by simp [Region.wanted]) (by go_simp; exact ⟨rfl, rfl⟩) ?_
  refine OpsN.value rfl (by simp [Region.wanted]) (by go_simp; exact ⟨rfl, rfl⟩) ?_
  refine OpsN.value rfl (by simp [Region.wanted]) (by go_simp; exact ⟨rfl, rfl⟩) ?_
  refine OpsN.value rfl (by simp [Region.wanted]) (by go_simp; exact ⟨rfl, rfl⟩) ?_
  refine OpsN.value rfl (by simp [Region.wanted]) (by go_simp; exact ⟨rfl, rfl⟩) ?_
  refine OpsN.value rfl (by simp [Region.wanted]) (by go_simp; exact ⟨rfl, rfl⟩) ?_
  refine OpsN.value rfl (by simp [Region.wanted]) (by go_simp; exact ⟨rfl, rfl⟩) ?_
  refine OpsN.recv (z := .bool false) rfl (by simp [Region.wanted]) (by go_simp; rfl) c5 (by simp) ?_
  refine OpsN.value rfl (by simp [Region.wanted]) (by go_simp; exact ⟨rfl, rfl⟩) ?_
  refine OpsN.nil ?_
  have hbl' : Below N w (W.setChan (N + 2 + 2 * j) 1 #[] false 1 1 false) := below_setChan hbl (by omega) _ _ _ _ _ _
  generalize hW' : World.setChan W _ _ _ _ _ _ _ = W'
  have hw : W.setChan (N + 2 + 2 * j) 1 #[] false 1 1 false = W' := hW'
  rw [hw] at hT' hbl'
  clear hw hW' c1 c2 c3 c4 c5 hT hbl
  have c1 := hT'.ws j hjn
  have c3 := hT'.nx j hjn
  have c4 := hT'.pv j hjn
  simp only [Exit.then, Act.put]
  refine wpN_of_wp ?_
  go_wp2_with fail
  refine wpN_of_wp ?_
  go_wp2_with fail
  exact ⟨m, by omega, j + 1, rfl, rfl, rfl, rfl, rfl, by omega, hT', hbl'⟩

/-- The last loop, whole: from its head, none read yet, to its end. -/
theorem dr_loop (w : World) (N n : Nat) (hn : n ≤ 512) (a : Act) (W : World) (Q : Exit → Act → World → Prop) (h : Lp w N n n a W) (hQ : ∀ (t : Array Value) W, t.size = 126 → Below N w W → Q (.exit 4) ⟨t, []⟩ W) :
    wpN Yba.prog (.loop (sub (Yba.f4.body.getD .skip) [1, 1, 1, 1, 1, 1, 0, 1, 0, 0])) Q a W := by
  refine wpN_loop (Lp w N n) ?_ n a W h
  intro m a W hI
  cases m with
  | zero => exact dr_leave w N n 0 a W Q hI rfl hQ _
  | succ m => exact dr_round w N n m hn a W Q hI
end Go.Proofs.Ybulkdfim
