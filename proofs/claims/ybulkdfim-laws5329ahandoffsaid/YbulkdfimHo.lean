import Derived.Test.YbulkdfimDq
namespace Go.Proofs.Ybulkdfim
open Go.RowKit Go.Conc
set_option linter.unusedVariables false

theorem frd (w : World) (q : Addr) : w.drew.frozen? q = w.frozen? q := rfl
theorem hpd (w : World) (k : Nat) : w.drew.heap[k]? = w.heap[k]? := rfl

set_option maxRecDepth 100000 in
set_option maxHeartbeats 1600000 in
theorem ho_none (M : Nat) (w : World) 
    (c7 : w.cell? ⟨M, 7, none⟩ = some (.int .i32 0)) (f7 : w.frozen? ⟨M, 7, none⟩ = false) (c9 : w.cell? ⟨M, 9, none⟩ = some (.pointer none)) :
    Calls Yba.prog 7 #[.pointer (some ⟨M, 0, none⟩)] w fun e w' => e = .returned (.bool false) ∧ w' = (w.setCell ⟨M, 7, none⟩ (.int .i32 1)).setCell ⟨M, 7, none⟩ (.int .i32 0) := by
  go_enter Yba.func7, Yba.ntmps7
  go_wp2_with fail
  refine (lockf M 7 _ c7 f7).mono ?_
  rintro e w' ⟨rfl, rfl⟩
  go_wp2_with fail
  refine (empty_nil M 9 _ ?_).mono ?_
  · rw [World.cell?_setCell_other _ _ _ _ (by simp)]; exact c9
  rintro e w' ⟨rfl, rfl⟩
  go_wp2_with fail
  refine (unlockf M 7 _ ?_ ?_).mono ?_
  · exact World.cell?_setCell_same _ _ _ c7
  · rw [World.frozen?_setCell]; exact f7
  rintro e w' ⟨rfl, rfl⟩
  go_wp2
  go_ret
  exact ⟨rfl, rfl⟩

set_option maxRecDepth 100000 in
set_option maxHeartbeats 1600000 in
/-- One waiter, the last: popped, told. -/
theorem ho_last (M X C : Nat) (x : Int) (t : Value) (s r : Nat) (w : World) (hMX : M ≠ X) (hMC : M ≠ C) (hXC : X ≠ C)
    (c0 : w.cell? ⟨M, 0, none⟩ = some (.int .u32 x)) (c7 : w.cell? ⟨M, 7, none⟩ = some (.int .i32 0)) (c9 : w.cell? ⟨M, 9, none⟩ = some (.pointer (some ⟨X, 0, none⟩))) (c10 : w.cell? ⟨M, 10, none⟩ = some t)
    (n0 : w.cell? ⟨X, 0, none⟩ = some (.pointer none)) (p0 : w.cell? ⟨X, 1, none⟩ = some (.pointer none)) (r0 : w.cell? ⟨X, 2, none⟩ = some (.chan (some C))) (hch : w.heap[C]? = some (.chan 1 #[] false s r false))
    (hf : ∀ o, w.frozen? ⟨M, o, none⟩ = false) (hg : ∀ o, w.frozen? ⟨X, o, none⟩ = false) :
    Calls Yba.prog 7 #[.pointer (some ⟨M, 0, none⟩)] w fun e w' => e = .returned (.bool true) ∧
      w' = (((((((w.setCell ⟨M, 7, none⟩ (.int .i32 1)).setCell ⟨M, 9, none⟩ (.pointer none)).setCell ⟨M, 10, none⟩ (.pointer none)).setCell ⟨X, 0, none⟩ (.pointer none)).setCell ⟨X, 1, none⟩ (.pointer none)).setCell
        ⟨M, 0, none⟩ (.int .u32 ((x + 4294967288) % 4294967296))).setCell ⟨M, 7, none⟩ (.int .i32 0)).setChan C 1 #[.bool true] false (s + 1) r false := by
  refine calls_of_wpN Yba.func7 rfl ?_
  simp only [Yba.ntmps7, List.size_toArray, List.length_cons, List.length_nil, Nat.reduceAdd, Nat.reduceSub, Array.replicate_succ, Array.replicate_zero, List.push_toArray, List.append_toArray, List.nil_append, List.cons_append]
  refine wpN_seq_k (fun K hK => ?_)
  go_wp2_with fail
  refine wpN_seq_k (fun K hK => ?_)
  go_wp2_with fail
  refine (lockf M 7 _ c7 (hf 7)).mono ?_
  rintro e w1 ⟨rfl, hw1⟩
  have H1 : Hid (w1 = _) := hw1
  clear hw1
  go_wp2_with fail
  refine wpN_seq_k (fun K hK => ?_)
  go_wp2_with fail
  refine (empty_not M 9 ⟨X, 0, none⟩ _ (by rw [H1.out]; exact oth (by omega) c9)).mono ?_
  rintro e w' ⟨rfl, hw'⟩
  rw [hw']
  clear hw'
  go_wp2_with fail
  refine wpN_seq_k (fun K hK => ?_)
  go_wp2_with fail
  refine (pop_last M X t w1 (by rw [H1.out]; exact oth (by omega) c9) (by rw [H1.out]; exact oth (by omega) c10) (by rw [H1.out]; exact oth (by omega) n0) (by rw [H1.out]; exact oth (by omega) p0)
    (by rw [H1.out]; exact frs (hf _)) (by rw [H1.out]; exact frs (hf _)) (by rw [H1.out]; exact frs (hg _)) (by rw [H1.out]; exact frs (hg _))).mono ?_
  rintro e w2 ⟨rfl, hw2⟩
  have H2 : Hid (w2 = _) := hw2
  clear hw2
  go_wp2_with fail
  refine wpN_seq_k (fun K hK => ?_)
  go_wp2_with fail
  refine (deq_none M x w2 (by rw [H2.out, H1.out]; exact oth (by omega) (oth (by omega) (oth (by omega) (oth (by omega) (oth (by omega) c0))))) (by rw [H2.out, H1.out]; exact frs (frs (frs (frs (frs (hf _))))))
    (by rw [H2.out, H1.out]; exact oth (by omega) (oth (by omega) (oth (by omega) (sam (oth (by omega) c9)))))).mono ?_
  rintro e w3 ⟨rfl, hw3⟩
  have H3 : Hid (w3 = _) := hw3
  clear hw3
  go_wp2_with fail
  refine wpN_seq_k (fun K hK => ?_)
  go_wp2_with fail
  refine (unlockf M 7 w3 (by rw [H3.out, H2.out, H1.out]; exact oth (by omega) (oth (by omega) (oth (by omega) (oth (by omega) (oth (by omega) (sam c7)))))) (by rw [H3.out, H2.out, H1.out]; exact frs (frs (frs (frs (frs (frs (hf _)))))))).mono ?_
  rintro e w4 ⟨rfl, hw4⟩
  have H4 : Hid (w4 = _) := hw4
  clear hw4
  have r4 : w4.cell? ⟨X, 2, none⟩ = some (.chan (some C)) := by
    rw [H4.out, H3.out, H2.out, H1.out]
    exact oth (by omega) (oth (by omega) (oth (by omega) (oth (by omega) (oth (by omega) (oth (by omega) (oth (by omega) r0))))))
  have h4 : w4.heap[C]? = some (.chan 1 #[] false s r false) := by
    rw [H4.out, H3.out, H2.out, H1.out]
    rw [Below.heap_setCell _ _ _ _ (by simp; omega), Below.heap_setCell _ _ _ _ (by simp; omega), Below.heap_setCell _ _ _ _ (by simp; omega), Below.heap_setCell _ _ _ _ (by simp; omega), Below.heap_setCell _ _ _ _ (by simp; omega), Below.heap_setCell _ _ _ _ (by simp; omega), Below.heap_setCell _ _ _ _ (by simp; omega)]
    exact hch
  go_wp2_with fail
  refine wpN_seq (wpN_region ?_)
  simp only [List.size_toArray, List.length_cons, List.length_nil, Nat.reduceAdd, Nat.zero_add, List.range, List.range.loop]
  refine OpsN.value rfl (by simp [Region.wanted]) (by go_simp; exact ⟨rfl, rfl⟩) ?_
  refine OpsN.value rfl (by simp [Region.wanted]) (by go_simp; exact ⟨rfl, rfl⟩) ?_
  refine OpsN.value rfl (by simp [Region.wanted]) (by go_simp; exact ⟨rfl, rfl⟩) ?_
  refine OpsN.value rfl (by simp [Region.wanted]) (by go_simp; exact ⟨rfl, rfl⟩) ?_
  refine OpsN.send (v := .bool true) (z := .tuple #[]) rfl (by simp [Region.wanted]) (by simp [execOp, scase, Act.eval, Act.put]) h4 (by simp) ?_
  refine OpsN.nil ?_
  simp only [Exit.then, Act.put]
  refine wpN_of_wp ?_
  go_wp2
  go_ret
  exact ⟨rfl, by rw [H4.out, H3.out, H2.out, H1.out]⟩

set_option maxRecDepth 100000 in
set_option maxHeartbeats 1600000 in
/-- The head, y behind it: popped, told. -/
theorem ho_next (M X Y C : Nat) (x z h : Int) (y1 : Value) (s r : Nat) (w : World) (hMX : M ≠ X) (hMC : M ≠ C) (hXC : X ≠ C) (hMY : M ≠ Y) (hXY : X ≠ Y) (hYC : Y ≠ C)
    (c0 : w.cell? ⟨M, 0, none⟩ = some (.int .u32 x)) (c7 : w.cell? ⟨M, 7, none⟩ = some (.int .i32 0)) (c9 : w.cell? ⟨M, 9, none⟩ = some (.pointer (some ⟨X, 0, none⟩))) (c5 : w.cell? ⟨M, 5, none⟩ = some (.int .i64 h)) (q1 : w.cell? ⟨Y, 1, none⟩ = some y1) (q3 : w.cell? ⟨Y, 3, none⟩ = some (.int .i64 z))
    (n0 : w.cell? ⟨X, 0, none⟩ = some (.pointer (some ⟨Y, 0, none⟩))) (p0 : w.cell? ⟨X, 1, none⟩ = some (.pointer none)) (r0 : w.cell? ⟨X, 2, none⟩ = some (.chan (some C))) (hch : w.heap[C]? = some (.chan 1 #[] false s r false))
    (hf : ∀ o, w.frozen? ⟨M, o, none⟩ = false) (hg : ∀ o, w.frozen? ⟨X, o, none⟩ = false) (hh : ∀ o, w.frozen? ⟨Y, o, none⟩ = false) :
    Calls Yba.prog 7 #[.pointer (some ⟨M, 0, none⟩)] w fun e w' => e = .returned (.bool true) ∧
      w' = ((((((((w.setCell ⟨M, 7, none⟩ (.int .i32 1)).setCell ⟨M, 9, none⟩ (.pointer (some ⟨Y, 0, none⟩))).setCell ⟨Y, 1, none⟩ (.pointer none)).setCell ⟨X, 0, none⟩ (.pointer none)).setCell ⟨X, 1, none⟩ (.pointer none)).drew.setCell
        ⟨M, 0, none⟩ (.int .u32 ((x + 4294967288) % 4294967296))).drew.setCell ⟨M, 5, none⟩ (.int .i64 z)).setCell ⟨M, 7, none⟩ (.int .i32 0)).setChan C 1 #[.bool true] false (s + 1) r false := by
  refine calls_of_wpN Yba.func7 rfl ?_
  simp only [Yba.ntmps7, List.size_toArray, List.length_cons, List.length_nil, Nat.reduceAdd, Nat.reduceSub, Array.replicate_succ, Array.replicate_zero, List.push_toArray, List.append_toArray, List.nil_append, List.cons_append]
  refine wpN_seq_k (fun K hK => ?_)
  go_wp2_with fail
  refine wpN_seq_k (fun K hK => ?_)
  go_wp2_with fail
  refine (lockf M 7 _ c7 (hf 7)).mono ?_
  rintro e w1 ⟨rfl, hw1⟩
  have H1 : Hid (w1 = _) := hw1
  clear hw1
  go_wp2_with fail
  refine wpN_seq_k (fun K hK => ?_)
  go_wp2_with fail
  refine (empty_not M 9 ⟨X, 0, none⟩ _ (by rw [H1.out]; exact oth (by omega) c9)).mono ?_
  rintro e w' ⟨rfl, hw'⟩
  rw [hw']
  clear hw'
  go_wp2_with fail
  refine wpN_seq_k (fun K hK => ?_)
  go_wp2_with fail
  refine (pop_next M X Y y1 w1 hMX hMX.symm hMY hMY.symm hXY hXY.symm (by rw [H1.out]; exact oth (by omega) c9) (by rw [H1.out]; exact oth (by omega) n0) (by rw [H1.out]; exact oth (by omega) p0) (by rw [H1.out]; exact oth (by omega) q1)
    (by rw [H1.out]; exact frs (hf _)) (by rw [H1.out]; exact frs (hg _)) (by rw [H1.out]; exact frs (hg _)) (by rw [H1.out]; exact frs (hh _))).mono ?_
  rintro e w2 ⟨rfl, hw2⟩
  have H2 : Hid (w2 = _) := hw2
  clear hw2
  go_wp2_with fail
  refine wpN_seq_k (fun K hK => ?_)
  go_wp2_with fail
  have P2 : ∀ q u, ((((w1.setCell ⟨M, 9, none⟩ (.pointer (some ⟨Y, 0, none⟩))).setCell ⟨Y, 1, none⟩ (.pointer none)).setCell ⟨X, 0, none⟩ (.pointer none)).setCell ⟨X, 1, none⟩ (.pointer none)).cell? q = u → w2.cell? q = u := fun q u hq => by rw [H2.out, World.cell?_drew]; exact hq
  have Fz : ∀ q, w.frozen? q = false → w2.frozen? q = false := fun q hq => by rw [H2.out, H1.out, frd]; exact frs (frs (frs (frs (frs hq))))
  have d0 : w2.cell? ⟨M, 0, none⟩ = some (.int .u32 x) := P2 _ _ (oth (by omega) (oth (by omega) (oth (by omega) (oth (by omega) (by rw [H1.out]; exact oth (by omega) c0)))))
  have d9 : w2.cell? ⟨M, 9, none⟩ = some (.pointer (some ⟨Y, 0, none⟩)) := P2 _ _ (oth (by omega) (oth (by omega) (oth (by omega) (sam (by rw [H1.out]; exact oth (by omega) c9)))))
  have d5 : w2.cell? ⟨M, 5, none⟩ = some (.int .i64 h) := P2 _ _ (oth (by omega) (oth (by omega) (oth (by omega) (oth (by omega) (by rw [H1.out]; exact oth (by omega) c5)))))
  have d3 : w2.cell? ⟨Y, 3, none⟩ = some (.int .i64 z) := P2 _ _ (oth (by omega) (oth (by omega) (oth (by omega) (oth (by omega) (by rw [H1.out]; exact oth (by omega) q3)))))
  have d7 : w2.cell? ⟨M, 7, none⟩ = some (.int .i32 1) := P2 _ _ (oth (by omega) (oth (by omega) (oth (by omega) (oth (by omega) (by rw [H1.out]; exact sam c7)))))
  have dr : w2.cell? ⟨X, 2, none⟩ = some (.chan (some C)) := P2 _ _ (oth (by omega) (oth (by omega) (oth (by omega) (oth (by omega) (by rw [H1.out]; exact oth (by omega) r0)))))
  refine (deq_some M Y x z h w2 hMY d0 (Fz _ (hf _)) d9 d5 (Fz _ (hf _)) d3).mono ?_
  rintro e w3 ⟨rfl, hw3⟩
  have H3 : Hid (w3 = _) := hw3
  clear hw3
  go_wp2_with fail
  refine wpN_seq_k (fun K hK => ?_)
  go_wp2_with fail
  have P3 : ∀ b o u, (b ≠ M ∨ o ≠ 0) → (b ≠ M ∨ o ≠ 5) → w2.cell? ⟨b, o, none⟩ = u → w3.cell? ⟨b, o, none⟩ = u := fun b o u h1 h2 hq => by
    rw [H3.out]; exact oth (by omega) (by rw [World.cell?_drew]; exact oth (by omega) hq)
  refine (unlockf M 7 w3 (P3 _ _ _ (by omega) (by omega) d7) (by rw [H3.out]; exact frs (by rw [frd]; exact frs (Fz _ (hf _))))).mono ?_
  rintro e w4 ⟨rfl, hw4⟩
  have H4 : Hid (w4 = _) := hw4
  clear hw4
  have r4 : w4.cell? ⟨X, 2, none⟩ = some (.chan (some C)) := by
    rw [H4.out]
    exact oth (by omega) (P3 _ _ _ (by omega) (by omega) dr)
  have h4 : w4.heap[C]? = some (.chan 1 #[] false s r false) := by
    rw [H4.out, H3.out, H2.out, H1.out]
    have e : ∀ (W : World) (b o : Nat) (v : Value), b ≠ C → W.heap[C]? = some (.chan 1 #[] false s r false) → (W.setCell ⟨b, o, none⟩ v).heap[C]? = some (.chan 1 #[] false s r false) := fun W b o v hb hW => (Below.heap_setCell _ _ _ _ (by simpa using hb.symm)).trans hW
    exact e _ _ _ _ hMC (e _ _ _ _ hMC (by rw [hpd]; exact e _ _ _ _ hMC (by rw [hpd]; exact e _ _ _ _ hXC (e _ _ _ _ hXC (e _ _ _ _ hYC (e _ _ _ _ hMC (e _ _ _ _ hMC hch)))))))
  clear P2 P3 Fz d0 d9 d5 d3 d7 dr
  go_wp2_with fail
  refine wpN_seq (wpN_region ?_)
  simp only [List.size_toArray, List.length_cons, List.length_nil, Nat.reduceAdd, Nat.zero_add, List.range, List.range.loop]
  refine OpsN.value rfl (by simp [Region.wanted]) (by go_simp; exact ⟨rfl, rfl⟩) ?_
  refine OpsN.value rfl (by simp [Region.wanted]) (by go_simp; exact ⟨rfl, rfl⟩) ?_
  refine OpsN.value rfl (by simp [Region.wanted]) (by go_simp; exact ⟨rfl, rfl⟩) ?_
  refine OpsN.value rfl (by simp [Region.wanted]) (by go_simp; exact ⟨rfl, rfl⟩) ?_
  refine OpsN.send (v := .bool true) (z := .tuple #[]) rfl (by simp [Region.wanted]) (by simp [execOp, scase, Act.eval, Act.put]) h4 (by simp) ?_
  refine OpsN.nil ?_
  simp only [Exit.then, Act.put]
  refine wpN_of_wp ?_
  go_wp2
  go_ret
  exact ⟨rfl, by rw [H4.out, H3.out, H2.out, H1.out]⟩
end Go.Proofs.Ybulkdfim
