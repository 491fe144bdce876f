/-
  LawS5329ADrain (4).
-/
import Derived.Test.YbulkdfimDt
namespace Go.Proofs.Ybulkdfim
open Go.RowKit Go.Conc
set_option linter.unusedVariables false


set_option maxRecDepth 100000 in
set_option maxHeartbeats 4000000 in
theorem drain (a0 : Option Addr) (n cap : Nat) (z : Nat → Int) (low h0 : Int) (w : World) (hn : n ≤ 512) (l0 : 0 ≤ low) (l1 : low < 256)
    (hsrc : n = 0 ∨ ∃ sb so, a0 = some ⟨sb, so, none⟩ ∧ ∀ i, i < n → w.cell? ⟨sb, so + i, none⟩ = some (.int .i64 (z i))) :
    Calls Yba.prog 4 #[.slice a0 n cap, .int .u8 low, .int .i64 h0] w fun e w' => e = .returned (.bool true) ∧ Below w.heap.size w w' := by
  have hb : ¬ ((512 : Int) < (n : Int)) := by omega
  have hB := build_src a0 n cap z low h0 w (by omega) hsrc
  have H0 : Hid (s0v n low = sw n low) := s0v_eq n low l0 l1 (by omega)
  clear hsrc
  obtain ⟨N, hN⟩ : ∃ N, Hid (w.heap.size = N) := ⟨_, rfl⟩
  rw [hN.out] at hB
  refine calls_of_wpN Yba.func4 rfl ?_
  simp only [Yba.ntmps4, List.size_toArray, List.length_cons, List.length_nil, Nat.reduceAdd, Nat.reduceSub, Array.replicate_succ, Array.replicate_zero, List.push_toArray, List.append_toArray, List.nil_append, List.cons_append]
  refine wpN_seq_k (fun K hK => ?_)
  go_wp2_with fail
  refine wpN_seq_k (fun K hK => ?_)
  go_wp2_with fail
  refine wpN_seq_k (fun K hK => ?_)
  go_wp2_with fail
  refine wpN_seq_k (fun K hK => ?_)
  go_wp2_with fail
  refine hB.mono ?_
  rintro e w1 ⟨rfl, hL, hbel⟩
  clear hB
  go_wp2_with fail
  refine wpN_seq_k (fun K hK => ?_)
  go_wp2_with fail
  rw [H0.out] at hL
  have hL0 : ∃ h, Lw w1 N n (min 0 n) z (sw (n - min 0 n) low) h := ⟨h0, by rw [show min 0 n = 0 by omega, show n - 0 = n by omega]; exact hL⟩
  clear hL
  go_loopw [11] (fun i wr => ∃ k : Nat, k ≤ n + 1 ∧ i = .int .i64 k ∧ (∃ h, Lw wr N n (min k n) z (sw (n - min k n) low) h) ∧ Below N w wr) (fun i _ => n + 1 - (intOf i).toNat)
  case atStart => exact ⟨0, by omega, rfl, hL0, hbel⟩
  case round =>
    clear hL0 hbel
    obtain ⟨k, hk, rfl, ⟨h, hL⟩, hbl⟩ := hrel
    by_cases hlt : k < n
    · rw [show min k n = k by omega] at hL
      have hle : (k : Int) ≤ n := by omega
      have hlt' : (k : Int) < n := by omega
      go_wp2_with fail
      refine (ho_step N n k z _ h wr hL hlt).mono ?_
      rintro e w2 ⟨rfl, ⟨h2, hL2⟩, hb2⟩
      rw [show n - k = (n - (k + 1)) + 1 by omega, sw_dec _ _ (by omega)] at hL2
      go_wp2_with fail
      refine (uload N 0 _ w2 hL2.m0).mono ?_
      rintro e w' ⟨rfl, hw'⟩
      rw [hw']
      clear hw'
      have ht := st_test n k low (by omega) (by omega)
      go_wp2_with fail
      clear ht
      go_loop [13, 14] (fun i _ => ∃ j : Nat, j ≤ n ∧ i = .int .i64 j) (fun i _ => n - (intOf i).toNat)
      case atStart => exact ⟨0, by omega, rfl⟩
      case round =>
        obtain ⟨j, hj, rfl⟩ := hrel
        by_cases hjn : j < n
        · have c1 := hL2.ws j hjn
          have c2 := hL2.rd j hjn
          have hjn' : (j : Int) < n := by omega
          unfold px at c1
          by_cases hjk : j ≤ k
          · have hlen := lenc w2 j N (by rw [hL2.ch j hjn, if_pos (by omega), if_pos (by omega)])
            have hjk' : (j : Int) ≤ k := by omega
            go_wp2_with fail
            go_round
            case rel => exact ⟨j + 1, by omega, by go_num⟩
            case measure => simp [intOf]; omega
          · have hlen := lenc0 w2 j N (by rw [hL2.ch j hjn, if_neg (by omega), if_neg (by omega)])
            have hjk' : ¬ (j : Int) ≤ k := by omega
            go_wp2_with fail
            go_round
            case rel => exact ⟨j + 1, by omega, by go_num⟩
            case measure => simp [intOf]; omega
        · go_wp2_with fail
          go_roundw
          case rel => exact ⟨k + 1, by omega, by go_num, ⟨h2, by rw [show min (k + 1) n = k + 1 by omega]; exact hL2⟩, hbl.trans hb2⟩
          case measure => simp [intOf]; omega
    · by_cases hkn : k = n
      · rw [show min k n = n by omega, show n - n = 0 by omega] at hL
        have hle : (k : Int) ≤ n := by omega
        have hlt' : ¬ (k : Int) < n := by omega
        have hmin : (n : Int) < (k : Int) + 1 := by omega
        have hkn' : Hid (k = n) := hkn
        clear hkn hlt
        go_wp2_with fail
        refine (lw_none N n n z _ h wr hL (by omega)).mono ?_
        rintro e w2 ⟨rfl, hL2, hb2⟩
        go_wp2_with fail
        refine (uload N 0 _ w2 hL2.m0).mono ?_
        rintro e w' ⟨rfl, hw'⟩
        rw [hw']
        clear hw'
        have ht := st_test0 low
        go_wp2_with fail
        clear ht
        go_loop [13, 14] (fun i _ => ∃ j : Nat, j ≤ n ∧ i = .int .i64 j) (fun i _ => n - (intOf i).toNat)
        case atStart => exact ⟨0, by omega, rfl⟩
        case round =>
          obtain ⟨j, hj, rfl⟩ := hrel
          by_cases hjn : j < n
          · have c1 := hL2.ws j hjn
            have c2 := hL2.rd j hjn
            have hjn' : (j : Int) < n := by omega
            unfold px at c1
            have hlen := lenc w2 j N (by rw [hL2.ch j hjn, if_pos (by omega), if_pos (by omega)])
            have hjk' : (j : Int) ≤ k := by have := hkn'.out; omega
            go_wp2_with fail
            go_round
            case rel => exact ⟨j + 1, by omega, by go_num⟩
            case measure => simp [intOf]; omega
          · go_wp2_with fail
            go_roundw
            case rel => exact ⟨k + 1, by have := hkn'.out; omega, by go_num, ⟨h, by have := hkn'.out; rw [show min (k + 1) n = n by omega, show n - n = 0 by omega]; exact hL2⟩, hbl.trans hb2⟩
            case measure => simp [intOf]; have := hkn'.out; omega
      · rw [show min k n = n by omega, show n - n = 0 by omega] at hL
        have hle : ¬ (k : Int) ≤ n := by omega
        clear hkn hlt
        go_wp2_with fail
        have m9 := hL.m9
        have m10 := hL.m10
        rw [if_neg (by omega)] at m9 m10
        refine wpN_seq_k (fun K hK => ?_)
        go_wp2_with fail
        clear m9 m10
        refine wpN_seq ?_
        refine wpN_seq_k (fun K hK => ?_)
        go_wp2_with fail
        have hT := tl_start hL
        clear hL hle
        refine wpN_block ?_
        refine dr_loop w N n hn _ _ _ ⟨0, rfl, rfl, rfl, rfl, rfl, rfl, hT, hbl⟩ ?_
        intro t W ht hW
        show wpN _ _ _ _ _
        obtain ⟨u, hu, rfl⟩ := open126 t ht
        clear hu ht hT hbl
        refine wpN_of_wp ?_
        go_wp2
        go_ret
        exact ⟨rfl, by rw [hN.out]; exact hW⟩
end Go.Proofs.Ybulkdfim
