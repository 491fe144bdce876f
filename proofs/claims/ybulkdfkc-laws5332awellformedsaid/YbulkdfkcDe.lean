/-
  decodeEntry (6) on two varints and whatever lies behind them.
-/
import Derived.Test.YbulkdfkcEnc
import Derived.Test.YbulkdfkcSh
import Derived.Below
import Derived.Laws.ResultCell
namespace Go.Proofs.Ybulkdfkc
open Go.RowKit
set_option linter.unusedVariables false

theorem uvar1 (g o n c x k : Nat) (rest : List UInt8) (w : World) (hx : x < 18446744073709551616) (hk : (Lib.uvarint x).length = k) (hl : (Lib.uvarint x ++ rest).length = n) (hcell : ∀ j (hj : j < (Lib.uvarint x ++ rest).length), w.cell? ⟨g, o + j, none⟩ = some (.int .u8 ((Lib.uvarint x ++ rest)[j]).toNat)) :
    Calls Yba.prog 7 #[.slice (some ⟨g, o, none⟩) n c] w fun e w' => e = .returned (.tuple #[.int .u64 x, .int .i64 k]) ∧ w' = w := by
  have h := uvar g o n c _ w hl hcell
  rw [dec_uvarint x rest hx, hk] at h
  exact h

theorem ltc {w : World} {b o : Nat} {v : Value} (h : w.cell? ⟨b, o, none⟩ = some v) : b < w.heap.size := by
  unfold World.cell? at h
  rcases Nat.lt_or_ge b w.heap.size with hlt | hge
  · exact hlt
  · rw [Array.getElem?_eq_none hge] at h; simp at h

set_option maxHeartbeats 400000 in
set_option maxRecDepth 100000 in
theorem dec (g o n c x y k m : Nat) (rest : List UInt8) (w : World) (hx : x < 18446744073709551616) (hy : y < 18446744073709551616) (hk : (Lib.uvarint x).length = k) (hm : (Lib.uvarint y).length = m) (hl : (Lib.uvarint x ++ (Lib.uvarint y ++ rest)).length = n) (hc : n ≤ c) (hcb : c ≤ maxLen) (hcell : ∀ j (hj : j < (Lib.uvarint x ++ (Lib.uvarint y ++ rest)).length), w.cell? ⟨g, o + j, none⟩ = some (.int .u8 ((Lib.uvarint x ++ (Lib.uvarint y ++ rest))[j]).toNat)) :
    Calls Yba.prog 6 #[.slice (some ⟨g, o, none⟩) n c] w fun e w' => e = .returned (.tuple #[.agg #[.int .i64 (wrap64 x), .int .u64 y], .int .i64 (k + m)]) ∧ Below w.heap.size w w' := by
  have hk10 : k ≤ 10 := by rw [← hk]; exact Lib.uvarint_length64 hx
  have hm10 : m ≤ 10 := by rw [← hm]; exact Lib.uvarint_length64 hy
  have hn : k + m + rest.length = n := by rw [← hl]; simp; omega
  have h1 : ∀ ob, Calls Yba.prog 7 #[.slice (some ⟨g, o, none⟩) n c] (w.alloc ob) fun e w' => e = .returned (.tuple #[.int .u64 x, .int .i64 k]) ∧ w' = w.alloc ob := by
    intro ob
    refine uvar1 g o n c x k _ _ hx hk hl ?_
    intro j hj
    have := hcell j hj
    rw [World.cell?_alloc_lt _ _ _ (ltc this)]
    exact this
  have h2 : ∀ ob, Calls Yba.prog 7 #[.slice (some ⟨g, o + k, none⟩) (n - k) (c - k)] (w.alloc ob) fun e w' => e = .returned (.tuple #[.int .u64 y, .int .i64 m]) ∧ w' = w.alloc ob := by
    intro ob
    refine uvar1 g (o + k) (n - k) (c - k) y m rest _ hy hm (by rw [List.length_append, hm]; omega) ?_
    intro j hj
    have h := hcell (k + j) (by rw [List.length_append, hk]; omega)
    rw [List.getElem_append_right (by omega)] at h
    rw [World.cell?_alloc_lt _ _ _ (ltc h)]
    have e1 : o + k + j = o + (k + j) := by omega
    have e2 : k + j - (Lib.uvarint x).length = j := by omega
    simp only [e2] at h
    rw [e1]
    exact h
  have b1 : (k : Int) ≤ n := by omega
  have b2 : k ≤ n := by omega
  have b3 : k ≤ c := by omega
  have b4 : (n : Int) ≤ c := by omega
  have b5 : (k : Int) ≤ c := by omega
  have e3 : ((n : Int) - k).toNat = n - k := by omega
  have e4 : ((c : Int) - k).toNat = c - k := by omega
  have wK : IntKind.i64.wrap ((k : Int) + m) = (k : Int) + m := by rw [IntKind.wrap_i64]; omega
  clear hcell hl
  go_enter Yba.func6, Yba.ntmps6
  go_wp2_with fail
  refine (h1 _).mono ?_
  rintro e w' ⟨rfl, rfl⟩
  generalize hw1 : w.alloc _ = w1
  have h2' : Calls Yba.prog 7 #[.slice (some ⟨g, o + k, none⟩) (n - k) (c - k)] w1 fun e w' => e = .returned (.tuple #[.int .u64 y, .int .i64 m]) ∧ w' = w1 := by rw [← hw1]; exact h2 _
  have H1 : Hid (w.alloc _ = w1) := hw1
  have b6 : ¬ c = k := by have := Lib.uvarint_pos y; omega
  clear h1 h2 hw1 hx hy hk hm hn
  go_wp2_with fail
  refine h2'.mono ?_
  rintro e w' ⟨rfl, hw'⟩
  rw [hw', ← H1.out]
  clear hw' H1 h2' b1 b2 b3 b4 b5 b6 e3 e4 hc hcb
  go_wp2
  refine bodyPost_ret (v := .tuple #[.agg #[.int .i64 (wrap64 x), .int .u64 y], .int .i64 (k + m)]) ?_ rfl ⟨rfl, (Below.refl _ _).alloc (Nat.le_refl _) _⟩
  rw [results_cell_tmp rfl]
  go_simp
end Go.Proofs.Ybulkdfkc
