/-
  LawS5332AWellFormed (3): the walk.
-/
import Derived.Test.YbulkdfkcDe
import Derived.StillTailTactics
namespace Go.Proofs.Ybulkdfkc
open Go.RowKit
set_option linter.unusedVariables false

theorem mixed : Yba.prog.follows .mixedOrders = true := by kernel_rfl

theorem still_all {P : Program} {id : Nat} {Q : Exit → Act → World → Prop} {a : Act} {w : World} {l : List Oper} (hm : P.follows .mixedOrders = true) (hB : Region.lexB .any l.toArray = true)
    (h : wpStill P l.toArray w.drew (fun a' => Q .normal a' w.drew) l a) : (Code.region id l.toArray true).wp P Q a w := wp_region_still_lit hm hB h

theorem own_open {w : World} {B n : Nat} {v : Value} {L : List UInt8} (h : w.ownsRow B 5 1 v n (Lib.byteCells L)) (hn : 0 < n) :
    ∃ g cap, v = .slice (some ⟨g, 0, none⟩) n cap ∧ B ≤ g ∧ g < w.heap.size ∧ n ≤ cap ∧ cap ≤ maxLen ∧ L.length = n ∧ ∀ j (hj : j < L.length), w.cell? ⟨g, 0 + j, none⟩ = some (.int .u8 (L[j]).toNat) := by
  have hl := h.1
  rw [Lib.byteCells_length, Nat.mul_one] at hl
  have hc := fun g hg => World.ownsRow.cells h (g := g) hg
  have hlt := World.ownsRow.lt h
  rcases h.2 with ⟨_, h0⟩ | ⟨g, cap, cur, rfl, hb, hg, h1, h2, h3, h4⟩
  · omega
  · refine ⟨g, cap, rfl, hb, (hlt g rfl).2, h1, h2, hl, fun j hj => ?_⟩
    have h5 := hc g rfl j (.int .u8 (L[j]).toNat) (by simp [Lib.byteCells, hj])
    have e : (⟨g, 0, none⟩ : Addr).add j = ⟨g, 0 + j, none⟩ := by cases j <;> simp [Addr.add]
    rw [e] at h5
    exact h5

/-- What the last loop reads. -/
def Cs (w : World) (g3 K n : Nat) (T : List UInt8) (hT : T.length = n) (a2 : Option Addr) (W : World) : Prop :=
  (∀ j (hj : j < n), W.cell? ⟨g3, K + j, none⟩ = some (.int .u8 (T[j]'(by rw [hT]; exact hj)).toNat)) ∧ (∀ j (hj : j < n), ∀ sb so, a2 = some ⟨sb, so, none⟩ → W.cell? ⟨sb, so + j, none⟩ = some (.int .u8 (T[j]'(by rw [hT]; exact hj)).toNat)) ∧ Below w.heap.size w W

set_option maxHeartbeats 4000000 in
set_option maxRecDepth 100000 in
theorem law1 (sb so : Nat) (n cap2 x y : Nat) (T : List UInt8) (w : World) (hx : x < 18446744073709551616) (hy : y < 18446744073709551616) (hT : T.length = n) (hn : n ≤ 1024) (hz : ∀ i (hi : i < T.length), w.cell? ⟨sb, so + i, none⟩ = some (.int .u8 (T[i]).toNat)) :
    Calls Yba.prog 3 #[.int .u64 x, .int .u64 y, .slice (some ⟨sb, so, none⟩) n cap2] w fun e w' => e = .returned (.bool true) ∧ Below w.heap.size w w' := by
  obtain ⟨i0, hi, hz0, hz1, hz2⟩ := info_parts i5
  have hb : ¬ ((1024 : Int) < (n : Int)) := by omega
  obtain ⟨k, hk⟩ : ∃ k, (Lib.uvarint x).length = k := ⟨_, rfl⟩
  obtain ⟨m, hm⟩ : ∃ m, (Lib.uvarint y).length = m := ⟨_, rfl⟩
  have hk10 : k ≤ 10 := by rw [← hk]; exact Lib.uvarint_length64 hx
  have hm10 : m ≤ 10 := by rw [← hm]; exact Lib.uvarint_length64 hy
  have hk1 : 1 ≤ k := by rw [← hk]; exact Lib.uvarint_pos x
  have hm1 : 1 ≤ m := by rw [← hm]; exact Lib.uvarint_pos y
  have e1 := enc w.heap.size 0 x hx (.slice none 0 0) [] w (World.ownsRow_nil _ _ _ _) (Nat.le_refl _) (by omega)
  go_enter Yba.func3, Yba.ntmps3
  go_wp2_with fail
  refine e1.mono ?_
  rintro e w1 ⟨v1, rfl, o1, bel1⟩
  clear e1
  have e2 := enc w.heap.size _ y hy v1 _ w1 o1 bel1.size (by omega)
  go_wp2_with fail
  refine e2.mono ?_
  rintro e w2 ⟨v2, rfl, o2, bel2⟩
  clear e2 o1
  have o2' : w2.ownsRow w.heap.size 5 1 v2 (k + m) (Lib.byteCells (Lib.uvarint x ++ Lib.uvarint y)) := by
    have hc : Lib.byteCells (Lib.uvarint x ++ Lib.uvarint y) = [] ++ Lib.byteCells (Lib.uvarint x) ++ Lib.byteCells (Lib.uvarint y) := by simp [Lib.byteCells]
    rw [hc, ← hk, ← hm]
    simpa using o2
  clear o2
  have bel : Below w.heap.size w w2 := bel1.trans bel2
  clear bel1 bel2
  obtain ⟨g, cap, rfl, -, -, -, -, -, -⟩ := own_open o2' (by omega)
  have HO : Hid (w2.ownsRow w.heap.size 5 1 (.slice (some ⟨g, 0, none⟩) (k + m) cap) (k + m) (Lib.byteCells (Lib.uvarint x ++ Lib.uvarint y)) ∧ Below w.heap.size w w2) := ⟨o2', bel⟩
  clear o2' bel
  obtain ⟨K, hK0⟩ : ∃ K, Hid (k + m = K) := ⟨_, rfl⟩
  have HO' := HO.out
  rw [hK0.out] at HO' ⊢
  clear HO
  have HO : Hid (w2.ownsRow w.heap.size 5 1 (.slice (some ⟨g, 0, none⟩) K cap) K (Lib.byteCells (Lib.uvarint x ++ Lib.uvarint y)) ∧ Below w.heap.size w w2) := HO'
  clear HO'
  go_wp2
  go_loopw [7, 9] (fun vb vi wr => ∃ i : Nat, i ≤ n ∧ vi = .int .i64 i ∧ wr.ownsRow w.heap.size 5 1 vb (K + i) (Lib.byteCells (Lib.uvarint x ++ Lib.uvarint y ++ T.take i)) ∧ Below w.heap.size w wr) (fun _ vi _ => n - (intOf vi).toNat)
  case atStart => exact ⟨0, by omega, rfl, by simpa using HO.out.1, HO.out.2⟩
  case round =>
    obtain ⟨i, hi2, rfl, hown, hbl⟩ := hrel
    clear HO
    by_cases hlt : i < n
    · have c1 := hz i (by omega)
      have c2 : wr.cell? ⟨sb, so + i, none⟩ = some (.int .u8 (T[i]'(by omega)).toNat) := (hbl.cell (p := ⟨sb, so + i, none⟩) (ltc c1)).trans c1
      have hq : (i : Int) < (n : Int) := by omega
      obtain ⟨b, hbv0⟩ : ∃ b, T[i]'(by omega) = b := ⟨_, rfl⟩
      have hbv : Hid (T[i]'(by omega) = b) := hbv0
      clear hbv0
      rw [hbv.out] at c2
      clear c1
      go_wp2_with (at_builtin; refine wpList_append_own _ rfl _ _ 23 rfl w.heap.size 5 i0 (.int .u8 0) 1 1 Yba.underlying23 hi hz0 hz1 hz2 rfl (by decide) _ _ _ rfl (hown.alloc _) ⟨wr.heap.size, 0, none⟩ 1 1 [Value.int .u8 (b.toNat : Int)] rfl rfl ?c1 ?c2 ?c3 ?c4 ?c5 ?_)
      case c1 =>
        intro j u hj
        match j, hj with
        | 0, hj => simp at hj; subst hj; simp [Addr.add]
      case c2 => intro u hu; simp at hu; subst hu; rfl
      case c3 => unfold maxLen; have := hK0.out; omega
      case c4 => have := hK0.out; omega
      case c5 => have := hbl.size; simp; omega
      intro v' w1 hown' hgrow _
      have hnx1 : Below w.heap.size w w1 := (hbl.alloc (by have := hbl.size; omega) _).grown hgrow (by have := hbl.size; simp; omega) (fun k hk => (hown.lt k hk).1)
      have ht : Lib.byteCells (Lib.uvarint x ++ Lib.uvarint y ++ T.take (i + 1)) = Lib.byteCells (Lib.uvarint x ++ Lib.uvarint y ++ T.take i) ++ [Value.int .u8 (b.toNat : Int)] := by
        rw [List.take_succ_eq_append_getElem (by omega), hbv.out]
        simp [Lib.byteCells]
      go_wp2
      go_roundw
      case rel => exact ⟨i + 1, by omega, by go_num, by rw [ht, ← Nat.add_assoc]; simpa only [List.append_assoc] using hown', hnx1⟩
      case measure => simp [intOf]; omega
    · have ei : i = n := by omega
      rw [ei] at hown
      clear hi2 ei
      have hq : ¬ ((i : Int) < (n : Int)) := by omega
      rw [List.take_of_length_le (by omega), List.append_assoc] at hown
      obtain ⟨g3, cap3, rfl, hg3, hgs, hc1, hc2, hlen, hcell⟩ := own_open hown (by have := hK0.out; omega)
      have hd := dec g3 0 (K + n) cap3 x y k m T wr hx hy hk hm hlen hc1 hc2 hcell
      have hkm : ((k : Int) + m != (K : Int)) = false := by have := hK0.out; simp; omega
      have hwn : IntKind.i64.wrap ((K : Int) + n) = (K : Int) + n := by rw [IntKind.wrap_i64]; have := hK0.out; omega
      have hcl : Hid (∀ j (hj : j < n), wr.cell? ⟨g3, K + j, none⟩ = some (.int .u8 (T[j]'(by rw [hT]; exact hj)).toNat)) := by
        intro j hj
        have h5 := hcell (K + j) (by rw [hlen]; omega)
        have h6 := hK0.out
        rw [List.getElem_append_right (by omega), List.getElem_append_right (by rw [hk, hm]; omega)] at h5
        have e2 : K + j - (Lib.uvarint x).length - (Lib.uvarint y).length = j := by omega
        simp only [e2, Nat.zero_add] at h5
        exact h5
      have HS : Hid (Below w.heap.size w wr ∧ g3 < wr.heap.size) := ⟨hbl, hgs⟩
      clear hcell hlen hown hbl hgs
      go_wp2_with fail
      refine hd.mono ?_
      rintro e w4 ⟨rfl, bel4⟩
      clear hd
      have HB : Hid (Below wr.heap.size wr w4) := bel4
      clear bel4
      go_wp2
      clear hkm hwn hq
      have hW1 : ∀ ob, Below wr.heap.size wr (w4.alloc ob) := fun ob => HB.out.alloc (by have := HB.out.size; omega) ob
      have hWc : ∀ ob, (∀ j (hj : j < n), (w4.alloc ob).cell? ⟨g3, K + j, none⟩ = some (.int .u8 (T[j]'(by rw [hT]; exact hj)).toNat)) := fun ob j hj => ((hW1 ob).cell (p := ⟨g3, K + j, none⟩) HS.out.2).trans (hcl.out j hj)
      have hWb : ∀ ob, Below w.heap.size w (w4.alloc ob) := fun ob => HS.out.1.trans ((hW1 ob).mono HS.out.1.size)
      have HW : ∀ ob, Hid (Cs w g3 K n T hT (some ⟨sb, so, none⟩) (w4.alloc ob)) := fun ob => ⟨hWc ob, ⟨fun j hj s2 o2 e => by cases e; exact ((hWb ob).cell (p := ⟨sb, so + j, none⟩) (ltc (hz j (by omega)))).trans (hz j (by omega)), hWb ob⟩⟩
      clear hW1 hWc hWb HB HS hcl
      generalize hW : w4.alloc _ = W
      have HW' : Hid (Cs w g3 K n T hT (some ⟨sb, so, none⟩) W) := by rw [← hW]; exact HW _
      clear HW hW
      go_loopw [12] (fun vi wq => ∃ j : Nat, j ≤ n ∧ vi = .int .i64 j ∧ Cs w g3 K n T hT (some ⟨sb, so, none⟩) wq) (fun vi _ => n - (intOf vi).toNat)
      case atStart => exact ⟨0, by omega, rfl, HW'.out⟩
      case round =>
        obtain ⟨j, hj, rfl, hA, hS, hbl⟩ := hrel
        clear HW'
        by_cases hjn : j < n
        · have d1 : wr.drew.cell? _ = _ := hA j hjn
          have d2 : wr.drew.cell? _ = _ := hS j hjn sb so rfl
          have wA : IntKind.i64.wrap ((K : Int) + j) = (K : Int) + j := by rw [IntKind.wrap_i64]; have := hK0.out; omega
          have q1 : (j : Int) < n := by omega
          have q2 : ((K : Int) + j).toNat = K + j := by omega
          have q3 : (K : Int) + j < (K : Int) + n := by omega
          have q4 : 0 ≤ (K : Int) + j := by omega
          have q5 : K + j < K + n := by omega
          have hfin : Hid (∃ j' : Nat, j' ≤ n ∧ Value.int .i64 ((j : Int) + 1) = .int .i64 j' ∧ Cs w g3 K n T hT (some ⟨sb, so, none⟩) wr.drew) := ⟨j + 1, by omega, by go_num, hA, hS, hbl.drew⟩
          obtain ⟨bb, hbb0⟩ : ∃ b, T[j]'(by rw [hT]; exact hjn) = b := ⟨_, rfl⟩
          rw [hbb0] at d1 d2
          clear hA hS hbb0 hbl
          go_wp2
          refine still_all mixed (by kernel_rfl) ?_
          repeat still_step
          refine wpStill_nil ?_
          clear d1 d2
          go_wp2
          go_roundw
          case rel => exact hfin.out
          case measure => simp [intOf]; omega
        · have hq : ¬ ((j : Int) < (n : Int)) := by omega
          clear hA hS
          go_wp2
          go_ret
          exact ⟨rfl, hbl⟩
set_option maxHeartbeats 4000000 in
set_option maxRecDepth 100000 in
theorem law0 (a2 : Option Addr) (n cap2 x y : Nat) (T : List UInt8) (w : World) (hx : x < 18446744073709551616) (hy : y < 18446744073709551616) (hT : T.length = n) (hn : n ≤ 1024) (hn0 : Hid (n = 0)) :
    Calls Yba.prog 3 #[.int .u64 x, .int .u64 y, .slice a2 n cap2] w fun e w' => e = .returned (.bool true) ∧ Below w.heap.size w w' := by
  obtain ⟨i0, hi, hz0, hz1, hz2⟩ := info_parts i5
  have hb : ¬ ((1024 : Int) < (n : Int)) := by omega
  obtain ⟨k, hk⟩ : ∃ k, (Lib.uvarint x).length = k := ⟨_, rfl⟩
  obtain ⟨m, hm⟩ : ∃ m, (Lib.uvarint y).length = m := ⟨_, rfl⟩
  have hk10 : k ≤ 10 := by rw [← hk]; exact Lib.uvarint_length64 hx
  have hm10 : m ≤ 10 := by rw [← hm]; exact Lib.uvarint_length64 hy
  have hk1 : 1 ≤ k := by rw [← hk]; exact Lib.uvarint_pos x
  have hm1 : 1 ≤ m := by rw [← hm]; exact Lib.uvarint_pos y
  have e1 := enc w.heap.size 0 x hx (.slice none 0 0) [] w (World.ownsRow_nil _ _ _ _) (Nat.le_refl _) (by omega)
  go_enter Yba.func3, Yba.ntmps3
  go_wp2_with fail
  refine e1.mono ?_
  rintro e w1 ⟨v1, rfl, o1, bel1⟩
  clear e1
  have e2 := enc w.heap.size _ y hy v1 _ w1 o1 bel1.size (by omega)
  go_wp2_with fail
  refine e2.mono ?_
  rintro e w2 ⟨v2, rfl, o2, bel2⟩
  clear e2 o1
  have o2' : w2.ownsRow w.heap.size 5 1 v2 (k + m) (Lib.byteCells (Lib.uvarint x ++ Lib.uvarint y)) := by
    have hc : Lib.byteCells (Lib.uvarint x ++ Lib.uvarint y) = [] ++ Lib.byteCells (Lib.uvarint x) ++ Lib.byteCells (Lib.uvarint y) := by simp [Lib.byteCells]
    rw [hc, ← hk, ← hm]
    simpa using o2
  clear o2
  have bel : Below w.heap.size w w2 := bel1.trans bel2
  clear bel1 bel2
  obtain ⟨g, cap, rfl, -, -, -, -, -, -⟩ := own_open o2' (by omega)
  have HO : Hid (w2.ownsRow w.heap.size 5 1 (.slice (some ⟨g, 0, none⟩) (k + m) cap) (k + m) (Lib.byteCells (Lib.uvarint x ++ Lib.uvarint y)) ∧ Below w.heap.size w w2) := ⟨o2', bel⟩
  clear o2' bel
  obtain ⟨K, hK0⟩ : ∃ K, Hid (k + m = K) := ⟨_, rfl⟩
  have HO' := HO.out
  rw [hK0.out] at HO' ⊢
  clear HO
  have HO : Hid (w2.ownsRow w.heap.size 5 1 (.slice (some ⟨g, 0, none⟩) K cap) K (Lib.byteCells (Lib.uvarint x ++ Lib.uvarint y)) ∧ Below w.heap.size w w2) := HO'
  clear HO'
  go_wp2
  go_loopw [7, 9] (fun vb vi wr => ∃ i : Nat, i ≤ n ∧ vi = .int .i64 i ∧ wr.ownsRow w.heap.size 5 1 vb (K + i) (Lib.byteCells (Lib.uvarint x ++ Lib.uvarint y ++ T.take i)) ∧ Below w.heap.size w wr) (fun _ vi _ => n - (intOf vi).toNat)
  case atStart => exact ⟨0, by omega, rfl, by simpa using HO.out.1, HO.out.2⟩
  case round =>
    obtain ⟨i, hi2, rfl, hown, hbl⟩ := hrel
    clear HO
    by_cases hlt : i < n
    · exact absurd hlt (by have := hn0.out; omega)
    · have ei : i = n := by omega
      rw [ei] at hown
      clear hi2 ei
      have hq : ¬ ((i : Int) < (n : Int)) := by omega
      rw [List.take_of_length_le (by omega), List.append_assoc] at hown
      obtain ⟨g3, cap3, rfl, hg3, hgs, hc1, hc2, hlen, hcell⟩ := own_open hown (by have := hK0.out; omega)
      have hd := dec g3 0 (K + n) cap3 x y k m T wr hx hy hk hm hlen hc1 hc2 hcell
      have hkm : ((k : Int) + m != (K : Int)) = false := by have := hK0.out; simp; omega
      have hwn : IntKind.i64.wrap ((K : Int) + n) = (K : Int) + n := by rw [IntKind.wrap_i64]; have := hK0.out; omega
      have hcl : Hid (∀ j (hj : j < n), wr.cell? ⟨g3, K + j, none⟩ = some (.int .u8 (T[j]'(by rw [hT]; exact hj)).toNat)) := by
        intro j hj
        have h5 := hcell (K + j) (by rw [hlen]; omega)
        have h6 := hK0.out
        rw [List.getElem_append_right (by omega), List.getElem_append_right (by rw [hk, hm]; omega)] at h5
        have e2 : K + j - (Lib.uvarint x).length - (Lib.uvarint y).length = j := by omega
        simp only [e2, Nat.zero_add] at h5
        exact h5
      have HS : Hid (Below w.heap.size w wr ∧ g3 < wr.heap.size) := ⟨hbl, hgs⟩
      clear hcell hlen hown hbl hgs
      go_wp2_with fail
      refine hd.mono ?_
      rintro e w4 ⟨rfl, bel4⟩
      clear hd
      have HB : Hid (Below wr.heap.size wr w4) := bel4
      clear bel4
      go_wp2
      clear hkm hwn hq
      have hW1 : ∀ ob, Below wr.heap.size wr (w4.alloc ob) := fun ob => HB.out.alloc (by have := HB.out.size; omega) ob
      have hWc : ∀ ob, (∀ j (hj : j < n), (w4.alloc ob).cell? ⟨g3, K + j, none⟩ = some (.int .u8 (T[j]'(by rw [hT]; exact hj)).toNat)) := fun ob j hj => ((hW1 ob).cell (p := ⟨g3, K + j, none⟩) HS.out.2).trans (hcl.out j hj)
      have hWb : ∀ ob, Below w.heap.size w (w4.alloc ob) := fun ob => HS.out.1.trans ((hW1 ob).mono HS.out.1.size)
      have HW : ∀ ob, Hid (Cs w g3 K n T hT a2 (w4.alloc ob)) := fun ob => ⟨hWc ob, ⟨fun j hj => absurd hj (by have := hn0.out; omega), hWb ob⟩⟩
      clear hW1 hWc hWb HB HS hcl
      generalize hW : w4.alloc _ = W
      have HW' : Hid (Cs w g3 K n T hT a2 W) := by rw [← hW]; exact HW _
      clear HW hW
      go_loopw [12] (fun vi wq => ∃ j : Nat, j ≤ n ∧ vi = .int .i64 j ∧ Cs w g3 K n T hT a2 wq) (fun vi _ => n - (intOf vi).toNat)
      case atStart => exact ⟨0, by omega, rfl, HW'.out⟩
      case round =>
        obtain ⟨j, hj, rfl, hA, hS, hbl⟩ := hrel
        clear HW'
        by_cases hjn : j < n
        · exact absurd hjn (by have := hn0.out; omega)
        · have hq : ¬ ((j : Int) < (n : Int)) := by omega
          clear hA hS
          go_wp2
          go_ret
          exact ⟨rfl, hbl⟩
set_option maxRecDepth 100000 in
theorem law_long (a2 : Option Addr) (n cap2 : Nat) (x y : Int) (w : World) (hn : (1024 : Int) < n) :
    Calls Yba.prog 3 #[.int .u64 x, .int .u64 y, .slice a2 n cap2] w fun e w' => e = .returned (.bool true) ∧ Below w.heap.size w w' := by
  go_enter Yba.func3, Yba.ntmps3
  go_wp2
  go_ret
  exact ⟨rfl, Below.refl _ _⟩
end Go.Proofs.Ybulkdfkc
