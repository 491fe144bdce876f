/-
  places[struct{}].all (21) with its closure (29), places[Entry].all (23) with its closure (31): contracts for a range over them.
-/
import Derived.Test.YbulkdfjaPl
import Derived.Test.YbulkdfjaTail
import Derived.RangeFuncNested
import Derived.RangeFuncBound
import Derived.RangeFuncCalls
import Derived.RangeFuncLeaves
import Derived.Shelf.Abstract
import Derived.WalkKit
import Derived.OwnWalkIn
import Derived.TacticsInMore
import Derived.LoopNIn
import Derived.LoopIn
namespace Go.Proofs.Ybulkdfja
open Go.RowKit Go.Shelf
set_option linter.unusedVariables false
attribute [local go_sem] Oper.semAt_some

theorem still_tail_in {id m : Nat} {Q : Exit → Act → World → Prop} {a : Act} {w : World} {l : List Oper} (n : Nat) (hB : Region.lexTailB .any l.toArray n = true)
    (h : wpStill Yba.prog l.toArray w.drew (fun a' => wpListIn Fence.wide m Yba.prog l.toArray Q (l.drop n) a' w.drew) (l.take n) a) : (Code.region id l.toArray true).wpIn Fence.wide m Yba.prog Q a w := wpIn_region_still_tail n mixed hB h

/-- What has come when k rounds are over. -/
def upto {α : Type} (f : Nat → α) (k : Nat) : List α := (List.range k).map f
theorem upto_succ {α : Type} (f : Nat → α) (k : Nat) : upto f (k + 1) = upto f k ++ [f k] := by simp [upto, List.range_succ]
theorem upto_length {α : Type} (f : Nat → α) (k : Nat) : (upto f k).length = k := by simp [upto]

/-- What a round keeps: whatever lay below n₀, and the box Bs. -/
def KpB (n₀ Bs : Nat) (A B : World) : Prop := Below n₀ A B ∧ ∀ v, A.cell? ⟨Bs, 0, none⟩ = some v → B.cell? ⟨Bs, 0, none⟩ = some v
theorem KpB.refl (n₀ Bs : Nat) (A : World) : KpB n₀ Bs A A := ⟨Below.refl _ _, fun _ h => h⟩
theorem KpB.trans {n₀ Bs : Nat} {A B C : World} (h : KpB n₀ Bs A B) (h2 : KpB n₀ Bs B C) : KpB n₀ Bs A C := ⟨h.1.trans h2.1, fun v hv => h2.2 v (h.2 v hv)⟩

theorem nm51 (w : World) : (binOp .eql 51 (.map none) (.map none)).run Yba.prog w = .ok (.bool true) w :=
  run_eql_map_nil w 51 _ _ none Yba.underlying51
theorem nm43e (w : World) : (binOp .eql 43 (.map none) (.map none)).run Yba.prog w = .ok (.bool true) w :=
  run_eql_map_nil w 43 _ _ none Yba.underlying43

theorem part77 (g k : Nat) (cur : Array Value) (fz : Nat × Nat) (w : World) (h : w.heap[g]? = some (.cells cur 77 fz)) :
    Sem.run Yba.prog (partAt ⟨g, k * 2, none⟩ 2 24) w = .ok ⟨g, k * 2 + 2, some (k * 32 + 24)⟩ w := by
  have e1 : Yba.prog.cellsOf 77 = 2 := by kernel_rfl
  have e2 : Yba.prog.bytesOf 77 = 32 := by kernel_rfl
  have e3 : byteOfCell Yba.prog Yba.prog.depth 77 0 = some 0 := by kernel_rfl
  have m1 : k * 2 % 2 = 0 := by omega
  have m2 : (k * 2 + 2) % 2 = 0 := by omega
  have d1 : k * 2 / 2 = k := by omega
  have d2 : (k * 2 + 2) / 2 = k + 1 := by omega
  have ne : ¬ ((k + 1) * 32 = k * 32 + 24) := by omega
  have hs : w.shape? g = some (77, cur.size) := by simp [World.shape?, h]
  have hv : Sem.run Yba.prog (viewAt g) w = .ok none w := by simp [viewAt, hs, go_sem]
  simp [partAt, byteOf, go_sem, noView, hv, hs, e1, e2, e3, m1, m2, d1, d2, ne]

def encU (x : ByteArray × Int) : Array Value := #[.agg #[.string x.1, .int .i64 x.2], .agg #[]]

set_option maxRecDepth 100000 in
set_option maxHeartbeats 2000000 in
theorem all29_in (n l Bs n₀ sh g len cap : Nat) (lp : Option Addr) (f : Nat → ByteArray × Int) (hlen : len ≤ 1024) (hlp : 0 < len → lp = some ⟨g, 0, none⟩) (hsh : sh < n₀) (hg : 0 < len → g < n₀) (J Jx : List (ByteArray × Int) → World → Prop)
    (hdr : ∀ p W, J p W → J p W.drew)
    (hY : ∀ pre x W, J pre W → pre.length < len → YieldAt Fence.wide (n - 1) Yba.prog l (encU x) W fun e W' =>
      (e = .returned (.bool true) ∧ J (pre ++ [x]) W' ∧ KpB n₀ Bs W W') ∨ (e = .returned (.bool false) ∧ Jx (pre ++ [x]) W'))
    (W : World) (hBs : W.cell? ⟨Bs, 0, none⟩ = some (.pointer (some ⟨sh, 6, none⟩))) (hs0 : W.cell? ⟨sh, 6, none⟩ = some (.slice lp len cap)) (hs1 : W.cell? ⟨sh, 7, none⟩ = some (.map none))
    (hc0 : ∀ i, i < len → W.cell? ⟨g, i * 2, none⟩ = some (.string (f i).1)) (hc1 : ∀ i, i < len → W.cell? ⟨g, i * 2 + 1, none⟩ = some (.int .i64 (f i).2)) (hgb : 0 < len → ∃ cur fz, W.heap[g]? = some (.cells cur 77 fz)) (h0 : J [] W) :
    CallsIn Fence.wide n Yba.prog 29 #[.func (.yield l) #[] #[], .pointer (some ⟨Bs, 0, none⟩)] W fun e W' => (∃ v, e = .returned v) ∧
      ((∃ ys, ys = upto (fun j => f (len - 1 - j)) len ∧ J ys W') ∨ (∃ pre, True ∧ Jx pre W')) := by
  have n51 := nm51
  refine callsIn_of_wp Yba.func29 rfl trivial ?_ rfl
  simp only [Yba.ntmps29, List.size_toArray, List.length_cons, List.length_nil, Nat.reduceAdd, Nat.reduceSub, Array.replicate_succ, Array.replicate_zero, List.push_toArray, List.append_toArray, List.nil_append, List.cons_append]
  gi_wp2
  gi_loopw [3] (fun i wr => ∃ k : Nat, k ≤ len ∧ i = .int .i64 k ∧ J (upto (fun j => f (len - 1 - j)) (len - k)) wr ∧ KpB n₀ Bs W wr)
    (fun i _ => (intOf i).toNat)
  case atStart => exact ⟨len, Nat.le_refl _, rfl, by simpa [upto] using h0, KpB.refl _ _ _⟩
  case round =>
    obtain ⟨k, hk, rfl, hJs, hkp⟩ := hrel
    have b0 := hkp.2 _ hBs
    have s0 := (hkp.1.cell (p := ⟨sh, 6, none⟩) hsh).trans hs0
    have s1 := (hkp.1.cell (p := ⟨sh, 7, none⟩) hsh).trans hs1
    obtain rfl | ⟨k, rfl⟩ : k = 0 ∨ ∃ j, k = j + 1 := by cases k; exact .inl rfl; exact .inr ⟨_, rfl⟩
    · have q : (0 : Int) ≤ len := by omega
      gi_wp2
      refine bodyPost_ret (results_none rfl _ _ _) rfl ?_
      exact ⟨⟨_, rfl⟩, .inl ⟨_, rfl, hJs⟩⟩
    · have hkl : k < len := by omega
      obtain rfl := hlp (by omega)
      have hgn := hg (by omega)
      have d0 : ∀ v, wr.cell? ⟨Bs, 0, none⟩ = some v → wr.drew.cell? ⟨Bs, 0, none⟩ = some v := fun _ h => h
      have bd := d0 _ b0
      have sd : wr.drew.cell? ⟨sh, 6, none⟩ = some (.slice (some ⟨g, 0, none⟩) len cap) := s0
      have c0 : wr.drew.cell? ⟨g, k * 2, none⟩ = some (.string (f k).1) := (hkp.1.cell (p := ⟨g, k * 2, none⟩) hgn).trans (hc0 k hkl)
      have c1 : wr.drew.cell? ⟨g, k * 2 + 1, none⟩ = some (.int .i64 (f k).2) := (hkp.1.cell (p := ⟨g, k * 2 + 1, none⟩) hgn).trans (hc1 k hkl)
      obtain ⟨fn, tmps, assign, body, hy, hR⟩ := hY _ (f k) wr.drew (hdr _ _ hJs) (by rw [upto_length]; omega)
      unfold encU at hy
      obtain ⟨cur, fz, hgb⟩ := hgb (by omega)
      have pt := part77 g k cur fz wr.drew ((hkp.1.block g hgn).trans hgb)
      clear hY d0 hc0 hc1 hs0 hs1 hBs hJs
      have q : (k : Int) < len := by omega
      gi_wp2
      refine still_tail_in 17 (by kernel_rfl) ?_
      simp only [List.take_succ_cons, List.take_zero, List.drop_succ_cons, List.drop_zero]
      repeat still_step
      refine wpStill_nil ?_
      gi_wp2
      refine ⟨fun h => (by simp [Fence.wide] at h), hR.mono ?_⟩
      rintro e W3 (⟨rfl, hJ3, hk3⟩ | ⟨rfl, hJx3⟩)
      · gi_wp2
        go_roundw
        case rel => exact ⟨k, by omega, rfl, by
          have e1 : len - k = (len - (k + 1)) + 1 := by omega
          have e2 : len - 1 - (len - (k + 1)) = k := by omega
          rw [e1, upto_succ, e2]; exact hJ3, hkp.trans (KpB.trans ⟨(Below.refl _ _).drew, fun _ h => h⟩ hk3)⟩
        case measure => simp [intOf]
      · gi_wp2
        refine bodyPost_ret (results_none rfl _ _ _) rfl ?_
        exact ⟨⟨_, rfl⟩, .inr ⟨_, trivial, hJx3⟩⟩
structure RecD where
  id : ByteArray
  cp : Int
  st : Int
  rm : Bool
def encR (c : ByteArray) (x : RecD) : Array Value := #[.agg #[.string x.id, .int .i64 x.cp], entV c x.id x.cp x.st 5 (.slice none 0 0) x.rm (!x.rm)]

set_option maxRecDepth 100000 in
set_option maxHeartbeats 2000000 in
theorem all31_in (n l Bs n₀ sh g len cap : Nat) (lp : Option Addr) (c : ByteArray) (f : Nat → RecD) (hlen : len ≤ 1024) (hlp : 0 < len → lp = some ⟨g, 0, none⟩) (hsh : sh < n₀) (hg : 0 < len → g < n₀) (J Jx : List (RecD) → World → Prop)
    (hdr : ∀ p W, J p W → J p W.drew)
    (hY : ∀ pre x W, J pre W → pre.length < len → YieldAt Fence.wide (n - 1) Yba.prog l (encR c x) W fun e W' =>
      (e = .returned (.bool true) ∧ J (pre ++ [x]) W' ∧ KpB n₀ Bs W W') ∨ (e = .returned (.bool false) ∧ Jx (pre ++ [x]) W'))
    (W : World) (hBs : W.cell? ⟨Bs, 0, none⟩ = some (.pointer (some ⟨sh, 2, none⟩))) (hs0 : W.cell? ⟨sh, 2, none⟩ = some (.slice lp len cap)) (hs1 : W.cell? ⟨sh, 3, none⟩ = some (.map none))
    (hp : ∀ i, i < len → PlAt W g (i * 15) c (f i).id (f i).cp (f i).st 5 (.slice none 0 0) (f i).rm (!(f i).rm)) (h0 : J [] W) :
    CallsIn Fence.wide n Yba.prog 31 #[.func (.yield l) #[] #[], .pointer (some ⟨Bs, 0, none⟩)] W fun e W' => (∃ v, e = .returned v) ∧
      ((∃ ys, ys = upto (fun j => f (len - 1 - j)) len ∧ J ys W') ∨ (∃ pre, True ∧ Jx pre W')) := by
  have n43 := nm43e
  refine callsIn_of_wp Yba.func31 rfl trivial ?_ rfl
  simp only [Yba.ntmps31, List.size_toArray, List.length_cons, List.length_nil, Nat.reduceAdd, Nat.reduceSub, Array.replicate_succ, Array.replicate_zero, List.push_toArray, List.append_toArray, List.nil_append, List.cons_append]
  gi_wp2
  gi_loopw [3] (fun i wr => ∃ k : Nat, k ≤ len ∧ i = .int .i64 k ∧ J (upto (fun j => f (len - 1 - j)) (len - k)) wr ∧ KpB n₀ Bs W wr)
    (fun i _ => (intOf i).toNat)
  case atStart => exact ⟨len, Nat.le_refl _, rfl, by simpa [upto] using h0, KpB.refl _ _ _⟩
  case round =>
    obtain ⟨k, hk, rfl, hJs, hkp⟩ := hrel
    have b0 := hkp.2 _ hBs
    have s0 := (hkp.1.cell (p := ⟨sh, 2, none⟩) hsh).trans hs0
    have s1 := (hkp.1.cell (p := ⟨sh, 3, none⟩) hsh).trans hs1
    obtain rfl | ⟨k, rfl⟩ : k = 0 ∨ ∃ j, k = j + 1 := by cases k; exact .inl rfl; exact .inr ⟨_, rfl⟩
    · have q : (0 : Int) ≤ len := by omega
      gi_wp2
      refine bodyPost_ret (results_none rfl _ _ _) rfl ?_
      exact ⟨⟨_, rfl⟩, .inl ⟨_, rfl, hJs⟩⟩
    · have hkl : k < len := by omega
      obtain rfl := hlp (by omega)
      have hgn := hg (by omega)
      have d0 : ∀ v, wr.cell? ⟨Bs, 0, none⟩ = some v → wr.drew.cell? ⟨Bs, 0, none⟩ = some v := fun _ h => h
      have bd := d0 _ b0
      have sd : wr.drew.cell? ⟨sh, 2, none⟩ = some (.slice (some ⟨g, 0, none⟩) len cap) := s0
      have q0 : wr.drew.cell? _ = some _ := (hkp.1.cell (p := ⟨g, k * 15, none⟩) hgn).trans (hp k hkl).p0
      have q1 : wr.drew.cell? _ = some _ := (hkp.1.cell (p := ⟨g, k * 15 + 1, none⟩) hgn).trans (hp k hkl).p1
      have q2 : wr.drew.cell? _ = some _ := (hkp.1.cell (p := ⟨g, k * 15 + 2, none⟩) hgn).trans (hp k hkl).p2
      have q3 : wr.drew.cell? _ = some _ := (hkp.1.cell (p := ⟨g, k * 15 + 3, none⟩) hgn).trans (hp k hkl).p3
      have q4 : wr.drew.cell? _ = some _ := (hkp.1.cell (p := ⟨g, k * 15 + 4, none⟩) hgn).trans (hp k hkl).p4
      have q5 : wr.drew.cell? _ = some _ := (hkp.1.cell (p := ⟨g, k * 15 + 5, none⟩) hgn).trans (hp k hkl).p5
      have q6 : wr.drew.cell? _ = some _ := (hkp.1.cell (p := ⟨g, k * 15 + 6, none⟩) hgn).trans (hp k hkl).p6
      have q7 : wr.drew.cell? _ = some _ := (hkp.1.cell (p := ⟨g, k * 15 + 7, none⟩) hgn).trans (hp k hkl).p7
      have q8 : wr.drew.cell? _ = some _ := (hkp.1.cell (p := ⟨g, k * 15 + 8, none⟩) hgn).trans (hp k hkl).p8
      have q9 : wr.drew.cell? _ = some _ := (hkp.1.cell (p := ⟨g, k * 15 + 9, none⟩) hgn).trans (hp k hkl).p9
      have q10 : wr.drew.cell? _ = some _ := (hkp.1.cell (p := ⟨g, k * 15 + 10, none⟩) hgn).trans (hp k hkl).p10
      have q11 : wr.drew.cell? _ = some _ := (hkp.1.cell (p := ⟨g, k * 15 + 11, none⟩) hgn).trans (hp k hkl).p11
      have q12 : wr.drew.cell? _ = some _ := (hkp.1.cell (p := ⟨g, k * 15 + 12, none⟩) hgn).trans (hp k hkl).p12
      have q13 : wr.drew.cell? _ = some _ := (hkp.1.cell (p := ⟨g, k * 15 + 13, none⟩) hgn).trans (hp k hkl).p13
      have q14 : wr.drew.cell? _ = some _ := (hkp.1.cell (p := ⟨g, k * 15 + 14, none⟩) hgn).trans (hp k hkl).p14
      obtain ⟨fn, tmps, assign, body, hy, hR⟩ := hY _ (f k) wr.drew (hdr _ _ hJs) (by rw [upto_length]; omega)
      unfold encR entV at hy
      clear hY d0 hp hs0 hs1 hBs hJs
      have q : (k : Int) < len := by omega
      gi_wp2
      refine still_tail_in 17 (by kernel_rfl) ?_
      simp only [List.take_succ_cons, List.take_zero, List.drop_succ_cons, List.drop_zero]
      repeat still_step
      refine wpStill_nil ?_
      gi_wp2
      refine ⟨fun h => (by simp [Fence.wide] at h), hR.mono ?_⟩
      rintro e W3 (⟨rfl, hJ3, hk3⟩ | ⟨rfl, hJx3⟩)
      · gi_wp2
        go_roundw
        case rel => exact ⟨k, by omega, rfl, by
          have e1 : len - k = (len - (k + 1)) + 1 := by omega
          have e2 : len - 1 - (len - (k + 1)) = k := by omega
          rw [e1, upto_succ, e2]; exact hJ3, hkp.trans (KpB.trans ⟨(Below.refl _ _).drew, fun _ h => h⟩ hk3)⟩
        case measure => simp [intOf]
      · gi_wp2
        refine bodyPost_ret (results_none rfl _ _ _) rfl ?_
        exact ⟨⟨_, rfl⟩, .inr ⟨_, trivial, hJx3⟩⟩

set_option maxHeartbeats 1000000 in
theorem all21_in (n : Nat) (p0 : Option Addr) (w : World) :
    CallsIn Fence.wide n Yba.prog 21 #[.pointer p0] w fun e w' => e = .returned (.func (.func 29) #[] #[.pointer (some ⟨w.heap.size, 0, none⟩)]) ∧ w' = w.alloc (.cells #[.pointer p0] 126) := by
  refine callsIn_of_wp Yba.func21 rfl trivial ?_ rfl
  simp only [Yba.ntmps21, List.size_toArray, List.length_cons, List.length_nil, Nat.reduceAdd, Nat.reduceSub, Array.replicate_succ, Array.replicate_zero, List.push_toArray, List.append_toArray, List.nil_append, List.cons_append]
  gi_wp2
  go_ret
  exact ⟨rfl, rfl⟩

set_option maxHeartbeats 1000000 in
theorem all23_in (n : Nat) (p0 : Option Addr) (w : World) :
    CallsIn Fence.wide n Yba.prog 23 #[.pointer p0] w fun e w' => e = .returned (.func (.func 31) #[] #[.pointer (some ⟨w.heap.size, 0, none⟩)]) ∧ w' = w.alloc (.cells #[.pointer p0] 130) := by
  refine callsIn_of_wp Yba.func23 rfl trivial ?_ rfl
  simp only [Yba.ntmps23, List.size_toArray, List.length_cons, List.length_nil, Nat.reduceAdd, Nat.reduceSub, Array.replicate_succ, Array.replicate_zero, List.push_toArray, List.append_toArray, List.nil_append, List.cons_append]
  gi_wp2
  go_ret
  exact ⟨rfl, rfl⟩

theorem grown_drew (W : World) : W.grownBy W.drew none := ⟨rfl, rfl, rfl, Nat.le_refl _, fun _ _ _ => rfl⟩

theorem unsent_stops (n Bs n₀ sh g len cap : Nat) (lp : Option Addr) (f : Nat → ByteArray × Int) (hlen : len ≤ 1024) (hlp : 0 < len → lp = some ⟨g, 0, none⟩) (hsh : sh < n₀) (hg : 0 < len → g < n₀) (w : World) (hBw : Bs < w.heap.size) (hn₀ : n₀ ≤ w.heap.size)
    (hBs : w.cell? ⟨Bs, 0, none⟩ = some (.pointer (some ⟨sh, 6, none⟩))) (hs0 : w.cell? ⟨sh, 6, none⟩ = some (.slice lp len cap)) (hs1 : w.cell? ⟨sh, 7, none⟩ = some (.map none))
    (hc0 : ∀ i, i < len → w.cell? ⟨g, i * 2, none⟩ = some (.string (f i).1)) (hc1 : ∀ i, i < len → w.cell? ⟨g, i * 2 + 1, none⟩ = some (.int .i64 (f i).2)) (hgb : 0 < len → ∃ cur fz, w.heap[g]? = some (.cells cur 77 fz)) :
    SeqStopsK Fence.wide n Yba.prog 29 #[.pointer (some ⟨Bs, 0, none⟩)] encU (KpB n₀ Bs) (fun ys => ys = upto (fun j => f (len - 1 - j)) len) (fun _ => True) len w := fun l J Jx W hW hJ hJx hY h0 => by
  have k : ∀ b o v, b < w.heap.size → w.cell? ⟨b, o, none⟩ = some v → W.cell? ⟨b, o, none⟩ = some v := fun b o v hb h => (hW.cell (p := ⟨b, o, none⟩) hb).trans h
  exact all29_in n l Bs n₀ sh g len cap lp f hlen hlp hsh hg J Jx (fun p W' h => hJ p W' _ none h (grown_drew W') (by intro r e; cases e)) hY W (k _ _ _ hBw hBs) (k _ _ _ (by omega) hs0) (k _ _ _ (by omega) hs1)
    (fun i hi => k _ _ _ (by have := hg (by omega); omega) (hc0 i hi)) (fun i hi => k _ _ _ (by have := hg (by omega); omega) (hc1 i hi))
    (fun h => by obtain ⟨cur, fz, e⟩ := hgb h; exact ⟨cur, fz, (hW.block g (by have := hg h; omega)).trans e⟩) h0

theorem PlAt.below {n₀ : Nat} {W W' : World} {g o : Nat} {c id : ByteArray} {cp st sq : Int} {body : Value} {rm gn : Bool} (hb : Below n₀ W W') (hg : g < n₀) (h : PlAt W g o c id cp st sq body rm gn) : PlAt W' g o c id cp st sq body rm gn := by
  have e : ∀ f, W'.cell? ⟨g, f, none⟩ = W.cell? ⟨g, f, none⟩ := fun f => hb.cell (p := ⟨g, f, none⟩) hg
  constructor <;> (rw [e]; first | exact h.p0 | exact h.p1 | exact h.p2 | exact h.p3 | exact h.p4 | exact h.p5 | exact h.p6 | exact h.p7 | exact h.p8 | exact h.p9 | exact h.p10 | exact h.p11 | exact h.p12 | exact h.p13 | exact h.p14)

theorem recs_stops (n Bs n₀ sh g len cap : Nat) (lp : Option Addr) (c : ByteArray) (f : Nat → RecD) (hlen : len ≤ 1024) (hlp : 0 < len → lp = some ⟨g, 0, none⟩) (hsh : sh < n₀) (hg : 0 < len → g < n₀) (w : World) (hBw : Bs < w.heap.size) (hn₀ : n₀ ≤ w.heap.size)
    (hBs : w.cell? ⟨Bs, 0, none⟩ = some (.pointer (some ⟨sh, 2, none⟩))) (hs0 : w.cell? ⟨sh, 2, none⟩ = some (.slice lp len cap)) (hs1 : w.cell? ⟨sh, 3, none⟩ = some (.map none))
    (hp : ∀ i, i < len → PlAt w g (i * 15) c (f i).id (f i).cp (f i).st 5 (.slice none 0 0) (f i).rm (!(f i).rm)) :
    SeqStopsK Fence.wide n Yba.prog 31 #[.pointer (some ⟨Bs, 0, none⟩)] (encR c) (KpB n₀ Bs) (fun ys => ys = upto (fun j => f (len - 1 - j)) len) (fun _ => True) len w := fun l J Jx W hW hJ hJx hY h0 => by
  have k : ∀ b o v, b < w.heap.size → w.cell? ⟨b, o, none⟩ = some v → W.cell? ⟨b, o, none⟩ = some v := fun b o v hb h => (hW.cell (p := ⟨b, o, none⟩) hb).trans h
  exact all31_in n l Bs n₀ sh g len cap lp c f hlen hlp hsh hg J Jx (fun p W' h => hJ p W' _ none h (grown_drew W') (by intro r e; cases e)) hY W (k _ _ _ hBw hBs) (k _ _ _ (by omega) hs0) (k _ _ _ (by omega) hs1)
    (fun i hi => (hp i hi).below hW (by have := hg (by omega); omega)) h0
end Go.Proofs.Ybulkdfja
