/-
  places[Entry].get (30) on a list.
-/
import Derived.Test.YbulkdfjaPl
import Derived.Laws.ResultCell
namespace Go.Proofs.Ybulkdfja
open Go.RowKit
set_option linter.unusedVariables false

/-- What get hands back. -/
def gotE (c : ByteArray) (eid : Nat → ByteArray) (ecp est : Nat → Int) (bd : Nat → Option Addr) (bl bc : Nat → Nat) : Option Nat → Value
  | some i => entV c (eid i) (ecp i) (est i) 7 (.slice (bd i) (bl i) (bc i)) false false
  | none => zeroE

set_option maxRecDepth 100000 in
set_option maxHeartbeats 1600000 in
theorem get_walk (sh g n cap : Nat) (lp : Option Addr) (hlp : 0 < n → lp = some ⟨g, 0, none⟩) (c : ByteArray) (eid : Nat → ByteArray) (ecp est : Nat → Int) (bd : Nat → Option Addr) (bl bc : Nat → Nat) (id : ByteArray) (cp : Int) (w : World) (hn : n ≤ 1024)
    (hs0 : w.cell? ⟨sh, 0, none⟩ = some (.slice lp n cap)) (hs1 : w.cell? ⟨sh, 1, none⟩ = some (.map none))
    (hp : ∀ i, i < n → PlAt w g (i * 15) c (eid i) (ecp i) (est i) 7 (.slice (bd i) (bl i) (bc i)) false false) :
    Calls Yba.prog 30 #[.pointer (some ⟨sh, 0, none⟩), .agg #[.string id, .int .i64 cp]] w fun e w' =>
      e = .returned (.tuple #[gotE c eid ecp est bd bl bc (getFrom eid ecp id cp n 0), .bool (getFrom eid ecp id cp n 0).isSome]) ∧ Below w.heap.size w w' := by
  have hsl : sh < w.heap.size := World.block_lt_of_cell? w _ hs0
  have s0 : ∀ o o2, ((w.alloc o).alloc o2).cell? ⟨sh, 0, none⟩ = some (.slice lp n cap) := fun o o2 => (World.cell?_alloc_lt _ _ _ (by simp; omega)).trans ((World.cell?_alloc_lt _ _ _ hsl).trans hs0)
  have s1 : ∀ o o2, ((w.alloc o).alloc o2).cell? ⟨sh, 1, none⟩ = some (.map none) := fun o o2 => (World.cell?_alloc_lt _ _ _ (by simp; omega)).trans ((World.cell?_alloc_lt _ _ _ hsl).trans hs1)
  have n43 := nm43
  obtain ⟨N, hN⟩ : ∃ N, w.heap.size = N := ⟨_, rfl⟩
  have HN : Hid (w.heap.size = N) := hN
  go_enter Yba.func30, Yba.ntmps30
  go_wp2
  clear s0 s1 n43 hN
  go_loopw [31, 8] (fun vi _ wr => ∃ (i : Nat) (w0 : World), i ≤ n ∧ vi = .int .i64 i ∧ Below N w w0 ∧ w0.heap.size = N ∧ getFrom eid ecp id cp n 0 = getFrom eid ecp id cp (n - i) i ∧
    wr = (w0.alloc (Obj.cells #[Value.string id, Value.int IntKind.i64 cp] 62)).alloc (Obj.cells
        #[Value.string { data := #[] }, Value.string { data := #[] }, Value.int IntKind.i64 0, Value.slice none 0 0,
          Value.slice none 0 0, Value.int IntKind.u64 0, Value.int IntKind.u64 0, Value.bool false, Value.bool false,
          Value.int IntKind.u64 0, Value.int IntKind.i64 0, Value.pointer none, Value.bool false]
        68)) (fun vi _ _ => n - (intOf vi).toNat)
  case atStart => exact ⟨0, w, by omega, rfl, Below.refl _ _, HN.out, rfl, rfl⟩
  case round =>
    obtain ⟨i, w0, hi, rfl, hbl, hsz, hf, rfl⟩ := hrel
    have cellW : ∀ b o v, w.cell? ⟨b, o, none⟩ = some v → ∀ o1 o2, ((w0.alloc o1).alloc o2).cell? ⟨b, o, none⟩ = some v := by
      intro b o v h o1 o2
      have hb : b < N := by rw [← HN.out]; exact World.block_lt_of_cell? w _ h
      rw [World.cell?_alloc_lt _ _ _ (by simp; omega), World.cell?_alloc_lt _ _ _ (by simp; omega), hbl.cell (p := ⟨b, o, none⟩) hb]
      exact h
    by_cases hlt : i < n
    · obtain rfl := hlp (by omega)
      have P := hp i hlt
      have e0 := cellW _ _ _ hs0
      have q0 := cellW _ _ _ P.p0
      have q1 := cellW _ _ _ P.p1
      have q2 := cellW _ _ _ P.p2
      have q3 := cellW _ _ _ P.p3
      have q4 := cellW _ _ _ P.p4
      have q5 := cellW _ _ _ P.p5
      have q6 := cellW _ _ _ P.p6
      have q7 := cellW _ _ _ P.p7
      have q8 := cellW _ _ _ P.p8
      have q9 := cellW _ _ _ P.p9
      have q10 := cellW _ _ _ P.p10
      have q11 := cellW _ _ _ P.p11
      have q12 := cellW _ _ _ P.p12
      have q13 := cellW _ _ _ P.p13
      have q14 := cellW _ _ _ P.p14
      have q : (i : Int) < n := by omega
      have he := eq62
      have hg := guard62
      clear cellW P hp hs0 hs1
      have ef : n - i = (n - (i + 1)) + 1 := by omega
      rw [ef, getFrom] at hf
      clear ef
      by_cases h1 : (eid i).toList = id.toList ∧ ecp i = cp
      · rw [if_pos h1] at hf
        have hb : ((eid i).toList == id.toList && ecp i == cp) = true := by simp [h1.1, h1.2]
        clear h1
        go_wp2
        refine still_all mixed (by kernel_rfl) ?_
        repeat still_step
        refine wpStill_nil ?_
        go_wp2
        refine bodyPost_ret (v := .tuple #[entV c (eid i) (ecp i) (est i) 7 (.slice (bd i) (bl i) (bc i)) false false, .bool true]) ?_ rfl ⟨by rw [hf]; rfl, ?_⟩
        · rw [results_cell_tmp rfl]
          go_simp
          rfl
        · rw [HN.out]
          exact ((hbl.alloc (by omega) _).alloc (by simp; omega) _).drew
      · rw [if_neg h1] at hf
        have hb : ((eid i).toList == id.toList && ecp i == cp) = false := by
          cases h : ((eid i).toList == id.toList && ecp i == cp) with
          | false => rfl
          | true => simp at h; exact absurd h h1
        have HF : Hid (getFrom eid ecp id cp n 0 = getFrom eid ecp id cp (n - (i + 1)) (i + 1)) := hf
        clear h1 hf
        go_wp2
        refine still_all mixed (by kernel_rfl) ?_
        repeat still_step
        refine wpStill_nil ?_
        go_wp2
        go_roundw
        case rel => exact ⟨i + 1, w0.drew, by omega, by go_num, hbl.drew, hsz, HF.out, rfl⟩
        case measure => simp [intOf]; omega
    · have q : ¬ ((i : Int) < n) := by omega
      have e0 := cellW _ _ _ hs0
      have hf2 : getFrom eid ecp id cp n 0 = none := by
        rw [hf]
        have : n - i = 0 := by omega
        rw [this, getFrom]
      clear cellW hp hs0 hs1 hf
      go_wp2
      refine bodyPost_ret (v := .tuple #[zeroE, .bool false]) ?_ rfl ⟨rfl, ?_⟩
      · rw [results_cell_tmp rfl]
        go_simp
        rfl
      · rw [HN.out]
        exact ((hbl.alloc (by omega) _).alloc (by simp; omega) _).alloc (by simp; omega) _
end Go.Proofs.Ybulkdfja
