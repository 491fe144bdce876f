/-
  zzs5327cqr (10): the quarter round on four places of an array in memory.
-/
import Derived.Test.YbulkdfhkKp
namespace Go.Proofs.Ybulkdfhk
open Go.RowKit

/-- The quarter round at places a, b, c, d. -/
def upd (s : Nat → Int) (a b c d : Nat) : Nat → Int := fun i =>
  if i = a then qA (s a) (s b) (s c) (s d) else if i = b then qB (s a) (s b) (s c) (s d) else if i = c then qC (s a) (s b) (s c) (s d) else if i = d then qD (s a) (s b) (s c) (s d) else s i

/-- Four places of block X hold the four words, and may be written. -/
structure Four (w : World) (X a b c d : Nat) (xa xb xc xd : Int) : Prop where
  ca : w.cell? ⟨X, a, none⟩ = some (.int .u32 xa)
  cb : w.cell? ⟨X, b, none⟩ = some (.int .u32 xb)
  cc : w.cell? ⟨X, c, none⟩ = some (.int .u32 xc)
  cd : w.cell? ⟨X, d, none⟩ = some (.int .u32 xd)
  fa : w.frozen? ⟨X, a, none⟩ = false
  fb : w.frozen? ⟨X, b, none⟩ = false
  fc : w.frozen? ⟨X, c, none⟩ = false
  fd : w.frozen? ⟨X, d, none⟩ = false

theorem ne_addr {X i j : Nat} (h : i ≠ j) : (⟨X, i, none⟩ : Addr) ≠ ⟨X, j, none⟩ := fun hh => h (Addr.mk.inj hh).2.1
section
variable {w : World} {X a b c d : Nat} {xa xb xc xd : Int}
theorem Four.setA (F : Four w X a b c d xa xb xc xd) (hab : a ≠ b) (hac : a ≠ c) (had : a ≠ d) (v : Int) : Four (w.setCell ⟨X, a, none⟩ (.int .u32 v)).drew X a b c d v xb xc xd :=
  ⟨World.cell?_setCell_same _ _ _ F.ca, (World.cell?_setCell_other _ _ _ _ (ne_addr hab)).trans F.cb, (World.cell?_setCell_other _ _ _ _ (ne_addr hac)).trans F.cc, (World.cell?_setCell_other _ _ _ _ (ne_addr had)).trans F.cd,
    (World.frozen?_setCell _ _ _ _).trans F.fa, (World.frozen?_setCell _ _ _ _).trans F.fb, (World.frozen?_setCell _ _ _ _).trans F.fc, (World.frozen?_setCell _ _ _ _).trans F.fd⟩
theorem Four.turn (F : Four w X a b c d xa xb xc xd) : Four w X b c d a xb xc xd xa := ⟨F.cb, F.cc, F.cd, F.ca, F.fb, F.fc, F.fd, F.fa⟩
theorem Four.setB (F : Four w X a b c d xa xb xc xd) (hbc : b ≠ c) (hbd : b ≠ d) (hba : b ≠ a) (v : Int) : Four (w.setCell ⟨X, b, none⟩ (.int .u32 v)).drew X a b c d xa v xc xd :=
  (F.turn.setA hbc hbd hba v).turn.turn.turn
theorem Four.setC (F : Four w X a b c d xa xb xc xd) (hcd : c ≠ d) (hca : c ≠ a) (hcb : c ≠ b) (v : Int) : Four (w.setCell ⟨X, c, none⟩ (.int .u32 v)).drew X a b c d xa xb v xd :=
  (F.turn.turn.setA hcd hca hcb v).turn.turn
theorem Four.setD (F : Four w X a b c d xa xb xc xd) (hda : d ≠ a) (hdb : d ≠ b) (hdc : d ≠ c) (v : Int) : Four (w.setCell ⟨X, d, none⟩ (.int .u32 v)).drew X a b c d xa xb xc v :=
  (F.turn.turn.turn.setA hda hdb hdc v).turn
end

set_option maxRecDepth 100000 in
set_option maxHeartbeats 4000000 in
theorem qm (X a b c d : Nat) (xa xb xc xd : Int) (w : World) (ha : (a : Int) < 16) (hb : (b : Int) < 16) (hc : (c : Int) < 16) (hd : (d : Int) < 16)
    (F : Four w X a b c d xa xb xc xd)
    (hab : a ≠ b) (hac : a ≠ c) (had : a ≠ d) (hbc : b ≠ c) (hbd : b ≠ d) (hcd : c ≠ d) (hba : b ≠ a) (hca : c ≠ a) (hda : d ≠ a) (hcb : c ≠ b) (hdb : d ≠ b) (hdc : d ≠ c) :
    Calls Yba.prog 10 #[.pointer (some ⟨X, 0, none⟩), .int .i64 a, .int .i64 b, .int .i64 c, .int .i64 d] w fun e w' => e = .returned (.tuple #[]) ∧ ∃ a1 d1 c1 b1, w' =
      ((((((((w.setCell ⟨X, a, none⟩ (.int .u32 a1)).drew.setCell ⟨X, d, none⟩ (.int .u32 d1)).drew.setCell ⟨X, c, none⟩ (.int .u32 c1)).drew.setCell ⟨X, b, none⟩ (.int .u32 b1)).drew.setCell 
        ⟨X, a, none⟩ (.int .u32 (qA xa xb xc xd))).drew.setCell ⟨X, d, none⟩ (.int .u32 (qD xa xb xc xd))).drew.setCell ⟨X, c, none⟩ (.int .u32 (qC xa xb xc xd))).drew.setCell ⟨X, b, none⟩ (.int .u32 (qB xa xb xc xd))).drew := by
  obtain ⟨ca, cb, cc, cd, fa, fb, fc, fd⟩ := F
  have F0 : Four w X a b c d xa xb xc xd := ⟨ca, cb, cc, cd, fa, fb, fc, fd⟩
  go_enter Yba.func10, Yba.ntmps10
  go_wp2
  refine still_tail 13 mixed (by kernel_rfl) ?_
  simp only [List.take_succ_cons, List.take_zero, List.drop_succ_cons, List.drop_zero]
  repeat still_step
  refine wpStill_nil ?_
  go_wp2
  obtain ⟨v1, Hv1⟩ : ∃ v, Hid (v = (xa + xb) % 4294967296) := ⟨_, rfl⟩
  obtain ⟨w1, Hw1⟩ : ∃ u, Hid (u = (w.setCell ⟨X, a, none⟩ (.int .u32 v1)).drew) := ⟨_, rfl⟩
  rw [← Hv1.out, ← Hw1.out]
  have F1 : Four w1 X a b c d v1 xb xc xd := by rw [Hw1.out]; exact F0.setA hab hac had v1
  clear ca cb cc cd fa fb fc fd F0
  obtain ⟨ca, cb, cc, cd, fa, fb, fc, fd⟩ := F1
  have F1 : Four w1 X a b c d v1 xb xc xd := ⟨ca, cb, cc, cd, fa, fb, fc, fd⟩
  refine still_tail 16 mixed (by kernel_rfl) ?_
  simp only [List.take_succ_cons, List.take_zero, List.drop_succ_cons, List.drop_zero]
  repeat still_step
  still_call (rotl16 _ _)
  repeat still_step
  refine wpStill_nil ?_
  go_wp2
  obtain ⟨v2, Hv2⟩ : ∃ v, Hid (v = r16 (bits BinOp.xor IntKind.u32 xd v1)) := ⟨_, rfl⟩
  obtain ⟨w2, Hw2⟩ : ∃ u, Hid (u = (w1.setCell ⟨X, d, none⟩ (.int .u32 v2)).drew) := ⟨_, rfl⟩
  rw [← Hv2.out, ← Hw2.out]
  have F2 : Four w2 X a b c d v1 xb xc v2 := by rw [Hw2.out]; exact F1.setD hda hdb hdc v2
  clear ca cb cc cd fa fb fc fd F1
  obtain ⟨ca, cb, cc, cd, fa, fb, fc, fd⟩ := F2
  have F2 : Four w2 X a b c d v1 xb xc v2 := ⟨ca, cb, cc, cd, fa, fb, fc, fd⟩
  refine still_tail 13 mixed (by kernel_rfl) ?_
  simp only [List.take_succ_cons, List.take_zero, List.drop_succ_cons, List.drop_zero]
  repeat still_step
  refine wpStill_nil ?_
  go_wp2
  obtain ⟨v3, Hv3⟩ : ∃ v, Hid (v = (xc + v2) % 4294967296) := ⟨_, rfl⟩
  obtain ⟨w3, Hw3⟩ : ∃ u, Hid (u = (w2.setCell ⟨X, c, none⟩ (.int .u32 v3)).drew) := ⟨_, rfl⟩
  rw [← Hv3.out, ← Hw3.out]
  have F3 : Four w3 X a b c d v1 xb v3 v2 := by rw [Hw3.out]; exact F2.setC hcd hca hcb v3
  clear ca cb cc cd fa fb fc fd F2
  obtain ⟨ca, cb, cc, cd, fa, fb, fc, fd⟩ := F3
  have F3 : Four w3 X a b c d v1 xb v3 v2 := ⟨ca, cb, cc, cd, fa, fb, fc, fd⟩
  refine still_tail 16 mixed (by kernel_rfl) ?_
  simp only [List.take_succ_cons, List.take_zero, List.drop_succ_cons, List.drop_zero]
  repeat still_step
  still_call (rotl12 _ _)
  repeat still_step
  refine wpStill_nil ?_
  go_wp2
  obtain ⟨v4, Hv4⟩ : ∃ v, Hid (v = r12 (bits BinOp.xor IntKind.u32 xb v3)) := ⟨_, rfl⟩
  obtain ⟨w4, Hw4⟩ : ∃ u, Hid (u = (w3.setCell ⟨X, b, none⟩ (.int .u32 v4)).drew) := ⟨_, rfl⟩
  rw [← Hv4.out, ← Hw4.out]
  have F4 : Four w4 X a b c d v1 v4 v3 v2 := by rw [Hw4.out]; exact F3.setB hbc hbd hba v4
  clear ca cb cc cd fa fb fc fd F3
  obtain ⟨ca, cb, cc, cd, fa, fb, fc, fd⟩ := F4
  have F4 : Four w4 X a b c d v1 v4 v3 v2 := ⟨ca, cb, cc, cd, fa, fb, fc, fd⟩
  refine still_tail 13 mixed (by kernel_rfl) ?_
  simp only [List.take_succ_cons, List.take_zero, List.drop_succ_cons, List.drop_zero]
  repeat still_step
  refine wpStill_nil ?_
  go_wp2
  obtain ⟨v5, Hv5⟩ : ∃ v, Hid (v = (v1 + v4) % 4294967296) := ⟨_, rfl⟩
  obtain ⟨w5, Hw5⟩ : ∃ u, Hid (u = (w4.setCell ⟨X, a, none⟩ (.int .u32 v5)).drew) := ⟨_, rfl⟩
  rw [← Hv5.out, ← Hw5.out]
  have F5 : Four w5 X a b c d v5 v4 v3 v2 := by rw [Hw5.out]; exact F4.setA hab hac had v5
  clear ca cb cc cd fa fb fc fd F4
  obtain ⟨ca, cb, cc, cd, fa, fb, fc, fd⟩ := F5
  have F5 : Four w5 X a b c d v5 v4 v3 v2 := ⟨ca, cb, cc, cd, fa, fb, fc, fd⟩
  refine still_tail 16 mixed (by kernel_rfl) ?_
  simp only [List.take_succ_cons, List.take_zero, List.drop_succ_cons, List.drop_zero]
  repeat still_step
  still_call (rotl8 _ _)
  repeat still_step
  refine wpStill_nil ?_
  go_wp2
  obtain ⟨v6, Hv6⟩ : ∃ v, Hid (v = r8 (bits BinOp.xor IntKind.u32 v2 v5)) := ⟨_, rfl⟩
  obtain ⟨w6, Hw6⟩ : ∃ u, Hid (u = (w5.setCell ⟨X, d, none⟩ (.int .u32 v6)).drew) := ⟨_, rfl⟩
  rw [← Hv6.out, ← Hw6.out]
  have F6 : Four w6 X a b c d v5 v4 v3 v6 := by rw [Hw6.out]; exact F5.setD hda hdb hdc v6
  clear ca cb cc cd fa fb fc fd F5
  obtain ⟨ca, cb, cc, cd, fa, fb, fc, fd⟩ := F6
  have F6 : Four w6 X a b c d v5 v4 v3 v6 := ⟨ca, cb, cc, cd, fa, fb, fc, fd⟩
  refine still_tail 13 mixed (by kernel_rfl) ?_
  simp only [List.take_succ_cons, List.take_zero, List.drop_succ_cons, List.drop_zero]
  repeat still_step
  refine wpStill_nil ?_
  go_wp2
  obtain ⟨v7, Hv7⟩ : ∃ v, Hid (v = (v3 + v6) % 4294967296) := ⟨_, rfl⟩
  obtain ⟨w7, Hw7⟩ : ∃ u, Hid (u = (w6.setCell ⟨X, c, none⟩ (.int .u32 v7)).drew) := ⟨_, rfl⟩
  rw [← Hv7.out, ← Hw7.out]
  have F7 : Four w7 X a b c d v5 v4 v7 v6 := by rw [Hw7.out]; exact F6.setC hcd hca hcb v7
  clear ca cb cc cd fa fb fc fd F6
  obtain ⟨ca, cb, cc, cd, fa, fb, fc, fd⟩ := F7
  have F7 : Four w7 X a b c d v5 v4 v7 v6 := ⟨ca, cb, cc, cd, fa, fb, fc, fd⟩
  refine still_tail 16 mixed (by kernel_rfl) ?_
  simp only [List.take_succ_cons, List.take_zero, List.drop_succ_cons, List.drop_zero]
  repeat still_step
  still_call (rotl7 _ _)
  repeat still_step
  refine wpStill_nil ?_
  go_wp2
  obtain ⟨v8, Hv8⟩ : ∃ v, Hid (v = r7 (bits BinOp.xor IntKind.u32 v4 v7)) := ⟨_, rfl⟩
  obtain ⟨w8, Hw8⟩ : ∃ u, Hid (u = (w7.setCell ⟨X, b, none⟩ (.int .u32 v8)).drew) := ⟨_, rfl⟩
  rw [← Hv8.out, ← Hw8.out]
  have F8 : Four w8 X a b c d v5 v8 v7 v6 := by rw [Hw8.out]; exact F7.setB hbc hbd hba v8
  clear ca cb cc cd fa fb fc fd F7
  obtain ⟨ca, cb, cc, cd, fa, fb, fc, fd⟩ := F8
  have F8 : Four w8 X a b c d v5 v8 v7 v6 := ⟨ca, cb, cc, cd, fa, fb, fc, fd⟩
  clear ca cb cc cd fa fb fc fd F8
  go_end0
  have e2 : v2 = qd1 xa xb xd := by rw [Hv2.out, Hv1.out]; rfl
  have e4 : v4 = qb1 xa xb xc xd := by rw [Hv4.out, Hv3.out, e2]; rfl
  have e5 : v5 = qA xa xb xc xd := by rw [Hv5.out, Hv1.out, e4]; unfold qA; omega
  have e6 : v6 = qD xa xb xc xd := by rw [Hv6.out, e2, e5]; rfl
  have e7 : v7 = qC xa xb xc xd := by rw [Hv7.out, Hv3.out, e2, e6]; unfold qC; omega
  have e8 : v8 = qB xa xb xc xd := by rw [Hv8.out, e4, e7]; rfl
  refine ⟨rfl, v1, v2, v3, v4, ?_⟩
  rw [Hw8.out, Hw7.out, Hw6.out, Hw5.out, Hw4.out, Hw3.out, Hw2.out, Hw1.out, e5, e6, e7, e8]

theorem qmArr (X a b c d : Nat) (s : Nat → Int) (w : World) (ha : a < 16) (hb : b < 16) (hc : c < 16) (hd : d < 16) (hA : Arr w X s)
    (hab : a ≠ b) (hac : a ≠ c) (had : a ≠ d) (hbc : b ≠ c) (hbd : b ≠ d) (hcd : c ≠ d) :
    Calls Yba.prog 10 #[.pointer (some ⟨X, 0, none⟩), .int .i64 a, .int .i64 b, .int .i64 c, .int .i64 d] w fun e w' => e = .returned (.tuple #[]) ∧ Arr w' X (upd s a b c d) ∧ Kp [X] w w' := by
  refine (qm X a b c d (s a) (s b) (s c) (s d) w (by omega) (by omega) (by omega) (by omega)
    ⟨hA.cell a ha, hA.cell b hb, hA.cell c hc, hA.cell d hd, hA.free a ha, hA.free b hb, hA.free c hc, hA.free d hd⟩
    hab hac had hbc hbd hcd hab.symm hac.symm had.symm hbc.symm hbd.symm hcd.symm).mono ?_
  rintro e w' ⟨rfl, a1, d1, c1, b1, rfl⟩
  refine ⟨rfl, ?_, ?_⟩
  · refine ((((((((hA.set ha _).drew.set hd _).drew.set hc _).drew.set hb _).drew.set ha _).drew.set hd _).drew.set hc _).drew.set hb _).drew.congr (fun i hi => ?_)
    unfold put upd
    by_cases h1 : i = a
    · subst h1; rw [if_neg hab, if_neg hac, if_neg had, if_pos rfl, if_pos rfl]
    · by_cases h2 : i = b
      · subst h2; rw [if_pos rfl, if_neg h1, if_pos rfl]
      · by_cases h3 : i = c
        · subst h3; rw [if_neg h2, if_pos rfl, if_neg h1, if_neg h2, if_pos rfl]
        · by_cases h4 : i = d
          · subst h4; rw [if_neg h2, if_neg h3, if_pos rfl, if_neg h1, if_neg h2, if_neg h3, if_pos rfl]
          · simp only [h1, h2, h3, h4, if_false]
  · have m : X ∈ [X] := by simp
    exact ((((((((((((((((Kp.refl [X] w).setCell (p := ⟨X, a, none⟩) m _).drew).setCell (p := ⟨X, d, none⟩) m _).drew).setCell (p := ⟨X, c, none⟩) m _).drew).setCell (p := ⟨X, b, none⟩) m _).drew).setCell (p := ⟨X, a, none⟩) m _).drew).setCell (p := ⟨X, d, none⟩) m _).drew).setCell (p := ⟨X, c, none⟩) m _).drew).setCell (p := ⟨X, b, none⟩) m _).drew
end Go.Proofs.Ybulkdfhk
