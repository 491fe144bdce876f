/-
  dequeued (22), handOff (7).
-/
import Derived.Test.YbulkdfimComm
namespace Go.Proofs.Ybulkdfim
open Go.RowKit Go.Conc
set_option linter.unusedVariables false

theorem oth {w : World} {b o b' o' : Nat} {v : Value} {u : Option Value} (h : b ≠ b' ∨ o ≠ o') (e : w.cell? ⟨b', o', none⟩ = u) : (w.setCell ⟨b, o, none⟩ v).cell? ⟨b', o', none⟩ = u :=
  (World.cell?_setCell_other _ _ _ _ (fun hh => by have h1 := (Addr.mk.inj hh).1; have h2 := (Addr.mk.inj hh).2.1; omega)).trans e
theorem sam {w : World} {b o : Nat} {v u : Value} (e : w.cell? ⟨b, o, none⟩ = some u) : (w.setCell ⟨b, o, none⟩ v).cell? ⟨b, o, none⟩ = some v := World.cell?_setCell_same _ _ _ e
theorem frs {w : World} {p q : Addr} {v : Value} (e : w.frozen? q = false) : (w.setCell p v).frozen? q = false := (World.frozen?_setCell _ _ _ _).trans e

theorem deq_none (M : Nat) (x : Int) (w : World) (c0 : w.cell? ⟨M, 0, none⟩ = some (.int .u32 x)) (f0 : w.frozen? ⟨M, 0, none⟩ = false) (c9 : w.cell? ⟨M, 9, none⟩ = some (.pointer none)) :
    Calls Yba.prog 22 #[.pointer (some ⟨M, 0, none⟩)] w fun e w' => e = .returned (.tuple #[]) ∧ w' = w.setCell ⟨M, 0, none⟩ (.int .u32 ((x + 4294967288) % 4294967296)) := by
  go_enter Yba.func22, Yba.ntmps22
  go_wp2_with fail
  refine (uadd M 0 x 4294967288 _ c0 f0).mono ?_
  rintro e w' ⟨rfl, rfl⟩
  go_wp2_with (go_at_call 36; go_in)
  refine (empty_nil M 9 _ (oth (by omega) c9)).mono ?_
  rintro e w' ⟨rfl, rfl⟩
  go_wp2
  go_end0
  go_wp2
  go_end0
  exact ⟨rfl, rfl⟩

set_option maxRecDepth 100000 in
theorem deq_some (M Y : Nat) (x z h : Int) (w : World) (hMY : M ≠ Y) (c0 : w.cell? ⟨M, 0, none⟩ = some (.int .u32 x)) (f0 : w.frozen? ⟨M, 0, none⟩ = false) (c9 : w.cell? ⟨M, 9, none⟩ = some (.pointer (some ⟨Y, 0, none⟩)))
    (c5 : w.cell? ⟨M, 5, none⟩ = some (.int .i64 h)) (f5 : w.frozen? ⟨M, 5, none⟩ = false) (s3 : w.cell? ⟨Y, 3, none⟩ = some (.int .i64 z)) :
    Calls Yba.prog 22 #[.pointer (some ⟨M, 0, none⟩)] w fun e w' => e = .returned (.tuple #[]) ∧ w' = ((w.setCell ⟨M, 0, none⟩ (.int .u32 ((x + 4294967288) % 4294967296))).drew.setCell ⟨M, 5, none⟩ (.int .i64 z)) := by
  go_enter Yba.func22, Yba.ntmps22
  go_wp2_with fail
  refine (uadd M 0 x 4294967288 _ c0 f0).mono ?_
  rintro e w' ⟨rfl, rfl⟩
  have d9 : (w.setCell ⟨M, 0, none⟩ (.int .u32 ((x + 4294967288) % 4294967296))).cell? ⟨M, 9, none⟩ = _ := oth (by omega) c9
  have d3 : (w.setCell ⟨M, 0, none⟩ (.int .u32 ((x + 4294967288) % 4294967296))).cell? ⟨Y, 3, none⟩ = _ := oth (by omega) s3
  have d5 : (w.setCell ⟨M, 0, none⟩ (.int .u32 ((x + 4294967288) % 4294967296))).cell? ⟨M, 5, none⟩ = _ := oth (by omega) c5
  have g5 : (w.setCell ⟨M, 0, none⟩ (.int .u32 ((x + 4294967288) % 4294967296))).frozen? ⟨M, 5, none⟩ = false := frs f5
  obtain ⟨w1, Hw1⟩ : ∃ u, Hid (w.setCell ⟨M, 0, none⟩ (.int .u32 ((x + 4294967288) % 4294967296)) = u) := ⟨_, rfl⟩
  rw [Hw1.out] at d9 d3 d5 g5 ⊢
  clear c9 s3 c5 f5 c0 f0
  go_wp2_with (go_at_call 36; go_in)
  refine (empty_not M 9 _ _ d9).mono ?_
  rintro e w' ⟨rfl, hw'⟩
  rw [hw']
  clear hw'
  go_wp2_with fail
  refine still_tail 11 mixed (by kernel_rfl) ?_
  simp only [List.take_succ_cons, List.take_zero, List.drop_succ_cons, List.drop_zero]
  repeat still_step
  refine wpStill_nil ?_
  go_wp2_with fail
  refine (istore M 5 _ z w1.drew d5 g5).mono ?_
  rintro e w' ⟨rfl, hw'⟩
  clear d9 d3 d5 g5
  go_wp2
  go_end0
  go_wp2
  go_end0
  exact ⟨rfl, by rw [Hw1.out]; rfl⟩
end Go.Proofs.Ybulkdfim
