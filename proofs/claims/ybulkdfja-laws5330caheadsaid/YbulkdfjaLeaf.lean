/-
  zzs5330cid (13), zzs5330cfind (15).
-/
import Derived.Test.YbulkdfjaProg
import Derived.WalkKit
import Derived.OpenShut
import Derived.Below
namespace Go.Proofs.Ybulkdfja
open Go.RowKit
set_option linter.unusedVariables false

/-- The id that a byte names. -/
def sid (b : Int) : ByteArray := if b % 4 = 0 then ⟨#[97]⟩ else if b % 4 = 1 then ⟨#[98]⟩ else if b % 4 = 2 then ⟨#[99]⟩ else ⟨#[]⟩

set_option maxRecDepth 100000 in
theorem cid (b : Int) (w : World) (h0 : 0 ≤ b) (h1 : b ≤ 255) :
    Calls Yba.prog 13 #[.int .u8 b] w fun e w' => e = .returned (.string (sid b)) ∧ w' = w := by
  have hr : b.tmod 4 = b % 4 := Int.tmod_eq_emod_of_nonneg h0
  have hm : b % 4 = 0 ∨ b % 4 = 1 ∨ b % 4 = 2 ∨ b % 4 = 3 := by omega
  have hw : IntKind.u8.wrap (b % 4) = b % 4 := by rw [IntKind.wrap_u8]; omega
  go_enter Yba.func13, Yba.ntmps13
  rcases hm with h | h | h | h
  all_goals
    go_wp2
    go_ret
    exact ⟨by simp [sid, h], rfl⟩

/-- The first of f places from i on that fits. -/
def findFrom (eid ecp est : Nat → Int) (id : ByteArray) (cp : Int) : Nat → Nat → Int × Bool
  | 0, _ => (0, false)
  | f + 1, i => if (sid (eid i)).toList = id.toList ∧ ecp i % 3 = cp then (est i, true) else findFrom eid ecp est id cp f (i + 1)

set_option maxRecDepth 100000 in
set_option maxHeartbeats 1600000 in
theorem cfind (sb so n cap : Nat) (eid ecp est : Nat → Int) (id : ByteArray) (cp : Int) (w : World) (hn : n ≤ 1024)
    (h0 : ∀ i, i < n → w.cell? ⟨sb, so + i * 3, none⟩ = some (.int .u8 (eid i))) (h1 : ∀ i, i < n → w.cell? ⟨sb, so + i * 3 + 1, none⟩ = some (.int .u8 (ecp i))) (h2 : ∀ i, i < n → w.cell? ⟨sb, so + i * 3 + 2, none⟩ = some (.int .u64 (est i)))
    (b0 : ∀ i, 0 ≤ eid i ∧ eid i ≤ 255) (b1 : ∀ i, 0 ≤ ecp i ∧ ecp i ≤ 255) :
    Calls Yba.prog 15 #[.slice (some ⟨sb, so, none⟩) n cap, .string id, .int .i64 cp] w fun e w' => e = .returned (.tuple #[.int .u64 (findFrom eid ecp est id cp n 0).1, .bool (findFrom eid ecp est id cp n 0).2]) ∧ w' = w := by
  go_enter Yba.func15, Yba.ntmps15
  go_wp2
  go_loop [8] (fun vi => ∃ i : Nat, i ≤ n ∧ vi = .int .i64 i ∧ findFrom eid ecp est id cp n 0 = findFrom eid ecp est id cp (n - i) i) (fun vi => n - (intOf vi).toNat)
  case atStart => exact ⟨0, by omega, rfl, rfl⟩
  case round =>
    obtain ⟨i, hi, rfl, hf⟩ := hrel
    by_cases hlt : i < n
    · have c0 := h0 i hlt
      have c1 := h1 i hlt
      have c2 := h2 i hlt
      have q : (i : Int) < n := by omega
      obtain ⟨l0, l1⟩ := b0 i
      obtain ⟨m0, m1⟩ := b1 i
      clear h0 h1 h2 b0 b1
      have hr : (ecp i).tmod 3 = ecp i % 3 := Int.tmod_eq_emod_of_nonneg m0
      have hw : IntKind.u8.wrap (ecp i % 3) = ecp i % 3 := by rw [IntKind.wrap_u8]; omega
      have hw2 : IntKind.i64.wrap (ecp i % 3) = ecp i % 3 := by rw [IntKind.wrap_i64]; omega
      have ef : n - i = (n - (i + 1)) + 1 := by omega
      rw [ef, findFrom] at hf
      have hc := cid (eid i) w l0 l1
      by_cases e1 : (sid (eid i)).toList = id.toList
      · by_cases e2 : ecp i % 3 = cp
        · rw [if_pos ⟨e1, e2⟩] at hf
          have e2b : (ecp i % 3 == cp) = true := by simp [e2]
          clear e2 ef
          go_wp2_with fail
          refine hc.mono ?_
          rintro e w' ⟨rfl, hw'⟩
          rw [hw']
          clear hw' hc
          go_wp2
          go_ret2
          exact ⟨by rw [hf]; rfl, rfl⟩
        · rw [if_neg (by intro h; exact e2 h.2)] at hf
          have e2b : (ecp i % 3 == cp) = false := by simp [e2]
          have HF : Hid (findFrom eid ecp est id cp n 0 = findFrom eid ecp est id cp (n - (i + 1)) (i + 1)) := hf
          clear e2 ef hf
          go_wp2_with fail
          refine hc.mono ?_
          rintro e w' ⟨rfl, hw'⟩
          rw [hw']
          clear hw' hc
          go_wp2
          go_round
          case rel => exact ⟨i + 1, by omega, by go_num, HF.out⟩
          case measure => simp [intOf]; omega
      · rw [if_neg (by intro h; exact e1 h.1)] at hf
        have HF : Hid (findFrom eid ecp est id cp n 0 = findFrom eid ecp est id cp (n - (i + 1)) (i + 1)) := hf
        clear ef hf
        go_wp2_with fail
        refine hc.mono ?_
        rintro e w' ⟨rfl, hw'⟩
        rw [hw']
        clear hw' hc
        go_wp2
        go_round
        case rel => exact ⟨i + 1, by omega, by go_num, HF.out⟩
        case measure => simp [intOf]; omega
    · have q : ¬ ((i : Int) < n) := by omega
      have hf2 : findFrom eid ecp est id cp n 0 = (0, false) := by rw [hf]; have : n - i = 0 := by omega
                                                                   rw [this, findFrom]
      clear hf h0 h1 h2 b0 b1
      go_wp2
      go_ret2
      exact ⟨rfl, rfl⟩
end Go.Proofs.Ybulkdfja
