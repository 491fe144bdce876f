/-
  Rows.LawS5330CAheadSaid proved.
-/
import Derived.Test.YbulkdfjaRows
import Derived.Test.YbulkdfjaMn
import Derived.Test.YbulkdfjaOp
import Derived.WalkKit
import Derived.ProofKit
import Derived.OpenShut
import Derived.ShutString
import Derived.ChangeOld
import Derived.SizedLaws
import Derived.Below
namespace Go.Proofs.Ybulkdfja.lawS5330CAhead
open Go.ChangeShapes Go.WideShapes Go.ChangeAt Go.RowKit
open Go.ChangeMaps (open_string shut_string)
set_option linter.unusedVariables false

theorem own : ownKnob Yba.prog.godebug = none := by kernel_rfl
theorem laidOut : laidOutB Yba.prog = true := by kernel_rfl

/-! ### THE ROW's STEP -/
set_option maxRecDepth 100000 in
theorem lifted (os : Os) (started : os.Started) (H : Type) (enc : TypeId × Value → H) :
    ReturnsInHanded {} Yba.checked os 5 .any (Rows.lawS5330CAheadSpec.pre6 enc Yba.prog Yba.f5 Rows.lawS5330CAheadRow.domain false) (Rows.lawS5330CAheadSpec.post enc Yba.prog Yba.f5 false true false false) := by
  refine returnsInHanded_of_change_sized (C := Yba.checked) own started (by kernel_rfl) Yba.func5
    (ChangeSpec.witness6 (enc := enc) (C := Yba.checked) false ⟨#[], #[.string ⟨#[]⟩, .slice none 0 0, .slice none 0 0, .slice none 0 0], []⟩ 8 (by kernel_rfl) (by kernel_rfl) (by kernel_rfl) (by kernel_rfl)) ?_
  intro W base args ds gs before hval0 hW hcnd hwt _
  have hval : ∀ (j : Nat) t v, Yba.f5.params[j]? = some t → args[j]? = some v → Value.okWide Yba.prog W .any base t v := hval0
  have hW' := hW
  obtain ⟨p, q, hA0, hV, rfl, hfz, hnd⟩ := hW
  have hA : DataW.TrodAll enc Yba.prog W 0 (fun _ => true) true Yba.f5.params.toList args.toList ds p := hA0
  rw [Yba.params5] at hA hval
  obtain ⟨v0, vs0, d0, ds0, p0, q0, hargs, rfl, rfl, h0, r0⟩ := trodAll_cons hA
  obtain ⟨v1, vs1, d1, ds1, p1, q1, rfl, rfl, rfl, h1, r1⟩ := trodAll_cons r0
  obtain ⟨v2, vs2, d2, ds2, p2, q2, rfl, rfl, rfl, h2, r2⟩ := trodAll_cons r1
  obtain ⟨v3, vs3, d3, ds3, p3, q3, rfl, rfl, rfl, h3, r3⟩ := trodAll_cons r2
  obtain ⟨rfl, rfl, rfl⟩ := trodAll_nil r3
  obtain rfl : args = #[v0, v1, v2, v3] := by cases args; simp_all
  obtain ⟨rfl, rfl⟩ := trodVars_none hV
  obtain ⟨s, rfl, rfl, rfl, hs⟩ := open_string Yba.underlying9 (hval 0 9 v0 rfl rfl) h0
  obtain ⟨a1, len1, cap1, rfl⟩ := okWide_slice Yba.underlying38 (hval 1 38 v1 rfl rfl)
  obtain ⟨a2, len2, cap2, rfl⟩ := okWide_slice Yba.underlying39 (hval 2 39 v2 rfl rfl)
  obtain ⟨a3, len3, cap3, rfl⟩ := okWide_slice Yba.underlying40 (hval 3 40 v3 rfl rfl)
  have hsz : s.size + 1 ≤ 9223372036854775807 := by
    have hw2 : (DataW.weightsEach Yba.prog (Yba.f5.params.toList ++ _) _).all (· ≤ reachBytes) = true := hwt
    rw [Yba.params5] at hw2
    simp only [List.cons_append, DataW.weightsEach, DataW.weights, List.all_cons, List.nil_append, Bool.and_eq_true, decide_eq_true_eq] at hw2
    have := hw2.1
    have e : s.size = s.data.toList.length := by rw [Array.length_toList]; rfl
    rw [e]
    unfold reachBytes at this
    omega
  have k1 := h1
  have k2 := h2
  have k3 := h3
  have lt1 : ∀ x ∈ p1, x.block < W.heap.size := by obtain ⟨m, hm⟩ := k1; exact DataW.trod_lt m _ _ _ hm
  have lt2 : ∀ x ∈ p2, x.block < W.heap.size := by obtain ⟨m, hm⟩ := k2; exact DataW.trod_lt m _ _ _ hm
  have lt3 : ∀ x ∈ p3, x.block < W.heap.size := by obtain ⟨m, hm⟩ := k3; exact DataW.trod_lt m _ _ _ hm
  obtain ⟨m1, hm1⟩ := h1
  obtain ⟨m2, hm2⟩ := h2
  obtain ⟨m3, hm3⟩ := h3
  obtain ⟨eb, eo, eid, ecp, est, hla, he0, he1, he2, be0, be1⟩ := open_ents hm1
  obtain ⟨rb, ro, rid, rcp, rst, rrm, hlb, hr0, hr1, hr2, hr3, br0, br1⟩ := open_recs hm2
  obtain ⟨ub, uo, uid, ucp, hlc, hu0, hu1, bu0, bu1⟩ := open_unsent hm3
  clear hA0 hval0
  have walk : Calls Yba.prog 5 #[.string s, .slice a1 len1 cap1, .slice a2 len2 cap2, .slice a3 len3 cap3] W fun e w' => e = .returned (.bool true) ∧ Below W.heap.size W w' := by
    by_cases hl : 1024 < len1 ∨ 1024 < len2 ∨ 1024 < len3
    · exact law_long s a1 a2 a3 len1 cap1 len2 cap2 len3 cap3 W hl
    · exact main_walk s W hsz eb eo len1 cap1 a1 hla eid ecp est (by omega) he0 he1 he2 be0 be1 rb ro len2 cap2 a2 hlb rid rcp rst rrm (by omega) hr0 hr1 hr2 hr3 br0 br1 ub uo len3 cap3 a3 hlc uid ucp (by omega) hu0 hu1 bu0 bu1
  refine walk.mono fun e W' ⟨he, bel⟩ => ?_
  subst he
  exact ⟨_, rfl, _, _, _, [], _, [], hW', trodAll_mk1 (shut_bool Yba.underlying4 _), (trodAll_cons_mk (shut_string Yba.underlying9 hs) (trodAll_cons_mk (Below.trod laidOut (by kernel_rfl) (of_decide_eq_true (by kernel_rfl)) k1 bel lt1) (trodAll_cons_mk (Below.trod laidOut (by kernel_rfl) (of_decide_eq_true (by kernel_rfl)) k2 bel lt2) (trodAll_cons_mk (Below.trod laidOut (by kernel_rfl) (of_decide_eq_true (by kernel_rfl)) k3 bel lt3) trodAll_mk0)))), rfl, bel.frame _, fun h => by cases h⟩

theorem over : Rows.lawS5330CAheadRow.holds Yba.pinned (OpenSpec.ofChange Rows.lawS5330CAheadSpec) :=
  OpenClaim.holds_of_wide 5 Yba.f5 rfl rfl rfl rfl rfl rfl rfl ⟨rfl, rfl, rfl, rfl, rfl⟩ rfl rfl rfl rfl rfl (by kernel_rfl) Yba.func5 (by kernel_rfl)
    (of_decide_eq_true (by kernel_rfl)) (by unfold Func.isWrapper; first | (rw [if_pos (by decide +kernel)]; kernel_rfl) | (rw [if_neg (by decide +kernel)]; exact ⟨rfl, rfl⟩))
    (fun os started H enc _ => lifted os started H enc)

/-- THE STATEMENT -/
theorem proved : Rows.LawS5330CAheadSaid := over
#print axioms proved
end Go.Proofs.Ybulkdfja.lawS5330CAhead
