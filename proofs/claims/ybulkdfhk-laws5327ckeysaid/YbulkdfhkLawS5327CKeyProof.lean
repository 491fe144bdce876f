/-
  Rows.LawS5327CKeySaid proved.
-/
import Derived.Test.YbulkdfhkOpen
import Derived.Test.YbulkdfhkKey
namespace Go.Proofs.Ybulkdfhk.lawS5327CKey
open Go.ChangeShapes Go.WideShapes Go.ChangeAt Go.RowKit
set_option linter.unusedVariables false

theorem cells25 : Yba.prog.cellsOf 25 = 1 := by kernel_rfl
section
variable {H : Type} {enc : TypeId × Value → H} {W : World} {base : Nat} {b0 : Nat} {r : Reach} {spare : Nat → Bool} {held : Bool}
/-- The struct of seven uint64, by value. -/
theorem open_seven {v : Value} {d : DataW H} {p : List MemPlace} (hv : Value.okWide Yba.prog W r b0 27 v) (h : DataW.Trod enc Yba.prog W base spare held 27 v d p) :
    ∃ (cs : Array Value) (m : Nat → Int), v = .agg cs ∧ cs.size = 7 ∧ ∀ i, i < 7 → cs[i]? = some (.int .u64 (m i)) := by
  obtain ⟨cs, rfl, hsz⟩ := okWide_struct Yba.underlying27 hv
  rw [show Yba.prog.cellsOf 27 = 7 from by kernel_rfl] at hsz
  obtain ⟨fuel, hf⟩ := h
  obtain ⟨xs, n, _, _, _, hl, hel⟩ := DataW.trod_struct Yba.underlying27 hf
  have hx : xs.length = 7 := hl
  have one : ∀ (i : Nat) (f : Field), f.type = 25 → f.offset = i → i < 7 → DataW.trod enc Yba.prog W base spare held n f.type (((Value.agg cs).cells.toList.drop f.offset).take (Yba.prog.cellsOf f.type)) = xs[i]? → ∃ z, cs[i]? = some (.int .u64 z) := by
    intro i f ht ho hi hE
    rw [ht, ho, cells25, List.getElem?_eq_getElem (by omega)] at hE
    obtain ⟨z, e1, _, _⟩ := DataW.trod_int Yba.underlying25 hE
    have h0 : (((Value.agg cs).cells.toList.drop i).take 1)[0]? = some (.int .u64 z) := by rw [e1]; rfl
    exact ⟨z, by simpa [Value.cells] using h0⟩
  have all : ∀ i, i < 7 → ∃ z, cs[i]? = some (.int .u64 z) := by
    intro i hi
    have h' : i = 0 ∨ i = 1 ∨ i = 2 ∨ i = 3 ∨ i = 4 ∨ i = 5 ∨ i = 6 := by omega
    rcases h' with rfl | rfl | rfl | rfl | rfl | rfl | rfl
    · exact one 0 _ rfl rfl (by omega) (hel 0 _ rfl)
    · exact one 1 _ rfl rfl (by omega) (hel 1 _ rfl)
    · exact one 2 _ rfl rfl (by omega) (hel 2 _ rfl)
    · exact one 3 _ rfl rfl (by omega) (hel 3 _ rfl)
    · exact one 4 _ rfl rfl (by omega) (hel 4 _ rfl)
    · exact one 5 _ rfl rfl (by omega) (hel 5 _ rfl)
    · exact one 6 _ rfl rfl (by omega) (hel 6 _ rfl)
  refine ⟨cs, fun i => match cs[i]? with | some (.int _ z) => z | _ => 0, rfl, hsz, fun i hi => ?_⟩
  obtain ⟨z, hz⟩ := all i hi
  simp only [hz]
end
theorem mac7_of {cs : Array Value} {m : Nat → Int} (hsz : cs.size = 7) (h : ∀ i, i < 7 → cs[i]? = some (.int .u64 (m i))) : cs = mac7 m := by
  apply Array.ext_getElem?
  intro i
  by_cases hi : i < 7
  · rw [h i hi]
    have h' : i = 0 ∨ i = 1 ∨ i = 2 ∨ i = 3 ∨ i = 4 ∨ i = 5 ∨ i = 6 := by omega
    rcases h' with rfl | rfl | rfl | rfl | rfl | rfl | rfl <;> rfl
  · rw [Array.getElem?_eq_none (by omega), Array.getElem?_eq_none (by simp; omega)]

set_option maxRecDepth 100000 in
theorem lifted (os : Os) (started : os.Started) (H : Type) (enc : TypeId × Value → H) :
    ReturnsInHanded {} Yba.checked os 3 .any (Rows.lawS5327CKeySpec.pre6 enc Yba.prog Yba.f3 Rows.lawS5327CKeyRow.domain false) (Rows.lawS5327CKeySpec.post enc Yba.prog Yba.f3 false true false false) := by
  refine returnsInHanded_of_change (C := Yba.checked) own started (by kernel_rfl) Yba.func3
    (ChangeSpec.witness6 (enc := enc) (C := Yba.checked) false ⟨#[], #[.agg (arr16 fun _ => 0), .agg (arr8 fun _ => 0), .agg (mac7 fun _ => 0)], []⟩ 8 (by kernel_rfl) (by kernel_rfl) (by kernel_rfl) (by kernel_rfl)) ?_
  intro W base args ds gs before hval0 hW hcnd _
  have hval : ∀ (j : Nat) t v, Yba.f3.params[j]? = some t → args[j]? = some v → Value.okWide Yba.prog W .any base t v := hval0
  have hW' := hW
  obtain ⟨p, q, hA0, hV, rfl, hfz, hnd⟩ := hW
  have hA : DataW.TrodAll enc Yba.prog W 0 (fun _ => true) true Yba.f3.params.toList args.toList ds p := hA0
  rw [Yba.params3] at hA hval
  obtain ⟨v0, vs0, d0, ds0, p0, q0, hargs, rfl, rfl, h0, r0⟩ := trodAll_cons hA
  obtain ⟨v1, vs1, d1, ds1, p1, q1, rfl, rfl, rfl, h1, r1⟩ := trodAll_cons r0
  obtain ⟨v2, vs2, d2, ds2, p2, q2, rfl, rfl, rfl, h2, r2⟩ := trodAll_cons r1
  obtain ⟨rfl, rfl, rfl⟩ := trodAll_nil r2
  obtain rfl : args = #[v0, v1, v2] := by cases args; simp_all
  obtain ⟨rfl, rfl⟩ := trodVars_none hV
  obtain ⟨c0, s, rfl, z0, e0⟩ := open_words Yba.underlying23 (by kernel_rfl) (hval 0 23 v0 rfl rfl) h0
  obtain ⟨c1, y, rfl, z1, e1⟩ := open_words Yba.underlying24 (by kernel_rfl) (hval 1 24 v1 rfl rfl) h1
  obtain ⟨c2, m, rfl, z2, e2⟩ := open_seven (hval 2 27 v2 rfl rfl) h2
  obtain rfl := arr16_of z0 e0
  obtain rfl := arr8_of z1 e1
  obtain rfl := mac7_of z2 e2
  have lt0 : ∀ x ∈ p0, x.block < W.heap.size := by obtain ⟨m, hm⟩ := h0; exact DataW.trod_lt m _ _ _ hm
  have lt1 : ∀ x ∈ p1, x.block < W.heap.size := by obtain ⟨m, hm⟩ := h1; exact DataW.trod_lt m _ _ _ hm
  have lt2 : ∀ x ∈ p2, x.block < W.heap.size := by obtain ⟨m, hm⟩ := h2; exact DataW.trod_lt m _ _ _ hm
  clear hA0 hval0
  refine (key s y m W).mono fun e W' ⟨he, bel⟩ => ?_
  subst he
  exact ⟨_, rfl, _, _, _, [], _, [], hW', trodAll_mk1 (shut_bool Yba.underlying4 _), (trodAll_cons_mk (Below.trod laidOut (by kernel_rfl) (of_decide_eq_true (by kernel_rfl)) h0 bel lt0) (trodAll_cons_mk (Below.trod laidOut (by kernel_rfl) (of_decide_eq_true (by kernel_rfl)) h1 bel lt1) (trodAll_cons_mk (Below.trod laidOut (by kernel_rfl) (of_decide_eq_true (by kernel_rfl)) h2 bel lt2) trodAll_mk0))), rfl, bel.frame _, fun h => by cases h⟩

theorem over : Rows.lawS5327CKeyRow.holds Yba.pinned (OpenSpec.ofChange Rows.lawS5327CKeySpec) :=
  OpenClaim.holds_of_wide 3 Yba.f3 rfl rfl rfl rfl rfl rfl rfl ⟨rfl, rfl, rfl, rfl, rfl⟩ rfl rfl rfl rfl rfl (by kernel_rfl) Yba.func3 (by kernel_rfl)
    (of_decide_eq_true (by kernel_rfl)) (by unfold Func.isWrapper; first | (rw [if_pos (by decide +kernel)]; kernel_rfl) | (rw [if_neg (by decide +kernel)]; exact ⟨rfl, rfl⟩))
    (fun os started H enc _ => lifted os started H enc)

/-- THE STATEMENT -/
theorem proved : Rows.LawS5327CKeySaid := over
#print axioms proved
end Go.Proofs.Ybulkdfhk.lawS5327CKey
