/-
  Opening an array of words handed in by value.
-/
import Derived.Test.YbulkdfhkAdv
import Derived.ProofKit
import Derived.OpenShut
import Derived.ChangeOld
namespace Go.Proofs.Ybulkdfhk
open Go.ChangeShapes Go.WideShapes Go.ChangeAt Go.RowKit

theorem own : ownKnob Yba.prog.godebug = none := by kernel_rfl
theorem laidOut : laidOutB Yba.prog = true := by kernel_rfl

section
variable {H : Type} {enc : TypeId × Value → H} {W : World} {base : Nat} {b0 : Nat} {r : Reach} {spare : Nat → Bool} {held : Bool}
theorem open_words {t n : Nat} {v : Value} {d : DataW H} {p : List MemPlace} (ht : Yba.prog.underlying t = some (.array n 22)) (hC : Yba.prog.cellsOf t = n)
    (hv : Value.okWide Yba.prog W r b0 t v) (h : DataW.Trod enc Yba.prog W base spare held t v d p) :
    ∃ (cs : Array Value) (s : Nat → Int), v = .agg cs ∧ cs.size = n ∧ ∀ i, i < n → cs[i]? = some (.int .u32 (s i)) := by
  obtain ⟨cs, rfl, hsz⟩ : ∃ cs, v = .agg cs ∧ cs.size = Yba.prog.cellsOf t := by
    simp only [Value.okWide, ht] at hv
    obtain ⟨cs, h1, h2, _⟩ := hv
    exact ⟨cs, h1, h2⟩
  rw [hC] at hsz
  obtain ⟨fuel, hf⟩ := h
  obtain ⟨xs, m, _, _, _, hl, hel⟩ := DataW.trod_array ht hf
  refine ⟨cs, fun i => match cs[i]? with | some (.int _ z) => z | _ => 0, rfl, hsz, fun i hi => ?_⟩
  have hE := hel i hi
  rw [cells22, Nat.mul_one, List.getElem?_eq_getElem (by omega)] at hE
  obtain ⟨z, e1, _, _⟩ := DataW.trod_int Yba.underlying22 hE
  have h0 : (((Value.agg cs).cells.toList.drop i).take 1)[0]? = some (.int .u32 z) := by rw [e1]; rfl
  have h1 : cs[i]? = some (.int .u32 z) := by simpa [Value.cells] using h0
  simp only [h1]
end
theorem arr16_of {cs : Array Value} {s : Nat → Int} (hsz : cs.size = 16) (h : ∀ i, i < 16 → cs[i]? = some (.int .u32 (s i))) : cs = arr16 s := by
  apply Array.ext_getElem?
  intro i
  by_cases hi : i < 16
  · rw [h i hi]
    have h' : i = 0 ∨ i = 1 ∨ i = 2 ∨ i = 3 ∨ i = 4 ∨ i = 5 ∨ i = 6 ∨ i = 7 ∨ i = 8 ∨ i = 9 ∨ i = 10 ∨ i = 11 ∨ i = 12 ∨ i = 13 ∨ i = 14 ∨ i = 15 := by omega
    rcases h' with rfl | rfl | rfl | rfl | rfl | rfl | rfl | rfl | rfl | rfl | rfl | rfl | rfl | rfl | rfl | rfl <;> rfl
  · rw [Array.getElem?_eq_none (by omega), Array.getElem?_eq_none (by simp; omega)]
theorem arr8_of {cs : Array Value} {y : Nat → Int} (hsz : cs.size = 8) (h : ∀ i, i < 8 → cs[i]? = some (.int .u32 (y i))) : cs = arr8 y := by
  apply Array.ext_getElem?
  intro i
  by_cases hi : i < 8
  · rw [h i hi]
    have h' : i = 0 ∨ i = 1 ∨ i = 2 ∨ i = 3 ∨ i = 4 ∨ i = 5 ∨ i = 6 ∨ i = 7 := by omega
    rcases h' with rfl | rfl | rfl | rfl | rfl | rfl | rfl | rfl <;> rfl
  · rw [Array.getElem?_eq_none (by omega), Array.getElem?_eq_none (by simp; omega)]
end Go.Proofs.Ybulkdfhk
