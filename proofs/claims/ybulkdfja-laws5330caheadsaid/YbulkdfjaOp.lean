/-
  The arguments opened: three slices of structs. Inputs beyond the bounds.
-/
import Derived.Test.YbulkdfjaPw
import Derived.Deep.Slices
import Derived.OpenShut
import Derived.ChangeSame
namespace Go.Proofs.Ybulkdfja
open Go.RowKit Go.ChangeShapes Go.WideShapes Go.Deep
set_option linter.unusedVariables false

section
variable {H : Type} {enc : TypeId × Value → H} {w : World} {base : Nat} {spare : Nat → Bool} {held : Bool}

theorem add_mid' (b o i : Nat) : (⟨b, o, none⟩ : Addr).add i = ⟨b, o + i, none⟩ := by cases i <;> simp [Addr.add]

theorem fn_of {n : Nat} {p : Nat → Int → Prop} (h : ∀ i, i < n → ∃ x, p i x) (d : Int) : ∃ f : Nat → Int, (∀ i, i < n → p i (f i)) ∧ ∀ i, ¬ i < n → f i = d := by
  classical
  refine ⟨fun i => if hi : i < n then Classical.choose (h i hi) else d, fun i hi => ?_, fun i hi => ?_⟩
  · simp only [dif_pos hi]; exact Classical.choose_spec (h i hi)
  · simp only [dif_neg hi]

/-- A slice of structs, element by element: the cells of element i, each read by its field's type. -/
theorem open_elems {t e : TypeId} {ce : Nat} {fs : Array Field} {fuel : Nat} {a : Option Addr} {len cap : Nat} {x : DataW H × List MemPlace} (ht : Yba.prog.underlying t = some (.slice e)) (he : Yba.prog.underlying e = some (.struct fs)) (hce : Yba.prog.cellsOf e = ce) (hpos : 0 < ce)
    (h : DataW.trod enc Yba.prog w base spare held fuel t [.slice a len cap] = some x) :
    ∃ b o, (0 < len → a = some ⟨b, o, none⟩) ∧ ∀ i, i < len → ∃ cs : List Value, cs.length = ce ∧ (∀ j, j < ce → w.cell? ⟨b, o + i * ce + j, none⟩ = cs[j]?) ∧
      ∀ (k : Nat) (f : Field), fs[k]? = some f → ∃ n y, DataW.trod enc Yba.prog w base spare held n f.type ((cs.drop f.offset).take (Yba.prog.cellsOf f.type)) = some y := by
  rcases open_slice ht h with ⟨hcs, _⟩ | ⟨a', len', cap', m, n, D, Pl, hcs, hb, hl, hm, hmm, rfl, hx⟩
  · simp at hcs
    obtain ⟨rfl, rfl, rfl⟩ := hcs
    exact ⟨0, 0, fun h => absurd h (by omega), fun i hi => absurd hi (by omega)⟩
  · simp at hcs
    obtain ⟨rfl, rfl, rfl⟩ := hcs
    rw [hce] at hx
    have hlm : len ≤ m := by rw [hmm]; split <;> omega
    have hsp : 0 < len → a'.spot = none := fun hl0 => by
      obtain ⟨cs', h1, _⟩ := hx 0 (by omega)
      obtain ⟨_, hlen, hcell⟩ := World.cells?_some h1
      have h0 := hcell 0 hpos
      have hsome : cs'[0]? = some (cs'[0]'(by omega)) := List.getElem?_eq_getElem (by omega)
      rw [hsome, add_add, Nat.zero_mul, Nat.add_zero] at h0
      have := World.cell?_spot h0
      simpa [Addr.add] using this
    refine ⟨a'.block, a'.off, fun hl0 => ?_, fun i hi => ?_⟩
    · have := hsp hl0
      cases a'
      simp only at this
      subst this
      rfl
    · obtain ⟨cs', h1, h2⟩ := hx i (by omega)
      obtain ⟨_, hlen, hcell⟩ := World.cells?_some h1
      obtain ⟨xs, k, hk, hxy, _, hxl, hf⟩ := DataW.trod_struct he h2
      have hs := hsp (by omega)
      refine ⟨cs', hlen, fun j hj => ?_, fun k' f hkf => ?_⟩
      · have hc := hcell j hj
        rw [← hc, add_add]
        cases a'
        simp only at hs
        subst hs
        rw [add_mid', Nat.add_assoc]
      · have := hf k' f hkf
        have hlt : k' < xs.length := by
          rw [hxl]
          exact (Array.getElem?_eq_some_iff.1 hkf).1
        rw [List.getElem?_eq_getElem hlt] at this
        exact ⟨k, _, this⟩

theorem one_int {t : TypeId} {k : IntKind} {n : Nat} {cs : List Value} {y : DataW H × List MemPlace} {o : Nat} (ht : Yba.prog.underlying t = some (.int k)) (hc : Yba.prog.cellsOf t = 1) (h : DataW.trod enc Yba.prog w base spare held n t ((cs.drop o).take (Yba.prog.cellsOf t)) = some y) :
    ∃ x, cs[o]? = some (.int k x) ∧ (Lit.int k x).wf = true := by
  rw [hc] at h
  obtain ⟨x, hx, _, hw⟩ := DataW.trod_int ht h
  refine ⟨x, ?_, hw⟩
  have := congrArg (fun l => l[0]?) hx
  simpa using this

theorem one_bool {t : TypeId} {n : Nat} {cs : List Value} {y : DataW H × List MemPlace} {o : Nat} (ht : Yba.prog.underlying t = some .bool) (hc : Yba.prog.cellsOf t = 1) (h : DataW.trod enc Yba.prog w base spare held n t ((cs.drop o).take (Yba.prog.cellsOf t)) = some y) :
    ∃ x, cs[o]? = some (.bool x) := by
  rw [hc] at h
  obtain ⟨x, hx, _⟩ := DataW.trod_bool ht h
  refine ⟨x, ?_⟩
  have := congrArg (fun l => l[0]?) hx
  simpa using this
theorem open_ents {fuel : Nat} {a : Option Addr} {len cap : Nat} {x : DataW H × List MemPlace} (h : DataW.trod enc Yba.prog w base spare held fuel 38 [.slice a len cap] = some x) :
    ∃ (b o : Nat) (eid ecp est : Nat → Int), (0 < len → a = some ⟨b, o, none⟩) ∧ (∀ i, i < len → w.cell? ⟨b, o + i * 3, none⟩ = some (.int .u8 (eid i))) ∧ (∀ i, i < len → w.cell? ⟨b, o + i * 3 + 1, none⟩ = some (.int .u8 (ecp i))) ∧ (∀ i, i < len → w.cell? ⟨b, o + i * 3 + 2, none⟩ = some (.int .u64 (est i))) ∧ (∀ i, 0 ≤ eid i ∧ eid i ≤ 255) ∧ (∀ i, 0 ≤ ecp i ∧ ecp i ≤ 255) := by
  obtain ⟨b, o, ha, hel⟩ := open_elems Yba.underlying38 Yba.underlying59 (show Yba.prog.cellsOf 59 = 3 by kernel_rfl) (by decide) h
  obtain ⟨eid, heid, deid⟩ := fn_of (n := len) (p := fun i x => w.cell? ⟨b, o + i * 3, none⟩ = some (.int .u8 x) ∧ 0 ≤ x ∧ x ≤ 255) (fun i hi => by
    obtain ⟨cs, hl, hc, hf⟩ := hel i hi
    obtain ⟨n, y, hy⟩ := hf 0 _ rfl
    obtain ⟨x, hx, hw⟩ := one_int Yba.underlying5 (by kernel_rfl) hy
    have := bounds_u8 hw
    exact ⟨x, (hc 0 (by decide)).trans hx, by omega, by omega⟩) 0
  obtain ⟨ecp, hecp, decp⟩ := fn_of (n := len) (p := fun i x => w.cell? ⟨b, o + i * 3 + 1, none⟩ = some (.int .u8 x) ∧ 0 ≤ x ∧ x ≤ 255) (fun i hi => by
    obtain ⟨cs, hl, hc, hf⟩ := hel i hi
    obtain ⟨n, y, hy⟩ := hf 1 _ rfl
    obtain ⟨x, hx, hw⟩ := one_int Yba.underlying5 (by kernel_rfl) hy
    have := bounds_u8 hw
    exact ⟨x, (hc 1 (by decide)).trans hx, by omega, by omega⟩) 0
  obtain ⟨est, hest, dest⟩ := fn_of (n := len) (p := fun i x => w.cell? ⟨b, o + i * 3 + 2, none⟩ = some (.int .u64 x) ∧ True) (fun i hi => by
    obtain ⟨cs, hl, hc, hf⟩ := hel i hi
    obtain ⟨n, y, hy⟩ := hf 2 _ rfl
    obtain ⟨x, hx, hw⟩ := one_int Yba.underlying31 (by kernel_rfl) hy
    exact ⟨x, (hc 2 (by decide)).trans hx, trivial⟩) 0
  refine ⟨b, o, eid, ecp, est, ha, fun i hi => (heid i hi).1, fun i hi => (hecp i hi).1, fun i hi => (hest i hi).1, fun i => ?_, fun i => ?_⟩
  · by_cases hi : i < len
    · exact (heid i hi).2
    · rw [deid i hi]; omega
  · by_cases hi : i < len
    · exact (hecp i hi).2
    · rw [decp i hi]; omega

theorem open_recs {fuel : Nat} {a : Option Addr} {len cap : Nat} {x : DataW H × List MemPlace} (h : DataW.trod enc Yba.prog w base spare held fuel 39 [.slice a len cap] = some x) :
    ∃ (b o : Nat) (rid rcp rst : Nat → Int) (rrm : Nat → Bool), (0 < len → a = some ⟨b, o, none⟩) ∧ (∀ i, i < len → w.cell? ⟨b, o + i * 4, none⟩ = some (.int .u8 (rid i))) ∧ (∀ i, i < len → w.cell? ⟨b, o + i * 4 + 1, none⟩ = some (.int .u8 (rcp i))) ∧ (∀ i, i < len → w.cell? ⟨b, o + i * 4 + 2, none⟩ = some (.int .u64 (rst i))) ∧ (∀ i, i < len → w.cell? ⟨b, o + i * 4 + 3, none⟩ = some (.bool (rrm i))) ∧ (∀ i, 0 ≤ rid i ∧ rid i ≤ 255) ∧ (∀ i, 0 ≤ rcp i ∧ rcp i ≤ 255) := by
  obtain ⟨b, o, ha, hel⟩ := open_elems Yba.underlying39 Yba.underlying72 (show Yba.prog.cellsOf 72 = 4 by kernel_rfl) (by decide) h
  obtain ⟨rid, hrid, drid⟩ := fn_of (n := len) (p := fun i x => w.cell? ⟨b, o + i * 4, none⟩ = some (.int .u8 x) ∧ 0 ≤ x ∧ x ≤ 255) (fun i hi => by
    obtain ⟨cs, hl, hc, hf⟩ := hel i hi
    obtain ⟨n, y, hy⟩ := hf 0 _ rfl
    obtain ⟨x, hx, hw⟩ := one_int Yba.underlying5 (by kernel_rfl) hy
    have := bounds_u8 hw
    exact ⟨x, (hc 0 (by decide)).trans hx, by omega, by omega⟩) 0
  obtain ⟨rcp, hrcp, drcp⟩ := fn_of (n := len) (p := fun i x => w.cell? ⟨b, o + i * 4 + 1, none⟩ = some (.int .u8 x) ∧ 0 ≤ x ∧ x ≤ 255) (fun i hi => by
    obtain ⟨cs, hl, hc, hf⟩ := hel i hi
    obtain ⟨n, y, hy⟩ := hf 1 _ rfl
    obtain ⟨x, hx, hw⟩ := one_int Yba.underlying5 (by kernel_rfl) hy
    have := bounds_u8 hw
    exact ⟨x, (hc 1 (by decide)).trans hx, by omega, by omega⟩) 0
  obtain ⟨rst, hrst, drst⟩ := fn_of (n := len) (p := fun i x => w.cell? ⟨b, o + i * 4 + 2, none⟩ = some (.int .u64 x) ∧ True) (fun i hi => by
    obtain ⟨cs, hl, hc, hf⟩ := hel i hi
    obtain ⟨n, y, hy⟩ := hf 2 _ rfl
    obtain ⟨x, hx, hw⟩ := one_int Yba.underlying31 (by kernel_rfl) hy
    exact ⟨x, (hc 2 (by decide)).trans hx, trivial⟩) 0
  obtain ⟨rrm, hrrm⟩ : ∃ g : Nat → Bool, ∀ i, i < len → w.cell? ⟨b, o + i * 4 + 3, none⟩ = some (.bool (g i)) := choose_lt (fun i hi => by
    obtain ⟨cs, hl, hc, hf⟩ := hel i hi
    obtain ⟨n, y, hy⟩ := hf 3 _ rfl
    obtain ⟨x, hx⟩ := one_bool Yba.underlying4 (by kernel_rfl) hy
    exact ⟨x, (hc 3 (by decide)).trans hx⟩)
  refine ⟨b, o, rid, rcp, rst, rrm, ha, fun i hi => (hrid i hi).1, fun i hi => (hrcp i hi).1, fun i hi => (hrst i hi).1, hrrm, fun i => ?_, fun i => ?_⟩
  · by_cases hi : i < len
    · exact (hrid i hi).2
    · rw [drid i hi]; omega
  · by_cases hi : i < len
    · exact (hrcp i hi).2
    · rw [drcp i hi]; omega

theorem open_unsent {fuel : Nat} {a : Option Addr} {len cap : Nat} {x : DataW H × List MemPlace} (h : DataW.trod enc Yba.prog w base spare held fuel 40 [.slice a len cap] = some x) :
    ∃ (b o : Nat) (uid ucp : Nat → Int), (0 < len → a = some ⟨b, o, none⟩) ∧ (∀ i, i < len → w.cell? ⟨b, o + i * 2, none⟩ = some (.int .u8 (uid i))) ∧ (∀ i, i < len → w.cell? ⟨b, o + i * 2 + 1, none⟩ = some (.int .u8 (ucp i))) ∧ (∀ i, 0 ≤ uid i ∧ uid i ≤ 255) ∧ (∀ i, 0 ≤ ucp i ∧ ucp i ≤ 255) := by
  obtain ⟨b, o, ha, hel⟩ := open_elems Yba.underlying40 Yba.underlying74 (show Yba.prog.cellsOf 74 = 2 by kernel_rfl) (by decide) h
  obtain ⟨uid, huid, duid⟩ := fn_of (n := len) (p := fun i x => w.cell? ⟨b, o + i * 2, none⟩ = some (.int .u8 x) ∧ 0 ≤ x ∧ x ≤ 255) (fun i hi => by
    obtain ⟨cs, hl, hc, hf⟩ := hel i hi
    obtain ⟨n, y, hy⟩ := hf 0 _ rfl
    obtain ⟨x, hx, hw⟩ := one_int Yba.underlying5 (by kernel_rfl) hy
    have := bounds_u8 hw
    exact ⟨x, (hc 0 (by decide)).trans hx, by omega, by omega⟩) 0
  obtain ⟨ucp, hucp, ducp⟩ := fn_of (n := len) (p := fun i x => w.cell? ⟨b, o + i * 2 + 1, none⟩ = some (.int .u8 x) ∧ 0 ≤ x ∧ x ≤ 255) (fun i hi => by
    obtain ⟨cs, hl, hc, hf⟩ := hel i hi
    obtain ⟨n, y, hy⟩ := hf 1 _ rfl
    obtain ⟨x, hx, hw⟩ := one_int Yba.underlying5 (by kernel_rfl) hy
    have := bounds_u8 hw
    exact ⟨x, (hc 1 (by decide)).trans hx, by omega, by omega⟩) 0
  refine ⟨b, o, uid, ucp, ha, fun i hi => (huid i hi).1, fun i hi => (hucp i hi).1, fun i => ?_, fun i => ?_⟩
  · by_cases hi : i < len
    · exact (huid i hi).2
    · rw [duid i hi]; omega
  · by_cases hi : i < len
    · exact (hucp i hi).2
    · rw [ducp i hi]; omega

end

set_option maxRecDepth 100000 in
set_option maxHeartbeats 4000000 in
theorem law_long (c : ByteArray) (lpe lpr lpu : Option Addr) (ne ce nr cr nu cu : Nat) (w : World) (h : 1024 < ne ∨ 1024 < nr ∨ 1024 < nu) :
    Calls Yba.prog 5 #[.string c, .slice lpe ne ce, .slice lpr nr cr, .slice lpu nu cu] w fun e w' => e = .returned (.bool true) ∧ Below w.heap.size w w' := by
  by_cases h1 : 1024 < ne
  · have q1 : (1024 : Int) < ne := by omega
    clear h h1
    go_enter Yba.func5, Yba.ntmps5
    go_wp2
    go_ret
    exact ⟨rfl, Below.refl _ _⟩
  · have q1 : ¬ ((1024 : Int) < ne) := by omega
    by_cases h2 : 1024 < nr
    · have q2 : (1024 : Int) < nr := by omega
      clear h h1 h2
      go_enter Yba.func5, Yba.ntmps5
      go_wp2
      go_ret
      exact ⟨rfl, Below.refl _ _⟩
    · have q2 : ¬ ((1024 : Int) < nr) := by omega
      have q3 : (1024 : Int) < nu := by omega
      clear h h1 h2
      go_enter Yba.func5, Yba.ntmps5
      go_wp2
      go_ret
      exact ⟨rfl, Below.refl _ _⟩
end Go.Proofs.Ybulkdfja
