/-
  A region that draws its order: what yields its value in every world of a class S is taken first (a load; a call that leaves the world as it is);
  what is left is forced; S is shown anew behind each forced operation but the last store (number k).
-/
import Derived.OrdersHeld
import Derived.StillTailTactics
import Derived.WalkKit
import Derived.Laws.AppendOwn
namespace Go.Proofs.Ybulkdfja
open Go.RowKit

section
variable {P : Program} {ops : Array Oper} {Q : Exit → Act → World → Prop} {md : Region.Mode} {S : World → Prop} {k : Nat}

/-- In every world that meets S operation o leaves v in its temporary, and the world as it is. -/
def YieldsC (P : Program) (ops : Array Oper) (S : World → Prop) (o : Oper) (v : Value) (a : Act) : Prop :=
  Region.wanted o (yielded ops a.tmps) = true ∧ ∀ w, S w → (execOp a.eval o).run P w = .ok (.value v) w ∨
    ∃ f args, (execOp a.eval o).run P w = .ok (.enter f args) w ∧ Calls P f args w (fun e w'' => e = .returned v ∧ w'' = w)

theorem YieldsC.wpOp {i : Nat} {o : Oper} {v : Value} {a : Act} (hi : ops[i]? = some o) (hy : YieldsC P ops S o v a)
    {K : Act → World → Prop} {w : World} (hS : S w) (h : K (a.put o.dst v) w) : wpOp P ops Q i K a w := by
  unfold Go.wpOp
  simp only [hi]
  obtain ⟨hw, hv⟩ := hy
  rcases hv w hS with hv | ⟨f, args, hv, hc⟩
  · simp only [hw, if_true, Oper.wp, hv, Oper.upon]; exact .inl h
  · simp only [hw, if_true, Oper.wp, hv, Oper.upon]
    exact .inl (hc.mono fun e w'' ⟨he, hw⟩ => by subst he; subst hw; exact h)

theorem YieldsC.of_same {o : Oper} {v : Value} {a a' : Act} (hy : YieldsC P ops S o v a) (he : execOp a'.eval o = execOp a.eval o)
    (hw : Region.wanted o (yielded ops a'.tmps) = Region.wanted o (yielded ops a.tmps)) : YieldsC P ops S o v a' := by
  unfold YieldsC at *
  rw [he, hw]
  exact hy

theorem wpOp_putC {j : Nat} {oi oj : Oper} {v : Value} (hj : ops[j]? = some oj) (hap : oi.apart ops oj = true)
    (hsi : ∀ cs b, oi.op ≠ .select cs b) (hsj : ∀ cs b, oj.op ≠ .select cs b)
    (hQ : ∀ c a w, Q (.panic c) (a.put oi.dst v) w → Q (.panic c) a w) {K : Act → World → Prop} {a : Act} {w : World}
    (hy : YieldsC P ops S oi v a) (h : wpOp P ops Q j K (a.put oi.dst v) w) :
    wpOp P ops Q j (fun a' w' => YieldsC P ops S oi v a' ∧ K (a'.put oi.dst v) w') a w := by
  obtain ⟨h1, h2, h3⟩ := Oper.apart_spec hap
  have keep : ∀ (a : Act), YieldsC P ops S oi v a → ∀ u, YieldsC P ops S oi v (a.put oj.dst u) := fun a hy u =>
    hy.of_same (execOp_put oi hsi a oj.dst u h3) (wanted_put oi a oj.dst u h3)
  have keepD : ∀ d, YieldsC P ops S oi v { a with defers := d :: a.defers } := fun d => hy.of_same rfl rfl
  unfold wpOp at *
  simp only [hj] at *
  rw [wanted_put oj a oi.dst v h1] at h
  split
  · rename_i hw
    simp only [hw, if_true] at h
    rcases h with h | ⟨hasks, hlets⟩
    case inr => exact .inr ⟨by unfold Oper.asks at *; rw [execOp_put oj hsj a oi.dst v h1] at hasks; exact hasks, hlets⟩
    refine .inl ?_
    unfold Oper.wp at *
    rw [execOp_put oj hsj a oi.dst v h1] at h
    generalize (execOp a.eval oj).run P w = r at *
    cases r with
    | ok n w' =>
      cases n <;> simp only [Oper.upon] at h ⊢
      case value u => exact ⟨keep a hy u, by rw [← Act.put_comm a v u h2]; exact h⟩
      case skip => exact ⟨keep a hy _, by rw [← Act.put_comm a v undef h2]; exact h⟩
      case defer d =>
        refine ⟨keep _ (keepD d) _, ?_⟩
        rw [← Act.put_comm _ v undef h2, ← Act.put_defers]
        exact h
      case enter f args =>
        refine Calls.mono h fun e w'' he => ?_
        cases e with
        | returned u => exact ⟨keep a hy u, by rw [← Act.put_comm a v u h2]; exact he⟩
        | panicked c => exact hQ _ _ _ he
        | outgrown => exact he
      case row row args => exact Rows.mono h fun u w'' he => ⟨keep a hy u, by rw [← Act.put_comm a v u h2]; exact he⟩
    | halt x w' =>
      cases x <;> simp only [Oper.upon] at h ⊢
      case panic u => exact hQ _ _ _ h
  · rename_i hw
    simp only [hw] at h
    exact ⟨keep a hy _, by rw [← Act.put_comm a v undef h2]; exact h⟩

/-- Whatever order is picked from here on; S holds behind every operation but number k. -/
def wpAnyK (P : Program) (md : Region.Mode) (ops : Array Oper) (Q : Exit → Act → World → Prop) (S : World → Prop) (k : Nat) : Nat → Array Bool → Act → World → Prop
  | 0, listed, a, w => Region.ready md ops listed = [] ∧ Q .normal a w
  | fuel + 1, listed, a, w =>
    (Region.ready md ops listed = [] → Q .normal a w) ∧
    ∀ i ∈ Region.ready md ops listed, wpOp P ops Q i (fun a' w' => (i ≠ k → S w') ∧ wpAnyK P md ops Q S k fuel (listed.setIfInBounds i true) a' w') a w

theorem wpAny_of_K : ∀ (fuel : Nat) (listed : Array Bool) (a : Act) (w : World), wpAnyK P md ops Q S k fuel listed a w → wpAny P md ops Q fuel listed a w
  | 0, _, _, _, h => h
  | fuel + 1, _, _, _, h => ⟨h.1, fun i hi => wpOp_mono (fun a' w' h' => wpAny_of_K fuel _ a' w' h'.2) (h.2 i hi)⟩

theorem wpAnyK_first {i : Nat} {oi : Oper} {v : Value} (hi : ops[i]? = some oi) (hsel : ∀ (j : Nat) (o : Oper) cs b, ops[j]? = some o → o.op ≠ .select cs b)
    (hk : Region.waitsFor md ops k i = true)
    (hQ : ∀ c a w, Q (.panic c) (a.put oi.dst v) w → Q (.panic c) a w) :
    ∀ (fuel : Nat) (listed : Array Bool) (a : Act) (w : World),
      (∀ j oj, ops[j]? = some oj → j ≠ i → listed.getD j true = false → (∀ e ∈ oj.after, Region.binds md e = true → e.on ≠ i) → oi.apart ops oj = true) →
      i ∈ Region.ready md ops listed → YieldsC P ops S oi v a → S w →
      wpAnyK P md ops Q S k fuel (listed.setIfInBounds i true) (a.put oi.dst v) w → wpAnyK P md ops Q S k (fuel + 1) listed a w := by
  intro fuel
  induction fuel with
  | zero =>
    intro listed a w _ hr hy hS H
    refine ⟨fun h => (by rw [h] at hr; cases hr), fun j hj => ?_⟩
    by_cases hji : j = i
    · subst hji; exact hy.wpOp hi hS ⟨fun _ => hS, H⟩
    · have := ready_mono hj hji
      rw [H.1] at this
      cases this
  | succ fuel ih =>
    intro listed a w hfree hr hy hS H
    refine ⟨fun h => (by rw [h] at hr; cases hr), fun j hj => ?_⟩
    by_cases hji : j = i
    · subst hji; exact hy.wpOp hi hS ⟨fun _ => hS, H⟩
    · have h1 := H.2 j (ready_mono hj hji)
      obtain ⟨hjun, oj, hoj, hall⟩ := mem_ready.1 hj
      have hnot : ∀ e ∈ oj.after, Region.binds md e = true → e.on ≠ i := fun e he hb heq => by
        have h1 := hall e he hb
        have h0 := (mem_ready.1 hr).1
        rw [heq] at h1
        rcases Nat.lt_or_ge i listed.size with h' | h'
        · simp [h'] at h0 h1; rw [h0] at h1; cases h1
        · simp [Array.getElem?_eq_none h'] at h1
      have hjk : j ≠ k := fun e => by
        subst e
        obtain ⟨o', ho', ed, hed, hb, hon⟩ := Region.waitsFor_spec hk
        rw [hoj] at ho'; cases ho'
        exact hnot ed hed hb hon
      have h2 := wpOp_putC hoj (hfree j oj hoj hji hjun hnot) (fun cs b => hsel i oi cs b hi) (fun cs b => hsel j oj cs b hoj) hQ hy h1
      have hfree' : ∀ k ok, ops[k]? = some ok → k ≠ i → (listed.setIfInBounds j true).getD k true = false →
          (∀ e ∈ ok.after, Region.binds md e = true → e.on ≠ i) → oi.apart ops ok = true := fun k ok hk hki hun hno => by
        refine hfree k ok hk hki ?_ hno
        by_cases hjk : j = k
        · subst hjk; exact hjun
        · rw [getD_set_ne true hjk] at hun; exact hun
      refine wpOp_mono (fun a' w' h3 => ⟨h3.2.1, ih (listed.setIfInBounds j true) a' w' hfree' (ready_mono hr (Ne.symm hji)) h3.1 (h3.2.1 hjk) ?_⟩) h2
      rw [Array.setIfInBounds_comm _ _ hji]
      exact h3.2.2

/-- Take number i first. -/
theorem takeK (i : Nat) {oi : Oper} {v : Value} {fuel : Nat} {listed : Array Bool} {a : Act} {w : World} (hi : ops[i]? = some oi)
    (hs : Region.noSelect ops = true) (hf : Region.free md ops listed i = true) (hr : (Region.ready md ops listed).contains i = true) (hk : Region.waitsFor md ops k i = true)
    (hQ : ∀ c a w, Q (.panic c) (a.put oi.dst v) w → Q (.panic c) a w) (hS : S w)
    (hw : Region.wanted oi (yielded ops a.tmps) = true)
    (hy : ∀ w, S w → (execOp a.eval oi).run P w = .ok (.value v) w)
    (h : wpAnyK P md ops Q S k fuel (listed.setIfInBounds i true) (a.put oi.dst v) w) : wpAnyK P md ops Q S k (fuel + 1) listed a w :=
  wpAnyK_first hi (Region.noSelect_spec hs) hk hQ fuel listed a w (Region.free_spec hi hf) (by simpa using hr) ⟨hw, fun w hw => .inl (hy w hw)⟩ hS h

/-- Take the call number i first. -/
theorem takeCallK (i : Nat) {oi : Oper} {v : Value} {fuel : Nat} {listed : Array Bool} {a : Act} {w : World} {f : FuncId} {args : Array Value} (hi : ops[i]? = some oi)
    (hs : Region.noSelect ops = true) (hf : Region.free md ops listed i = true) (hr : (Region.ready md ops listed).contains i = true) (hk : Region.waitsFor md ops k i = true)
    (hQ : ∀ c a w, Q (.panic c) (a.put oi.dst v) w → Q (.panic c) a w) (hS : S w)
    (hw : Region.wanted oi (yielded ops a.tmps) = true)
    (hy : ∀ w, S w → (execOp a.eval oi).run P w = .ok (.enter f args) w) (hc : ∀ w, Calls P f args w (fun e w'' => e = .returned v ∧ w'' = w))
    (h : wpAnyK P md ops Q S k fuel (listed.setIfInBounds i true) (a.put oi.dst v) w) : wpAnyK P md ops Q S k (fuel + 1) listed a w :=
  wpAnyK_first hi (Region.noSelect_spec hs) hk hQ fuel listed a w (Region.free_spec hi hf) (by simpa using hr) ⟨hw, fun w hw => .inr ⟨f, args, hy w hw, hc w⟩⟩ hS h

/-- Number i alone may come up: it is carried out, and S is shown anew (but behind number k). -/
theorem stepK (i : Nat) {oi : Oper} {fuel : Nat} {listed : Array Bool} {a : Act} {w : World} (hi : ops[i]? = some oi) (hr : Region.ready md ops listed = [i]) (hw : Region.wanted oi (yielded ops a.tmps) = true)
    (h : ∀ K : Act → World → Prop, (∀ a' w', (i ≠ k → S w') → wpAnyK P md ops Q S k fuel (listed.setIfInBounds i true) a' w' → K a' w') → oi.wp P a w K Q) : wpAnyK P md ops Q S k (fuel + 1) listed a w := by
  refine ⟨fun h0 => (by rw [hr] at h0; cases h0), fun j hj => ?_⟩
  rw [hr] at hj
  have : j = i := by simpa using hj
  subst this
  unfold wpOp
  simp only [hi, hw, if_true]
  exact .inl (h _ (fun a' w' h1 h2 => ⟨h1, h2⟩))

theorem doneK {listed : Array Bool} {a : Act} {w : World} (hr : Region.ready md ops listed = []) (h : Q .normal a w) : ∀ fuel, wpAnyK P md ops Q S k fuel listed a w
  | 0 => ⟨hr, h⟩
  | _ + 1 => ⟨fun _ => h, by rw [hr]; simp⟩

theorem regionK (S : World → Prop) (k : Nat) {id : Nat} {a : Act} {w : World} (hm : P.follows .mixedOrders = true)
    (h : wpAnyK P .any ops Q S k ops.size (Array.replicate ops.size false) a w.drew) : (Code.region id ops true).wp P Q a w :=
  wp_region_any hm (wpAny_of_K _ _ _ _ h)
end

theorem grown_refl (W : World) (row : Option Nat) : W.grownBy W row := ⟨rfl, rfl, rfl, Nat.le_refl _, fun _ _ _ => rfl⟩
theorem grown_trans {A B C : World} {row : Option Nat} (h : A.grownBy B row) (g : B.grownBy C row) : A.grownBy C row :=
  ⟨g.os.trans h.os, g.tape.trans h.tape, g.output.trans h.output, Nat.le_trans h.size g.size, fun k hk hr => (g.block k (Nat.lt_of_lt_of_le hk h.size) hr).trans (h.block k hk hr)⟩
theorem grown_alloc {A B : World} {row : Option Nat} (h : A.grownBy B row) (o : Obj) : A.grownBy (B.alloc o) row := grown_trans h (World.grownBy_alloc B o row)
end Go.Proofs.Ybulkdfja
