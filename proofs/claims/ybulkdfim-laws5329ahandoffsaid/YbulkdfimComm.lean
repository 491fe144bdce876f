/-
  A walk that lets a communication through: 'wpN': the weakest precondition for a frame that was entered by an ordinary call. All that holds no communication is walked by the kit ('wpN_of_wp', 'wpN_seq_k').
-/
import Derived.Test.YbulkdfimPop
import Derived.Conc.LoneCalls
namespace Go.Proofs.Ybulkdfim
open Go.RowKit Go.Conc

def wpN (P : Program) (c : Code) (Q : Exit → Act → World → Prop) (a : Act) (w : World) : Prop :=
  ∀ (b : Frame) (k : List Item) (cs : List Frame), b.kind = .normal → ∃ e a' w', Q e a' w' ∧ Arrives P (lone (b.at a (.code c :: k)) cs w) b k cs e a' w'
def OpsN (P : Program) (ops : Array Oper) (Q : Exit → Act → World → Prop) (l : List Nat) (a : Act) (w : World) : Prop :=
  ∀ (b : Frame) (k : List Item) (cs : List Frame), b.kind = .normal → ∃ e a' w', Q e a' w' ∧ Arrives P (lone (b.at a (.inRegion ops l :: k)) cs w) b k cs e a' w'

section
variable {P : Program} {Q : Exit → Act → World → Prop} {a : Act} {w : World}
theorem wpN_of_wp {c : Code} (h : c.wp P Q a w) : wpN P c Q a w := fun b k cs _ => h b k cs
theorem wpN_mono {c : Code} {Q' : Exit → Act → World → Prop} (h : wpN P c Q a w) (hq : ∀ e a w, Q e a w → Q' e a w) : wpN P c Q' a w :=
  fun b k cs hb => let ⟨e, a', w', q, r⟩ := h b k cs hb; ⟨e, a', w', hq _ _ _ q, r⟩
theorem wpN_seq {x y : Code} (h : wpN P x (Exit.then (fun a w => wpN P y Q a w) Q) a w) : wpN P (Code.seq x y) Q a w := by
  intro b k cs hb
  obtain ⟨e, a₁, w₁, hq, harr⟩ := h b (.code y :: k) cs hb
  by_cases he : e = .normal
  · subst he
    obtain ⟨e₂, a₂, w₂, hq₂, harr₂⟩ := hq b k cs hb
    exact ⟨e₂, a₂, w₂, hq₂, .of_steps (.head step_seq harr) harr₂⟩
  · refine ⟨e, a₁, w₁, ?_, .of_steps (.one step_seq) (.pass (x := .code y) rfl (fun _ _ => .inl he) harr)⟩
    cases e with
    | normal => exact absurd rfl he
    | exit id => exact hq
    | goto l => exact hq
    | ret => exact hq
    | panic ch => exact hq
    | outgrown => exact hq
theorem wpN_seq_k {x y : Code} (h : ∀ K : Act → World → Prop, (∀ a w, wpN P y Q a w → K a w) → x.wp P (Exit.then K Q) a w) : wpN P (Code.seq x y) Q a w :=
  wpN_seq (wpN_of_wp (h _ fun _ _ h => h))
theorem wpN_cond {c : Operand} {x y : Code} {t : Bool} (hc : a.eval c = .bool t) (h : wpN P (if t then x else y) Q a w) : wpN P (Code.cond c x y) Q a w :=
  fun b k cs hb => let ⟨e, a', w', q, r⟩ := h b k cs hb; ⟨e, a', w', q, .of_steps (.one (step_cond hc)) r⟩
theorem wpN_block {id : Nat} {c : Code} (h : wpN P c (Exit.inBlock id Q) a w) : wpN P (Code.block id c) Q a w := by
  intro b k cs hb
  obtain ⟨e, a₁, w₁, hq, harr⟩ := h b (.inBlock id :: k) cs hb
  cases e with
  | normal => exact ⟨.normal, a₁, w₁, hq, .head step_block (harr.trans (.one step_inBlock))⟩
  | exit id' =>
    by_cases hi : id' = id
    · subst hi
      have hq' : Q .normal a₁ w₁ := by simpa [Exit.inBlock] using hq
      exact ⟨.normal, a₁, w₁, hq', .head step_block (harr k (by simp [exitTo]))⟩
    · have hq' : Q (.exit id') a₁ w₁ := by simpa [Exit.inBlock, hi] using hq
      exact ⟨.exit id', a₁, w₁, hq', fun k' hk => .head step_block (harr k' (by simpa [exitTo, Ne.symm hi] using hk))⟩
  | goto l => exact ⟨.goto l, a₁, w₁, hq, fun k' hk => .head step_block (harr k' (by simpa [gotoIn] using hk))⟩
  | ret => obtain ⟨todo, hs⟩ := harr; exact ⟨.ret, a₁, w₁, hq, todo, .head step_block hs⟩
  | panic ch => obtain ⟨todo, hs⟩ := harr; exact ⟨.panic ch, a₁, w₁, hq, todo, .head step_block hs⟩
  | outgrown => exact ⟨.outgrown, a₁, w₁, hq, harr.imp (fun h => h) (Outgrown.of_steps (.one step_block))⟩
theorem wpN_region {id : Nat} {ops : Array Oper} (h : OpsN P ops Q (List.range ops.size) a w) : wpN P (.region id ops false) Q a w :=
  fun b k cs hb => let ⟨e, a', w', q, r⟩ := h b k cs hb; ⟨e, a', w', q, .of_steps (.one step_region) r⟩
end

section
variable {P : Program} {ops : Array Oper} {Q : Exit → Act → World → Prop} {a : Act} {w w' : World} {i : Nat} {rest : List Nat} {o : Oper}
theorem OpsN.nil (h : Q .normal a w) : OpsN P ops Q [] a w := fun _ _ _ _ => ⟨.normal, a, w, h, .one step_region_end⟩
theorem OpsN.value {v : Value} (ho : ops[i]? = some o) (hw : Region.wanted o (yielded ops a.tmps) = true) (hr : (execOp a.eval o).run P w = .ok (.value v) w')
    (h : OpsN P ops Q rest (a.put o.dst v) w') : OpsN P ops Q (i :: rest) a w := by
  intro b k cs hb
  obtain ⟨e, a', w'', hq, harr⟩ := h b k cs hb
  refine ⟨e, a', w'', hq, .of_steps (.one (step_lone_go ?_)) harr⟩
  have hfin : (b.at a (.inRegion ops (i :: rest) :: k)).finish v = b.at (a.put o.dst v) (.inRegion ops rest :: k) := by
    rw [Frame.finish_at, ho]; rfl
  rw [stepG_op ho hw, ← hfin]; simp [stepG.apply, hr]
theorem OpsN.send {c cap s r : Nat} {buf : Array Value} {v z : Value} {tm : Bool} (ho : ops[i]? = some o) (hw : Region.wanted o (yielded ops a.tmps) = true)
    (hr : (execOp a.eval o).run P w = .ok (.comm #[scase c v z] true .send) w') (hc : w'.heap[c]? = some (.chan cap buf false s r tm)) (hroom : buf.size < cap)
    (h : OpsN P ops Q rest (a.put o.dst undef) (w'.setChan c cap (buf.push v) false (s + 1) r tm)) : OpsN P ops Q (i :: rest) a w := by
  intro b k cs hb
  obtain ⟨e, a', w'', hq, harr⟩ := h b k cs hb
  refine ⟨e, a', w'', hq, .of_steps (.one ?_) harr⟩
  have hs := step_lone_send_room (P := P) (fr := b.at a (.inRegion ops (i :: rest) :: k)) (cs := cs) (w := w) (stepG_comm ho hw (by rw [hb]; decide) hr) hc hroom
  have hfin : (b.at a (.inRegion ops (i :: rest) :: k)).finish undef = b.at (a.put o.dst undef) (.inRegion ops rest :: k) := by
    rw [Frame.finish_at, ho]; rfl
  rw [hfin] at hs
  exact hs
theorem OpsN.recv {c cap s r : Nat} {buf : Array Value} {z : Value} {closed tm : Bool} (ho : ops[i]? = some o) (hw : Region.wanted o (yielded ops a.tmps) = true)
    (hr : (execOp a.eval o).run P w = .ok (.comm #[rcase c z] true (.recv false)) w') (hc : w'.heap[c]? = some (.chan cap buf closed s r tm)) (hsome : 0 < buf.size)
    (h : OpsN P ops Q rest (a.put o.dst (buf.getD 0 undef)) (w'.setChan c cap (buf.extract 1 buf.size) closed s (r + 1) tm)) : OpsN P ops Q (i :: rest) a w := by
  intro b k cs hb
  obtain ⟨e, a', w'', hq, harr⟩ := h b k cs hb
  refine ⟨e, a', w'', hq, .of_steps (.one ?_) harr⟩
  have hs := step_lone_recv_buf (P := P) (fr := b.at a (.inRegion ops (i :: rest) :: k)) (cs := cs) (w := w) false (stepG_comm ho hw (by rw [hb]; decide) hr) hc hsome
  have hfin : (b.at a (.inRegion ops (i :: rest) :: k)).finish (got false (buf.getD 0 undef) true) = b.at (a.put o.dst (buf.getD 0 undef)) (.inRegion ops rest :: k) := by
    rw [Frame.finish_at, ho]; rfl
  rw [hfin] at hs
  exact hs
end

/-- A loop: 'I n' holds at the round's head; each round lowers n. -/
theorem wpN_loop {P : Program} {Q : Exit → Act → World → Prop} {c : Code} (I : Nat → Act → World → Prop)
    (h : ∀ n a w, I n a w → wpN P c (Exit.then (fun a w => ∃ m, m < n ∧ I m a w) Q) a w) : ∀ n a w, I n a w → wpN P (.loop c) Q a w := by
  have key : ∀ n a w, I n a w → ∀ (b : Frame) (k : List Item) (cs : List Frame), b.kind = .normal → ∃ e a' w', Q e a' w' ∧ Arrives P (lone (b.at a (.code c :: .inLoop c :: k)) cs w) b k cs e a' w' := by
    intro n
    induction n using Nat.strongRecOn with
    | _ n ih =>
      intro a w hI b k cs hb
      obtain ⟨e, a₁, w₁, hq, harr⟩ := h n a w hI b (.inLoop c :: k) cs hb
      by_cases he : e = .normal
      · subst he
        obtain ⟨m, hm, hI'⟩ := hq
        obtain ⟨e₂, a₂, w₂, hq₂, harr₂⟩ := ih m hm a₁ w₁ hI' b k cs hb
        exact ⟨e₂, a₂, w₂, hq₂, .of_steps (Steps.trans harr (.one step_inLoop)) harr₂⟩
      · refine ⟨e, a₁, w₁, ?_, .pass (x := .inLoop c) rfl (fun _ _ => .inl he) harr⟩
        cases e with
        | normal => exact absurd rfl he
        | exit id => exact hq
        | goto l => exact hq
        | ret => exact hq
        | panic ch => exact hq
        | outgrown => exact hq
  intro n a w hI b k cs hb
  obtain ⟨e, a', w', hq, harr⟩ := key n a w hI b k cs hb
  exact ⟨e, a', w', hq, .of_steps (.one step_loop) harr⟩

theorem calls_of_wpN {P : Program} {f : FuncId} {fn : Func} {c : Code} {args : Array Value} {w : World} {R : Ending → World → Prop} (hf : P.funcs[f]? = some fn) (hb : fn.body = some c)
    (h : wpN P c (bodyPost P fn R) { tmps := args ++ Array.replicate (fn.ntmps - args.size) undef, defers := [] } w) : Calls P f args w R := by
  intro cs
  have henter : Frame.enter P f args .normal = ({ (default : Frame) with fn := f, kind := .normal } : Frame).at { tmps := args ++ Array.replicate (fn.ntmps - args.size) undef, defers := [] } [.code c] := by
    simp [Frame.enter, Frame.at, hf, hb]
  obtain ⟨e, a', w', hq, harr⟩ := h { (default : Frame) with fn := f, kind := .normal } [] cs rfl
  rw [← henter] at harr
  cases e with
  | normal => obtain ⟨hd, v, hr, hR⟩ := hq; exact ⟨.returned v, w', _, hR, Steps.trans harr (.one step_end), rfl, rfl, hd, rfl, fn, hf, hr⟩
  | ret => obtain ⟨hd, v, hr, hR⟩ := hq; obtain ⟨todo, hs⟩ := harr; exact ⟨.returned v, w', _, hR, hs, rfl, rfl, hd, rfl, fn, hf, hr⟩
  | panic chain => obtain ⟨hd, hR⟩ := hq; obtain ⟨todo, hs⟩ := harr; exact ⟨.panicked chain, w', _, hR, hs, rfl, rfl, hd, fn, hf⟩
  | exit id => exact hq.elim
  | goto l => exact hq.elim
  | outgrown => exact ⟨.outgrown, w', { (default : Frame) with fn := f, kind := .normal }, hq, harr.resolve_left (by simp), rfl, trivial⟩
end Go.Proofs.Ybulkdfim
