/-
  Plain laws: rows laid flat; what find and get find is the same.
-/
import Derived.Test.YbulkdfjaAh
namespace Go.Proofs.Ybulkdfja
open Go.RowKit
set_option linter.unusedVariables false

theorem flat_get {α β : Type} (f : α → List β) (k : Nat) (hk : ∀ x, (f x).length = k) : ∀ (l : List α) (i j : Nat) (x : α), l[i]? = some x → j < k → (l.flatMap f)[i * k + j]? = (f x)[j]?
  | [], i, j, x, h, _ => by simp at h
  | y :: l, 0, j, x, h, hj => by
    simp at h
    subst h
    rw [List.flatMap_cons, List.getElem?_append_left (by rw [hk]; omega)]
    simp
  | y :: l, i + 1, j, x, h, hj => by
    simp at h
    rw [List.flatMap_cons, List.getElem?_append_right (by rw [hk, Nat.succ_mul]; omega), hk]
    have := flat_get f k hk l i j x h hj
    rw [← this]
    congr 1
    rw [Nat.succ_mul]; omega

/-- A row's cells, element by element. -/
theorem row_cell {α : Type} {W : World} {base : Nat} {e : TypeId} {size : Nat} {g n cap : Nat} {f : α → List Value} {l : List α} (hk : ∀ x, (f x).length = size) (h : W.ownsRow base e size (.slice (some ⟨g, 0, none⟩) n cap) n (l.flatMap f))
    {i j : Nat} {x : α} {u : Value} (hi : l[i]? = some x) (hj : j < size) (hu : (f x)[j]? = some u) : W.cell? ⟨g, i * size + j, none⟩ = some u := by
  have := h.cells (g := g) rfl (i * size + j) u (by rw [flat_get f size hk l i j x hi hj]; exact hu)
  rwa [Addr.add_mid, Nat.zero_add] at this

theorem row_form {W : World} {base : Nat} {e : TypeId} {size : Nat} {v : Value} {n : Nat} {xs : List Value} (h : W.ownsRow base e size v n xs) : ∃ (p : Option Addr) (g cap : Nat), v = .slice p n cap ∧ (0 < n → p = some ⟨g, 0, none⟩ ∧ v = .slice (some ⟨g, 0, none⟩) n cap ∧ base ≤ g ∧ g < W.heap.size ∧ ∃ cur fz, W.heap[g]? = some (.cells cur e fz)) := by
  rcases h.2 with ⟨rfl, rfl⟩ | ⟨g, cap, cur, rfl, hb, hg, _⟩
  · exact ⟨none, 0, 0, rfl, fun h => absurd h (by omega)⟩
  · exact ⟨_, g, cap, rfl, fun _ => ⟨rfl, rfl, hb, (Array.getElem?_eq_some_iff.1 hg).1, cur, _, hg⟩⟩

/-- cfind at a slice that may be nil. -/
theorem cfind' (sb so n cap : Nat) (lp : Option Addr) (hlp : 0 < n → lp = some ⟨sb, so, none⟩) (eid ecp est : Nat → Int) (id : ByteArray) (cp : Int) (w : World) (hn : n ≤ 1024)
    (h0 : ∀ i, i < n → w.cell? ⟨sb, so + i * 3, none⟩ = some (.int .u8 (eid i))) (h1 : ∀ i, i < n → w.cell? ⟨sb, so + i * 3 + 1, none⟩ = some (.int .u8 (ecp i))) (h2 : ∀ i, i < n → w.cell? ⟨sb, so + i * 3 + 2, none⟩ = some (.int .u64 (est i)))
    (b0 : ∀ i, 0 ≤ eid i ∧ eid i ≤ 255) (b1 : ∀ i, 0 ≤ ecp i ∧ ecp i ≤ 255) :
    Calls Yba.prog 15 #[.slice lp n cap, .string id, .int .i64 cp] w fun e w' => e = .returned (.tuple #[.int .u64 (findFrom eid ecp est id cp n 0).1, .bool (findFrom eid ecp est id cp n 0).2]) ∧ w' = w := by
  by_cases hz : 0 < n
  · obtain rfl := hlp hz
    exact cfind sb so n cap eid ecp est id cp w hn h0 h1 h2 b0 b1
  · obtain rfl : n = 0 := by omega
    clear h0 h1 h2 b0 b1 hlp
    rw [show findFrom eid ecp est id cp 0 0 = (0, false) from rfl]
    go_enter Yba.func15, Yba.ntmps15
    go_wp2
    go_loop [8] (fun vi => vi = .int .i64 0) (fun _ => 0)
    case atStart => rfl
    case round =>
      subst hrel
      go_wp2
      go_ret2
      exact ⟨rfl, rfl⟩

def entD (eid ecp est : Nat → Int) : Nat → ByteArray := fun j => sid (eid j)

/-- What the law wants of an unsent slot. -/
def wU (eid ecp est : Nat → Int) (n : Nat) (x : ByteArray × Int) : OutD :=
  if (findFrom eid ecp est x.1 x.2 n 0).2 = true then ⟨x.1, x.2, (findFrom eid ecp est x.1 x.2 n 0).1, false⟩ else ⟨⟨#[]⟩, 0, 0, false⟩

/-- Two copies that read alike. -/
def Like (g o : OutD) : Prop := g.id.toList = o.id.toList ∧ g.cp = o.cp ∧ g.st = o.st ∧ g.rm = o.rm

theorem find_get (eid ecp est : Nat → Int) (id : ByteArray) (cp : Int) : ∀ (f i : Nat),
    (getFrom (fun j => sid (eid j)) (fun j => ecp j % 3) id cp f i = none ∧ findFrom eid ecp est id cp f i = (0, false)) ∨
    ∃ j, getFrom (fun j => sid (eid j)) (fun j => ecp j % 3) id cp f i = some j ∧ findFrom eid ecp est id cp f i = (est j, true) ∧ (sid (eid j)).toList = id.toList ∧ ecp j % 3 = cp
  | 0, i => .inl ⟨rfl, rfl⟩
  | f + 1, i => by
    unfold getFrom findFrom
    by_cases h : (sid (eid i)).toList = id.toList ∧ ecp i % 3 = cp
    · rw [if_pos h, if_pos h]
      exact .inr ⟨i, rfl, rfl, h⟩
    · rw [if_neg h, if_neg h]
      exact find_get eid ecp est id cp f (i + 1)

theorem like_U (eid ecp est : Nat → Int) (n : Nat) (x : ByteArray × Int) : Like (gU (fun j => sid (eid j)) (fun j => ecp j % 3) est n x) (wU eid ecp est n x) := by
  unfold gU wU
  rcases find_get eid ecp est x.1 x.2 n 0 with ⟨h1, h2⟩ | ⟨j, h1, h2, h3, h4⟩
  · rw [h1, h2]; exact ⟨rfl, rfl, rfl, rfl⟩
  · rw [h1, h2]; exact ⟨h3, h4, rfl, rfl⟩

def wantC (o : OutD) : List Value := [.string o.id, .int .i64 o.cp, .int .u64 o.st, .bool o.rm]

/-- outs and wants: element by element alike. -/
theorem like_all (eid ecp est : Nat → Int) (n : Nat) (us : List (ByteArray × Int)) (rs : List OutD) (i : Nat) (o : OutD) (h : (us.map (wU eid ecp est n) ++ rs)[i]? = some o) :
    ∃ g, (us.map (gU (fun j => sid (eid j)) (fun j => ecp j % 3) est n) ++ rs)[i]? = some g ∧ Like g o := by
  by_cases hi : i < us.length
  · rw [List.getElem?_append_left (by simpa using hi)] at h ⊢
    rw [List.getElem?_map] at h ⊢
    cases hx : us[i]? with
    | none => rw [hx] at h; cases h
    | some x =>
      rw [hx] at h
      simp only [Option.map_some, Option.some.injEq] at h ⊢
      exact ⟨_, rfl, by rw [← h]; exact like_U eid ecp est n x⟩
  · rw [List.getElem?_append_right (by simp; omega)] at h ⊢
    simp only [List.length_map] at h ⊢
    exact ⟨o, h, rfl, rfl, rfl, rfl⟩
end Go.Proofs.Ybulkdfja
