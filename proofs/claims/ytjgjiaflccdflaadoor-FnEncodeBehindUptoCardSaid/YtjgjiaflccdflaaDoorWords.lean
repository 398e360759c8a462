/-
  Words for memory: a slice value that reads as a list of cells; lists of strings, entries, steps, pairs as cells; how they are kept.
  Conditions: none. Nothing here speaks of one program.
-/
import Derived.WalkKit
import Derived.WalkSpells
import Derived.WalkLawsBesides
import Derived.StillTailTactics
import Derived.Maps.AppendAt
import Derived.Test.YtjgjiaflccdflaaDoorDefs
import Derived.Lib.Hide
namespace Go.Proofs.YtjgjiaflccdflaaDoor
open Go.RowKit


/-- the value v is a slice of n elements of sz cells each, which hold xs -/
def Row (w : World) (v : Value) (n sz : Nat) (xs : List Value) : Prop :=
  xs.length = n * sz ∧ ∃ A c, v = .slice A n c ∧ n ≤ c ∧ (0 < n → ∃ b off, A = some ⟨b, off, none⟩ ∧ b < w.heap.size ∧ ∀ j u, xs[j]? = some u → w.cell? ⟨b, off + j, none⟩ = some u)

theorem Row.up {w w' : World} {v : Value} {n sz : Nat} {xs : List Value} (h : Row w v n sz xs) (hb : Below w.heap.size w w') : Row w' v n sz xs := by
  obtain ⟨hl, A, c, rfl, hc, hx⟩ := h
  refine ⟨hl, A, c, rfl, hc, fun hn => ?_⟩
  obtain ⟨b, off, rfl, hbl, hcell⟩ := hx hn
  exact ⟨b, off, rfl, Nat.lt_of_lt_of_le hbl hb.size, fun j u hu => (hb.cell (p := ⟨b, off + j, none⟩) hbl).trans (hcell j u hu)⟩

theorem Row.nil {w : World} {sz c : Nat} {A : Option Addr} : Row w (.slice A 0 c) 0 sz [] :=
  ⟨by simp, A, c, rfl, Nat.zero_le _, fun h => absurd h (by omega)⟩

theorem Row.of_own {w : World} {base : Nat} {e : TypeId} {n sz : Nat} {v : Value} {xs : List Value} (h : w.ownsRow base e sz v n xs) : Row w v n sz xs := by
  refine ⟨h.1, ?_⟩
  rcases h.2 with ⟨rfl, rfl⟩ | ⟨g, cap, cur, rfl, _, hg, hn, _, _, _⟩
  · exact ⟨none, 0, rfl, Nat.le_refl _, fun h => absurd h (by omega)⟩
  · refine ⟨_, cap, rfl, hn, fun _ => ⟨g, 0, rfl, (Array.getElem?_eq_some_iff.1 hg).1, fun j u hu => ?_⟩⟩
    have := h.cells (g := g) rfl j u hu
    rwa [Addr.add_lit] at this

/-- element i of lists laid one behind another, each of sz cells -/
theorem flat_get {α : Type} (f : α → List Value) (sz : Nat) (l : List α) (hf : ∀ x ∈ l, (f x).length = sz) (i j : Nat) (hj : j < sz) (x : α) (hx : l[i]? = some x) : (l.flatMap f)[i * sz + j]? = (f x)[j]? := by
  induction l generalizing i with
  | nil => simp at hx
  | cons y r ih =>
    rw [List.flatMap_cons]
    have hy : (f y).length = sz := hf y (by simp)
    cases i with
    | zero =>
      simp at hx
      subst hx
      rw [Nat.zero_mul, Nat.zero_add, List.getElem?_append_left (by omega)]
    | succ i =>
      rw [List.getElem?_append_right (by rw [hy, Nat.succ_mul]; omega), hy]
      rw [show (i + 1) * sz + j - sz = i * sz + j by rw [Nat.succ_mul]; omega]
      exact ih (fun z hz => hf z (by simp [hz])) i (by simpa using hx)

theorem flat_length {α : Type} (f : α → List Value) (sz : Nat) (l : List α) (hf : ∀ x ∈ l, (f x).length = sz) : (l.flatMap f).length = l.length * sz := by
  induction l with
  | nil => simp
  | cons y r ih => rw [List.flatMap_cons, List.length_append, hf y (by simp), ih (fun z hz => hf z (by simp [hz])), List.length_cons, Nat.succ_mul, Nat.add_comm]

/-- a slice of strings -/
def Strs (w : World) (v : Value) (ss : List Bs) : Prop := Row w v ss.length 1 (ss.map encStr)

/-- the cells of a step, a pair, an answer, of an entry whose values lie in the slice u -/
def stepCells (s : Stp) : List Value := [.int .i64 s.kind, encStr s.key, encStr s.val]
def pairCells (p : Bs × Bs) : List Value := [encStr p.1, encStr p.2]
def ansCells (p : Bs × Bool) : List Value := [encStr p.1, .bool p.2]
def entCells (p : Bs × Value) : List Value := [encStr p.1, p.2]

def Stps (w : World) (v : Value) (ss : List Stp) : Prop := Row w v ss.length 3 (ss.flatMap stepCells)
def Prs (w : World) (v : Value) (ps : List (Bs × Bs)) : Prop := Row w v ps.length 2 (ps.flatMap pairCells)
def Anss (w : World) (v : Value) (ps : List (Bs × Bool)) : Prop := Row w v ps.length 2 (ps.flatMap ansCells)

/-- the values' slices hold the entries' values -/
def Inner (w : World) : List (Bs × Value) → List Ent → Prop
  | [], [] => True
  | p :: us, q :: es => (p.1 = q.1 ∧ Strs w p.2 q.2) ∧ Inner w us es
  | _, _ => False

def Ents (w : World) (v : Value) (es : List (Bs × List Bs)) : Prop :=
  ∃ us, Inner w us es ∧ Row w v us.length 2 (us.flatMap entCells)

theorem Strs.up {w w' : World} {v : Value} {ss : List Bs} (h : Strs w v ss) (hb : Below w.heap.size w w') : Strs w' v ss := Row.up h hb
theorem Stps.up {w w' : World} {v : Value} {ss : List Stp} (h : Stps w v ss) (hb : Below w.heap.size w w') : Stps w' v ss := Row.up h hb
theorem Prs.up {w w' : World} {v : Value} {ss : List (Bs × Bs)} (h : Prs w v ss) (hb : Below w.heap.size w w') : Prs w' v ss := Row.up h hb
theorem Inner.up {w w' : World} : ∀ {us : List (Bs × Value)} {es : List Ent}, Inner w us es → Below w.heap.size w w' → Inner w' us es
  | [], [], _, _ => trivial
  | _ :: _, _ :: _, h, hb => ⟨⟨h.1.1, h.1.2.up hb⟩, Inner.up h.2 hb⟩
  | [], _ :: _, h, _ => h.elim
  | _ :: _, [], h, _ => h.elim
theorem Inner.len {w : World} : ∀ {us : List (Bs × Value)} {es : List Ent}, Inner w us es → us.length = es.length
  | [], [], _ => rfl
  | _ :: _, _ :: _, h => by rw [List.length_cons, List.length_cons, h.2.len]
  | [], _ :: _, h => h.elim
  | _ :: _, [], h => h.elim
theorem Inner.get {w : World} : ∀ {us : List (Bs × Value)} {es : List Ent}, Inner w us es → ∀ {i : Nat} {p : Bs × Value}, us[i]? = some p → ∃ vs, es[i]? = some (p.1, vs) ∧ Strs w p.2 vs
  | [], [], _, i, p, hp => by simp at hp
  | a :: us, q :: es, h, 0, p, hp => by
    simp at hp
    subst hp
    exact ⟨q.2, by rw [h.1.1]; rfl, h.1.2⟩
  | a :: us, q :: es, h, i + 1, p, hp => by
    obtain ⟨vs, h1, h2⟩ := h.2.get (i := i) (p := p) (by simpa using hp)
    exact ⟨vs, by simpa using h1, h2⟩
  | [], _ :: _, h, _, _, _ => h.elim
  | _ :: _, [], h, _, _, _ => h.elim
theorem Inner.append {w : World} : ∀ {us us' : List (Bs × Value)} {es es' : List Ent}, Inner w us es → Inner w us' es' → Inner w (us ++ us') (es ++ es')
  | [], _, [], _, _, h' => h'
  | _ :: _, _, _ :: _, _, h, h' => ⟨h.1, h.2.append h'⟩
  | [], _, _ :: _, _, h, _ => h.elim
  | _ :: _, _, [], _, h, _ => h.elim
theorem Inner.one {w : World} {k : Bs} {u : Value} {vs : List Bs} (hs : Strs w u vs) : Inner w [(k, u)] [(k, vs)] := ⟨⟨rfl, hs⟩, trivial⟩
theorem Inner.place {w : World} (key : Bs) : ∀ {us : List (Bs × Value)} {es : List Ent}, Inner w us es → placeE us key = placeE es key
  | [], [], _ => rfl
  | _ :: _, _ :: _, h => by simp only [placeE, h.1.1, h.2.place key]
  | [], _ :: _, h => h.elim
  | _ :: _, [], h => h.elim
theorem Inner.with {w : World} {key : Bs} {u : Value} {vs : List Bs} (hs : Strs w u vs) : ∀ {us : List (Bs × Value)} {es : List Ent}, Inner w us es → Inner w (withE us key u) (withE es key vs)
  | [], [], _ => Inner.one hs
  | p :: us, q :: es, h => by
    have h1 := h.1.1
    simp only [withE, h1]
    split
    · exact ⟨h.1, Inner.with hs h.2⟩
    · split
      · exact ⟨⟨rfl, hs⟩, h.2⟩
      · exact ⟨⟨rfl, hs⟩, h⟩
  | [], _ :: _, h => h.elim
  | _ :: _, [], h => h.elim
theorem Inner.without {w : World} {key : Bs} : ∀ {us : List (Bs × Value)} {es : List Ent}, Inner w us es → Inner w (withoutE us key) (withoutE es key)
  | [], [], _ => trivial
  | p :: us, q :: es, h => by
    have h1 := h.1.1
    have ih := Inner.without (key := key) h.2
    simp only [withoutE, List.filter_cons, h1] at ih ⊢
    split
    · exact ⟨h.1, ih⟩
    · exact ih
  | [], _ :: _, h => h.elim
  | _ :: _, [], h => h.elim
theorem Inner.of {w : World} {key : Bs} : ∀ {us : List (Bs × Value)} {es : List Ent}, Inner w us es → (ofE us key = none ∧ ofE es key = none) ∨ ∃ u vs, ofE us key = some u ∧ ofE es key = some vs ∧ Strs w u vs
  | [], [], _ => .inl ⟨rfl, rfl⟩
  | p :: us, q :: es, h => by
    have h1 := h.1.1
    have ih := Inner.of (key := key) h.2
    simp only [ofE, h1]
    split
    · exact ih
    · split
      · exact .inr ⟨_, _, rfl, rfl, h.1.2⟩
      · exact .inl ⟨rfl, rfl⟩
  | [], _ :: _, h => h.elim
  | _ :: _, [], h => h.elim
theorem Inner.slice {w : World} {us : List (Bs × Value)} {es : List Ent} (h : Inner w us es) : ∀ p ∈ us, ∃ a n c, p.2 = .slice a n c := by
  intro p hp
  obtain ⟨i, hi, he⟩ := List.getElem_of_mem hp
  obtain ⟨vs, _, hs⟩ := h.get (i := i) (p := p) (by rw [List.getElem?_eq_getElem hi, he])
  obtain ⟨_, A, c, e, _⟩ := hs
  exact ⟨_, _, _, e⟩
theorem Ents.up {w w' : World} {v : Value} {es : List (Bs × List Bs)} (h : Ents w v es) (hb : Below w.heap.size w w') : Ents w' v es := by
  obtain ⟨us, hi, hr⟩ := h
  exact ⟨us, hi.up hb, hr.up hb⟩

theorem Strs.nil {w : World} {c : Nat} {A : Option Addr} : Strs w (.slice A 0 c) [] := Row.nil
theorem Stps.nil {w : World} {c : Nat} {A : Option Addr} : Stps w (.slice A 0 c) [] := Row.nil
theorem Prs.nil {w : World} {c : Nat} {A : Option Addr} : Prs w (.slice A 0 c) [] := Row.nil
theorem Ents.nil {w : World} {c : Nat} {A : Option Addr} : Ents w (.slice A 0 c) [] := ⟨[], trivial, Row.nil⟩

/-- what a row of such cells holds at one place -/
theorem ent_at {w : World} {b off k : Nat} {us : List (Bs × Value)} {p : Bs × Value} (hc : ∀ j u, (us.flatMap entCells)[j]? = some u → w.cell? ⟨b, off + j, none⟩ = some u) (hp : us[k]? = some p) :
    w.cell? ⟨b, off + k * 2, none⟩ = some (encStr p.1) ∧ w.cell? ⟨b, off + k * 2 + 1, none⟩ = some p.2 :=
  ⟨hc (k * 2) _ (flat_get entCells 2 us (fun _ _ => rfl) k 0 (by omega) p hp), hc (k * 2 + 1) _ (flat_get entCells 2 us (fun _ _ => rfl) k 1 (by omega) p hp)⟩
theorem pair_at {w : World} {b off k : Nat} {us : List (Bs × Bs)} {p : Bs × Bs} (hc : ∀ j u, (us.flatMap pairCells)[j]? = some u → w.cell? ⟨b, off + j, none⟩ = some u) (hp : us[k]? = some p) :
    w.cell? ⟨b, off + k * 2, none⟩ = some (encStr p.1) ∧ w.cell? ⟨b, off + k * 2 + 1, none⟩ = some (encStr p.2) :=
  ⟨hc (k * 2) _ (flat_get pairCells 2 us (fun _ _ => rfl) k 0 (by omega) p hp), hc (k * 2 + 1) _ (flat_get pairCells 2 us (fun _ _ => rfl) k 1 (by omega) p hp)⟩
theorem ans_at {w : World} {b off k : Nat} {us : List (Bs × Bool)} {p : Bs × Bool} (hc : ∀ j u, (us.flatMap ansCells)[j]? = some u → w.cell? ⟨b, off + j, none⟩ = some u) (hp : us[k]? = some p) :
    w.cell? ⟨b, off + k * 2, none⟩ = some (encStr p.1) ∧ w.cell? ⟨b, off + k * 2 + 1, none⟩ = some (.bool p.2) :=
  ⟨hc (k * 2) _ (flat_get ansCells 2 us (fun _ _ => rfl) k 0 (by omega) p hp), hc (k * 2 + 1) _ (flat_get ansCells 2 us (fun _ _ => rfl) k 1 (by omega) p hp)⟩
theorem step_at {w : World} {b off k : Nat} {us : List Stp} {p : Stp} (hc : ∀ j u, (us.flatMap stepCells)[j]? = some u → w.cell? ⟨b, off + j, none⟩ = some u) (hp : us[k]? = some p) :
    w.cell? ⟨b, off + k * 3, none⟩ = some (.int .i64 p.kind) ∧ w.cell? ⟨b, off + k * 3 + 1, none⟩ = some (encStr p.key) ∧ w.cell? ⟨b, off + k * 3 + 2, none⟩ = some (encStr p.val) :=
  ⟨hc (k * 3) _ (flat_get stepCells 3 us (fun _ _ => rfl) k 0 (by omega) p hp), hc (k * 3 + 1) _ (flat_get stepCells 3 us (fun _ _ => rfl) k 1 (by omega) p hp), hc (k * 3 + 2) _ (flat_get stepCells 3 us (fun _ _ => rfl) k 2 (by omega) p hp)⟩
theorem str_at {w : World} {b off k : Nat} {ss : List Bs} {s : Bs} (hc : ∀ j u, (ss.map encStr)[j]? = some u → w.cell? ⟨b, off + j, none⟩ = some u) (hp : ss[k]? = some s) :
    w.cell? ⟨b, off + k, none⟩ = some (encStr s) := hc k _ (by rw [List.getElem?_map, hp]; rfl)

end Go.Proofs.YtjgjiaflccdflaaDoor
