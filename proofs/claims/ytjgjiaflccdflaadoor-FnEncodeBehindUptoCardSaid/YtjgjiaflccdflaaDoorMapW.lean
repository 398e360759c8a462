/-
  Words for the map of values: block b is a map whose elements are slices of strings, each in a row of its own; what it reads as. Conditions: none.
-/
import Derived.Test.YtjgjiaflccdflaaDoorProg
import Derived.Test.YtjgjiaflccdflaaDoorWords
import Derived.Test.YtjgjiaflccdflaaDoorSort
import Derived.Maps.OwnSet
import Derived.Sort.KeysCollected
namespace Go.Proofs.YtjgjiaflccdflaaDoor
open Go.RowKit Go.Maps

theorem bytesLess_eq : ∀ a b : Bs, Op.bytesLess a b = decide (a < b)
  | [], [] => by simp [Op.bytesLess]
  | [], _ :: _ => by simp [Op.bytesLess]
  | _ :: _, [] => by simp [Op.bytesLess]
  | a :: x, b :: y => by
    simp only [Op.bytesLess, bytesLess_eq x y, List.cons_lt_cons_iff]
    rw [Bool.eq_iff_iff]
    simp

theorem bytesBefore_eq : ∀ a b : Bs, bytesBefore a b = decide (a < b)
  | [], [] => by simp [bytesBefore]
  | [], _ :: _ => by simp [bytesBefore]
  | _ :: _, [] => by simp [bytesBefore]
  | a :: x, b :: y => by
    simp only [bytesBefore, bytesBefore_eq x y, List.cons_lt_cons_iff]
    rw [Bool.eq_iff_iff]
    simp

/-- an element as it lies -/
def raw (v : Value) : Option (DataW Value × List MemPlace) := some (.held v, [])

def rawE (p : Bs × Value) : Lit × DataW Value := (.string p.1, .held p.2)

abbrev rawD (l : List (Bs × Value)) : DataW Value := .map (l.map rawE)

theorem rawD_put {l : List (Bs × Value)} (h : Srt l) (k : Bs) (v : Value) : (rawD l).put (.string k) (.held v) = rawD (withE l k v) := by
  rw [withE_ins h]
  show DataW.map (DataW.insert (.string k, .held v) ((l.map rawE).filter fun p => !p.1.sameKey (.string k))) = _
  have e1 : (l.map rawE).filter (fun p => !p.1.sameKey (.string k)) = (withoutE l k).map rawE := by
    rw [List.filter_map]
    rfl
  rw [e1]
  congr 1
  generalize withoutE l k = r
  induction r with
  | nil => rfl
  | cons y r ih =>
    simp only [List.map_cons, DataW.insert, insE]
    show (if Lit.before (.string k) (.string y.1) = true then _ else _) = _
    simp only [Lit.before, bytesBefore_eq, decide_eq_true_eq]
    split
    · rfl
    · rw [ih]; rfl

theorem rawD_del (l : List (Bs × Value)) (k : Bs) : (rawD l).del (.string k) = rawD (withoutE l k) := by
  show DataW.map ((l.map rawE).filter fun p => !p.1.sameKey (.string k)) = _
  rw [List.filter_map]
  rfl

theorem rawD_at {l : List (Bs × Value)} (h : Srt l) (k : Bs) (z : Value) : (rawD l).atKey (.string k) (.held z) = .held ((ofE l k).getD z) := by
  rw [ofE_find h]
  unfold DataW.atKey
  simp only [List.find?_map]
  have : ((fun p : Lit × DataW Value => p.1.sameKey (.string k)) ∘ rawE) = fun p : Bs × Value => p.1 == k := rfl
  rw [this]
  cases l.find? (fun p => p.1 == k) with
  | none => rfl
  | some p => rfl

theorem rawD_has {l : List (Bs × Value)} (h : Srt l) (k : Bs) : Maps.has (rawD l) (.string k) = (ofE l k).isSome := by
  rw [ofE_any h]
  show (l.map rawE).any _ = _
  rw [List.any_map]
  rfl

theorem rawD_keys (l : List (Bs × Value)) : strKeys (rawD l) = l.map (·.1) := by
  show (l.map rawE).map _ = _
  rw [List.map_map]
  rfl

/-- each value's slice owns its row of strings -/
def OwnIn (w : World) (base : Nat) : List (Bs × Value) → List Ent → Prop
  | [], [] => True
  | p :: us, q :: es => (p.1 = q.1 ∧ w.ownsRow base 9 1 p.2 q.2.length (q.2.map encStr)) ∧ OwnIn w base us es
  | _, _ => False

def Apt (l : List (Bs × Value)) : Prop := l.Pairwise fun p q => p.2.ownBlock = none ∨ p.2.ownBlock ≠ q.2.ownBlock

/-- BLOCK b IS A MAP THAT READS AS m; its rows and itself lie from base on. -/
def Vals (w : World) (base b : Nat) (m : List Ent) : Prop :=
  ∃ l, w.ownsMap Tryd.prog 9 raw b l.length (rawD l) ∧ base ≤ b ∧ Srt l ∧ OwnIn w base l m ∧ Apt l

theorem apt_symm {p q : Bs × Value} (h : p.2.ownBlock = none ∨ p.2.ownBlock ≠ q.2.ownBlock) : q.2.ownBlock = none ∨ q.2.ownBlock ≠ p.2.ownBlock := by
  cases hq : q.2.ownBlock with
  | none => exact .inl rfl
  | some g =>
    refine .inr fun e => ?_
    rcases h with h | h
    · rw [h] at e; cases e
    · exact h (by rw [← e, hq])
theorem Apt.mem : ∀ {l : List (Bs × Value)}, Apt l → ∀ {p q : Bs × Value}, p ∈ l → q ∈ l → p.1 ≠ q.1 → p.2.ownBlock = none ∨ p.2.ownBlock ≠ q.2.ownBlock
  | [], _, _, _, hp, _, _ => by simp at hp
  | a :: r, h, p, q, hp, hq, hne => by
    obtain ⟨h1, h2⟩ := List.pairwise_cons.1 h
    rcases List.mem_cons.1 hp with ep | hp'
    · rcases List.mem_cons.1 hq with eq | hq'
      · exact absurd (by rw [ep, eq]) hne
      · rw [ep]; exact h1 q hq'
    · rcases List.mem_cons.1 hq with eq | hq'
      · rw [eq]; exact apt_symm (h1 p hp')
      · exact Apt.mem h2 hp' hq' hne
/-- a store keeps the rows apart, if the new one lies apart from the others -/
theorem Apt.with {k : Bs} {u : Value} : ∀ {l : List (Bs × Value)}, Apt l → Srt l → (∀ p ∈ l, p.1 ≠ k → p.2.ownBlock = none ∨ p.2.ownBlock ≠ u.ownBlock) → Apt (withE l k u)
  | [], _, _, _ => by simp [withE, Apt]
  | a :: r, h, hs, hn => by
    obtain ⟨h1, h2⟩ := List.pairwise_cons.1 h
    obtain ⟨s1, s2⟩ := List.pairwise_cons.1 hs
    unfold withE
    split
    · rename_i hlt
      refine List.pairwise_cons.2 ⟨fun q hq => ?_, Apt.with h2 s2 fun p hp => hn p (by simp [hp])⟩
      by_cases hqk : q.1 = k
      · have hq2 : q.2 = u := by
          have := ofE_withE k k u s2
          rw [if_pos rfl] at this
          have hf := ofE_find (withE_srt s2 k u) k
          rw [this] at hf
          have hmem : ∀ x ∈ withE r k u, x.1 = k → x = q := by
            intro x hx hxk
            have hp := withE_srt s2 k u
            by_cases hxq : x = q
            · exact hxq
            · exfalso
              obtain ⟨i, hi, ei⟩ := List.getElem_of_mem hx
              obtain ⟨j, hj, ej⟩ := List.getElem_of_mem hq
              rcases Nat.lt_trichotomy i j with hij | hij | hij
              · have := List.pairwise_iff_getElem.1 hp i j hi hj hij
                rw [ei, ej, hxk, hqk] at this
                exact bs_irrefl _ this
              · subst hij; exact hxq (ei.symm.trans ej)
              · have := List.pairwise_iff_getElem.1 hp j i hj hi hij
                rw [ei, ej, hxk, hqk] at this
                exact bs_irrefl _ this
          cases hfd : (withE r k u).find? (fun p => p.1 == k) with
          | none => rw [hfd] at hf; cases hf
          | some x =>
            rw [hfd] at hf
            have hx := List.find?_some hfd
            have := hmem x (List.mem_of_find?_eq_some hfd) (by simpa using hx)
            subst this
            simpa using hf.symm
        rw [hq2]
        exact hn a (by simp) (bs_ne hlt)
      · rcases withE_keys r k u q hq with hk | hk
        · exact absurd hk hqk
        · exact h1 q hk
    · rename_i hlt
      split
      · rename_i he
        refine List.pairwise_cons.2 ⟨fun q hq => apt_symm (p := q) (q := (k, u)) (hn q (by simp [hq]) ?_), h2⟩
        rw [← he]
        exact Ne.symm (bs_ne (s1 q hq))
      · rename_i he
        refine List.pairwise_cons.2 ⟨fun q hq => apt_symm (p := q) (q := (k, u)) (hn q hq ?_), h⟩
        rcases List.mem_cons.1 hq with rfl | hq
        · exact he
        · exact Ne.symm (bs_ne (bs_trans (bs_total hlt he) (s1 q hq)))

section
variable {w w' : World} {base b : Nat} {m : List Ent} {l : List (Bs × Value)}

theorem OwnIn.keys : ∀ {l : List (Bs × Value)} {m : List Ent}, OwnIn w base l m → l.map (·.1) = m.map (·.1)
  | [], [], _ => rfl
  | _ :: _, _ :: _, h => by rw [List.map_cons, List.map_cons, h.1.1, h.2.keys]
  | [], _ :: _, h => h.elim
  | _ :: _, [], h => h.elim
theorem OwnIn.len (h : OwnIn w base l m) : l.length = m.length := by
  have := congrArg List.length h.keys
  simpa using this
theorem OwnIn.srt (h : OwnIn w base l m) (hs : Srt l) : Srt m := by
  have h1 : (l.map (·.1)).Pairwise (· < ·) := List.pairwise_map.2 hs
  rw [h.keys] at h1
  exact List.pairwise_map.1 h1
theorem OwnIn.kept {row : Option Nat} (hg : w.grownBy w' row) : ∀ {l : List (Bs × Value)} {m : List Ent}, OwnIn w base l m → (∀ p ∈ l, p.2.ownBlock = none ∨ p.2.ownBlock ≠ row) → OwnIn w' base l m
  | [], [], _, _ => trivial
  | p :: _, _ :: _, h, hr => ⟨⟨h.1.1, h.1.2.kept hg (hr p (by simp))⟩, h.2.kept hg fun q hq => hr q (by simp [hq])⟩
  | [], _ :: _, h, _ => h.elim
  | _ :: _, [], h, _ => h.elim
theorem OwnIn.mem : ∀ {l : List (Bs × Value)} {m : List Ent}, OwnIn w base l m → ∀ {p : Bs × Value}, p ∈ l → ∃ vs, (p.1, vs) ∈ m ∧ w.ownsRow base 9 1 p.2 vs.length (vs.map encStr)
  | [], [], _, _, hp => by simp at hp
  | a :: us, q :: es, h, p, hp => by
    rcases List.mem_cons.1 hp with rfl | hp
    · exact ⟨q.2, by rw [h.1.1]; simp, h.1.2⟩
    · obtain ⟨vs, h1, h2⟩ := h.2.mem hp
      exact ⟨vs, by simp [h1], h2⟩
  | [], _ :: _, h, _, _ => h.elim
  | _ :: _, [], h, _, _ => h.elim
theorem OwnIn.of {key : Bs} : ∀ {l : List (Bs × Value)} {m : List Ent}, OwnIn w base l m → (ofE l key = none ∧ ofE m key = none) ∨ ∃ u vs, ofE l key = some u ∧ ofE m key = some vs ∧ (key, u) ∈ l ∧ (key, vs) ∈ m ∧ w.ownsRow base 9 1 u vs.length (vs.map encStr)
  | [], [], _ => .inl ⟨rfl, rfl⟩
  | p :: us, q :: es, h => by
    have h1 := h.1.1
    have ih := OwnIn.of (key := key) h.2
    simp only [ofE, h1]
    split
    · rcases ih with ih | ⟨u, vs, a1, a2, a3, a4, a5⟩
      · exact .inl ih
      · exact .inr ⟨u, vs, a1, a2, by simp [a3], by simp [a4], a5⟩
    · split
      · rename_i hk
        refine .inr ⟨_, _, rfl, rfl, ?_, ?_, h.1.2⟩
        · rw [← hk, ← h1]; simp
        · rw [← hk]; simp
      · exact .inl ⟨rfl, rfl⟩
  | [], _ :: _, h => h.elim
  | _ :: _, [], h => h.elim
theorem OwnIn.with {key : Bs} {u : Value} {vs : List Bs} (hs : w.ownsRow base 9 1 u vs.length (vs.map encStr)) : ∀ {us : List (Bs × Value)} {es : List Ent}, OwnIn w base us es → OwnIn w base (withE us key u) (withE es key vs)
  | [], [], _ => ⟨⟨rfl, hs⟩, trivial⟩
  | p :: us, q :: es, h => by
    have h1 := h.1.1
    simp only [withE, h1]
    split
    · exact ⟨h.1, OwnIn.with hs h.2⟩
    · split
      · exact ⟨⟨rfl, hs⟩, h.2⟩
      · exact ⟨⟨rfl, hs⟩, h⟩
  | [], _ :: _, h => h.elim
  | _ :: _, [], h => h.elim
theorem OwnIn.turn : ∀ {l : List (Bs × Value)} {m : List Ent}, OwnIn w base l m → (∀ p ∈ l, ∀ n xs, w.ownsRow base 9 1 p.2 n xs → w'.ownsRow base 9 1 p.2 n xs) → OwnIn w' base l m
  | [], [], _, _ => trivial
  | p :: _, _ :: _, h, hr => ⟨⟨h.1.1, hr p (by simp) _ _ h.1.2⟩, h.2.turn fun q hq => hr q (by simp [hq])⟩
  | [], _ :: _, h, _ => h.elim
  | _ :: _, [], h, _ => h.elim
/-- a store at one key: only the other keys' rows are asked to be as they were -/
theorem OwnIn.store {key : Bs} {u : Value} {vs : List Bs} (hs : w'.ownsRow base 9 1 u vs.length (vs.map encStr)) : ∀ {us : List (Bs × Value)} {es : List Ent}, OwnIn w base us es → Srt us →
    (∀ p ∈ us, p.1 ≠ key → ∀ n xs, w.ownsRow base 9 1 p.2 n xs → w'.ownsRow base 9 1 p.2 n xs) → OwnIn w' base (withE us key u) (withE es key vs)
  | [], [], _, _, _ => ⟨⟨rfl, hs⟩, trivial⟩
  | p :: us, q :: es, h, hsr, hr => by
    have h1 := h.1.1
    obtain ⟨s1, s2⟩ := List.pairwise_cons.1 hsr
    simp only [withE, ← h1]
    split
    · rename_i hlt
      exact ⟨⟨h1, hr p (by simp) (bs_ne hlt) _ _ h.1.2⟩, OwnIn.store hs h.2 s2 fun x hx => hr x (by simp [hx])⟩
    · rename_i hlt
      split
      · rename_i he
        exact ⟨⟨rfl, hs⟩, h.2.turn fun x hx => hr x (by simp [hx]) (by rw [← he]; exact Ne.symm (bs_ne (s1 x hx)))⟩
      · rename_i he
        refine ⟨⟨rfl, hs⟩, OwnIn.turn (l := p :: us) (m := q :: es) h fun x hx => hr x hx ?_⟩
        rcases List.mem_cons.1 hx with rfl | hx
        · exact he
        · exact Ne.symm (bs_ne (bs_trans (bs_total hlt he) (s1 x hx)))
  | [], _ :: _, h, _, _ => h.elim
  | _ :: _, [], h, _, _ => h.elim
theorem row_ne_map {n' n : Nat} {D : DataW Value} {u : Value} {xs : List Value} {e : TypeId} {sz : Nat} (hm : w.ownsMap Tryd.prog 9 raw b n' D) (hr : w.ownsRow base e sz u n xs) : some b ≠ u.ownBlock := by
  intro e1
  rcases hr.2 with ⟨rfl, _⟩ | ⟨g, cap, cur, rfl, _, hh, _⟩
  · cases e1
  · simp only [Value.ownBlock, Option.some.injEq] at e1
    subst e1
    obtain ⟨es, clock, hb, _⟩ := hm
    rw [hh] at hb
    cases hb
theorem OwnIn.without {key : Bs} : ∀ {us : List (Bs × Value)} {es : List Ent}, OwnIn w base us es → OwnIn w base (withoutE us key) (withoutE es key)
  | [], [], _ => trivial
  | p :: us, q :: es, h => by
    have h1 := h.1.1
    have ih := OwnIn.without (key := key) h.2
    simp only [withoutE, List.filter_cons, h1] at ih ⊢
    split
    · exact ⟨h.1, ih⟩
    · exact ih
  | [], _ :: _, h => h.elim
  | _ :: _, [], h => h.elim

theorem tight {n : Nat} (h : w.ownsMap Tryd.prog 9 raw b n (rawD l)) : w.ownsMap Tryd.prog 9 raw b l.length (rawD l) := by
  obtain ⟨es, clock, hb, F, hs, hD⟩ := h
  refine ⟨es, clock, hb, F, ?_, hD⟩
  injection hD with hD
  have := congrArg List.length hD
  rw [length_sorted] at this
  simp at this
  omega

theorem Vals.srt (h : Vals w base b m) : Srt m := by
  obtain ⟨l, _, _, hs, ho, _⟩ := h
  exact ho.srt hs

theorem Vals.lt (h : Vals w base b m) : base ≤ b ∧ b < w.heap.size := by
  obtain ⟨l, hm, hb, _⟩ := h
  exact ⟨hb, hm.lt⟩

/-- the map stays what it is while nothing from base on is written but new blocks -/
theorem Vals.up (h : Vals w base b m) (hb : Below w.heap.size w w') : Vals w' base b m := by
  obtain ⟨l, hm, hbb, hs, ho, ha⟩ := h
  have hg : w.grownBy w' none := ⟨hb.os, hb.tape, hb.output, hb.size, fun i hi _ => hb.block i hi⟩
  exact ⟨l, hm.kept hg (by simp), hbb, hs, ho.kept hg (fun p _ => by cases p.2.ownBlock <;> simp), ha⟩

/-- .. or while another block than the map's and its rows' is written -/
theorem Vals.kept {row : Option Nat} (h : Vals w base b m) (hg : w.grownBy w' row) (hr : ∀ k, row = some k → ∃ cs e fr, w.heap[k]? = some (.cells cs e fr) ∧ e ≠ 9) : Vals w' base b m := by
  obtain ⟨l, hm, hbb, hs, ho, ha⟩ := h
  refine ⟨l, hm.kept hg ?_, hbb, hs, ho.kept hg ?_, ha⟩
  · intro e
    obtain ⟨cs, t, fr, h1, _⟩ := hr b e.symm
    obtain ⟨es, clock, hb, _⟩ := hm
    rw [h1] at hb
    cases hb
  · intro p hp
    cases hv : p.2.ownBlock with
    | none => exact .inl rfl
    | some g =>
      refine .inr fun e => ?_
      obtain ⟨cs, t, fr, h1, h2⟩ := hr g e.symm
      obtain ⟨vs, _, hrow⟩ := ho.mem hp
      rcases hrow.2 with ⟨hn, _⟩ | ⟨g', cap, cur, hv', _, hh, _⟩
      · rw [hn] at hv; cases hv
      · rw [hv'] at hv
        simp only [Value.ownBlock, Option.some.injEq] at hv
        subst hv
        rw [h1] at hh
        injection hh with hh
        injection hh with _ ht
        exact h2 ht
end
end Go.Proofs.YtjgjiaflccdflaaDoor
