/-
  Plain laws of the pairs of an encoded text: a deleted key, a value added, keys with a beginning, pairs added once more, also in the contrary order. Conditions: each at its law. No program in sight.
-/
import Derived.Test.YtjgjiaflccdflaaDoorPlainC
namespace Go.Proofs.YtjgjiaflccdflaaDoor

theorem runE_snoc (l : List Ent) (ss : List Stp) (s : Stp) : runE l (ss ++ [s]) = oneE (runE l ss) s := by
  unfold runE
  rw [playE_append]
  rfl

theorem pairs_cons_eq (q : Ent) (m : List Ent) : pairsE (q :: m) = q.2.map (fun v => (q.1, v)) ++ pairsE m := rfl

/-- a deleted key -/
theorem pairs_without (m : List Ent) (k : Bs) : pairsE (withoutE m k) = (pairsE m).filter fun p => !(p.1 == k) := by
  induction m with
  | nil => rfl
  | cons e r ih =>
    rw [pairs_cons_eq, List.filter_append, ← ih]
    unfold withoutE
    rw [List.filter_cons]
    by_cases h : (e.1 == k) = true
    · rw [if_neg (by simp [h])]
      have : List.filter (fun p : Bs × Bs => !(p.1 == k)) (e.2.map fun v => (e.1, v)) = [] := by
        rw [List.filter_eq_nil_iff]
        intro p hp
        obtain ⟨v, _, rfl⟩ := List.mem_map.1 hp
        simp [h]
      rw [this]
      rfl
    · rw [if_pos (by simp [h]), pairs_cons_eq]
      have : List.filter (fun p : Bs × Bs => !(p.1 == k)) (e.2.map fun v => (e.1, v)) = (e.2.map fun v => (e.1, v)) := by
        rw [List.filter_eq_self]
        intro p hp
        obtain ⟨v, _, rfl⟩ := List.mem_map.1 hp
        simp [h]
      rw [this]

theorem pairs_del (l : List Ent) (ss : List Stp) (k v : Bs) : pairsE (runE l (ss ++ [⟨3, k, v⟩])) = (pairsE (runE l ss)).filter fun p => !(p.1 == k) := by
  rw [runE_snoc, ← pairs_without]
  rfl

theorem filter_at {α : Type} (f : α → Bool) : ∀ {l : List α} {i : Nat} {p : α}, l[i]? = some p → f p = true → (l.filter f)[((l.take i).filter f).length]? = some p
  | [], i, p, h, _ => by simp at h
  | x :: r, 0, p, h, hf => by
    simp at h; subst h
    simp [hf]
  | x :: r, i + 1, p, h, hf => by
    have ih := filter_at f (l := r) (i := i) (p := p) (by simpa using h) hf
    rw [List.take_succ_cons, List.filter_cons, List.filter_cons]
    split
    · simpa using ih
    · exact ih

theorem filter_step {α : Type} (f : α → Bool) {l : List α} {i : Nat} {p : α} (h : l[i]? = some p) : ((l.take (i + 1)).filter f).length = ((l.take i).filter f).length + if f p then 1 else 0 := by
  obtain ⟨hi, e⟩ := List.getElem?_eq_some_iff.1 h
  rw [List.take_succ_eq_append_getElem hi, e, List.filter_append]
  by_cases hf : f p = true <;> simp [hf]

/-- how many pairs stand ahead of one with the key -/
def atE (ps : List (Bs × Bs)) (k : Bs) : Nat := (ps.takeWhile fun p => !decide (k < p.1)).length

theorem map_keys {e : Ent} {p : Bs × Bs} (h : p ∈ e.2.map fun v => (e.1, v)) : p.1 = e.1 := by
  obtain ⟨v, _, rfl⟩ := List.mem_map.1 h
  rfl

theorem pairs_keys {r : List Ent} {P : Bs → Prop} (h : ∀ q ∈ r, P q.1) : ∀ p ∈ pairsE r, P p.1 := by
  intro p hp
  obtain ⟨q, hq, e, _⟩ := pairs_mem hp
  rw [e]
  exact h q hq

theorem at_append {a b : List (Bs × Bs)} {k : Bs} (h : ∀ p ∈ a, ¬ k < p.1) : atE (a ++ b) k = a.length + atE b k := by
  unfold atE
  rw [List.takeWhile_append_of_pos (by intro p hp; simpa using h p hp), List.length_append]

theorem at_zero {b : List (Bs × Bs)} {k : Bs} (h : ∀ p ∈ b, k < p.1) : atE b k = 0 := by
  unfold atE
  cases b with
  | nil => rfl
  | cons p r =>
    rw [List.takeWhile_cons_of_neg (by simpa using h p (by simp))]
    rfl

theorem take_at (a b : List (Bs × Bs)) (n : Nat) (x : Bs × Bs) : (a ++ b).take (a.length + n) ++ x :: (a ++ b).drop (a.length + n) = a ++ (b.take n ++ x :: b.drop n) := by
  rw [List.take_length_add_append, List.drop_length_add_append]
  simp

/-- a value added -/
theorem pairs_add {m : List Ent} (hm : Srt m) (k v : Bs) : pairsE (withE m k ((ofE m k).getD [] ++ [v])) = (pairsE m).take (atE (pairsE m) k) ++ (k, v) :: (pairsE m).drop (atE (pairsE m) k) := by
  induction m with
  | nil => rfl
  | cons e r ih =>
    have hr : Srt r := (List.pairwise_cons.1 hm).2
    have her : ∀ q ∈ r, e.1 < q.1 := (List.pairwise_cons.1 hm).1
    unfold withE ofE
    by_cases h1 : e.1 < k
    · rw [if_pos h1, if_pos h1, pairs_cons_eq, pairs_cons_eq, at_append (fun p hp => by rw [map_keys hp]; exact bs_asymm h1), take_at, ← ih hr]
    · rw [if_neg h1, if_neg h1]
      by_cases h2 : e.1 = k
      · subst h2
        rw [if_pos rfl, if_pos rfl, pairs_cons_eq, pairs_cons_eq, at_append (fun p hp => by rw [map_keys hp]; exact bs_irrefl _), take_at, at_zero (pairs_keys her)]
        simp
      · rw [if_neg h2, if_neg h2]
        have hk : k < e.1 := bs_total h1 h2
        rw [pairs_cons_eq, at_zero (pairs_keys (P := fun x => k < x) (fun q hq => by
          rcases List.mem_cons.1 hq with rfl | hq
          · exact hk
          · exact bs_trans hk (her q hq)))]
        rfl

theorem pairs_grow (l : List Ent) (ss : List Stp) (k v : Bs) : pairsE (runE l (ss ++ [⟨1, k, v⟩])) = (pairsE (runE l ss)).take (atE (pairsE (runE l ss)) k) ++ (k, v) :: (pairsE (runE l ss)).drop (atE (pairsE (runE l ss)) k) := by
  rw [runE_snoc, ← pairs_add (runE_srt l ss)]
  rfl

theorem at_le (ps : List (Bs × Bs)) (k : Bs) : atE ps k ≤ ps.length := (List.takeWhile_sublist _).length_le

theorem at_step : ∀ {ps : List (Bs × Bs)} {k : Bs} {i : Nat} {p : Bs × Bs}, ps[i]? = some p → i ≤ atE ps k → if k < p.1 then atE ps k = i else i + 1 ≤ atE ps k
  | [], _, i, p, h, _ => by simp at h
  | x :: r, k, 0, p, h, _ => by
    simp at h; subst h
    unfold atE
    rw [List.takeWhile_cons]
    by_cases hx : k < x.1 <;> simp [hx]
  | x :: r, k, i + 1, p, h, hi => by
    have h' : r[i]? = some p := by simpa using h
    unfold atE at hi ⊢
    rw [List.takeWhile_cons] at hi ⊢
    by_cases hx : k < x.1
    · simp [hx] at hi
    · have e : (!decide (k < x.1)) = true := by simp [hx]
      rw [if_pos e] at hi ⊢
      have ih := at_step (ps := r) (k := k) (i := i) (p := p) h' (by unfold atE; simpa using hi)
      unfold atE at ih
      rw [List.length_cons]
      split
      · rename_i hk; rw [if_pos hk] at ih; omega
      · rename_i hk; rw [if_neg hk] at ih; omega

/-- keys with a beginning -/
def namedE (b : Bs) (m : List Ent) : List Ent := m.map fun e => (b ++ e.1, e.2)

theorem begin_lt (b : Bs) {x y : Bs} (h : x < y) : b ++ x < b ++ y := by
  induction b with
  | nil => exact h
  | cons c b ih => exact List.cons_lt_cons_iff.2 (.inr ⟨rfl, ih⟩)

theorem named_srt (b : Bs) {m : List Ent} (h : Srt m) : Srt (namedE b m) := by
  unfold Srt namedE
  rw [List.pairwise_map]
  exact h.imp fun hpq => begin_lt b hpq

theorem pairs_named (b : Bs) (m : List Ent) : pairsE (namedE b m) = (pairsE m).map fun p => (b ++ p.1, p.2) := by
  induction m with
  | nil => rfl
  | cons e r ih =>
    show pairsE ((b ++ e.1, e.2) :: namedE b r) = _
    rw [pairs_cons_eq, pairs_cons_eq, List.map_append, ih, List.map_map]
    rfl

theorem named_run (b : Bs) (l : List Ent) (ss : List Stp) : runE (namedE b (runE l ss)) [] = namedE b (runE l ss) :=
  tidyE_of_srt (named_srt b (runE_srt l ss))

/-- pairs added once more -/
theorem adds_append (a b : List (Bs × Bs)) : addsE (a ++ b) = addsE a ++ addsE b := List.map_append

theorem ofE_end {acc : List Ent} {k : Bs} (vs : List Bs) (h : ∀ p ∈ acc, p.1 < k) : ofE (acc ++ [(k, vs)]) k = some vs := by
  induction acc with
  | nil => simp [ofE, bs_irrefl]
  | cons e r ih =>
    show ofE (e :: (r ++ [(k, vs)])) k = _
    unfold ofE
    rw [if_pos (h e (by simp))]
    exact ih fun p hp => h p (by simp [hp])

theorem withE_over {acc : List Ent} {k : Bs} (vs us : List Bs) (h : ∀ p ∈ acc, p.1 < k) : withE (acc ++ [(k, vs)]) k us = acc ++ [(k, us)] := by
  induction acc with
  | nil => simp [withE, bs_irrefl]
  | cons e r ih =>
    show withE (e :: (r ++ [(k, vs)])) k us = _
    unfold withE
    rw [if_pos (h e (by simp)), ih fun p hp => h p (by simp [hp])]
    rfl

theorem ofE_past {acc : List Ent} {k : Bs} (h : ∀ p ∈ acc, p.1 < k) : ofE acc k = none := by
  induction acc with
  | nil => rfl
  | cons e r ih =>
    unfold ofE
    rw [if_pos (h e (by simp))]
    exact ih fun p hp => h p (by simp [hp])

theorem play_same {acc : List Ent} {k : Bs} (h : ∀ p ∈ acc, p.1 < k) : ∀ (vs us : List Bs), playE (acc ++ [(k, us)]) (addsE (vs.map fun v => (k, v))) = acc ++ [(k, us ++ vs)]
  | [], us => by simp [addsE, playE]
  | v :: vs, us => by
    show playE (oneE (acc ++ [(k, us)]) ⟨1, k, v⟩) (addsE (vs.map fun v => (k, v))) = _
    have e : oneE (acc ++ [(k, us)]) ⟨1, k, v⟩ = acc ++ [(k, us ++ [v])] := by
      show withE (acc ++ [(k, us)]) k ((ofE (acc ++ [(k, us)]) k).getD [] ++ [v]) = _
      rw [ofE_end us h, withE_over us _ h]
      rfl
    rw [e, play_same h vs (us ++ [v])]
    simp

theorem play_new {acc : List Ent} {k : Bs} (h : ∀ p ∈ acc, p.1 < k) (v : Bs) (vs : List Bs) : playE acc (addsE ((v :: vs).map fun v => (k, v))) = acc ++ [(k, v :: vs)] := by
  show playE (oneE acc ⟨1, k, v⟩) (addsE (vs.map fun v => (k, v))) = _
  have e : oneE acc ⟨1, k, v⟩ = acc ++ [(k, [v])] := by
    show withE acc k ((ofE acc k).getD [] ++ [v]) = _
    rw [ofE_past h, withE_end _ h]
    rfl
  rw [e, play_same h vs [v]]
  rfl

theorem play_pairs (m : List Ent) : ∀ {acc : List Ent}, Srt (acc ++ m) → playE acc (addsE (pairsE m)) = acc ++ m.filter fun e => !e.2.isEmpty := by
  induction m with
  | nil => intro acc _; simp [addsE, pairsE, playE]
  | cons e r ih =>
    intro acc h
    have h1 : ∀ p ∈ acc, p.1 < e.1 := fun p hp => (List.pairwise_append.1 h).2.2 p hp e (by simp)
    rw [pairs_cons_eq, adds_append, playE_append]
    obtain ⟨k, vs⟩ := e
    cases vs with
    | nil =>
      have h2 : Srt (acc ++ r) := h.sublist (List.Sublist.append_left (List.sublist_cons_self _ _) _)
      rw [List.filter_cons]
      exact ih h2
    | cons v vs =>
      have h2 : acc ++ [(k, v :: vs)] ++ r = acc ++ (k, v :: vs) :: r := by simp
      rw [play_new h1 v vs, ih (by rw [h2]; exact h), List.filter_cons]
      simp

theorem pairs_filled (m : List Ent) : pairsE (m.filter fun e => !e.2.isEmpty) = pairsE m := by
  induction m with
  | nil => rfl
  | cons e r ih =>
    rw [List.filter_cons, pairs_cons_eq, ← ih]
    obtain ⟨k, vs⟩ := e
    cases vs with
    | nil => rfl
    | cons v vs => rfl

theorem pairs_made {m : List Ent} (h : Srt m) : pairsE (runE [] (addsE (pairsE m))) = pairsE m := by
  show pairsE (playE [] (addsE (pairsE m))) = _
  rw [play_pairs m (acc := []) h, List.nil_append, pairs_filled]

theorem enc_made (l : List Ent) (ss : List Stp) : encE (runE [] (addsE (pairsE (runE l ss)))) = encE (runE l ss) := by
  unfold encE
  rw [pairs_made (runE_srt l ss)]

theorem about_short {ps : List (Bs × Bs)} (h : Srt ps) (j : Bs) : (aboutE (addsE ps) j).length ≤ 1 := by
  induction ps with
  | nil => exact Nat.zero_le _
  | cons p r ih =>
    have hr : Srt r := (List.pairwise_cons.1 h).2
    have hp : ∀ q ∈ r, p.1 < q.1 := (List.pairwise_cons.1 h).1
    show (aboutE ((⟨1, p.1, p.2⟩ : Stp) :: addsE r) j).length ≤ 1
    rw [about_cons]
    split
    · rename_i e
      have : aboutE (addsE r) j = [] := by
        unfold aboutE
        rw [List.filter_eq_nil_iff]
        intro s hs
        unfold addsE at hs
        obtain ⟨q, hq, rfl⟩ := List.mem_map.1 hs
        have := bs_ne (hp q hq)
        simp at e ⊢
        intro e2
        exact this (e.trans e2.symm)
      rw [this]
      simp
    · exact ih hr

theorem rev_short {α : Type} : ∀ {l : List α}, l.length ≤ 1 → l.reverse = l
  | [], _ => rfl
  | [_], _ => rfl
  | _ :: _ :: _, h => by simp at h

theorem made_turned {ps : List (Bs × Bs)} (h : Srt ps) : runE [] (addsE ps.reverse) = runE [] (addsE ps) := by
  refine runE_eq fun j => ?_
  unfold ownV
  have : aboutE (addsE ps.reverse) j = aboutE (addsE ps) j := by
    have e : aboutE (addsE ps.reverse) j = (aboutE (addsE ps) j).reverse := by
      unfold aboutE addsE
      rw [List.map_reverse, List.filter_reverse]
    rw [e, rev_short (about_short h j)]
  rw [this]

theorem pairs_weak {m : List Ent} (h : Srt m) : (pairsE m).Pairwise fun p q => ¬ q.1 < p.1 := by
  induction m with
  | nil => exact List.Pairwise.nil
  | cons e r ih =>
    have hr : Srt r := (List.pairwise_cons.1 h).2
    have her : ∀ q ∈ r, e.1 < q.1 := (List.pairwise_cons.1 h).1
    rw [pairs_cons_eq, List.pairwise_append]
    refine ⟨?_, ih hr, fun p hp q hq => ?_⟩
    · rw [List.pairwise_map]
      exact List.pairwise_of_forall (fun _ _ => bs_irrefl _)
    · rw [map_keys hp]
      exact bs_asymm (pairs_keys her q hq)

theorem srt_more {ps : List (Bs × Bs)} (hw : ps.Pairwise fun p q => ¬ q.1 < p.1) {k : Nat} {p : Bs × Bs} (hs : Srt (ps.take k)) (hp : ps[k]? = some p) (hn : ∀ q, k ≠ 0 → ps[k - 1]? = some q → q.1 ≠ p.1) : Srt (ps.take (k + 1)) := by
  obtain ⟨hk, e⟩ := List.getElem?_eq_some_iff.1 hp
  rw [List.take_succ_eq_append_getElem hk, e]
  unfold Srt
  rw [List.pairwise_append]
  refine ⟨hs, by simp, fun q hq x hx => ?_⟩
  rw [List.mem_singleton] at hx
  subst hx
  obtain ⟨i, hi, rfl⟩ := List.getElem_of_mem hq
  have hi' : i < k := by simp at hi; omega
  rw [List.getElem_take]
  have hk0 : k ≠ 0 := by omega
  have hlast : ps[k - 1]? = some (ps[k - 1]'(by omega)) := List.getElem?_eq_getElem _
  have h1 := hn _ hk0 hlast
  have h2 : ¬ x.1 < (ps[k - 1]'(by omega)).1 := by
    have := List.pairwise_iff_getElem.1 hw (k - 1) k (by omega) hk (by omega)
    rw [e] at this
    exact this
  have h3 : (ps[k - 1]'(by omega)).1 < x.1 := bs_total h2 (fun e => h1 e.symm)
  by_cases hik : i = k - 1
  · subst hik; exact h3
  · have := List.pairwise_iff_getElem.1 hs i (k - 1) (by simp; omega) (by simp; omega) (by omega)
    rw [List.getElem_take, List.getElem_take] at this
    exact bs_trans this h3

end Go.Proofs.YtjgjiaflccdflaaDoor
