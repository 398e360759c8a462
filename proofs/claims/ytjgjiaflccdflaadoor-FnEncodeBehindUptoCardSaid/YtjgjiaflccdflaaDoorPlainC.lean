/-
  Plain laws of encoded texts: parts behind one another; entries below and not below a key. Conditions: none. No program in sight.
-/
import Derived.Test.YtjgjiaflccdflaaDoorSizes
import Derived.Test.YtjgjiaflccdflaaDoorPlainA
namespace Go.Proofs.YtjgjiaflccdflaaDoor

theorem joinE_append : ∀ (l r : List Bs), l ≠ [] → r ≠ [] → joinE (l ++ r) = joinE l ++ 38 :: joinE r
  | [], _, h, _ => absurd rfl h
  | [x], r, _, hr => by
    cases r with
    | nil => exact absurd rfl hr
    | cons y r => rfl
  | x :: y :: l, r, _, hr => by
    show x ++ 38 :: joinE (y :: l ++ r) = (x ++ 38 :: joinE (y :: l)) ++ 38 :: joinE r
    rw [joinE_append (y :: l) r (by simp) hr]
    simp

theorem encP_append (x y : List (Bs × Bs)) : encP (x ++ y) = encP x ++ (if encP x ≠ [] ∧ encP y ≠ [] then [38] else []) ++ encP y := by
  by_cases hx : x = []
  · subst hx
    rw [encP_nil]; simp
  · by_cases hy : y = []
    · subst hy
      rw [encP_nil]; simp
    · rw [if_pos ⟨encP_ne hx, encP_ne hy⟩]
      unfold encP
      rw [List.map_append, joinE_append _ _ (by simpa using hx) (by simpa using hy)]
      simp

section
variable {α : Type}
theorem ofE_filter {m : List (Bs × α)} (h : Srt m) (p : Bs → Bool) (j : Bs) : ofE (m.filter fun e => p e.1) j = if p j then ofE m j else none := by
  have hf : Srt (m.filter fun e => p e.1) := h.filter _
  cases ho : ofE m j with
  | some v =>
    have hm := ofE_mem ho
    by_cases hp : p j = true
    · rw [if_pos hp]
      exact ofE_of_mem hf (q := (j, v)) (List.mem_filter.2 ⟨hm, hp⟩)
    · rw [if_neg hp]
      cases hq : ofE (m.filter fun e => p e.1) j with
      | none => rfl
      | some u =>
        have := (List.mem_filter.1 (ofE_mem hq)).2
        exact absurd this hp
  | none =>
    have : ofE (m.filter fun e => p e.1) j = none := by
      cases hq : ofE (m.filter fun e => p e.1) j with
      | none => rfl
      | some u =>
        have h1 := ofE_of_mem h (q := (j, u)) (List.mem_filter.1 (ofE_mem hq)).1
        rw [ho] at h1
        cases h1
    rw [this]
    split <;> rfl

theorem fold_filter (p : Bs → Bool) (l : List (Bs × α)) : ∀ {acc acc' : List (Bs × α)}, Srt acc → Srt acc' → (∀ j, ofE acc' j = if p j then ofE acc j else none) →
    ∀ j, ofE ((l.filter fun e => p e.1).foldl (fun m e => withE m e.1 e.2) acc') j = if p j then ofE (l.foldl (fun m e => withE m e.1 e.2) acc) j else none := by
  induction l with
  | nil => intro acc acc' _ _ h j; exact h j
  | cons e r ih =>
    intro acc acc' ha ha' h j
    rw [List.filter_cons]
    by_cases hp : p e.1 = true
    · rw [if_pos hp]
      refine ih (withE_srt ha e.1 e.2) (withE_srt ha' e.1 e.2) (fun j => ?_) j
      rw [ofE_withE _ _ _ ha', ofE_withE _ _ _ ha]
      by_cases hj : j = e.1
      · rw [if_pos hj, if_pos hj, hj, if_pos hp]
      · rw [if_neg hj, if_neg hj]; exact h j
    · rw [if_neg hp]
      refine ih (withE_srt ha e.1 e.2) ha' (fun j => ?_) j
      rw [h j, ofE_withE _ _ _ ha]
      by_cases hj : j = e.1
      · rw [hj, if_neg hp, if_neg hp]
      · rw [if_neg hj]

theorem tidy_filter (p : Bs → Bool) (l : List (Bs × α)) : tidyE (l.filter fun e => p e.1) = (tidyE l).filter fun e => p e.1 :=
  srt_ext (tidyE_srt _) ((tidyE_srt l).filter _) fun j => by
    rw [ofE_filter (tidyE_srt l)]
    exact fold_filter p l Srt.nil Srt.nil (fun j => by split <;> rfl) j

theorem srt_parted {m : List (Bs × α)} (h : Srt m) (key : Bs) : m = (m.filter fun e => decide (e.1 < key)) ++ m.filter fun e => !decide (e.1 < key) := by
  induction m with
  | nil => rfl
  | cons e r ih =>
    obtain ⟨h1, h2⟩ := List.pairwise_cons.1 h
    by_cases hk : e.1 < key
    · rw [List.filter_cons_of_pos (by simpa using hk), List.filter_cons_of_neg (by simp [hk])]
      rw [List.cons_append, ← ih h2]
    · have h3 : ∀ q ∈ r, ¬ q.1 < key := fun q hq hlt => hk (bs_trans (h1 q hq) hlt)
      rw [List.filter_cons_of_neg (by simpa using hk), List.filter_cons_of_pos (by simp [hk])]
      have e1 : r.filter (fun e => decide (e.1 < key)) = [] := List.filter_eq_nil_iff.2 fun q hq => by simpa using h3 q hq
      have e2 : r.filter (fun e => !decide (e.1 < key)) = r := List.filter_eq_self.2 fun q hq => by simpa using h3 q hq
      rw [e1, e2]; rfl
end

def lowE {α : Type} (l : List (Bs × α)) (key : Bs) : List (Bs × α) := l.filter fun e => decide (e.1 < key)
def highE {α : Type} (l : List (Bs × α)) (key : Bs) : List (Bs × α) := l.filter fun e => !decide (e.1 < key)

theorem encE_merged (l : List Ent) (key : Bs) : encE (runE l []) = encE (runE (lowE l key) []) ++ (if encE (runE (lowE l key) []) ≠ [] ∧ encE (runE (highE l key) []) ≠ [] then [38] else []) ++ encE (runE (highE l key) []) := by
  show encE (tidyE l) = encE (tidyE (lowE l key)) ++ (if encE (tidyE (lowE l key)) ≠ [] ∧ encE (tidyE (highE l key)) ≠ [] then [38] else []) ++ encE (tidyE (highE l key))
  have e1 : tidyE (lowE l key) = lowE (tidyE l) key := tidy_filter (fun k => decide (k < key)) l
  have e2 : tidyE (highE l key) = highE (tidyE l) key := tidy_filter (fun k => !decide (k < key)) l
  rw [e1, e2]
  have h := encP_append (pairsE (lowE (tidyE l) key)) (pairsE (highE (tidyE l) key))
  rw [← pairs_append] at h
  have h2 : lowE (tidyE l) key ++ highE (tidyE l) key = tidyE l := (srt_parted (tidyE_srt l) key).symm
  rw [h2] at h
  exact h

theorem Ok.sub {A B : Nat} {l m : List Ent} (h : Ok A B m) (hs : l.Sublist m) : Ok A B l := by
  refine ⟨Nat.le_trans hs.length_le h.len, Nat.le_trans ?_ h.pairs, fun q hq => h.key q (hs.subset hq), fun q hq => h.val q (hs.subset hq)⟩
  clear h
  induction hs with
  | slnil => exact Nat.le_refl _
  | cons a _ ih => rw [pairs_cons]; omega
  | cons_cons a _ ih => rw [pairs_cons, pairs_cons]; omega

end Go.Proofs.YtjgjiaflccdflaaDoor
