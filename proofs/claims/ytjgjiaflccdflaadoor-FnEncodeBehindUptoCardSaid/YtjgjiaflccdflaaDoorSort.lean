/-
  Plain facts on lists of entries with rising keys: what a place, a store, a deletion and a look-up make of them. Conditions: none. No program in sight.
-/
import Derived.Test.YtjgjiaflccdflaaDoorDefs
namespace Go.Proofs.YtjgjiaflccdflaaDoor

section
variable {α : Type}

/-- rising keys, each key once -/
def Srt (l : List (Bs × α)) : Prop := l.Pairwise fun p q => p.1 < q.1

theorem Srt.nil : Srt ([] : List (Bs × α)) := List.Pairwise.nil

theorem bs_irrefl (a : Bs) : ¬ a < a := List.lt_irrefl a
theorem bs_trans {a b c : Bs} (h : a < b) (k : b < c) : a < c := List.lt_trans h k
theorem bs_total {a b : Bs} (h : ¬ a < b) (hne : a ≠ b) : b < a := by
  by_cases hb : b < a
  · exact hb
  · exact absurd (List.le_antisymm (List.not_lt.1 hb) (List.not_lt.1 h)) hne
theorem bs_asymm {a b : Bs} (h : a < b) : ¬ b < a := fun k => bs_irrefl a (bs_trans h k)
theorem bs_ne {a b : Bs} (h : a < b) : a ≠ b := fun e => bs_irrefl a (by rw [← e] at h; exact h)

theorem withE_keys (l : List (Bs × α)) (k : Bs) (v : α) : ∀ p ∈ withE l k v, p.1 = k ∨ p ∈ l := by
  induction l with
  | nil => intro p hp; simp [withE] at hp; subst hp; exact .inl rfl
  | cons e r ih =>
    intro p hp
    unfold withE at hp
    split at hp
    · rcases List.mem_cons.1 hp with rfl | hp
      · exact .inr (by simp)
      · rcases ih p hp with h | h
        · exact .inl h
        · exact .inr (by simp [h])
    · split at hp
      · rcases List.mem_cons.1 hp with rfl | hp
        · exact .inl rfl
        · exact .inr (by simp [hp])
      · rcases List.mem_cons.1 hp with rfl | hp
        · exact .inl rfl
        · exact .inr hp

theorem withE_srt {l : List (Bs × α)} (h : Srt l) (k : Bs) (v : α) : Srt (withE l k v) := by
  induction l with
  | nil => simp [withE, Srt]
  | cons e r ih =>
    obtain ⟨h1, h2⟩ := List.pairwise_cons.1 h
    unfold withE
    split
    · rename_i hlt
      refine List.pairwise_cons.2 ⟨fun q hq => ?_, ih h2⟩
      rcases withE_keys r k v q hq with hk | hk
      · rw [hk]; exact hlt
      · exact h1 q hk
    · rename_i hlt
      split
      · rename_i he
        exact List.pairwise_cons.2 ⟨fun q hq => by rw [← he]; exact h1 q hq, h2⟩
      · rename_i he
        have hke := bs_total hlt he
        refine List.pairwise_cons.2 ⟨fun q hq => ?_, h⟩
        rcases List.mem_cons.1 hq with rfl | hq
        · exact hke
        · exact bs_trans hke (h1 q hq)

theorem withoutE_srt {l : List (Bs × α)} (h : Srt l) (k : Bs) : Srt (withoutE l k) := h.filter _

theorem foldl_srt (r : List (Bs × α)) : ∀ {m : List (Bs × α)}, Srt m → Srt (r.foldl (fun m e => withE m e.1 e.2) m) := by
  induction r with
  | nil => intro m h; exact h
  | cons e r ih => intro m h; exact ih (withE_srt h _ _)

theorem tidyE_srt (l : List (Bs × α)) : Srt (tidyE l) := foldl_srt l Srt.nil

theorem withE_length (l : List (Bs × α)) (k : Bs) (v : α) : (withE l k v).length ≤ l.length + 1 := by
  induction l with
  | nil => simp [withE]
  | cons e r ih =>
    unfold withE
    split
    · simp only [List.length_cons]; omega
    · split
      · simp only [List.length_cons]; omega
      · simp only [List.length_cons]; omega

theorem tidyE_length (l : List (Bs × α)) : (tidyE l).length ≤ l.length := by
  have h : ∀ (r m : List (Bs × α)), (r.foldl (fun m e => withE m e.1 e.2) m).length ≤ m.length + r.length := by
    intro r
    induction r with
    | nil => intro m; simp
    | cons e r ih =>
      intro m
      have h1 := ih (withE m e.1 e.2)
      have h2 := withE_length m e.1 e.2
      simp only [List.foldl_cons, List.length_cons]
      omega
  simpa [tidyE] using h l []

theorem ofE_mem {l : List (Bs × α)} {k : Bs} {v : α} (h : ofE l k = some v) : (k, v) ∈ l := by
  induction l with
  | nil => cases h
  | cons e r ih =>
    unfold ofE at h
    split at h
    · simp [ih h]
    · split at h
      · rename_i he
        cases h
        rw [← he]
        simp
      · cases h

/-- a store is: the others, and the new one in its place -/
def insE (x : Bs × α) : List (Bs × α) → List (Bs × α)
  | [] => [x]
  | y :: r => if x.1 < y.1 then x :: y :: r else y :: insE x r

theorem withoutE_of_lt {k : Bs} {r : List (Bs × α)} (h : ∀ q ∈ r, k < q.1) : withoutE r k = r := by
  unfold withoutE
  rw [List.filter_eq_self]
  intro q hq
  have := bs_ne (h q hq)
  simp [Ne.symm this]

theorem insE_of_lt {x : Bs × α} {r : List (Bs × α)} (h : ∀ q ∈ r, x.1 < q.1) : insE x r = x :: r := by
  cases r with
  | nil => rfl
  | cons y r => unfold insE; rw [if_pos (h y (by simp))]

theorem withE_ins {l : List (Bs × α)} (h : Srt l) (k : Bs) (v : α) : withE l k v = insE (k, v) (withoutE l k) := by
  induction l with
  | nil => rfl
  | cons e r ih =>
    obtain ⟨h1, h2⟩ := List.pairwise_cons.1 h
    unfold withE
    by_cases hlt : e.1 < k
    · rw [if_pos hlt, ih h2]
      have hne := bs_ne hlt
      have e1 : withoutE (e :: r) k = e :: withoutE r k := by simp [withoutE, hne]
      rw [e1]
      show _ = if k < e.1 then _ else _
      rw [if_neg (bs_asymm hlt)]
    · rw [if_neg hlt]
      by_cases he : e.1 = k
      · rw [if_pos he]
        have hr : ∀ q ∈ r, k < q.1 := fun q hq => he ▸ h1 q hq
        have e1 : withoutE (e :: r) k = r := by
          have : withoutE (e :: r) k = withoutE r k := by simp [withoutE, he]
          rw [this, withoutE_of_lt hr]
        rw [e1, insE_of_lt hr]
      · rw [if_neg he]
        have hke := bs_total hlt he
        have hr : ∀ q ∈ e :: r, k < q.1 := by
          intro q hq
          rcases List.mem_cons.1 hq with rfl | hq
          · exact hke
          · exact bs_trans hke (h1 q hq)
        rw [withoutE_of_lt hr, insE_of_lt hr]

theorem ofE_none_of_lt {k : Bs} {r : List (Bs × α)} (h : ∀ q ∈ r, k < q.1) : ofE r k = none := by
  cases r with
  | nil => rfl
  | cons y r =>
    have := h y (by simp)
    unfold ofE
    rw [if_neg (bs_asymm this), if_neg (Ne.symm (bs_ne this))]

theorem ofE_find {l : List (Bs × α)} (h : Srt l) (k : Bs) : ofE l k = (l.find? fun p => p.1 == k).map (·.2) := by
  induction l with
  | nil => rfl
  | cons e r ih =>
    obtain ⟨h1, h2⟩ := List.pairwise_cons.1 h
    unfold ofE
    by_cases hlt : e.1 < k
    · rw [if_pos hlt, ih h2, List.find?_cons_of_neg (by simp [bs_ne hlt])]
    · rw [if_neg hlt]
      by_cases he : e.1 = k
      · rw [if_pos he, List.find?_cons_of_pos (by simp [he])]
        rfl
      · rw [if_neg he]
        have hke := bs_total hlt he
        rw [List.find?_cons_of_neg (by simp [he]), ← ih h2, ofE_none_of_lt fun q hq => bs_trans hke (h1 q hq)]

theorem ofE_any {l : List (Bs × α)} (h : Srt l) (k : Bs) : (ofE l k).isSome = l.any fun p => p.1 == k := by
  rw [ofE_find h, Option.isSome_map, List.isSome_find?]

theorem ofE_withE {l : List (Bs × α)} (k j : Bs) (v : α) (h : Srt l) : ofE (withE l k v) j = if j = k then some v else ofE l j := by
  induction l with
  | nil =>
    simp only [withE, ofE]
    by_cases hj : j = k
    · subst hj; simp only [bs_irrefl, if_false, if_true]
    · rw [if_neg hj]
      split
      · rfl
      · rw [if_neg (Ne.symm hj)]
  | cons e r ih =>
    obtain ⟨h1, h2⟩ := List.pairwise_cons.1 h
    unfold withE
    by_cases hlt : e.1 < k
    · rw [if_pos hlt]
      simp only [ofE]
      rw [ih h2]
      by_cases hj : j = k
      · subst hj; simp only [hlt, if_true]
      · simp only [if_neg hj]
    · rw [if_neg hlt]
      by_cases he : e.1 = k
      · rw [if_pos he]
        simp only [ofE, he]
        by_cases hj : j = k
        · subst hj; simp only [bs_irrefl, if_false, if_true]
        · rw [if_neg (Ne.symm hj), if_neg hj, if_neg (Ne.symm hj)]
      · rw [if_neg he]
        have hke := bs_total hlt he
        by_cases hj : j = k
        · subst hj
          simp only [ofE, bs_irrefl, if_false, if_true]
        · rw [if_neg hj]
          show (if k < j then ofE (e :: r) j else if k = j then some v else none) = _
          by_cases hkj : k < j
          · rw [if_pos hkj]
          · rw [if_neg hkj, if_neg (Ne.symm hj)]
            have hjk := bs_total hkj (Ne.symm hj)
            rw [ofE_none_of_lt]
            intro q hq
            rcases List.mem_cons.1 hq with rfl | hq
            · exact bs_trans hjk hke
            · exact bs_trans hjk (bs_trans hke (h1 q hq))

theorem ofE_withoutE {l : List (Bs × α)} (k j : Bs) (h : Srt l) : ofE (withoutE l k) j = if j = k then none else ofE l j := by
  rw [ofE_find (withoutE_srt h k), ofE_find h]
  unfold withoutE
  rw [List.find?_filter]
  by_cases hj : j = k
  · subst hj
    rw [if_pos rfl, List.find?_eq_none.2]
    · rfl
    · intro p _; simp
  · rw [if_neg hj]
    congr 2
    funext p
    by_cases hp : p.1 = j
    · simp [hp, hj]
    · simp [hp]

/-- two lists with rising keys that have the same at each key are one -/
theorem srt_ext {l m : List (Bs × α)} (hl : Srt l) (hm : Srt m) (h : ∀ k, ofE l k = ofE m k) : l = m := by
  induction l generalizing m with
  | nil =>
    cases m with
    | nil => rfl
    | cons e r =>
      have := h e.1
      simp only [ofE, bs_irrefl, if_false, if_true] at this
      cases this
  | cons e r ih =>
    cases m with
    | nil =>
      have := h e.1
      simp only [ofE, bs_irrefl, if_false, if_true] at this
      cases this
    | cons f s =>
      obtain ⟨h1, h2⟩ := List.pairwise_cons.1 hl
      obtain ⟨g1, g2⟩ := List.pairwise_cons.1 hm
      have hk : e.1 = f.1 := by
        by_cases he : e.1 = f.1
        · exact he
        · exfalso
          rcases (show e.1 < f.1 ∨ f.1 < e.1 by
            by_cases hlt : e.1 < f.1
            · exact .inl hlt
            · exact .inr (bs_total hlt he)) with hlt | hlt
          · have := h e.1
            simp only [ofE, bs_irrefl, if_false, if_true, bs_asymm hlt, Ne.symm (bs_ne hlt)] at this
            cases this
          · have := h f.1
            simp only [ofE, bs_irrefl, if_false, if_true, bs_asymm hlt, Ne.symm (bs_ne hlt)] at this
            cases this
      have hv : e.2 = f.2 := by
        have := h e.1
        simpa only [ofE, bs_irrefl, if_false, if_true, ← hk, Option.some.injEq] using this
      have hrs : r = s := by
        refine ih h2 g2 fun k => ?_
        by_cases hlt : e.1 < k
        · have := h k
          simpa only [ofE, hlt, if_true, ← hk] using this
        · have a1 : ∀ q ∈ r, k < q.1 := fun q hq => by
            by_cases hek : e.1 = k
            · rw [← hek]; exact h1 q hq
            · exact bs_trans (bs_total hlt hek) (h1 q hq)
          have a2 : ∀ q ∈ s, k < q.1 := fun q hq => by
            by_cases hek : e.1 = k
            · rw [← hek, hk]; exact g1 q hq
            · exact bs_trans (bs_total hlt hek) (hk ▸ g1 q hq)
          rw [ofE_none_of_lt a1, ofE_none_of_lt a2]
      rw [hrs]
      congr 1
      exact Prod.ext hk hv

end

theorem oneE_srt {m : List Ent} (h : Srt m) (s : Stp) : Srt (oneE m s) := by
  unfold oneE
  split
  · exact withE_srt h _ _
  · split
    · exact withE_srt h _ _
    · split
      · exact withoutE_srt h _
      · exact h
theorem playE_srt (ss : List Stp) : ∀ {m : List Ent}, Srt m → Srt (playE m ss) := by
  induction ss with
  | nil => intro m h; exact h
  | cons s r ih => intro m h; exact ih (oneE_srt h s)
theorem runE_srt (l : List Ent) (ss : List Stp) : Srt (runE l ss) := playE_srt ss (tidyE_srt l)

theorem playE_append (m : List Ent) (a b : List Stp) : playE m (a ++ b) = playE (playE m a) b := List.foldl_append

theorem oneE_length (m : List Ent) (s : Stp) : (oneE m s).length ≤ m.length + 1 := by
  unfold oneE
  split
  · exact withE_length _ _ _
  · split
    · exact withE_length _ _ _
    · split
      · exact Nat.le_trans (List.length_filter_le _ m) (Nat.le_succ _)
      · omega
theorem playE_length (ss : List Stp) : ∀ (m : List Ent), (playE m ss).length ≤ m.length + ss.length := by
  induction ss with
  | nil => intro m; simp [playE]
  | cons s r ih =>
    intro m
    have h1 := ih (oneE m s)
    have h2 := oneE_length m s
    simp only [playE, List.foldl_cons, List.length_cons] at h1 ⊢
    omega
theorem oneE_vals {m : List Ent} {N : Nat} (h : ∀ q ∈ m, q.2.length ≤ N) (s : Stp) : ∀ q ∈ oneE m s, q.2.length ≤ N + 1 := by
  intro q hq
  have hw : ∀ (vs : List Bs), vs.length ≤ N + 1 → q ∈ withE m s.key vs → q.2.length ≤ N + 1 := by
    intro vs hvs
    have : ∀ (l : List Ent), (∀ p ∈ l, p.2.length ≤ N) → q ∈ withE l s.key vs → q.2.length ≤ N + 1 := by
      intro l
      induction l with
      | nil => intro _ h1; simp [withE] at h1; subst h1; exact hvs
      | cons e r ih =>
        intro hl h1
        unfold withE at h1
        split at h1
        · rcases List.mem_cons.1 h1 with rfl | h1
          · have := hl q (by simp); omega
          · exact ih (fun p hp => hl p (by simp [hp])) h1
        · split at h1
          · rcases List.mem_cons.1 h1 with rfl | h1
            · exact hvs
            · have := hl q (by simp [h1]); omega
          · rcases List.mem_cons.1 h1 with rfl | h1
            · exact hvs
            · have := hl q h1; omega
    exact this m h
  unfold oneE at hq
  split at hq
  · refine hw _ ?_ hq
    rw [List.length_append]
    cases ho : ofE m s.key with
    | none => simp
    | some vs => have := h _ (ofE_mem ho); simpa using this
  · split at hq
    · exact hw _ (by simp) hq
    · split at hq
      · have := h q (List.mem_filter.1 hq).1; omega
      · have := h q hq; omega
theorem playE_vals (ss : List Stp) : ∀ {m : List Ent} {N : Nat}, (∀ q ∈ m, q.2.length ≤ N) → ∀ q ∈ playE m ss, q.2.length ≤ N + ss.length := by
  induction ss with
  | nil => intro m N h q hq; exact h q hq
  | cons s r ih =>
    intro m N h q hq
    have := ih (oneE_vals h s) q hq
    simp only [List.length_cons]
    omega

end Go.Proofs.YtjgjiaflccdflaaDoor
