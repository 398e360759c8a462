/-
  Plain laws of scripts: what a script makes of a key hangs on the steps with this key alone; scripts cut, shortened, woven, played twice, undone. Conditions: each at its law. No program in sight.
-/
import Derived.Test.YtjgjiaflccdflaaDoorRun
namespace Go.Proofs.YtjgjiaflccdflaaDoor

section
variable {α : Type}
theorem withE_end {acc : List (Bs × α)} {k : Bs} (v : α) (h : ∀ p ∈ acc, p.1 < k) : withE acc k v = acc ++ [(k, v)] := by
  induction acc with
  | nil => rfl
  | cons e r ih =>
    unfold withE
    rw [if_pos (h e (by simp)), ih (fun p hp => h p (by simp [hp]))]
    rfl

theorem foldl_end (l : List (Bs × α)) : ∀ {acc : List (Bs × α)}, Srt (acc ++ l) → l.foldl (fun m e => withE m e.1 e.2) acc = acc ++ l := by
  induction l with
  | nil => intro acc _; simp
  | cons e r ih =>
    intro acc h
    have h1 : ∀ p ∈ acc, p.1 < e.1 := fun p hp => (List.pairwise_append.1 h).2.2 p hp e (by simp)
    show r.foldl _ (withE acc e.1 e.2) = _
    rw [withE_end e.2 h1]
    have h2 : acc ++ [(e.1, e.2)] ++ r = acc ++ e :: r := by simp
    rw [ih (by rw [h2]; exact h), h2]

theorem tidyE_of_srt {m : List (Bs × α)} (h : Srt m) : tidyE m = m := by
  have := foldl_end m (acc := []) (by simpa using h)
  simpa [tidyE] using this
end

/-- what a step makes of its key's values -/
def stepV (o : Option (List Bs)) (s : Stp) : Option (List Bs) :=
  if s.kind = 1 then some (o.getD [] ++ [s.val]) else if s.kind = 2 then some [s.val] else if s.kind = 3 then none else o

theorem ofE_oneE {m : List Ent} (h : Srt m) (s : Stp) (j : Bs) : ofE (oneE m s) j = if j = s.key then stepV (ofE m j) s else ofE m j := by
  unfold oneE stepV
  by_cases h1 : s.kind = 1
  · rw [if_pos h1, if_pos h1, ofE_withE _ _ _ h]
    by_cases e : j = s.key
    · subst e; rfl
    · rw [if_neg e, if_neg e]
  · rw [if_neg h1, if_neg h1]
    by_cases h2 : s.kind = 2
    · rw [if_pos h2, if_pos h2, ofE_withE _ _ _ h]
    · rw [if_neg h2, if_neg h2]
      by_cases h3 : s.kind = 3
      · rw [if_pos h3, if_pos h3, ofE_withoutE _ _ h]
      · rw [if_neg h3, if_neg h3]
        split <;> rfl

def ownV (j : Bs) (ss : List Stp) (o : Option (List Bs)) : Option (List Bs) := (aboutE ss j).foldl stepV o

theorem about_cons (s : Stp) (r : List Stp) (j : Bs) : aboutE (s :: r) j = if s.key = j then s :: aboutE r j else aboutE r j := by
  unfold aboutE
  rw [List.filter_cons]
  by_cases h : s.key = j <;> simp [h]

theorem about_append (a b : List Stp) (j : Bs) : aboutE (a ++ b) j = aboutE a j ++ aboutE b j := List.filter_append _ _

theorem ofE_playE (ss : List Stp) : ∀ {m : List Ent}, Srt m → ∀ j, ofE (playE m ss) j = ownV j ss (ofE m j) := by
  induction ss with
  | nil => intro m _ j; rfl
  | cons s r ih =>
    intro m h j
    show ofE (playE (oneE m s) r) j = _
    rw [ih (oneE_srt h s) j, ofE_oneE h]
    unfold ownV
    rw [about_cons]
    by_cases e : j = s.key
    · rw [if_pos e, if_pos e.symm]; rfl
    · rw [if_neg e, if_neg (fun h => e h.symm)]

theorem ofE_runE (l : List Ent) (ss : List Stp) (j : Bs) : ofE (runE l ss) j = ownV j ss (ofE (tidyE l) j) := ofE_playE ss (tidyE_srt l) j

theorem runE_eq {l l' : List Ent} {a b : List Stp} (h : ∀ j, ownV j a (ofE (tidyE l) j) = ownV j b (ofE (tidyE l') j)) : runE l a = runE l' b :=
  srt_ext (runE_srt _ _) (runE_srt _ _) fun j => by rw [ofE_runE, ofE_runE]; exact h j

theorem tidy_run (l : List Ent) (a : List Stp) : tidyE (runE l a) = runE l a := tidyE_of_srt (runE_srt l a)

/-- a script cut -/
theorem runE_append (l : List Ent) (a b : List Stp) : runE l (a ++ b) = runE (runE l a) b := by
  show playE _ (a ++ b) = playE (tidyE (runE l a)) b
  rw [tidy_run, playE_append]
  rfl

theorem ownV_append (j : Bs) (a b : List Stp) (o : Option (List Bs)) : ownV j (a ++ b) o = ownV j b (ownV j a o) := by
  unfold ownV; rw [about_append, List.foldl_append]

/-- a later Set or Del leaves nothing of what was -/
theorem later_free {j : Bs} : ∀ {r : List Stp}, laterE j r = true → ∀ o o', ownV j r o = ownV j r o' := by
  intro r
  induction r with
  | nil => intro h; cases h
  | cons s r ih =>
    intro h o o'
    by_cases hr : laterE j r = true
    · unfold ownV
      rw [about_cons]
      split
      · exact ih hr _ _
      · exact ih hr _ _
    · have hs : (s.key == j && (s.kind == 2 || s.kind == 3)) = true := by
        unfold laterE at h hr
        rw [List.any_cons] at h
        rw [Bool.not_eq_true] at hr
        rw [hr, Bool.or_false] at h
        exact h
      simp only [Bool.and_eq_true, Bool.or_eq_true, beq_iff_eq] at hs
      unfold ownV
      rw [about_cons, if_pos hs.1]
      show List.foldl stepV (stepV o s) _ = List.foldl stepV (stepV o' s) _
      congr 1
      unfold stepV
      rcases hs.2 with e | e <;> simp [e]

theorem short_own (ss : List Stp) : ∀ (j : Bs) (o : Option (List Bs)), ownV j (shortE ss) o = ownV j ss o := by
  induction ss with
  | nil => intro j o; rfl
  | cons s r ih =>
    intro j o
    unfold shortE
    split
    · rename_i h
      rw [ih]
      show _ = ownV j (s :: r) o
      unfold ownV
      rw [about_cons]
      split
      · rename_i e
        subst e
        exact later_free h _ _
      · rfl
    · have h1 := ih j
      unfold ownV at h1 ⊢
      rw [about_cons, about_cons]
      split
      · exact h1 _
      · exact h1 _

theorem runE_short (l : List Ent) (ss : List Stp) : runE l (shortE ss) = runE l ss := runE_eq fun j => short_own ss j _

theorem about_nil_own {j : Bs} {ss : List Stp} (h : aboutE ss j = []) (o : Option (List Bs)) : ownV j ss o = o := by unfold ownV; rw [h]; rfl

theorem known_kind {s : Stp} (h : knownE s = true) : s.kind = 1 ∨ s.kind = 2 ∨ s.kind = 3 := by
  unfold knownE at h
  simp only [Bool.and_eq_true, decide_eq_true_eq] at h
  omega

theorem about_mem {j : Bs} {ss : List Stp} {s : Stp} (h : s ∈ aboutE ss j) : s ∈ ss ∧ s.key = j := by
  unfold aboutE at h
  rw [List.mem_filter] at h
  exact ⟨h.1, by simpa using h.2⟩

/-- a script that decides each of its keys makes the same twice -/
theorem runE_again (l : List Ent) (ss : List Stp) (hk : ss.all knownE = true) (hd : decidedE ss = true) : runE (runE l ss) ss = runE l ss := by
  refine runE_eq fun j => ?_
  rw [tidy_run, ofE_runE]
  cases ha : aboutE ss j with
  | nil => rw [about_nil_own ha, about_nil_own ha]
  | cons t r =>
    obtain ⟨ht, hj⟩ := about_mem (j := j) (ss := ss) (s := t) (by rw [ha]; simp)
    have h1 := List.all_eq_true.1 hd t ht
    rw [hj, ha] at h1
    have h2 := known_kind (List.all_eq_true.1 hk t ht)
    have h3 : t.kind ≠ 1 := by simpa using h1
    unfold ownV
    rw [ha]
    show List.foldl stepV (stepV _ t) r = List.foldl stepV (stepV _ t) r
    congr 1
    unfold stepV
    rcases h2 with e | e | e
    · exact absurd e h3
    · simp [e]
    · simp [e]

theorem wov_about (j : Bs) : ∀ (f : Nat) (a b : List Stp) (t : List Bool), a.length + b.length ≤ f → (aboutE a j = [] ∨ aboutE b j = []) → aboutE (wovF f a b t) j = aboutE a j ++ aboutE b j
  | 0, a, b, t, h, _ => by
    obtain rfl : a = [] := List.eq_nil_of_length_eq_zero (by omega)
    obtain rfl : b = [] := List.eq_nil_of_length_eq_zero (by omega)
    rfl
  | _ + 1, [], [], _, _, _ => rfl
  | f + 1, [], y :: b, t, h, _ => by
    show aboutE (y :: wovF f [] b t.tail) j = _
    have ih := wov_about j f [] b t.tail (by simp at h ⊢; omega) (.inl rfl)
    rw [about_cons, ih, about_cons]
    split <;> rfl
  | f + 1, x :: a, [], t, h, _ => by
    show aboutE (x :: wovF f a [] t.tail) j = _
    have ih := wov_about j f a [] t.tail (by simp at h ⊢; omega) (.inr rfl)
    rw [about_cons, ih, about_cons]
    split <;> rfl
  | f + 1, x :: a, y :: b, t, h, hd => by
    show aboutE (if t.headD false then y :: wovF f (x :: a) b t.tail else x :: wovF f a (y :: b) t.tail) j = _
    have hb : aboutE (x :: a) j = [] ∨ aboutE b j = [] := by
      rcases hd with e | e
      · exact .inl e
      · rw [about_cons] at e
        split at e
        · cases e
        · exact .inr e
    have ha : aboutE a j = [] ∨ aboutE (y :: b) j = [] := by
      rcases hd with e | e
      · rw [about_cons] at e
        split at e
        · cases e
        · exact .inl e
      · exact .inr e
    split
    · rw [about_cons, wov_about j f (x :: a) b t.tail (by simp at h ⊢; omega) hb, about_cons y]
      split
      · rename_i hy
        rcases hd with e | e
        · rw [e]; rfl
        · rw [about_cons, if_pos hy] at e; cases e
      · rfl
    · rw [about_cons, wov_about j f a (y :: b) t.tail (by simp at h ⊢; omega) ha, about_cons x]
      split <;> rfl

theorem apart_about {a b : List Stp} (h : apartE a b = true) (j : Bs) : aboutE a j = [] ∨ aboutE b j = [] := by
  cases ha : aboutE a j with
  | nil => exact .inl rfl
  | cons t r =>
    obtain ⟨ht, hj⟩ := about_mem (j := j) (ss := a) (s := t) (by rw [ha]; simp)
    have h1 := List.all_eq_true.1 h t ht
    rw [hj] at h1
    exact .inr (by simpa using h1)

theorem runE_woven (l : List Ent) (a b : List Stp) (t : List Bool) (h : apartE a b = true) : runE l (wovenE a b t) = runE (runE l a) b := by
  rw [← runE_append]
  refine runE_eq fun j => ?_
  unfold ownV wovenE
  rw [wov_about j _ a b t (Nat.le_refl _) (apart_about h j), about_append]

theorem runE_swap (l : List Ent) (a b : List Stp) (h : apartE a b = true) : runE (runE l a) b = runE (runE l b) a := by
  rw [← runE_append, ← runE_append]
  refine runE_eq fun j => ?_
  unfold ownV
  rw [about_append, about_append]
  rcases apart_about h j with e | e <;> simp [e]

theorem wov_mem : ∀ (f : Nat) (a b : List Stp) (t : List Bool), (∀ s ∈ wovF f a b t, s ∈ a ∨ s ∈ b) ∧ (wovF f a b t).length ≤ a.length + b.length
  | 0, a, b, t => by simp [wovF]
  | _ + 1, [], [], _ => by simp [wovF]
  | f + 1, [], y :: b, t => by
    have ih := wov_mem f [] b t.tail
    show (∀ s ∈ y :: wovF f [] b t.tail, _) ∧ (y :: wovF f [] b t.tail).length ≤ _
    refine ⟨fun s hs => ?_, by have := ih.2; simp at this ⊢; omega⟩
    rcases List.mem_cons.1 hs with rfl | hs
    · simp
    · rcases ih.1 s hs with h | h <;> simp_all
  | f + 1, x :: a, [], t => by
    have ih := wov_mem f a [] t.tail
    show (∀ s ∈ x :: wovF f a [] t.tail, _) ∧ (x :: wovF f a [] t.tail).length ≤ _
    refine ⟨fun s hs => ?_, by have := ih.2; simp at this ⊢; omega⟩
    rcases List.mem_cons.1 hs with rfl | hs
    · simp
    · rcases ih.1 s hs with h | h <;> simp_all
  | f + 1, x :: a, y :: b, t => by
    have i1 := wov_mem f (x :: a) b t.tail
    have i2 := wov_mem f a (y :: b) t.tail
    show (∀ s ∈ (if t.headD false then y :: wovF f (x :: a) b t.tail else x :: wovF f a (y :: b) t.tail), _) ∧ (if t.headD false then y :: wovF f (x :: a) b t.tail else x :: wovF f a (y :: b) t.tail).length ≤ _
    split
    · refine ⟨fun s hs => ?_, by have := i1.2; simp at this ⊢; omega⟩
      rcases List.mem_cons.1 hs with rfl | hs
      · simp
      · rcases i1.1 s hs with h | h
        · exact .inl h
        · exact .inr (by simp [h])
    · refine ⟨fun s hs => ?_, by have := i2.2; simp at this ⊢; omega⟩
      rcases List.mem_cons.1 hs with rfl | hs
      · simp
      · rcases i2.1 s hs with h | h
        · exact .inl (by simp [h])
        · exact .inr h

theorem short_mem : ∀ (l : List Stp), (∀ s ∈ shortE l, s ∈ l) ∧ (shortE l).length ≤ l.length
  | [] => by simp [shortE]
  | x :: r => by
    have ih := short_mem r
    unfold shortE
    split
    · exact ⟨fun s hs => by simp [ih.1 s hs], by simp; omega⟩
    · refine ⟨fun s hs => ?_, by simp; omega⟩
      rcases List.mem_cons.1 hs with rfl | hs
      · simp
      · simp [ih.1 s hs]

theorem about_sub (l : List Stp) (k : Bs) : (∀ s ∈ aboutE l k, s ∈ l) ∧ (aboutE l k).length ≤ l.length :=
  ⟨fun _ h => (about_mem h).1, List.length_filter_le _ _⟩

end Go.Proofs.YtjgjiaflccdflaaDoor
