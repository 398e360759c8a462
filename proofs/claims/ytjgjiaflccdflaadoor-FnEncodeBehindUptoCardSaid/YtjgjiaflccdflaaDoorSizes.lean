/-
  How large what a script makes can be, and its text. Conditions: none. No program in sight.
-/
import Derived.Test.YtjgjiaflccdflaaDoorEnc0
namespace Go.Proofs.YtjgjiaflccdflaaDoor

/-- entries: at most A of them, of their values together; texts of at most B bytes -/
structure Ok (A B : Nat) (m : List Ent) : Prop where
  len : m.length ≤ A
  pairs : (pairsE m).length ≤ A
  key : ∀ q ∈ m, q.1.length ≤ B
  val : ∀ q ∈ m, ∀ v ∈ q.2, v.length ≤ B

structure OkS (K B : Nat) (ss : List Stp) : Prop where
  len : ss.length ≤ K
  key : ∀ s ∈ ss, s.key.length ≤ B
  val : ∀ s ∈ ss, s.val.length ≤ B

theorem OkS.nil (K B : Nat) : OkS K B [] := ⟨Nat.zero_le _, by simp, by simp⟩
theorem Ok.nil (A B : Nat) : Ok A B [] := ⟨Nat.zero_le _, Nat.zero_le _, by simp, by simp⟩

theorem OkS.append {K K' B : Nat} {a b : List Stp} (h : OkS K B a) (h' : OkS K' B b) : OkS (K + K') B (a ++ b) :=
  ⟨by rw [List.length_append]; have := h.len; have := h'.len; omega, fun s hs => (List.mem_append.1 hs).elim (h.key s) (h'.key s), fun s hs => (List.mem_append.1 hs).elim (h.val s) (h'.val s)⟩

theorem OkS.sub {K B : Nat} {a b : List Stp} (h : OkS K B b) (hl : a.length ≤ b.length) (hm : ∀ s ∈ a, s ∈ b) : OkS K B a :=
  ⟨Nat.le_trans hl h.len, fun s hs => h.key s (hm s hs), fun s hs => h.val s (hm s hs)⟩

theorem Ok.mono {A A' B B' : Nat} {m : List Ent} (h : Ok A B m) (hA : A ≤ A') (hB : B ≤ B') : Ok A' B' m :=
  ⟨Nat.le_trans h.len hA, Nat.le_trans h.pairs hA, fun q hq => Nat.le_trans (h.key q hq) hB, fun q hq v hv => Nat.le_trans (h.val q hq v hv) hB⟩

theorem OkS.mono {A A' B B' : Nat} {m : List Stp} (h : OkS A B m) (hA : A ≤ A') (hB : B ≤ B') : OkS A' B' m :=
  ⟨Nat.le_trans h.len hA, fun q hq => Nat.le_trans (h.key q hq) hB, fun q hq => Nat.le_trans (h.val q hq) hB⟩

theorem pairs_cons (q : Ent) (m : List Ent) : (pairsE (q :: m)).length = q.2.length + (pairsE m).length := by
  show (q.2.map _ ++ pairsE m).length = _
  simp

theorem Ok.vals {A B : Nat} {m : List Ent} (h : Ok A B m) : ∀ q ∈ m, q.2.length ≤ A := by
  have key : ∀ (m : List Ent), ∀ q ∈ m, q.2.length ≤ (pairsE m).length := by
    intro m
    induction m with
    | nil => simp
    | cons e r ih =>
      intro q hq
      rw [pairs_cons]
      rcases List.mem_cons.1 hq with rfl | hq
      · omega
      · have := ih q hq; omega
  exact fun q hq => Nat.le_trans (key m q hq) h.pairs

theorem withE_mem {α : Type} (l : List (Bs × α)) (k : Bs) (v : α) : ∀ p ∈ withE l k v, p = (k, v) ∨ p ∈ l := by
  induction l with
  | nil => intro p hp; exact .inl (by simpa [withE] using hp)
  | cons e r ih =>
    intro p hp
    unfold withE at hp
    split at hp
    · rcases List.mem_cons.1 hp with rfl | hp
      · exact .inr (by simp)
      · rcases ih p hp with h | h
        · exact .inl h
        · exact .inr (by simp [h])
    · split at hp
      · rcases List.mem_cons.1 hp with rfl | hp
        · exact .inl rfl
        · exact .inr (by simp [hp])
      · rcases List.mem_cons.1 hp with rfl | hp
        · exact .inl rfl
        · exact .inr hp

theorem withE_pairs (m : List Ent) (k : Bs) (v : List Bs) : (pairsE (withE m k v)).length + ((ofE m k).getD []).length = (pairsE m).length + v.length := by
  induction m with
  | nil => simp [withE, ofE, pairsE]
  | cons e r ih =>
    unfold withE ofE
    by_cases h1 : e.1 < k
    · rw [if_pos h1, if_pos h1, pairs_cons, pairs_cons]; omega
    · rw [if_neg h1, if_neg h1]
      by_cases h2 : e.1 = k
      · rw [if_pos h2, if_pos h2, pairs_cons, pairs_cons]; simp; omega
      · rw [if_neg h2, if_neg h2, pairs_cons]; simp; omega

theorem withoutE_pairs (m : List Ent) (k : Bs) : (pairsE (withoutE m k)).length ≤ (pairsE m).length := by
  induction m with
  | nil => exact Nat.le_refl _
  | cons e r ih =>
    rw [pairs_cons]
    unfold withoutE at ih ⊢
    rw [List.filter_cons]
    split
    · rw [pairs_cons]; omega
    · omega

theorem Ok.one {A B : Nat} {m : List Ent} (h : Ok A B m) (s : Stp) (hk : s.key.length ≤ B) (hv : s.val.length ≤ B) : Ok (A + 1) B (oneE m s) := by
  unfold oneE
  split
  · have hp := withE_pairs m s.key ((ofE m s.key).getD [] ++ [s.val])
    refine ⟨by have := withE_length m s.key ((ofE m s.key).getD [] ++ [s.val]); have := h.len; omega, by rw [List.length_append] at hp; simp at hp; have := h.pairs; omega, ?_, ?_⟩
    · intro q hq
      rcases withE_mem _ _ _ q hq with rfl | hq
      · exact hk
      · exact h.key q hq
    · intro q hq v hv'
      rcases withE_mem _ _ _ q hq with rfl | hq
      · rcases List.mem_append.1 hv' with h1 | h1
        · cases ho : ofE m s.key with
          | none => rw [ho] at h1; simp at h1
          | some vs =>
            rw [ho] at h1
            exact h.val _ (ofE_mem ho) v h1
        · simp at h1; subst h1; exact hv
      · exact h.val q hq v hv'
  · split
    · have hp := withE_pairs m s.key [s.val]
      refine ⟨by have := withE_length m s.key [s.val]; have := h.len; omega, by simp at hp; have := h.pairs; omega, ?_, ?_⟩
      · intro q hq
        rcases withE_mem _ _ _ q hq with rfl | hq
        · exact hk
        · exact h.key q hq
      · intro q hq v hv'
        rcases withE_mem _ _ _ q hq with rfl | hq
        · simp at hv'; subst hv'; exact hv
        · exact h.val q hq v hv'
    · split
      · exact ⟨Nat.le_trans (List.length_filter_le _ _) (Nat.le_succ_of_le h.len), by have := withoutE_pairs m s.key; have := h.pairs; omega,
          fun q hq => h.key q (List.mem_filter.1 hq).1, fun q hq => h.val q (List.mem_filter.1 hq).1⟩
      · exact h.mono (Nat.le_succ _) (Nat.le_refl _)

theorem Ok.play {B : Nat} : ∀ (ss : List Stp) {A : Nat} {m : List Ent}, Ok A B m → (∀ s ∈ ss, s.key.length ≤ B) → (∀ s ∈ ss, s.val.length ≤ B) → Ok (A + ss.length) B (playE m ss)
  | [], _, _, h, _, _ => h
  | s :: r, A, m, h, hk, hv => by
    have := Ok.play r (h.one s (hk s (by simp)) (hv s (by simp))) (fun t ht => hk t (by simp [ht])) (fun t ht => hv t (by simp [ht]))
    refine this.mono (by simp; omega) (Nat.le_refl _)

theorem Ok.tidy {A B : Nat} {l : List Ent} (h : Ok A B l) : Ok A B (tidyE l) := by
  have key : ∀ (r m : List Ent), (pairsE (r.foldl (fun m e => withE m e.1 e.2) m)).length ≤ (pairsE m).length + (pairsE r).length := by
    intro r
    induction r with
    | nil => intro m; exact Nat.le_add_right _ _
    | cons e r ih =>
      intro m
      have h1 := ih (withE m e.1 e.2)
      have h2 := withE_pairs m e.1 e.2
      rw [pairs_cons]
      show (pairsE (r.foldl _ (withE m e.1 e.2))).length ≤ _
      omega
  have h0 : (pairsE ([] : List Ent)).length = 0 := rfl
  exact ⟨Nat.le_trans (tidyE_length l) h.len, Nat.le_trans (key l []) (by rw [h0, Nat.zero_add]; exact h.pairs), fun q hq => h.key q (tidyE_mem q hq), fun q hq => h.val q (tidyE_mem q hq)⟩

theorem Ok.run {A B K : Nat} {l : List Ent} {ss : List Stp} (h : Ok A B l) (hs : OkS K B ss) : Ok (A + K) B (runE l ss) :=
  (Ok.play ss h.tidy hs.key hs.val).mono (by have := hs.len; omega) (Nat.le_refl _)

theorem joinE_len {N : Nat} : ∀ (l : List Bs), (∀ x ∈ l, x.length ≤ N) → (joinE l).length ≤ l.length * (N + 1)
  | [], _ => Nat.zero_le _
  | [x], h => by have := h x (by simp); simp [joinE]; omega
  | x :: y :: r, h => by
    have h1 := h x (by simp)
    have h2 := joinE_len (y :: r) (fun z hz => h z (by simp [hz]))
    have h3 : (x :: y :: r).length * (N + 1) = (N + 1) + (y :: r).length * (N + 1) := by
      rw [List.length_cons (a := x), Nat.add_mul, Nat.one_mul, Nat.add_comm]
    rw [h3]
    show (x ++ 38 :: joinE (y :: r)).length ≤ _
    rw [List.length_append, List.length_cons]
    omega

theorem escE_le (s : Bs) : (escE s).length ≤ 3 * s.length := by
  rw [escE_length]
  have := (cnt_le s).2
  omega

theorem pairs_mem {m : List Ent} {p : Bs × Bs} (h : p ∈ pairsE m) : ∃ q ∈ m, p.1 = q.1 ∧ p.2 ∈ q.2 := by
  unfold pairsE at h
  obtain ⟨q, hq, hp⟩ := List.mem_flatMap.1 h
  obtain ⟨v, hv, rfl⟩ := List.mem_map.1 hp
  exact ⟨q, hq, rfl, hv⟩

theorem Ok.text {A B : Nat} {m : List Ent} (h : Ok A B m) (hA : A ≤ 4194304) (hB : B ≤ 2097152) : (encE m).length ≤ 70368744177664 := by
  have h1 := joinE_len (N := 12582913) ((pairsE m).map partE) (fun x hx => by
    obtain ⟨p, hp, rfl⟩ := List.mem_map.1 hx
    obtain ⟨q, hq, e1, hv⟩ := pairs_mem hp
    have k1 := h.key q hq
    have k2 := h.val q hq p.2 hv
    have k3 := escE_le p.1
    have k4 := escE_le p.2
    rw [e1] at k3
    have : (partE p).length = (escE p.1).length + 1 + (escE p.2).length := by simp [partE]; omega
    rw [this, e1]
    omega)
  rw [List.length_map] at h1
  have h2 := h.pairs
  have h3 : (pairsE m).length * (12582913 + 1) ≤ 4194304 * (12582913 + 1) := Nat.mul_le_mul_right _ (by omega)
  show (joinE _).length ≤ _
  omega

end Go.Proofs.YtjgjiaflccdflaaDoor
