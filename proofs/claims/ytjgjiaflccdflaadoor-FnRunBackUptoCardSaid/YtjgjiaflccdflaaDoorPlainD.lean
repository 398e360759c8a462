/-
  Plain law of a script that is undone: its keys deleted, their values added once more. Conditions: no entry has an empty list of values. No program in sight.
-/
import Derived.Test.YtjgjiaflccdflaaDoorPlainA
namespace Go.Proofs.YtjgjiaflccdflaaDoor

def delsE (ss : List Stp) : List Stp := ss.map fun s => ⟨3, s.key, []⟩
def putE (ss : List Stp) (e : Ent) : List Stp := if (aboutE ss e.1).isEmpty then [] else addsE (pairsE [e])
def backE (ss : List Stp) (was : List Ent) : List Stp := ss ++ delsE ss ++ was.flatMap (putE ss)

theorem about_dels (ss : List Stp) (j : Bs) : aboutE (delsE ss) j = (aboutE ss j).map fun s => ⟨3, s.key, []⟩ := by
  unfold delsE aboutE
  rw [List.filter_map]
  rfl

theorem dels_own (ss : List Stp) (j : Bs) (h : aboutE ss j ≠ []) (o : Option (List Bs)) : ownV j (delsE ss) o = none := by
  unfold ownV
  rw [about_dels]
  have key : ∀ (l : List Stp) (o : Option (List Bs)), l ≠ [] → (l.map fun s => (⟨3, s.key, []⟩ : Stp)).foldl stepV o = none := by
    intro l
    induction l with
    | nil => intro _ h; exact absurd rfl h
    | cons s r ih =>
      intro o _
      show (r.map _).foldl stepV (stepV o ⟨3, s.key, []⟩) = none
      have : stepV o ⟨3, s.key, []⟩ = none := rfl
      rw [this]
      cases r with
      | nil => rfl
      | cons t r => exact ih none (by simp)
  exact key _ o h

theorem about_put_ne {ss : List Stp} {e : Ent} {j : Bs} (h : e.1 ≠ j) : aboutE (putE ss e) j = [] := by
  unfold putE
  split
  · rfl
  · unfold aboutE addsE pairsE
    rw [List.filter_eq_nil_iff]
    intro s hs
    simp at hs
    obtain ⟨v, _, rfl⟩ := hs
    simpa using h

theorem about_put_eq {ss : List Stp} {e : Ent} {j : Bs} (h : e.1 = j) (hn : aboutE ss j ≠ []) : aboutE (putE ss e) j = e.2.map fun v => ⟨1, j, v⟩ := by
  unfold putE
  rw [h]
  have : (aboutE ss j).isEmpty = false := by cases ha : aboutE ss j with
    | nil => exact absurd ha hn
    | cons _ _ => rfl
  rw [this, if_neg (by simp)]
  unfold aboutE addsE pairsE
  rw [List.filter_eq_self.2]
  · simp [h]
  · intro s hs
    simp at hs
    obtain ⟨v, _, rfl⟩ := hs
    simpa using h

theorem about_puts_ne {ss : List Stp} {j : Bs} : ∀ {was : List Ent}, (∀ e ∈ was, e.1 ≠ j) → aboutE (was.flatMap (putE ss)) j = []
  | [], _ => rfl
  | e :: r, h => by
    rw [List.flatMap_cons, about_append, about_put_ne (h e (by simp)), about_puts_ne fun q hq => h q (by simp [hq])]
    rfl

theorem about_puts {ss : List Stp} {j : Bs} (hn : aboutE ss j ≠ []) : ∀ {was : List Ent}, Srt was → aboutE (was.flatMap (putE ss)) j = ((ofE was j).getD []).map fun v => ⟨1, j, v⟩
  | [], _ => rfl
  | e :: r, h => by
    obtain ⟨h1, h2⟩ := List.pairwise_cons.1 h
    rw [List.flatMap_cons, about_append]
    unfold ofE
    by_cases hlt : e.1 < j
    · rw [if_pos hlt, about_put_ne (bs_ne hlt), about_puts hn h2]
      rfl
    · rw [if_neg hlt]
      by_cases he : e.1 = j
      · rw [if_pos he, about_put_eq he hn, about_puts_ne fun q hq => ?_]
        · simp
        · intro e2
          have := h1 q hq
          rw [e2, he] at this
          exact bs_irrefl _ this
      · rw [if_neg he, about_put_ne he, about_puts_ne fun q hq => ?_]
        · rfl
        · intro e2
          have h3 := h1 q hq
          rw [e2] at h3
          exact hlt h3

theorem adds_fold (j : Bs) : ∀ (vs acc : List Bs), (vs.map fun v => (⟨1, j, v⟩ : Stp)).foldl stepV (some acc) = some (acc ++ vs)
  | [], acc => by simp
  | v :: vs, acc => by
    show (vs.map _).foldl stepV (stepV (some acc) ⟨1, j, v⟩) = _
    have : stepV (some acc) ⟨1, j, v⟩ = some (acc ++ [v]) := rfl
    rw [this, adds_fold j vs (acc ++ [v])]
    simp

theorem runE_back (l : List Ent) (ss : List Stp) (hne : ∀ e ∈ tidyE l, e.2 ≠ []) : runE l (backE ss (tidyE l)) = tidyE l := by
  refine srt_ext (runE_srt _ _) (tidyE_srt l) fun j => ?_
  rw [ofE_runE]
  unfold backE
  rw [ownV_append, ownV_append]
  by_cases ha : aboutE ss j = []
  · rw [about_nil_own ha]
    have hd : aboutE (delsE ss) j = [] := by rw [about_dels, ha]; rfl
    rw [about_nil_own hd]
    refine about_nil_own ?_ _
    have key : ∀ was : List Ent, aboutE (was.flatMap (putE ss)) j = [] := by
      intro was
      induction was with
      | nil => rfl
      | cons e r ih =>
        rw [List.flatMap_cons, about_append, ih]
        by_cases he : e.1 = j
        · unfold putE
          rw [he, ha]
          rfl
        · rw [about_put_ne he]
          rfl
    exact key _
  · rw [dels_own ss j ha]
    unfold ownV
    rw [about_puts ha (tidyE_srt l)]
    cases ho : ofE (tidyE l) j with
    | none => rfl
    | some vs =>
      have hv : vs ≠ [] := hne _ (ofE_mem ho)
      cases vs with
      | nil => exact absurd rfl hv
      | cons v vs =>
        show (vs.map _).foldl stepV (stepV none ⟨1, j, v⟩) = some (v :: vs)
        have : stepV none ⟨1, j, v⟩ = some [v] := rfl
        rw [this, adds_fold]
        rfl

end Go.Proofs.YtjgjiaflccdflaaDoor
