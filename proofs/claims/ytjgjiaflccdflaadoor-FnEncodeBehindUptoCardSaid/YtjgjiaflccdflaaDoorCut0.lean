/-
  Plain laws of a text of parts: where each part stands, what follows it, its bytes; a row of pairs that is written. Conditions: each at its law.
-/
import Derived.Test.YtjgjiaflccdflaaDoorPlainC
namespace Go.Proofs.YtjgjiaflccdflaaDoor
open Go.RowKit

theorem escB_free : ∀ c : UInt8, ∀ b ∈ escB c, b ≠ 38 ∧ b ≠ 61 := by
  have h : ∀ n : Fin 256, ∀ b ∈ escB (UInt8.ofNat n.val), b ≠ 38 ∧ b ≠ 61 := by decide +kernel
  intro c
  have h1 := h ⟨c.toNat, c.toNat_lt⟩
  simpa using h1

theorem escE_free {x : Bs} {b : UInt8} (h : b ∈ escE x) : b ≠ 38 ∧ b ≠ 61 := by
  unfold escE at h
  obtain ⟨c, _, hb⟩ := List.mem_flatMap.1 h
  exact escB_free c b hb

theorem part_free {p : Bs × Bs} {b : UInt8} (h : b ∈ partE p) : b ≠ 38 := by
  unfold partE at h
  rcases List.mem_append.1 h with h | h
  · exact (escE_free h).1
  · rcases List.mem_cons.1 h with rfl | h
    · decide
    · exact (escE_free h).1

/-- where a part begins -/
def offE (ps : List (Bs × Bs)) (j : Nat) : Nat := if j = 0 then 0 else (encP (ps.take j)).length + 1

theorem enc_pre (T : List (Bs × Bs)) (p : Bs × Bs) : encP (T ++ [p]) = (if T = [] then [] else encP T ++ [38]) ++ partE p := by
  by_cases h : T = []
  · subst h; rfl
  · rw [encP_snoc T p h, if_neg h]; simp

theorem enc_post (T R : List (Bs × Bs)) (h : T ≠ []) : encP (T ++ R) = encP T ++ if R = [] then [] else 38 :: encP R := by
  by_cases hr : R = []
  · subst hr; simp
  · rw [if_neg hr]
    unfold encP
    rw [List.map_append]
    exact joinE_append _ _ (by simpa using h) (by simpa using hr)

theorem cut_at {ps : List (Bs × Bs)} {j : Nat} {p : Bs × Bs} (h : ps[j]? = some p) : ∃ pre post, encP ps = pre ++ (partE p ++ post) ∧ pre.length = offE ps j ∧ (if j + 1 = ps.length then post = [] else ∃ r, post = 38 :: r) ∧ offE ps (j + 1) = offE ps j + (partE p).length + 1 := by
  obtain ⟨hj, e⟩ := List.getElem?_eq_some_iff.1 h
  have e1 : ps.take (j + 1) = ps.take j ++ [p] := by rw [List.take_succ_eq_append_getElem hj, e]
  have e2 := enc_pre (ps.take j) p
  have e3 := enc_post (ps.take (j + 1)) (ps.drop (j + 1)) (by rw [e1]; simp)
  rw [List.take_append_drop] at e3
  rw [e1, e2] at e3
  have ht : ps.take j = [] ↔ j = 0 := by
    rw [List.take_eq_nil_iff]
    constructor
    · rintro (h | rfl)
      · exact h
      · simp at hj
    · exact .inl
  refine ⟨_, _, e3.trans (List.append_assoc _ _ _), ?_, ?_, ?_⟩
  · unfold offE
    by_cases h0 : j = 0
    · rw [if_pos (ht.2 h0), if_pos h0]; rfl
    · rw [if_neg (fun x => h0 (ht.1 x)), if_neg h0]; simp
  · by_cases hl : j + 1 = ps.length
    · rw [if_pos hl, if_pos (by rw [hl, List.drop_length])]
    · rw [if_neg hl, if_neg (by simp; omega)]
      exact ⟨_, rfl⟩
  · unfold offE
    rw [if_neg (by omega), e1, e2, List.length_append]
    by_cases h0 : j = 0
    · rw [if_pos (ht.2 h0), if_pos h0]; simp
    · rw [if_neg (fun x => h0 (ht.1 x)), if_neg h0]; simp

theorem off_end {ps : List (Bs × Bs)} (h : ps ≠ []) : offE ps ps.length = (encP ps).length + 1 := by
  unfold offE
  rw [if_neg (by simpa using h), List.take_length]

theorem extract_str (s : Bs) (i j : Nat) : (⟨s.toArray⟩ : ByteArray).extract i j = ⟨((s.take j).drop i).toArray⟩ := by
  apply ByteArray.ext
  rw [ByteArray.data_extract]
  simp [List.drop_take]

theorem pairCells_len (l : List (Bs × Bs)) : (l.flatMap pairCells).length = l.length * 2 := by
  induction l with
  | nil => rfl
  | cons a r ih => rw [List.flatMap_cons, List.length_append, ih]; simp [pairCells]; omega

/-- pairs in a row that is written -/
def PBuf (w : World) (g : Nat) (l : List (Bs × Bs)) : Prop := ∃ (c : Array Value), w.heap[g]? = some (.cells c 69 (0, 0)) ∧ ∀ (k : Nat) (p : Bs × Bs), l[k]? = some p → c[k * 2]? = some (encStr p.1) ∧ c[k * 2 + 1]? = some (encStr p.2)

namespace PBuf
variable {w : World} {g : Nat} {l : List (Bs × Bs)}
theorem cells (h : PBuf w g l) {k : Nat} {p : Bs × Bs} (hp : l[k]? = some p) : w.cell? ⟨g, k * 2, none⟩ = some (encStr p.1) ∧ w.cell? ⟨g, k * 2 + 1, none⟩ = some (encStr p.2) := by
  obtain ⟨c, hb, hc⟩ := h
  have := hc k p hp
  simp [World.cell?, hb, this.1, this.2]
theorem frozen (h : PBuf w g l) (j : Nat) : w.frozen? ⟨g, j, none⟩ = false := by
  obtain ⟨c, hb, _⟩ := h
  simp [World.frozen?, hb]
theorem of_block {w' : World} (h : PBuf w g l) (e : w'.heap[g]? = w.heap[g]?) : PBuf w' g l := by
  obtain ⟨c, hb, hc⟩ := h
  exact ⟨c, e.trans hb, hc⟩
theorem lt (h : PBuf w g l) : g < w.heap.size := by
  obtain ⟨c, hb, _⟩ := h
  exact (Array.getElem?_eq_some_iff.1 hb).1
theorem put (h : PBuf w g l) (i : Nat) (q : Bs × Bs) : PBuf ((w.setCell ⟨g, i * 2, none⟩ (encStr q.1)).setCell ⟨g, i * 2 + 1, none⟩ (encStr q.2)) g (l.set i q) := by
  obtain ⟨c, hb, hc⟩ := h
  refine ⟨(c.setIfInBounds (i * 2) (encStr q.1)).setIfInBounds (i * 2 + 1) (encStr q.2), by simp [World.setCell, Array.getElem?_modify, hb], fun k p hp => ?_⟩
  rw [List.getElem?_set] at hp
  by_cases hik : i = k
  · subst hik
    rw [if_pos rfl] at hp
    split at hp
    · rename_i hl
      injection hp with hp
      subst hp
      have h1 := hc i _ (List.getElem?_eq_getElem hl)
      have s1 := (Array.getElem?_eq_some_iff.1 h1.1).1
      have s2 := (Array.getElem?_eq_some_iff.1 h1.2).1
      refine ⟨?_, ?_⟩
      · rw [Array.getElem?_setIfInBounds, if_neg (by omega), Array.getElem?_setIfInBounds, if_pos rfl, if_pos s1]
      · rw [Array.getElem?_setIfInBounds, if_pos rfl, if_pos (by simpa using s2)]
    · cases hp
  · rw [if_neg hik] at hp
    have h1 := hc k p hp
    refine ⟨?_, ?_⟩
    · rw [Array.getElem?_setIfInBounds, if_neg (by omega), Array.getElem?_setIfInBounds, if_neg (by omega)]; exact h1.1
    · rw [Array.getElem?_setIfInBounds, if_neg (by omega), Array.getElem?_setIfInBounds, if_neg (by omega)]; exact h1.2
theorem row (h : PBuf w g l) (cap : Nat) (hc : l.length ≤ cap) : Prs w (.slice (some ⟨g, 0, none⟩) l.length cap) l := by
  refine ⟨pairCells_len l, _, cap, rfl, hc, fun _ => ⟨g, 0, rfl, h.lt, fun j u hu => ?_⟩⟩
  · have hj : j < (l.flatMap pairCells).length := (List.getElem?_eq_some_iff.1 hu).1
    have hlen := pairCells_len l
    have hk : j / 2 < l.length := by omega
    have hp : l[j / 2]? = some l[j / 2] := List.getElem?_eq_getElem hk
    have hcell := h.cells hp
    have hf := flat_get pairCells 2 l (fun _ _ => rfl) (j / 2) (j % 2) (by omega) _ hp
    rw [show j / 2 * 2 + j % 2 = j by omega, hu] at hf
    rcases (show j % 2 = 0 ∨ j % 2 = 1 by omega) with e | e
    · rw [e] at hf
      have : u = encStr l[j / 2].1 := by simpa [pairCells] using hf
      rw [this, show 0 + j = j / 2 * 2 by omega]
      exact hcell.1
    · rw [e] at hf
      have : u = encStr l[j / 2].2 := by simpa [pairCells] using hf
      rw [this, show 0 + j = j / 2 * 2 + 1 by omega]
      exact hcell.2
theorem of_own {base n : Nat} {cap : Nat} (h : w.ownsRow base 69 2 (.slice (some ⟨g, 0, none⟩) n cap) n (l.flatMap pairCells)) : PBuf w g l := by
  rcases h.2 with ⟨e, _⟩ | ⟨g', cap', cur, e, _, hb, _, _, _, ht⟩
  · cases e
  · injection e with e1 e2 e3
    injection e1 with e1
    injection e1 with e1
    subst e1
    refine ⟨cur, hb, fun k p hp => ?_⟩
    have h0 := flat_get pairCells 2 l (fun _ _ => rfl) k 0 (by omega) p hp
    have h1 := flat_get pairCells 2 l (fun _ _ => rfl) k 1 (by omega) p hp
    have f : ∀ (j : Nat) (u : Value), (l.flatMap pairCells)[j]? = some u → cur[j]? = some u := by
      intro j u hu
      rw [← ht] at hu
      rw [List.getElem?_take] at hu
      split at hu
      · rw [← Array.getElem?_toList]; exact hu
      · cases hu
    exact ⟨f _ _ h0, f _ _ h1⟩
end PBuf

end Go.Proofs.YtjgjiaflccdflaaDoor
