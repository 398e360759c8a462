/-
  The walks of spec.Apart and spec.Decided. Conditions: scripts of at most 2^32 steps.
-/
import Derived.Test.YtjgjiaflccdflaaDoorScrA
namespace Go.Proofs.YtjgjiaflccdflaaDoor
open Go.RowKit Go.Maps

set_option maxRecDepth 100000 in
set_option maxHeartbeats 1000000 in
theorem apart_ok (v u : Value) (ss tt : List Stp) (w : World) (h : Stps w v ss) (k : Stps w u tt) (hn : ss.length ≤ 4294967296) (hm : tt.length ≤ 4294967296) :
    Calls Tryd.prog 35 #[v, u] w fun e w' => e = .returned (.bool (apartE ss tt)) ∧ Below w.heap.size w w' := by
  obtain ⟨_, A, c, rfl, hnc, hx⟩ := h
  have Hx := Lib.hid hx
  clear hx
  go_enter Tryd.func35, Tryd.ntmps35
  go_wp2
  go_loopw [5] (fun i wr => ∃ k : Nat, k ≤ ss.length ∧ i = .int .i64 k ∧ Hid (apartE (ss.take k) tt = true) ∧ Below w.heap.size w wr)
    (fun i _ => ss.length - (intOf i).toNat)
  case atStart => exact ⟨0, Nat.zero_le _, rfl, rfl, Below.refl _ _⟩
  case round =>
    obtain ⟨j, hj, rfl, Hall, hnx⟩ := hrel
    by_cases hlt : j < ss.length
    · obtain ⟨b, off, rfl, hbl, hcell⟩ := Hx.out (by omega)
      obtain ⟨s, hp⟩ : ∃ s, ss[j]? = some s := ⟨_, List.getElem?_eq_getElem hlt⟩
      obtain ⟨_, hc1, _⟩ := step_at hcell hp
      replace hc1 := (hnx.cell (p := ⟨b, off + j * 3 + 1, none⟩) hbl).trans hc1
      have Htk : Hid (ss.take (j + 1) = ss.take j ++ [s]) := by
        rw [List.getElem?_eq_getElem hlt, Option.some.injEq] at hp
        show ss.take (j + 1) = _
        rw [List.take_succ_eq_append_getElem hlt, hp]
      have Hmem : Hid (s ∈ ss) := List.mem_of_getElem? hp
      have Hc := Lib.hid (about_ok u tt s.key wr (k.up hnx) hm)
      clear hcell hp
      by_cases h0 : aboutE tt s.key = []
      · have H0 := Lib.hid h0
        have Hall2 : Hid (apartE (ss.take (j + 1)) tt = true) := by
          show apartE _ _ = true
          have h1 := Hall.out
          unfold apartE at h1 ⊢
          rw [Htk.out, List.all_append, h1]
          simp [H0.out]
        go_wp2_with (go_at_call 25; refine Hc.out.mono ?_; rintro e w1 ⟨v1, rfl, hv1, hb1⟩; rw [H0.out] at hv1; obtain ⟨_, A1, c1, rfl, _, _⟩ := hv1)
        go_roundw
        case rel => exact ⟨j + 1, by omega, by go_num, Hall2, hnx.trans (hb1.mono hnx.size)⟩
        case measure => simp [intOf]; omega
      · have hpos : 0 < (aboutE tt s.key).length := by
          cases he : aboutE tt s.key with
          | nil => exact absurd he h0
          | cons _ _ => simp
        have Hf : Hid (apartE ss tt = false) := by
          show apartE ss tt = false
          unfold apartE
          rw [List.all_eq_false]
          exact ⟨s, Hmem.out, by simpa using h0⟩
        clear h0
        go_wp2_with (go_at_call 25; refine Hc.out.mono ?_; rintro e w1 ⟨v1, rfl, hv1, hb1⟩; obtain ⟨_, A1, c1, rfl, _, _⟩ := hv1)
        go_ret
        rw [Hf.out]
        exact ⟨rfl, hnx.trans (hb1.mono hnx.size)⟩
    · obtain rfl : j = ss.length := by omega
      go_wp2
      go_ret
      have h1 := Hall.out
      rw [List.take_length] at h1
      rw [h1]
      exact ⟨rfl, hnx⟩

set_option maxRecDepth 100000 in
set_option maxHeartbeats 1000000 in
theorem decided_ok (v : Value) (ss : List Stp) (w : World) (h : Stps w v ss) (hn : ss.length ≤ 4294967296) :
    Calls Tryd.prog 20 #[v] w fun e w' => e = .returned (.bool (decidedE ss)) ∧ Below w.heap.size w w' := by
  have Hst := Lib.hid h
  obtain ⟨_, A, c, rfl, hnc, hx⟩ := h
  have Hx := Lib.hid hx
  clear hx
  go_enter Tryd.func20, Tryd.ntmps20
  go_wp2
  go_loopw [3] (fun i wr => ∃ k : Nat, k ≤ ss.length ∧ i = .int .i64 k ∧ Hid (∀ s ∈ ss.take k, ∀ t r, aboutE ss s.key = t :: r → t.kind ≠ 1) ∧ Below w.heap.size w wr)
    (fun i _ => ss.length - (intOf i).toNat)
  case atStart => exact ⟨0, Nat.zero_le _, rfl, fun s hs => by simp at hs, Below.refl _ _⟩
  case round =>
    obtain ⟨j, hj, rfl, Hall, hnx⟩ := hrel
    by_cases hlt : j < ss.length
    · obtain ⟨b, off, rfl, hbl, hcell⟩ := Hx.out (by omega)
      obtain ⟨s, hp⟩ : ∃ s, ss[j]? = some s := ⟨_, List.getElem?_eq_getElem hlt⟩
      obtain ⟨_, hc1, _⟩ := step_at hcell hp
      replace hc1 := (hnx.cell (p := ⟨b, off + j * 3 + 1, none⟩) hbl).trans hc1
      have Htk : Hid (ss.take (j + 1) = ss.take j ++ [s]) := by
        rw [List.getElem?_eq_getElem hlt, Option.some.injEq] at hp
        show ss.take (j + 1) = _
        rw [List.take_succ_eq_append_getElem hlt, hp]
      have hmem : s ∈ ss := List.mem_of_getElem? hp
      have Hmem := Lib.hid hmem
      obtain ⟨t, r, htr⟩ : ∃ t r, aboutE ss s.key = t :: r := by
        cases he : aboutE ss s.key with
        | nil =>
          have : s ∈ aboutE ss s.key := by unfold aboutE; rw [List.mem_filter]; exact ⟨hmem, by simp⟩
          rw [he] at this; simp at this
        | cons t r => exact ⟨t, r, rfl⟩
      have Htr := Lib.hid htr
      have Hc := Lib.hid (about_ok _ ss s.key wr (Hst.out.up hnx) hn)
      clear hcell hp htr hmem
      by_cases h1 : t.kind = 1
      · have hb1 : (t.kind == 1) = true := beq_iff_eq.2 h1
        have Hf : Hid (decidedE ss = false) := by
          show decidedE ss = false
          unfold decidedE
          rw [List.all_eq_false]
          exact ⟨s, Hmem.out, by rw [Htr.out]; simp [h1]⟩
        clear h1
        go_wp2_with (go_at_call 25; refine Hc.out.mono ?_; rintro e w1 ⟨v1, rfl, hv1, hb1⟩; rw [Htr.out] at hv1; obtain ⟨_, A1, c1, rfl, _, hx1⟩ := hv1; obtain ⟨b1, off1, rfl, _, hcell1⟩ := hx1 (by simp); have hk1 := (step_at hcell1 (k := 0) rfl).1; rw [Nat.zero_mul, Nat.add_zero] at hk1; clear hcell1 hx1)
        go_ret
        rw [Hf.out]
        exact ⟨rfl, hnx.trans (hb1.mono hnx.size)⟩
      · have hb1 : (t.kind == 1) = false := beq_eq_false_iff_ne.2 h1
        have Hall2 : Hid (∀ s ∈ ss.take (j + 1), ∀ t r, aboutE ss s.key = t :: r → t.kind ≠ 1) := by
          intro s' hs' t' r' ha
          rw [Htk.out] at hs'
          rcases List.mem_append.1 hs' with hs' | hs'
          · exact Hall.out s' hs' t' r' ha
          · simp at hs'
            subst hs'
            rw [Htr.out] at ha
            injection ha with ha _
            rw [← ha]; exact h1
        clear h1
        go_wp2_with (go_at_call 25; refine Hc.out.mono ?_; rintro e w1 ⟨v1, rfl, hv1, hb1⟩; rw [Htr.out] at hv1; obtain ⟨_, A1, c1, rfl, _, hx1⟩ := hv1; obtain ⟨b1, off1, rfl, _, hcell1⟩ := hx1 (by simp); have hk1 := (step_at hcell1 (k := 0) rfl).1; rw [Nat.zero_mul, Nat.add_zero] at hk1; clear hcell1 hx1)
        go_roundw
        case rel => exact ⟨j + 1, by omega, by go_num, Hall2, hnx.trans (hb1.mono hnx.size)⟩
        case measure => simp [intOf]; omega
    · obtain rfl : j = ss.length := by omega
      go_wp2
      go_ret
      have h1 : decidedE ss = true := by
        unfold decidedE
        rw [List.all_eq_true]
        intro s hs
        cases he : aboutE ss s.key with
        | nil => rfl
        | cons t r =>
          have := Hall.out s (by rw [List.take_length]; exact hs) t r he
          simpa using this
      rw [h1]
      exact ⟨rfl, hnx⟩

end Go.Proofs.YtjgjiaflccdflaaDoor
