/-
  The walk of laws.FnRunSplit. Conditions: the package's table; the sizes that the bulk's bound gives.
-/
import Derived.Test.YtjgjiaflccdflaaDoorWakes
import Derived.Test.YtjgjiaflccdflaaDoorPlainA
namespace Go.Proofs.YtjgjiaflccdflaaDoor
open Go.RowKit Go.Maps

theorem steps_one (ss : List Stp) : ∀ u ∈ ss.flatMap stepCells, u.oneCell' = true := by
  intro u hu
  obtain ⟨s, _, hs⟩ := List.mem_flatMap.1 hu
  simp [stepCells] at hs
  rcases hs with rfl | rfl | rfl <;> rfl

set_option maxRecDepth 100000 in
set_option maxHeartbeats 1000000 in
theorem split_walk (v sv tv : Value) (es : List Ent) (ss tt : List Stp) (w : World) (h : Ents w v es) (hst : Stps w sv ss) (htt : Stps w tv tt) (ht : Tab w) {A B K M : Nat} (hA : Ok A B es) (hK : OkS K B ss) (hM : OkS M B tt) (hs : A + K + M ≤ 1048576) (hB : B ≤ 1048576) :
    Calls Tryd.prog 9 #[v, sv, tv] w fun e w' => e = .returned (.bool true) ∧ Below w.heap.size w w' := by
  obtain ⟨i0, hi, hz0, hz1, hz2⟩ := info_parts Tryd.info70
  have hok := hA.run hK
  have hok2 := hA.run (hK.append hM)
  have hok3 := hok.run hM
  have hsl := hK.len
  have htl := hM.len
  have hel := hA.len
  go_enter Tryd.func9, Tryd.ntmps9
  cases hkn : ss.all knownE with
  | false =>
    go_wp2_with (go_at_call 19; refine (steps_ok sv ss w hst (by omega)).mono ?_; rintro e w1 ⟨v1, rfl, hv1, hb1⟩; rw [hkn])
    go_ret
    exact ⟨rfl, hb1⟩
  | true =>
    go_wp2_with fail
    refine (steps_ok sv ss w hst (by omega)).mono ?_
    rintro e w1 ⟨v1, rfl, hv1, hb1⟩
    rw [hkn]
    go_wp2_with fail
    refine (steps_ok tv tt w1 (htt.up hb1) (by omega)).mono ?_
    rintro e w2 ⟨v2, rfl, hv2, hb2⟩
    have hb02 : Below w.heap.size w w2 := hb1.trans (hb2.mono hb1.size)
    have hsz2 := hb02.size
    cases hkn2 : tt.all knownE with
    | false =>
      go_wp2
      go_ret
      exact ⟨rfl, hb02⟩
    | true =>
      have m1 : 0 + ss.length ≤ maxLen := by simp only [maxLen]; omega
      have m2 : (0 + ss.length) * 40 ≤ 140737488355328 := by omega
      have m3 : ss.length + tt.length ≤ maxLen := by simp only [maxLen]; omega
      have m4 : (ss.length + tt.length) * 40 ≤ 140737488355328 := by omega
      have Hs2 := Lib.hid (hst.up hb02)
      go_wp2_with (first
        | (at_builtin; refine wpList_append_row _ rfl (.tmp 26) (.tmp 27) 29 rfl w.heap.size 70 i0 _ 3 40 Tryd.underlying29 hi hz0 hz1 hz2 rfl (by decide) (.slice none 0 0) 0 [] rfl (World.ownsRow_nil _ _ _ _) sv ss.length _ rfl Hs2.out (steps_one ss) m1 m2 hsz2 ?_; intro v3 w3 hown3 hg3 hat3; simp only [Nat.zero_add, List.nil_append] at hown3; have hb03 : Below w.heap.size w w3 := hb02.grown hg3 hsz2 (fun j hj => by cases hj))
        | (at_builtin; refine wpList_append_row _ rfl (.tmp 29) (.tmp 30) 29 rfl w.heap.size 70 i0 _ 3 40 Tryd.underlying29 hi hz0 hz1 hz2 rfl (by decide) v3 ss.length _ rfl hown3 tv tt.length _ rfl (htt.up hb03) (steps_one tt) m3 m4 hb03.size ?_; intro v4 w4 hown4 hg4 hat4))
      have hb04 : Below w.heap.size w w4 := hb03.grown hg4 hb03.size (fun j hj => (hown3.lt j hj).1)
      have Hs4 : Stps w4 v4 (ss ++ tt) := by
        have := Row.of_own hown4
        rw [← List.flatMap_append, ← List.length_append] at this
        exact this
      refine (runO v v4 es (ss ++ tt) w4 (h.up hb04) Hs4 hA (hK.append hM) (by omega) (by omega)).mono ?_
      rintro e w5 ⟨v5, rfl, hv5, hb5⟩
      have hb05 : Below w.heap.size w w5 := hb04.trans (hb5.mono hb04.size)
      go_wp2_with fail
      refine (runO v sv es ss w5 (h.up hb05) (hst.up hb05) hA hK (by omega) (by omega)).mono ?_
      rintro e w6 ⟨v6, rfl, hv6, hb6⟩
      have hb06 : Below w.heap.size w w6 := hb05.trans (hb6.mono hb05.size)
      go_wp2_with fail
      refine (runO v6 tv (runE es ss) tt w6 hv6 (htt.up hb06) hok hM (by omega) (by omega)).mono ?_
      rintro e w7 ⟨v7, rfl, hv7, hb7⟩
      have hb07 : Below w.heap.size w w7 := hb06.trans (hb7.mono hb06.size)
      have hb57 : Below w5.heap.size w5 w7 := hb6.trans (hb7.mono hb6.size)
      go_wp2_with fail
      refine (alike_ok v5 v7 _ _ w7 (hv5.up hb57) hv7 (by have := hok2.len; omega) (by have := hok3.len; omega) (fun q hq => by have := hok2.vals q hq; omega) (fun q hq => by have := hok3.vals q hq; omega)).mono ?_
      rintro e w8 ⟨rfl, hb8⟩
      have hb08 : Below w.heap.size w w8 := hb07.trans (hb8.mono hb07.size)
      rw [decide_eq_true (runE_append es ss tt)]
      go_wp2_with fail
      refine (wakes_ok _ (ht.up hb08)).mono ?_
      rintro e w9 ⟨rfl, hb9⟩
      go_wp2_with fail
      go_ret
      exact ⟨rfl, hb08.trans (hb9.mono hb08.size)⟩

end Go.Proofs.YtjgjiaflccdflaaDoor
