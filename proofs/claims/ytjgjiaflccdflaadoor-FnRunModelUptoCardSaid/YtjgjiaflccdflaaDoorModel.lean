/-
  The walk of laws.FnRunModel. Conditions: the package's table; the sizes that the bulk's bound gives.
-/
import Derived.Test.YtjgjiaflccdflaaDoorWakes
namespace Go.Proofs.YtjgjiaflccdflaaDoor
open Go.RowKit Go.Maps

set_option maxRecDepth 100000 in
set_option maxHeartbeats 1000000 in
theorem model_walk (v sv : Value) (es : List Ent) (ss : List Stp) (w : World) (h : Ents w v es) (hst : Stps w sv ss) (ht : Tab w) {A B K : Nat} (hA : Ok A B es) (hK : OkS K B ss) (hs : A + K ≤ 1048576) (hB : B ≤ 1048576) :
    Calls Tryd.prog 7 #[v, sv] w fun e w' => e = .returned (.bool true) ∧ Below w.heap.size w w' := by
  have hok := hA.run hK
  have hsl := hK.len
  have hel := hA.len
  go_enter Tryd.func7, Tryd.ntmps7
  cases hkn : ss.all knownE with
  | false =>
    go_wp2_with (go_at_call 19; refine (steps_ok sv ss w hst (by omega)).mono ?_; rintro e w1 ⟨v1, rfl, hv1, hb1⟩; rw [hkn])
    go_ret
    exact ⟨rfl, hb1⟩
  | true =>
    go_wp2_with (go_at_call 19; refine (steps_ok sv ss w hst (by omega)).mono ?_; rintro e w1 ⟨v1, rfl, hv1, hb1⟩; rw [hkn])
    refine (runO v sv es ss w1 (h.up hb1) (hst.up hb1) hA hK (by omega) (by omega)).mono ?_
    rintro e w2 ⟨v2, rfl, hv2, hb2⟩
    go_wp2_with fail
    refine (entries_ok v2 (runE es ss) w2 hv2 (by have := hok.len; omega)).mono ?_
    rintro e w3 ⟨v3, rfl, hv3, hb3⟩
    have hb02 : Below w.heap.size w w2 := hb1.trans (hb2.mono hb1.size)
    have hb03 : Below w.heap.size w w3 := hb02.trans (hb3.mono hb02.size)
    go_wp2_with fail
    refine (entries_ok v es w3 (h.up hb03) (by omega)).mono ?_
    rintro e w4 ⟨v4, rfl, hv4, hb4⟩
    have hb04 : Below w.heap.size w w4 := hb03.trans (hb4.mono hb03.size)
    have hb14 : Below w1.heap.size w1 w4 := (hb2.trans (hb3.mono hb2.size)).trans (hb4.mono (Nat.le_trans hb2.size hb3.size))
    go_wp2_with fail
    refine (specRun_ok v4 v1 es ss w4 hv4 (hv1.up hb14) (by omega) A hA.vals (by omega)).mono ?_
    rintro e w5 ⟨v5, rfl, hv5, hb5⟩
    have hb05 : Below w.heap.size w w5 := hb04.trans (hb5.mono hb04.size)
    have hb35 : Below w3.heap.size w3 w5 := hb4.trans (hb5.mono hb4.size)
    go_wp2_with fail
    refine (specSame_ok v3 v5 (runE es ss) (runE es ss) w5 (hv3.up hb35) hv5 (by have := hok.len; omega) (by have := hok.len; omega) (fun q hq => by have := hok.vals q hq; omega) (fun q hq => by have := hok.vals q hq; omega)).mono ?_
    rintro e w6 ⟨rfl, n, rfl⟩
    have hb06 : Below w.heap.size w (w5.drewN n) := hb05.trans ⟨rfl, rfl, rfl, Nat.le_refl _, fun _ _ => rfl⟩
    rw [decide_eq_true rfl]
    go_wp2_with fail
    refine (wakes_ok _ (ht.up hb06)).mono ?_
    rintro e w7 ⟨rfl, hb7⟩
    go_wp2_with fail
    go_ret
    exact ⟨rfl, hb06.trans (hb7.mono hb06.size)⟩

end Go.Proofs.YtjgjiaflccdflaaDoor
