/-
  The walk of laws.FnRunLater. Conditions: the package's table; the sizes that the bulk's bound gives.
-/
import Derived.Test.YtjgjiaflccdflaaDoorScrC
namespace Go.Proofs.YtjgjiaflccdflaaDoor
open Go.RowKit Go.Maps

set_option maxRecDepth 100000 in
set_option maxHeartbeats 1000000 in
theorem later_walk (v sv : Value) (es : List Ent) (ss : List Stp) (w : World) (h : Ents w v es) (hst : Stps w sv ss) (ht : Tab w) {A B K : Nat} (hA : Ok A B es) (hK : OkS K B ss) (hs : A + K ≤ 1048576) (hB : B ≤ 1048576) :
    Calls Tryd.prog 6 #[v, sv] w fun e w' => e = .returned (.bool true) ∧ Below w.heap.size w w' := by
  have hok := hA.run hK
  have hKs : OkS K B (shortE ss) := hK.sub (short_mem ss).2 (short_mem ss).1
  have hok2 := hA.run hKs
  have hsl := hK.len
  have hsl2 := hKs.len
  have hel := hA.len
  go_enter Tryd.func6, Tryd.ntmps6
  cases hkn : ss.all knownE with
  | false =>
    go_wp2_with (go_at_call 19; refine (steps_ok sv ss w hst (by omega)).mono ?_; rintro e w1 ⟨v1, rfl, hv1, hb1⟩; rw [hkn])
    go_ret
    exact ⟨rfl, hb1⟩
  | true =>
    go_wp2_with (go_at_call 19; refine (steps_ok sv ss w hst (by omega)).mono ?_; rintro e w1 ⟨v1, rfl, hv1, hb1⟩; rw [hkn])
    refine (runO v sv es ss w1 (h.up hb1) (hst.up hb1) hA hK (by omega) (by omega)).mono ?_
    rintro e w2 ⟨v2, rfl, hv2, hb2⟩
    have hb02 : Below w.heap.size w w2 := hb1.trans (hb2.mono hb1.size)
    go_wp2_with fail
    refine (short_ok v1 ss w2 (hv1.up hb2) (by omega)).mono ?_
    rintro e w3 ⟨v3, rfl, hv3, hb3⟩
    have hb03 : Below w.heap.size w w3 := hb02.trans (hb3.mono hb02.size)
    go_wp2_with fail
    refine (calls_ok v3 (shortE ss) w3 hv3 (by omega)).mono ?_
    rintro e w4 ⟨v4, rfl, hv4, hb4⟩
    have hb04 : Below w.heap.size w w4 := hb03.trans (hb4.mono hb03.size)
    go_wp2_with fail
    refine (runO v v4 es (shortE ss) w4 (h.up hb04) hv4 hA hKs (by omega) (by omega)).mono ?_
    rintro e w5 ⟨v5, rfl, hv5, hb5⟩
    have hb05 : Below w.heap.size w w5 := hb04.trans (hb5.mono hb04.size)
    have hb25 : Below w2.heap.size w2 w5 := (hb3.trans (hb4.mono hb3.size)).trans (hb5.mono (Nat.le_trans hb3.size hb4.size))
    go_wp2_with fail
    refine (alike_ok v2 v5 _ _ w5 (hv2.up hb25) hv5 (by have := hok.len; omega) (by have := hok2.len; omega) (fun q hq => by have := hok.vals q hq; omega) (fun q hq => by have := hok2.vals q hq; omega)).mono ?_
    rintro e w6 ⟨rfl, hb6⟩
    have hb06 : Below w.heap.size w w6 := hb05.trans (hb6.mono hb05.size)
    rw [decide_eq_true (runE_short es ss).symm]
    go_wp2_with fail
    refine (wakes_ok _ (ht.up hb06)).mono ?_
    rintro e w9 ⟨rfl, hb9⟩
    go_wp2_with fail
    go_ret
    exact ⟨rfl, hb06.trans (hb9.mono hb06.size)⟩

end Go.Proofs.YtjgjiaflccdflaaDoor
