/-
  The walk of laws.FnRunAgain. Conditions: the package's table; the sizes that the bulk's bound gives.
-/
import Derived.Test.YtjgjiaflccdflaaDoorScrB
namespace Go.Proofs.YtjgjiaflccdflaaDoor
open Go.RowKit Go.Maps

set_option maxRecDepth 100000 in
set_option maxHeartbeats 1000000 in
theorem again_walk (v sv : Value) (es : List Ent) (ss : List Stp) (w : World) (h : Ents w v es) (hst : Stps w sv ss) (ht : Tab w) {A B K : Nat} (hA : Ok A B es) (hK : OkS K B ss) (hs : A + K ≤ 1048576) (hB : B ≤ 1048576) :
    Calls Tryd.prog 4 #[v, sv] w fun e w' => e = .returned (.bool true) ∧ Below w.heap.size w w' := by
  have hok := hA.run hK
  have hok2 := hok.run hK
  have hsl := hK.len
  have hel := hA.len
  go_enter Tryd.func4, Tryd.ntmps4
  cases hkn : ss.all knownE with
  | false =>
    go_wp2_with (go_at_call 19; refine (steps_ok sv ss w hst (by omega)).mono ?_; rintro e w1 ⟨v1, rfl, hv1, hb1⟩; rw [hkn])
    go_ret
    exact ⟨rfl, hb1⟩
  | true =>
    have Hkn := Lib.hid hkn
    go_wp2_with (go_at_call 19; refine (steps_ok sv ss w hst (by omega)).mono ?_; rintro e w1 ⟨v1, rfl, hv1, hb1⟩; rw [hkn])
    refine (decided_ok v1 ss w1 hv1 (by omega)).mono ?_
    rintro e w2 ⟨rfl, hb2⟩
    have hb02 : Below w.heap.size w w2 := hb1.trans (hb2.mono hb1.size)
    cases hde : decidedE ss with
    | false =>
      go_wp2_with fail
      go_ret
      exact ⟨rfl, hb02⟩
    | true =>
      have Hde := Lib.hid hde
      clear hde hkn
      go_wp2_with fail
      refine (runO v sv es ss w2 (h.up hb02) (hst.up hb02) hA hK (by omega) (by omega)).mono ?_
      rintro e w3 ⟨v3, rfl, hv3, hb3⟩
      have hb03 : Below w.heap.size w w3 := hb02.trans (hb3.mono hb02.size)
      go_wp2_with fail
      refine (runO v3 sv (runE es ss) ss w3 hv3 (hst.up hb03) hok hK (by omega) (by omega)).mono ?_
      rintro e w4 ⟨v4, rfl, hv4, hb4⟩
      have hb04 : Below w.heap.size w w4 := hb03.trans (hb4.mono hb03.size)
      go_wp2_with fail
      refine (alike_ok v4 v3 _ _ w4 hv4 (hv3.up hb4) (by have := hok2.len; omega) (by have := hok.len; omega) (fun q hq => by have := hok2.vals q hq; omega) (fun q hq => by have := hok.vals q hq; omega)).mono ?_
      rintro e w5 ⟨rfl, hb5⟩
      have hb05 : Below w.heap.size w w5 := hb04.trans (hb5.mono hb04.size)
      rw [decide_eq_true (runE_again es ss Hkn.out Hde.out)]
      go_wp2_with fail
      refine (wakes_ok _ (ht.up hb05)).mono ?_
      rintro e w9 ⟨rfl, hb9⟩
      go_wp2_with fail
      go_ret
      exact ⟨rfl, hb05.trans (hb9.mono hb05.size)⟩

end Go.Proofs.YtjgjiaflccdflaaDoor
