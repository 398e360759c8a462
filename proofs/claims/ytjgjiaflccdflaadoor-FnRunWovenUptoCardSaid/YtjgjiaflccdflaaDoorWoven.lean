/-
  The walk of laws.FnRunWoven. Conditions: the package's table; the sizes that the bulk's bound gives.
-/
import Derived.Test.YtjgjiaflccdflaaDoorScrB
import Derived.Test.YtjgjiaflccdflaaDoorScrD
namespace Go.Proofs.YtjgjiaflccdflaaDoor
open Go.RowKit Go.Maps

set_option maxRecDepth 100000 in
set_option maxHeartbeats 1000000 in
theorem woven_walk (v sv tv bv : Value) (es : List Ent) (ss tt : List Stp) (bs : List Bool) (w : World) (h : Ents w v es) (hst : Stps w sv ss) (htt : Stps w tv tt) (hbs : Row w bv bs.length 1 (bs.map Value.bool)) (ht : Tab w) {A B K M : Nat} (hA : Ok A B es) (hK : OkS K B ss) (hM : OkS M B tt) (_hl : bs.length ≤ 1048576) (hs : A + K + M ≤ 1048576) (hB : B ≤ 1048576) :
    Calls Tryd.prog 10 #[v, sv, tv, bv] w fun e w' => e = .returned (.bool true) ∧ Below w.heap.size w w' := by
  have hsl := hK.len
  have htl := hM.len
  have hel := hA.len
  have hKw : OkS (K + M) B (wovenE ss tt bs) := (hK.append hM).sub (by rw [List.length_append]; exact (wov_mem _ ss tt bs).2) (fun s hs => List.mem_append.2 ((wov_mem _ ss tt bs).1 s hs))
  have hwl := hKw.len
  have hok1 := hA.run hKw
  have hok2 := hA.run hK
  have hok3 := hok2.run hM
  have hok4 := hA.run hM
  go_enter Tryd.func10, Tryd.ntmps10
  go_wp2_with fail
  refine (steps_ok sv ss w hst (by omega)).mono ?_
  rintro e w1 ⟨v1, rfl, hv1, hb1⟩
  go_wp2_with fail
  refine (steps_ok tv tt w1 (htt.up hb1) (by omega)).mono ?_
  rintro e w2 ⟨v2, rfl, hv2, hb2⟩
  have hb02 : Below w.heap.size w w2 := hb1.trans (hb2.mono hb1.size)
  cases hkn : ss.all knownE with
  | false =>
    go_wp2
    go_ret
    exact ⟨rfl, hb02⟩
  | true =>
    cases hkn2 : tt.all knownE with
    | false =>
      go_wp2
      go_ret
      exact ⟨rfl, hb02⟩
    | true =>
      go_wp2_with fail
      refine (apart_ok v1 v2 ss tt w2 (hv1.up hb2) hv2 (by omega) (by omega)).mono ?_
      rintro e w3 ⟨rfl, hb3⟩
      have hb03 : Below w.heap.size w w3 := hb02.trans (hb3.mono hb02.size)
      have hb13 : Below w1.heap.size w1 w3 := hb2.trans (hb3.mono hb2.size)
      cases hap : apartE ss tt with
      | false =>
        go_wp2
        go_ret
        exact ⟨rfl, hb03⟩
      | true =>
        have Hap := Lib.hid hap
        clear hap
        go_wp2_with fail
        refine (woven_ok v1 v2 bv ss tt bs w3 (hv1.up hb13) (hv2.up hb3) (hbs.up hb03) (by omega)).mono ?_
        rintro e w4 ⟨v4, rfl, hv4, hb4⟩
        have hb04 : Below w.heap.size w w4 := hb03.trans (hb4.mono hb03.size)
        go_wp2_with fail
        refine (calls_ok v4 _ w4 hv4 (by omega)).mono ?_
        rintro e w5 ⟨v5, rfl, hv5, hb5⟩
        have hb05 : Below w.heap.size w w5 := hb04.trans (hb5.mono hb04.size)
        go_wp2_with fail
        refine (runO v v5 es _ w5 (h.up hb05) hv5 hA hKw (by omega) (by omega)).mono ?_
        rintro e w6 ⟨v6, rfl, hv6, hb6⟩
        have hb06 : Below w.heap.size w w6 := hb05.trans (hb6.mono hb05.size)
        go_wp2_with fail
        refine (runO v sv es ss w6 (h.up hb06) (hst.up hb06) hA hK (by omega) (by omega)).mono ?_
        rintro e w7 ⟨v7, rfl, hv7, hb7⟩
        have hb07 : Below w.heap.size w w7 := hb06.trans (hb7.mono hb06.size)
        have hb57 : Below w5.heap.size w5 w7 := hb6.trans (hb7.mono hb6.size)
        go_wp2_with fail
        refine (runO v7 tv _ tt w7 hv7 (htt.up hb07) hok2 hM (by omega) (by omega)).mono ?_
        rintro e w8 ⟨v8, rfl, hv8, hb8⟩
        have hb08 : Below w.heap.size w w8 := hb07.trans (hb8.mono hb07.size)
        have hb68 : Below w6.heap.size w6 w8 := hb7.trans (hb8.mono hb7.size)
        have hb58 : Below w5.heap.size w5 w8 := hb57.trans (hb8.mono hb57.size)
        go_wp2_with fail
        refine (alike_ok v6 v8 _ _ w8 (hv6.up hb68) hv8 (by have := hok1.len; omega) (by have := hok3.len; omega) (fun q hq => by have := hok1.vals q hq; omega) (fun q hq => by have := hok3.vals q hq; omega)).mono ?_
        rintro e w9 ⟨rfl, hb9⟩
        have hb09 : Below w.heap.size w w9 := hb08.trans (hb9.mono hb08.size)
        have hb59 : Below w5.heap.size w5 w9 := hb58.trans (hb9.mono hb58.size)
        rw [decide_eq_true (runE_woven es ss tt bs Hap.out)]
        go_wp2_with fail
        refine (encode_ok v v5 es _ w9 (h.up hb09) (hv5.up hb59) (ht.up hb09) hA hKw (by omega) (by omega)).mono ?_
        rintro e w10 ⟨rfl, hb10⟩
        have hb010 : Below w.heap.size w w10 := hb09.trans (hb10.mono hb09.size)
        go_wp2_with fail
        refine (runO v tv es tt w10 (h.up hb010) (htt.up hb010) hA hM (by omega) (by omega)).mono ?_
        rintro e w11 ⟨v11, rfl, hv11, hb11⟩
        have hb011 : Below w.heap.size w w11 := hb010.trans (hb11.mono hb010.size)
        go_wp2_with fail
        refine (encode_ok v11 sv _ ss w11 hv11 (hst.up hb011) (ht.up hb011) hok4 hK (by omega) (by omega)).mono ?_
        rintro e w12 ⟨rfl, hb12⟩
        have hb012 : Below w.heap.size w w12 := hb011.trans (hb12.mono hb011.size)
        rw [runE_woven es ss tt bs Hap.out, runE_swap es ss tt Hap.out]
        generalize encE (runE (runE es tt) ss) = T
        go_wp2_with fail
        refine (wakes_ok _ (ht.up hb012)).mono ?_
        rintro e w13 ⟨rfl, hb13'⟩
        go_wp2_with fail
        go_ret
        exact ⟨rfl, hb012.trans (hb13'.mono hb012.size)⟩

end Go.Proofs.YtjgjiaflccdflaaDoor
