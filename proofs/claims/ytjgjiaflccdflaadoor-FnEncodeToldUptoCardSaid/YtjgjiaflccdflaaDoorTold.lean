/-
  The walk of laws.FnEncodeTold. Conditions: the package's table; the sizes that the bulk's bound gives.
-/
import Derived.Test.YtjgjiaflccdflaaDoorGot
namespace Go.Proofs.YtjgjiaflccdflaaDoor
open Go.RowKit Go.Maps

set_option maxRecDepth 100000 in
set_option maxHeartbeats 1000000 in
theorem told_walk (v sv : Value) (es : List Ent) (ss : List Stp) (w : World) (h : Ents w v es) (hst : Stps w sv ss) (ht : Tab w) {A B K : Nat} (hA : Ok A B es) (hK : OkS K B ss) (hs : A + K ≤ 1048576) (hB : B ≤ 1048576) :
    Calls Tryd.prog 15 #[v, sv] w fun e w' => e = .returned (.bool true) ∧ Below w.heap.size w w' := by
  have hok := hA.run hK
  have hsl := hK.len
  have hel := hA.len
  go_enter Tryd.func15, Tryd.ntmps15
  cases hkn : ss.all knownE with
  | false =>
    go_wp2_with (go_at_call 19; refine (steps_ok sv ss w hst (by omega)).mono ?_; rintro e w1 ⟨v1, rfl, hv1, hb1⟩; rw [hkn])
    go_ret
    exact ⟨rfl, hb1⟩
  | true =>
    go_wp2_with (go_at_call 19; refine (steps_ok sv ss w hst (by omega)).mono ?_; rintro e w1 ⟨v1, rfl, hv1, hb1⟩; rw [hkn])
    refine (encode_ok v sv es ss w1 (h.up hb1) (hst.up hb1) (ht.up hb1) hA hK (by omega) (by omega)).mono ?_
    rintro e w2 ⟨rfl, hb2⟩
    have hb02 : Below w.heap.size w w2 := hb1.trans (hb2.mono hb1.size)
    go_wp2_with fail
    refine (got_ok (runE es ss) w2 (ht.up hb02) hok (by omega) (by omega)).mono ?_
    rintro e w3 ⟨v3, rfl, hv3, hb3⟩
    have hb03 : Below w.heap.size w w3 := hb02.trans (hb3.mono hb02.size)
    go_wp2_with fail
    refine (entries_ok v es w3 (h.up hb03) (by omega)).mono ?_
    rintro e w4 ⟨v4, rfl, hv4, hb4⟩
    have hb04 : Below w.heap.size w w4 := hb03.trans (hb4.mono hb03.size)
    have hb14 : Below w1.heap.size w1 w4 := (hb2.trans (hb3.mono hb2.size)).trans (hb4.mono (Nat.le_trans hb2.size hb3.size))
    go_wp2_with fail
    refine (specRun_ok v4 v1 es ss w4 hv4 (hv1.up hb14) (by omega) A hA.vals (by omega)).mono ?_
    rintro e w5 ⟨v5, rfl, hv5, hb5⟩
    have hb05 : Below w.heap.size w w5 := hb04.trans (hb5.mono hb04.size)
    go_wp2_with fail
    refine (pairs_ok v5 (runE es ss) w5 hv5 (by have := hok.len; omega) (by have := hok.pairs; omega) (fun q hq => by have := hok.vals q hq; omega)).mono ?_
    rintro e w6 ⟨v6, rfl, hv6, hb6⟩
    have hb06 : Below w.heap.size w w6 := hb05.trans (hb6.mono hb05.size)
    have hb36 : Below w3.heap.size w3 w6 := (hb4.trans (hb5.mono hb4.size)).trans (hb6.mono (Nat.le_trans hb4.size hb5.size))
    have hg3 := hv3.up hb36
    have hpn : (pairsE (runE es ss)).length ≤ 1048576 := by have := hok.pairs; omega
    clear hv3 hv4 hv5 hok
    generalize pairsE (runE es ss) = ps at *
    obtain ⟨_, A3, c3, rfl, hc3, hx3⟩ := hg3
    obtain ⟨_, A6, c6, rfl, hc6, hx6⟩ := hv6
    have Hx3 := Lib.hid hx3
    have Hx6 := Lib.hid hx6
    clear hx3 hx6
    go_wp2_with fail
    go_loopw [9] (fun i wr => ∃ k : Nat, k ≤ ps.length ∧ i = .int .i64 k ∧ Below w6.heap.size w6 wr) (fun i _ => ps.length - (intOf i).toNat)
    case atStart => exact ⟨0, Nat.zero_le _, rfl, Below.refl _ _⟩
    case round =>
      obtain ⟨k, hk, rfl, hnx⟩ := hrel
      have hb0r : Below w.heap.size w wr := hb06.trans (hnx.mono hb06.size)
      by_cases hlt : k < ps.length
      · obtain ⟨b3, off3, rfl, hbl3, hcell3⟩ := Hx3.out (by omega)
        obtain ⟨b6, off6, rfl, hbl6, hcell6⟩ := Hx6.out (by omega)
        obtain ⟨p, hp⟩ : ∃ p, ps[k]? = some p := ⟨_, List.getElem?_eq_getElem hlt⟩
        obtain ⟨hd0, hd1⟩ := pair_at hcell3 hp
        obtain ⟨he0, he1⟩ := pair_at hcell6 hp
        replace hd0 := (hnx.cell (p := ⟨b3, off3 + k * 2, none⟩) hbl3).trans hd0
        replace hd1 := (hnx.cell (p := ⟨b3, off3 + k * 2 + 1, none⟩) hbl3).trans hd1
        replace he0 := (hnx.cell (p := ⟨b6, off6 + k * 2, none⟩) hbl6).trans he0
        replace he1 := (hnx.cell (p := ⟨b6, off6 + k * 2 + 1, none⟩) hbl6).trans he1
        obtain ⟨pk, pv⟩ := p
        have hk0 : (0 : Int) ≤ (k : Int) := Int.natCast_nonneg _
        have hk3 : (k : Int) < (ps.length : Int) := by omega
        clear hcell3 hcell6 hp
        go_wp2_with fail
        go_quiet (fail)
        go_wp2_with fail
        go_roundw
        case rel => exact ⟨k + 1, by omega, by go_num, hnx.trans ⟨rfl, rfl, rfl, Nat.le_refl _, fun _ _ => rfl⟩⟩
        case measure => simp [intOf]; omega
      · go_wp2_with fail
        refine (wakes_ok _ (ht.up hb0r)).mono ?_
        rintro e w9 ⟨rfl, hb9⟩
        go_wp2_with fail
        go_ret
        exact ⟨rfl, hb0r.trans (hb9.mono hb0r.size)⟩

end Go.Proofs.YtjgjiaflccdflaaDoor
