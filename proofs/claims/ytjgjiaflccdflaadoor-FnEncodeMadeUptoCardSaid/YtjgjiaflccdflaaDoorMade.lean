/-
  The walk of laws.FnEncodeMade. Conditions: the package's table; the sizes that the bulk's bound gives.
-/
import Derived.Test.YtjgjiaflccdflaaDoorGot
import Derived.Test.YtjgjiaflccdflaaDoorSplit
import Derived.Test.YtjgjiaflccdflaaDoorPlainE
namespace Go.Proofs.YtjgjiaflccdflaaDoor
open Go.RowKit Go.Maps

theorem adds_okS {A B : Nat} {m : List Ent} (h : Ok A B m) : OkS A B (addsE (pairsE m)) := by
  refine ⟨by have := h.pairs; simpa [addsE] using this, fun s hs => ?_, fun s hs => ?_⟩
  · unfold addsE at hs
    obtain ⟨p, hp, rfl⟩ := List.mem_map.1 hs
    obtain ⟨q, hq, e, _⟩ := pairs_mem hp
    show p.1.length ≤ B
    rw [e]
    exact h.key q hq
  · unfold addsE at hs
    obtain ⟨p, hp, rfl⟩ := List.mem_map.1 hs
    obtain ⟨q, hq, _, hv⟩ := pairs_mem hp
    exact h.val q hq _ hv

theorem adds_rev {A B : Nat} {ps : List (Bs × Bs)} (h : OkS A B (addsE ps)) : OkS A B (addsE ps.reverse) := by
  have e : addsE ps.reverse = (addsE ps).reverse := by unfold addsE; rw [List.map_reverse]
  rw [e]
  exact h.sub (by simp) (fun s hs => by simpa using hs)

theorem pairs_one (ps : List (Bs × Bs)) : ∀ u ∈ ps.flatMap pairCells, u.oneCell' = true := by
  intro u hu
  obtain ⟨s, _, hs⟩ := List.mem_flatMap.1 hu
  simp [pairCells] at hs
  rcases hs with rfl | rfl <;> rfl

theorem own_new (w : World) {base : Nat} (hb : base ≤ w.heap.size) (a b : Bs) : (w.alloc (.cells #[encStr a, encStr b] 69)).ownsRow base 69 2 (.slice (some ⟨w.heap.size, 0, none⟩) 1 1) 1 [encStr a, encStr b] :=
  ⟨rfl, .inr ⟨w.heap.size, 1, #[encStr a, encStr b], rfl, hb, heap_alloc_new w _, Nat.le_refl _, by decide, rfl, rfl⟩⟩

set_option maxRecDepth 100000 in
set_option maxHeartbeats 1000000 in
theorem made_walk (v sv : Value) (es : List Ent) (ss : List Stp) (w : World) (h : Ents w v es) (hst : Stps w sv ss) (ht : Tab w) {A B K : Nat} (hA : Ok A B es) (hK : OkS K B ss) (hs : A + K ≤ 1048576) (hB : B ≤ 1048576) :
    Calls Tryd.prog 14 #[v, sv] w fun e w' => e = .returned (.bool true) ∧ Below w.heap.size w w' := by
  obtain ⟨i0, hi, hz0, hz1, hz2⟩ := info_parts Tryd.info69
  have hok := hA.run hK
  have hsl := hK.len
  have hel := hA.len
  go_enter Tryd.func14, Tryd.ntmps14
  cases hkn : ss.all knownE with
  | false =>
    go_wp2_with (go_at_call 19; refine (steps_ok sv ss w hst (by omega)).mono ?_; rintro e w1 ⟨v1, rfl, hv1, hb1⟩; rw [hkn])
    go_ret
    exact ⟨rfl, hb1⟩
  | true =>
    go_wp2_with (go_at_call 19; refine (steps_ok sv ss w hst (by omega)).mono ?_; rintro e w1 ⟨v1, rfl, hv1, hb1⟩; rw [hkn])
    refine (encode_ok v sv es ss w1 (h.up hb1) (hst.up hb1) (ht.up hb1) hA hK (by omega) (by omega)).mono ?_
    rintro e w2 ⟨rfl, hb2⟩
    have hb02 : Below w.heap.size w w2 := hb1.trans (hb2.mono hb1.size)
    go_wp2_with fail
    refine (got_ok (runE es ss) w2 (ht.up hb02) hok (by omega) (by omega)).mono ?_
    rintro e w3 ⟨v3, rfl, hv3, hb3⟩
    have hb03 : Below w.heap.size w w3 := hb02.trans (hb3.mono hb02.size)
    have hpn : (pairsE (runE es ss)).length ≤ 1048576 := by have := hok.pairs; omega
    have Henc := Lib.hid (enc_made es ss)
    have Hweak := Lib.hid (pairs_weak (runE_srt es ss))
    have Hoks := Lib.hid (adds_okS hok)
    clear hok hv1 hkn
    generalize pairsE (runE es ss) = ps at *
    generalize encE (runE es ss) = T at *
    go_wp2_with fail
    refine (adds_ok v3 ps w3 hv3 (by omega)).mono ?_
    rintro e w4 ⟨v4, rfl, hv4, hb4⟩
    have hb04 : Below w.heap.size w w4 := hb03.trans (hb4.mono hb03.size)
    go_wp2_with fail
    refine (calls_ok v4 (addsE ps) w4 hv4 (by have := Hoks.out.len; omega)).mono ?_
    rintro e w5 ⟨v5, rfl, hv5, hb5⟩
    have hb05 : Below w.heap.size w w5 := hb04.trans (hb5.mono hb04.size)
    go_wp2_with fail
    refine (encode_ok _ v5 [] (addsE ps) w5 (ents_nil _) hv5 (ht.up hb05) (Ok.nil 0 B) Hoks.out (by omega) (by omega)).mono ?_
    rintro e w6 ⟨rfl, hb6⟩
    rw [Henc.out]
    have hb06 : Below w.heap.size w w6 := hb05.trans (hb6.mono hb05.size)
    have hb36 : Below w3.heap.size w3 w6 := (hb4.trans (hb5.mono hb4.size)).trans (hb6.mono (Nat.le_trans hb4.size hb5.size))
    have hg3 := hv3.up hb36
    clear hv3 hv4 hv5
    obtain ⟨_, A3, c3, rfl, hc3, hx3⟩ := hg3
    have Hx3 := Lib.hid hx3
    clear hx3
    go_wp2_with fail
    go_loopw [10, 11] (fun o i wr => ∃ n : Nat, n ≤ ps.length ∧ i = .int .i64 n ∧ Hid (Srt (ps.take n)) ∧ wr.ownsRow w6.heap.size 69 2 o n ((ps.take n).reverse.flatMap pairCells) ∧ Below w6.heap.size w6 wr) (fun _ i _ => ps.length - (intOf i).toNat)
    case atStart => exact ⟨0, Nat.zero_le _, rfl, (Srt.nil : Srt ([] : List (Bs × Bs))), World.ownsRow_nil _ _ _ _, Below.refl _ _⟩
    case round =>
      obtain ⟨n, hn, rfl, Hsr, hown, hnx⟩ := hrel
      have hb0r : Below w.heap.size w wr := hb06.trans (hnx.mono hb06.size)
      by_cases hlt : n < ps.length
      · obtain ⟨b3, off3, rfl, hbl3, hcell3⟩ := Hx3.out (by omega)
        obtain ⟨p, hp⟩ : ∃ p, ps[n]? = some p := ⟨_, List.getElem?_eq_getElem hlt⟩
        obtain ⟨hd0, hd1⟩ := pair_at hcell3 hp
        replace hd0 := (hnx.cell (p := ⟨b3, off3 + n * 2, none⟩) hbl3).trans hd0
        replace hd1 := (hnx.cell (p := ⟨b3, off3 + n * 2 + 1, none⟩) hbl3).trans hd1
        have Hcell3 := Lib.hid hcell3
        have Hp := Lib.hid hp
        have Htk : Hid ((ps.take (n + 1)).reverse = p :: (ps.take n).reverse) := by
          show (ps.take (n + 1)).reverse = _
          rw [List.getElem?_eq_getElem hlt, Option.some.injEq] at hp
          rw [List.take_succ_eq_append_getElem hlt, hp, List.reverse_append]
          rfl
        obtain ⟨pk, pv⟩ := p
        have hn0 : (0 : Int) ≤ (n : Int) := Int.natCast_nonneg _
        have hn3 : (n : Int) < (ps.length : Int) := by omega
        clear hcell3 hp
        by_cases hrep : ∃ n' qk qv, n = n' + 1 ∧ ps[n']? = some (qk, qv) ∧ qk = pk
        · obtain ⟨n', qk, qv, rfl, hq, rfl⟩ := hrep
          obtain ⟨hf0, _⟩ := pair_at Hcell3.out hq
          replace hf0 := (hnx.cell (p := ⟨b3, off3 + n' * 2, none⟩) hbl3).trans hf0
          clear hq
          have hgt : decide ((0 : Int) < ((n' + 1 : Nat) : Int)) = true := by simp
          go_wp2_with fail
          go_quiet (fail)
          go_wp2_with fail
          have hbq : Below w.heap.size w (wr.drewN nq) := hb0r.trans ⟨rfl, rfl, rfl, Nat.le_refl _, fun _ _ => rfl⟩
          refine (wakes_ok _ (ht.up hbq)).mono ?_
          rintro e w7 ⟨rfl, hb7⟩
          go_wp2_with fail
          go_ret
          exact ⟨rfl, hbq.trans (hb7.mono hbq.size)⟩
        · have Hmore : Hid (Srt (ps.take (n + 1))) := srt_more Hweak.out Hsr.out Hp.out (fun q h0 hq e => hrep ⟨n - 1, q.1, q.2, by omega, hq, e⟩)
          go_upto_region 12 with (fail)
          go_cut [58] (fun b wx => b = .bool false ∧ ∃ m, wx = wr.drewN m)
          case first =>
            cases n with
            | zero =>
              go_quiet (fail)
              go_wp2_with fail
              go_meet
              exact ⟨rfl, _, rfl⟩
            | succ n' =>
              obtain ⟨q, hq⟩ : ∃ q, ps[n']? = some q := ⟨_, List.getElem?_eq_getElem (by omega)⟩
              obtain ⟨qk, qv⟩ := q
              have hkk : (pk == qk) = false := by
                rw [beq_eq_false_iff_ne]
                intro e
                exact hrep ⟨n', qk, qv, rfl, hq, e.symm⟩
              obtain ⟨hf0, _⟩ := pair_at Hcell3.out hq
              replace hf0 := (hnx.cell (p := ⟨b3, off3 + n' * 2, none⟩) hbl3).trans hf0
              clear hq hrep
              have hgt : decide ((0 : Int) < ((n' + 1 : Nat) : Int)) = true := by simp
              go_quiet (fail)
              go_wp2_with fail
              go_meet
              exact ⟨rfl, _, rfl⟩
          case rest =>
            obtain ⟨rfl, m, rfl⟩ := hcut
            have hown2 : (wr.drewN m).ownsRow w6.heap.size 69 2 u10 n ((ps.take n).reverse.flatMap pairCells) := hown
            have hnx2 : Below w6.heap.size w6 (wr.drewN m) := hnx.trans ⟨rfl, rfl, rfl, Nat.le_refl _, fun _ _ => rfl⟩
            have he0 : (wr.drewN m).cell? ⟨b3, off3 + n * 2, none⟩ = some (encStr pk) := hd0
            have he1 : (wr.drewN m).cell? ⟨b3, off3 + n * 2 + 1, none⟩ = some (encStr pv) := hd1
            have hm3 := hnx2.size
            clear hrep hown hnx hd0 hd1 hb0r
            generalize wr.drewN m = W at *
            have m1 : 1 + n ≤ maxLen := by simp only [maxLen]; omega
            have m2 : (1 + n) * 32 ≤ 140737488355328 := by omega
            have hrow : Row (W.alloc (.cells #[encStr pk, encStr pv] 69)) u10 n 2 ((ps.take n).reverse.flatMap pairCells) := Row.of_own (hown2.alloc _)
            have Hrow := Lib.hid hrow
            clear hrow
            go_wp2_with (at_builtin; refine wpList_append_row _ rfl (.tmp 64) (.tmp 65) 45 rfl w6.heap.size 69 i0 _ 2 32 Tryd.underlying45 hi hz0 hz1 hz2 rfl (by decide) _ 1 _ rfl (own_new W hm3 pk pv) _ n _ rfl Hrow.out (pairs_one _) m1 m2 (by simp; omega) ?_; intro v7 w7 hown7 hg7 hat7)
            go_roundw
            case rel =>
              refine ⟨n + 1, by omega, by go_num, Hmore, ?_, ?_⟩
              · rw [Htk.out, Nat.add_comm n 1]
                exact hown7
              · exact (hnx2.alloc hm3 _).grown hg7 (by simp; omega) (fun j hj => by cases hj; exact hm3)
            case measure => simp [intOf]; omega
      · obtain rfl : n = ps.length := by omega
        rw [List.take_length] at hown Hsr
        have hrow : Prs wr u10 ps.reverse := by
          have := Row.of_own hown
          unfold Prs
          rw [List.length_reverse]
          exact this
        go_wp2_with fail
        refine (adds_ok _ ps.reverse wr hrow (by simp; omega)).mono ?_
        rintro e w7 ⟨v7, rfl, hv7, hb7⟩
        have hb07 : Below w.heap.size w w7 := hb0r.trans (hb7.mono hb0r.size)
        go_wp2_with fail
        refine (calls_ok v7 (addsE ps.reverse) w7 hv7 (by have := (adds_rev Hoks.out).len; omega)).mono ?_
        rintro e w8 ⟨v8, rfl, hv8, hb8⟩
        have hb08 : Below w.heap.size w w8 := hb07.trans (hb8.mono hb07.size)
        go_wp2_with fail
        refine (encode_ok _ v8 [] (addsE ps.reverse) w8 (ents_nil _) hv8 (ht.up hb08) (Ok.nil 0 B) (adds_rev Hoks.out) (by omega) (by omega)).mono ?_
        rintro e w9 ⟨rfl, hb9⟩
        rw [made_turned Hsr.out, Henc.out]
        have hb09 : Below w.heap.size w w9 := hb08.trans (hb9.mono hb08.size)
        go_wp2_with fail
        refine (wakes_ok _ (ht.up hb09)).mono ?_
        rintro e w10 ⟨rfl, hb10⟩
        go_wp2_with fail
        go_ret
        exact ⟨rfl, hb09.trans (hb10.mono hb09.size)⟩

end Go.Proofs.YtjgjiaflccdflaaDoor
