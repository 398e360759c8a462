/-
  The walk of laws.FnEncodeWithout. Conditions: the package's table; the sizes that the bulk's bound gives.
-/
import Derived.Test.YtjgjiaflccdflaaDoorGot
import Derived.Test.YtjgjiaflccdflaaDoorSplit
import Derived.Test.YtjgjiaflccdflaaDoorPlainE
namespace Go.Proofs.YtjgjiaflccdflaaDoor
open Go.RowKit Go.Maps

theorem bs_beq {a b : Bs} (h : a ≠ b) : (a == b) = false := by simpa using h

set_option maxRecDepth 100000 in
set_option maxHeartbeats 1000000 in
theorem without_walk (v sv : Value) (es : List Ent) (ss : List Stp) (key : Bs) (w : World) (h : Ents w v es) (hst : Stps w sv ss) (ht : Tab w) {A B K : Nat} (hA : Ok A B es) (hK : OkS K B ss) (hkey : key.length ≤ 1048576) (hs : A + K ≤ 1048576) (hB : B ≤ 1048576) :
    Calls Tryd.prog 16 #[v, sv, encStr key] w fun e w' => e = .returned (.bool true) ∧ Below w.heap.size w w' := by
  obtain ⟨i0, hi, hz0, hz1, hz2⟩ := info_parts Tryd.info70
  have hok := hA.run hK
  obtain ⟨tt, htt⟩ : ∃ tt : List Stp, tt = ss ++ [⟨3, key, []⟩] := ⟨_, rfl⟩
  have Htt := Lib.hid htt
  have hK2 : OkS (K + 1) 1048576 tt := by
    rw [htt]
    exact (hK.mono (Nat.le_refl _) hB).append ⟨by simp, by simpa using hkey, by simp⟩
  clear htt
  have hA2 : Ok A 1048576 es := hA.mono (Nat.le_refl _) hB
  have hok2 := hA2.run hK2
  have hsl := hK.len
  have hel := hA.len
  go_enter Tryd.func16, Tryd.ntmps16
  cases hkn : ss.all knownE with
  | false =>
    go_wp2_with (go_at_call 19; refine (steps_ok sv ss w hst (by omega)).mono ?_; rintro e w1 ⟨v1, rfl, hv1, hb1⟩; rw [hkn])
    go_ret
    exact ⟨rfl, hb1⟩
  | true =>
    go_wp2_with fail
    refine (steps_ok sv ss w hst (by omega)).mono ?_
    rintro e w1 ⟨v1, rfl, hv1, hb1⟩
    rw [hkn]
    have hsz1 := hb1.size
    have m1 : 0 + ss.length ≤ maxLen := by simp only [maxLen]; omega
    have m2 : (0 + ss.length) * 40 ≤ 140737488355328 := by omega
    have m3 : ss.length + 1 ≤ maxLen := by simp only [maxLen]; omega
    have m4 : (ss.length + 1) * 40 ≤ 140737488355328 := by omega
    have Hs1 := Lib.hid (hst.up hb1)
    go_wp2_with (first
      | (at_builtin; refine wpList_append_row _ rfl (.tmp 23) (.tmp 24) 29 rfl w.heap.size 70 i0 _ 3 40 Tryd.underlying29 hi hz0 hz1 hz2 rfl (by decide) (.slice none 0 0) 0 [] rfl (World.ownsRow_nil _ _ _ _) sv ss.length _ rfl Hs1.out (steps_one ss) m1 m2 hsz1 ?_; intro v3 w3 hown3 hg3 hat3; simp only [Nat.zero_add, List.nil_append] at hown3; have hb03 : Below w.heap.size w w3 := hb1.grown hg3 hsz1 (fun j hj => by cases hj); have hsz3 := hb03.size)
      | (at_builtin; refine wpList_append_own_at _ rfl _ _ 29 rfl w.heap.size 70 i0 _ 3 40 Tryd.underlying29 hi hz0 hz1 hz2 rfl (by decide) _ _ _ rfl (hown3.alloc _) ⟨w3.heap.size, 0, none⟩ 1 1 [.int .i64 3, encStr key, encStr []] rfl rfl (World.news_of_block (cs := #[.int .i64 3, encStr key, encStr []]) (t := 70) (fr := (0, 0)) (heap_alloc_new w3 _)) (by simp [Value.oneCell']) m3 m4 (by simp; omega) ?_; intro v4 w4 hown4 hgrow4 hnil4 hloc4))
    have hb04 : Below w.heap.size w w4 := (hb03.alloc hsz3 _).grown hgrow4 (by simp; omega) (fun j hj => (hown3.lt j hj).1)
    have Hs4 : Stps w4 v4 tt := by
      have hr := Row.of_own hown4
      rw [Htt.out]
      unfold Stps
      rw [List.flatMap_append, List.length_append]
      exact hr
    refine (encode_ok v sv es ss w4 (h.up hb04) (hst.up hb04) (ht.up hb04) hA hK (by omega) (by omega)).mono ?_
    rintro e w5 ⟨rfl, hb5⟩
    have hb05 : Below w.heap.size w w5 := hb04.trans (hb5.mono hb04.size)
    go_wp2_with fail
    refine (got_ok (runE es ss) w5 (ht.up hb05) hok (by omega) (by omega)).mono ?_
    rintro e w6 ⟨v6, rfl, hv6, hb6⟩
    have hb06 : Below w.heap.size w w6 := hb05.trans (hb6.mono hb05.size)
    have hb46 : Below w4.heap.size w4 w6 := hb5.trans (hb6.mono hb5.size)
    go_wp2_with fail
    refine (encode_ok v v4 es tt w6 (h.up hb06) (Hs4.up hb46) (ht.up hb06) hA2 hK2 (by omega) (by omega)).mono ?_
    rintro e w7 ⟨rfl, hb7⟩
    have hb07 : Below w.heap.size w w7 := hb06.trans (hb7.mono hb06.size)
    go_wp2_with fail
    refine (got_ok (runE es tt) w7 (ht.up hb07) hok2 (by omega) (by omega)).mono ?_
    rintro e w8 ⟨v8, rfl, hv8, hb8⟩
    have hb08 : Below w.heap.size w w8 := hb07.trans (hb8.mono hb07.size)
    have hb68 : Below w6.heap.size w6 w8 := hb7.trans (hb8.mono hb7.size)
    have hg6 := hv6.up hb68
    rw [Htt.out, pairs_del] at hv8
    have hpn : (pairsE (runE es ss)).length ≤ 1048576 := by have := hok.pairs; omega
    have hqn := List.length_filter_le (fun p => !(p.1 == key)) (pairsE (runE es ss))
    clear hv6 hok hok2 hv1
    generalize pairsE (runE es ss) = ps at *
    obtain ⟨qs, hqs⟩ : ∃ qs, qs = ps.filter fun p => !(p.1 == key) := ⟨_, rfl⟩
    rw [← hqs] at hv8 hqn
    have Hqs := Lib.hid hqs
    obtain ⟨_, A6, c6, rfl, hc6, hx6⟩ := hg6
    obtain ⟨_, A8, c8, rfl, hc8, hx8⟩ := hv8
    have Hx6 := Lib.hid hx6
    have Hx8 := Lib.hid hx8
    clear hx6 hx8 hqs
    go_wp2_with fail
    go_loopw [14, 15] (fun k i wr => ∃ n : Nat, n ≤ ps.length ∧ i = .int .i64 n ∧ k = .int .i64 ((ps.take n).filter fun p => !(p.1 == key)).length ∧ Below w8.heap.size w8 wr) (fun _ i _ => ps.length - (intOf i).toNat)
    case atStart => exact ⟨0, Nat.zero_le _, rfl, rfl, Below.refl _ _⟩
    case round =>
      obtain ⟨n, hn, rfl, rfl, hnx⟩ := hrel
      have hb0r : Below w.heap.size w wr := hb08.trans (hnx.mono hb08.size)
      by_cases hlt : n < ps.length
      · obtain ⟨b6, off6, rfl, hbl6, hcell6⟩ := Hx6.out (by omega)
        obtain ⟨p, hp⟩ : ∃ p, ps[n]? = some p := ⟨_, List.getElem?_eq_getElem hlt⟩
        obtain ⟨hd0, hd1⟩ := pair_at hcell6 hp
        replace hd0 := (hnx.cell (p := ⟨b6, off6 + n * 2, none⟩) hbl6).trans hd0
        replace hd1 := (hnx.cell (p := ⟨b6, off6 + n * 2 + 1, none⟩) hbl6).trans hd1
        have Hst := Lib.hid (filter_step (fun p => !(p.1 == key)) hp)
        have Hat := Lib.hid (fun h => filter_at (fun p => !(p.1 == key)) (l := ps) (i := n) (p := p) hp h)
        rw [← Hqs.out] at Hat
        generalize ((ps.take n).filter fun p => !(p.1 == key)).length = k at *
        obtain ⟨pk, pv⟩ := p
        have hn0 : (0 : Int) ≤ (n : Int) := Int.natCast_nonneg _
        have hn3 : (n : Int) < (ps.length : Int) := by omega
        clear hcell6 hp
        by_cases hkk : pk = key
        · subst hkk
          go_wp2_with fail
          go_roundw
          case rel => exact ⟨n + 1, by omega, by go_num, by rw [Hst.out]; simp, hnx⟩
          case measure => simp [intOf]; omega
        · have hkf := bs_beq hkk
          have hat := Hat.out (by simp [hkf])
          have hkl : k < qs.length := (List.getElem?_eq_some_iff.1 hat).1
          obtain ⟨b8, off8, rfl, hbl8, hcell8⟩ := Hx8.out (by omega)
          obtain ⟨he0, he1⟩ := pair_at hcell8 hat
          replace he0 := (hnx.cell (p := ⟨b8, off8 + k * 2, none⟩) hbl8).trans he0
          replace he1 := (hnx.cell (p := ⟨b8, off8 + k * 2 + 1, none⟩) hbl8).trans he1
          have hk0 : (0 : Int) ≤ (k : Int) := Int.natCast_nonneg _
          have hk3 : (k : Int) < (qs.length : Int) := by omega
          have hkne : ((k : Int) == (qs.length : Int)) = false := by rw [beq_eq_false_iff_ne]; omega
          clear hcell8 hat Hat hkk
          go_wp2_with fail
          go_quiet (fail)
          go_wp2_with fail
          go_roundw
          case rel => exact ⟨n + 1, by omega, by go_num, by rw [Hst.out]; simp [hkf], hnx.trans ⟨rfl, rfl, rfl, Nat.le_refl _, fun _ _ => rfl⟩⟩
          case measure => simp [intOf]; omega
      · obtain rfl : n = ps.length := by omega
        rw [List.take_length, ← Hqs.out]
        go_wp2_with fail
        refine (wakes_ok _ (ht.up hb0r)).mono ?_
        rintro e w9 ⟨rfl, hb9⟩
        go_wp2_with fail
        go_ret
        exact ⟨rfl, hb0r.trans (hb9.mono hb0r.size)⟩

end Go.Proofs.YtjgjiaflccdflaaDoor
