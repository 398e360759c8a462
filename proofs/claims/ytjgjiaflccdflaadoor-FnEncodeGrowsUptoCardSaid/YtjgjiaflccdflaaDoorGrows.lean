/-
  The walk of laws.FnEncodeGrows. Conditions: the package's table; the sizes that the bulk's bound gives.
-/
import Derived.Test.YtjgjiaflccdflaaDoorGot
import Derived.Test.YtjgjiaflccdflaaDoorSplit
import Derived.Test.YtjgjiaflccdflaaDoorPlainE
namespace Go.Proofs.YtjgjiaflccdflaaDoor
open Go.RowKit Go.Maps

theorem bs_beq' {a b : Bs} (h : a ≠ b) : (a == b) = false := by simpa using h

theorem grow_get {ps : List (Bs × Bs)} {x : Bs × Bs} {at_ i : Nat} (hat : at_ ≤ ps.length) :
    (i < at_ → (ps.take at_ ++ x :: ps.drop at_)[i]? = ps[i]?) ∧ (i = at_ → (ps.take at_ ++ x :: ps.drop at_)[i]? = some x) ∧ (at_ < i → (ps.take at_ ++ x :: ps.drop at_)[i]? = ps[i - 1]?) := by
  have hl : (ps.take at_).length = at_ := by rw [List.length_take]; omega
  refine ⟨fun h => ?_, fun h => ?_, fun h => ?_⟩
  · rw [List.getElem?_append_left (by omega), List.getElem?_take_of_lt h]
  · subst h
    rw [List.getElem?_append_right (by omega), hl, Nat.sub_self]
    rfl
  · rw [List.getElem?_append_right (by omega), hl, show i - at_ = (i - 1 - at_) + 1 by omega, List.getElem?_cons_succ, List.getElem?_drop]
    congr 1
    omega

set_option maxRecDepth 100000 in
set_option maxHeartbeats 1000000 in
theorem grows_walk (v sv : Value) (es : List Ent) (ss : List Stp) (key val : Bs) (w : World) (h : Ents w v es) (hst : Stps w sv ss) (ht : Tab w) {A B K : Nat} (hA : Ok A B es) (hK : OkS K B ss) (hkey : key.length ≤ 1048576) (hval : val.length ≤ 1048576) (hs : A + K ≤ 1048576) (hB : B ≤ 1048576) :
    Calls Tryd.prog 13 #[v, sv, encStr key, encStr val] w fun e w' => e = .returned (.bool true) ∧ Below w.heap.size w w' := by
  obtain ⟨i0, hi, hz0, hz1, hz2⟩ := info_parts Tryd.info70
  have hok := hA.run hK
  obtain ⟨tt, htt⟩ : ∃ tt : List Stp, tt = ss ++ [⟨1, key, val⟩] := ⟨_, rfl⟩
  have Htt := Lib.hid htt
  have hK2 : OkS (K + 1) 1048576 tt := by
    rw [htt]
    exact (hK.mono (Nat.le_refl _) hB).append ⟨by simp, by simpa using hkey, by simpa using hval⟩
  clear htt
  have hA2 : Ok A 1048576 es := hA.mono (Nat.le_refl _) hB
  have hok2 := hA2.run hK2
  have hsl := hK.len
  have hel := hA.len
  go_enter Tryd.func13, Tryd.ntmps13
  cases hkn : ss.all knownE with
  | false =>
    go_wp2_with (go_at_call 19; refine (steps_ok sv ss w hst (by omega)).mono ?_; rintro e w1 ⟨v1, rfl, hv1, hb1⟩; rw [hkn])
    go_ret
    exact ⟨rfl, hb1⟩
  | true =>
    go_wp2_with fail
    refine (steps_ok sv ss w hst (by omega)).mono ?_
    rintro e w1 ⟨v1, rfl, hv1, hb1⟩
    rw [hkn]
    have hsz1 := hb1.size
    have m1 : 0 + ss.length ≤ maxLen := by simp only [maxLen]; omega
    have m2 : (0 + ss.length) * 40 ≤ 140737488355328 := by omega
    have m3 : ss.length + 1 ≤ maxLen := by simp only [maxLen]; omega
    have m4 : (ss.length + 1) * 40 ≤ 140737488355328 := by omega
    have Hs1 := Lib.hid (hst.up hb1)
    go_wp2_with (first
      | (at_builtin; refine wpList_append_row _ rfl (.tmp 26) (.tmp 27) 29 rfl w.heap.size 70 i0 _ 3 40 Tryd.underlying29 hi hz0 hz1 hz2 rfl (by decide) (.slice none 0 0) 0 [] rfl (World.ownsRow_nil _ _ _ _) sv ss.length _ rfl Hs1.out (steps_one ss) m1 m2 hsz1 ?_; intro v3 w3 hown3 hg3 hat3; simp only [Nat.zero_add, List.nil_append] at hown3; have hb03 : Below w.heap.size w w3 := hb1.grown hg3 hsz1 (fun j hj => by cases hj); have hsz3 := hb03.size)
      | (at_builtin; refine wpList_append_own_at _ rfl _ _ 29 rfl w.heap.size 70 i0 _ 3 40 Tryd.underlying29 hi hz0 hz1 hz2 rfl (by decide) _ _ _ rfl (hown3.alloc _) ⟨w3.heap.size, 0, none⟩ 1 1 [.int .i64 1, encStr key, encStr val] rfl rfl (World.news_of_block (cs := #[.int .i64 1, encStr key, encStr val]) (t := 70) (fr := (0, 0)) (heap_alloc_new w3 _)) (by simp [Value.oneCell']) m3 m4 (by simp; omega) ?_; intro v4 w4 hown4 hgrow4 hnil4 hloc4))
    have hb04 : Below w.heap.size w w4 := (hb03.alloc hsz3 _).grown hgrow4 (by simp; omega) (fun j hj => (hown3.lt j hj).1)
    have Hs4 : Stps w4 v4 tt := by
      have hr := Row.of_own hown4
      rw [Htt.out]
      unfold Stps
      rw [List.flatMap_append, List.length_append]
      exact hr
    refine (encode_ok v sv es ss w4 (h.up hb04) (hst.up hb04) (ht.up hb04) hA hK (by omega) (by omega)).mono ?_
    rintro e w5 ⟨rfl, hb5⟩
    have hb05 : Below w.heap.size w w5 := hb04.trans (hb5.mono hb04.size)
    go_wp2_with fail
    refine (got_ok (runE es ss) w5 (ht.up hb05) hok (by omega) (by omega)).mono ?_
    rintro e w6 ⟨v6, rfl, hv6, hb6⟩
    have hb06 : Below w.heap.size w w6 := hb05.trans (hb6.mono hb05.size)
    have hb46 : Below w4.heap.size w4 w6 := hb5.trans (hb6.mono hb5.size)
    go_wp2_with fail
    refine (encode_ok v v4 es tt w6 (h.up hb06) (Hs4.up hb46) (ht.up hb06) hA2 hK2 (by omega) (by omega)).mono ?_
    rintro e w7 ⟨rfl, hb7⟩
    have hb07 : Below w.heap.size w w7 := hb06.trans (hb7.mono hb06.size)
    go_wp2_with fail
    refine (got_ok (runE es tt) w7 (ht.up hb07) hok2 (by omega) (by omega)).mono ?_
    rintro e w8 ⟨v8, rfl, hv8, hb8⟩
    have hb08 : Below w.heap.size w w8 := hb07.trans (hb8.mono hb07.size)
    have hb68 : Below w6.heap.size w6 w8 := hb7.trans (hb8.mono hb7.size)
    have hg6 := hv6.up hb68
    rw [Htt.out, pairs_grow] at hv8
    have hpn : (pairsE (runE es ss)).length ≤ 1048576 := by have := hok.pairs; omega
    clear hv6 hok hok2 hv1
    generalize pairsE (runE es ss) = ps at *
    have hatl := at_le ps key
    have Hstep := Lib.hid (fun i p (hp : ps[i]? = some p) (hi : i ≤ atE ps key) => at_step (k := key) hp hi)
    have Hget := Lib.hid (fun i => grow_get (ps := ps) (x := (key, val)) (at_ := atE ps key) (i := i) hatl)
    generalize atE ps key = at_ at *
    obtain ⟨qs, hqs⟩ : ∃ qs, qs = ps.take at_ ++ (key, val) :: ps.drop at_ := ⟨_, rfl⟩
    rw [← hqs] at hv8 Hget
    have hql : qs.length = ps.length + 1 := by rw [hqs]; simp; omega
    obtain ⟨_, A6, c6, rfl, hc6, hx6⟩ := hg6
    obtain ⟨_, A8, c8, rfl, hc8, hx8⟩ := hv8
    have Hx6 := Lib.hid hx6
    have Hx8 := Lib.hid hx8
    have Hql := Lib.hid hql
    rw [hql]
    clear hx6 hx8 hqs hql
    go_wp2_with fail
    go_loopw [16] (fun i wr => ∃ n : Nat, n ≤ at_ ∧ i = .int .i64 n ∧ wr = w8) (fun i _ => at_ - (intOf i).toNat)
    case atStart => exact ⟨0, Nat.zero_le _, rfl, rfl⟩
    case round =>
      obtain ⟨n, hn, rfl, hwr⟩ := hrel
      subst wr
      by_cases hfin : n < at_
      · have hlt : n < ps.length := by omega
        obtain ⟨b6, off6, rfl, hbl6, hcell6⟩ := Hx6.out (by omega)
        obtain ⟨p, hp⟩ : ∃ p, ps[n]? = some p := ⟨_, List.getElem?_eq_getElem hlt⟩
        obtain ⟨hd0, hd1⟩ := pair_at hcell6 hp
        have hstep := Hstep.out n p hp hn
        obtain ⟨pk, pv⟩ := p
        have hkk : ¬ key < pk := fun hkk => by rw [if_pos hkk] at hstep; omega
        have hle : (Op.bytesLess pk key || pk == key) = true := by
          rw [bytesLess_eq]
          by_cases e : pk = key
          · simp [e]
          · rw [decide_eq_true (bs_total hkk (fun e' => e e'.symm))]; rfl
        clear hcell6 hp hstep hkk
        go_wp2_with fail
        go_roundw
        case rel => exact ⟨n + 1, by omega, by go_num, by trivial⟩
        case measure => simp [intOf]; omega
      · obtain rfl : n = at_ := by omega
        go_upto_region 12 with (fail)
        go_cut [75] (fun b wx => b = .bool false ∧ wx = w8)
        case first =>
          by_cases hlt : n < ps.length
          · obtain ⟨b6, off6, rfl, hbl6, hcell6⟩ := Hx6.out (by omega)
            obtain ⟨p, hp⟩ : ∃ p, ps[n]? = some p := ⟨_, List.getElem?_eq_getElem hlt⟩
            obtain ⟨hd0, hd1⟩ := pair_at hcell6 hp
            have hstep := Hstep.out n p hp hn
            obtain ⟨pk, pv⟩ := p
            have hkk : key < pk := by
              by_cases hkk : key < pk
              · exact hkk
              · rw [if_neg hkk] at hstep; omega
            have hle : (Op.bytesLess pk key || pk == key) = false := by
              rw [bytesLess_eq, decide_eq_false (bs_asymm hkk), bs_beq' (fun e => bs_ne hkk e.symm)]; rfl
            clear hcell6 hp hstep hkk
            go_wp2_with fail
            go_meet
            exact ⟨rfl, rfl⟩
          · go_wp2_with fail
            go_meet
            exact ⟨rfl, rfl⟩
        case rest =>
          obtain ⟨rfl, hwc⟩ := hcut
          subst wc
          go_wp2_with fail
          go_loopw [17] (fun i wr => ∃ m : Nat, m ≤ ps.length + 1 ∧ i = .int .i64 m ∧ Below w8.heap.size w8 wr) (fun i _ => ps.length + 1 - (intOf i).toNat)
          case atStart => exact ⟨0, Nat.zero_le _, rfl, Below.refl _ _⟩
          case round =>
            obtain ⟨m, hm, rfl, hnx⟩ := hrel
            have hb0r : Below w.heap.size w wr := hb08.trans (hnx.mono hb08.size)
            have hm3 := hnx.size
            by_cases hlt : m < ps.length + 1
            · obtain ⟨b8, off8, rfl, hbl8, hcell8⟩ := Hx8.out (by rw [Hql.out]; omega)
              obtain ⟨q, hq⟩ : ∃ q, qs[m]? = some q := ⟨_, List.getElem?_eq_getElem (by rw [Hql.out]; exact hlt)⟩
              obtain ⟨he0, he1⟩ := pair_at hcell8 hq
              have Hcmp := Lib.hid (Hget.out m)
              have hbr8 : b8 < wr.heap.size := by omega
              replace he0 := (hnx.cell (p := ⟨b8, off8 + m * 2, none⟩) hbl8).trans he0
              replace he1 := (hnx.cell (p := ⟨b8, off8 + m * 2 + 1, none⟩) hbl8).trans he1
              rcases Nat.lt_trichotomy m n with hmn | hmn | hmn
              · obtain ⟨b6, off6, rfl, hbl6, hcell6⟩ := Hx6.out (by omega)
                have hp := Hcmp.out.1 hmn
                rw [hq] at hp
                obtain ⟨hd0, hd1⟩ := pair_at hcell6 hp.symm
                replace hd0 := (hnx.cell (p := ⟨b6, off6 + m * 2, none⟩) hbl6).trans hd0
                replace hd1 := (hnx.cell (p := ⟨b6, off6 + m * 2 + 1, none⟩) hbl6).trans hd1
                obtain ⟨pk, pv⟩ := q
                clear hcell6 hcell8 hp hq
                have hbr6 : b6 < wr.heap.size := by omega
                have hq0 := fun o => (World.cell?_alloc_lt wr o ⟨b6, off6 + m * 2, none⟩ hbr6).trans hd0
                have hq1 := fun o => (World.cell?_alloc_lt wr o ⟨b6, off6 + m * 2 + 1, none⟩ hbr6).trans hd1
                have hk0 : (0 : Int) ≤ (m : Int) := Int.natCast_nonneg _
                have hk3 : (m : Int) < (ps.length : Int) + 1 := by omega
                go_wp2_with fail
                clear hq0 hq1
                have hba : Below wr.heap.size wr (wr.alloc (.cells #[.string ⟨pk.toArray⟩, .string ⟨pv.toArray⟩] 69)) := (Below.refl _ _).alloc (Nat.le_refl _) _
                replace he0 := (hba.cell (p := ⟨b8, off8 + m * 2, none⟩) hbr8).trans he0
                replace he1 := (hba.cell (p := ⟨b8, off8 + m * 2 + 1, none⟩) hbr8).trans he1
                have hn0 : (wr.alloc (.cells #[.string ⟨pk.toArray⟩, .string ⟨pv.toArray⟩] 69)).cell? ⟨wr.heap.size, 0, none⟩ = some (encStr pk) := by rw [World.cell?_alloc_mark]; rfl
                have hn1 : (wr.alloc (.cells #[.string ⟨pk.toArray⟩, .string ⟨pv.toArray⟩] 69)).cell? ⟨wr.heap.size, 1, none⟩ = some (encStr pv) := by rw [World.cell?_alloc_mark]; rfl
                have hbw := hnx.trans (hba.mono hm3)
                clear hba
                generalize wr.alloc (.cells #[.string ⟨pk.toArray⟩, .string ⟨pv.toArray⟩] 69) = W at *
                generalize wr.heap.size = N at *
                go_quiet (fail)
                go_wp2_with fail
                go_roundw
                case rel => exact ⟨m + 1, by omega, by go_num, hbw.trans ⟨rfl, rfl, rfl, Nat.le_refl _, fun _ _ => rfl⟩⟩
                case measure => simp [intOf]; omega
              · subst hmn
                have hp := Hcmp.out.2.1 rfl
                rw [hq, Option.some.injEq] at hp
                subst hp
                clear hcell8 hq
                have hk0 : (0 : Int) ≤ (m : Int) := Int.natCast_nonneg _
                have hk3 : (m : Int) < (ps.length : Int) + 1 := by omega
                go_wp2_with fail
                have hba : Below wr.heap.size wr (wr.alloc (.cells #[.string ⟨key.toArray⟩, .string ⟨val.toArray⟩] 69)) := (Below.refl _ _).alloc (Nat.le_refl _) _
                replace he0 := (hba.cell (p := ⟨b8, off8 + m * 2, none⟩) hbr8).trans he0
                replace he1 := (hba.cell (p := ⟨b8, off8 + m * 2 + 1, none⟩) hbr8).trans he1
                have hn0 : (wr.alloc (.cells #[.string ⟨key.toArray⟩, .string ⟨val.toArray⟩] 69)).cell? ⟨wr.heap.size, 0, none⟩ = some (encStr key) := by rw [World.cell?_alloc_mark]; rfl
                have hn1 : (wr.alloc (.cells #[.string ⟨key.toArray⟩, .string ⟨val.toArray⟩] 69)).cell? ⟨wr.heap.size, 1, none⟩ = some (encStr val) := by rw [World.cell?_alloc_mark]; rfl
                have hbw := hnx.trans (hba.mono hm3)
                clear hba
                generalize wr.alloc (.cells #[.string ⟨key.toArray⟩, .string ⟨val.toArray⟩] 69) = W at *
                generalize wr.heap.size = N at *
                go_quiet (fail)
                go_wp2_with fail
                go_roundw
                case rel => exact ⟨m + 1, by omega, by go_num, hbw.trans ⟨rfl, rfl, rfl, Nat.le_refl _, fun _ _ => rfl⟩⟩
                case measure => simp [intOf]; omega
              · obtain ⟨m', rfl⟩ : ∃ m', m = m' + 1 := ⟨m - 1, by omega⟩
                obtain ⟨b6, off6, rfl, hbl6, hcell6⟩ := Hx6.out (by omega)
                have hp := Hcmp.out.2.2 hmn
                rw [hq, Nat.add_sub_cancel] at hp
                obtain ⟨hd0, hd1⟩ := pair_at hcell6 hp.symm
                replace hd0 := (hnx.cell (p := ⟨b6, off6 + m' * 2, none⟩) hbl6).trans hd0
                replace hd1 := (hnx.cell (p := ⟨b6, off6 + m' * 2 + 1, none⟩) hbl6).trans hd1
                obtain ⟨pk, pv⟩ := q
                clear hcell6 hcell8 hp hq
                have hbr6 : b6 < wr.heap.size := by omega
                have hq0 := fun o => (World.cell?_alloc_lt wr o ⟨b6, off6 + m' * 2, none⟩ hbr6).trans hd0
                have hq1 := fun o => (World.cell?_alloc_lt wr o ⟨b6, off6 + m' * 2 + 1, none⟩ hbr6).trans hd1
                have hk0 : (0 : Int) ≤ (m' : Int) + 1 := by omega
                have hk3 : (m' : Int) + 1 < (ps.length : Int) + 1 := by omega
                go_wp2_with fail
                clear hq0 hq1
                have hba : Below wr.heap.size wr (wr.alloc (.cells #[.string ⟨pk.toArray⟩, .string ⟨pv.toArray⟩] 69)) := (Below.refl _ _).alloc (Nat.le_refl _) _
                replace he0 := (hba.cell (p := ⟨b8, off8 + (m' + 1) * 2, none⟩) hbr8).trans he0
                replace he1 := (hba.cell (p := ⟨b8, off8 + (m' + 1) * 2 + 1, none⟩) hbr8).trans he1
                have hn0 : (wr.alloc (.cells #[.string ⟨pk.toArray⟩, .string ⟨pv.toArray⟩] 69)).cell? ⟨wr.heap.size, 0, none⟩ = some (encStr pk) := by rw [World.cell?_alloc_mark]; rfl
                have hn1 : (wr.alloc (.cells #[.string ⟨pk.toArray⟩, .string ⟨pv.toArray⟩] 69)).cell? ⟨wr.heap.size, 1, none⟩ = some (encStr pv) := by rw [World.cell?_alloc_mark]; rfl
                have hbw := hnx.trans (hba.mono hm3)
                clear hba
                generalize wr.alloc (.cells #[.string ⟨pk.toArray⟩, .string ⟨pv.toArray⟩] 69) = W at *
                generalize wr.heap.size = N at *
                go_quiet (fail)
                go_wp2_with fail
                go_roundw
                case rel => exact ⟨(m' + 1) + 1, by omega, by go_num, hbw.trans ⟨rfl, rfl, rfl, Nat.le_refl _, fun _ _ => rfl⟩⟩
                case measure => simp [intOf]; omega
            · obtain rfl : m = ps.length + 1 := by omega
              go_wp2_with fail
              refine (wakes_ok _ (ht.up hb0r)).mono ?_
              rintro e w9 ⟨rfl, hb9⟩
              go_wp2_with fail
              go_ret
              exact ⟨rfl, hb0r.trans (hb9.mono hb0r.size)⟩

end Go.Proofs.YtjgjiaflccdflaaDoor
