/-
  The walk of laws.FnRunBack. Conditions: the package's table; the sizes that the bulk's bound gives.
-/
import Derived.Test.YtjgjiaflccdflaaDoorPairs
import Derived.Test.YtjgjiaflccdflaaDoorSplit
import Derived.Test.YtjgjiaflccdflaaDoorScrA
import Derived.Test.YtjgjiaflccdflaaDoorPlainD
import Derived.Test.YtjgjiaflccdflaaDoorPlainC
namespace Go.Proofs.YtjgjiaflccdflaaDoor
open Go.RowKit Go.Maps

theorem dels_snoc (l : List Stp) (s : Stp) : delsE (l ++ [s]) = delsE l ++ [⟨3, s.key, []⟩] := by simp [delsE]

theorem puts_len (ss : List Stp) : ∀ (was : List Ent), (was.flatMap (putE ss)).length ≤ (pairsE was).length
  | [] => Nat.le_refl _
  | e :: r => by
    have ih := puts_len ss r
    rw [List.flatMap_cons, List.length_append, pairs_cons]
    have : (putE ss e).length ≤ e.2.length := by
      unfold putE
      split
      · exact Nat.zero_le _
      · simp [addsE, pairsE]
    omega

set_option maxRecDepth 100000 in
set_option maxHeartbeats 2000000 in
theorem back_walk (v sv : Value) (es : List Ent) (ss : List Stp) (w : World) (h : Ents w v es) (hst : Stps w sv ss) (ht : Tab w) {A B K : Nat} (hA : Ok A B es) (hK : OkS K B ss) (hs : A + K ≤ 1048576) (hB : B ≤ 1048576) :
    Calls Tryd.prog 5 #[v, sv] w fun e w' => e = .returned (.bool true) ∧ Below w.heap.size w w' := by
  obtain ⟨i0, hi, hz0, hz1, hz2⟩ := info_parts Tryd.info41
  have hsl := hK.len
  have hel := hA.len
  have htl := hA.tidy.len
  go_enter Tryd.func5, Tryd.ntmps5
  cases hkn : ss.all knownE with
  | false =>
    go_wp2_with (go_at_call 19; refine (steps_ok sv ss w hst (by omega)).mono ?_; rintro e w1 ⟨v1, rfl, hv1, hb1⟩; rw [hkn])
    go_ret
    exact ⟨rfl, hb1⟩
  | true =>
    go_wp2_with (go_at_call 19; refine (steps_ok sv ss w hst (by omega)).mono ?_; rintro e w1 ⟨v1, rfl, hv1, hb1⟩; rw [hkn])
    refine (entries_ok v es w1 (h.up hb1) (by omega)).mono ?_
    rintro e w2 ⟨v2, rfl, hv2, hb2⟩
    have hb02 : Below w.heap.size w w2 := hb1.trans (hb2.mono hb1.size)
    go_wp2_with fail
    refine (tidy_ok v2 es w2 hv2 (by omega) (fun q hq => by have := hA.vals q hq; omega)).mono ?_
    rintro e w3 ⟨v3, rfl, hv3, hb3⟩
    have hb03 : Below w.heap.size w w3 := hb02.trans (hb3.mono hb02.size)
    have hb13 : Below w1.heap.size w1 w3 := hb2.trans (hb3.mono hb2.size)
    have hss3 : Stps w3 v1 ss := hv1.up hb13
    have Hss := Lib.hid hss3
    obtain ⟨hl1, A1, c1, rfl, hc1, hx1⟩ := hss3
    have Hx1 := Lib.hid hx1
    have m1 : 0 + ss.length ≤ maxLen := by simp only [maxLen]; omega
    have m2 : (0 + ss.length) * 40 ≤ 140737488355328 := by omega
    clear hx1 hv1 hl1
    go_wp2_with (at_builtin; refine wpList_append_row _ rfl (.tmp 21) (.tmp 22) 30 rfl w3.heap.size 41 i0 _ 3 40 Tryd.underlying30 hi hz0 hz1 hz2 rfl (by decide) (.slice none 0 0) 0 [] rfl (World.ownsRow_nil _ _ _ _) _ ss.length _ rfl Hss.out (steps_one ss) m1 m2 (Nat.le_refl _) ?_; intro v4 w4 hown4 hg4 hat4; simp only [Nat.zero_add, List.nil_append] at hown4)
    have hb34 : Below w3.heap.size w3 w4 := (Below.refl _ _).grown hg4 (Nat.le_refl _) (fun j hj => by cases hj)
    go_loopw [8, 9] (fun o i wr => ∃ k : Nat, k ≤ ss.length ∧ i = .int .i64 k ∧ wr.ownsRow w3.heap.size 41 3 o (ss ++ delsE (ss.take k)).length ((ss ++ delsE (ss.take k)).flatMap stepCells) ∧ Below w3.heap.size w3 wr) (fun _ i _ => ss.length - (intOf i).toNat)
    case atStart => exact ⟨0, Nat.zero_le _, rfl, by simpa [delsE] using hown4, hb34⟩
    case round =>
      obtain ⟨k, hk, rfl, hown, hnx⟩ := hrel
      by_cases hlt : k < ss.length
      · obtain ⟨b, off, rfl, hbl, hcell⟩ := Hx1.out (by omega)
        obtain ⟨s, hp⟩ : ∃ s, ss[k]? = some s := ⟨_, List.getElem?_eq_getElem hlt⟩
        obtain ⟨_, hc1', _⟩ := step_at hcell hp
        replace hc1' := (hnx.cell (p := ⟨b, off + k * 3 + 1, none⟩) hbl).trans hc1'
        have Htk : Hid (ss ++ delsE (ss.take (k + 1)) = (ss ++ delsE (ss.take k)) ++ [⟨3, s.key, []⟩]) := by
          show ss ++ delsE (ss.take (k + 1)) = _
          rw [List.getElem?_eq_getElem hlt, Option.some.injEq] at hp
          rw [List.take_succ_eq_append_getElem hlt, hp, dels_snoc, List.append_assoc]
        have hll : (ss ++ delsE (ss.take k)).length ≤ ss.length + k := by
          have : (ss.take k).length ≤ k := List.length_take_le _ _
          simp only [List.length_append, delsE, List.length_map]
          omega
        generalize ss ++ delsE (ss.take k) = L at *
        obtain ⟨sk, skey, sval⟩ := s
        clear hcell hp
        have hm1 : L.length + 1 ≤ maxLen := by simp only [maxLen]; omega
        have hm2 : (L.length + 1) * 40 ≤ 140737488355328 := by omega
        have hm3 := hnx.size
        go_wp2_with (at_builtin; refine wpList_append_own_at _ rfl _ _ 30 rfl w3.heap.size 41 i0 _ 3 40 Tryd.underlying30 hi hz0 hz1 hz2 rfl (by decide) _ _ _ rfl (hown.alloc _) ⟨wr.heap.size, 0, none⟩ 1 1 [.int .i64 3, encStr skey, encStr []] rfl rfl (World.news_of_block (cs := #[.int .i64 3, encStr skey, encStr []]) (t := 41) (fr := (0, 0)) (heap_alloc_new wr _)) (by simp [Value.oneCell']) hm1 hm2 (by simp; omega) ?_; intro v' w5 hown' hgrow hnil hloc)
        go_roundw
        case rel =>
          refine ⟨k + 1, by omega, by go_num, ?_, (hnx.alloc hm3 _).grown hgrow (by simp; omega) (fun j hj => (hown.lt j hj).1)⟩
          rw [Htk.out, List.flatMap_append, List.length_append]
          exact hown'
        case measure => simp [intOf]; omega
      · obtain rfl : k = ss.length := by omega
        rw [List.take_length] at hown
        have hb0r : Below w.heap.size w wr := hb03.trans (hnx.mono hb03.size)
        obtain ⟨us, hin, hrw⟩ := hv3
        have Hrow := Lib.hid hrw
        obtain ⟨_, A3, c3, rfl, hnc3, hx3⟩ := hrw
        have Hin := Lib.hid hin
        have Hone := Lib.hid hin.slice
        have hul : us.length ≤ 1048576 := by rw [hin.len]; omega
        have Hel := Lib.hid hin.len
        have Hx3 := Lib.hid hx3
        have Hok := Lib.hid hA.tidy
        have hsw := hb34.size
        generalize hwas : tidyE es = was at *
        have Hwas := Lib.hid hwas
        clear hin hx3 hwas
        go_wp2_with fail
        go_loopw [8, 10] (fun o i wx => ∃ j : Nat, j ≤ us.length ∧ i = .int .i64 j ∧ Hid (∀ e ∈ was.take j, e.2 ≠ []) ∧ wx.ownsRow w3.heap.size 41 3 o (ss ++ delsE ss ++ (was.take j).flatMap (putE ss)).length ((ss ++ delsE ss ++ (was.take j).flatMap (putE ss)).flatMap stepCells) ∧ Below w3.heap.size w3 wx) (fun _ i _ => us.length - (intOf i).toNat)
        case atStart => exact ⟨0, Nat.zero_le _, rfl, fun e he => by simp at he, by simpa using hown, hnx⟩
        case round =>
          obtain ⟨j, hj, rfl, Hne, hownx, hnx2⟩ := hrel
          have hb0x : Below w.heap.size w wr := hb03.trans (hnx2.mono hb03.size)
          by_cases hjl : j < us.length
          · obtain ⟨b, off, rfl, hbl, hcell⟩ := Hx3.out (by omega)
            obtain ⟨kk, a2, n2, c2, hpk⟩ : ∃ kk a2 n2 c2, us[j]? = some (kk, .slice a2 n2 c2) := by
              obtain ⟨a2, n2, c2, h2⟩ := Hone.out us[j] (List.getElem_mem _)
              exact ⟨us[j].1, a2, n2, c2, by rw [List.getElem?_eq_getElem hjl, ← h2]⟩
            obtain ⟨hd0, hd1⟩ := ent_at hcell hpk
            obtain ⟨vs, hek, hstr⟩ := Hin.out.at_ hpk
            replace hd0 := (hnx2.cell (p := ⟨b, off + j * 2, none⟩) hbl).trans hd0
            replace hd1 := (hnx2.cell (p := ⟨b, off + j * 2 + 1, none⟩) hbl).trans hd1
            have hstrx := hstr.up hnx2
            obtain ⟨_, A4, c4, he4, _, _⟩ := hstr
            obtain ⟨rfl, rfl, rfl⟩ : a2 = A4 ∧ n2 = vs.length ∧ c2 = c4 := by simpa using he4
            clear hcell hpk he4
            by_cases hv0 : vs = []
            · subst hv0
              go_wp2_with fail
              go_ret
              exact ⟨rfl, hb0x⟩
            · have hvpos : ((vs.length : Int) == 0) = false := by
                rw [beq_eq_false_iff_ne]
                cases vs with
                | nil => exact absurd rfl hv0
                | cons _ _ => simp; omega
              have Hne2 : Hid (∀ e ∈ was.take (j + 1), e.2 ≠ []) := by
                intro e he
                have hjw := (List.getElem?_eq_some_iff.1 hek).1
                have hek' := hek
                rw [List.getElem?_eq_getElem hjw, Option.some.injEq] at hek'
                rw [List.take_succ_eq_append_getElem hjw, hek'] at he
                rcases List.mem_append.1 he with he | he
                · exact Hne.out e he
                · simp at he; subst he; exact hv0
              have Htk : Hid (ss ++ delsE ss ++ (was.take (j + 1)).flatMap (putE ss) = (ss ++ delsE ss ++ (was.take j).flatMap (putE ss)) ++ putE ss (kk, vs)) := by
                show ss ++ delsE ss ++ (was.take (j + 1)).flatMap (putE ss) = _
                have hjw := (List.getElem?_eq_some_iff.1 hek).1
                have hek' := hek
                rw [List.getElem?_eq_getElem hjw, Option.some.injEq] at hek'
                rw [List.take_succ_eq_append_getElem hjw, hek', List.flatMap_append]
                simp
              have Hvs : Hid (vs.length ≤ A) := Hok.out.vals _ (List.mem_of_getElem? hek)
              clear hv0 hek
              go_wp2_with fail
              refine (about_ok _ ss kk wr (Hss.out.up hnx2) (by omega)).mono ?_
              rintro e w6 ⟨v6, rfl, hv6, hb6⟩
              have hnx6 : Below w3.heap.size w3 w6 := hnx2.trans (hb6.mono hnx2.size)
              have hown6 := hownx.kept (show wr.grownBy w6 none from ⟨hb6.os, hb6.tape, hb6.output, hb6.size, fun i hi _ => hb6.block i hi⟩) (by cases u8.ownBlock <;> simp)
              by_cases ha0 : aboutE ss kk = []
              · have Hp0 : Hid (putE ss (kk, vs) = []) := by show putE ss (kk, vs) = []; unfold putE; rw [ha0]; rfl
                rw [ha0] at hv6
                obtain ⟨_, A6, c6, rfl, _, _⟩ := hv6
                clear ha0
                go_wp2_with fail
                go_roundw
                case rel =>
                  refine ⟨j + 1, by omega, by go_num, Hne2, ?_, hnx6⟩
                  rw [Htk.out, Hp0.out, List.append_nil]
                  exact hown6
                case measure => simp [intOf]; omega
              · have hpos : 0 < (aboutE ss kk).length := by
                  cases he : aboutE ss kk with
                  | nil => exact absurd he ha0
                  | cons _ _ => simp
                have Hp1 : Hid (putE ss (kk, vs) = addsE (pairsE [(kk, vs)])) := by
                  show putE ss (kk, vs) = _
                  unfold putE
                  have : (aboutE ss kk).isEmpty = false := by
                    cases he : aboutE ss kk with
                    | nil => exact absurd he ha0
                    | cons _ _ => rfl
                  rw [this]; rfl
                obtain ⟨_, A6, c6, rfl, _, _⟩ := hv6
                clear ha0
                go_wp2_with fail
                have hbl6 : b < w6.heap.size := Nat.lt_of_lt_of_le hbl hnx6.size
                have hone : Ents w6 (.slice (some ⟨b, off + j * 2, none⟩) 1 (c3 - j)) [(kk, vs)] := by
                  refine ⟨[(kk, .slice a2 vs.length c2)], ⟨⟨rfl, hstrx.up hb6⟩, trivial⟩, rfl, _, _, rfl, by simp; omega, fun _ => ⟨b, off + j * 2, rfl, hbl6, fun i u hi => ?_⟩⟩
                  have hblr : b < wr.heap.size := Nat.lt_of_lt_of_le hbl hnx2.size
                  match i, hi with
                  | 0, hi => exact (hb6.cell (p := ⟨b, off + j * 2, none⟩) hblr).trans (hd0.trans hi)
                  | 1, hi => exact (hb6.cell (p := ⟨b, off + j * 2 + 1, none⟩) hblr).trans (hd1.trans hi)
                have hvsl := Hvs.out
                have hpl : (pairsE [((kk, vs) : Ent)]).length = vs.length := by simp [pairsE]
                refine (pairs_ok _ [(kk, vs)] w6 hone (by simp) (by omega) (fun q hq => by simp at hq; subst hq; simp only; omega)).mono ?_
                rintro e w7 ⟨v7, rfl, hv7, hb7⟩
                go_wp2_with fail
                refine (adds_ok v7 _ w7 hv7 (by omega)).mono ?_
                rintro e w8 ⟨v8, rfl, hv8, hb8⟩
                have hb68 : Below w6.heap.size w6 w8 := hb7.trans (hb8.mono hb7.size)
                have hnx8 : Below w3.heap.size w3 w8 := hnx6.trans (hb68.mono hnx6.size)
                have hown8 := hown6.kept (show w6.grownBy w8 none from ⟨hb68.os, hb68.tape, hb68.output, hb68.size, fun i hi _ => hb68.block i hi⟩) (by cases u8.ownBlock <;> simp)
                have hLl : (ss ++ delsE ss ++ (was.take j).flatMap (putE ss)).length ≤ 3145728 := by
                  have h1 := puts_len ss (was.take j)
                  have h2 := (Hok.out.sub (List.take_sublist j was)).pairs
                  simp only [List.length_append, delsE, List.length_map]
                  omega
                have hal : (addsE (pairsE [(kk, vs)])).length = vs.length := by simp [addsE, pairsE]
                have hv8' : Stps w8 v8 (addsE (pairsE [(kk, vs)])) := hv8
                rw [← Hp1.out] at hv8' hal
                generalize ss ++ delsE ss ++ (was.take j).flatMap (putE ss) = L at *
                generalize putE ss (kk, vs) = P at *
                have m5 : L.length + P.length ≤ maxLen := by simp only [maxLen]; omega
                have m6 : (L.length + P.length) * 40 ≤ 140737488355328 := by omega
                have Hv8 := Lib.hid hv8'
                clear hal hv8 hv8' hv7 hone hstrx Hp1 hownx hown6
                go_wp2_with (at_builtin; refine wpList_append_row _ rfl (.tmp 61) (.tmp 68) 30 rfl w3.heap.size 41 i0 _ 3 40 Tryd.underlying30 hi hz0 hz1 hz2 rfl (by decide) _ L.length _ rfl hown8 v8 P.length _ rfl Hv8.out (steps_one P) m5 m6 hnx8.size ?_; intro v9 w9 hown9 hg9 hat9)
                go_roundw
                case rel =>
                  refine ⟨j + 1, by omega, by go_num, Hne2, ?_, hnx8.grown hg9 hnx8.size (fun i hi => (hown8.lt i hi).1)⟩
                  rw [Htk.out, List.flatMap_append, List.length_append]
                  exact hown9
                case measure => simp [intOf]; omega
          · obtain rfl : j = us.length := by omega
            have hwl : was.take us.length = was := by rw [Hel.out, List.take_length]
            rw [hwl] at hownx
            have Hne3 : Hid (∀ e ∈ tidyE es, e.2 ≠ []) := by
              intro e he
              rw [Hwas.out] at he
              exact Hne.out e (by rw [hwl]; exact he)
            have hbk : ss ++ delsE ss ++ was.flatMap (putE ss) = backE ss (tidyE es) := by rw [Hwas.out]; rfl
            rw [hbk] at hownx
            have hstb : Stps wr _ (backE ss (tidyE es)) := Row.of_own hownx
            have hput : ∀ s ∈ was.flatMap (putE ss), s.key.length ≤ B ∧ s.val.length ≤ B := by
              intro s hs
              obtain ⟨e, he, hs⟩ := List.mem_flatMap.1 hs
              unfold putE at hs
              split at hs
              · simp at hs
              · unfold addsE pairsE at hs
                simp at hs
                obtain ⟨u, hu, rfl⟩ := hs
                exact ⟨Hok.out.key e he, Hok.out.val e he u hu⟩
            have hKb : OkS (K + K + A) B (backE ss (tidyE es)) := by
              rw [← hbk]
              refine (hK.append (b := delsE ss) ⟨by simp [delsE]; omega, fun s hs => ?_, fun s hs => ?_⟩).append ⟨Nat.le_trans (puts_len ss was) Hok.out.pairs, fun s hs => (hput s hs).1, fun s hs => (hput s hs).2⟩
              · obtain ⟨t, ht, rfl⟩ := List.mem_map.1 hs
                exact hK.key t ht
              · obtain ⟨t, ht, rfl⟩ := List.mem_map.1 hs
                exact Nat.zero_le _
            have hkl := hKb.len
            have hokb := hA.run hKb
            have Hback := Lib.hid (runE_back es ss Hne3.out)
            have hwent : Ents w3 (.slice A3 us.length c3) was := ⟨us, Hin.out, Hrow.out⟩
            clear hput hbk hwl hownx
            go_wp2_with fail
            refine (calls_ok _ _ wr hstb (by omega)).mono ?_
            rintro e w5 ⟨v5, rfl, hv5, hb5⟩
            have hb05 : Below w.heap.size w w5 := hb0x.trans (hb5.mono hb0x.size)
            go_wp2_with fail
            refine (runO v v5 es _ w5 (h.up hb05) hv5 hA hKb (by omega) (by omega)).mono ?_
            rintro e w6 ⟨v6, rfl, hv6, hb6⟩
            have hb06 : Below w.heap.size w w6 := hb05.trans (hb6.mono hb05.size)
            go_wp2_with fail
            refine (entries_ok v6 _ w6 hv6 (by have := hokb.len; omega)).mono ?_
            rintro e w7 ⟨v7, rfl, hv7, hb7⟩
            have hb07 : Below w.heap.size w w7 := hb06.trans (hb7.mono hb06.size)
            have hb37 : Below w3.heap.size w3 w7 := hnx2.trans ((hb5.trans ((hb6.mono hb5.size).trans (hb7.mono (Nat.le_trans hb5.size hb6.size)))).mono hnx2.size)
            rw [Hback.out, Hwas.out] at hv7
            go_wp2_with fail
            refine (specSame_ok v7 _ was was w7 hv7 (hwent.up hb37) (by have := Hok.out.len; omega) (by have := Hok.out.len; omega) (fun q hq => by have := Hok.out.vals q hq; omega) (fun q hq => by have := Hok.out.vals q hq; omega)).mono ?_
            rintro e w8 ⟨rfl, n, rfl⟩
            rw [decide_eq_true rfl]
            have hb08 : Below w.heap.size w (w7.drewN n) := hb07.trans ⟨rfl, rfl, rfl, Nat.le_refl _, fun _ _ => rfl⟩
            go_wp2_with fail
            refine (wakes_ok _ (ht.up hb08)).mono ?_
            rintro e w9 ⟨rfl, hb9⟩
            go_wp2_with fail
            go_ret
            exact ⟨rfl, hb08.trans (hb9.mono hb08.size)⟩

end Go.Proofs.YtjgjiaflccdflaaDoor
