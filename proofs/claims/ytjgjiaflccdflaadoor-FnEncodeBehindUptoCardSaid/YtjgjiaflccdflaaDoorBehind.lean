/-
  The walk of laws.FnEncodeBehind. Conditions: the package's table; the sizes that the bulk's bound gives.
-/
import Derived.Test.YtjgjiaflccdflaaDoorGot
import Derived.Test.YtjgjiaflccdflaaDoorPlainE
namespace Go.Proofs.YtjgjiaflccdflaaDoor
open Go.RowKit Go.Maps

theorem inner_named {w : World} (b : Bs) : ∀ {us : List (Bs × Value)} {es : List Ent}, Inner w us es → Inner w (us.map fun u => (b ++ u.1, u.2)) (namedE b es)
  | [], [], _ => trivial
  | _ :: _, _ :: _, h => ⟨⟨congrArg (b ++ ·) h.1.1, h.1.2⟩, inner_named b h.2⟩
  | [], _ :: _, h => h.elim
  | _ :: _, [], h => h.elim

theorem Ok.named {A B : Nat} {m : List Ent} (h : Ok A B m) (b : Bs) : Ok A (b.length + B) (namedE b m) := by
  refine ⟨?_, ?_, fun q hq => ?_, fun q hq x hx => ?_⟩
  · unfold namedE; rw [List.length_map]; exact h.len
  · rw [pairs_named, List.length_map]; exact h.pairs
  · unfold namedE at hq
    obtain ⟨e, he, rfl⟩ := List.mem_map.1 hq
    have := h.key e he
    show (b ++ e.1).length ≤ _
    rw [List.length_append]
    omega
  · unfold namedE at hq
    obtain ⟨e, he, rfl⟩ := List.mem_map.1 hq
    have := h.val e he x hx
    omega

theorem concat_run (s t : Bs) (W : World) (hl : s.length + t.length ≤ 9223372036854775807) : (Op.stringOp .add ⟨s.toArray⟩ ⟨t.toArray⟩).run Tryd.prog W = .ok (encStr (s ++ t)) W := by
  have hs1 : (⟨s.toArray⟩ : ByteArray).size = s.length := by show s.toArray.size = _; simp
  have hs2 : (⟨t.toArray⟩ : ByteArray).size = t.length := by show t.toArray.size = _; simp
  have happ : (⟨s.toArray⟩ : ByteArray) ++ ⟨t.toArray⟩ = ⟨(s ++ t).toArray⟩ := ByteArray.mk_append_mk s t
  rw [run_string_add_sum W _ _ (by rw [hs1, hs2]; exact hl), happ]

set_option maxRecDepth 100000 in
set_option maxHeartbeats 1000000 in
theorem behind_walk (v sv : Value) (es : List Ent) (ss : List Stp) (beg : Bs) (w : World) (h : Ents w v es) (hst : Stps w sv ss) (ht : Tab w) {A B K : Nat} (hA : Ok A B es) (hK : OkS K B ss) (hbeg : beg.length ≤ 1048576) (hs : A + K ≤ 1048576) (hB : B ≤ 1048576) :
    Calls Tryd.prog 12 #[v, sv, encStr beg] w fun e w' => e = .returned (.bool true) ∧ Below w.heap.size w w' := by
  obtain ⟨i0, hi, hz0, hz1, hz2⟩ := info_parts Tryd.info25
  have hok := hA.run hK
  have hsl := hK.len
  have hel := hA.len
  go_enter Tryd.func12, Tryd.ntmps12
  cases hkn : ss.all knownE with
  | false =>
    go_wp2_with (go_at_call 19; refine (steps_ok sv ss w hst (by omega)).mono ?_; rintro e w1 ⟨v1, rfl, hv1, hb1⟩; rw [hkn])
    go_ret
    exact ⟨rfl, hb1⟩
  | true =>
    go_wp2_with (go_at_call 19; refine (steps_ok sv ss w hst (by omega)).mono ?_; rintro e w1 ⟨v1, rfl, hv1, hb1⟩; rw [hkn])
    refine (runO v sv es ss w1 (h.up hb1) (hst.up hb1) hA hK (by omega) (by omega)).mono ?_
    rintro e w2 ⟨v2, rfl, hv2, hb2⟩
    have hb02 : Below w.heap.size w w2 := hb1.trans (hb2.mono hb1.size)
    go_wp2_with fail
    refine (entries_ok v2 (runE es ss) w2 hv2 (by have := hok.len; omega)).mono ?_
    rintro e w3 ⟨v3, rfl, hv3, hb3⟩
    have hb03 : Below w.heap.size w w3 := hb02.trans (hb3.mono hb02.size)
    have Hok := Lib.hid hok
    have Hnam := Lib.hid (named_run beg es ss)
    obtain ⟨us, hin, _, A3, c3, rfl, hnc3, hx3⟩ := hv3
    have hul : us.length ≤ 1048576 := by rw [hin.len]; have := hok.len; omega
    have hkl : ∀ q ∈ us, q.1.length ≤ 1048576 := by
      intro q hq
      obtain ⟨i, hi, rfl⟩ := List.getElem_of_mem hq
      obtain ⟨vs, he, _⟩ := hin.at_ (k := i) (p := us[i]) (List.getElem?_eq_getElem hi)
      have := hok.key _ (List.mem_of_getElem? he)
      simp only at this
      omega
    have Hkl := Lib.hid hkl
    have Hone := Lib.hid hin.slice
    have Hin := Lib.hid hin
    have Hx3 := Lib.hid hx3
    clear hin hx3 hok hv1 hv2 hkl
    go_wp2_with fail
    go_loopw [10, 11] (fun o i wr => ∃ k : Nat, k ≤ us.length ∧ i = .int .i64 k ∧ wr.ownsRow w3.heap.size 25 2 o k (((us.take k).map fun u => (beg ++ u.1, u.2)).flatMap entCells) ∧ Below w3.heap.size w3 wr) (fun _ i _ => us.length - (intOf i).toNat)
    case atStart => exact ⟨0, Nat.zero_le _, rfl, World.ownsRow_nil _ _ _ _, Below.refl _ _⟩
    case round =>
      obtain ⟨k, hk, rfl, hown, hnx⟩ := hrel
      have hb0r : Below w.heap.size w wr := hb03.trans (hnx.mono hb03.size)
      by_cases hlt : k < us.length
      · obtain ⟨b, off, rfl, hbl, hcell⟩ := Hx3.out (by omega)
        obtain ⟨kk, a2, n2, c2, hp⟩ : ∃ kk a2 n2 c2, us[k]? = some (kk, .slice a2 n2 c2) := by
          obtain ⟨a2, n2, c2, h2⟩ := Hone.out us[k] (List.getElem_mem _)
          exact ⟨us[k].1, a2, n2, c2, by rw [List.getElem?_eq_getElem hlt, ← h2]⟩
        obtain ⟨hc0, hc1⟩ := ent_at hcell hp
        replace hc0 := (hnx.cell (p := ⟨b, off + k * 2, none⟩) hbl).trans hc0
        replace hc1 := (hnx.cell (p := ⟨b, off + k * 2 + 1, none⟩) hbl).trans hc1
        have Htk : Hid ((us.take (k + 1)).map (fun u => (beg ++ u.1, u.2)) = (us.take k).map (fun u => (beg ++ u.1, u.2)) ++ [(beg ++ kk, .slice a2 n2 c2)]) := by
          show (us.take (k + 1)).map (fun u => (beg ++ u.1, u.2)) = _
          have hp' := hp
          rw [List.getElem?_eq_getElem hlt, Option.some.injEq] at hp'
          rw [List.take_succ_eq_append_getElem hlt, hp', List.map_append]
          rfl
        have hkkl := Hkl.out _ (List.mem_of_getElem? hp)
        simp only at hkkl
        have hcat := fun W => concat_run beg kk W (by omega)
        have hcat2 : ¬ 9223372036854775807 < beg.length + kk.length := by omega
        generalize (us.take k).map (fun u => (beg ++ u.1, u.2)) = L at *
        clear hcell hp
        have hk0 : (0 : Int) ≤ (k : Int) := Int.natCast_nonneg _
        have hk1 : (k : Int) < (us.length : Int) := by omega
        have hone1 : ∀ u ∈ [encStr (beg ++ kk), .slice a2 n2 c2], u.oneCell' = true := by simp [Value.oneCell']
        have hm1 : k + 1 ≤ maxLen := by simp only [maxLen]; omega
        have hm2 : (k + 1) * 40 ≤ 140737488355328 := by omega
        have hm3 := hnx.size
        have hne : u10.ownBlock ≠ some b := fun e => by have := (hown.lt b e).1; omega
        go_wp2_with fail
        go_region_held3 (fun w' => w'.cell? ⟨b, off + k * 2, none⟩ = some (encStr kk) ∧ w'.cell? ⟨b, off + k * 2 + 1, none⟩ = some (.slice a2 n2 c2))
          (first | go_keep | (go_split_ands; refine ⟨?_, ?_⟩ <;> (rw [hgrow.cell_far _ (by simp; omega) (Ne.symm hne)]; assumption)))
          ((refine step_append_lies _ (by rfl) _ _ _ (by rfl) w3.heap.size 25 i0 _ 2 40 Tryd.underlying22 hi hz0 hz1 hz2 rfl (by omega) _ _ _ (by rfl) ((hown.alloc _).drew) ⟨wr.heap.size, 0, none⟩ 1 1 [encStr (beg ++ kk), .slice a2 n2 c2] (by rfl) (by rfl) (World.news_of_block (cs := #[encStr (beg ++ kk), .slice a2 n2 c2]) (t := 25) (fr := (0, 0)) (heap_alloc_new wr _)) hone1 (by omega) hm1 hm2 (by simp; omega) (wr.heap.size + 1) (by simp) ?_; intro gg cap w1 hown1 hgrow hat hlt2))
        go_wp2
        go_roundw
        case rel =>
          refine ⟨k + 1, by omega, by go_num, ?_, ?_⟩
          · rw [Htk.out, List.flatMap_append]
            exact hown1
          · exact (hnx.alloc hm3 _).drew.grown hgrow (by simp; omega) (fun j hj => (hown.lt j hj).1)
        case measure => simp [intOf]; omega
      · obtain rfl : k = us.length := by omega
        rw [List.take_length] at hown
        have hents : Ents wr u10 (namedE beg (runE es ss)) := by
          refine ⟨_, inner_named beg (Hin.out.up hnx), ?_⟩
          have hr := Row.of_own hown
          rw [List.length_map]
          exact hr
        go_wp2_with fail
        refine (encode_ok v sv es ss wr (h.up hb0r) (hst.up hb0r) (ht.up hb0r) hA hK (by omega) (by omega)).mono ?_
        rintro e w5 ⟨rfl, hb5⟩
        have hb05 : Below w.heap.size w w5 := hb0r.trans (hb5.mono hb0r.size)
        go_wp2_with fail
        refine (got_ok (runE es ss) w5 (ht.up hb05) Hok.out (by omega) (by omega)).mono ?_
        rintro e w6 ⟨v6, rfl, hv6, hb6⟩
        have hb06 : Below w.heap.size w w6 := hb05.trans (hb6.mono hb05.size)
        have hbr6 : Below wr.heap.size wr w6 := hb5.trans (hb6.mono hb5.size)
        go_wp2_with fail
        refine (encode_ok _ _ (namedE beg (runE es ss)) [] w6 (hents.up hbr6) (stps_nil _) (ht.up hb06) (Hok.out.named beg) (OkS.nil 0 _) (by omega) (by omega)).mono ?_
        rintro e w7 ⟨rfl, hb7⟩
        have hb07 : Below w.heap.size w w7 := hb06.trans (hb7.mono hb06.size)
        rw [Hnam.out]
        go_wp2_with fail
        refine (got_ok (namedE beg (runE es ss)) w7 (ht.up hb07) (Hok.out.named beg) (by omega) (by omega)).mono ?_
        rintro e w8 ⟨v8, rfl, hv8, hb8⟩
        have hb08 : Below w.heap.size w w8 := hb07.trans (hb8.mono hb07.size)
        have hb68 : Below w6.heap.size w6 w8 := hb7.trans (hb8.mono hb7.size)
        have hg6 := hv6.up hb68
        rw [pairs_named] at hv8
        have hpn : (pairsE (runE es ss)).length ≤ 1048576 := by have := Hok.out.pairs; omega
        have Hpk : Hid (∀ p ∈ pairsE (runE es ss), p.1.length ≤ 1048576) := by
          intro p hp
          obtain ⟨q, hq, e1, _⟩ := pairs_mem hp
          have h1 := Hok.out.key q hq
          rw [e1]
          omega
        clear hv6 hents hown Hin Hx3 Hone
        generalize pairsE (runE es ss) = ps at *
        obtain ⟨_, A6, c6, rfl, hc6, hx6⟩ := hg6
        obtain ⟨_, A8, c8, rfl, hc8, hx8⟩ := hv8
        have Hx6 := Lib.hid hx6
        have Hx8 := Lib.hid hx8
        rw [List.length_map] at *
        clear hx6 hx8
        go_wp2_with fail
        go_loopw [16] (fun i wx => ∃ n : Nat, n ≤ ps.length ∧ i = .int .i64 n ∧ Below w8.heap.size w8 wx) (fun i _ => ps.length - (intOf i).toNat)
        case atStart => exact ⟨0, Nat.zero_le _, rfl, Below.refl _ _⟩
        case round =>
          obtain ⟨n, hn, rfl, hnx2⟩ := hrel
          have hb0x : Below w.heap.size w wr := hb08.trans (hnx2.mono hb08.size)
          by_cases hlt2 : n < ps.length
          · obtain ⟨b6, off6, rfl, hbl6, hcell6⟩ := Hx6.out (by omega)
            obtain ⟨b8, off8, rfl, hbl8, hcell8⟩ := Hx8.out (by omega)
            obtain ⟨p, hp⟩ : ∃ p, ps[n]? = some p := ⟨_, List.getElem?_eq_getElem hlt2⟩
            obtain ⟨hd0, hd1⟩ := pair_at hcell6 hp
            obtain ⟨he0, he1⟩ := pair_at hcell8 (k := n) (p := (beg ++ p.1, p.2)) (by rw [List.getElem?_map, hp]; rfl)
            replace hd0 := (hnx2.cell (p := ⟨b6, off6 + n * 2, none⟩) hbl6).trans hd0
            replace hd1 := (hnx2.cell (p := ⟨b6, off6 + n * 2 + 1, none⟩) hbl6).trans hd1
            replace he0 := (hnx2.cell (p := ⟨b8, off8 + n * 2, none⟩) hbl8).trans he0
            replace he1 := (hnx2.cell (p := ⟨b8, off8 + n * 2 + 1, none⟩) hbl8).trans he1
            have hpk := Hpk.out p (List.mem_of_getElem? hp)
            obtain ⟨pk, pv⟩ := p
            simp only at hpk
            have hcat := fun W => concat_run beg pk W (by omega)
            have hcat2 : ¬ 9223372036854775807 < beg.length + pk.length := by omega
            have hn0 : (0 : Int) ≤ (n : Int) := Int.natCast_nonneg _
            have hn3 : (n : Int) < (ps.length : Int) := by omega
            clear hcell6 hcell8 hp
            go_wp2_with fail
            go_quiet (fail)
            go_wp2_with fail
            go_roundw
            case rel => exact ⟨n + 1, by omega, by go_num, hnx2.trans ⟨rfl, rfl, rfl, Nat.le_refl _, fun _ _ => rfl⟩⟩
            case measure => simp [intOf]; omega
          · go_wp2_with fail
            refine (wakes_ok _ (ht.up hb0x)).mono ?_
            rintro e w9 ⟨rfl, hb9⟩
            go_wp2_with fail
            go_ret
            exact ⟨rfl, hb0x.trans (hb9.mono hb0x.size)⟩

end Go.Proofs.YtjgjiaflccdflaaDoor
