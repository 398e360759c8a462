/-
  The walk of url.Values.Encode. Conditions: the package's table; lists, keys and values of at most 2^32 each; the text of at most 2^46 bytes.
-/
import Derived.Test.YtjgjiaflccdflaaDoorEnc0
namespace Go.Proofs.YtjgjiaflccdflaaDoor
open Go.RowKit Go.Maps Go.Sort

set_option maxRecDepth 100000 in
set_option maxHeartbeats 1000000 in
theorem encodeV_ok (base b : Nat) (m : List Ent) (w : World) (h : Vals w base b m) (ht : Tab w) (hm : m.length ≤ 4294967296) (hq : ∀ q ∈ m, q.1.length ≤ 4294967296 ∧ q.2.length ≤ 4294967296 ∧ ∀ v ∈ q.2, v.length ≤ 4294967296) (hT : (encE m).length ≤ 70368744177664) :
    Calls Tryd.prog 41 #[.map (some b)] w fun e w' => e = .returned (encStr (encE m)) ∧ Below w.heap.size w w' := by
  obtain ⟨i0, hi, hz0, hz1, hz2⟩ := info_parts Tryd.info9
  obtain ⟨l, hmap, hbb, hsl, hol, hapt⟩ := h
  have hll : l.length = m.length := hol.len
  have hkeys : l.map (·.1) = m.map (·.1) := hol.keys
  have hms : Srt m := hol.srt hsl
  have hbl := hmap.lt
  have Hkeys := Lib.hid hkeys
  have Hq := Lib.hid hq
  have HT := Lib.hid hT
  have Hms := Lib.hid hms
  have Hol := Lib.hid hol
  have Ht := Lib.hid ht
  have hsize : Maps.size (rawD l) = m.length := by rw [← hll]; simp [Maps.size]
  have Hsize := Lib.hid hsize
  clear hkeys hq hT hms hol ht hsize hapt hbb hll
  go_enter Tryd.func41, Tryd.ntmps41
  by_cases hm0 : m.length = 0
  · obtain rfl : m = [] := List.eq_nil_of_length_eq_zero hm0
    go_wp2_with (at_len; refine wpList_len_own _ rfl _ 73 rfl 9 23 Tryd.underlying73 _ b l.length _ rfl hmap ?_; rw [Hsize.out])
    go_ret
    exact ⟨rfl, Below.refl _ _⟩
  · have hm0' : ((m.length : Int) == 0) = false := by rw [beq_eq_false_iff_ne]; omega
    have hbytes : i0.bytes * m.length ≤ 281474976710656 := by rw [hz2]; omega
    have hmax : m.length ≤ maxLen := by simp only [maxLen]; omega
    go_wp2_with (first
      | (at_len; refine wpList_len_own _ rfl _ 73 rfl 9 23 Tryd.underlying73 _ b l.length (rawD l) rfl (by first | exact hmap | exact hmap.kept (World.grownBy_alloc _ _ none) (by simp)) ?_; rw [Hsize.out])
      | (at_make; refine wpList_make_full _ rfl _ _ 23 rfl w.heap.size 9 i0 _ 1 Tryd.underlying23 hi hz0 hz1 .i64 .i64 _ _ m.length rfl rfl rfl rfl hbytes hmax (by simp) ?_; intro w1 hrow1 hg1)
      | (at_range; refine wpList_range_own _ rfl _ 73 rfl 9 23 keyed9 Tryd.underlying73 raw b l.length _ rfl ((hmap.kept (World.grownBy_alloc _ _ none) (by simp)).kept hg1 (by simp)) ?_; intro w2 hrg2 hg2 hs2))
    go_frame
    have hmap2 : w2.ownsMap Tryd.prog 9 raw b l.length (rawD l) := hrg2.owns
    have hsz1 : w.heap.size + 1 ≤ w1.heap.size := by have := hg1.size; simpa using this
    obtain ⟨cur1, hcur1, hcs1⟩ : ∃ cur, w1.heap[w.heap.size + 1]? = some (.cells cur 9 (0, 0)) ∧ cur.size = m.length := by
      rcases hrow1.2 with ⟨e, _⟩ | ⟨g, cap, cur, hv, _, hb, _, _, h3, _⟩
      · cases e
      · simp at hv
        obtain ⟨rfl, rfl⟩ := hv
        exact ⟨cur, hb, by omega⟩
    have hg1lt : w.heap.size + 1 < w1.heap.size := (Array.getElem?_eq_some_iff.1 hcur1).1
    have Hbuf2 : Hid (SBuf w2 (w.heap.size + 1) m.length []) := ⟨cur1, (hg2.block _ hg1lt (by simp)).trans hcur1, hcs1, fun j b hj => by simp at hj⟩
    have Hbld2 : Hid (w2.heap[w.heap.size]? = some (.cells #[.pointer none, .slice none 0 0] 95 (0, 0))) :=
      (hg2.block _ (by omega) (by simp)).trans ((hg1.block _ (by simp) (by simp)).trans (heap_alloc_new w _))
    have hb2 : Below w.heap.size w w2 := (((Below.refl _ _).alloc (Nat.le_refl _) _).grown hg1 (by simp) (fun j hj => by cases hj)).grown hg2 (by omega) (fun j hj => by cases hj)
    clear hcur1 hcs1 hrow1 hs2
    go_loopw [5] (fun i wr => ∃ (left : Lit → Bool) (cnt : Nat) (ss : List (List UInt8)), wr.ranges Tryd.prog 9 raw b w1.heap.size l.length (rawD l) left cnt ∧ ss.length + cnt ≤ m.length ∧ i = .int .i64 ss.length ∧ Collected (rawD l) left ss ∧ Hid (SBuf wr (w.heap.size + 1) m.length ss) ∧
        Hid (wr.heap[w.heap.size]? = some (.cells #[.pointer none, .slice none 0 0] 95 (0, 0))) ∧ Below w.heap.size w wr)
      (fun _ wr => wr.rangeLeft b w1.heap.size)
    case atStart => exact ⟨_, _, [], hrg2, by simp [Hsize.out], rfl, Collected.start _, Hbuf2, Hbld2, hb2⟩
    case round =>
      obtain ⟨left, cnt, ss, hrg, hcs, rfl, hC, Hbr, Hbld, hnx⟩ := hrel
      go_wp2_with (at_next; refine wpList_next_ranges _ rfl _ rfl 9 keyed9 raw encStr (fun v : Value => v) (fun key kl hk => by obtain ⟨x, hx, _⟩ := Maps.keyOf_str Tryd.underlying9 hk; exact ⟨x, hx⟩) (fun v y _ => ⟨v, rfl⟩) b w1.heap.size l.length _ _ _ rfl hrg ?_ ?_)
      · intro hc0 hl0
        have hperm := hC.perm hmap keyed9 Tryd.underlying9 hl0
        rw [rawD_keys, Hkeys.out] at hperm
        have hkl : ss.length = m.length := by have := hperm.length_eq; simpa using this
        obtain ⟨cur, hb, h3, h4⟩ := Hbr.out.full hkl
        have hH : Holds encStr wr (w.heap.size + 1) 0 ss.toArray := holds_of_block hb h4
        have hgl := Hbr.out.lt
        have hc := Tryd.slices_Sort_string (w.heap.size + 1) 0 m.length ss wr hH hgl (by omega)
        rw [hkl] at hc
        have hso := sorted_keys (List.pairwise_map.2 Hms.out) hperm
        have hown := fun n os => ownsRow_sorted (w := wr) (base := w.heap.size) (n := n) (os := os) (ts := ss.mergeSort fun x y => decide (x ≤ y)) (ss := ss) (by simp) (Nat.le_succ _) hb (by omega) hmax h3
        rw [hso] at hc hown
        replace hc : Calls Tryd.prog 57 #[.slice (some ⟨w.heap.size + 1, 0, none⟩) m.length m.length] wr fun e w' => e = .returned (.tuple #[]) ∧ w'.ownsRow w.heap.size 9 1 (.slice (some ⟨w.heap.size + 1, 0, none⟩) m.length m.length) m.length ((m.map (·.1)).map encStr) ∧ wr.grownBy w' (some (w.heap.size + 1)) := by
          refine hc.mono ?_
          rintro e w' ⟨rfl, n, os, rfl⟩
          refine ⟨rfl, ?_, grownBy_sorted _⟩
          have := hown n os
          rw [hkl] at this
          exact this
        have Hc := Lib.hid hc
        clear hc hown hso h4 hb h3 hH hperm hl0 hrg hC hcs hkl hc0
        go_wp2_with (go_at_call 57; refine Hc.out.mono ?_; rintro e w4 ⟨rfl, hrow4, hg4⟩)
        have hb4 : Below w.heap.size w w4 := hnx.grown hg4 hnx.size (fun j hj => by cases hj; exact Nat.le_succ _)
        have Hbld4 : Hid (Lib.IsBuilderF 95 5 w.heap.size w.heap.size (Lib.byteCells (encP [])) w4) := .inl ⟨Nat.le_refl _, _, (hg4.block _ (Array.getElem?_eq_some_iff.1 Hbld.out).1 (by simp)).trans Hbld.out, World.ownsRowF_nil _ _ _ _, by simp [Value.ownBlock]⟩
        clear Hbld Hbr Hc hg4 hnx
        go_loopw [35] (fun i wr => ∃ k : Nat, k ≤ m.length ∧ i = .int .i64 k ∧ Hid (Lib.IsBuilderF 95 5 w.heap.size w.heap.size (Lib.byteCells (encP (pairsE (m.take k)))) wr) ∧ wr.ownsRow w.heap.size 9 1 (.slice (some ⟨w.heap.size + 1, 0, none⟩) m.length m.length) m.length ((m.map (·.1)).map encStr) ∧ Below w.heap.size w wr) (fun i _ => m.length - (intOf i).toNat)
        case atStart => exact ⟨0, Nat.zero_le _, rfl, Hbld4, hrow4, hb4⟩
        case round =>
          obtain ⟨k, hk, rfl, Hbr, hkr, hnx⟩ := hrel
          have hszr := hnx.size
          by_cases hlt : k < m.length
          · obtain ⟨q, hqk⟩ : ∃ q, m[k]? = some q := ⟨_, List.getElem?_eq_getElem hlt⟩
            have hkc : wr.cell? ⟨w.heap.size + 1, k, none⟩ = some (encStr q.1) := by
              obtain ⟨_, A5, c5, he5, _, hx⟩ := Row.of_own hkr
              obtain ⟨bb, off, rfl, hbl, hcell⟩ := hx (by omega)
              simp only [Value.slice.injEq, Option.some.injEq, Addr.mk.injEq] at he5
              obtain ⟨⟨rfl, rfl, _⟩, _⟩ := he5
              have := str_at hcell (k := k) (s := q.1) (by rw [List.getElem?_map, hqk]; rfl)
              simpa using this
            obtain ⟨hql, hqv, hqs⟩ := Hq.out q (List.mem_of_getElem? hqk)
            obtain ⟨u, hu, hstr⟩ : ∃ u, (ofE l q.1).getD (.slice none 0 0) = u ∧ Strs w u q.2 := by
              have hof := ofE_of_mem Hms.out (List.mem_of_getElem? hqk)
              rcases Hol.out.of (key := q.1) with ⟨_, h2⟩ | ⟨u, vs, h1, h2, _, _, h5⟩
              · rw [hof] at h2; cases h2
              · rw [hof, Option.some.injEq] at h2
                subst h2
                exact ⟨u, by rw [h1]; rfl, Row.of_own h5⟩
            have Hcut := Lib.hid (pairs_cut hqk)
            obtain ⟨key, vs⟩ := q
            have hkl : key.length ≤ maxLen := by simp only [maxLen]; simp only at hql; omega
            have Hstr := Lib.hid hstr
            obtain ⟨_, A, cp, rfl, hcp, _⟩ := hstr
            have Hu := Lib.hid hu
            have hmapr : wr.ownsMap Tryd.prog 9 raw b l.length (rawD l) := hmap.kept (show w.grownBy wr none from ⟨hnx.os, hnx.tape, hnx.output, hnx.size, fun i hi _ => hnx.block i hi⟩) (by simp)
            have Hqs := Lib.hid hqs
            have htr := Ht.out.up hnx
            have Hesc := Lib.hid (queryEscape_ok key wr htr hql)
            clear hu hqs hqk
            go_wp2_with (first
              | (at_lookup; refine wpList_lookup_vals _ rfl _ _ rfl b l.length l rfl hmapr hsl key rfl hkl _ Hu.out ?_)
              | (go_at_call 58; refine Hesc.out.mono ?_; rintro e w5 ⟨rfl, hb5⟩))
            have hb5w : Below w.heap.size w w5 := hnx.trans (hb5.mono hszr)
            have Hbr5 : Hid (Lib.IsBuilderF 95 5 w.heap.size w.heap.size (Lib.byteCells (encP (pairsE (m.take k) ++ ([] : List (Bs × Bs))))) w5) := by rw [List.append_nil]; exact builder_up Hbr.out hb5
            have hkr5 := hkr.kept (show wr.grownBy w5 none from ⟨hb5.os, hb5.tape, hb5.output, hb5.size, fun i hi _ => hb5.block i hi⟩) (by simp [Value.ownBlock])
            clear Hbr hkr Hesc hmapr htr hkc
            go_loopw [46] (fun i wr => ∃ j : Nat, j ≤ vs.length ∧ i = .int .i64 j ∧ Hid (Lib.IsBuilderF 95 5 w.heap.size w.heap.size (Lib.byteCells (encP (pairsE (m.take k) ++ (vs.take j).map (fun v => (key, v))))) wr) ∧ wr.ownsRow w.heap.size 9 1 (.slice (some ⟨w.heap.size + 1, 0, none⟩) m.length m.length) m.length ((m.map (·.1)).map encStr) ∧ Below w.heap.size w wr) (fun i _ => vs.length - (intOf i).toNat)
            case atStart => exact ⟨0, Nat.zero_le _, rfl, Hbr5, hkr5, hb5w⟩
            case round =>
              obtain ⟨j, hj, rfl, Hbj, hkj, hnj⟩ := hrel
              by_cases hjl : j < vs.length
              · obtain ⟨v, hv⟩ : ∃ v, vs[j]? = some v := ⟨_, List.getElem?_eq_getElem hjl⟩
                have hvl : v.length ≤ 4294967296 := Hqs.out v (List.mem_of_getElem? hv)
                obtain ⟨_, A5, c5, he5, _, hx⟩ := Hstr.out.up hnj
                obtain ⟨rfl, rfl⟩ : A = A5 ∧ cp = c5 := by simpa using he5
                obtain ⟨bb, off, rfl, hbl5, hcell⟩ := hx (by omega)
                have hc0 : wr.cell? ⟨bb, off + j, none⟩ = some (encStr v) := str_at hcell hv
                have Htk : Hid ((vs.take (j + 1)).map (fun v => (key, v)) = (vs.take j).map (fun v => (key, v)) ++ [(key, v)]) := by
                  show (vs.take (j + 1)).map (fun v => (key, v)) = _
                  rw [List.getElem?_eq_getElem hjl, Option.some.injEq] at hv
                  rw [List.take_succ_eq_append_getElem hjl, hv, List.map_append]
                  rfl
                have hTl : (encP (pairsE (m.take k) ++ (vs.take j).map (fun v => (key, v)) ++ [(key, v)])).length ≤ 70368744177664 := by
                  have e : pairsE m = (pairsE (m.take k) ++ (vs.take j).map (fun v => (key, v)) ++ [(key, v)]) ++ ((vs.drop (j + 1)).map (fun v => (key, v)) ++ pairsE (m.drop (k + 1))) := by
                    rw [Hcut.out.2]
                    have e2 : vs.map (fun v => (key, v)) = (vs.take (j + 1)).map (fun v => (key, v)) ++ (vs.drop (j + 1)).map (fun v => (key, v)) := by rw [← List.map_append, List.take_append_drop]
                    rw [e2, Htk.out]
                    simp
                  have h1 := encP_len (pairsE (m.take k) ++ (vs.take j).map (fun v => (key, v)) ++ [(key, v)]) ((vs.drop (j + 1)).map (fun v => (key, v)) ++ pairsE (m.drop (k + 1)))
                  rw [← e] at h1
                  exact Nat.le_trans h1 HT.out
                generalize hps : pairsE (m.take k) ++ (vs.take j).map (fun v => (key, v)) = ps at *
                have Hps := Lib.hid hps
                have hszj := hnj.size
                clear hcell hx he5 hv hps hbl5
                by_cases hp0 : ps = []
                · subst hp0
                  rw [List.nil_append, encP_one] at hTl
                  have hpl : (partE (key, v)).length = (escE key).length + 1 + (escE v).length := by simp [partE]; omega
                  rw [hpl] at hTl
                  clear hpl
                  go_wp2_with (first
                    | (go_at_call 59; refine (Tryd.Builder_Len_f w.heap.size w.heap.size _ _ Hbj.out).mono ?_; rintro e w6 ⟨rfl, rfl⟩)
                    | (go_at_call 61; refine (wS w.heap.size w.heap.size [] (escE key) _ Hbj.out (by simp; omega) hszj).mono ?_; rintro e w6 ⟨rfl, hb6, hbw6, ho6⟩))
                  have hsz6 : w.heap.size ≤ w6.heap.size := Nat.le_trans hszj hbw6.size
                  refine (wB w.heap.size w.heap.size _ 61 _ hb6 (by simp; omega) hsz6).mono ?_
                  rintro e w7 ⟨rfl, hb7, hbw7, ho7⟩
                  have hsz7 : w.heap.size ≤ w7.heap.size := Nat.le_trans hsz6 hbw7.size
                  have hnj7 : Below w.heap.size w w7 := (hnj.trans hbw6).trans hbw7
                  have Hesc := Lib.hid (queryEscape_ok v w7 (Ht.out.up hnj7) hvl)
                  go_wp2_with (go_at_call 58; refine Hesc.out.mono ?_; rintro e w8 ⟨rfl, hbw8⟩)
                  have hsz8 : w.heap.size ≤ w8.heap.size := Nat.le_trans hsz7 hbw8.size
                  refine (wS w.heap.size w.heap.size _ (escE v) _ (builder_up hb7 hbw8) (by simp; omega) hsz8).mono ?_
                  rintro e w9 ⟨rfl, hb9, hbw9, ho9⟩
                  have hnj9 : Below w.heap.size w w9 := (hnj7.trans (hbw8.mono hsz7)).trans hbw9
                  have hk7 := own_others (own_others hkj ho6 (by simp [Value.ownBlock])) ho7 (by simp [Value.ownBlock])
                  have hk8 := hk7.kept (show w7.grownBy w8 none from ⟨hbw8.os, hbw8.tape, hbw8.output, hbw8.size, fun i hi _ => hbw8.block i hi⟩) (by simp [Value.ownBlock])
                  have hk9 := own_others hk8 ho9 (by simp [Value.ownBlock])
                  have Hb9 := Lib.hid hb9
                  clear hb9 hb7 hb6
                  go_wp2_with fail
                  go_roundw
                  case rel =>
                    refine ⟨j + 1, by omega, by go_num, ?_, hk9, hnj9⟩
                    rw [Htk.out, ← List.append_assoc, Hps.out]
                    rw [List.nil_append, encP_one]
                    refine cast (congrArg (fun T => Hid (Lib.IsBuilderF 95 5 w.heap.size w.heap.size (Lib.byteCells T) w9)) ?_) Hb9
                    simp [partE]
                  case measure => simp [intOf]; omega
                · have hne : encP ps ≠ [] := encP_ne hp0
                  have hpos : 0 < (encP ps).length := by
                    cases he : encP ps with
                    | nil => exact absurd he hne
                    | cons _ _ => simp
                  have hgt : 0 < (Lib.byteCells (encP ps)).length := by rw [Lib.byteCells_length]; exact hpos
                  rw [encP_snoc ps _ hp0] at hTl
                  have hpl : (encP ps ++ 38 :: partE (key, v)).length = (encP ps).length + 1 + ((escE key).length + 1 + (escE v).length) := by simp [partE]; omega
                  rw [hpl] at hTl
                  have Hsn := Lib.hid (encP_snoc ps (key, v) hp0)
                  clear hpl hne
                  go_wp2_with (go_at_call 59; refine (Tryd.Builder_Len_f w.heap.size w.heap.size _ _ Hbj.out).mono ?_; rintro e w6 ⟨rfl, rfl⟩)
                  refine (wB w.heap.size w.heap.size _ 38 _ Hbj.out (by omega) hszj).mono ?_
                  rintro e w5 ⟨rfl, hb5a, hbw5, ho5⟩
                  have hsz5 : w.heap.size ≤ w5.heap.size := Nat.le_trans hszj hbw5.size
                  go_wp2_with fail
                  refine (wS w.heap.size w.heap.size _ (escE key) _ hb5a (by simp; omega) hsz5).mono ?_
                  rintro e w6 ⟨rfl, hb6, hbw6, ho6⟩
                  go_wp2_with fail
                  have hsz6 : w.heap.size ≤ w6.heap.size := Nat.le_trans hsz5 hbw6.size
                  refine (wB w.heap.size w.heap.size _ 61 _ hb6 (by simp; omega) hsz6).mono ?_
                  rintro e w7 ⟨rfl, hb7, hbw7, ho7⟩
                  have hsz7 : w.heap.size ≤ w7.heap.size := Nat.le_trans hsz6 hbw7.size
                  have hnj7 : Below w.heap.size w w7 := ((hnj.trans hbw5).trans hbw6).trans hbw7
                  have Hesc := Lib.hid (queryEscape_ok v w7 (Ht.out.up hnj7) hvl)
                  go_wp2_with (go_at_call 58; refine Hesc.out.mono ?_; rintro e w8 ⟨rfl, hbw8⟩)
                  have hsz8 : w.heap.size ≤ w8.heap.size := Nat.le_trans hsz7 hbw8.size
                  refine (wS w.heap.size w.heap.size _ (escE v) _ (builder_up hb7 hbw8) (by simp; omega) hsz8).mono ?_
                  rintro e w9 ⟨rfl, hb9, hbw9, ho9⟩
                  have hnj9 : Below w.heap.size w w9 := (hnj7.trans (hbw8.mono hsz7)).trans hbw9
                  have hk7 := own_others (own_others hkj (ho5.trans ho6) (by simp [Value.ownBlock])) ho7 (by simp [Value.ownBlock])
                  have hk8 := hk7.kept (show w7.grownBy w8 none from ⟨hbw8.os, hbw8.tape, hbw8.output, hbw8.size, fun i hi _ => hbw8.block i hi⟩) (by simp [Value.ownBlock])
                  have hk9 := own_others hk8 ho9 (by simp [Value.ownBlock])
                  have Hb9 := Lib.hid hb9
                  clear hb9 hb7 hb6
                  go_wp2_with fail
                  go_roundw
                  case rel =>
                    refine ⟨j + 1, by omega, by go_num, ?_, hk9, hnj9⟩
                    rw [Htk.out, ← List.append_assoc, Hps.out]
                    rw [Hsn.out]
                    refine cast (congrArg (fun T => Hid (Lib.IsBuilderF 95 5 w.heap.size w.heap.size (Lib.byteCells T) w9)) ?_) Hb9
                    simp [partE]
                  case measure => simp [intOf]; omega
              · obtain rfl : j = vs.length := by omega
                go_wp2_with fail
                go_roundw
                case rel =>
                  refine ⟨k + 1, by omega, by go_num, ?_, hkj, hnj⟩
                  rw [Hcut.out.1]
                  rw [List.take_length] at Hbj
                  exact Hbj
                case measure => simp [intOf]; omega
          · obtain rfl : k = m.length := by omega
            have Hb2 : Hid (Lib.IsBuilderF 95 5 w.heap.size w.heap.size (Lib.byteCells (encE m)) wr) := by rw [List.take_length] at Hbr; exact Hbr
            have Hcs := Lib.hid (Tryd.Builder_String_any_k w.heap.size w.heap.size (encE m) wr Hb2.out hszr)
            clear Hbr Hb2
            go_wp2_with (go_at_call 62; refine Hcs.out.mono ?_; rintro e w6 ⟨rfl, _, hb6, _⟩)
            go_ret
            exact ⟨rfl, hnx.trans hb6⟩
      · intro x c kl yd yp w3 cnt3 hkey hlk hv hat hrg3 hlt hg3 hs3 hen
        obtain ⟨x', ex, rfl, _⟩ := Maps.keyOf_str Tryd.underlying9 hkey
        obtain rfl : x = x' := encStr_inj ex
        have hlt2 : ss.length < m.length := by omega
        have Hbr3 : Hid (SBuf w3 (w.heap.size + 1) m.length ss) := Hbr.out.of_block (hg3.block _ Hbr.out.lt (by simp; omega))
        have Hbld3 : Hid (w3.heap[w.heap.size]? = some (.cells #[.pointer none, .slice none 0 0] 95 (0, 0))) := (hg3.block _ (Array.getElem?_eq_some_iff.1 Hbld.out).1 (by simp; omega)).trans Hbld.out
        obtain ⟨old, hold⟩ := Hbr3.out.old hlt2
        have hfr := Hbr3.out.frozen ss.length
        have hrg4 := hrg3.kept (grown_setCell w3 ⟨w.heap.size + 1, ss.length, none⟩ (encStr x)) (by simp; omega) (by simp; omega)
        have hb3 : Below w.heap.size w w3 := hnx.grown hg3 hnx.size (fun j hj => by cases hj; omega)
        have hC2 := hC.step hlk hat
        have hleft := hrg4.left_eq
        have hleft0 := hrg.left_eq
        have HC2 := Lib.hid hC2
        have Hrg4 := Lib.hid hrg4
        have Hleft := Lib.hid hleft
        have Hleft0 := Lib.hid hleft0
        clear hs3 hC2 hrg4 hleft hleft0 hC hat hlk hv hkey
        go_wp2_with fail
        go_roundw
        case rel => exact ⟨_, cnt3, ss ++ [x], Hrg4.out, by simp; omega, by simp, HC2.out, Hbr3.out.push x hlt2, (Below.heap_setCell w3 ⟨w.heap.size + 1, ss.length, none⟩ (encStr x) w.heap.size (by simp)).trans Hbld3.out, hb3.setCell (by simp) _⟩
        case measure => rw [Hleft.out, Hleft0.out]; exact hlt

end Go.Proofs.YtjgjiaflccdflaaDoor
