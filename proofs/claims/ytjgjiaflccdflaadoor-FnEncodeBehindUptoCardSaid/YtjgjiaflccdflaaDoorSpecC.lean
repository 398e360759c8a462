/-
  The walks of spec.Without, spec.Tidy, spec.One, spec.Run. Conditions: at most 2^32 elements.
-/
import Derived.Test.YtjgjiaflccdflaaDoorSpecB
namespace Go.Proofs.YtjgjiaflccdflaaDoor
open Go.RowKit

set_option maxRecDepth 100000 in
set_option maxHeartbeats 1000000 in
theorem without_ok (v : Value) (es : List Ent) (key : Bs) (w : World) (h : Ents w v es) (hn : es.length ≤ 4294967296) :
    Calls Tryd.prog 65 #[v, encStr key] w fun e w' => ∃ v', e = .returned v' ∧ Ents w' v' (withoutE es key) ∧ Below w.heap.size w w' := by
  obtain ⟨i0, hi, hz0, hz1, hz2⟩ := info_parts Tryd.info42
  obtain ⟨us, hin, _, A, c, rfl, hnc, hx⟩ := h
  have hul : us.length ≤ 4294967296 := by rw [hin.len]; exact hn
  have hone := hin.slice
  have Hin := Lib.hid hin
  clear hin hn
  go_enter Tryd.func65, Tryd.ntmps65
  go_wp2
  go_loopw [5, 6] (fun v i wr => ∃ k : Nat, k ≤ us.length ∧ i = .int .i64 k ∧ wr.ownsRow w.heap.size 42 2 v (withoutE (us.take k) key).length ((withoutE (us.take k) key).flatMap entCells) ∧ Below w.heap.size w wr)
    (fun _ i _ => us.length - (intOf i).toNat)
  case atStart => exact ⟨0, Nat.zero_le _, rfl, World.ownsRow_nil _ _ _ _, Below.refl _ _⟩
  case round =>
    obtain ⟨k, hk, rfl, hown, hnx⟩ := hrel
    by_cases hlt : k < us.length
    · obtain ⟨b, off, rfl, hbl, hcell⟩ := hx (by omega)
      obtain ⟨kk, a2, n2, c2, hp⟩ : ∃ kk a2 n2 c2, us[k]? = some (kk, .slice a2 n2 c2) := by
        obtain ⟨a2, n2, c2, h2⟩ := hone us[k] (List.getElem_mem _)
        exact ⟨us[k].1, a2, n2, c2, by rw [List.getElem?_eq_getElem hlt, ← h2]⟩
      obtain ⟨hc0, hc1⟩ := ent_at hcell hp
      replace hc0 := (hnx.cell (p := ⟨b, off + k * 2, none⟩) hbl).trans hc0
      replace hc1 := (hnx.cell (p := ⟨b, off + k * 2 + 1, none⟩) hbl).trans hc1
      have Htk : Hid (us.take (k + 1) = us.take k ++ [(kk, .slice a2 n2 c2)]) := by
        rw [List.getElem?_eq_getElem hlt, Option.some.injEq] at hp
        show us.take (k + 1) = _
        rw [List.take_succ_eq_append_getElem hlt, hp]
      have hll : (withoutE (us.take k) key).length ≤ k := Nat.le_trans (List.length_filter_le _ _) (List.length_take_le _ _)
      generalize hL : withoutE (us.take k) key = L at hown hll
      have HL := Lib.hid hL
      clear hcell hx hone hp hL
      have hm1 : L.length + 1 ≤ maxLen := by simp only [maxLen]; omega
      have hm2 : (L.length + 1) * 40 ≤ 140737488355328 := by omega
      have hm3 := hnx.size
      by_cases hkk : kk = key
      · have hb : (kk != key) = false := by simp [hkk]
        have hb2 : (kk == key) = true := beq_iff_eq.2 hkk
        have Hw : Hid (withoutE (us.take (k + 1)) key = L) := by
          show withoutE _ key = L
          rw [Htk.out, withoutE, List.filter_append]
          simp only [List.filter_cons, List.filter_nil, hkk, BEq.rfl, Bool.not_true]
          simp [← HL.out, withoutE]
        have Hkk := Lib.hid hkk
        clear hkk
        go_wp2
        go_roundw
        case rel => exact ⟨k + 1, by omega, by go_num, by rw [Hw.out]; exact hown, hnx⟩
        case measure => simp [intOf]; omega
      · have hb : (kk != key) = true := by simp [hkk]
        have hb2 : (kk == key) = false := beq_eq_false_iff_ne.2 hkk
        have Hw : Hid (withoutE (us.take (k + 1)) key = L ++ [(kk, .slice a2 n2 c2)]) := by
          show withoutE _ key = _
          rw [Htk.out, withoutE, List.filter_append]
          have : (kk == key) = false := beq_eq_false_iff_ne.2 hkk
          simp only [List.filter_cons, List.filter_nil, this, Bool.not_false, if_true]
          rw [← HL.out, withoutE]
        have Hkk := Lib.hid hkk
        clear hkk
        go_wp2_with (at_builtin; refine wpList_append_own_at _ rfl _ _ 37 rfl w.heap.size 42 i0 _ 2 40 Tryd.underlying37 hi hz0 hz1 hz2 rfl (by decide) _ _ _ rfl (hown.alloc _) ⟨wr.heap.size, 0, none⟩ 1 1 [encStr kk, .slice a2 n2 c2] rfl rfl (World.news_of_block (cs := #[encStr kk, .slice a2 n2 c2]) (t := 42) (fr := (0, 0)) (heap_alloc_new wr _)) (by simp [Value.oneCell']) hm1 hm2 (by simp; omega) ?_; intro v' w2 hown' hgrow hnil hloc)
        go_roundw
        case rel =>
          refine ⟨k + 1, by omega, by go_num, ?_, (hnx.alloc hm3 _).grown hgrow (by simp; omega) (fun j hj => (hown.lt j hj).1)⟩
          rw [Hw.out, List.flatMap_append, List.length_append]
          exact hown'
        case measure => simp [intOf]; omega
    · go_wp2
      go_ret
      obtain rfl : k = us.length := by omega
      rw [List.take_length] at hown
      exact ⟨_, rfl, ⟨_, (Hin.out.up hnx).without, Row.of_own hown⟩, hnx⟩

set_option maxRecDepth 100000 in
set_option maxHeartbeats 1000000 in
theorem tidy_ok (v : Value) (es : List Ent) (w : World) (h : Ents w v es) (hn : es.length ≤ 4294967295) (hv : ∀ q ∈ es, q.2.length ≤ 4294967296) :
    Calls Tryd.prog 23 #[v] w fun e w' => ∃ v', e = .returned v' ∧ Ents w' v' (tidyE es) ∧ Below w.heap.size w w' := by
  obtain ⟨us, hin, _, A, c, rfl, hnc, hx⟩ := h
  have Hlen := Lib.hid hin.len
  have hul : us.length ≤ 4294967295 := by rw [Hlen.out]; exact hn
  go_enter Tryd.func23, Tryd.ntmps23
  go_wp2
  go_loopw [3, 4] (fun v i wr => ∃ k : Nat, k ≤ us.length ∧ i = .int .i64 k ∧ Ents wr v (tidyE (es.take k)) ∧ Below w.heap.size w wr)
    (fun _ i _ => us.length - (intOf i).toNat)
  case atStart => exact ⟨0, Nat.zero_le _, rfl, Ents.nil, Below.refl _ _⟩
  case round =>
    obtain ⟨k, hk, rfl, hown, hnx⟩ := hrel
    by_cases hlt : k < us.length
    · obtain ⟨b, off, rfl, hbl, hcell⟩ := hx (by omega)
      obtain ⟨kk, u, hp⟩ : ∃ kk u, us[k]? = some (kk, u) := ⟨_, _, List.getElem?_eq_getElem hlt⟩
      obtain ⟨vs, hvs, hst⟩ := hin.get hp
      obtain ⟨hc0, hc1⟩ := ent_at hcell hp
      replace hc0 := (hnx.cell (p := ⟨b, off + k * 2, none⟩) hbl).trans hc0
      replace hc1 := (hnx.cell (p := ⟨b, off + k * 2 + 1, none⟩) hbl).trans hc1
      have hst := hst.up hnx
      have Hst := Lib.hid hst
      obtain ⟨_, a2, c2, rfl, _, _⟩ := hst
      have Htk : Hid (tidyE (es.take (k + 1)) = withE (tidyE (es.take k)) kk vs) := by
        have hke : k < es.length := by rw [← Hlen.out]; exact hlt
        rw [List.getElem?_eq_getElem hke, Option.some.injEq] at hvs
        show tidyE _ = _
        rw [List.take_succ_eq_append_getElem hke, hvs, tidyE, List.foldl_append]
        rfl
      have hvn : vs.length ≤ 4294967296 := hv _ (List.mem_of_getElem? hvs)
      have hll : (tidyE (es.take k)).length ≤ 4294967295 := by
        have h2 := tidyE_length (es.take k)
        have h3 := List.length_take_le k es
        omega
      generalize hT : tidyE (es.take k) = T at *
      have Hown := Lib.hid hown
      obtain ⟨us3, hin3, hl3, A3, c3, rfl, hc3, hx3⟩ := hown
      clear hcell hx hp hvs hin hx3 hin3 hl3 hT
      have hk0 : (0 : Int) ≤ (k : Int) := Int.natCast_nonneg _
      have hk1 : (k : Int) < (us.length : Int) := by omega
      go_wp2_with fail
      go_region_held3 (fun w' => w'.cell? ⟨b, off + k * 2, none⟩ = some (encStr kk) ∧ w'.cell? ⟨b, off + k * 2 + 1, none⟩ = some (.slice a2 vs.length c2))
        (first | go_keep | (go_split_ands; refine ⟨?_, ?_⟩ <;> (rw [hb1.cell (by have := hnx.size; simp; omega)]; assumption)))
        (first
          | (go_at_call 33; refine (with_ok _ _ T kk vs _ ?_ ?_ hll hvn).mono ?_; (exact Hown.out.up (Below.refl _ _).drew); (exact Hst.out.up (Below.refl _ _).drew); rintro e w1 ⟨v1, rfl, hent1, hb1⟩))
      go_wp2
      go_roundw
      case rel =>
        exact ⟨k + 1, by omega, by go_num, by rw [Htk.out]; exact hent1, (hnx.drew).trans (hb1.mono hnx.size)⟩
      case measure => simp [intOf]; omega
    · go_wp2
      go_ret
      obtain rfl : k = us.length := by omega
      rw [List.take_of_length_le (by rw [Hlen.out]; omega)] at hown
      exact ⟨_, rfl, hown, hnx⟩

/-- what stands behind the box of One's step -/
theorem one_box (w : World) (sk : Int) (skey sval : Bs) : (w.alloc (.cells #[.int .i64 sk, encStr skey, encStr sval] 41)).cell? ⟨w.heap.size, 1, none⟩ = some (encStr skey) ∧ (w.alloc (.cells #[.int .i64 sk, encStr skey, encStr sval] 41)).cell? ⟨w.heap.size, 2, none⟩ = some (encStr sval) ∧ Below w.heap.size w (w.alloc (.cells #[.int .i64 sk, encStr skey, encStr sval] 41)) := by
  have hb := heap_alloc_new w (.cells #[.int .i64 sk, encStr skey, encStr sval] 41)
  exact ⟨by rw [Lib.cell_of_heap hb]; rfl, by rw [Lib.cell_of_heap hb]; rfl, (Below.refl _ _).alloc (Nat.le_refl _) _⟩

theorem one_strs {w : World} {base gg cap n : Nat} {vs : List Bs} {s : Bs} (h : w.ownsRow base 9 1 (.slice (some ⟨gg, 0, none⟩) n cap) n (vs.map encStr ++ [encStr s])) : Strs w (.slice (some ⟨gg, 0, none⟩) n cap) (vs ++ [s]) := by
  have hl := h.1
  have hn : n = (vs ++ [s]).length := by simp at hl ⊢; omega
  unfold Strs
  rw [← hn, List.map_append]
  exact Row.of_own h

set_option maxRecDepth 100000 in
set_option maxHeartbeats 1000000 in
theorem one_add (v : Value) (es : List Ent) (skey sval : Bs) (w : World) (h : Ents w v es) (hn : es.length ≤ 4294967295) (hv : ∀ q ∈ es, q.2.length ≤ 4294967295) :
    Calls Tryd.prog 48 #[v, .agg #[.int .i64 1, encStr skey, encStr sval]] w fun e w' => ∃ v', e = .returned v' ∧ Ents w' v' (withE es skey ((ofE es skey).getD [] ++ [sval])) ∧ Below w.heap.size w w' := by
  obtain ⟨j0, hj, hy0, hy1, hy2⟩ := info_parts Tryd.info9
  obtain ⟨hc1, hc2, hb0⟩ := one_box w 1 skey sval
  have hof := of_ok v es skey _ (h.up hb0) (by omega)
  have hvs : ((ofE es skey).getD []).length ≤ 4294967295 := by
    cases ho : ofE es skey with
    | none => simp
    | some vs => have := hv _ (ofE_mem ho); simpa using this
  generalize hvv : (ofE es skey).getD [] = vs at *
  have Hof := Lib.hid hof
  have Hent := Lib.hid h
  obtain ⟨us3, hin3, hl3, A3, c3, rfl, hc3, hx3⟩ := h
  clear hvv hof hin3 hl3 hx3
  have hone3 : ∀ u ∈ vs.map encStr, u.oneCell' = true := fun u hu => by
    obtain ⟨x, _, rfl⟩ := List.mem_map.1 hu
    rfl
  have m3 : 0 + vs.length ≤ maxLen := by simp only [maxLen]; omega
  have m4 : (0 + vs.length) * 16 ≤ 140737488355328 := by omega
  have m5 : vs.length + 1 ≤ maxLen := by simp only [maxLen]; omega
  have m6 : (vs.length + 1) * 16 ≤ 140737488355328 := by omega
  have m7 : (vs ++ [sval]).length ≤ 4294967296 := by simp; omega
  go_enter Tryd.func48, Tryd.ntmps48
  go_wp2_with (first
    | (go_at_call 32; refine (Hof.out).mono ?_; rintro e w' ⟨A5, c5, rfl, hst5, rfl⟩)
    | (at_builtin; refine wpList_append_row _ rfl (.tmp 19) (.tmp 20) 23 rfl (w.heap.size + 1) 9 j0 _ 1 16 Tryd.underlying23 hj hy0 hy1 hy2 rfl (by decide) (.slice none 0 0) 0 [] rfl (World.ownsRow_nil _ _ _ _) _ vs.length _ rfl hst5 hone3 m3 m4 (by simp) ?_; intro v1 w1 hown1 hg1 hat1; simp only [Nat.zero_add, List.nil_append] at hown1))
  have hs1 := hg1.size
  simp only [World.size_alloc] at hs1
  have hb1 : Below (w.heap.size + 1) (w.alloc (.cells #[.int .i64 1, encStr skey, encStr sval] 41)) w1 := (Below.refl _ _).grown hg1 (by simp) (fun j hj => by cases hj)
  have d1 : w1.cell? ⟨w.heap.size, 1, none⟩ = some (encStr skey) := (hb1.cell (by simp)).trans hc1
  have d2 : w1.cell? ⟨w.heap.size, 2, none⟩ = some (encStr sval) := (hb1.cell (by simp)).trans hc2
  have hb01 : Below w.heap.size w w1 := hb0.trans (hb1.mono (by omega))
  have hne : v1.ownBlock ≠ some w.heap.size := fun e => by
    have := (hown1.lt _ e).1
    omega
  clear hg1 hst5 hc1 hc2
  go_region_held3 (fun w' => w'.cell? ⟨w.heap.size, 1, none⟩ = some (encStr skey) ∧ w'.cell? ⟨w.heap.size, 2, none⟩ = some (encStr sval))
    (first | go_keep | (go_split_ands; refine ⟨?_, ?_⟩ <;> (rw [hgrow.cell_far _ (by simp; omega) (Ne.symm hne)]; assumption)) | (go_split_ands; refine ⟨?_, ?_⟩ <;> (rw [hb3.cell (by have := hgrow.size; simp at this; simp; omega)]; assumption)))
    (first
      | (refine step_append_lies _ (by rfl) _ _ _ (by rfl) (w.heap.size + 1) 9 j0 _ 1 16 Tryd.underlying23 hj hy0 hy1 hy2 rfl (by omega) _ _ _ (by rfl) ((hown1.alloc _).drew) ⟨w1.heap.size, 0, none⟩ 1 1 [encStr sval] (by rfl) (by rfl) (World.news_of_block (cs := #[encStr sval]) (t := 9) (fr := (0, 0)) (heap_alloc_new w1 _)) (by simp [Value.oneCell']) (by omega) m5 m6 (by simp; omega) (w1.heap.size + 1) (by simp) ?_; intro gg cap w2 hown2 hgrow hat hlt2)
      | (go_at_call 33; refine (with_ok _ _ es skey (vs ++ [sval]) _ ?_ ?_ hn m7).mono ?_; (exact Hent.out.up (((hb01.alloc (by omega) _).drew).grown hgrow (by simp; omega) (fun j hj => by have := (hown1.lt j hj).1; omega))); (exact one_strs hown2); rintro e w3 ⟨v3, rfl, hent3, hb3⟩))
  have hb02 : Below w.heap.size w w2 := ((hb01.alloc (by omega) _).drew).grown hgrow (by simp; omega) (fun j hj => by have := (hown1.lt j hj).1; omega)
  go_wp2
  go_ret
  exact ⟨_, rfl, hent3, hb02.trans (hb3.mono hb02.size)⟩

set_option maxRecDepth 100000 in
set_option maxHeartbeats 1000000 in
theorem one_ok (v : Value) (es : List Ent) (s : Stp) (w : World) (h : Ents w v es) (hn : es.length ≤ 4294967295) (hv : ∀ q ∈ es, q.2.length ≤ 4294967295) :
    Calls Tryd.prog 48 #[v, .agg #[.int .i64 s.kind, encStr s.key, encStr s.val]] w fun e w' => ∃ v', e = .returned v' ∧ Ents w' v' (oneE es s) ∧ Below w.heap.size w w' := by
  obtain ⟨sk, skey, sval⟩ := s
  by_cases h1 : sk = 1
  · subst h1
    simp only [oneE, if_true]
    exact one_add v es skey sval w h hn hv
  · by_cases h2 : sk = 2
    · subst h2
      obtain ⟨hc1, hc2, hb0⟩ := one_box w 2 skey sval
      simp only [oneE, if_true, show ((2 : Int) = 1) = False from by decide, if_false]
      have Hent := Lib.hid h
      obtain ⟨us3, hin3, hl3, A3, c3, rfl, hc3, hx3⟩ := h
      clear hin3 hl3 hx3
      go_enter Tryd.func48, Tryd.ntmps48
      go_wp2_with fail
      refine (with_ok _ _ es skey [sval] _ ?_ ?_ hn (by simp)).mono ?_
      · exact Hent.out.up (hb0.alloc (by simp) _)
      · have := own_one (w.alloc (.cells #[.int .i64 2, encStr skey, encStr sval] 41)) 0 (encStr sval) (Nat.zero_le _)
        simp only [World.size_alloc] at this
        exact Row.of_own this
      rintro e w3 ⟨v3, rfl, hent3, hb3⟩
      go_wp2
      go_ret
      exact ⟨_, rfl, hent3, (hb0.alloc (by simp) _).trans (hb3.mono (by simp; omega))⟩
    · by_cases h3 : sk = 3
      · subst h3
        obtain ⟨hc1, hc2, hb0⟩ := one_box w 3 skey sval
        simp only [oneE, if_true, show ((3 : Int) = 1) = False from by decide, show ((3 : Int) = 2) = False from by decide, if_false]
        have Hent := Lib.hid h
        obtain ⟨us3, hin3, hl3, A3, c3, rfl, hc3, hx3⟩ := h
        clear hin3 hl3 hx3
        go_enter Tryd.func48, Tryd.ntmps48
        go_wp2_with (go_at_call 65; refine (without_ok _ es skey _ (Hent.out.up hb0) (by omega)).mono ?_; rintro e w3 ⟨v3, rfl, hent3, hb3⟩)
        go_ret
        exact ⟨_, rfl, hent3, hb0.trans (hb3.mono (by simp))⟩
      · have hone : oneE es ⟨sk, skey, sval⟩ = es := by simp [oneE, h1, h2, h3]
        rw [hone]
        obtain ⟨hc1, hc2, hb0⟩ := one_box w sk skey sval
        have Hent := Lib.hid h
        obtain ⟨us3, hin3, hl3, A3, c3, rfl, hc3, hx3⟩ := h
        have b1 : (sk == 1) = false := beq_eq_false_iff_ne.2 h1
        have b2 : (sk == 2) = false := beq_eq_false_iff_ne.2 h2
        have b3 : (sk == 3) = false := beq_eq_false_iff_ne.2 h3
        clear hin3 hl3 hx3 hone h1 h2 h3
        go_enter Tryd.func48, Tryd.ntmps48
        go_wp2
        go_ret
        exact ⟨_, rfl, Hent.out.up hb0, hb0⟩

set_option maxRecDepth 100000 in
set_option maxHeartbeats 1000000 in
theorem specRun_ok (v sv : Value) (es : List Ent) (ss : List Stp) (w : World) (h : Ents w v es) (hst : Stps w sv ss) (hn : es.length + ss.length ≤ 4294967295) (N : Nat) (hv : ∀ q ∈ es, q.2.length ≤ N) (hN : N + ss.length ≤ 4294967295) :
    Calls Tryd.prog 31 #[v, sv] w fun e w' => ∃ v', e = .returned v' ∧ Ents w' v' (runE es ss) ∧ Below w.heap.size w w' := by
  have htl := tidyE_length es
  have htv : ∀ q ∈ tidyE es, q.2.length ≤ N := fun q hq => hv q (tidyE_mem q hq)
  obtain ⟨hl, A, c, rfl, hc, hx⟩ := hst
  go_enter Tryd.func31, Tryd.ntmps31
  go_wp2_with (go_at_call 23; refine (tidy_ok v es w h (by omega) (fun q hq => by have := hv q hq; omega)).mono ?_; rintro e w1 ⟨v1, rfl, hent1, hb1⟩)
  go_loopw [5, 6] (fun v i wr => ∃ k : Nat, k ≤ ss.length ∧ i = .int .i64 k ∧ Ents wr v (playE (tidyE es) (ss.take k)) ∧ Below w.heap.size w wr) (fun _ i _ => ss.length - (intOf i).toNat)
  case atStart => exact ⟨0, Nat.zero_le _, rfl, hent1, hb1⟩
  case round =>
    obtain ⟨k, hk1, rfl, hown, hnx⟩ := hrel
    by_cases hlt : k < ss.length
    · obtain ⟨bb, off, rfl, hbl, hcell⟩ := hx (by omega)
      obtain ⟨s, hp⟩ : ∃ s, ss[k]? = some s := ⟨_, List.getElem?_eq_getElem hlt⟩
      obtain ⟨hc0, hc1, hc2⟩ := step_at hcell hp
      replace hc0 := (hnx.cell (p := ⟨bb, off + k * 3, none⟩) hbl).trans hc0
      replace hc1 := (hnx.cell (p := ⟨bb, off + k * 3 + 1, none⟩) hbl).trans hc1
      replace hc2 := (hnx.cell (p := ⟨bb, off + k * 3 + 2, none⟩) hbl).trans hc2
      have Hstep : Hid (playE (tidyE es) (ss.take (k + 1)) = oneE (playE (tidyE es) (ss.take k)) s) := by
        rw [List.getElem?_eq_getElem hlt, Option.some.injEq] at hp
        show playE _ _ = _
        rw [List.take_succ_eq_append_getElem hlt, playE_append, hp]
        rfl
      have hml : (playE (tidyE es) (ss.take k)).length ≤ 4294967295 := by
        have := playE_length (ss.take k) (tidyE es)
        have := List.length_take_le k ss
        omega
      have hvl : ∀ q ∈ playE (tidyE es) (ss.take k), q.2.length ≤ 4294967295 := fun q hq => by
        have := playE_vals (ss.take k) htv q hq
        have := List.length_take_le k ss
        omega
      have Hone := Lib.hid (fun v h => one_ok v _ s wr h hml hvl)
      obtain ⟨sk, skey, sval⟩ := s
      generalize playE (tidyE es) (ss.take k) = mk at hown Hstep hml hvl Hone
      have Hown := Lib.hid hown
      obtain ⟨us3, hin3, hl3, A3, c3, rfl, hc3, hx3⟩ := hown
      clear hcell hx hp hin3 hl3 hx3 hml hvl
      go_wp2_with (go_at_call 48; refine (Hone.out _ Hown.out).mono ?_; rintro e w2 ⟨v2, rfl, hent2, hb2⟩)
      go_roundw
      case rel => exact ⟨k + 1, by omega, by go_num, by rw [Hstep.out]; exact hent2, hnx.trans (hb2.mono hnx.size)⟩
      case measure => simp [intOf]; omega
    · go_wp2
      go_ret
      obtain rfl : k = ss.length := by omega
      rw [List.take_length] at hown
      exact ⟨_, rfl, hown, hnx⟩

end Go.Proofs.YtjgjiaflccdflaaDoor
