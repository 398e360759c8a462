/-
  The walk of spec.Woven. Conditions: scripts and turns of at most 2^32.
-/
import Derived.Test.YtjgjiaflccdflaaDoorScrA
namespace Go.Proofs.YtjgjiaflccdflaaDoor
open Go.RowKit Go.Maps

theorem wov_b {ss tt : List Stp} {bs : List Bool} {i k n f : Nat} {t : Stp} (hk : tt[k]? = some t) (h : i = ss.length ∨ (bs.drop n).headD false = true) (hi : i ≤ ss.length) :
    wovF (f + 1) (ss.drop i) (tt.drop k) (bs.drop n) = t :: wovF f (ss.drop i) (tt.drop (k + 1)) (bs.drop (n + 1)) := by
  have hkl := (List.getElem?_eq_some_iff.1 hk).1
  have e : tt.drop k = t :: tt.drop (k + 1) := by
    rw [List.getElem?_eq_getElem hkl, Option.some.injEq] at hk
    rw [← hk]; exact List.drop_eq_getElem_cons hkl
  have e2 : (bs.drop n).tail = bs.drop (n + 1) := by rw [List.tail_drop]
  rw [e]
  cases hs : ss.drop i with
  | nil => show t :: wovF f [] _ (bs.drop n).tail = _; rw [e2]
  | cons x r =>
    rcases h with h | h
    · subst h; rw [List.drop_length] at hs; cases hs
    · show (if (bs.drop n).headD false then t :: wovF f (x :: r) (tt.drop (k + 1)) (bs.drop n).tail else _) = _
      rw [h, if_pos rfl, e2]

theorem wov_a {ss tt : List Stp} {bs : List Bool} {i k n f : Nat} {s : Stp} (hi : ss[i]? = some s) (h : k = tt.length ∨ (bs.drop n).headD false = false) :
    wovF (f + 1) (ss.drop i) (tt.drop k) (bs.drop n) = s :: wovF f (ss.drop (i + 1)) (tt.drop k) (bs.drop (n + 1)) := by
  have hil := (List.getElem?_eq_some_iff.1 hi).1
  have e : ss.drop i = s :: ss.drop (i + 1) := by
    rw [List.getElem?_eq_getElem hil, Option.some.injEq] at hi
    rw [← hi]; exact List.drop_eq_getElem_cons hil
  have e2 : (bs.drop n).tail = bs.drop (n + 1) := by rw [List.tail_drop]
  rw [e]
  cases hs : tt.drop k with
  | nil => show s :: wovF f _ [] (bs.drop n).tail = _; rw [e2]
  | cons x r =>
    rcases h with h | h
    · subst h; rw [List.drop_length] at hs; cases hs
    · show (if (bs.drop n).headD false then _ else s :: wovF f (ss.drop (i + 1)) (x :: r) (bs.drop n).tail) = _
      rw [h, if_neg (by simp), e2]

theorem wov_end (f : Nat) (ss tt : List Stp) (bs : List Bool) : wovF f (ss.drop ss.length) (tt.drop tt.length) bs = [] := by
  rw [List.drop_length, List.drop_length]
  cases f <;> rfl

theorem turn_out {bs : List Bool} {n : Nat} (h : bs.length ≤ n) : (bs.drop n).headD false = false := by
  rw [List.drop_of_length_le h]; rfl

theorem turn_at {bs : List Bool} {n : Nat} {b : Bool} (h : bs[n]? = some b) : (bs.drop n).headD false = b := by
  have hl := (List.getElem?_eq_some_iff.1 h).1
  rw [List.getElem?_eq_getElem hl, Option.some.injEq] at h
  rw [List.drop_eq_getElem_cons hl, h]; rfl

set_option maxRecDepth 100000 in
set_option maxHeartbeats 2000000 in
theorem woven_ok (v u tv : Value) (ss tt : List Stp) (bs : List Bool) (w : World) (h : Stps w v ss) (h' : Stps w u tt) (hb : Row w tv bs.length 1 (bs.map Value.bool)) (hn : ss.length + tt.length ≤ 4294967296) :
    Calls Tryd.prog 36 #[v, u, tv] w fun e w' => ∃ v', e = .returned v' ∧ Stps w' v' (wovenE ss tt bs) ∧ Below w.heap.size w w' := by
  obtain ⟨i0, hi, hz0, hz1, hz2⟩ := info_parts Tryd.info41
  obtain ⟨_, A, c, rfl, hnc, hx⟩ := h
  obtain ⟨_, A2, c2, rfl, hnc2, hx2⟩ := h'
  obtain ⟨_, A3, c3, rfl, hnc3, hx3⟩ := hb
  have Hx1 := Lib.hid hx
  have Hx2 := Lib.hid hx2
  have Hx3 := Lib.hid hx3
  clear hx hx2 hx3
  go_enter Tryd.func36, Tryd.ntmps36
  go_wp2
  go_loopw [7, 8, 9, 10] (fun o iv kv nv wr => ∃ (i k : Nat) (L : List Stp), i ≤ ss.length ∧ k ≤ tt.length ∧ iv = .int .i64 i ∧ kv = .int .i64 k ∧ nv = .int .i64 (i + k : Nat) ∧ Hid (L ++ wovF (ss.length + tt.length - (i + k)) (ss.drop i) (tt.drop k) (bs.drop (i + k)) = wovenE ss tt bs) ∧ L.length = i + k ∧ wr.ownsRow w.heap.size 41 3 o L.length (L.flatMap stepCells) ∧ Below w.heap.size w wr)
    (fun _ iv kv _ _ => ss.length + tt.length - ((intOf iv).toNat + (intOf kv).toNat))
  case atStart => exact ⟨0, 0, [], Nat.zero_le _, Nat.zero_le _, rfl, rfl, rfl, rfl, rfl, World.ownsRow_nil _ _ _ _, Below.refl _ _⟩
  case round =>
    obtain ⟨i, k, L, hi1, hk1, rfl, rfl, rfl, HL, hLl, hown, hnx⟩ := hrel
    have hm1 : L.length + 1 ≤ maxLen := by simp only [maxLen]; omega
    have hm2 : (L.length + 1) * 40 ≤ 140737488355328 := by omega
    have hm3 := hnx.size
    have hnn : ((i + k : Nat) : Int) = (i : Int) + (k : Int) := by omega
    rw [hnn]
    clear hnn
    have HLl := Lib.hid hLl
    by_cases hil : i < ss.length
    · have hie : ((i : Int) == (ss.length : Int)) = false := by rw [beq_eq_false_iff_ne]; omega
      by_cases hnl : i + k < bs.length
      · obtain ⟨bt, hbt⟩ : ∃ bt, bs[i + k]? = some bt := ⟨_, List.getElem?_eq_getElem hnl⟩
        obtain ⟨b3, off3, rfl, hbl3, hcell3⟩ := Hx3.out (by omega)
        have hd3 : wr.cell? ⟨b3, off3 + (i + k), none⟩ = some (.bool bt) := (hnx.cell (p := ⟨b3, off3 + (i + k), none⟩) hbl3).trans (hcell3 (i + k) _ (by rw [List.getElem?_map, hbt]; rfl))
        have Htu := Lib.hid (turn_at hbt)
        clear hcell3 hbt
        cases bt with
        | true =>
          by_cases hkl : k < tt.length
          · skip
            obtain ⟨s, hp⟩ : ∃ s, tt[k]? = some s := ⟨_, List.getElem?_eq_getElem hkl⟩
            obtain ⟨b2, off2, rfl, hbl2, hcell2⟩ := Hx2.out (by omega)
            obtain ⟨hc0, hc1, hc2⟩ := step_at hcell2 hp
            replace hc0 := (hnx.cell (p := ⟨b2, off2 + k * 3, none⟩) hbl2).trans hc0
            replace hc1 := (hnx.cell (p := ⟨b2, off2 + k * 3 + 1, none⟩) hbl2).trans hc1
            replace hc2 := (hnx.cell (p := ⟨b2, off2 + k * 3 + 2, none⟩) hbl2).trans hc2
            have Hw : Hid (L ++ [s] ++ wovF (ss.length + tt.length - (i + (k + 1))) (ss.drop i) (tt.drop (k + 1)) (bs.drop (i + k + 1)) = wovenE ss tt bs) := by
              have h1 := HL.out
              rw [show ss.length + tt.length - (i + k) = (ss.length + tt.length - (i + (k + 1))) + 1 by omega, wov_b hp (.inr Htu.out) hi1] at h1
              show L ++ [s] ++ _ = _
              rw [← h1]; simp
            obtain ⟨sk, skey, sval⟩ := s
            clear hcell2 hp
            go_wp2_with (at_builtin; refine wpList_append_own_at _ rfl _ _ 30 rfl w.heap.size 41 i0 _ 3 40 Tryd.underlying30 hi hz0 hz1 hz2 rfl (by decide) _ _ _ rfl (hown.alloc _) ⟨wr.heap.size, 0, none⟩ 1 1 [.int .i64 sk, encStr skey, encStr sval] rfl rfl (World.news_of_block (cs := #[.int .i64 sk, encStr skey, encStr sval]) (t := 41) (fr := (0, 0)) (heap_alloc_new wr _)) (by simp [Value.oneCell']) hm1 hm2 (by simp; omega) ?_; intro v' w2 hown' hgrow hnil hloc)
            go_roundw
            case rel =>
              refine ⟨i, k + 1, _, hi1, by omega, by rfl, by go_num, by go_num, Hw, by simp; omega, ?_, (hnx.alloc hm3 _).grown hgrow (by simp; omega) (fun j hj => (hown.lt j hj).1)⟩
              rw [List.flatMap_append, List.length_append]
              exact hown'
            case measure => simp [intOf]; omega
          · have hke : k = tt.length := by omega
            have Hke := Lib.hid hke
            clear hke
            obtain ⟨s, hp⟩ : ∃ s, ss[i]? = some s := ⟨_, List.getElem?_eq_getElem hil⟩
            obtain ⟨b1, off1, rfl, hbl1, hcell1⟩ := Hx1.out (by omega)
            obtain ⟨hc0, hc1, hc2⟩ := step_at hcell1 hp
            replace hc0 := (hnx.cell (p := ⟨b1, off1 + i * 3, none⟩) hbl1).trans hc0
            replace hc1 := (hnx.cell (p := ⟨b1, off1 + i * 3 + 1, none⟩) hbl1).trans hc1
            replace hc2 := (hnx.cell (p := ⟨b1, off1 + i * 3 + 2, none⟩) hbl1).trans hc2
            have Hw : Hid (L ++ [s] ++ wovF (ss.length + tt.length - (i + 1 + k)) (ss.drop (i + 1)) (tt.drop k) (bs.drop (i + 1 + k)) = wovenE ss tt bs) := by
              have h1 := HL.out
              rw [show ss.length + tt.length - (i + k) = (ss.length + tt.length - (i + 1 + k)) + 1 by omega, wov_a hp (.inl Hke.out)] at h1
              show L ++ [s] ++ _ = _
              rw [← h1, show i + 1 + k = i + k + 1 by omega]; simp
            obtain ⟨sk, skey, sval⟩ := s
            clear hcell1 hp
            go_wp2_with (at_builtin; refine wpList_append_own_at _ rfl _ _ 30 rfl w.heap.size 41 i0 _ 3 40 Tryd.underlying30 hi hz0 hz1 hz2 rfl (by decide) _ _ _ rfl (hown.alloc _) ⟨wr.heap.size, 0, none⟩ 1 1 [.int .i64 sk, encStr skey, encStr sval] rfl rfl (World.news_of_block (cs := #[.int .i64 sk, encStr skey, encStr sval]) (t := 41) (fr := (0, 0)) (heap_alloc_new wr _)) (by simp [Value.oneCell']) hm1 hm2 (by simp; omega) ?_; intro v' w2 hown' hgrow hnil hloc)
            go_roundw
            case rel =>
              refine ⟨i + 1, k, _, by omega, hk1, by go_num, by rfl, by go_num, Hw, by simp; omega, ?_, (hnx.alloc hm3 _).grown hgrow (by simp; omega) (fun j hj => (hown.lt j hj).1)⟩
              rw [List.flatMap_append, List.length_append]
              exact hown'
            case measure => simp [intOf]; omega
        | false =>
          obtain ⟨s, hp⟩ : ∃ s, ss[i]? = some s := ⟨_, List.getElem?_eq_getElem hil⟩
          obtain ⟨b1, off1, rfl, hbl1, hcell1⟩ := Hx1.out (by omega)
          obtain ⟨hc0, hc1, hc2⟩ := step_at hcell1 hp
          replace hc0 := (hnx.cell (p := ⟨b1, off1 + i * 3, none⟩) hbl1).trans hc0
          replace hc1 := (hnx.cell (p := ⟨b1, off1 + i * 3 + 1, none⟩) hbl1).trans hc1
          replace hc2 := (hnx.cell (p := ⟨b1, off1 + i * 3 + 2, none⟩) hbl1).trans hc2
          have Hw : Hid (L ++ [s] ++ wovF (ss.length + tt.length - (i + 1 + k)) (ss.drop (i + 1)) (tt.drop k) (bs.drop (i + 1 + k)) = wovenE ss tt bs) := by
            have h1 := HL.out
            rw [show ss.length + tt.length - (i + k) = (ss.length + tt.length - (i + 1 + k)) + 1 by omega, wov_a hp (.inr Htu.out)] at h1
            show L ++ [s] ++ _ = _
            rw [← h1, show i + 1 + k = i + k + 1 by omega]; simp
          obtain ⟨sk, skey, sval⟩ := s
          clear hcell1 hp
          go_wp2_with (at_builtin; refine wpList_append_own_at _ rfl _ _ 30 rfl w.heap.size 41 i0 _ 3 40 Tryd.underlying30 hi hz0 hz1 hz2 rfl (by decide) _ _ _ rfl (hown.alloc _) ⟨wr.heap.size, 0, none⟩ 1 1 [.int .i64 sk, encStr skey, encStr sval] rfl rfl (World.news_of_block (cs := #[.int .i64 sk, encStr skey, encStr sval]) (t := 41) (fr := (0, 0)) (heap_alloc_new wr _)) (by simp [Value.oneCell']) hm1 hm2 (by simp; omega) ?_; intro v' w2 hown' hgrow hnil hloc)
          go_roundw
          case rel =>
            refine ⟨i + 1, k, _, by omega, hk1, by go_num, by rfl, by go_num, Hw, by simp; omega, ?_, (hnx.alloc hm3 _).grown hgrow (by simp; omega) (fun j hj => (hown.lt j hj).1)⟩
            rw [List.flatMap_append, List.length_append]
            exact hown'
          case measure => simp [intOf]; omega
      · have Htu := Lib.hid (turn_out (bs := bs) (n := i + k) (by omega))
        obtain ⟨s, hp⟩ : ∃ s, ss[i]? = some s := ⟨_, List.getElem?_eq_getElem hil⟩
        obtain ⟨b1, off1, rfl, hbl1, hcell1⟩ := Hx1.out (by omega)
        obtain ⟨hc0, hc1, hc2⟩ := step_at hcell1 hp
        replace hc0 := (hnx.cell (p := ⟨b1, off1 + i * 3, none⟩) hbl1).trans hc0
        replace hc1 := (hnx.cell (p := ⟨b1, off1 + i * 3 + 1, none⟩) hbl1).trans hc1
        replace hc2 := (hnx.cell (p := ⟨b1, off1 + i * 3 + 2, none⟩) hbl1).trans hc2
        have Hw : Hid (L ++ [s] ++ wovF (ss.length + tt.length - (i + 1 + k)) (ss.drop (i + 1)) (tt.drop k) (bs.drop (i + 1 + k)) = wovenE ss tt bs) := by
          have h1 := HL.out
          rw [show ss.length + tt.length - (i + k) = (ss.length + tt.length - (i + 1 + k)) + 1 by omega, wov_a hp (.inr Htu.out)] at h1
          show L ++ [s] ++ _ = _
          rw [← h1, show i + 1 + k = i + k + 1 by omega]; simp
        obtain ⟨sk, skey, sval⟩ := s
        clear hcell1 hp
        go_wp2_with (at_builtin; refine wpList_append_own_at _ rfl _ _ 30 rfl w.heap.size 41 i0 _ 3 40 Tryd.underlying30 hi hz0 hz1 hz2 rfl (by decide) _ _ _ rfl (hown.alloc _) ⟨wr.heap.size, 0, none⟩ 1 1 [.int .i64 sk, encStr skey, encStr sval] rfl rfl (World.news_of_block (cs := #[.int .i64 sk, encStr skey, encStr sval]) (t := 41) (fr := (0, 0)) (heap_alloc_new wr _)) (by simp [Value.oneCell']) hm1 hm2 (by simp; omega) ?_; intro v' w2 hown' hgrow hnil hloc)
        go_roundw
        case rel =>
          refine ⟨i + 1, k, _, by omega, hk1, by go_num, by rfl, by go_num, Hw, by simp; omega, ?_, (hnx.alloc hm3 _).grown hgrow (by simp; omega) (fun j hj => (hown.lt j hj).1)⟩
          rw [List.flatMap_append, List.length_append]
          exact hown'
        case measure => simp [intOf]; omega
    · have hie : ((i : Int) == (ss.length : Int)) = true := by rw [beq_iff_eq]; omega
      have hieq : i = ss.length := by omega
      have Hie := Lib.hid hieq
      clear hieq
      by_cases hkl : k < tt.length
      · by_cases hnl : i + k < bs.length
        · obtain ⟨bt, hbt⟩ : ∃ bt, bs[i + k]? = some bt := ⟨_, List.getElem?_eq_getElem hnl⟩
          obtain ⟨b3, off3, rfl, hbl3, hcell3⟩ := Hx3.out (by omega)
          have hd3 : wr.cell? ⟨b3, off3 + (i + k), none⟩ = some (.bool bt) := (hnx.cell (p := ⟨b3, off3 + (i + k), none⟩) hbl3).trans (hcell3 (i + k) _ (by rw [List.getElem?_map, hbt]; rfl))
          clear hcell3 hbt
          obtain ⟨s, hp⟩ : ∃ s, tt[k]? = some s := ⟨_, List.getElem?_eq_getElem hkl⟩
          obtain ⟨b2, off2, rfl, hbl2, hcell2⟩ := Hx2.out (by omega)
          obtain ⟨hc0, hc1, hc2⟩ := step_at hcell2 hp
          replace hc0 := (hnx.cell (p := ⟨b2, off2 + k * 3, none⟩) hbl2).trans hc0
          replace hc1 := (hnx.cell (p := ⟨b2, off2 + k * 3 + 1, none⟩) hbl2).trans hc1
          replace hc2 := (hnx.cell (p := ⟨b2, off2 + k * 3 + 2, none⟩) hbl2).trans hc2
          have Hw : Hid (L ++ [s] ++ wovF (ss.length + tt.length - (i + (k + 1))) (ss.drop i) (tt.drop (k + 1)) (bs.drop (i + k + 1)) = wovenE ss tt bs) := by
            have h1 := HL.out
            rw [show ss.length + tt.length - (i + k) = (ss.length + tt.length - (i + (k + 1))) + 1 by omega, wov_b hp (.inl Hie.out) hi1] at h1
            show L ++ [s] ++ _ = _
            rw [← h1]; simp
          obtain ⟨sk, skey, sval⟩ := s
          clear hcell2 hp
          go_wp2_with (at_builtin; refine wpList_append_own_at _ rfl _ _ 30 rfl w.heap.size 41 i0 _ 3 40 Tryd.underlying30 hi hz0 hz1 hz2 rfl (by decide) _ _ _ rfl (hown.alloc _) ⟨wr.heap.size, 0, none⟩ 1 1 [.int .i64 sk, encStr skey, encStr sval] rfl rfl (World.news_of_block (cs := #[.int .i64 sk, encStr skey, encStr sval]) (t := 41) (fr := (0, 0)) (heap_alloc_new wr _)) (by simp [Value.oneCell']) hm1 hm2 (by simp; omega) ?_; intro v' w2 hown' hgrow hnil hloc)
          go_roundw
          case rel =>
            refine ⟨i, k + 1, _, hi1, by omega, by rfl, by go_num, by go_num, Hw, by simp; omega, ?_, (hnx.alloc hm3 _).grown hgrow (by simp; omega) (fun j hj => (hown.lt j hj).1)⟩
            rw [List.flatMap_append, List.length_append]
            exact hown'
          case measure => simp [intOf]; omega
        · skip
          obtain ⟨s, hp⟩ : ∃ s, tt[k]? = some s := ⟨_, List.getElem?_eq_getElem hkl⟩
          obtain ⟨b2, off2, rfl, hbl2, hcell2⟩ := Hx2.out (by omega)
          obtain ⟨hc0, hc1, hc2⟩ := step_at hcell2 hp
          replace hc0 := (hnx.cell (p := ⟨b2, off2 + k * 3, none⟩) hbl2).trans hc0
          replace hc1 := (hnx.cell (p := ⟨b2, off2 + k * 3 + 1, none⟩) hbl2).trans hc1
          replace hc2 := (hnx.cell (p := ⟨b2, off2 + k * 3 + 2, none⟩) hbl2).trans hc2
          have Hw : Hid (L ++ [s] ++ wovF (ss.length + tt.length - (i + (k + 1))) (ss.drop i) (tt.drop (k + 1)) (bs.drop (i + k + 1)) = wovenE ss tt bs) := by
            have h1 := HL.out
            rw [show ss.length + tt.length - (i + k) = (ss.length + tt.length - (i + (k + 1))) + 1 by omega, wov_b hp (.inl Hie.out) hi1] at h1
            show L ++ [s] ++ _ = _
            rw [← h1]; simp
          obtain ⟨sk, skey, sval⟩ := s
          clear hcell2 hp
          go_wp2_with (at_builtin; refine wpList_append_own_at _ rfl _ _ 30 rfl w.heap.size 41 i0 _ 3 40 Tryd.underlying30 hi hz0 hz1 hz2 rfl (by decide) _ _ _ rfl (hown.alloc _) ⟨wr.heap.size, 0, none⟩ 1 1 [.int .i64 sk, encStr skey, encStr sval] rfl rfl (World.news_of_block (cs := #[.int .i64 sk, encStr skey, encStr sval]) (t := 41) (fr := (0, 0)) (heap_alloc_new wr _)) (by simp [Value.oneCell']) hm1 hm2 (by simp; omega) ?_; intro v' w2 hown' hgrow hnil hloc)
          go_roundw
          case rel =>
            refine ⟨i, k + 1, _, hi1, by omega, by rfl, by go_num, by go_num, Hw, by simp; omega, ?_, (hnx.alloc hm3 _).grown hgrow (by simp; omega) (fun j hj => (hown.lt j hj).1)⟩
            rw [List.flatMap_append, List.length_append]
            exact hown'
          case measure => simp [intOf]; omega
      · have hkeq : k = tt.length := by omega
        have Hke := Lib.hid hkeq
        clear hkeq
        go_wp2
        go_ret
        refine ⟨_, rfl, ?_, hnx⟩
        have h1 := HL.out
        rw [Hie.out, Hke.out, wov_end, List.append_nil] at h1
        rw [← h1]
        exact Row.of_own hown

end Go.Proofs.YtjgjiaflccdflaaDoor
