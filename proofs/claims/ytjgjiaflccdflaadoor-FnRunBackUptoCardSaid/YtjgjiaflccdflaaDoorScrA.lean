/-
  The walks of spec.About, spec.Apart and spec.Decided. Conditions: scripts of at most 2^32 steps.
-/
import Derived.Test.YtjgjiaflccdflaaDoorWakes
import Derived.Test.YtjgjiaflccdflaaDoorPlainA
namespace Go.Proofs.YtjgjiaflccdflaaDoor
open Go.RowKit Go.Maps

set_option maxRecDepth 100000 in
set_option maxHeartbeats 1000000 in
theorem about_ok (v : Value) (ss : List Stp) (key : Bs) (w : World) (h : Stps w v ss) (hn : ss.length ≤ 4294967296) :
    Calls Tryd.prog 25 #[v, encStr key] w fun e w' => ∃ v', e = .returned v' ∧ Stps w' v' (aboutE ss key) ∧ Below w.heap.size w w' := by
  obtain ⟨i0, hi, hz0, hz1, hz2⟩ := info_parts Tryd.info41
  obtain ⟨_, A, c, rfl, hnc, hx⟩ := h
  go_enter Tryd.func25, Tryd.ntmps25
  go_wp2
  go_loopw [5, 6] (fun v i wr => ∃ k : Nat, k ≤ ss.length ∧ i = .int .i64 k ∧ wr.ownsRow w.heap.size 41 3 v (aboutE (ss.take k) key).length ((aboutE (ss.take k) key).flatMap stepCells) ∧ Below w.heap.size w wr)
    (fun _ i _ => ss.length - (intOf i).toNat)
  case atStart => exact ⟨0, Nat.zero_le _, rfl, World.ownsRow_nil _ _ _ _, Below.refl _ _⟩
  case round =>
    obtain ⟨k, hk, rfl, hown, hnx⟩ := hrel
    by_cases hlt : k < ss.length
    · obtain ⟨b, off, rfl, hbl, hcell⟩ := hx (by omega)
      obtain ⟨s, hp⟩ : ∃ s, ss[k]? = some s := ⟨_, List.getElem?_eq_getElem hlt⟩
      obtain ⟨hc0, hc1, hc2⟩ := step_at hcell hp
      replace hc0 := (hnx.cell (p := ⟨b, off + k * 3, none⟩) hbl).trans hc0
      replace hc1 := (hnx.cell (p := ⟨b, off + k * 3 + 1, none⟩) hbl).trans hc1
      replace hc2 := (hnx.cell (p := ⟨b, off + k * 3 + 2, none⟩) hbl).trans hc2
      have Htk : Hid (ss.take (k + 1) = ss.take k ++ [s]) := by
        rw [List.getElem?_eq_getElem hlt, Option.some.injEq] at hp
        show ss.take (k + 1) = _
        rw [List.take_succ_eq_append_getElem hlt, hp]
      have hll : (aboutE (ss.take k) key).length ≤ k := Nat.le_trans (List.length_filter_le _ _) (List.length_take_le _ _)
      generalize hL : aboutE (ss.take k) key = L at hown hll
      have HL := Lib.hid hL
      obtain ⟨sk, skey, sval⟩ := s
      clear hcell hx hp hL
      have hm1 : L.length + 1 ≤ maxLen := by simp only [maxLen]; omega
      have hm2 : (L.length + 1) * 40 ≤ 140737488355328 := by omega
      have hm3 := hnx.size
      by_cases hkk : skey = key
      · have hb : (skey != key) = false := by simp [hkk]
        have hb2 : (skey == key) = true := beq_iff_eq.2 hkk
        have Hw : Hid (aboutE (ss.take (k + 1)) key = L ++ [⟨sk, skey, sval⟩]) := by
          show aboutE _ key = _
          rw [Htk.out, about_append, HL.out, about_cons, if_pos hkk]
          rfl
        clear hkk
        go_wp2_with (at_builtin; refine wpList_append_own_at _ rfl _ _ 30 rfl w.heap.size 41 i0 _ 3 40 Tryd.underlying30 hi hz0 hz1 hz2 rfl (by decide) _ _ _ rfl (hown.alloc _) ⟨wr.heap.size, 0, none⟩ 1 1 [.int .i64 sk, encStr skey, encStr sval] rfl rfl (World.news_of_block (cs := #[.int .i64 sk, encStr skey, encStr sval]) (t := 41) (fr := (0, 0)) (heap_alloc_new wr _)) (by simp [Value.oneCell']) hm1 hm2 (by simp; omega) ?_; intro v' w2 hown' hgrow hnil hloc)
        go_roundw
        case rel =>
          refine ⟨k + 1, by omega, by go_num, ?_, (hnx.alloc hm3 _).grown hgrow (by simp; omega) (fun j hj => (hown.lt j hj).1)⟩
          rw [Hw.out, List.flatMap_append, List.length_append]
          exact hown'
        case measure => simp [intOf]; omega
      · have hb : (skey != key) = true := by simp [hkk]
        have hb2 : (skey == key) = false := beq_eq_false_iff_ne.2 hkk
        have Hw : Hid (aboutE (ss.take (k + 1)) key = L) := by
          show aboutE _ key = _
          rw [Htk.out, about_append, HL.out, about_cons, if_neg hkk]
          exact List.append_nil _
        clear hkk
        go_wp2
        go_roundw
        case rel => exact ⟨k + 1, by omega, by go_num, by rw [Hw.out]; exact hown, hnx⟩
        case measure => simp [intOf]; omega
    · go_wp2
      go_ret
      obtain rfl : k = ss.length := by omega
      rw [List.take_length] at hown
      exact ⟨_, rfl, Row.of_own hown, hnx⟩

end Go.Proofs.YtjgjiaflccdflaaDoor
