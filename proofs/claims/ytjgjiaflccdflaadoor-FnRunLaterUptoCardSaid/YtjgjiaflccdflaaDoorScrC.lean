/-
  The walk of spec.Short. Conditions: scripts of at most 2^32 steps.
-/
import Derived.Test.YtjgjiaflccdflaaDoorScrA
namespace Go.Proofs.YtjgjiaflccdflaaDoor
open Go.RowKit Go.Maps

/-- what is kept of the first steps -/
def shortP : List Stp → Nat → List Stp
  | _, 0 => []
  | [], _ => []
  | s :: r, k + 1 => (if laterE s.key r then [] else [s]) ++ shortP r k

theorem shortP_step : ∀ (l : List Stp) (k : Nat) (s : Stp), l[k]? = some s → shortP l (k + 1) = shortP l k ++ (if laterE s.key (l.drop (k + 1)) then [] else [s])
  | [], k, s, h => by simp at h
  | x :: r, 0, s, h => by
    simp at h
    subst h
    cases r <;> simp [shortP]
  | x :: r, k + 1, s, h => by
    have ih := shortP_step r k s (by simpa using h)
    show (if laterE x.key r then [] else [x]) ++ shortP r (k + 1) = ((if laterE x.key r then [] else [x]) ++ shortP r k) ++ _
    rw [ih, List.append_assoc]
    rfl

theorem shortP_end : ∀ (l : List Stp), shortP l l.length = shortE l
  | [] => rfl
  | x :: r => by
    show (if laterE x.key r then [] else [x]) ++ shortP r r.length = shortE (x :: r)
    rw [shortP_end r, shortE]
    split <;> rfl

theorem shortP_len : ∀ (l : List Stp) (k : Nat), (shortP l k).length ≤ k
  | _, 0 => by cases ‹List Stp› <;> simp [shortP]
  | [], k + 1 => by simp [shortP]
  | x :: r, k + 1 => by
    have := shortP_len r k
    show ((if laterE x.key r then [] else [x]) ++ shortP r k).length ≤ _
    split <;> simp <;> omega

theorem later_snoc (k : Bs) (l : List Stp) (s : Stp) : laterE k (l ++ [s]) = (laterE k l || (s.key == k && (s.kind == 2 || s.kind == 3))) := by
  unfold laterE; simp

set_option maxRecDepth 100000 in
set_option maxHeartbeats 1000000 in
theorem short_ok (v : Value) (ss : List Stp) (w : World) (h : Stps w v ss) (hn : ss.length ≤ 4294967296) :
    Calls Tryd.prog 30 #[v] w fun e w' => ∃ v', e = .returned v' ∧ Stps w' v' (shortE ss) ∧ Below w.heap.size w w' := by
  obtain ⟨i0, hi, hz0, hz1, hz2⟩ := info_parts Tryd.info41
  obtain ⟨_, A, c, rfl, hnc, hx⟩ := h
  have Hx := Lib.hid hx
  clear hx
  go_enter Tryd.func30, Tryd.ntmps30
  go_wp2
  go_loopw [3, 4] (fun v i wr => ∃ k : Nat, k ≤ ss.length ∧ i = .int .i64 k ∧ wr.ownsRow w.heap.size 41 3 v (shortP ss k).length ((shortP ss k).flatMap stepCells) ∧ Below w.heap.size w wr)
    (fun _ i _ => ss.length - (intOf i).toNat)
  case atStart => exact ⟨0, Nat.zero_le _, rfl, by cases ss <;> exact World.ownsRow_nil _ _ _ _, Below.refl _ _⟩
  case round =>
    obtain ⟨k, hk, rfl, hown, hnx⟩ := hrel
    by_cases hlt : k < ss.length
    · obtain ⟨b, off, rfl, hbl, hcell⟩ := Hx.out (by omega)
      obtain ⟨s, hp⟩ : ∃ s, ss[k]? = some s := ⟨_, List.getElem?_eq_getElem hlt⟩
      obtain ⟨hc0, hc1, hc2⟩ := step_at hcell hp
      replace hc0 := (hnx.cell (p := ⟨b, off + k * 3, none⟩) hbl).trans hc0
      replace hc1 := (hnx.cell (p := ⟨b, off + k * 3 + 1, none⟩) hbl).trans hc1
      replace hc2 := (hnx.cell (p := ⟨b, off + k * 3 + 2, none⟩) hbl).trans hc2
      have Hst := Lib.hid (shortP_step ss k s hp)
      have hll := shortP_len ss k
      generalize hL : shortP ss k = L at *
      obtain ⟨sk, skey, sval⟩ := s
      have Hcell := Lib.hid hcell
      clear hcell hp hL
      go_wp2_with fail
      go_loopw [5, 6] (fun f i wx => ∃ j n : Nat, k + 1 ≤ j ∧ j ≤ ss.length ∧ i = .int .i64 j ∧ f = .bool (laterE skey ((ss.drop (k + 1)).take (j - (k + 1)))) ∧ wx = wr.drewN n) (fun _ i _ => ss.length - (intOf i).toNat)
      case atStart => exact ⟨k + 1, 0, Nat.le_refl _, by omega, by go_num, by simp [laterE], rfl⟩
      case round =>
        obtain ⟨j, n, hj1, hj2, rfl, rfl, rfl⟩ := hrel
        by_cases hjl : j < ss.length
        · obtain ⟨t, htj⟩ : ∃ t, ss[j]? = some t := ⟨_, List.getElem?_eq_getElem hjl⟩
          obtain ⟨hd0, hd1, _⟩ := step_at Hcell.out htj
          replace hd0 := (hnx.cell (p := ⟨b, off + j * 3, none⟩) hbl).trans hd0
          replace hd1 := (hnx.cell (p := ⟨b, off + j * 3 + 1, none⟩) hbl).trans hd1
          have Htk : Hid (laterE skey ((ss.drop (k + 1)).take (j + 1 - (k + 1))) = (laterE skey ((ss.drop (k + 1)).take (j - (k + 1))) || (t.key == skey && (t.kind == 2 || t.kind == 3)))) := by
            show laterE _ _ = _
            have e : (ss.drop (k + 1)).take (j + 1 - (k + 1)) = (ss.drop (k + 1)).take (j - (k + 1)) ++ [t] := by
              rw [show j + 1 - (k + 1) = (j - (k + 1)) + 1 by omega]
              have hl2 : j - (k + 1) < (ss.drop (k + 1)).length := by rw [List.length_drop]; omega
              rw [List.take_succ_eq_append_getElem hl2, List.getElem_drop]
              have : k + 1 + (j - (k + 1)) = j := by omega
              rw [List.getElem?_eq_getElem hjl, Option.some.injEq] at htj
              simp only [this, htj]
            rw [e, later_snoc]
          have hj0 : (0 : Int) ≤ (j : Int) := Int.natCast_nonneg _
          have hk0 : (0 : Int) ≤ (k : Int) := Int.natCast_nonneg _
          have hj3 : (j : Int) < (ss.length : Int) := by omega
          have hk3 : (k : Int) < (ss.length : Int) := by omega
          obtain ⟨tk, tkey, tval⟩ := t
          clear htj
          cases hfl : laterE skey ((ss.drop (k + 1)).take (j - (k + 1))) with
          | true =>
            rw [hfl] at Htk
            clear hfl
            go_wp2
            go_quiet (fail)
            go_wp2
            go_roundw
            case rel => exact ⟨j + 1, _, by omega, by omega, by go_num, by rw [Htk.out]; rfl, by first | rfl | exact World.drewN_drewN _ _ _⟩
            case measure => simp [intOf]; omega
          | false =>
            rw [hfl] at Htk
            clear hfl
            cases hkk : (tkey == skey) with
            | false =>
              have hkk2 : (tkey != skey) = true := by simpa [bne] using hkk
              simp only [hkk] at Htk
              go_wp2
              go_quiet (fail)
              go_wp2
              go_roundw
              case rel => exact ⟨j + 1, _, by omega, by omega, by go_num, by rw [Htk.out]; rfl, by first | rfl | exact World.drewN_drewN _ _ _⟩
              case measure => simp [intOf]; omega
            | true =>
              have hkk2 : (tkey != skey) = false := by simpa [bne] using hkk
              simp only [hkk] at Htk
              cases h2 : (tk == 2) with
              | true =>
                simp only [h2] at Htk
                go_wp2
                go_quiet (fail)
                go_wp2
                go_roundw
                case rel => exact ⟨j + 1, _, by omega, by omega, by go_num, by rw [Htk.out]; rfl, by first | rfl | exact World.drewN_drewN _ _ _⟩
                case measure => simp [intOf]; omega
              | false =>
                cases h3 : (tk == 3) with
                | true =>
                  simp only [h2, h3] at Htk
                  go_wp2
                  go_quiet (fail)
                  go_wp2
                  go_roundw
                  case rel => exact ⟨j + 1, _, by omega, by omega, by go_num, by rw [Htk.out]; rfl, by first | rfl | exact World.drewN_drewN _ _ _⟩
                  case measure => simp [intOf]; omega
                | false =>
                  simp only [h2, h3] at Htk
                  go_wp2
                  go_quiet (fail)
                  go_wp2
                  go_roundw
                  case rel => exact ⟨j + 1, _, by omega, by omega, by go_num, by rw [Htk.out]; rfl, by first | rfl | exact World.drewN_drewN _ _ _⟩
                  case measure => simp [intOf]; omega
        · obtain rfl : j = ss.length := by omega
          have hlat : laterE skey ((ss.drop (k + 1)).take (ss.length - (k + 1))) = laterE skey (ss.drop (k + 1)) := by rw [List.take_of_length_le (by rw [List.length_drop]; omega)]
          rw [hlat]
          have hown2 : (wr.drewN n).ownsRow w.heap.size 41 3 u3 L.length (L.flatMap stepCells) := hown
          have hnx2 : Below w.heap.size w (wr.drewN n) := hnx.trans ⟨rfl, rfl, rfl, Nat.le_refl _, fun _ _ => rfl⟩
          have hm1 : L.length + 1 ≤ maxLen := by simp only [maxLen]; omega
          have hm2 : (L.length + 1) * 40 ≤ 140737488355328 := by omega
          have hm3 : w.heap.size ≤ (wr.drewN n).heap.size := hnx2.size
          cases hfl : laterE skey (ss.drop (k + 1)) with
          | true =>
            have Hw : Hid (shortP ss (k + 1) = L) := by
              show shortP ss (k + 1) = L
              rw [Hst.out]
              simp [hfl]
            clear hfl hlat
            go_wp2
            go_roundw
            case rel => exact ⟨k + 1, by omega, by go_num, by rw [Hw.out]; exact hown2, hnx2⟩
            case measure => simp [intOf]; omega
          | false =>
            have Hw : Hid (shortP ss (k + 1) = L ++ [⟨sk, skey, sval⟩]) := by
              show shortP ss (k + 1) = _
              rw [Hst.out]
              simp [hfl]
            clear hfl hlat hown hnx
            generalize hwq : wr.drewN n = wq at *
            have hc0' : wq.cell? ⟨b, off + k * 3, none⟩ = some (.int .i64 sk) := by rw [← hwq]; exact hc0
            have hc1' : wq.cell? ⟨b, off + k * 3 + 1, none⟩ = some (encStr skey) := by rw [← hwq]; exact hc1
            have hc2' : wq.cell? ⟨b, off + k * 3 + 2, none⟩ = some (encStr sval) := by rw [← hwq]; exact hc2
            clear hwq hc0 hc1 hc2
            go_wp2_with (at_builtin; refine wpList_append_own_at _ rfl _ _ 30 rfl w.heap.size 41 i0 _ 3 40 Tryd.underlying30 hi hz0 hz1 hz2 rfl (by decide) _ _ _ rfl (hown2.alloc _) ⟨wq.heap.size, 0, none⟩ 1 1 [.int .i64 sk, encStr skey, encStr sval] rfl rfl (World.news_of_block (cs := #[.int .i64 sk, encStr skey, encStr sval]) (t := 41) (fr := (0, 0)) (heap_alloc_new wq _)) (by simp [Value.oneCell']) hm1 hm2 (by simp; omega) ?_; intro v' w2 hown' hgrow hnil hloc)
            go_roundw
            case rel =>
              refine ⟨k + 1, by omega, by go_num, ?_, (hnx2.alloc hm3 _).grown hgrow (by simp; omega) (fun j hj => (hown2.lt j hj).1)⟩
              rw [Hw.out, List.flatMap_append, List.length_append]
              exact hown'
            case measure => simp [intOf]; omega
    · go_wp2
      go_ret
      obtain rfl : k = ss.length := by omega
      rw [shortP_end] at hown
      exact ⟨_, rfl, Row.of_own hown, hnx⟩

end Go.Proofs.YtjgjiaflccdflaaDoor
