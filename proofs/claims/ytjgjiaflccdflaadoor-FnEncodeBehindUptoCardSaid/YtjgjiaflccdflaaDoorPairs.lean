/-
  The walk of spec.Pairs. Conditions: at most 2^32 pairs, entries and values each.
-/
import Derived.Test.YtjgjiaflccdflaaDoorWakes
import Derived.Deep.RegionHeld3
import Derived.Deep.AppendLies
namespace Go.Proofs.YtjgjiaflccdflaaDoor
open Go.RowKit Go.Maps

theorem Inner.at_ {w : World} : ∀ {us : List (Bs × Value)} {es : List Ent}, Inner w us es → ∀ {k : Nat} {p : Bs × Value}, us[k]? = some p → ∃ vs, es[k]? = some (p.1, vs) ∧ Strs w p.2 vs
  | [], [], _, _, _, h => by simp at h
  | u :: us, e :: es, hin, 0, p, h => by
    simp at h
    subst h
    exact ⟨e.2, by simp [hin.1.1], hin.1.2⟩
  | u :: us, e :: es, hin, k + 1, p, h => by
    have := Inner.at_ hin.2 (k := k) (p := p) (by simpa using h)
    simpa using this
  | [], _ :: _, h, _, _, _ => h.elim
  | _ :: _, [], h, _, _, _ => h.elim

set_option maxRecDepth 100000 in
set_option maxHeartbeats 1000000 in
theorem pairs_ok (v : Value) (es : List Ent) (w : World) (h : Ents w v es) (hn : es.length ≤ 4294967296) (hp : (pairsE es).length ≤ 4294967295) (hv : ∀ q ∈ es, q.2.length ≤ 4294967296) :
    Calls Tryd.prog 27 #[v] w fun e w' => ∃ v', e = .returned v' ∧ Prs w' v' (pairsE es) ∧ Below w.heap.size w w' := by
  obtain ⟨i0, hi, hz0, hz1, hz2⟩ := info_parts Tryd.info69
  obtain ⟨us, hin, _, A, c, rfl, hnc, hx⟩ := h
  have hul : us.length ≤ 4294967296 := by rw [hin.len]; exact hn
  have Hel := Lib.hid hin.len
  have Hone := Lib.hid hin.slice
  have Hin := Lib.hid hin
  have Hx := Lib.hid hx
  have Hv := Lib.hid hv
  have Hp := Lib.hid hp
  clear hin hx hv hp hn
  go_enter Tryd.func27, Tryd.ntmps27
  go_wp2
  go_loopw [3, 4] (fun o i wr => ∃ k : Nat, k ≤ us.length ∧ i = .int .i64 k ∧ wr.ownsRow w.heap.size 69 2 o (pairsE (es.take k)).length ((pairsE (es.take k)).flatMap pairCells) ∧ Below w.heap.size w wr)
    (fun _ i _ => us.length - (intOf i).toNat)
  case atStart => exact ⟨0, Nat.zero_le _, rfl, World.ownsRow_nil _ _ _ _, Below.refl _ _⟩
  case round =>
    obtain ⟨k, hk, rfl, hown, hnx⟩ := hrel
    by_cases hlt : k < us.length
    · obtain ⟨b, off, rfl, hbl, hcell⟩ := Hx.out (by omega)
      obtain ⟨kk, a2, n2, c2, hpk⟩ : ∃ kk a2 n2 c2, us[k]? = some (kk, .slice a2 n2 c2) := by
        obtain ⟨a2, n2, c2, h2⟩ := Hone.out us[k] (List.getElem_mem _)
        exact ⟨us[k].1, a2, n2, c2, by rw [List.getElem?_eq_getElem hlt, ← h2]⟩
      obtain ⟨hd0, hd1⟩ := ent_at hcell hpk
      obtain ⟨vs, hek, hstr⟩ := Hin.out.at_ hpk
      have Hcut := Lib.hid (pairs_cut hek)
      obtain ⟨_, A3, c3, he3, _, hx3⟩ := hstr
      obtain ⟨rfl, rfl, rfl⟩ : a2 = A3 ∧ n2 = vs.length ∧ c2 = c3 := by simpa using he3
      have Hx3 := Lib.hid hx3
      have hvl := Hv.out _ (List.mem_of_getElem? hek)
      simp only at hvl
      have Hd0 := Lib.hid hd0
      have Hd1 := Lib.hid hd1
      clear hcell hpk hek hx3 he3 hd0 hd1
      go_wp2_with fail
      go_loopw [3, 5] (fun o i wr => ∃ j : Nat, j ≤ vs.length ∧ i = .int .i64 j ∧ wr.ownsRow w.heap.size 69 2 o (pairsE (es.take k) ++ (vs.take j).map (fun v => (kk, v))).length ((pairsE (es.take k) ++ (vs.take j).map (fun v => (kk, v))).flatMap pairCells) ∧ Below w.heap.size w wr) (fun _ i _ => vs.length - (intOf i).toNat)
      case atStart => exact ⟨0, Nat.zero_le _, rfl, by simpa using hown, hnx⟩
      case round =>
        obtain ⟨j, hj, rfl, hown2, hnx2⟩ := hrel
        have hc0 := (hnx2.cell (p := ⟨b, off + k * 2, none⟩) hbl).trans Hd0.out
        have hc1 := (hnx2.cell (p := ⟨b, off + k * 2 + 1, none⟩) hbl).trans Hd1.out
        by_cases hjl : j < vs.length
        · obtain ⟨b3, off3, rfl, hbl3, hcell3⟩ := Hx3.out (by omega)
          obtain ⟨x, hxj⟩ : ∃ x, vs[j]? = some x := ⟨_, List.getElem?_eq_getElem hjl⟩
          have hc2 := (hnx2.cell (p := ⟨b3, off3 + j, none⟩) hbl3).trans (str_at hcell3 hxj)
          have Htk : Hid (pairsE (es.take k) ++ (vs.take (j + 1)).map (fun v => (kk, v)) = (pairsE (es.take k) ++ (vs.take j).map (fun v => (kk, v))) ++ [(kk, x)]) := by
            show pairsE (es.take k) ++ (vs.take (j + 1)).map (fun v => (kk, v)) = _
            rw [List.getElem?_eq_getElem hjl, Option.some.injEq] at hxj
            rw [List.take_succ_eq_append_getElem hjl, hxj, List.map_append, List.append_assoc]
            rfl
          have hLl : (pairsE (es.take k) ++ (vs.take j).map (fun v => (kk, v))).length ≤ 4294967295 := by
            have h1 := congrArg List.length Hcut.out.2
            have h2 := Hp.out
            have h3 : (vs.take j).length ≤ vs.length := List.length_take_le' _ _
            simp only [List.length_append, List.length_map] at h1 h2 ⊢
            omega
          generalize pairsE (es.take k) ++ (vs.take j).map (fun v => (kk, v)) = L at *
          clear hcell3 hxj
          have hk0 : (0 : Int) ≤ (k : Int) := Int.natCast_nonneg _
          have hk1 : (k : Int) < (us.length : Int) := by omega
          have hj0 : (0 : Int) ≤ (j : Int) := Int.natCast_nonneg _
          have hj1 : (j : Int) < (vs.length : Int) := by omega
          have hone1 : ∀ u ∈ [encStr kk, encStr x], u.oneCell' = true := by simp [Value.oneCell']
          have hm1 : L.length + 1 ≤ maxLen := by simp only [maxLen]; omega
          have hm2 : (L.length + 1) * 32 ≤ 140737488355328 := by omega
          have hm3 := hnx2.size
          have hne : u3.ownBlock ≠ some b := fun e => by have := (hown2.lt b e).1; omega
          have hne3 : u3.ownBlock ≠ some b3 := fun e => by have := (hown2.lt b3 e).1; omega
          go_wp2_with fail
          go_region_held3 (fun w' => w'.cell? ⟨b, off + k * 2, none⟩ = some (encStr kk) ∧ w'.cell? ⟨b, off + k * 2 + 1, none⟩ = some (.slice (some ⟨b3, off3, none⟩) vs.length c2) ∧ w'.cell? ⟨b3, off3 + j, none⟩ = some (encStr x))
            (first | go_keep | (go_split_ands; refine ⟨?_, ?_, ?_⟩ <;> (rw [hgrow.cell_far _ (by simp; omega) (by first | exact Ne.symm hne | exact Ne.symm hne3)]; assumption)))
            ((refine step_append_lies _ (by rfl) _ _ _ (by rfl) w.heap.size 69 i0 _ 2 32 Tryd.underlying45 hi hz0 hz1 hz2 rfl (by omega) _ _ _ (by rfl) ((hown2.alloc _).drew) ⟨wr.heap.size, 0, none⟩ 1 1 [encStr kk, encStr x] (by rfl) (by rfl) (World.news_of_block (cs := #[encStr kk, encStr x]) (t := 69) (fr := (0, 0)) (heap_alloc_new wr _)) hone1 (by omega) hm1 hm2 (by simp; omega) (wr.heap.size + 1) (by simp) ?_; intro gg cap w1 hown1 hgrow hat hlt2))
          go_wp2
          go_roundw
          case rel =>
            refine ⟨j + 1, by omega, by go_num, ?_, ?_⟩
            · rw [Htk.out, List.flatMap_append, List.length_append]
              exact hown1
            · exact (hnx2.alloc hm3 _).drew.grown hgrow (by simp; omega) (fun j hj => (hown2.lt j hj).1)
          case measure => simp [intOf]; omega
        · obtain rfl : j = vs.length := by omega
          go_wp2_with fail
          go_roundw
          case rel =>
            refine ⟨k + 1, by omega, by go_num, ?_, hnx2⟩
            rw [Hcut.out.1]
            rw [List.take_length] at hown2
            exact hown2
          case measure => simp [intOf]; omega
    · obtain rfl : k = us.length := by omega
      go_wp2
      go_ret
      rw [Hel.out, List.take_length] at hown
      exact ⟨_, rfl, Row.of_own hown, hnx⟩

end Go.Proofs.YtjgjiaflccdflaaDoor
