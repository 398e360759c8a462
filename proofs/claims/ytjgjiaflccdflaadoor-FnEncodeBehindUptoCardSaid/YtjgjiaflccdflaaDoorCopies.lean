/-
  The walks of laws.entries, laws.given, laws.calls and spec.Adds: slices of structs copied into new ones. Conditions: at most 2^32 elements.
-/
import Derived.Test.YtjgjiaflccdflaaDoorRun
import Derived.Deep.RegionHeld3
namespace Go.Proofs.YtjgjiaflccdflaaDoor
open Go.RowKit

theorem Tryd.info42 : (Tryd.prog.info? 42).map (fun i => (i.zero, i.size, i.bytes)) = some (some (.agg #[.string ⟨#[]⟩, .slice none 0 0]), 2, 40) := by kernel_rfl
theorem Tryd.info70 : (Tryd.prog.info? 70).map (fun i => (i.zero, i.size, i.bytes)) = some (some (.agg #[.int .i64 0, .string ⟨#[]⟩, .string ⟨#[]⟩]), 3, 40) := by kernel_rfl
theorem Tryd.info41 : (Tryd.prog.info? 41).map (fun i => (i.zero, i.size, i.bytes)) = some (some (.agg #[.int .i64 0, .string ⟨#[]⟩, .string ⟨#[]⟩]), 3, 40) := by kernel_rfl
theorem Tryd.info69 : (Tryd.prog.info? 69).map (fun i => (i.zero, i.size, i.bytes)) = some (some (.agg #[.string ⟨#[]⟩, .string ⟨#[]⟩]), 2, 32) := by kernel_rfl

set_option maxRecDepth 100000 in
set_option maxHeartbeats 400000 in
theorem entries_ok (v : Value) (es : List Ent) (w : World) (h : Ents w v es) (hn : es.length ≤ 4294967296) :
    Calls Tryd.prog 24 #[v] w fun e w' => ∃ v', e = .returned v' ∧ Ents w' v' es ∧ Below w.heap.size w w' := by
  obtain ⟨i0, hi, hz0, hz1, hz2⟩ := info_parts Tryd.info42
  obtain ⟨us, hin, _, A, c, rfl, hnc, hx⟩ := h
  have hone := hin.slice
  have hul : us.length ≤ 4294967296 := by rw [hin.len]; exact hn
  have Hin := Lib.hid hin
  clear hin hn
  go_enter Tryd.func24, Tryd.ntmps24
  go_wp2
  go_loopw [3, 4] (fun v i wr => ∃ k : Nat, k ≤ us.length ∧ i = .int .i64 k ∧ wr.ownsRow w.heap.size 42 2 v k ((us.take k).flatMap entCells) ∧ Below w.heap.size w wr)
    (fun _ i _ => us.length - (intOf i).toNat)
  case atStart => exact ⟨0, Nat.zero_le _, rfl, World.ownsRow_nil _ _ _ _, Below.refl _ _⟩
  case round =>
    obtain ⟨k, hk, rfl, hown, hnx⟩ := hrel
    by_cases hlt : k < us.length
    · obtain ⟨b, off, rfl, hbl, hcell⟩ := hx (by omega)
      obtain ⟨kk, a2, n2, c2, hp⟩ : ∃ kk a2 n2 c2, us[k]? = some (kk, .slice a2 n2 c2) := by
        obtain ⟨a2, n2, c2, h2⟩ := hone us[k] (List.getElem_mem _)
        exact ⟨us[k].1, a2, n2, c2, by rw [List.getElem?_eq_getElem hlt, ← h2]⟩
      obtain ⟨hc0, hc1⟩ := ent_at hcell hp
      replace hc0 := (hnx.cell (p := ⟨b, off + k * 2, none⟩) hbl).trans hc0
      replace hc1 := (hnx.cell (p := ⟨b, off + k * 2 + 1, none⟩) hbl).trans hc1
      have Hp := Lib.hid hp
      clear hcell hx hone hp
      have hk0 : (0 : Int) ≤ (k : Int) := Int.natCast_nonneg _
      have hk1 : (k : Int) < (us.length : Int) := by omega
      have hone1 : ∀ u ∈ [encStr kk, .slice a2 n2 c2], u.oneCell' = true := by simp [Value.oneCell']
      have hm1 : k + 1 ≤ maxLen := by simp only [maxLen]; omega
      have hm2 : (k + 1) * 40 ≤ 140737488355328 := by omega
      have hm3 := hnx.size
      have hne : u3.ownBlock ≠ some b := fun e => by have := (hown.lt b e).1; omega
      go_wp2_with fail
      go_region_held3 (fun w' => w'.cell? ⟨b, off + k * 2, none⟩ = some (encStr kk) ∧ w'.cell? ⟨b, off + k * 2 + 1, none⟩ = some (.slice a2 n2 c2))
        (first | go_keep | (go_split_ands; refine ⟨?_, ?_⟩ <;> (rw [hgrow.cell_far _ (by simp; omega) (Ne.symm hne)]; assumption)))
        ((refine step_append_lies _ (by rfl) _ _ _ (by rfl) w.heap.size 42 i0 _ 2 40 Tryd.underlying37 hi hz0 hz1 hz2 rfl (by omega) _ _ _ (by rfl) ((hown.alloc _).drew) ⟨wr.heap.size, 0, none⟩ 1 1 [encStr kk, .slice a2 n2 c2] (by rfl) (by rfl) (World.news_of_block (cs := #[encStr kk, .slice a2 n2 c2]) (t := 42) (fr := (0, 0)) (heap_alloc_new wr _)) hone1 (by omega) hm1 hm2 (by simp; omega) (wr.heap.size + 1) (by simp) ?_; intro gg cap w1 hown1 hgrow hat hlt2))
      go_wp2
      go_roundw
      case rel =>
        refine ⟨k + 1, by omega, by go_num, ?_, ?_⟩
        · have hp := Hp.out
          rw [List.getElem?_eq_getElem hlt, Option.some.injEq] at hp
          rw [List.take_succ_eq_append_getElem hlt, List.flatMap_append, hp]
          exact hown1
        · exact (hnx.alloc hm3 _).drew.grown hgrow (by simp; omega) (fun j hj => (hown.lt j hj).1)
      case measure => simp [intOf]; omega
    · go_wp2
      go_ret
      obtain rfl : k = us.length := by omega
      rw [List.take_length] at hown
      exact ⟨_, rfl, ⟨us, Hin.out.up hnx, Row.of_own hown⟩, hnx⟩

set_option maxRecDepth 100000 in
set_option maxHeartbeats 400000 in
theorem given_ok (v : Value) (es : List Ent) (w : World) (h : Ents w v es) (hn : es.length ≤ 4294967296) :
    Calls Tryd.prog 34 #[v] w fun e w' => ∃ v', e = .returned v' ∧ Ents w' v' es ∧ Below w.heap.size w w' := by
  obtain ⟨i0, hi, hz0, hz1, hz2⟩ := info_parts Tryd.info25
  obtain ⟨us, hin, _, A, c, rfl, hnc, hx⟩ := h
  have hone := hin.slice
  have hul : us.length ≤ 4294967296 := by rw [hin.len]; exact hn
  have Hin := Lib.hid hin
  clear hin hn
  go_enter Tryd.func34, Tryd.ntmps34
  go_wp2
  go_loopw [3, 4] (fun v i wr => ∃ k : Nat, k ≤ us.length ∧ i = .int .i64 k ∧ wr.ownsRow w.heap.size 25 2 v k ((us.take k).flatMap entCells) ∧ Below w.heap.size w wr)
    (fun _ i _ => us.length - (intOf i).toNat)
  case atStart => exact ⟨0, Nat.zero_le _, rfl, World.ownsRow_nil _ _ _ _, Below.refl _ _⟩
  case round =>
    obtain ⟨k, hk, rfl, hown, hnx⟩ := hrel
    by_cases hlt : k < us.length
    · obtain ⟨b, off, rfl, hbl, hcell⟩ := hx (by omega)
      obtain ⟨kk, a2, n2, c2, hp⟩ : ∃ kk a2 n2 c2, us[k]? = some (kk, .slice a2 n2 c2) := by
        obtain ⟨a2, n2, c2, h2⟩ := hone us[k] (List.getElem_mem _)
        exact ⟨us[k].1, a2, n2, c2, by rw [List.getElem?_eq_getElem hlt, ← h2]⟩
      obtain ⟨hc0, hc1⟩ := ent_at hcell hp
      replace hc0 := (hnx.cell (p := ⟨b, off + k * 2, none⟩) hbl).trans hc0
      replace hc1 := (hnx.cell (p := ⟨b, off + k * 2 + 1, none⟩) hbl).trans hc1
      have Hp := Lib.hid hp
      clear hcell hx hone hp
      have hk0 : (0 : Int) ≤ (k : Int) := Int.natCast_nonneg _
      have hk1 : (k : Int) < (us.length : Int) := by omega
      have hone1 : ∀ u ∈ [encStr kk, .slice a2 n2 c2], u.oneCell' = true := by simp [Value.oneCell']
      have hm1 : k + 1 ≤ maxLen := by simp only [maxLen]; omega
      have hm2 : (k + 1) * 40 ≤ 140737488355328 := by omega
      have hm3 := hnx.size
      have hne : u3.ownBlock ≠ some b := fun e => by have := (hown.lt b e).1; omega
      go_wp2_with fail
      go_region_held3 (fun w' => w'.cell? ⟨b, off + k * 2, none⟩ = some (encStr kk) ∧ w'.cell? ⟨b, off + k * 2 + 1, none⟩ = some (.slice a2 n2 c2))
        (first | go_keep | (go_split_ands; refine ⟨?_, ?_⟩ <;> (rw [hgrow.cell_far _ (by simp; omega) (Ne.symm hne)]; assumption)))
        ((refine step_append_lies _ (by rfl) _ _ _ (by rfl) w.heap.size 25 i0 _ 2 40 Tryd.underlying22 hi hz0 hz1 hz2 rfl (by omega) _ _ _ (by rfl) ((hown.alloc _).drew) ⟨wr.heap.size, 0, none⟩ 1 1 [encStr kk, .slice a2 n2 c2] (by rfl) (by rfl) (World.news_of_block (cs := #[encStr kk, .slice a2 n2 c2]) (t := 25) (fr := (0, 0)) (heap_alloc_new wr _)) hone1 (by omega) hm1 hm2 (by simp; omega) (wr.heap.size + 1) (by simp) ?_; intro gg cap w1 hown1 hgrow hat hlt2))
      go_wp2
      go_roundw
      case rel =>
        refine ⟨k + 1, by omega, by go_num, ?_, ?_⟩
        · have hp := Hp.out
          rw [List.getElem?_eq_getElem hlt, Option.some.injEq] at hp
          rw [List.take_succ_eq_append_getElem hlt, List.flatMap_append, hp]
          exact hown1
        · exact (hnx.alloc hm3 _).drew.grown hgrow (by simp; omega) (fun j hj => (hown.lt j hj).1)
      case measure => simp [intOf]; omega
    · go_wp2
      go_ret
      obtain rfl : k = us.length := by omega
      rw [List.take_length] at hown
      exact ⟨_, rfl, ⟨us, Hin.out.up hnx, Row.of_own hown⟩, hnx⟩

set_option maxRecDepth 100000 in
set_option maxHeartbeats 400000 in
theorem calls_ok (v : Value) (ss : List Stp) (w : World) (h : Stps w v ss) (hn : ss.length ≤ 4294967296) :
    Calls Tryd.prog 29 #[v] w fun e w' => ∃ v', e = .returned v' ∧ Stps w' v' ss ∧ Below w.heap.size w w' := by
  obtain ⟨i0, hi, hz0, hz1, hz2⟩ := info_parts Tryd.info70
  obtain ⟨_, A, c, rfl, hnc, hx⟩ := h
  go_enter Tryd.func29, Tryd.ntmps29
  go_wp2
  go_loopw [3, 4] (fun v i wr => ∃ k : Nat, k ≤ ss.length ∧ i = .int .i64 k ∧ wr.ownsRow w.heap.size 70 3 v k ((ss.take k).flatMap stepCells) ∧ Below w.heap.size w wr)
    (fun _ i _ => ss.length - (intOf i).toNat)
  case atStart => exact ⟨0, Nat.zero_le _, rfl, World.ownsRow_nil _ _ _ _, Below.refl _ _⟩
  case round =>
    obtain ⟨k, hk, rfl, hown, hnx⟩ := hrel
    by_cases hlt : k < ss.length
    · obtain ⟨b, off, rfl, hbl, hcell⟩ := hx (by omega)
      obtain ⟨s, hp⟩ : ∃ s, ss[k]? = some s := ⟨_, List.getElem?_eq_getElem hlt⟩
      obtain ⟨hc0, hc1, hc2⟩ := step_at hcell hp
      replace hc0 := (hnx.cell (p := ⟨b, off + k * 3, none⟩) hbl).trans hc0
      replace hc1 := (hnx.cell (p := ⟨b, off + k * 3 + 1, none⟩) hbl).trans hc1
      replace hc2 := (hnx.cell (p := ⟨b, off + k * 3 + 2, none⟩) hbl).trans hc2
      have Hp := Lib.hid hp
      clear hcell hx hp
      obtain ⟨sk, skey, sval⟩ := s
      have hk0 : (0 : Int) ≤ (k : Int) := Int.natCast_nonneg _
      have hk1 : (k : Int) < (ss.length : Int) := by omega
      have hone1 : ∀ u ∈ [Value.int .i64 sk, encStr skey, encStr sval], u.oneCell' = true := by simp [Value.oneCell']
      have hm1 : k + 1 ≤ maxLen := by simp only [maxLen]; omega
      have hm2 : (k + 1) * 40 ≤ 140737488355328 := by omega
      have hm3 := hnx.size
      have hne : u3.ownBlock ≠ some b := fun e => by have := (hown.lt b e).1; omega
      go_wp2_with fail
      go_region_held3 (fun w' => w'.cell? ⟨b, off + k * 3, none⟩ = some (.int .i64 sk) ∧ w'.cell? ⟨b, off + k * 3 + 1, none⟩ = some (encStr skey) ∧ w'.cell? ⟨b, off + k * 3 + 2, none⟩ = some (encStr sval))
        (first | go_keep | (go_split_ands; refine ⟨?_, ?_, ?_⟩ <;> (rw [hgrow.cell_far _ (by simp; omega) (Ne.symm hne)]; assumption)))
        ((refine step_append_lies _ (by rfl) _ _ _ (by rfl) w.heap.size 70 i0 _ 3 40 Tryd.underlying29 hi hz0 hz1 hz2 rfl (by omega) _ _ _ (by rfl) ((hown.alloc _).drew) ⟨wr.heap.size, 0, none⟩ 1 1 [Value.int .i64 sk, encStr skey, encStr sval] (by rfl) (by rfl) (World.news_of_block (cs := #[Value.int .i64 sk, encStr skey, encStr sval]) (t := 70) (fr := (0, 0)) (heap_alloc_new wr _)) hone1 (by omega) hm1 hm2 (by simp; omega) (wr.heap.size + 1) (by simp) ?_; intro gg cap w1 hown1 hgrow hat hlt2))
      go_wp2
      go_roundw
      case rel =>
        refine ⟨k + 1, by omega, by go_num, ?_, ?_⟩
        · have hp := Hp.out
          rw [List.getElem?_eq_getElem hlt, Option.some.injEq] at hp
          rw [List.take_succ_eq_append_getElem hlt, List.flatMap_append, hp]
          exact hown1
        · exact (hnx.alloc hm3 _).drew.grown hgrow (by simp; omega) (fun j hj => (hown.lt j hj).1)
      case measure => simp [intOf]; omega
    · go_wp2
      go_ret
      obtain rfl : k = ss.length := by omega
      rw [List.take_length] at hown
      exact ⟨_, rfl, Row.of_own hown, hnx⟩

set_option maxRecDepth 100000 in
set_option maxHeartbeats 400000 in
theorem adds_ok (v : Value) (ps : List (Bs × Bs)) (w : World) (h : Prs w v ps) (hn : ps.length ≤ 4294967296) :
    Calls Tryd.prog 26 #[v] w fun e w' => ∃ v', e = .returned v' ∧ Stps w' v' (addsE ps) ∧ Below w.heap.size w w' := by
  obtain ⟨i0, hi, hz0, hz1, hz2⟩ := info_parts Tryd.info41
  obtain ⟨_, A, c, rfl, hnc, hx⟩ := h
  go_enter Tryd.func26, Tryd.ntmps26
  go_wp2
  go_loopw [3, 4] (fun v i wr => ∃ k : Nat, k ≤ ps.length ∧ i = .int .i64 k ∧ wr.ownsRow w.heap.size 41 3 v k ((addsE (ps.take k)).flatMap stepCells) ∧ Below w.heap.size w wr)
    (fun _ i _ => ps.length - (intOf i).toNat)
  case atStart => exact ⟨0, Nat.zero_le _, rfl, World.ownsRow_nil _ _ _ _, Below.refl _ _⟩
  case round =>
    obtain ⟨k, hk, rfl, hown, hnx⟩ := hrel
    by_cases hlt : k < ps.length
    · obtain ⟨b, off, rfl, hbl, hcell⟩ := hx (by omega)
      obtain ⟨p, hp⟩ : ∃ p, ps[k]? = some p := ⟨_, List.getElem?_eq_getElem hlt⟩
      obtain ⟨hc0, hc1⟩ := pair_at hcell hp
      replace hc0 := (hnx.cell (p := ⟨b, off + k * 2, none⟩) hbl).trans hc0
      replace hc1 := (hnx.cell (p := ⟨b, off + k * 2 + 1, none⟩) hbl).trans hc1
      have Hp := Lib.hid hp
      clear hcell hx hp
      obtain ⟨skey, sval⟩ := p
      have hk0 : (0 : Int) ≤ (k : Int) := Int.natCast_nonneg _
      have hk1 : (k : Int) < (ps.length : Int) := by omega
      have hone1 : ∀ u ∈ [Value.int .i64 1, encStr skey, encStr sval], u.oneCell' = true := by simp [Value.oneCell']
      have hm1 : k + 1 ≤ maxLen := by simp only [maxLen]; omega
      have hm2 : (k + 1) * 40 ≤ 140737488355328 := by omega
      have hm3 := hnx.size
      have hne : u3.ownBlock ≠ some b := fun e => by have := (hown.lt b e).1; omega
      go_wp2_with fail
      go_region_held3 (fun w' => w'.cell? ⟨b, off + k * 2, none⟩ = some (encStr skey) ∧ w'.cell? ⟨b, off + k * 2 + 1, none⟩ = some (encStr sval))
        (first | go_keep | (go_split_ands; refine ⟨?_, ?_⟩ <;> (rw [hgrow.cell_far _ (by simp; omega) (Ne.symm hne)]; assumption)))
        ((refine step_append_lies _ (by rfl) _ _ _ (by rfl) w.heap.size 41 i0 _ 3 40 Tryd.underlying30 hi hz0 hz1 hz2 rfl (by omega) _ _ _ (by rfl) ((hown.alloc _).drew) ⟨wr.heap.size, 0, none⟩ 1 1 [Value.int .i64 1, encStr skey, encStr sval] (by rfl) (by rfl) (World.news_of_block (cs := #[Value.int .i64 1, encStr skey, encStr sval]) (t := 41) (fr := (0, 0)) (heap_alloc_new wr _)) hone1 (by omega) hm1 hm2 (by simp; omega) (wr.heap.size + 1) (by simp) ?_; intro gg cap w1 hown1 hgrow hat hlt2))
      go_wp2
      go_roundw
      case rel =>
        refine ⟨k + 1, by omega, by go_num, ?_, ?_⟩
        · have hp := Hp.out
          rw [List.getElem?_eq_getElem hlt, Option.some.injEq] at hp
          rw [List.take_succ_eq_append_getElem hlt, addsE, List.map_append, List.flatMap_append, hp]
          exact hown1
        · exact (hnx.alloc hm3 _).drew.grown hgrow (by simp; omega) (fun j hj => (hown.lt j hj).1)
      case measure => simp [intOf]; omega
    · go_wp2
      go_ret
      obtain rfl : k = ps.length := by omega
      rw [List.take_length] at hown
      refine ⟨_, rfl, ?_, hnx⟩
      have hl : (addsE ps).length = ps.length := by simp [addsE]
      unfold Stps
      rw [hl]
      exact Row.of_own hown

end Go.Proofs.YtjgjiaflccdflaaDoor
