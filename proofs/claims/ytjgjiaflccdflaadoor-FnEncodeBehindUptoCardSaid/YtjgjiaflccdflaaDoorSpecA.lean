/-
  The walks of spec.Known, laws.steps, spec.place, spec.Of. Conditions: at most 2^32 elements.
-/
import Derived.Test.YtjgjiaflccdflaaDoorCopies
import Derived.Deep.QuietTactic
import Derived.BigQuiet
namespace Go.Proofs.YtjgjiaflccdflaaDoor
open Go.RowKit

theorem heap_two (w : World) (x y : Obj) : ((w.alloc x).alloc y).heap[w.heap.size + 1]? = some y := by
  have h5 := heap_alloc_new (w.alloc x) y
  have h6 : (w.alloc x).heap.size = w.heap.size + 1 := by simp
  rw [h6] at h5
  exact h5

set_option maxRecDepth 100000 in
theorem known_ok (s : Stp) (w : World) :
    Calls Tryd.prog 43 #[.agg #[.int .i64 s.kind, encStr s.key, encStr s.val]] w fun e w' => e = .returned (.bool (knownE s)) ∧ Below w.heap.size w w' := by
  obtain ⟨sk, skey, sval⟩ := s
  by_cases h1 : 1 ≤ sk
  · by_cases h2 : sk ≤ 3
    · go_enter Tryd.func43, Tryd.ntmps43
      go_wp2
      go_ret
      exact ⟨by simp [knownE, h1, h2], (Below.refl _ _).alloc (Nat.le_refl _) _⟩
    · go_enter Tryd.func43, Tryd.ntmps43
      go_wp2
      go_ret
      exact ⟨by simp [knownE, h1, h2], (Below.refl _ _).alloc (Nat.le_refl _) _⟩
  · go_enter Tryd.func43, Tryd.ntmps43
    go_wp2
    go_ret
    exact ⟨by simp [knownE]; omega, (Below.refl _ _).alloc (Nat.le_refl _) _⟩

set_option maxRecDepth 100000 in
set_option maxHeartbeats 400000 in
theorem place_ok (v : Value) (es : List Ent) (key : Bs) (w : World) (h : Ents w v es) (hn : es.length ≤ 4294967296) :
    Calls Tryd.prog 49 #[v, encStr key] w fun e w' => e = .returned (.int .i64 (placeE es key)) ∧ w = w' := by
  obtain ⟨us, hin, _, A, c, rfl, hnc, hx⟩ := h
  have hul : us.length ≤ 4294967296 := by rw [hin.len]; exact hn
  have Hpl := Lib.hid (hin.place key)
  clear hin hn
  go_enter Tryd.func49, Tryd.ntmps49
  go_wp2
  go_loop [5] (fun i => ∃ k : Nat, k ≤ us.length ∧ i = .int .i64 k ∧ placeE us key = k + placeE (us.drop k) key)
    (fun i => us.length - (intOf i).toNat)
  case atStart => exact ⟨0, Nat.zero_le _, rfl, by simp⟩
  case round =>
    obtain ⟨k, hk, rfl, hall⟩ := hrel
    have Hall := Lib.hid hall
    clear hall
    by_cases hlt : k < us.length
    · obtain ⟨b, off, rfl, hbl, hcell⟩ := hx (by omega)
      obtain ⟨p, hp⟩ : ∃ p, us[k]? = some p := ⟨_, List.getElem?_eq_getElem hlt⟩
      obtain ⟨hc0, _⟩ := ent_at hcell hp
      have Hd : Hid (us.drop k = p :: us.drop (k + 1)) := by
        rw [List.getElem?_eq_getElem hlt, Option.some.injEq] at hp
        show us.drop k = _
        rw [List.drop_eq_getElem_cons hlt, hp]
      clear hcell hx hp
      by_cases hb : p.1 < key
      · have hbl : Op.bytesLess p.1 key = true := by rw [bytesLess_eq]; simpa using hb
        have Hb := Lib.hid hb
        clear hb
        go_wp2
        go_round
        case rel =>
          refine ⟨k + 1, by omega, by go_num, ?_⟩
          rw [Hall.out, Hd.out]
          simp only [placeE, Hb.out, if_true]
          omega
        case measure => simp [intOf]; omega
      · have hbl : Op.bytesLess p.1 key = false := by rw [bytesLess_eq]; simpa using hb
        have Hb := Lib.hid hb
        clear hb
        go_wp2
        go_ret
        refine ⟨?_, rfl⟩
        rw [← Hpl.out, Hall.out, Hd.out]
        simp only [placeE, Hb.out, if_false]
        simp
    · go_wp2
      go_ret
      refine ⟨?_, rfl⟩
      rw [← Hpl.out, Hall.out, List.drop_of_length_le (by omega)]
      simp [placeE]

theorem placeE_le {α : Type} (l : List (Bs × α)) (k : Bs) : placeE l k ≤ l.length := by
  induction l with
  | nil => exact Nat.le_refl _
  | cons e r ih =>
    unfold placeE
    split
    · simp only [List.length_cons]; omega
    · exact Nat.zero_le _

theorem ofE_hit {α : Type} {l : List (Bs × α)} {k : Bs} {p : Bs × α} (hp : l[placeE l k]? = some p) (hk : p.1 = k) : ofE l k = some p.2 := by
  induction l with
  | nil => simp at hp
  | cons e r ih =>
    unfold placeE at hp
    unfold ofE
    split at hp
    · rename_i hlt
      rw [if_pos hlt]
      exact ih (by simpa using hp)
    · rename_i hlt
      simp at hp
      subst hp
      rw [if_neg hlt, if_pos hk]

theorem ofE_miss {α : Type} {l : List (Bs × α)} {k : Bs} (hp : ∀ p, l[placeE l k]? = some p → p.1 ≠ k) : ofE l k = none := by
  induction l with
  | nil => rfl
  | cons e r ih =>
    unfold placeE at hp
    unfold ofE
    split at hp
    · rename_i hlt
      rw [if_pos hlt]
      exact ih fun p h => hp p (by simpa using h)
    · rename_i hlt
      rw [if_neg hlt, if_neg (hp e (by simp))]

set_option maxRecDepth 100000 in
set_option maxHeartbeats 400000 in
theorem of_ok (v : Value) (es : List Ent) (key : Bs) (w : World) (h : Ents w v es) (hn : es.length ≤ 4294967296) :
    Calls Tryd.prog 32 #[v, encStr key] w fun e w' => ∃ A c, e = .returned (.tuple #[.slice A ((ofE es key).getD []).length c, .bool (ofE es key).isSome]) ∧ Strs w (.slice A ((ofE es key).getD []).length c) ((ofE es key).getD []) ∧ w = w' := by
  have hpl := place_ok v es key w h hn
  have h0 := h
  obtain ⟨us, hin, _, A, c, rfl, hnc, hx⟩ := h
  have hul : us.length ≤ 4294967296 := by rw [hin.len]; exact hn
  have hpe := hin.place key
  have hple := placeE_le us key
  have hof := hin.of (key := key)
  generalize hk : placeE us key = k at *
  rw [← hpe] at hpl
  have Hpl := Lib.hid hpl
  clear hpl h0 hpe
  by_cases hlt : k < us.length
  · obtain ⟨b, off, rfl, hbl, hcell⟩ := hx (by omega)
    obtain ⟨p, hp⟩ : ∃ p, us[k]? = some p := ⟨_, List.getElem?_eq_getElem hlt⟩
    obtain ⟨hc0, hc1⟩ := ent_at hcell hp
    obtain ⟨vs, hvs, hst⟩ := hin.get hp
    by_cases hpk : p.1 = key
    · have hE := ofE_hit (by rw [hk]; exact hp) hpk
      rcases hof with ⟨h1, _⟩ | ⟨u, vs', h1, h2, h3⟩
      · rw [h1] at hE; cases hE
      · rw [hE, Option.some.injEq] at h1
        subst h1
        obtain ⟨hl', A', c', he', hrest⟩ := h3
        rw [h2]
        simp only [Option.getD_some, Option.isSome_some]
        have Hs := Lib.hid (show Strs w p.2 vs' from ⟨hl', A', c', he', hrest⟩)
        obtain ⟨pk, pv⟩ := p
        simp only at he' hpk
        subst he' hpk
        clear hcell hx hp hin hk hrest hl' h2 hst hvs hE
        go_enter Tryd.func32, Tryd.ntmps32
        go_wp2_with (go_at_call 49; refine (Hpl.out).mono ?_; rintro e w' ⟨rfl, rfl⟩)
        go_ret2
        exact ⟨A', c', rfl, Hs.out, rfl⟩
    · have hE : ofE es key = none := by
        rcases hof with ⟨_, h2⟩ | ⟨u, vs', h1, _, _⟩
        · exact h2
        · have := ofE_miss (l := us) (k := key) (fun p' h' => by rw [hk, hp, Option.some.injEq] at h'; rw [← h']; exact hpk)
          rw [this] at h1; cases h1
      rw [hE]
      simp only [Option.getD_none, Option.isSome_none, List.length_nil]
      have hb : (p.1 == key) = false := beq_eq_false_iff_ne.2 hpk
      clear hcell hx hp hin hk hst hvs hE hof hpk
      go_enter Tryd.func32, Tryd.ntmps32
      go_wp2_with (go_at_call 49; refine (Hpl.out).mono ?_; rintro e w' ⟨rfl, rfl⟩)
      go_ret2
      exact ⟨none, 0, rfl, Strs.nil, rfl⟩
  · have hE : ofE es key = none := by
      rcases hof with ⟨_, h2⟩ | ⟨u, vs', h1, _, _⟩
      · exact h2
      · have := ofE_miss (l := us) (k := key) (fun p' h' => by rw [hk, List.getElem?_eq_none (by omega)] at h'; cases h')
        rw [this] at h1; cases h1
    rw [hE]
    simp only [Option.getD_none, Option.isSome_none, List.length_nil]
    clear hx hin hk hE hof
    go_enter Tryd.func32, Tryd.ntmps32
    go_wp2_with (go_at_call 49; refine (Hpl.out).mono ?_; rintro e w' ⟨rfl, rfl⟩)
    go_ret2
    exact ⟨none, 0, rfl, Strs.nil, rfl⟩

set_option maxRecDepth 100000 in
set_option maxHeartbeats 1000000 in
theorem steps_ok (v : Value) (ss : List Stp) (w : World) (h : Stps w v ss) (hn : ss.length ≤ 4294967296) :
    Calls Tryd.prog 19 #[v] w fun e w' => ∃ v', e = .returned (.tuple #[v', .bool (ss.all knownE)]) ∧ Stps w' v' ss ∧ Below w.heap.size w w' := by
  obtain ⟨i0, hi, hz0, hz1, hz2⟩ := info_parts Tryd.info41
  obtain ⟨_, A, c, rfl, hnc, hx⟩ := h
  go_enter Tryd.func19, Tryd.ntmps19
  go_wp2
  go_loopw [4, 5, 6] (fun v o i wr => ∃ k : Nat, k ≤ ss.length ∧ i = .int .i64 k ∧ o = .bool ((ss.take k).all knownE) ∧ wr.ownsRow w.heap.size 41 3 v k ((ss.take k).flatMap stepCells) ∧ Below w.heap.size w wr)
    (fun _ _ i _ => ss.length - (intOf i).toNat)
  case atStart => exact ⟨0, Nat.zero_le _, rfl, rfl, World.ownsRow_nil _ _ _ _, Below.refl _ _⟩
  case round =>
    obtain ⟨k, hk, rfl, ho, hown, hnx⟩ := hrel
    by_cases hlt : k < ss.length
    · obtain ⟨b, off, rfl, hbl, hcell⟩ := hx (by omega)
      obtain ⟨s, hp⟩ : ∃ s, ss[k]? = some s := ⟨_, List.getElem?_eq_getElem hlt⟩
      obtain ⟨hc0, hc1, hc2⟩ := step_at hcell hp
      replace hc0 := (hnx.cell (p := ⟨b, off + k * 3, none⟩) hbl).trans hc0
      replace hc1 := (hnx.cell (p := ⟨b, off + k * 3 + 1, none⟩) hbl).trans hc1
      replace hc2 := (hnx.cell (p := ⟨b, off + k * 3 + 2, none⟩) hbl).trans hc2
      have Htk : Hid (ss.take (k + 1) = ss.take k ++ [s]) := by
        rw [List.getElem?_eq_getElem hlt, Option.some.injEq] at hp
        show ss.take (k + 1) = _
        rw [List.take_succ_eq_append_getElem hlt, hp]
      have Hkn := Lib.hid (known_ok s)
      clear hcell hx hp
      obtain ⟨sk, skey, sval⟩ := s
      have n0 := World.new_ne wr _ hc0
      have hk0 : (0 : Int) ≤ (k : Int) := Int.natCast_nonneg _
      have hk1 : (k : Int) < (ss.length : Int) := by omega
      have hone1 : ∀ u ∈ [Value.int .i64 sk, encStr skey, encStr sval], u.oneCell' = true := by simp [Value.oneCell']
      have hm1 : k + 1 ≤ maxLen := by simp only [maxLen]; omega
      have hm2 : (k + 1) * 40 ≤ 140737488355328 := by omega
      have hm3 := hnx.size
      generalize hall : (ss.take k).all knownE = bb at ho
      have Hall := Lib.hid hall
      subst ho
      clear hall
      go_wp2_with fail
      go_region_held3 (fun w' => w'.cell? ⟨b, off + k * 3, none⟩ = some (.int .i64 sk) ∧ w'.cell? ⟨b, off + k * 3 + 1, none⟩ = some (encStr skey) ∧ w'.cell? ⟨b, off + k * 3 + 2, none⟩ = some (encStr sval))
        (go_keep) (fail)
      have hX : ∀ W : World, (W.alloc (.cells #[.int .i64 sk, encStr skey, encStr sval] 41)).heap[W.heap.size]? = some (.cells #[.int .i64 sk, encStr skey, encStr sval] 41 (0, 0)) := fun W => heap_alloc_new W _
      cases bb
      · go_wp2_with (at_builtin; refine wpList_append_own_at _ rfl _ _ 30 rfl w.heap.size 41 i0 _ 3 40 Tryd.underlying30 hi hz0 hz1 hz2 rfl (by decide) _ _ _ rfl ((hown.alloc _).alloc _) ⟨wr.heap.size + 1, 0, none⟩ 1 1 [.int .i64 sk, encStr skey, encStr sval] rfl rfl ?c1 hone1 hm1 hm2 (by simp; omega) ?_)
        case c1 => exact World.news_of_block (cs := #[.int .i64 sk, encStr skey, encStr sval]) (t := 41) (fr := (0, 0)) (heap_two wr _ _)
        intro v' w2 hown' hgrow hnil hloc
        go_wp2
        go_roundw
        case rel =>
          refine ⟨k + 1, by omega, by go_num, by rw [Htk.out, List.all_append, Hall.out]; rfl, by rw [Htk.out, List.flatMap_append]; exact hown', ?_⟩
          exact (((hnx.alloc hm3 _).alloc (by simp; omega) _).drew).grown hgrow (by simp; omega) (fun j hj => (hown.lt j hj).1)
        case measure => simp [intOf]; omega
      · go_wp2_with fail
        refine (Hkn.out _).mono ?_
        rintro e w1 ⟨rfl, hb1⟩
        have hx0 := hX wr
        have hb01 : Below w.heap.size w w1 := ((hnx.alloc hm3 _).drew).trans (hb1.mono (by simp; omega))
        have hblk : w1.heap[wr.heap.size]? = some (.cells #[.int .i64 sk, encStr skey, encStr sval] 41 (0, 0)) := (hb1.block wr.heap.size (by simp)).trans hx0
        have d0 : w1.cell? ⟨wr.heap.size, 0, none⟩ = some (.int .i64 sk) := by simp [World.cell?, hblk]
        have d1 : w1.cell? ⟨wr.heap.size, 1, none⟩ = some (encStr skey) := by simp [World.cell?, hblk]
        have d2 : w1.cell? ⟨wr.heap.size, 2, none⟩ = some (encStr sval) := by simp [World.cell?, hblk]
        have hown1 : w1.ownsRow w.heap.size 41 3 u4 k ((ss.take k).flatMap stepCells) := ((hown.alloc _).drew).kept (row := none) ⟨hb1.os, hb1.tape, hb1.output, hb1.size, fun i hi _ => hb1.block i hi⟩ (by cases u4.ownBlock <;> simp)
        have hsz1 := hb01.size
        have Hbl := Lib.hid hblk
        have Hx0 := Lib.hid hx0
        have HX := Lib.hid hX
        clear hblk hx0 hX hb1
        generalize hkb : knownE ⟨sk, skey, sval⟩ = kb
        have Hkb := Lib.hid hkb
        clear hkb
        go_wp2_with (at_builtin; refine wpList_append_own_at _ rfl _ _ 30 rfl w.heap.size 41 i0 _ 3 40 Tryd.underlying30 hi hz0 hz1 hz2 rfl (by decide) _ _ _ rfl (hown1.alloc _) ⟨w1.heap.size, 0, none⟩ 1 1 [.int .i64 sk, encStr skey, encStr sval] rfl rfl ?c1 hone1 hm1 hm2 (by simp; omega) ?_)
        case c1 => exact World.news_of_block (cs := #[.int .i64 sk, encStr skey, encStr sval]) (t := 41) (fr := (0, 0)) (HX.out w1)
        intro v' w2 hown' hgrow hnil hloc
        go_wp2
        go_roundw
        case rel =>
          refine ⟨k + 1, by omega, by go_num, by rw [Htk.out, List.all_append, Hall.out, List.all_cons, Hkb.out]; simp, by rw [Htk.out, List.flatMap_append]; exact hown', ?_⟩
          exact (hb01.alloc hsz1 _).grown hgrow (by simp; omega) (fun j hj => (hown.lt j hj).1)
        case measure => simp [intOf]; omega
    · go_wp2
      go_ret2
      obtain rfl : k = ss.length := by omega
      rw [List.take_length] at hown ho
      exact ⟨_, by rw [ho]; rfl, Row.of_own hown, hnx⟩

end Go.Proofs.YtjgjiaflccdflaaDoor
