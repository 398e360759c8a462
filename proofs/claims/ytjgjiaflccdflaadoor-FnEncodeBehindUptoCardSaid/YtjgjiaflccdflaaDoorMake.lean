/-
  The walks of valuesOf and play: entries into a map; a script played on it. Conditions: at most 2^32 entries, values a key, steps.
-/
import Derived.Test.YtjgjiaflccdflaaDoorVals
import Derived.Deep.RegionHeld3
import Derived.Deep.AppendLies
namespace Go.Proofs.YtjgjiaflccdflaaDoor
open Go.RowKit Go.Maps

theorem vals_map_up {w w1 : World} {o : Obj} {b n : Nat} {D : DataW Value} (hm : w.ownsMap Tryd.prog 9 raw b n D) (hb : Below (w.alloc o).drew.heap.size (w.alloc o).drew w1) : w1.ownsMap Tryd.prog 9 raw b n D :=
  (hm.alloc o).drew.kept (row := none) ⟨hb.os, hb.tape, hb.output, hb.size, fun i hi _ => hb.block i hi⟩ (by simp)

theorem own_base {w : World} {base base' : Nat} {e : TypeId} {sz n : Nat} {v : Value} {xs : List Value} (h : w.ownsRow base e sz v n xs) (hb : base' ≤ base) : w.ownsRow base' e sz v n xs := by
  refine ⟨h.1, ?_⟩
  rcases h.2 with h2 | ⟨g, cap, cur, hv, hg, r⟩
  · exact .inl h2
  · exact .inr ⟨g, cap, cur, hv, Nat.le_trans hb hg, r⟩

set_option maxRecDepth 100000 in
set_option maxHeartbeats 400000 in
theorem valuesOf_ok (v : Value) (es : List Ent) (w : World) (h : Ents w v es) (hn : es.length ≤ 4294967296) (hk : ∀ q ∈ es, q.1.length ≤ maxLen) (hv : ∀ q ∈ es, q.2.length ≤ 4294967296) :
    Calls Tryd.prog 39 #[v] w fun e w' => e = .returned (.map (some w.heap.size)) ∧ Vals w' w.heap.size w.heap.size (tidyE es) ∧ Below w.heap.size w w' := by
  obtain ⟨us, hin, _, A, c, rfl, hc, hx⟩ := h
  have Hlen := Lib.hid hin.len
  have hlen1 : us.length ≤ 4294967296 := by rw [Hlen.out]; exact hn
  have hmm := @run_makeMap Tryd.prog
  go_enter Tryd.func39, Tryd.ntmps39
  go_wp2
  go_loopw [9] (fun i wr => ∃ k : Nat, k ≤ us.length ∧ i = .int .i64 k ∧ Vals wr w.heap.size w.heap.size (tidyE (es.take k)) ∧ Below w.heap.size w wr) (fun i _ => us.length - (intOf i).toNat)
  case atStart => 
    refine ⟨0, Nat.zero_le _, rfl, ⟨[], World.ownsMap_made _ _ _ _, Nat.le_refl _, Srt.nil, trivial, List.Pairwise.nil⟩, (Below.refl _ _).alloc (Nat.le_refl _) _⟩
  case round =>
    obtain ⟨k, hk1, rfl, hown, hnx⟩ := hrel
    by_cases hlt : k < us.length
    · obtain ⟨b, off, rfl, hbl, hcell⟩ := hx (by omega)
      obtain ⟨kk, u, hp⟩ : ∃ kk u, us[k]? = some (kk, u) := ⟨_, _, List.getElem?_eq_getElem hlt⟩
      obtain ⟨vs, hvs, hst⟩ := hin.get hp
      obtain ⟨hl, a2, c2, rfl, hc2, hx2⟩ := hst
      obtain ⟨hc0, hc1⟩ := ent_at hcell hp
      replace hc0 := (hnx.cell (p := ⟨b, off + k * 2, none⟩) hbl).trans hc0
      replace hc1 := (hnx.cell (p := ⟨b, off + k * 2 + 1, none⟩) hbl).trans hc1
      have hst : Strs wr (.slice a2 vs.length c2) vs := (show Strs w (.slice a2 vs.length c2) vs from ⟨hl, a2, c2, rfl, hc2, hx2⟩).up hnx
      have Hst := Lib.hid hst
      have Hp := Lib.hid hp
      have Hvs := Lib.hid hvs
      clear hcell hx hp hvs hst hl hx2
      have hk0 : (0 : Int) ≤ (k : Int) := Int.natCast_nonneg _
      have hkl : (k : Int) < (us.length : Int) := by omega
      have hvn : vs.length ≤ 4294967296 := hv _ (List.mem_of_getElem? Hvs.out)
      have hkn : kk.length ≤ maxLen := hk _ (List.mem_of_getElem? Hvs.out)
      have hs1 := hown.lt
      obtain ⟨l, hmap, hbb, hs, ho, ha⟩ := hown
      have hll : l.length ≤ k := by
        have := ho.len
        have h2 := tidyE_length (es.take k)
        have h3 := List.length_take_le k es
        omega
      have hm3 : l.length < maxLen := by simp only [maxLen]; omega
      go_wp2_with fail
      go_region_held3 (fun w' => w'.cell? ⟨wr.heap.size, 0, none⟩ = some (encStr kk) ∧ w'.cell? ⟨wr.heap.size, 1, none⟩ = some (.slice a2 vs.length c2))
        (first | go_keep | (go_split_ands; refine ⟨?_, ?_⟩ <;> (rw [hb1.cell (by simp)]; assumption)) | (go_split_ands; refine ⟨?_, ?_⟩ <;> (rw [hg2.cell_far _ (by have := hb1.size; simp at this ⊢; omega) (by simp; omega)]; assumption)))
        (first
          | (go_at_call 46; refine (clone_ok _ vs _ ?_ hvn).mono ?_; (exact Hst.out.up ((Below.refl _ _).alloc (Nat.le_refl _) _).drew); rintro e w1 ⟨v1, rfl, hrow1, hb1⟩; obtain ⟨w2, hrun2, hown2, hg2⟩ := World.ownsMap.update (vals_map_up hmap hb1) keyed9 Tryd.underlying73 hm3 (key9 hkn) (show raw v1 = some (.held v1, []) from rfl)))
      have hall : wr.grownBy w1 none := (((World.grownBy_alloc wr _ none).trans ⟨rfl, rfl, rfl, Nat.le_refl _, fun _ _ _ => rfl⟩).trans ⟨hb1.os, hb1.tape, hb1.output, hb1.size, fun i hi _ => hb1.block i hi⟩)
      have hrow0 : w1.ownsRow w.heap.size 9 1 v1 vs.length (vs.map encStr) := own_base hrow1 (by have := hnx.size; simp; omega)
      have hloc : ∀ g, v1.ownBlock = some g → wr.heap.size ≤ g := fun g hg => by have := (hrow1.lt g hg).1; simp at this; omega
      have hfin := vals_store (k := kk) hmap hbb hs ho ha hall hrow0 hloc hown2 hg2
      clear hrun2
      go_wp2
      go_roundw
      case rel =>
        refine ⟨k + 1, by omega, by go_num, ?_, ?_⟩
        · have he := Hvs.out
          have hke : k < es.length := by rw [← Hlen.out]; exact hlt
          rw [List.getElem?_eq_getElem hke, Option.some.injEq] at he
          rw [List.take_succ_eq_append_getElem hke, he, tidyE, List.foldl_append]
          exact hfin
        · exact ((hnx.grown hall hnx.size (fun j hj => by cases hj)).grown hg2 (by have := hall.size; have := hnx.size; omega) (fun j hj => by cases hj; exact Nat.le_refl _))
      case measure => simp [intOf]; omega
    · go_wp2
      go_ret
      obtain rfl : k = us.length := by omega
      refine ⟨rfl, ?_, hnx⟩
      rw [List.take_of_length_le (by rw [Hlen.out]; omega)] at hown
      exact hown

set_option maxRecDepth 100000 in
set_option maxHeartbeats 1000000 in
theorem play_ok (w0 w : World) (v : Value) (ss : List Stp) (b : Nat) (m : List Ent) (hst : Stps w0 v ss) (hb0 : Below w0.heap.size w0 w) (h : Vals w w0.heap.size b m)
    (hm : m.length + ss.length ≤ 4294967296) (N : Nat) (hv : ∀ q ∈ m, q.2.length ≤ N) (hN : N + ss.length ≤ 4294967296) (hk : ∀ s ∈ ss, s.key.length ≤ maxLen) :
    Calls Tryd.prog 40 #[.map (some b), v] w fun e w' => e = .returned (.tuple #[]) ∧ Vals w' w0.heap.size b (playE m ss) ∧ Below w0.heap.size w w' := by
  obtain ⟨hl, A, c, rfl, hc, hx⟩ := hst
  go_enter Tryd.func40, Tryd.ntmps40
  go_wp2
  go_loopw [8] (fun i wr => ∃ k : Nat, k ≤ ss.length ∧ i = .int .i64 k ∧ Vals wr w0.heap.size b (playE m (ss.take k)) ∧ Below w0.heap.size w wr) (fun i _ => ss.length - (intOf i).toNat)
  case atStart => exact ⟨0, Nat.zero_le _, rfl, h, Below.refl _ _⟩
  case round =>
    obtain ⟨k, hk1, rfl, hown, hnx⟩ := hrel
    have hnx0 := hb0.trans hnx
    by_cases hlt : k < ss.length
    · obtain ⟨bb, off, rfl, hbl, hcell⟩ := hx (by omega)
      obtain ⟨s, hp⟩ : ∃ s, ss[k]? = some s := ⟨_, List.getElem?_eq_getElem hlt⟩
      obtain ⟨hc0, hc1, hc2⟩ := step_at hcell hp
      replace hc0 := (hnx0.cell (p := ⟨bb, off + k * 3, none⟩) hbl).trans hc0
      replace hc1 := (hnx0.cell (p := ⟨bb, off + k * 3 + 1, none⟩) hbl).trans hc1
      replace hc2 := (hnx0.cell (p := ⟨bb, off + k * 3 + 2, none⟩) hbl).trans hc2
      have hkk : s.key.length ≤ maxLen := hk s (List.mem_of_getElem? hp)
      have hstep : playE m (ss.take (k + 1)) = oneE (playE m (ss.take k)) s := by
        rw [List.getElem?_eq_getElem hlt, Option.some.injEq] at hp
        rw [List.take_succ_eq_append_getElem hlt, playE_append, hp]
        rfl
      have Hstep := Lib.hid hstep
      have hml : (playE m (ss.take k)).length ≤ 4294967296 := by
        have := playE_length (ss.take k) m
        have := List.length_take_le k ss
        omega
      have hvl : ∀ q ∈ playE m (ss.take k), q.2.length ≤ 4294967296 := fun q hq => by
        have := playE_vals (ss.take k) hv q hq
        have := List.length_take_le k ss
        omega
      obtain ⟨sk, skey, sval⟩ := s
      generalize playE m (ss.take k) = mk at hown Hstep hml hvl
      clear hcell hx hp hstep
      have hsz := hnx0.size
      have fin : ∀ (w1 : World), Vals w1 w0.heap.size b (oneE mk ⟨sk, skey, sval⟩) → Below w0.heap.size wr w1 → Vals w1 w0.heap.size b (playE m (ss.take (k + 1))) ∧ Below w0.heap.size w w1 := fun w1 h1 h2 => ⟨by rw [Hstep.out]; exact h1, hnx.trans h2⟩
      have Hown := Lib.hid (hown.up ((Below.refl wr.heap.size wr).alloc (Nat.le_refl _) (.cells #[.int .i64 sk, encStr skey, encStr sval] 70)))
      have Hb := Lib.hid ((Below.refl w0.heap.size wr).alloc hsz (.cells #[.int .i64 sk, encStr skey, encStr sval] 70))
      have Hown0 := Lib.hid hown
      clear hown
      by_cases h1 : sk = 1
      · subst h1
        have Hfin := Lib.hid fin
        clear fin
        go_wp2_with (go_at_call 54; refine (add_ok _ b mk skey sval _ Hown.out hkk hml hvl).mono ?_; rintro e w1 ⟨rfl, hv1, hb1⟩)
        go_roundw
        case rel => exact ⟨k + 1, by omega, by go_num, (Hfin.out w1 hv1 (Hb.out.trans hb1)).1, (Hfin.out w1 hv1 (Hb.out.trans hb1)).2⟩
        case measure => simp [intOf]; omega
      · by_cases h2 : sk = 2
        · subst h2
          have Hfin := Lib.hid fin
          clear fin
          go_wp2_with (go_at_call 55; refine (set_ok _ b mk skey sval _ Hown.out hkk hml).mono ?_; rintro e w1 ⟨rfl, hv1, hb1⟩)
          go_roundw
          case rel => exact ⟨k + 1, by omega, by go_num, (Hfin.out w1 hv1 (Hb.out.trans hb1)).1, (Hfin.out w1 hv1 (Hb.out.trans hb1)).2⟩
          case measure => simp [intOf]; omega
        · by_cases h3 : sk = 3
          · subst h3
            have Hfin := Lib.hid fin
            clear fin
            go_wp2_with (go_at_call 56; refine (del_ok _ b mk skey _ Hown.out hkk).mono ?_; rintro e w1 ⟨rfl, hv1, hb1⟩)
            go_roundw
            case rel => exact ⟨k + 1, by omega, by go_num, (Hfin.out w1 hv1 (Hb.out.trans hb1)).1, (Hfin.out w1 hv1 (Hb.out.trans hb1)).2⟩
            case measure => simp [intOf]; omega
          · have Hfin := Lib.hid fin
            have Hone : Hid (oneE mk ⟨sk, skey, sval⟩ = mk) := by simp [Hid, oneE, h1, h2, h3]
            clear fin
            have b1 : (sk == 1) = false := beq_eq_false_iff_ne.2 h1
            have b2 : (sk == 2) = false := beq_eq_false_iff_ne.2 h2
            have b3 : (sk == 3) = false := beq_eq_false_iff_ne.2 h3
            clear h1 h2 h3
            go_wp2
            go_roundw
            case rel =>
              have hf := Hfin.out _ (by rw [Hone.out]; exact Hown.out) Hb.out
              exact ⟨k + 1, by omega, by go_num, hf.1, hf.2⟩
            case measure => simp [intOf]; omega
    · go_wp2
      go_end0
      obtain rfl : k = ss.length := by omega
      refine ⟨rfl, ?_, hnx⟩
      rw [List.take_length] at hown
      exact hown

end Go.Proofs.YtjgjiaflccdflaaDoor
