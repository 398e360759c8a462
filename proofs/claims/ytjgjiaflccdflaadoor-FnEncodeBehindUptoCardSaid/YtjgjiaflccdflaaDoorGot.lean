/-
  The walks of url.QueryUnescape and impl.Unescape at an escaped text, and of laws.pairs at an encoded one. Conditions: the package's table; sizes at each law.
-/
import Derived.Test.YtjgjiaflccdflaaDoorCut
import Derived.Test.YtjgjiaflccdflaaDoorUne
namespace Go.Proofs.YtjgjiaflccdflaaDoor
open Go.RowKit Go.Maps

set_option maxRecDepth 100000 in
theorem queryUnescape_ok (x : Bs) (w : World) (ht : Tab w) (hl : x.length ≤ 4294967296) :
    Calls Tryd.prog 66 #[encStr (escE x)] w fun e w' => e = .returned (.tuple #[encStr x, .nilIface]) ∧ Below w.heap.size w w' := by
  go_enter Tryd.func66, Tryd.ntmps66
  go_wp2_with (go_at_call 72; refine (unescape_plain x w ht hl).mono ?_; rintro e w1 ⟨rfl, hb1⟩)
  go_ret2
  exact ⟨rfl, hb1⟩

set_option maxRecDepth 100000 in
theorem implUnescape_ok (x : Bs) (w : World) (ht : Tab w) (hl : x.length ≤ 4294967296) :
    Calls Tryd.prog 53 #[encStr (escE x)] w fun e w' => e = .returned (.tuple #[encStr x, .bool true]) ∧ Below w.heap.size w w' := by
  go_enter Tryd.func53, Tryd.ntmps53
  go_wp2_with (go_at_call 66; refine (queryUnescape_ok x w ht hl).mono ?_; rintro e w1 ⟨rfl, hb1⟩)
  go_quiet (fail)
  go_wp2
  go_ret2
  exact ⟨rfl, hb1.trans ⟨rfl, rfl, rfl, Nat.le_refl _, fun _ _ => rfl⟩⟩

set_option maxRecDepth 100000 in
set_option maxHeartbeats 1000000 in
theorem got_ok (m : List Ent) (w : World) (ht : Tab w) {A B : Nat} (h : Ok A B m) (hA : A ≤ 4194304) (hB : B ≤ 2097152) :
    Calls Tryd.prog 38 #[encStr (encE m)] w fun e w' => ∃ v, e = .returned (.tuple #[v, .bool true]) ∧ Prs w' v (pairsE m) ∧ Below w.heap.size w w' := by
  have hpn := h.pairs
  have hpl : (pairsE m).length ≤ 4194304 := by omega
  have Hkv : Hid (∀ p ∈ pairsE m, p.1.length ≤ 2097152 ∧ p.2.length ≤ 2097152) := by
    intro p hp
    obtain ⟨q, hq, e1, hv⟩ := pairs_mem hp
    have h1 := h.key q hq
    have h2 := h.val q hq _ hv
    rw [e1]
    omega
  have htx := h.text hA hB
  show Calls Tryd.prog 38 #[encStr (encP (pairsE m))] w _
  change (encP (pairsE m)).length ≤ _ at htx
  clear h hpn
  generalize pairsE m = ps at *
  go_enter Tryd.func38, Tryd.ntmps38
  by_cases hps : ps = []
  · subst hps
    go_wp2_with (go_at_call 52; refine (cut_nil w).mono ?_; rintro e w1 ⟨rfl, hb1⟩)
    go_loopw [6] (fun i wr => i = .int .i64 0 ∧ wr = w1) (fun _ _ => 0)
    case atStart => exact ⟨rfl, rfl⟩
    case round =>
      obtain ⟨rfl, hwr⟩ := hrel
      subst hwr
      go_wp2_with fail
      go_ret2
      exact ⟨_, rfl, Prs.nil, hb1⟩
  · have hpos : 0 < ps.length := List.length_pos_iff.2 hps
    go_wp2_with (go_at_call 52; refine (cut_ok ps w hps (by omega) htx).mono ?_; rintro e w1 ⟨v1, rfl, hown1, hb1⟩)
    obtain ⟨g, cap, cur, hv1, hbg, hg, hnc, hcap, _, _⟩ : ∃ g cap cur, v1 = .slice (some ⟨g, 0, none⟩) ps.length cap ∧ w.heap.size ≤ g ∧ w1.heap[g]? = some (.cells cur 69 (0, 0)) ∧ ps.length ≤ cap ∧ cap ≤ maxLen ∧ cur.size = cap * 2 ∧ cur.toList.take (ps.length * 2) = (ps.map escP).flatMap pairCells := by
      rcases hown1.2 with ⟨_, h0⟩ | hx
      · omega
      · exact hx
    subst hv1
    have Hbuf1 := Lib.hid (PBuf.of_own hown1)
    clear hown1 hg hps
    go_loopw [6] (fun i wr => ∃ k : Nat, k ≤ ps.length ∧ i = .int .i64 k ∧ Hid (PBuf wr g (ps.take k ++ (ps.drop k).map escP)) ∧ Below w.heap.size w wr) (fun i _ => ps.length - (intOf i).toNat)
    case atStart => exact ⟨0, Nat.zero_le _, rfl, by simpa using Hbuf1, hb1⟩
    case round =>
      obtain ⟨k, hk, rfl, Hbr, hbr⟩ := hrel
      by_cases hlt : k < ps.length
      · obtain ⟨p, hp⟩ : ∃ p, ps[k]? = some p := ⟨_, List.getElem?_eq_getElem hlt⟩
        have hlk : (ps.take k).length = k := by rw [List.length_take]; omega
        have hdk : ps.drop k = p :: ps.drop (k + 1) := by
          rw [List.getElem?_eq_getElem hlt, Option.some.injEq] at hp
          rw [← hp]; exact List.drop_eq_getElem_cons hlt
        have hat : (ps.take k ++ (ps.drop k).map escP)[k]? = some (escP p) := by
          rw [List.getElem?_append_right (by omega), hlk, Nat.sub_self, hdk]
          rfl
        have Hset : Hid ((ps.take k ++ (ps.drop k).map escP).set k p = ps.take (k + 1) ++ (ps.drop (k + 1)).map escP) := by
          show (ps.take k ++ (ps.drop k).map escP).set k p = _
          rw [List.set_append_right _ _ (by omega), hlk, Nat.sub_self, hdk]
          have hp' := hp
          rw [List.getElem?_eq_getElem hlt, Option.some.injEq] at hp'
          rw [List.take_succ_eq_append_getElem hlt, hp']
          simp
        obtain ⟨hc0, hc1⟩ := Hbr.out.cells hat
        obtain ⟨hl0, hl1⟩ := Hkv.out p (List.mem_of_getElem? hp)
        obtain ⟨pk, pv⟩ := p
        simp only [escP] at hc0 hc1 hl0 hl1
        have htr := ht.up hbr
        have hgl := Hbr.out.lt
        generalize ps.take k ++ (ps.drop k).map escP = L at *
        clear hp hdk hat hlk
        go_wp2_with fail
        refine (implUnescape_ok pk _ htr (by omega)).mono ?_
        rintro e w2 ⟨rfl, hb2⟩
        have hd1 := (hb2.cell (p := ⟨g, k * 2 + 1, none⟩) hgl).trans hc1
        have hbw2 : Below w.heap.size w w2 := hbr.trans (hb2.mono hbr.size)
        have ht2 := ht.up hbw2
        have hgl2 : g < w2.heap.size := Nat.lt_of_lt_of_le hgl hb2.size
        go_wp2_with fail
        refine (implUnescape_ok pv _ ht2 (by omega)).mono ?_
        rintro e w3 ⟨rfl, hb3⟩
        have Hb3 : Hid (PBuf w3 g L) := (Hbr.out.of_block (hb2.block g hgl)).of_block (hb3.block g hgl2)
        have hbw3 : Below w.heap.size w w3 := hbw2.trans (hb3.mono hbw2.size)
        have he0 := (hb3.cell (p := ⟨g, k * 2, none⟩) hgl2).trans ((hb2.cell (p := ⟨g, k * 2, none⟩) hgl).trans hc0)
        have he1 := (hb3.cell (p := ⟨g, k * 2 + 1, none⟩) hgl2).trans hd1
        have hf0 := Hb3.out.frozen (k * 2)
        have hf1 := Hb3.out.frozen (k * 2 + 1)
        clear hc0 hc1 hd1 hb2 hb3 htr ht2 hbw2
        go_wp2_with fail
        go_roundw
        case rel =>
          refine ⟨k + 1, by omega, by go_num, ?_, ?_⟩
          · rw [← Hset.out]; exact Hb3.out.put k (pk, pv)
          · exact (hbw3.setCell (by exact hbg) _).setCell (by exact hbg) _
        case measure => simp [intOf]; omega
      · obtain rfl : k = ps.length := by omega
        rw [List.take_length, List.drop_length, List.map_nil, List.append_nil] at Hbr
        go_wp2_with fail
        go_ret2
        exact ⟨_, rfl, Hbr.out.row cap hnc, hbr⟩

end Go.Proofs.YtjgjiaflccdflaaDoor
