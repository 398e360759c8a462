/-
  The walk of spec.Cut at a text of parts. Conditions: at most 2^32 pairs, the text at most 2^46 bytes.
-/
import Derived.Test.YtjgjiaflccdflaaDoorCut0
import Derived.Test.YtjgjiaflccdflaaDoorPairs
namespace Go.Proofs.YtjgjiaflccdflaaDoor
open Go.RowKit Go.Maps

def escP (p : Bs × Bs) : Bs × Bs := (escE p.1, escE p.2)

theorem slice_str (s : Bs) (i j : Nat) (W : World) (h1 : i ≤ j) (h2 : j ≤ s.length) : (Instr.slice 9 (encStr s) (some (.int .i64 (i : Int))) (some (.int .i64 (j : Int))) none).run Tryd.prog W = .ok (encStr ((s.take j).drop i)) W := by
  have hsz : (⟨s.toArray⟩ : ByteArray).size = s.length := by show s.toArray.size = _; simp
  show (Instr.slice 9 (.string ⟨s.toArray⟩) (some (.int .i64 (i : Int))) (some (.int .i64 (j : Int))) none).run Tryd.prog W = _
  rw [run_slice_string W 9 _ _ _ _ _ Tryd.underlying9 (by omega) (by omega) (by omega), Int.toNat_natCast, Int.toNat_natCast, extract_str]

theorem slice_to (s : Bs) (j : Nat) (W : World) (h2 : j ≤ s.length) : (Instr.slice 9 (encStr s) none (some (.int .i64 (j : Int))) none).run Tryd.prog W = .ok (encStr (s.take j)) W := by
  have hsz : (⟨s.toArray⟩ : ByteArray).size = s.length := by show s.toArray.size = _; simp
  show (Instr.slice 9 (.string ⟨s.toArray⟩) none (some (.int .i64 (j : Int))) none).run Tryd.prog W = _
  rw [run_slice_string_to_if W 9 _ _ _ Tryd.underlying9, if_pos ⟨by omega, by omega⟩, Int.toNat_natCast, extract_str, List.drop_zero]

theorem slice_from (s : Bs) (i : Nat) (W : World) (h2 : i ≤ s.length) : (Instr.slice 9 (encStr s) (some (.int .i64 (i : Int))) none none).run Tryd.prog W = .ok (encStr (s.drop i)) W := by
  have hsz : (⟨s.toArray⟩ : ByteArray).size = s.length := by show s.toArray.size = _; simp
  show (Instr.slice 9 (.string ⟨s.toArray⟩) (some (.int .i64 (i : Int))) none none).run Tryd.prog W = _
  rw [run_slice_string_from_if W 9 _ _ _ Tryd.underlying9, if_pos ⟨by omega, by omega⟩, Int.toNat_natCast, extract_str, hsz, List.take_length]

theorem byte_at_ne {s : Bs} {k : Nat} {b : UInt8} (hb : s[k]? = some b) (h : k < (⟨s.toArray⟩ : ByteArray).size) {n : Nat} (hne : b.toNat ≠ n) : ((((⟨s.toArray⟩ : ByteArray)[k]'h).toNat : Int) == (n : Int)) = false := by
  rw [bytes_get hb, beq_eq_false_iff_ne]; omega

set_option maxRecDepth 100000 in
set_option maxHeartbeats 1000000 in
theorem cut_nil (w : World) : Calls Tryd.prog 52 #[encStr []] w fun e w' => e = .returned (.tuple #[.slice none 0 0, .bool true]) ∧ Below w.heap.size w w' := by
  go_enter Tryd.func52, Tryd.ntmps52
  go_wp2
  go_loopw [4, 5, 6] (fun o f i wr => o = .slice none 0 0 ∧ f = .int .i64 0 ∧ i = .int .i64 0 ∧ wr = w) (fun _ _ _ _ => 0)
  case atStart => exact ⟨rfl, rfl, rfl, rfl⟩
  case round =>
    obtain ⟨rfl, rfl, rfl, hwr⟩ := hrel
    obtain rfl : w = wr := hwr.symm
    go_wp2_with fail
    go_loopw [8] (fun k wr => k = .int .i64 0 ∧ wr = w) (fun _ _ => 0)
    case atStart => exact ⟨rfl, rfl⟩
    case round =>
      obtain ⟨rfl, hwr⟩ := hrel
      obtain rfl : w = wr := hwr.symm
      go_wp2_with fail
      go_ret2
      exact ⟨rfl, Below.refl _ _⟩

set_option maxRecDepth 100000 in
set_option maxHeartbeats 1000000 in
theorem cut_ok (ps : List (Bs × Bs)) (w : World) (hps : ps ≠ []) (hn : ps.length ≤ 4294967295) (hl : (encP ps).length ≤ 70368744177664) :
    Calls Tryd.prog 52 #[encStr (encP ps)] w fun e w' => ∃ v, e = .returned (.tuple #[v, .bool true]) ∧ w'.ownsRow w.heap.size 69 2 v ps.length ((ps.map escP).flatMap pairCells) ∧ Below w.heap.size w w' := by
  obtain ⟨i0, hi, hz0, hz1, hz2⟩ := info_parts Tryd.info69
  have Hend := Lib.hid (off_end hps)
  have Hat := Lib.hid (fun j p (h : ps[j]? = some p) => cut_at h)
  clear hps
  generalize encP ps = s at *
  go_enter Tryd.func52, Tryd.ntmps52
  go_wp2
  go_loopw [4, 5, 6] (fun o f i wr => ∃ j q : Nat, j ≤ ps.length ∧ f = .int .i64 (offE ps j) ∧ i = .int .i64 ((offE ps j + q : Nat) : Int) ∧ (∀ p, ps[j]? = some p → q ≤ (partE p).length) ∧ (j = ps.length → q = 0) ∧ wr.ownsRow w.heap.size 69 2 o j (((ps.take j).map escP).flatMap pairCells) ∧ Below w.heap.size w wr) (fun _ _ i _ => s.length + 1 - (intOf i).toNat)
  case atStart => exact ⟨0, 0, Nat.zero_le _, rfl, rfl, fun _ _ => Nat.zero_le _, fun _ => rfl, World.ownsRow_nil _ _ _ _, Below.refl _ _⟩
  case round =>
    obtain ⟨j, q, hj, rfl, rfl, hq, hq0, hown, hnx⟩ := hrel
    by_cases hlt : j < ps.length
    · obtain ⟨p, hp⟩ : ∃ p, ps[j]? = some p := ⟨_, List.getElem?_eq_getElem hlt⟩
      obtain ⟨pre, post, hs, hpre, hpost, hoff⟩ := Hat.out j p hp
      have hqp := hq p hp
      have hsl : s.length = offE ps j + (partE p).length + post.length := by rw [hs, List.length_append, List.length_append, hpre]; omega
      have Htk : Hid ((ps.take (j + 1)).map escP = (ps.take j).map escP ++ [escP p]) := by
        show (ps.take (j + 1)).map escP = _
        have hp' := hp
        rw [List.getElem?_eq_getElem hlt, Option.some.injEq] at hp'
        rw [List.take_succ_eq_append_getElem hlt, hp', List.map_append]
        rfl
      have Hoff := Lib.hid hoff
      have hs1 : offE ps j + (partE p).length ≤ s.length := by omega
      have Hs := Lib.hid hs
      have Hpre := Lib.hid hpre
      have Hpost := Lib.hid hpost
      have Hsl := Lib.hid hsl
      have Hp := Lib.hid hp
      have hpl : (partE p).length = (escE p.1).length + 1 + (escE p.2).length := by simp [partE]; omega
      have Hpl := Lib.hid hpl
      have hpl1 : (escE p.1).length + 1 + (escE p.2).length ≤ (partE p).length := by omega
      have hpl2 : (partE p).length ≤ (escE p.1).length + 1 + (escE p.2).length := by omega
      clear hp hs hpre hpost hoff hq hq0 hsl hpl
      generalize hO : offE ps j = O at *
      have HO := Lib.hid hO
      clear hO
      by_cases hqe : q < (partE p).length
      · -- inside a part
        obtain ⟨b, hb⟩ : ∃ b, (partE p)[q]? = some b := ⟨_, List.getElem?_eq_getElem hqe⟩
        have hb38 := part_free (List.mem_of_getElem? hb)
        have hsb : s[O + q]? = some b := by
          rw [Hs.out, List.getElem?_append_right (by rw [Hpre.out]; omega), Hpre.out, show O + q - O = q by omega, List.getElem?_append_left hqe]
          exact hb
        have hlt1 : O + q < s.length := by omega
        have hi1 : ((((⟨s.toArray⟩ : ByteArray)[O + q]'(bytes_lt hlt1)).toNat : Int) == 38) = false := byte_at_ne hsb _ (n := 38) (fun e => hb38 (UInt8.toNat_inj.1 e))
        clear hb hb38 hsb
        go_wp2_with fail
        go_roundw
        case rel =>
          refine ⟨j, q + 1, by omega, by rw [HO.out], by rw [HO.out]; go_num, fun p' hp' => ?_, fun e => by omega, hown, hnx⟩
          have e := Hp.out
          rw [hp', Option.some.injEq] at e
          rw [e]
          omega
        case measure => simp [intOf]; omega
      · obtain rfl : q = (partE p).length := by omega
        have hP : partE p = escE p.1 ++ 61 :: escE p.2 := rfl
        have Hesc : Hid (pairCells (escP p) = [encStr (escE p.1), encStr (escE p.2)]) := rfl
        have Hfree : Hid (∀ b ∈ escE p.1, b ≠ 61) := fun b hb => (escE_free hb).2
        generalize partE p = P at *
        generalize escE p.1 = K at *
        generalize escE p.2 = V at *
        have HP := Lib.hid hP
        have hpart : ∀ W, (Instr.slice 9 (encStr s) (some (.int .i64 (O : Int))) (some (.int .i64 ((O : Int) + (P.length : Int)))) none).run Tryd.prog W = .ok (encStr P) W := by
          intro W
          have h := slice_str s O (O + P.length) W (by omega) (by omega)
          rw [show (s.take (O + P.length)).drop O = P by
            rw [Hs.out, ← Hpre.out, List.take_length_add_append, List.drop_left', List.take_left']
            · rfl
            · rfl] at h
          rw [← h]
          simp only [Int.natCast_add]
        clear hP hqe hqp
        go_upto_region 6 with (fail)
        go_cut [24] (fun b wx => b = .bool false ∧ wx = wr)
        case first =>
          by_cases hlast : j + 1 = ps.length
          · have hpo := Hpost.out
            rw [if_pos hlast] at hpo
            have hsl := Hsl.out
            rw [hpo] at hsl
            have hge : ¬ O + P.length < s.length := by simp at hsl; omega
            have hge1 : s.length ≤ O + P.length := by omega
            clear hsl hpo hpart
            go_wp2_with fail
            go_meet
            exact ⟨rfl, rfl⟩
          · have hpo := Hpost.out
            rw [if_neg hlast] at hpo
            obtain ⟨r, hr⟩ := hpo
            have hsb : s[O + P.length]? = some 38 := by
              rw [Hs.out, hr, List.getElem?_append_right (by rw [Hpre.out]; omega), Hpre.out, show O + P.length - O = P.length by omega, List.getElem?_append_right (Nat.le_refl _), Nat.sub_self]
              rfl
            have hlt1 : O + P.length < s.length := (List.getElem?_eq_some_iff.1 hsb).1
            have hi1 : ((((⟨s.toArray⟩ : ByteArray)[O + P.length]'(bytes_lt hlt1)).toNat : Int) == 38) = true := by rw [bytes_get hsb]; rfl
            clear hsb hr hpart
            go_wp2_with fail
            go_meet
            exact ⟨by rw [bne, hi1]; rfl, rfl⟩
        case rest =>
          obtain ⟨rfl, hwc⟩ := hcut
          obtain rfl : wr = wc := hwc.symm
          go_wp2_with fail
          clear hpart
          go_loopw [8] (fun k wx => ∃ n : Nat, n ≤ K.length ∧ k = .int .i64 n ∧ wx = wr) (fun k _ => K.length - (intOf k).toNat)
          case atStart => exact ⟨0, Nat.zero_le _, rfl, rfl⟩
          case round =>
            obtain ⟨n, hnk, rfl, hwr⟩ := hrel
            subst hwr
            by_cases hnl : n < K.length
            · have hb : P[n]? = some K[n] := by rw [HP.out, List.getElem?_append_left hnl]; exact List.getElem?_eq_getElem hnl
              have hnp : n < P.length := by omega
              have hi1 : ((((⟨P.toArray⟩ : ByteArray)[n]'(bytes_lt hnp)).toNat : Int) == 61) = false := byte_at_ne hb _ (n := 61) (fun e => Hfree.out _ (List.getElem_mem hnl) (UInt8.toNat_inj.1 e))
              clear hb
              go_wp2_with fail
              go_roundw
              case rel => exact ⟨n + 1, by omega, by go_num, by trivial⟩
              case measure => simp [intOf]; omega
            · obtain rfl : n = K.length := by omega
              have hb : P[K.length]? = some 61 := by rw [HP.out, List.getElem?_append_right (Nat.le_refl _), Nat.sub_self]; rfl
              have hnp : K.length < P.length := by omega
              have hi1 : ((((⟨P.toArray⟩ : ByteArray)[K.length]'(bytes_lt hnp)).toNat : Int) == 61) = true := by rw [bytes_get hb]; rfl
              have hwr1 : IntKind.i64.wrap ((K.length : Int) + 1) = (K.length : Int) + 1 := by rw [IntKind.wrap_i64]; omega
              have hs1 : ∀ W, (Instr.slice 9 (encStr P) none (some (.int .i64 (K.length : Int))) none).run Tryd.prog W = .ok (encStr K) W := by
                intro W
                have h := slice_to P K.length W (by omega)
                rw [show P.take K.length = K by rw [HP.out, List.take_left']; rfl] at h
                exact h
              have hs2 : ∀ W, (Instr.slice 9 (encStr P) (some (.int .i64 ((K.length : Int) + 1))) none none).run Tryd.prog W = .ok (encStr V) W := by
                intro W
                have h := slice_from P (K.length + 1) W (by omega)
                rw [show P.drop (K.length + 1) = V by rw [HP.out, List.drop_length_add_append]; rfl] at h
                exact h
              have hone1 : ∀ u ∈ [encStr K, encStr V], u.oneCell' = true := by simp [Value.oneCell']
              have hm1 : j + 1 ≤ maxLen := by simp only [maxLen]; omega
              have hm2 : (j + 1) * 32 ≤ 140737488355328 := by omega
              have hm3 := hnx.size
              have hne : ((K.length : Int) == (P.length : Int)) = false := by rw [beq_eq_false_iff_ne]; omega
              clear hb
              go_wp2_with fail
              go_region_held3 (fun w' => True) (trivial)
                ((refine step_append_lies _ (by rfl) _ _ _ (by rfl) w.heap.size 69 i0 _ 2 32 Tryd.underlying45 hi hz0 hz1 hz2 rfl (by omega) _ _ _ (by rfl) ((hown.alloc _).drew) ⟨wr.heap.size, 0, none⟩ 1 1 [encStr K, encStr V] (by rfl) (by rfl) (World.news_of_block (cs := #[encStr K, encStr V]) (t := 69) (fr := (0, 0)) (heap_alloc_new wr _)) hone1 (by omega) hm1 hm2 (by simp; omega) (wr.heap.size + 1) (by simp) ?_; intro gg cap w1 hown1 hgrow hat hlt2))
              go_wp2
              go_roundw
              case rel =>
                refine ⟨j + 1, 0, by omega, by rw [Hoff.out]; go_num, by rw [Hoff.out]; go_num, fun _ _ => Nat.zero_le _, fun _ => rfl, ?_, ?_⟩
                · rw [Htk.out, List.flatMap_append, List.flatMap_cons, List.flatMap_nil, Hesc.out]
                  exact hown1
                · exact (hnx.alloc hm3 _).drew.grown hgrow (by simp; omega) (fun j hj => (hown.lt j hj).1)
              case measure => simp [intOf]; omega
    · obtain rfl : j = ps.length := by omega
      obtain rfl : q = 0 := hq0 rfl
      rw [Hend.out, Nat.add_zero]
      rw [List.take_length] at hown
      go_wp2_with fail
      go_ret2
      exact ⟨_, rfl, hown, hnx⟩

end Go.Proofs.YtjgjiaflccdflaaDoor
