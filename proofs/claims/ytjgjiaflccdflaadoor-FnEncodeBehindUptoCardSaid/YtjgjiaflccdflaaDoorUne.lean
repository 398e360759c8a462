/-
  The walk of net/url's unescape in the mode of a query's component, at a text that escape has made. Conditions: the package's table; at most 2^32 bytes.
-/
import Derived.Test.YtjgjiaflccdflaaDoorUne0
namespace Go.Proofs.YtjgjiaflccdflaaDoor
open Go.RowKit

theorem byte_ne {c : UInt8} {n : Nat} (h : c.toNat ≠ n) : ((c.toNat : Int) == (n : Int)) = false := by
  rw [beq_eq_false_iff_ne]; omega

theorem or_hex (c : UInt8) : bits BinOp.or IntKind.u8 ((c.toNat : Int) / 16 * 16 % 256) ((c.toNat : Int) % 16) = (c.toNat : Int) := by
  have k : ∀ m : Fin 256, bits BinOp.or IntKind.u8 ((m.val : Int) / 16 * 16 % 256) ((m.val : Int) % 16) = (m.val : Int) := by decide +kernel
  exact k ⟨c.toNat, c.toNat_lt⟩

theorem index_str (s : Bs) (i d : Nat) (W : World) {b : UInt8} (h : s[i + d]? = some b) : (Instr.index 9 (encStr s) (.int .i64 ((i : Int) + (d : Int)))).run Tryd.prog W = .ok (.int .u8 (b.toNat : Int)) W := by
  have hk := (List.getElem?_eq_some_iff.1 h).1
  have hsz : (⟨s.toArray⟩ : ByteArray).size = s.length := by show s.toArray.size = _; simp
  show (Instr.index 9 (.string ⟨s.toArray⟩) (.int .i64 ((i : Int) + (d : Int)))).run Tryd.prog W = _
  rw [run_index_string W 9 _ _ _ Tryd.underlying9, dif_pos ⟨by omega, by omega⟩]
  have e : ((i : Int) + (d : Int)).toNat = i + d := by omega
  have hk2 : i + d < (⟨s.toArray⟩ : ByteArray).size := by omega
  have : (⟨s.toArray⟩ : ByteArray)[((i : Int) + (d : Int)).toNat]'(by omega) = b := by
    simp only [e]
    exact bytes_get h hk2
  rw [this]

set_option maxRecDepth 100000 in
set_option maxHeartbeats 1000000 in
theorem unescape_plain (x : Bs) (w : World) (ht : Tab w) (hl : x.length ≤ 4294967296) :
    Calls Tryd.prog 72 #[encStr (escE x), .int .u8 32] w fun e w' => e = .returned (.tuple #[encStr x, .nilIface]) ∧ Below w.heap.size w w' := by
  have hlen := escE_length x
  have hcl := (cnt_le x).2
  obtain ⟨s, hs⟩ : ∃ s, s = escE x := ⟨_, rfl⟩
  rw [← hs] at hlen ⊢
  have Hs := Lib.hid hs
  have hlen1 : s.length ≤ x.length + 2 * cntH x := by omega
  have hlen2 : x.length + 2 * cntH x ≤ s.length := by omega
  clear hs hlen
  go_enter Tryd.func72, Tryd.ntmps72
  go_wp2
  go_loopw [0, 6, 7, 8] (fun z n hp i wr => ∃ k : Nat, k ≤ x.length ∧ z = encStr s ∧ n = .int .i64 (cntH (x.take k)) ∧ hp = .bool (decide (0 < cntS (x.take k))) ∧ i = .int .i64 (escE (x.take k)).length ∧ wr = w) (fun _ _ _ i _ => s.length - (intOf i).toNat)
  case atStart => exact ⟨0, Nat.zero_le _, rfl, rfl, rfl, rfl, rfl⟩
  case round =>
    obtain ⟨k, hk, rfl, rfl, rfl, rfl, hwr⟩ := hrel
    obtain rfl : w = wr := hwr.symm
    by_cases hlt : k < x.length
    · obtain ⟨c, hc⟩ : ∃ c, x[k]? = some c := ⟨_, List.getElem?_eq_getElem hlt⟩
      have Hcut := Lib.hid (esc_cut hlt hc)
      have hcl2 : (escE (x.take k)).length + (escB c).length ≤ s.length := by rw [Hs.out]; exact Hcut.out.2
      have Htk : x.take (k + 1) = x.take k ++ [c] := by
        rw [List.getElem?_eq_getElem hlt, Option.some.injEq] at hc
        rw [List.take_succ_eq_append_getElem hlt, hc]
      have HS := Lib.hid (cntS_snoc (x.take k) c)
      have HH := Lib.hid (cntH_snoc (x.take k) c)
      rw [← Htk] at HS HH
      have hN : cntH (x.take k) ≤ k := Nat.le_trans (cnt_le _).2 (List.length_take_le _ _)
      have Hat : Hid (∀ j b, (escB c)[j]? = some b → s[(escE (x.take k)).length + j]? = some b) := fun j b hb => by rw [Hs.out]; exact esc_at hc hb
      clear hc Htk
      generalize escE (x.take k) = E at *
      generalize cntH (x.take k) = N at *
      generalize cntS (x.take k) = M at *
      cases h32 : (c == 32) with
      | true =>
        have Hsp := Lib.hid (esc_sp h32)
        have hl1 : E.length < s.length := by rw [Hsp.out.1] at hcl2; simp at hcl2; omega
        have hb : s[E.length]? = some 43 := by have := Hat.out 0 43 (by rw [Hsp.out.1]; rfl); simpa using this
        have hi1 : ((((⟨s.toArray⟩ : ByteArray)[E.length]'(bytes_lt hl1)).toNat : Int) == 37) = false := by rw [bytes_get hb]; rfl
        have hi2 : ((((⟨s.toArray⟩ : ByteArray)[E.length]'(bytes_lt hl1)).toNat : Int) == 43) = true := by rw [bytes_get hb]; rfl
        have H32 := Lib.hid h32
        clear hb h32 Hat
        go_wp2_with fail
        go_roundw
        case rel =>
          refine ⟨k + 1, by omega, rfl, ?_, ?_, ?_, by trivial⟩
          · rw [HH.out, H32.out]; simp
          · rw [HS.out, H32.out]; simp
          · rw [Hcut.out.1, Hsp.out.1, List.length_append]; go_num
        case measure => simp [intOf]; omega
      | false =>
        cases hpl : plainB c with
        | true =>
          have Hsp := Lib.hid (esc_pl h32 hpl)
          have hl1 : E.length < s.length := by rw [Hsp.out.1] at hcl2; simp at hcl2; omega
          have hb : s[E.length]? = some c := by have := Hat.out 0 c (by rw [Hsp.out.1]; rfl); simpa using this
          have hi1 : ((((⟨s.toArray⟩ : ByteArray)[E.length]'(bytes_lt hl1)).toNat : Int) == 37) = false := by rw [bytes_get hb]; exact byte_ne Hsp.out.2.1
          have hi2 : ((((⟨s.toArray⟩ : ByteArray)[E.length]'(bytes_lt hl1)).toNat : Int) == 43) = false := by rw [bytes_get hb]; exact byte_ne Hsp.out.2.2
          have H32 := Lib.hid h32
          have Hpl := Lib.hid hpl
          clear hb h32 hpl Hat
          go_wp2_with fail
          go_roundw
          case rel =>
            refine ⟨k + 1, by omega, rfl, ?_, ?_, ?_, by trivial⟩
            · rw [HH.out, H32.out, Hpl.out]; simp
            · rw [HS.out, H32.out]; simp
            · rw [Hcut.out.1, Hsp.out.1, List.length_append]; go_num
          case measure => simp [intOf]; omega
        | false =>
          have Hsp := Lib.hid (esc_hx h32 hpl)
          have hl1 : E.length + 2 < s.length := by rw [Hsp.out] at hcl2; simp at hcl2; omega
          have hb : s[E.length]? = some 37 := by have := Hat.out 0 37 (by rw [Hsp.out]; rfl); simpa using this
          have hb1 : s[E.length + 1]? = some (hexB (c >>> 4)) := by have := Hat.out 1 _ (by rw [Hsp.out]; rfl); simpa using this
          have hb2 : s[E.length + 2]? = some (hexB (c &&& 15)) := by have := Hat.out 2 _ (by rw [Hsp.out]; rfl); simpa using this
          have hi1 : ((((⟨s.toArray⟩ : ByteArray)[E.length]'(bytes_lt (by omega))).toNat : Int) == 37) = true := by rw [bytes_get hb]; rfl
          have Hx1 : Hid (hxN ((⟨s.toArray⟩ : ByteArray)[E.length + 1]'(bytes_lt (by omega))).toNat = true) := by show hxN _ = true; rw [bytes_get hb1]; exact (hx_hi c).1
          have Hx2 : Hid (hxN ((⟨s.toArray⟩ : ByteArray)[E.length + 2]'(bytes_lt (by omega))).toNat = true) := by show hxN _ = true; rw [bytes_get hb2]; exact (hx_hi c).2
          have H32 := Lib.hid h32
          have Hpl := Lib.hid hpl
          clear hb hb1 hb2 h32 hpl Hat
          go_wp2_with (go_at_call 86; refine (ishex_ok _ (UInt8.toNat_lt _) _ ht).mono ?_; rintro e w' ⟨rfl, rfl⟩; first | rw [Hx1.out] | rw [Hx2.out])
          go_roundw
          case rel =>
            refine ⟨k + 1, by omega, rfl, ?_, ?_, ?_, by trivial⟩
            · rw [HH.out, H32.out, Hpl.out]; simp
            · rw [HS.out, H32.out]; simp
            · rw [Hcut.out.1, Hsp.out, List.length_append]; go_num
          case measure => simp [intOf]; omega
    · obtain rfl : k = x.length := by omega
      simp only [List.take_length]
      have hEl : (escE x).length = s.length := by rw [Hs.out]
      rw [hEl]
      generalize hH : cntH x = H at *
      generalize hS : cntS x = S at *
      have HH := Lib.hid hH
      have HS := Lib.hid hS
      clear hH hS hEl
      by_cases h00 : S = 0 ∧ H = 0
      · obtain ⟨rfl, rfl⟩ := h00
        go_wp2
        go_ret2
        refine ⟨?_, Below.refl _ _⟩
        have e := Hs.out
        rw [escE_same HS.out HH.out] at e
        rw [e]
        rfl
      · obtain ⟨d, hd⟩ : ∃ d, d = decide (0 < S) := ⟨_, rfl⟩
        rw [← hd]
        have Hd := Lib.hid hd
        clear hd
        go_upto_region 26 with (fail)
        go_cut [153] (fun b wx => b = .bool false ∧ wx = w)
        case first =>
          by_cases hH0 : H = 0
          · subst hH0
            obtain rfl : d = true := by rw [Hd.out]; simp; omega
            go_wp2_with fail
            go_meet
            exact ⟨rfl, rfl⟩
          · have hH0' : ((H : Int) == 0) = false := by rw [beq_eq_false_iff_ne]; omega
            go_wp2_with fail
            go_meet
            exact ⟨rfl, rfl⟩
        case rest =>
          obtain ⟨rfl, hwc⟩ := hcut
          obtain rfl : w = wc := hwc.symm
          clear h00
          have Hsub : Hid ((s.length : Int) - 2 * (H : Int) = ((x.length : Nat) : Int)) := by show _ = _; omega
          go_wp2_with (go_at_call 88; go_loud (rw [Hsub.out]; refine (Tryd.Builder_Grow_fresh w.heap.size w.heap.size x.length _ (Nat.le_refl _) (heap_alloc_new w _) (by simp) (by omega)).mono ?_; rintro e w1 ⟨rfl, hbu1, hbel1⟩))
          have hbw1 : Below w.heap.size w w1 := ((Below.refl _ _).alloc (Nat.le_refl _) _).trans hbel1
          have Hbu1 : Hid (Lib.IsBuilderF 95 5 w.heap.size w.heap.size (Lib.byteCells []) w1) := .inr (Lib.BuilderAtF.of hbu1)
          clear hbu1 hbel1 Hsub
          go_loopw [12] (fun i wr => ∃ k : Nat, k ≤ x.length ∧ i = .int .i64 (escE (x.take k)).length ∧ Hid (Lib.IsBuilderF 95 5 w.heap.size w.heap.size (Lib.byteCells (x.take k)) wr) ∧ Below w.heap.size w wr) (fun i _ => s.length - (intOf i).toNat)
          case atStart => exact ⟨0, Nat.zero_le _, rfl, Hbu1, hbw1⟩
          case round =>
            obtain ⟨k, hk, rfl, Hbr, hbr⟩ := hrel
            have hszr := hbr.size
            by_cases hlt : k < x.length
            · obtain ⟨c, hc⟩ : ∃ c, x[k]? = some c := ⟨_, List.getElem?_eq_getElem hlt⟩
              have Hcut := Lib.hid (esc_cut hlt hc)
              have hcl2 : (escE (x.take k)).length + (escB c).length ≤ s.length := by rw [Hs.out]; exact Hcut.out.2
              have Htk : Hid (x.take (k + 1) = x.take k ++ [c]) := by
                show x.take (k + 1) = x.take k ++ [c]
                rw [List.getElem?_eq_getElem hlt, Option.some.injEq] at hc
                rw [List.take_succ_eq_append_getElem hlt, hc]
              have Hat : Hid (∀ j b, (escB c)[j]? = some b → s[(escE (x.take k)).length + j]? = some b) := fun j b hb => by rw [Hs.out]; exact esc_at hc hb
              have hT : (x.take k).length + 1 ≤ 140737488355328 := by have := List.length_take_le k x; omega
              clear hc
              generalize escE (x.take k) = E at *
              generalize x.take k = T at *
              cases h32 : (c == 32) with
              | true =>
                have Hsp := Lib.hid (esc_sp h32)
                have hl1 : E.length < s.length := by rw [Hsp.out.1] at hcl2; simp at hcl2; omega
                have hb : s[E.length]? = some 43 := by have := Hat.out 0 43 (by rw [Hsp.out.1]; rfl); simpa using this
                have hi1 : ((((⟨s.toArray⟩ : ByteArray)[E.length]'(bytes_lt hl1)).toNat : Int) == 37) = false := by rw [bytes_get hb]; rfl
                have hi2 : ((((⟨s.toArray⟩ : ByteArray)[E.length]'(bytes_lt hl1)).toNat : Int) == 43) = true := by rw [bytes_get hb]; rfl
                clear hb h32 Hat
                go_wp2_with (go_at_call 60; refine (wB w.heap.size w.heap.size T 32 _ Hbr.out hT hszr).mono ?_; rintro e w2 ⟨rfl, hbu2, hbel2, _⟩)
                go_roundw
                case rel =>
                  refine ⟨k + 1, by omega, ?_, ?_, hbr.trans hbel2⟩
                  · rw [Hcut.out.1, Hsp.out.1, List.length_append]; go_num
                  · rw [Htk.out, Hsp.out.2]; exact hbu2
                case measure => simp [intOf]; omega
              | false =>
                cases hpl : plainB c with
                | true =>
                  have Hsp := Lib.hid (esc_pl h32 hpl)
                  have hl1 : E.length < s.length := by rw [Hsp.out.1] at hcl2; simp at hcl2; omega
                  have hb : s[E.length]? = some c := by have := Hat.out 0 c (by rw [Hsp.out.1]; rfl); simpa using this
                  have hi1 : ((((⟨s.toArray⟩ : ByteArray)[E.length]'(bytes_lt hl1)).toNat : Int) == 37) = false := by rw [bytes_get hb]; exact byte_ne Hsp.out.2.1
                  have hi2 : ((((⟨s.toArray⟩ : ByteArray)[E.length]'(bytes_lt hl1)).toNat : Int) == 43) = false := by rw [bytes_get hb]; exact byte_ne Hsp.out.2.2
                  have Hb := Lib.hid (bytes_get hb (bytes_lt hl1))
                  clear hb h32 hpl Hat
                  go_wp2_with (go_at_call 60; refine (wB w.heap.size w.heap.size T _ _ Hbr.out hT hszr).mono ?_; rintro e w2 ⟨rfl, hbu2, hbel2, _⟩)
                  go_roundw
                  case rel =>
                    refine ⟨k + 1, by omega, ?_, ?_, hbr.trans hbel2⟩
                    · rw [Hcut.out.1, Hsp.out.1, List.length_append]; go_num
                    · rw [Htk.out]; rw [Hb.out] at hbu2; exact hbu2
                  case measure => simp [intOf]; omega
                | false =>
                  have Hsp := Lib.hid (esc_hx h32 hpl)
                  have hl1 : E.length + 2 < s.length := by rw [Hsp.out] at hcl2; simp at hcl2; omega
                  have hb : s[E.length]? = some 37 := by have := Hat.out 0 37 (by rw [Hsp.out]; rfl); simpa using this
                  have hb1 : s[E.length + 1]? = some (hexB (c >>> 4)) := by have := Hat.out 1 _ (by rw [Hsp.out]; rfl); simpa using this
                  have hb2 : s[E.length + 2]? = some (hexB (c &&& 15)) := by have := Hat.out 2 _ (by rw [Hsp.out]; rfl); simpa using this
                  have hi1 : ((((⟨s.toArray⟩ : ByteArray)[E.length]'(bytes_lt (by omega))).toNat : Int) == 37) = true := by rw [bytes_get hb]; rfl
                  have hE0 : (0 : Int) ≤ (E.length : Int) := Int.natCast_nonneg _
                  have hwr1 : IntKind.i64.wrap ((E.length : Int) + 1) = (E.length : Int) + 1 := by rw [IntKind.wrap_i64]; omega
                  have hwr2 : IntKind.i64.wrap ((E.length : Int) + 2) = (E.length : Int) + 2 := by rw [IntKind.wrap_i64]; omega
                  have Hun1 : Hid (∀ W, Calls Tryd.prog 87 #[.int .u8 ((hexB (c >>> 4)).toNat : Int)] W fun e w' => e = .returned (.int .u8 ((c.toNat / 16 : Nat) : Int)) ∧ w' = W) := fun W => (unhex_ok _ (UInt8.toNat_lt _) W).mono (by rintro e w' ⟨rfl, rfl⟩; rw [(un_hi c).1]; exact ⟨rfl, rfl⟩)
                  have Hun2 : Hid (∀ W, Calls Tryd.prog 87 #[.int .u8 ((hexB (c &&& 15)).toNat : Int)] W fun e w' => e = .returned (.int .u8 ((c.toNat % 16 : Nat) : Int)) ∧ w' = W) := fun W => (unhex_ok _ (UInt8.toNat_lt _) W).mono (by rintro e w' ⟨rfl, rfl⟩; rw [(un_hi c).2]; exact ⟨rfl, rfl⟩)
                  have hix1 : ∀ W, (Instr.index 9 (encStr s) (.int .i64 ((E.length : Int) + 1))).run Tryd.prog W = .ok (.int .u8 ((hexB (c >>> 4)).toNat : Int)) W := fun W => index_str s E.length 1 W hb1
                  have hix2 : ∀ W, (Instr.index 9 (encStr s) (.int .i64 ((E.length : Int) + 2))).run Tryd.prog W = .ok (.int .u8 ((hexB (c &&& 15)).toNat : Int)) W := fun W => index_str s E.length 2 W hb2
                  clear hb hb1 hb2 h32 hpl Hat
                  go_wp2_with fail
                  refine wp_region_still_tail 12 (by kernel_rfl) (by kernel_rfl) ?_
                  simp only [List.take_succ_cons, List.take_zero, List.drop_succ_cons, List.drop_zero]
                  still_step
                  still_step
                  still_step
                  still_step
                  still_call (Hun1.out _)
                  still_step
                  still_step
                  still_step
                  still_step
                  still_step
                  still_call (Hun2.out _)
                  still_step
                  refine wpStill_nil ?_
                  change wpList _ _ _ _ _ wr.drew
                  go_wp2_with fail
                  rw [or_hex c]
                  refine (wB w.heap.size w.heap.size T c wr.drew Hbr.out hT hszr).mono ?_
                  rintro e w2 ⟨rfl, hbu2, hbel2, _⟩
                  have hbr2 : Below w.heap.size w w2 := hbr.drew.trans hbel2
                  clear hix1 hix2 hbel2
                  go_wp2_with fail
                  go_roundw
                  case rel =>
                    refine ⟨k + 1, by omega, ?_, ?_, hbr2⟩
                    · rw [Hcut.out.1, Hsp.out, List.length_append]; go_num
                    · rw [Htk.out]; exact hbu2
                  case measure => simp [intOf]; omega
            · obtain rfl : k = x.length := by omega
              rw [List.take_length] at Hbr
              have hEl : (escE (x.take x.length)).length = s.length := by rw [Hs.out, List.take_length]
              rw [hEl]
              go_wp2_with (go_at_call 62; refine (Tryd.Builder_String_any_k w.heap.size w.heap.size x _ Hbr.out hszr).mono ?_; rintro e w2 ⟨rfl, _, hbel2, _⟩)
              go_ret2
              exact ⟨rfl, hbr.trans hbel2⟩

end Go.Proofs.YtjgjiaflccdflaaDoor
