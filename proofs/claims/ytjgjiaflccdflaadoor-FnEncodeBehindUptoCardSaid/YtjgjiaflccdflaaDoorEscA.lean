/-
  The walk of net/url's escape in the mode of a query's component: its text is every byte escaped. Conditions: the package's table; the text has at most 2^32 bytes.
-/
import Derived.Test.YtjgjiaflccdflaaDoorBuf
namespace Go.Proofs.YtjgjiaflccdflaaDoor
open Go.RowKit

set_option maxRecDepth 100000 in
set_option maxHeartbeats 1000000 in
theorem escape_plain (s : Bs) (w : World) (ht : Tab w) (hl : s.length ≤ 4294967296) :
    Calls Tryd.prog 69 #[encStr s, .int .u8 32] w fun e w' => e = .returned (encStr (escE s)) ∧ Below w.heap.size w w' := by
  go_enter Tryd.func69, Tryd.ntmps69
  go_wp2_with (refine wpList_bytes _ rfl _ rfl s rfl ?_; intro cap w1 hb1 hcell1 hsz1)
  have ht1 := ht.up hb1
  have Hcell1 := Lib.hid hcell1
  clear hcell1
  go_loopw [5, 6, 19] (fun a b i wr => ∃ k : Nat, k ≤ s.length ∧ i = .int .i64 k ∧ a = .int .i64 (cntS (s.take k)) ∧ b = .int .i64 (cntH (s.take k)) ∧ wr = w1) (fun _ _ i _ => s.length - (intOf i).toNat)
  case atStart => exact ⟨0, Nat.zero_le _, rfl, rfl, rfl, rfl⟩
  case round =>
    obtain ⟨k, hk, rfl, rfl, rfl, hwr⟩ := hrel
    obtain rfl : w1 = wr := hwr.symm
    by_cases hlt : k < s.length
    · obtain ⟨c, hc⟩ : ∃ c, s[k]? = some c := ⟨_, List.getElem?_eq_getElem hlt⟩
      have hc0 := Hcell1.out k c hc
      have hc256 : c.toNat < 256 := c.toNat_lt
      have Hsh := Lib.hid (shouldEscape_ok c.toNat hc256 w1 ht1)
      have Htk : Hid (s.take (k + 1) = s.take k ++ [c]) := by
        rw [List.getElem?_eq_getElem hlt, Option.some.injEq] at hc
        show s.take (k + 1) = _
        rw [List.take_succ_eq_append_getElem hlt, hc]
      have hle := cnt_le (s.take k)
      have hle2 : (s.take k).length ≤ k := List.length_take_le _ _
      have hS1 := hle.1
      have hH1 := hle.2
      have hSs : cntS (s.take (k + 1)) = cntS (s.take k) + if c == 32 then 1 else 0 := by rw [Htk.out]; exact cntS_snoc _ _
      have hHs : cntH (s.take (k + 1)) = cntH (s.take k) + if (!plainB c && !(c == 32)) then 1 else 0 := by rw [Htk.out]; exact cntH_snoc _ _
      have HS := Lib.hid hSs
      have HH := Lib.hid hHs
      rw [shN_eq] at Hsh
      generalize cntS (s.take k) = S at *
      generalize cntH (s.take k) = H at *
      clear hSs hHs hc hle
      by_cases hpl : plainB c = true
      · have h32 : (c == 32) = false := by
          cases h : (c == 32) with
          | false => rfl
          | true => rw [beq_iff_eq] at h; subst h; exact absurd hpl (by decide)
        have Hsh2 : Hid (Calls Tryd.prog 84 #[.int .u8 (c.toNat : Int), .int .u8 32] w1 fun e w' => e = .returned (.bool false) ∧ w1 = w') := by rw [hpl] at Hsh; exact Hsh
        clear Hsh
        have Hpl := Lib.hid hpl
        have H32 := Lib.hid h32
        clear hpl h32
        go_wp2_with (go_at_call 84; refine (Hsh2.out).mono ?_; rintro e w' ⟨rfl, rfl⟩)
        go_roundw
        case rel => exact ⟨k + 1, by omega, by go_num, by rw [HS.out, H32.out]; rfl, by rw [HH.out, Hpl.out]; rfl, by trivial⟩
        case measure => simp [intOf]; omega
      · have hplf : plainB c = false := by simpa using hpl
        have Hsh2 : Hid (Calls Tryd.prog 84 #[.int .u8 (c.toNat : Int), .int .u8 32] w1 fun e w' => e = .returned (.bool true) ∧ w1 = w') := by rw [hplf] at Hsh; exact Hsh
        have Hpl := Lib.hid hplf
        clear Hsh hpl hplf
        cases h32 : (c == 32) with
        | true =>
          have hi : ((c.toNat : Int) == 32) = true := by rw [beq_iff_eq] at h32 ⊢; subst h32; rfl
          have H32 := Lib.hid h32
          clear h32
          go_wp2_with (go_at_call 84; refine (Hsh2.out).mono ?_; rintro e w' ⟨rfl, rfl⟩)
          go_roundw
          case rel => exact ⟨k + 1, by omega, by go_num, by rw [HS.out, H32.out]; rfl, by rw [HH.out, Hpl.out, H32.out]; rfl, by trivial⟩
          case measure => simp [intOf]; omega
        | false =>
          have hi : ((c.toNat : Int) == 32) = false := by
            rw [beq_eq_false_iff_ne] at h32 ⊢
            intro e
            exact h32 (UInt8.toNat_inj.1 (by show c.toNat = 32; omega))
          have H32 := Lib.hid h32
          clear h32
          go_wp2_with (go_at_call 84; refine (Hsh2.out).mono ?_; rintro e w' ⟨rfl, rfl⟩)
          go_roundw
          case rel => exact ⟨k + 1, by omega, by go_num, by rw [HS.out, H32.out]; rfl, by rw [HH.out, Hpl.out, H32.out]; rfl, by trivial⟩
          case measure => simp [intOf]; omega
    · obtain rfl : k = s.length := by omega
      simp only [List.take_length]
      have hle := cnt_le s
      have hS1 := hle.1
      have hH1 := hle.2
      generalize hS : cntS s = S at *
      generalize hH : cntH s = H at *
      have HS := Lib.hid hS
      have HH := Lib.hid hH
      clear hS hH hle
      by_cases h00 : S = 0 ∧ H = 0
      · obtain ⟨rfl, rfl⟩ := h00
        go_wp2
        go_ret
        refine ⟨?_, hb1⟩
        rw [escE_same HS.out HH.out]
        rfl
      · have hSH : ((S : Int) == 0 && (H : Int) == 0) = false := by
          rw [Bool.and_eq_false_iff]
          simp only [beq_eq_false_iff_ne]
          omega
        have hsz0 := hb1.size
        go_upto_region 10 with (fail)
        go_cut [42] (fun b wx => b = .bool false ∧ wx = w1)
        case first =>
          by_cases hS0 : S = 0
          · subst hS0
            have hH0 : ((H : Int) == 0) = false := by rw [beq_eq_false_iff_ne]; omega
            go_wp2_with fail
            go_meet
            exact ⟨rfl, rfl⟩
          · have hS0' : ((S : Int) == 0) = false := by rw [beq_eq_false_iff_ne]; omega
            go_wp2_with fail
            go_meet
            exact ⟨rfl, rfl⟩
        case rest =>
          obtain ⟨rfl, hwc⟩ := hcut
          obtain rfl : w1 = wc := hwc.symm
          go_upto_if 50 with (fail)
          go_cut [10] (fun t wx => ∃ g cap cur TT, t = .slice (some ⟨g, 0, none⟩) (s.length + 2 * H) cap ∧ w.heap.size ≤ g ∧ wx.heap[g]? = some (.cells cur TT (0, 0)) ∧ s.length + 2 * H ≤ cur.size ∧ Below w.heap.size w wx)
          case first =>
            by_cases hreq : s.length + 2 * H ≤ 64
            · have hsl := fun W => slice_buf W w1.heap.size (s.length + 2 * H) hreq
              have ecast : ((s.length + 2 * H : Nat) : Int) = (s.length : Int) + 2 * (H : Int) := by omega
              rw [ecast] at hsl
              clear ecast
              have hd1 : decide ((s.length : Int) + 2 * (H : Int) ≤ 64) = true := by simp; omega
              go_wp2_with fail
              go_meet
              exact ⟨w1.heap.size, 64, _, 128, rfl, by omega, heap_alloc_new w1 _, hreq, hb1.alloc hsz0 _⟩
            · have hd1 : decide ((s.length : Int) + 2 * (H : Int) ≤ 64) = false := by simp; omega
              obtain ⟨i0, hi, hz0, hz1, hz2⟩ := info_parts Tryd.Builder_Extra_165.infoByte
              have hm2 : i0.bytes * (s.length + 2 * H) ≤ 281474976710656 := by rw [hz2]; omega
              have hm3 : s.length + 2 * H ≤ maxLen := by simp only [maxLen]; omega
              go_wp2_with (at_make; refine wpList_make_full _ rfl _ _ 93 rfl w.heap.size 5 i0 _ 1 Tryd.underlying93 hi hz0 hz1 .i64 .i64 _ _ (s.length + 2 * H) rfl rfl (by omega) (by omega) hm2 hm3 (by simp; omega) ?_; intro w2 hown2 hgrow2)
              go_meet
              have hbx := (hb1.alloc hsz0 _).grown hgrow2 (by simp; omega) (fun j hj => by cases hj)
              obtain ⟨hl2, hr2⟩ := hown2
              rcases hr2 with ⟨e, _⟩ | ⟨g, cap2, cur, hv, hbg, hg, hn, _, hcs, _⟩
              · cases e
              · have hg1 : w1.heap.size + 1 = g := by
                  injection hv with e1 e2 e3
                  injection e1 with e1
                  injection e1 with e1
                  simpa using e1
                rw [← hg1] at hg
                exact ⟨w1.heap.size + 1, _, cur, 5, rfl, by omega, hg, by omega, hbx⟩
          case rest =>
            obtain ⟨g, cap2, cur, TT, rfl, hgb, hgh, hgs, hbx⟩ := hcut
            by_cases hH0 : H = 0
            · subst hH0
              clear h00 hSH
              have Hgh := Lib.hid hgh
              clear hgh
              go_wp2_with (refine wpList_copy_str _ rfl _ _ rfl g _ cap2 rfl s rfl cur TT Hgh.out (by omega) (by omega) ?_; intro w2 cur2 hg2 hsz2 hc2 hgr2)
              have hb2 : Below w.heap.size w w2 := hbx.grown hgr2 hbx.size (fun j hj => by cases hj; exact hgb)
              have Hbuf2 : Hid (Buf w2 g s.length s) := ⟨TT, cur2, hg2, by omega, hc2⟩
              clear hg2 hc2 hgr2 hsz2 Hgh
              go_loopw [12] (fun i wr => ∃ k : Nat, k ≤ s.length ∧ i = .int .i64 k ∧ Hid (Buf wr g s.length (plusE (s.take k) ++ s.drop k)) ∧ Below w.heap.size w wr) (fun i _ => s.length - (intOf i).toNat)
              case atStart => exact ⟨0, Nat.zero_le _, rfl, Hbuf2, hb2⟩
              case round =>
                obtain ⟨k, hk, rfl, Hbr, hbr⟩ := hrel
                by_cases hlt : k < s.length
                · obtain ⟨c, hc⟩ : ∃ c, s[k]? = some c := ⟨_, List.getElem?_eq_getElem hlt⟩
                  have Hc := Lib.hid hc
                  obtain ⟨old, hold⟩ := Hbr.out.old hlt
                  have hfr := Hbr.out.frozen k
                  cases h32 : (c == 32) with
                  | true =>
                    have hi : ((((⟨s.toArray⟩ : ByteArray)[k]'(bytes_lt hlt)).toNat : Int) == 32) = true := by rw [bytes_get hc]; rw [beq_iff_eq] at h32 ⊢; subst h32; rfl
                    have H32 := Lib.hid h32
                    clear h32
                    go_wp2_with fail
                    go_roundw
                    case rel => exact ⟨k + 1, by omega, by go_num, Hbr.out.put _ k 43 43 rfl hlt (fun j d hj => by have := plus_step hlt Hc.out j d hj; rw [H32.out] at this; exact this), hbr.setCell (by exact hgb) _⟩
                    case measure => simp [intOf]; omega
                  | false =>
                    have hi : ((((⟨s.toArray⟩ : ByteArray)[k]'(bytes_lt hlt)).toNat : Int) == 32) = false := by
                      rw [bytes_get hc]
                      rw [beq_eq_false_iff_ne] at h32 ⊢
                      intro e
                      exact h32 (UInt8.toNat_inj.1 (by show c.toNat = 32; omega))
                    have H32 := Lib.hid h32
                    clear h32
                    go_wp2_with fail
                    go_roundw
                    case rel =>
                      refine ⟨k + 1, by omega, by go_num, ?_, hbr⟩
                      rw [plus_same hlt Hc.out H32.out]
                      exact Hbr
                    case measure => simp [intOf]; omega
                · obtain rfl : k = s.length := by omega
                  have hstr := string_buf wr g cap2 (escE s) s.length (by have h := escE_length s; rw [HH.out] at h; omega) (fun j b hj => by
                    have h := Hbr.out
                    rw [List.take_length, List.drop_length, List.append_nil, plusE_esc HH.out] at h
                    exact h.cell hj)
                  go_wp2_with fail
                  go_ret
                  exact ⟨rfl, hbr⟩
            · have hH0' : ((H : Int) == 0) = false := by rw [beq_eq_false_iff_ne]; omega
              clear h00 hSH hH0
              have Hbuf0 : Hid (Buf wc g (s.length + 2 * H) []) := ⟨TT, cur, hgh, hgs, fun j b hj => by cases hj⟩
              clear hgh
              have hgl := Hbuf0.out.lt
              have hszc := hbx.size
              go_wp2_with (refine wpList_bytes _ rfl _ rfl s rfl ?_; intro cap3 w2 hb2 hcell2 hsz2)
              have Hcell2 := Lib.hid hcell2
              clear hcell2
              have Hbuf2 : Hid (Buf w2 g (s.length + 2 * H) []) := Hbuf0.out.of_block (hb2.block _ hgl)
              have hbw2 : Below w.heap.size w w2 := hbx.trans (hb2.mono hszc)
              have ht2 := ht.up hbw2
              clear Hbuf0 hb2
              go_loopw [13, 78, 15, 88, 100] (fun j i _ _ _ wr => ∃ k : Nat, k ≤ s.length ∧ i = .int .i64 k ∧ j = .int .i64 (escE (s.take k)).length ∧ Hid (Buf wr g (s.length + 2 * H) (escE (s.take k))) ∧ Below w.heap.size w wr ∧ Hid (∀ j c, s[j]? = some c → wr.cell? ⟨wc.heap.size, j, none⟩ = some (.int .u8 (c.toNat : Int)))) (fun _ i _ _ _ _ => s.length - (intOf i).toNat)
              case atStart => exact ⟨0, Nat.zero_le _, rfl, rfl, Hbuf2, hbw2, Hcell2⟩
              case round =>
                obtain ⟨k, hk, rfl, rfl, Hbr, hbr, Hcr⟩ := hrel
                by_cases hlt : k < s.length
                · obtain ⟨c, hc⟩ : ∃ c, s[k]? = some c := ⟨_, List.getElem?_eq_getElem hlt⟩
                  have hc0 := Hcr.out k c hc
                  have Hcut := Lib.hid (esc_cut hlt hc)
                  have hc256 : c.toNat < 256 := c.toNat_lt
                  have Hsh := Lib.hid (fun W hW => shouldEscape_ok c.toNat hc256 W hW)
                  rw [shN_eq] at Hsh
                  have hRl : (escE s).length = s.length + 2 * H := by rw [escE_length, HH.out]
                  have hcl := Hcut.out.2
                  rw [hRl] at hcl
                  have htr := ht.up hbr
                  have hRb : s.length + 2 * H ≤ 12884901888 := by omega
                  generalize hE : escE (s.take k) = E at *
                  generalize hR : s.length + 2 * H = R at *
                  clear hc hE hR hRl HS HH hS1 hH1 hH0' Hcell1 Hcell2 Hbuf2 hb1 hsz1 ht1 hbx hgs hszc hsz2 hbw2 ht2
                  by_cases hpl : plainB c = true
                  · have h32 : (c == 32) = false := by
                      cases h : (c == 32) with
                      | false => rfl
                      | true => rw [beq_iff_eq] at h; subst h; exact absurd hpl (by decide)
                    have hi : ((c.toNat : Int) == 32) = false := by
                      rw [beq_eq_false_iff_ne] at h32 ⊢
                      intro e
                      exact h32 (UInt8.toNat_inj.1 (by show c.toNat = 32; omega))
                    have Hsh2 : Hid (Calls Tryd.prog 84 #[.int .u8 (c.toNat : Int), .int .u8 32] wr fun e w' => e = .returned (.bool false) ∧ wr = w') := by have := Hsh.out wr htr; rw [hpl] at this; exact this
                    have Hesc : Hid (escB c = [c]) := by show escB c = [c]; rw [escB, h32, hpl]; rfl
                    have hl1 : E.length < R := by rw [Hesc.out] at hcl; simp at hcl; omega
                    obtain ⟨old, hold⟩ := Hbr.out.old hl1
                    have hfr := Hbr.out.frozen E.length
                    clear Hsh hpl h32
                    go_wp2_with (go_at_call 84; refine (Hsh2.out).mono ?_; rintro e w' ⟨rfl, rfl⟩)
                    go_roundw
                    case rel =>
                      refine ⟨k + 1, by omega, by go_num, ?_, ?_, hbr.setCell (by exact hgb) _, ?_⟩
                      · rw [Hcut.out.1, Hesc.out, List.length_append]; go_num
                      · rw [Hcut.out.1, Hesc.out]; exact Hbr.out.push c _ rfl _ rfl hl1
                      · exact fun j c hj => (cell_set_far _ _ _ _ _ _ (by omega)).trans (Hcr.out j c hj)
                    case measure => simp [intOf]; omega
                  · have hplf : plainB c = false := by simpa using hpl
                    have Hsh2 : Hid (Calls Tryd.prog 84 #[.int .u8 (c.toNat : Int), .int .u8 32] wr fun e w' => e = .returned (.bool true) ∧ wr = w') := by have := Hsh.out wr htr; rw [hplf] at this; exact this
                    clear Hsh
                    cases h32 : (c == 32) with
                    | true =>
                      have hi : ((c.toNat : Int) == 32) = true := by rw [beq_iff_eq] at h32 ⊢; subst h32; rfl
                      have Hesc : Hid (escB c = [43]) := by show escB c = [43]; rw [escB, h32]; rfl
                      have hl1 : E.length < R := by rw [Hesc.out] at hcl; simp at hcl; omega
                      obtain ⟨old, hold⟩ := Hbr.out.old hl1
                      have hfr := Hbr.out.frozen E.length
                      clear hpl h32 hplf
                      go_wp2_with fail
                      go_roundw
                      case rel =>
                        refine ⟨k + 1, by omega, by go_num, ?_, ?_, hbr.setCell (by exact hgb) _, ?_⟩
                        · rw [Hcut.out.1, Hesc.out, List.length_append]; go_num
                        · rw [Hcut.out.1, Hesc.out]; exact Hbr.out.push 43 43 rfl _ rfl hl1
                        · exact fun j c hj => (cell_set_far _ _ _ _ _ _ (by omega)).trans (Hcr.out j c hj)
                      case measure => simp [intOf]; omega
                    | false =>
                      have hi : ((c.toNat : Int) == 32) = false := by
                        rw [beq_eq_false_iff_ne] at h32 ⊢
                        intro e
                        exact h32 (UInt8.toNat_inj.1 (by show c.toNat = 32; omega))
                      have Hesc : Hid (escB c = [37, hexB (c >>> 4), hexB (c &&& 15)]) := by show escB c = _; rw [escB, h32, hplf]; rfl
                      have hl3 : E.length + 2 < R := by rw [Hesc.out] at hcl; simp at hcl; omega
                      obtain ⟨old0, hold0⟩ := Hbr.out.old (show E.length < R by omega)
                      have hfr0 := Hbr.out.frozen E.length
                      obtain ⟨old1, hold1⟩ := Hbr.out.old (show E.length + 1 < R by omega)
                      have hfr1 := Hbr.out.frozen (E.length + 1)
                      obtain ⟨old2, hold2⟩ := Hbr.out.old (show E.length + 2 < R by omega)
                      have hfr2 := Hbr.out.frozen (E.length + 2)
                      clear hpl h32 hplf
                      go_wp2_with (go_at_call 84; refine (Hsh2.out).mono ?_; rintro e w' ⟨rfl, rfl⟩)
                      go_roundw
                      case rel =>
                        refine ⟨k + 1, by omega, by go_num, ?_, ?_, ?_, ?_⟩
                        · rw [Hcut.out.1, Hesc.out, List.length_append]; go_num
                        · rw [Hcut.out.1, Hesc.out]
                          have h1 := Hbr.out.push 37 37 rfl _ rfl (by omega)
                          have h2 := h1.push (hexB (c >>> 4)) _ rfl (E.length + 1) (by simp) (by omega)
                          have h3 := h2.push (hexB (c &&& 15)) _ rfl (E.length + 2) (by simp) (by omega)
                          simp only [List.append_assoc, List.cons_append, List.nil_append] at h3
                          rw [hex_at, hex_at, (hex_hi c).1, (hex_hi c).2]
                          exact h3
                        · exact ((hbr.setCell (by exact hgb) _).setCell (by exact hgb) _).setCell (by exact hgb) _
                        · exact fun j c hj => (cell_set_far _ _ _ _ _ _ (by omega)).trans ((cell_set_far _ _ _ _ _ _ (by omega)).trans ((cell_set_far _ _ _ _ _ _ (by omega)).trans (Hcr.out j c hj)))
                      case measure => simp [intOf]; omega
                · obtain rfl : k = s.length := by omega
                  have Hb2 := Lib.hid (show Buf wr g (s.length + 2 * H) (escE s) by have h := Hbr.out; rw [List.take_length] at h; exact h)
                  have hstr := string_buf wr g cap2 (escE s) (s.length + 2 * H) (by have h := escE_length s; rw [HH.out] at h; omega) (fun j b hj => Hb2.out.cell hj)
                  clear Hbr Hcr
                  go_wp2_with fail
                  go_ret
                  exact ⟨rfl, hbr⟩

end Go.Proofs.YtjgjiaflccdflaaDoor
