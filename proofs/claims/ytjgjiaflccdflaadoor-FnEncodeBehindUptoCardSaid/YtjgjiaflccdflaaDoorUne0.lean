/-
  Small laws for net/url's unescape: unhex, hex digits, where the bytes of an escaped text stand. Conditions: each at its law.
-/
import Derived.Test.YtjgjiaflccdflaaDoorEnc0
namespace Go.Proofs.YtjgjiaflccdflaaDoor
open Go.RowKit

theorem hx_hi (c : UInt8) : hxN (hexB (c >>> 4)).toNat = true ∧ hxN (hexB (c &&& 15)).toNat = true := by
  have k : ∀ m : Fin 256, hxN (hexB (UInt8.ofNat m.val >>> 4)).toNat = true ∧ hxN (hexB (UInt8.ofNat m.val &&& 15)).toNat = true := by decide +kernel
  have k1 := k ⟨c.toNat, c.toNat_lt⟩
  simpa using k1

def unN (n : Nat) : Nat := 9 * (n / 64) + n % 16

theorem un_hi (c : UInt8) : unN (hexB (c >>> 4)).toNat = c.toNat / 16 ∧ unN (hexB (c &&& 15)).toNat = c.toNat % 16 := by
  have k : ∀ m : Fin 256, unN (hexB (UInt8.ofNat m.val >>> 4)).toNat = m.val / 16 ∧ unN (hexB (UInt8.ofNat m.val &&& 15)).toNat = m.val % 16 := by decide +kernel
  have k1 := k ⟨c.toNat, c.toNat_lt⟩
  simpa using k1

set_option maxRecDepth 100000 in
theorem unhex_ok (n : Nat) (hn : n < 256) (w : World) :
    Calls Tryd.prog 87 #[.int .u8 n] w fun e w' => e = .returned (.int .u8 (unN n : Nat)) ∧ w = w' := by
  have hn' : (n : Int) < 256 := by omega
  have hn0 : (0 : Int) ≤ (n : Int) := Int.natCast_nonneg _
  go_enter Tryd.func87, Tryd.ntmps87
  go_wp2
  go_ret
  refine ⟨?_, rfl⟩
  have e : ((unN n : Nat) : Int) = 9 * ((n : Int) / 64) + (n : Int) % 16 := by unfold unN; omega
  rw [e]
  rfl

theorem esc_at {x : Bs} {k j : Nat} {c b : UInt8} (hc : x[k]? = some c) (hb : (escB c)[j]? = some b) : (escE x)[(escE (x.take k)).length + j]? = some b := by
  have hk := (List.getElem?_eq_some_iff.1 hc).1
  have h := escE_append (x.take (k + 1)) (x.drop (k + 1))
  rw [List.take_append_drop, (esc_cut hk hc).1] at h
  rw [h, List.append_assoc, List.getElem?_append_right (by omega)]
  have hj := (List.getElem?_eq_some_iff.1 hb).1
  rw [show (escE (x.take k)).length + j - (escE (x.take k)).length = j by omega, List.getElem?_append_left hj]
  exact hb

theorem esc_sp {c : UInt8} (h : (c == 32) = true) : escB c = [43] ∧ c = 32 := by
  refine ⟨by rw [escB, h]; rfl, by simpa using h⟩

theorem esc_pl {c : UInt8} (h : (c == 32) = false) (hp : plainB c = true) : escB c = [c] ∧ c.toNat ≠ 37 ∧ c.toNat ≠ 43 := by
  refine ⟨by rw [escB, h, hp]; rfl, ?_, ?_⟩
  · intro e
    have : c = 37 := UInt8.toNat_inj.1 e
    subst this
    exact absurd hp (by decide)
  · intro e
    have : c = 43 := UInt8.toNat_inj.1 e
    subst this
    exact absurd hp (by decide)

theorem esc_hx {c : UInt8} (h : (c == 32) = false) (hp : plainB c = false) : escB c = [37, hexB (c >>> 4), hexB (c &&& 15)] := by
  rw [escB, h, hp]; rfl

end Go.Proofs.YtjgjiaflccdflaaDoor
