/-
  The walks of net/url's shouldEscape, ishex and unhex, and what their table says. Conditions: the package's table holds what its initialiser lays.
-/
import Derived.Test.YtjgjiaflccdflaaDoorSpecD
namespace Go.Proofs.YtjgjiaflccdflaaDoor
open Go.RowKit

/-- the table of package net/url, by its initialiser -/
def tabZ : List Int := [0, 0, 0, 0, 0, 0, 0, 0, 0, 0, 0, 0, 0, 0, 0, 0, 0, 0, 0, 0, 0, 0, 0, 0, 0, 0, 0, 0, 0, 0, 0, 0, 0, 76, 12, 0, 95, 0, 95, 12, 76, 76, 76, 95, 93, 127, 127, 65, 255, 255, 255, 255, 255, 255, 255, 255, 255, 255, 79, 93, 12, 95, 12, 64, 67, 255, 255, 255, 255, 255, 255, 127, 127, 127, 127, 127, 127, 127, 127, 127, 127, 127, 127, 127, 127, 127, 127, 127, 127, 127, 127, 12, 0, 12, 0, 127, 0, 255, 255, 255, 255, 255, 255, 127, 127, 127, 127, 127, 127, 127, 127, 127, 127, 127, 127, 127, 127, 127, 127, 127, 127, 127, 127, 0, 0, 0, 127, 0, 0, 0, 0, 0, 0, 0, 0, 0, 0, 0, 0, 0, 0, 0, 0, 0, 0, 0, 0, 0, 0, 0, 0, 0, 0, 0, 0, 0, 0, 0, 0, 0, 0, 0, 0, 0, 0, 0, 0, 0, 0, 0, 0, 0, 0, 0, 0, 0, 0, 0, 0, 0, 0, 0, 0, 0, 0, 0, 0, 0, 0, 0, 0, 0, 0, 0, 0, 0, 0, 0, 0, 0, 0, 0, 0, 0, 0, 0, 0, 0, 0, 0, 0, 0, 0, 0, 0, 0, 0, 0, 0, 0, 0, 0, 0, 0, 0, 0, 0, 0, 0, 0, 0, 0, 0, 0, 0, 0, 0, 0, 0, 0, 0, 0, 0, 0, 0, 0, 0, 0, 0, 0, 0, 0, 0, 0, 0, 0]

/-- the package's table holds it -/
def Tab (w : World) : Prop := ∀ i, i < 256 → w.cell? ⟨0, i, none⟩ = some (.int .u8 (tabZ.getD i 0))

theorem Tab.up {w w' : World} (h : Tab w) (hb : Below w.heap.size w w') : Tab w' := fun i hi =>
  (hb.cell (p := ⟨0, i, none⟩) (World.block_lt_of_cell? w ⟨0, i, none⟩ (h i hi))).trans (h i hi)

def shN (n : Nat) : Bool := bits .and .u8 (tabZ.getD n 0) 32 == 0
def hxN (n : Nat) : Bool := bits .and .u8 (tabZ.getD n 0) 128 != 0

theorem shN_eq : ∀ c : UInt8, shN c.toNat = !plainB c := by
  have h : ∀ n : Fin 256, shN n.val = !plainB (UInt8.ofNat n.val) := by decide +kernel
  intro c
  have h1 := h ⟨c.toNat, c.toNat_lt⟩
  simpa using h1

set_option maxRecDepth 100000 in
theorem shouldEscape_ok (n : Nat) (hn : n < 256) (w : World) (ht : Tab w) :
    Calls Tryd.prog 84 #[.int .u8 n, .int .u8 32] w fun e w' => e = .returned (.bool (shN n)) ∧ w = w' := by
  have hc := ht n hn
  have hn' : (n : Int) < 256 := by omega
  have hn0 : (0 : Int) ≤ (n : Int) := Int.natCast_nonneg _
  unfold shN
  generalize tabZ.getD n 0 = z at *
  clear ht
  go_enter Tryd.func84, Tryd.ntmps84
  go_wp2
  go_ret
  exact ⟨rfl, rfl⟩

set_option maxRecDepth 100000 in
theorem ishex_ok (n : Nat) (hn : n < 256) (w : World) (ht : Tab w) :
    Calls Tryd.prog 86 #[.int .u8 n] w fun e w' => e = .returned (.bool (hxN n)) ∧ w = w' := by
  have hc := ht n hn
  have hn' : (n : Int) < 256 := by omega
  have hn0 : (0 : Int) ≤ (n : Int) := Int.natCast_nonneg _
  unfold hxN
  generalize tabZ.getD n 0 = z at *
  clear ht
  go_enter Tryd.func86, Tryd.ntmps86
  go_wp2
  go_ret
  exact ⟨rfl, rfl⟩

end Go.Proofs.YtjgjiaflccdflaaDoor
