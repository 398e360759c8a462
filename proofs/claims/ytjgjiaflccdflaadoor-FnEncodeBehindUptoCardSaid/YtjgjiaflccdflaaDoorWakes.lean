/-
  The walks of impl.Encode and of laws.wakes; impl.Run under the sizes' words. Conditions: the package's table; entries and steps together at most 2^22, texts of at most 2^21 bytes.
-/
import Derived.Test.YtjgjiaflccdflaaDoorEnc
import Derived.Test.YtjgjiaflccdflaaDoorSizes
import Derived.Test.YtjgjiaflccdflaaDoorSpecD
namespace Go.Proofs.YtjgjiaflccdflaaDoor
open Go.RowKit Go.Maps

theorem runO (v sv : Value) (es : List Ent) (ss : List Stp) (w : World) (h : Ents w v es) (hst : Stps w sv ss) {A B K : Nat} (hA : Ok A B es) (hK : OkS K B ss) (hs : A + K ≤ 4194304) (hB : B ≤ 2097152) :
    Calls Tryd.prog 21 #[v, sv] w fun e w' => ∃ v', e = .returned v' ∧ Ents w' v' (runE es ss) ∧ Below w.heap.size w w' :=
  run_ok v sv es ss w h hst (by have := hA.len; have := hK.len; omega) (fun q hq => by have := hA.key q hq; simp only [maxLen]; omega) (fun s hs => by have := hK.key s hs; simp only [maxLen]; omega) A hA.vals (by have := hK.len; omega)

set_option maxRecDepth 100000 in
set_option maxHeartbeats 1000000 in
theorem encode_ok (v sv : Value) (es : List Ent) (ss : List Stp) (w : World) (h : Ents w v es) (hst : Stps w sv ss) (ht : Tab w) {A B K : Nat} (hA : Ok A B es) (hK : OkS K B ss) (hs : A + K ≤ 4194304) (hB : B ≤ 2097152) :
    Calls Tryd.prog 17 #[v, sv] w fun e w' => e = .returned (encStr (encE (runE es ss))) ∧ Below w.heap.size w w' := by
  have hok := hA.run hK
  go_enter Tryd.func17, Tryd.ntmps17
  go_wp2_with fail
  refine (valuesOf_ok v es w h (by have := hA.len; omega) (fun q hq => by have := hA.key q hq; simp only [maxLen]; omega) (fun q hq => by have := hA.vals q hq; omega)).mono ?_
  rintro e w1 ⟨rfl, hv1, hb1⟩
  go_wp2_with fail
  refine (play_ok w w1 sv ss w.heap.size (tidyE es) hst hb1 hv1 (by have := tidyE_length es; have := hA.len; have := hK.len; omega) A hA.tidy.vals (by have := hK.len; omega) (fun s hs => by have := hK.key s hs; simp only [maxLen]; omega)).mono ?_
  rintro e w2 ⟨rfl, hv2, hb2⟩
  have hb02 := hb1.trans hb2
  go_wp2_with fail
  refine (encodeV_ok w.heap.size w.heap.size (runE es ss) w2 hv2 (ht.up hb02) (by have := hok.len; omega) (fun q hq => ⟨by have := hok.key q hq; omega, by have := hok.vals q hq; omega, fun u hu => by have := hok.val q hq u hu; omega⟩) (hok.text hs hB)).mono ?_
  rintro e w3 ⟨rfl, hb3⟩
  go_wp2_with fail
  go_ret
  exact ⟨rfl, hb02.trans (hb3.mono hb02.size)⟩

theorem ents_nil (w : World) : Ents w (.slice none 0 0) [] := ⟨[], trivial, rfl, none, 0, rfl, Nat.le_refl _, fun h => absurd h (by simp)⟩
theorem stps_nil (w : World) : Stps w (.slice none 0 0) [] := ⟨rfl, none, 0, rfl, Nat.le_refl _, fun h => absurd h (by simp)⟩

theorem stps_new (w : World) (k : Int) (a b : Bs) (t : TypeId) : Stps (w.alloc (.cells #[.int .i64 k, encStr a, encStr b] t)) (.slice (some ⟨w.heap.size, 0, none⟩) 1 1) [⟨k, a, b⟩] := by
  refine ⟨rfl, _, _, rfl, Nat.le_refl _, fun _ => ⟨w.heap.size, 0, rfl, by simp, fun j u hj => ?_⟩⟩
  rw [Nat.zero_add, World.cell?_alloc_mark]
  match j, hj with
  | 0, hj => exact hj
  | 1, hj => exact hj
  | 2, hj => exact hj

set_option maxRecDepth 100000 in
set_option maxHeartbeats 1000000 in
theorem wakes_ok (w : World) (ht : Tab w) : Calls Tryd.prog 18 #[] w fun e w' => e = .returned (.bool true) ∧ Below w.heap.size w w' := by
  have hok : Ok 0 1 [] := Ok.nil _ _
  have hoks : OkS 1 1 [⟨1, [97], [98]⟩] := ⟨by simp, by simp, by simp⟩
  have he : encE (runE [] [⟨1, [97], [98]⟩]) = [97, 61, 98] := by decide +kernel
  have hr : runE [] [⟨1, [97], [98]⟩] = [([97], [[98]])] := by decide +kernel
  have hesc : escE [97] = [97] := by decide +kernel
  go_enter Tryd.func18, Tryd.ntmps18
  go_wp2_with fail
  have hb0 : Below w.heap.size w (w.alloc (.cells #[.int .i64 1, encStr [97], encStr [98]] 70)) := (Below.refl _ _).alloc (Nat.le_refl _) _
  have hst := stps_new w 1 [97] [98] 70
  refine (encode_ok (.slice none 0 0) (.slice (some ⟨w.heap.size, 0, none⟩) 1 1) [] [⟨1, [97], [98]⟩] _ (ents_nil _) hst (ht.up hb0) hok hoks (by decide) (by decide)).mono ?_
  rintro e w1 ⟨rfl, hb1⟩
  rw [he]
  have hst1 := hst.up hb1
  have hb01 : Below w.heap.size w w1 := hb0.trans (hb1.mono (by simp))
  clear hst
  go_wp2_with fail
  refine (runO (.slice none 0 0) (.slice (some ⟨w.heap.size, 0, none⟩) 1 1) [] [⟨1, [97], [98]⟩] _ (ents_nil _) hst1 hok hoks (by decide) (by decide)).mono ?_
  rintro e w2 ⟨v2, rfl, hv2, hb2⟩
  rw [hr] at hv2
  have hb02 : Below w.heap.size w w2 := hb01.trans (hb2.mono hb01.size)
  obtain ⟨us, hin, _, A, c, rfl, _, _⟩ := hv2
  have hul : us.length = 1 := hin.len
  rw [hul]
  clear hin hul
  go_wp2_with fail
  refine (implEscape_ok [97] w2 (ht.up hb02) (by decide)).mono ?_
  rintro e w3 ⟨rfl, hb3⟩
  rw [hesc]
  go_wp2_with fail
  go_ret
  exact ⟨rfl, hb02.trans (hb3.mono hb02.size)⟩

end Go.Proofs.YtjgjiaflccdflaaDoor
