/-
  The walk of impl.Ask. Conditions: entries and steps together at most 2^22, texts of at most 2^21 bytes, keys of at most 2^32.
-/
import Derived.Test.YtjgjiaflccdflaaDoorWakes
namespace Go.Proofs.YtjgjiaflccdflaaDoor
open Go.RowKit Go.Maps

theorem Tryd.info64 : (Tryd.prog.info? 64).map (fun i => (i.zero, i.size, i.bytes)) = some (some (.agg #[.string ⟨#[]⟩, .bool false]), 2, 24) := by kernel_rfl

/-- what Get and Has tell -/
def ansE (m : List Ent) (k : Bs) : Bs × Bool := (((ofE m k).getD []).headD [], (ofE m k).isSome)

set_option maxRecDepth 100000 in
set_option maxHeartbeats 1000000 in
theorem ask_ok (v sv kv : Value) (es : List Ent) (ss : List Stp) (ks : List Bs) (w : World) (h : Ents w v es) (hst : Stps w sv ss) (hks : Strs w kv ks) {A B K : Nat} (hA : Ok A B es) (hK : OkS K B ss) (hs : A + K ≤ 4194304) (hB : B ≤ 2097152) (hkn : ks.length ≤ 4294967296) (hkl : ∀ k ∈ ks, k.length ≤ maxLen) :
    Calls Tryd.prog 37 #[v, sv, kv] w fun e w' => ∃ v', e = .returned v' ∧ Anss w' v' (ks.map (ansE (runE es ss))) ∧ Below w.heap.size w w' := by
  obtain ⟨i0, hi, hz0, hz1, hz2⟩ := info_parts Tryd.info64
  have hok := hA.run hK
  have hvn : ∀ q ∈ runE es ss, q.2.length ≤ 4294967296 := fun q hq => by have := hok.vals q hq; omega
  have Hvn := Lib.hid hvn
  have Hkl := Lib.hid hkl
  have Hks := Lib.hid hks
  clear hvn hkl
  obtain ⟨_, A0, c0, rfl, hnc, _⟩ := hks
  go_enter Tryd.func37, Tryd.ntmps37
  go_wp2_with fail
  refine (valuesOf_ok v es w h (by have := hA.len; omega) (fun q hq => by have := hA.key q hq; simp only [maxLen]; omega) (fun q hq => by have := hA.vals q hq; omega)).mono ?_
  rintro e w1 ⟨rfl, hv1, hb1⟩
  go_wp2_with fail
  refine (play_ok w w1 sv ss w.heap.size (tidyE es) hst hb1 hv1 (by have := tidyE_length es; have := hA.len; have := hK.len; omega) A hA.tidy.vals (by have := hK.len; omega) (fun s hs => by have := hK.key s hs; simp only [maxLen]; omega)).mono ?_
  rintro e w2 ⟨rfl, hv2, hb2⟩
  have hb02 := hb1.trans hb2
  replace hv2 : Vals w2 w.heap.size w.heap.size (runE es ss) := hv2
  have Hv2 := Lib.hid hv2
  generalize hmeq : runE es ss = m at *
  have Hmeq := Lib.hid hmeq
  clear hv2 hv1 hok hmeq
  go_wp2_with fail
  go_loopw [8, 18] (fun o i wr => ∃ k : Nat, k ≤ ks.length ∧ i = .int .i64 k ∧ wr.ownsRow w2.heap.size 64 2 o k (((ks.take k).map (ansE m)).flatMap ansCells) ∧ Below w2.heap.size w2 wr) (fun _ i _ => ks.length - (intOf i).toNat)
  case atStart => exact ⟨0, Nat.zero_le _, rfl, World.ownsRow_nil _ _ _ _, Below.refl _ _⟩
  case round =>
    obtain ⟨k, hk, rfl, hown, hnx⟩ := hrel
    by_cases hlt : k < ks.length
    · have hb0r : Below w.heap.size w wr := hb02.trans (hnx.mono hb02.size)
      obtain ⟨_, A5, c5, he5, _, hx⟩ := Hks.out.up hb0r
      obtain ⟨rfl, rfl⟩ : A0 = A5 ∧ c0 = c5 := by simpa using he5
      obtain ⟨bb, off, rfl, hbl, hcell⟩ := hx (by omega)
      obtain ⟨s, hp⟩ : ∃ s, ks[k]? = some s := ⟨_, List.getElem?_eq_getElem hlt⟩
      have hc0 : wr.cell? ⟨bb, off + k, none⟩ = some (encStr s) := str_at hcell hp
      have hsl := Hkl.out s (List.mem_of_getElem? hp)
      have Htk : Hid ((ks.take (k + 1)).map (ansE m) = (ks.take k).map (ansE m) ++ [ansE m s]) := by
        show (ks.take (k + 1)).map (ansE m) = _
        rw [List.getElem?_eq_getElem hlt, Option.some.injEq] at hp
        rw [List.take_succ_eq_append_getElem hlt, hp, List.map_append]
        rfl
      have Hget := Lib.hid (get_ok w.heap.size w.heap.size m s wr (Hv2.out.up hnx) hsl Hvn.out)
      have Hhas := Lib.hid (has_ok w.heap.size w.heap.size m s wr (Hv2.out.up hnx) hsl)
      have Hans : Hid (ansCells (ansE m s) = [encStr (((ofE m s).getD []).headD []), .bool (ofE m s).isSome]) := rfl
      generalize ((ofE m s).getD []).headD [] = gx at *
      generalize (ofE m s).isSome = hx0 at *
      clear hcell hx he5 hp
      have hm1 : k + 1 ≤ maxLen := by simp only [maxLen]; omega
      have hm2 : (k + 1) * 24 ≤ 140737488355328 := by omega
      have hm3 := hnx.size
      go_wp2_with (first
        | (go_at_call 50; refine Hget.out.mono ?_; rintro e w3 ⟨rfl, rfl⟩)
        | (go_at_call 51; refine Hhas.out.mono ?_; rintro e w3 ⟨rfl, rfl⟩)
        | (at_builtin; refine wpList_append_own_at _ rfl _ _ 61 rfl w2.heap.size 64 i0 _ 2 24 Tryd.underlying61 hi hz0 hz1 hz2 rfl (by decide) _ _ _ rfl (hown.alloc _) ⟨wr.heap.size, 0, none⟩ 1 1 [encStr gx, .bool hx0] rfl rfl (World.news_of_block (cs := #[encStr gx, .bool hx0]) (t := 64) (fr := (0, 0)) (heap_alloc_new wr _)) (by simp [Value.oneCell']) hm1 hm2 (by simp; omega) ?_; intro v' w4 hown' hgrow hnil hloc))
      go_roundw
      case rel =>
        refine ⟨k + 1, by omega, by go_num, ?_, (hnx.alloc hm3 _).grown hgrow (by simp; omega) (fun j hj => (hown.lt j hj).1)⟩
        rw [Htk.out, List.flatMap_append]
        simp only [List.flatMap_cons, List.flatMap_nil, List.append_nil, Hans.out]
        exact hown'
      case measure => simp [intOf]; omega
    · obtain rfl : k = ks.length := by omega
      go_wp2
      go_ret
      rw [List.take_length] at hown
      refine ⟨_, rfl, ?_, hb02.trans (hnx.mono hb02.size)⟩
      have := Row.of_own hown
      unfold Anss
      rw [List.length_map, Hmeq.out]
      exact this

end Go.Proofs.YtjgjiaflccdflaaDoor
