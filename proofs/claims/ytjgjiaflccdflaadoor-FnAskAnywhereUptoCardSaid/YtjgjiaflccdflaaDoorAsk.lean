/-
  The walk of laws.FnAskAnywhere. Conditions: the package's table; the sizes that the bulk's bound gives.
-/
import Derived.Test.YtjgjiaflccdflaaDoorAsk0
namespace Go.Proofs.YtjgjiaflccdflaaDoor
open Go.RowKit Go.Maps

set_option maxRecDepth 100000 in
set_option maxHeartbeats 1000000 in
theorem ask_walk (v sv kv : Value) (es : List Ent) (ss : List Stp) (ks : List Bs) (w : World) (h : Ents w v es) (hst : Stps w sv ss) (hks : Strs w kv ks) (ht : Tab w) {A B K : Nat} (hA : Ok A B es) (hK : OkS K B ss) (hkl : ks.length ≤ 1048576) (hke : ∀ k ∈ ks, k.length ≤ 1048576) (hs : A + K ≤ 1048576) (hB : B ≤ 1048576) :
    Calls Tryd.prog 11 #[v, sv, kv] w fun e w' => e = .returned (.bool true) ∧ Below w.heap.size w w' := by
  have hok := hA.run hK
  have hsl := hK.len
  have hel := hA.len
  have hml := hok.len
  have Hks := Lib.hid hks
  have Hvn : Hid (∀ q ∈ runE es ss, q.2.length ≤ 1048576) := fun q hq => by have := hok.vals q hq; omega
  obtain ⟨_, A0, c0, rfl, hnc, _⟩ := hks
  go_enter Tryd.func11, Tryd.ntmps11
  cases hkn : ss.all knownE with
  | false =>
    go_wp2_with (go_at_call 19; refine (steps_ok sv ss w hst (by omega)).mono ?_; rintro e w1 ⟨v1, rfl, hv1, hb1⟩; rw [hkn])
    go_ret
    exact ⟨rfl, hb1⟩
  | true =>
    go_wp2_with (go_at_call 19; refine (steps_ok sv ss w hst (by omega)).mono ?_; rintro e w1 ⟨v1, rfl, hv1, hb1⟩; rw [hkn])
    refine (runO v sv es ss w1 (h.up hb1) (hst.up hb1) hA hK (by omega) (by omega)).mono ?_
    rintro e w2 ⟨v2, rfl, hv2, hb2⟩
    have hb02 : Below w.heap.size w w2 := hb1.trans (hb2.mono hb1.size)
    go_wp2_with fail
    refine (entries_ok v2 _ w2 hv2 (by omega)).mono ?_
    rintro e w3 ⟨v3, rfl, hv3, hb3⟩
    have hb03 : Below w.heap.size w w3 := hb02.trans (hb3.mono hb02.size)
    go_wp2_with fail
    refine (ask_ok v sv _ es ss ks w3 (h.up hb03) (hst.up hb03) (Hks.out.up hb03) hA hK (by omega) (by omega) (by omega) (fun k hk => by have := hke k hk; simp only [maxLen]; omega)).mono ?_
    rintro e w4 ⟨v4, rfl, hv4, hb4⟩
    have hb04 : Below w.heap.size w w4 := hb03.trans (hb4.mono hb03.size)
    have Hv3 := Lib.hid (hv3.up hb4)
    generalize runE es ss = m at *
    have Hv4 := Lib.hid hv4
    obtain ⟨hl4, A4, c4, rfl, _, _⟩ := hv4
    have hlm : (ks.map (ansE m)).length = ks.length := List.length_map _
    rw [hlm]
    clear hl4 hlm hv3 hkn hke hok hv2
    go_wp2_with fail
    go_loopw [11] (fun i wr => ∃ k : Nat, k ≤ ks.length ∧ i = .int .i64 k ∧ Below w4.heap.size w4 wr) (fun i _ => ks.length - (intOf i).toNat)
    case atStart => exact ⟨0, Nat.zero_le _, rfl, Below.refl _ _⟩
    case round =>
      obtain ⟨k, hk, rfl, hnx⟩ := hrel
      have hb0r : Below w.heap.size w wr := hb04.trans (hnx.mono hb04.size)
      by_cases hlt : k < ks.length
      · obtain ⟨_, A5, c5, he5, _, hx⟩ := Hks.out.up hb0r
        obtain ⟨rfl, rfl⟩ : A0 = A5 ∧ c0 = c5 := by simpa using he5
        obtain ⟨bb, off, rfl, hbl, hcell⟩ := hx (by omega)
        obtain ⟨s, hp⟩ : ∃ s, ks[k]? = some s := ⟨_, List.getElem?_eq_getElem hlt⟩
        have hc0 : wr.cell? ⟨bb, off + k, none⟩ = some (encStr s) := str_at hcell hp
        have hrow4 := Row.up Hv4.out hnx
        obtain ⟨_, A6, c6, he6, _, hx6⟩ := hrow4
        rw [List.length_map] at he6 hx6
        obtain ⟨rfl, rfl⟩ : A4 = A6 ∧ c4 = c6 := by simpa using he6
        obtain ⟨b4, off4, rfl, hbl4, hcell4⟩ := hx6 (by omega)
        obtain ⟨hd0, hd1⟩ := ans_at hcell4 (k := k) (p := ansE m s) (by rw [List.getElem?_map, hp]; rfl)
        have Hof := Lib.hid (of_ok v3 m s wr (Hv3.out.up hnx) (by omega))
        have e1 : (ansE m s).1 = ((ofE m s).getD []).headD [] := rfl
        have e2 : (ansE m s).2 = (ofE m s).isSome := rfl
        rw [e1] at hd0
        rw [e2] at hd1
        have hvl : ((ofE m s).getD []).length ≤ 1048576 := by
          cases ho : ofE m s with
          | none => simp
          | some vs => exact Hvn.out _ (ofE_mem ho)
        generalize (ofE m s).isSome = is at *
        generalize (ofE m s).getD [] = vs at *
        clear e1 e2 hcell hx he5 hp hcell4 hx6 he6
        have hm3 := hnx.size
        cases vs with
        | nil =>
          go_wp2_with (go_at_call 32; refine Hof.out.mono ?_; rintro e w5 ⟨A7, c7, rfl, hs7, rfl⟩)
          have hba : Below wr.heap.size wr (wr.alloc (.cells #[.string ⟨#[]⟩, .bool is] 64)) := (Below.refl _ _).alloc (Nat.le_refl _) _
          have hd02 := (hba.cell (p := ⟨b4, off4 + k * 2, none⟩) hbl4).trans hd0
          have hd12 := (hba.cell (p := ⟨b4, off4 + k * 2 + 1, none⟩) hbl4).trans hd1
          have hn0 : (wr.alloc (.cells #[.string ⟨#[]⟩, .bool is] 64)).cell? ⟨wr.heap.size, 0, none⟩ = some (encStr []) := by rw [World.cell?_alloc_mark]; rfl
          have hn1 : (wr.alloc (.cells #[.string ⟨#[]⟩, .bool is] 64)).cell? ⟨wr.heap.size, 1, none⟩ = some (.bool is) := by rw [World.cell?_alloc_mark]; rfl
          have hk0 : (0 : Int) ≤ (k : Int) := Int.natCast_nonneg _
          have hk3 : (k : Int) < (ks.length : Int) := by omega
          have hbw := hnx.trans (hba.mono hm3)
          generalize wr.alloc (.cells #[.string ⟨#[]⟩, .bool is] 64) = W at *
          generalize wr.heap.size = N at *
          go_quiet (fail)
          go_wp2_with fail
          go_roundw
          case rel => exact ⟨k + 1, by omega, by go_num, hbw.trans ⟨rfl, rfl, rfl, Nat.le_refl _, fun _ _ => rfl⟩⟩
          case measure => simp [intOf]; omega
        | cons x r =>
          go_wp2_with (go_at_call 32; refine Hof.out.mono ?_; rintro e w5 ⟨A7, c7, rfl, hs7, rfl⟩; obtain ⟨_, A8, c8, he8, _, hx8⟩ := hs7; obtain ⟨rfl, rfl⟩ : A7 = A8 ∧ c7 = c8 := (by simpa using he8); obtain ⟨b7, off7, rfl, hbl7, hcell7⟩ := hx8 (by simp); have hg7 : wr.cell? ⟨b7, off7, none⟩ = some (encStr x) := hcell7 0 _ rfl; have hg8 := fun o => (World.cell?_alloc_lt wr o ⟨b7, off7, none⟩ hbl7).trans hg7; clear he8 hx8 hcell7)
          have hba : Below wr.heap.size wr (wr.alloc (.cells #[.string ⟨x.toArray⟩, .bool is] 64)) := (Below.refl _ _).alloc (Nat.le_refl _) _
          have hd02 := (hba.cell (p := ⟨b4, off4 + k * 2, none⟩) hbl4).trans hd0
          have hd12 := (hba.cell (p := ⟨b4, off4 + k * 2 + 1, none⟩) hbl4).trans hd1
          have hn0 : (wr.alloc (.cells #[.string ⟨x.toArray⟩, .bool is] 64)).cell? ⟨wr.heap.size, 0, none⟩ = some (encStr x) := by rw [World.cell?_alloc_mark]; rfl
          have hn1 : (wr.alloc (.cells #[.string ⟨x.toArray⟩, .bool is] 64)).cell? ⟨wr.heap.size, 1, none⟩ = some (.bool is) := by rw [World.cell?_alloc_mark]; rfl
          have hk0 : (0 : Int) ≤ (k : Int) := Int.natCast_nonneg _
          have hk3 : (k : Int) < (ks.length : Int) := by omega
          have hbw := hnx.trans (hba.mono hm3)
          rw [List.headD_cons] at hd02
          clear hg8
          generalize wr.alloc (.cells #[.string ⟨x.toArray⟩, .bool is] 64) = W at *
          generalize wr.heap.size = N at *
          go_quiet (fail)
          go_wp2_with fail
          go_roundw
          case rel => exact ⟨k + 1, by omega, by go_num, hbw.trans ⟨rfl, rfl, rfl, Nat.le_refl _, fun _ _ => rfl⟩⟩
          case measure => simp [intOf]; omega
      · go_wp2_with fail
        refine (wakes_ok _ (ht.up hb0r)).mono ?_
        rintro e w9 ⟨rfl, hb9⟩
        go_wp2_with fail
        go_ret
        exact ⟨rfl, hb0r.trans (hb9.mono hb0r.size)⟩

end Go.Proofs.YtjgjiaflccdflaaDoor
