/-
  The walk of laws.FnRunOwn. Conditions: the package's table; the sizes that the bulk's bound gives.
-/
import Derived.Test.YtjgjiaflccdflaaDoorScrA
import Derived.Test.YtjgjiaflccdflaaDoorPlainB
import Derived.Deep.DeepCutAuto
namespace Go.Proofs.YtjgjiaflccdflaaDoor
open Go.RowKit Go.Maps

theorem ents_one (w : World) (key : Bs) (A : Option Addr) (c : Nat) (vs : List Bs) (h : Strs w (.slice A vs.length c) vs) : Ents (w.alloc (.cells #[encStr key, .slice A vs.length c] 42)) (.slice (some ⟨w.heap.size, 0, none⟩) 1 1) [(key, vs)] := by
  refine ⟨[(key, .slice A vs.length c)], ⟨⟨rfl, h.up ((Below.refl _ _).alloc (Nat.le_refl _) _)⟩, trivial⟩, rfl, _, _, rfl, Nat.le_refl _, fun _ => ⟨w.heap.size, 0, rfl, by simp, fun j u hj => ?_⟩⟩
  rw [Nat.zero_add, World.cell?_alloc_mark]
  match j, hj with
  | 0, hj => exact hj
  | 1, hj => exact hj

theorem ownE_ok {A B : Nat} {m : List Ent} (h : Ok A B m) (key : Bs) : Ok A B (ownE m key) := by
  unfold ownE
  cases ho : ofE m key with
  | none => exact Ok.nil _ _
  | some vs =>
    have hm := ofE_mem ho
    have h1 : 1 ≤ m.length := by cases m with
      | nil => simp at hm
      | cons _ _ => simp
    refine ⟨by have := h.len; simp; omega, by have := h.vals _ hm; simpa [pairsE] using this, fun q hq => ?_, fun q hq => ?_⟩
    · simp at hq; subst hq; exact h.key _ hm
    · simp at hq; subst hq; exact h.val _ hm

set_option maxRecDepth 100000 in
set_option maxHeartbeats 1000000 in
theorem own_walk (v sv : Value) (es : List Ent) (ss : List Stp) (key : Bs) (w : World) (h : Ents w v es) (hst : Stps w sv ss) (ht : Tab w) {A B K : Nat} (hA : Ok A B es) (hK : OkS K B ss) (_hkl : key.length ≤ 1048576) (hs : A + K ≤ 1048576) (hB : B ≤ 1048576) :
    Calls Tryd.prog 8 #[v, sv, encStr key] w fun e w' => e = .returned (.bool true) ∧ Below w.heap.size w w' := by
  have hok := hA.run hK
  have hKa : OkS K B (aboutE ss key) := hK.sub (about_sub ss key).2 (about_sub ss key).1
  have hAo := ownE_ok hA.tidy key
  have hok2 := hAo.run hKa
  have hsl := hK.len
  have hsl2 := hKa.len
  have hel := hA.len
  have htl := hA.tidy.len
  have hol := hAo.len
  go_enter Tryd.func8, Tryd.ntmps8
  cases hkn : ss.all knownE with
  | false =>
    go_wp2_with (go_at_call 19; refine (steps_ok sv ss w hst (by omega)).mono ?_; rintro e w1 ⟨v1, rfl, hv1, hb1⟩; rw [hkn])
    go_ret
    exact ⟨rfl, hb1⟩
  | true =>
    go_wp2_with (go_at_call 19; refine (steps_ok sv ss w hst (by omega)).mono ?_; rintro e w1 ⟨v1, rfl, hv1, hb1⟩; rw [hkn])
    refine (entries_ok v es w1 (h.up hb1) (by omega)).mono ?_
    rintro e w2 ⟨v2, rfl, hv2, hb2⟩
    have hb02 : Below w.heap.size w w2 := hb1.trans (hb2.mono hb1.size)
    go_wp2_with fail
    refine (tidy_ok v2 es w2 hv2 (by omega) (fun q hq => by have := hA.vals q hq; omega)).mono ?_
    rintro e w3 ⟨v3, rfl, hv3, hb3⟩
    have hb03 : Below w.heap.size w w3 := hb02.trans (hb3.mono hb02.size)
    have hb13 : Below w1.heap.size w1 w3 := hb2.trans (hb3.mono hb2.size)
    have Hone : Hid (ownE (tidyE es) key = match ofE (tidyE es) key with | some vs => [(key, vs)] | none => []) := rfl
    have hvals : ∀ vs, ofE (tidyE es) key = some vs → vs.length ≤ 4294967296 := fun vs hvs => by have := hA.tidy.vals _ (ofE_mem hvs); simp only at this; omega
    go_wp2_with fail
    refine (of_ok v3 (tidyE es) key w3 hv3 (by omega)).mono ?_
    rintro e w3' ⟨A3, c3, rfl, hs3, rfl⟩
    generalize hof : ofE (tidyE es) key = o at *
    clear hof
    go_upto_if 31 with (fail)
    go_cut [9] (fun ov wx => Ents wx ov (ownE (tidyE es) key) ∧ Below w3.heap.size w3 wx)
    case first =>
      cases o with
      | none =>
        go_wp2_with fail
        go_meet
        rw [Hone.out]
        exact ⟨ents_nil _, Below.refl _ _⟩
      | some vs =>
        have hvl := hvals vs rfl
        go_wp2_with (go_at_call 33; refine (with_ok (.slice none 0 0) _ [] key vs w3 (ents_nil _) hs3 (by simp) hvl).mono ?_; rintro e w4 ⟨v4, rfl, hv4, hb4⟩)
        go_meet
        rw [Hone.out]
        exact ⟨hv4, hb4⟩
    case rest =>
      obtain ⟨hvo, hb3c⟩ := hcut
      have hb0c : Below w.heap.size w wc := hb03.trans (hb3c.mono hb03.size)
      have hb1c : Below w1.heap.size w1 wc := hb13.trans (hb3c.mono hb13.size)
      clear hs3 hvals
      go_wp2_with fail
      refine (runO v sv es ss wc (h.up hb0c) (hst.up hb0c) hA hK (by omega) (by omega)).mono ?_
      rintro e w5 ⟨v5, rfl, hv5, hb5⟩
      have hb05 : Below w.heap.size w w5 := hb0c.trans (hb5.mono hb0c.size)
      go_wp2_with fail
      refine (entries_ok v5 _ w5 hv5 (by have := hok.len; omega)).mono ?_
      rintro e w6 ⟨v6, rfl, hv6, hb6⟩
      have hb06 : Below w.heap.size w w6 := hb05.trans (hb6.mono hb05.size)
      have hbc6 : Below wc.heap.size wc w6 := hb5.trans (hb6.mono hb5.size)
      have hb16 : Below w1.heap.size w1 w6 := hb1c.trans (hbc6.mono hb1c.size)
      go_wp2_with fail
      refine (of_ok v6 _ key w6 hv6 (by have := hok.len; omega)).mono ?_
      rintro e w6' ⟨A6, c6, rfl, hs6, rfl⟩
      have hvals : ∀ vs, ofE (runE es ss) key = some vs → vs.length ≤ 4294967296 := fun vs hvs => by have := hok.vals _ (ofE_mem hvs); simp only at this; omega
      have Hro := Lib.hid (runE_own es ss key)
      generalize hof2 : ofE (runE es ss) key = o2 at *
      clear hof2
      go_wp2_with fail
      refine (given_ok _ _ w6 (hvo.up hbc6) (by omega)).mono ?_
      rintro e w7 ⟨v7, rfl, hv7, hb7⟩
      have hb07 : Below w.heap.size w w7 := hb06.trans (hb7.mono hb06.size)
      have hb17 : Below w1.heap.size w1 w7 := hb16.trans (hb7.mono hb16.size)
      go_wp2_with fail
      refine (about_ok v1 ss key w7 (hv1.up hb17) (by omega)).mono ?_
      rintro e w8 ⟨v8, rfl, hv8, hb8⟩
      have hb08 : Below w.heap.size w w8 := hb07.trans (hb8.mono hb07.size)
      go_wp2_with fail
      refine (calls_ok v8 _ w8 hv8 (by omega)).mono ?_
      rintro e w9 ⟨v9, rfl, hv9, hb9⟩
      have hb09 : Below w.heap.size w w9 := hb08.trans (hb9.mono hb08.size)
      have hb79 : Below w7.heap.size w7 w9 := hb8.trans (hb9.mono hb8.size)
      have hb69 : Below w6.heap.size w6 w9 := hb7.trans (hb79.mono hb7.size)
      go_wp2_with fail
      refine (runO v7 v9 _ _ w9 (hv7.up hb79) hv9 hAo hKa (by omega) (by omega)).mono ?_
      rintro e w10 ⟨v10, rfl, hv10, hb10⟩
      have hb010 : Below w.heap.size w w10 := hb09.trans (hb10.mono hb09.size)
      have hb610 : Below w6.heap.size w6 w10 := hb69.trans (hb10.mono hb69.size)
      go_wp2_with fail
      refine (entries_ok v10 _ w10 hv10 (by have := hok2.len; omega)).mono ?_
      rintro e w11 ⟨v11, rfl, hv11, hb11⟩
      have hb011 : Below w.heap.size w w11 := hb010.trans (hb11.mono hb010.size)
      have hb611 : Below w6.heap.size w6 w11 := hb610.trans (hb11.mono hb610.size)
      go_wp2_with fail
      refine (of_ok v11 _ key w11 hv11 (by have := hok2.len; omega)).mono ?_
      rintro e w11' ⟨A11, c11, rfl, hs11, rfl⟩
      rw [← Hro.out] at hs11 ⊢
      have hs6' := hs6.up hb611
      have hvl : (o2.getD []).length ≤ 4294967296 := by
        cases o2 with
        | none => simp
        | some vs => exact hvals vs rfl
      generalize hos : o2.isSome = bb
      generalize hov : o2.getD [] = vv at *
      clear hos hov hvals Hro hs6
      have hpq : (bb == bb) = true := by cases bb <;> rfl
      have hba : Below w11.heap.size w11 (w11.alloc (.cells #[encStr key, .slice A6 vv.length c6] 42)) := (Below.refl _ _).alloc (Nat.le_refl _) _
      have he1 := ents_one w11 key A6 c6 vv hs6'
      have he2 := ents_one (w11.alloc (.cells #[encStr key, .slice A6 vv.length c6] 42)) key A11 c11 vv (hs11.up hba)
      have hbb := (Below.refl _ (w11.alloc (.cells #[encStr key, .slice A6 vv.length c6] 42))).alloc (Nat.le_refl _) (.cells #[encStr key, .slice A11 vv.length c11] 42)
      have hsm := specSame_ok _ _ _ _ _ (he1.up hbb) he2 (by simp) (by simp) (fun q hq => by simp at hq; subst hq; exact hvl) (fun q hq => by simp at hq; subst hq; exact hvl)
      have hsz11 : (w11.alloc (.cells #[encStr key, .slice A6 vv.length c6] 42)).heap.size = w11.heap.size + 1 := by simp
      rw [decide_eq_true rfl, hsz11] at hsm
      have Hsm := Lib.hid hsm
      clear hsm he1 he2 hs6' hs11
      go_wp2_with fail
      refine Hsm.out.mono ?_
      rintro e w12 ⟨rfl, n, rfl⟩
      go_wp2_with fail
      have hb012 := hb011.trans ((hba.trans (hbb.mono (by simp))).mono hb011.size)
      have hb013 : Below w.heap.size w (World.drewN ((w11.alloc (.cells #[encStr key, .slice A6 vv.length c6] 42)).alloc (.cells #[encStr key, .slice A11 vv.length c11] 42)) n) := hb012.trans ⟨rfl, rfl, rfl, Nat.le_refl _, fun _ _ => rfl⟩
      refine (wakes_ok _ (ht.up hb013)).mono ?_
      rintro e w14 ⟨rfl, hb14⟩
      go_wp2_with fail
      go_ret
      exact ⟨rfl, hb013.trans (hb14.mono hb013.size)⟩

end Go.Proofs.YtjgjiaflccdflaaDoor
