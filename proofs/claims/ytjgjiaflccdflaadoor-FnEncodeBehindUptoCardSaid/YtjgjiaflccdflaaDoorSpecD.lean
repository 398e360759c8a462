/-
  The walks of spec.same, spec.Same, laws.alike. Conditions: at most 2^32 elements.
-/
import Derived.Test.YtjgjiaflccdflaaDoorSpecC
namespace Go.Proofs.YtjgjiaflccdflaaDoor
open Go.RowKit

set_option maxRecDepth 100000 in
set_option maxHeartbeats 1000000 in
theorem same_ok (v u : Value) (a b : List Bs) (w : World) (h : Strs w v a) (k : Strs w u b) (hn : a.length ≤ 4294967296) (hm : b.length ≤ 4294967296) :
    Calls Tryd.prog 47 #[v, u] w fun e w' => e = .returned (.bool (decide (a = b))) ∧ ∃ n, w' = w.drewN n := by
  obtain ⟨_, A, c, rfl, hc, hx⟩ := h
  obtain ⟨_, A2, c2, rfl, hc2, hx2⟩ := k
  by_cases hl : a.length = b.length
  · have hne : ((a.length : Int) != (b.length : Int)) = false := by simp [hl]
    have Hl := Lib.hid hl
    clear hl
    go_enter Tryd.func47, Tryd.ntmps47
    go_wp2
    go_loopw [5] (fun i wr => ∃ k : Nat, k ≤ a.length ∧ i = .int .i64 k ∧ a.take k = b.take k ∧ ∃ n, wr = w.drewN n) (fun i _ => a.length - (intOf i).toNat)
    case atStart => exact ⟨0, Nat.zero_le _, rfl, rfl, 0, rfl⟩
    case round =>
      obtain ⟨k, hk, rfl, ht, n, rfl⟩ := hrel
      have Ht := Lib.hid ht
      clear ht
      by_cases hlt : k < a.length
      · have hlt2 : k < b.length := by have := Hl.out; omega
        obtain ⟨b1, off1, rfl, _, hcell1⟩ := hx (by omega)
        obtain ⟨b2, off2, rfl, _, hcell2⟩ := hx2 (by omega)
        obtain ⟨s, hs⟩ : ∃ s, a[k]? = some s := ⟨_, List.getElem?_eq_getElem hlt⟩
        obtain ⟨t, ht⟩ : ∃ t, b[k]? = some t := ⟨_, List.getElem?_eq_getElem hlt2⟩
        have c1 : w.cell? ⟨b1, off1 + k, none⟩ = some (encStr s) := str_at hcell1 hs
        have c2 : w.cell? ⟨b2, off2 + k, none⟩ = some (encStr t) := str_at hcell2 ht
        have hk0 : (0 : Int) ≤ (k : Int) := Int.natCast_nonneg _
        have hk1 : (k : Int) < (a.length : Int) := by omega
        have hk2 : (k : Int) < (b.length : Int) := by omega
        have Hs := Lib.hid hs
        have Htt := Lib.hid ht
        clear hcell1 hcell2 hx hx2 hs ht
        by_cases hst : s = t
        · have e1 : (s == t) = true := beq_iff_eq.2 hst
          have e2 : (s != t) = false := by simp [hst]
          have Hst := Lib.hid hst
          clear hst
          go_wp2
          go_quiet (fail)
          go_wp2
          go_roundw
          case rel =>
            refine ⟨k + 1, by omega, by go_num, ?_, _, rfl⟩
            have h1 := Hs.out
            have h2 := Htt.out
            rw [List.getElem?_eq_getElem hlt, Option.some.injEq] at h1
            rw [List.getElem?_eq_getElem hlt2, Option.some.injEq] at h2
            rw [List.take_succ_eq_append_getElem hlt, List.take_succ_eq_append_getElem hlt2, Ht.out, h1, h2, Hst.out]
          case measure => simp [intOf]; omega
        · have e1 : (s == t) = false := beq_eq_false_iff_ne.2 hst
          have e2 : (s != t) = true := by simp [hst]
          have Hst := Lib.hid hst
          clear hst
          go_wp2
          go_quiet (fail)
          go_wp2
          go_ret
          refine ⟨?_, _, World.drewN_drewN _ _ _⟩
          have : ¬ a = b := fun e => Hst.out (by
            have h1 := Hs.out
            have h2 := Htt.out
            rw [e, h2, Option.some.injEq] at h1
            exact h1.symm)
          simp [this]
      · go_wp2
        go_ret
        refine ⟨?_, n, rfl⟩
        have : a = b := by
          have h1 := Ht.out
          rw [List.take_of_length_le (by omega), List.take_of_length_le (by have := Hl.out; omega)] at h1
          exact h1
        simp [this]
  · have hne : ((a.length : Int) != (b.length : Int)) = true := by simp; omega
    have hab : ¬ a = b := fun e => hl (by rw [e])
    have Hab := Lib.hid hab
    clear hl hab
    go_enter Tryd.func47, Tryd.ntmps47
    go_wp2
    go_ret
    exact ⟨by simp [Hab.out], 0, rfl⟩

theorem quiet_add2 {P : Program} {f : FuncId} {args : Array Value} {w : World} {a n : Nat} {v : Value}
    (h : Calls P f args (w.drewN (a + n)) fun e w' => e = .returned v ∧ ∃ m, w' = (w.drewN (a + n)).drewN m) :
    Calls P f args (w.drewN (a + n)) fun e w'' => e = .returned v ∧ ∃ m, w'' = w.drewN (a + m) :=
  h.mono fun _ _ ⟨he, m, hm⟩ => ⟨he, n + m, by rw [hm, World.drewN_drewN, Nat.add_assoc]⟩

theorem strs_drewN {w : World} {v : Value} {ss : List Bs} (h : Strs w v ss) (n : Nat) : Strs (w.drewN n) v ss := h
theorem ents_drewN {w : World} {v : Value} {es : List Ent} (h : Ents w v es) (n : Nat) : Ents (w.drewN n) v es := h.up ⟨rfl, rfl, rfl, Nat.le_refl _, fun _ _ => rfl⟩

set_option maxRecDepth 100000 in
set_option maxHeartbeats 1000000 in
theorem specSame_ok (v u : Value) (a b : List Ent) (w : World) (h : Ents w v a) (k : Ents w u b) (hn : a.length ≤ 4294967296) (hm : b.length ≤ 4294967296) (hva : ∀ q ∈ a, q.2.length ≤ 4294967296) (hvb : ∀ q ∈ b, q.2.length ≤ 4294967296) :
    Calls Tryd.prog 28 #[v, u] w fun e w' => e = .returned (.bool (decide (a = b))) ∧ ∃ n, w' = w.drewN n := by
  obtain ⟨us, hin, _, A, c, rfl, hc, hx⟩ := h
  obtain ⟨us2, hin2, _, A2, c2, rfl, hc2, hx2⟩ := k
  have Hla := Lib.hid hin.len
  have Hlb := Lib.hid hin2.len
  have hua : us.length ≤ 4294967296 := by rw [Hla.out]; exact hn
  have hub : us2.length ≤ 4294967296 := by rw [Hlb.out]; exact hm
  by_cases hl : us.length = us2.length
  · have hne : ((us.length : Int) != (us2.length : Int)) = false := by simp [hl]
    have Hl := Lib.hid hl
    clear hl
    go_enter Tryd.func28, Tryd.ntmps28
    go_wp2
    go_loopw [5] (fun i wr => ∃ k : Nat, k ≤ us.length ∧ i = .int .i64 k ∧ a.take k = b.take k ∧ ∃ n, wr = w.drewN n) (fun i _ => us.length - (intOf i).toNat)
    case atStart => exact ⟨0, Nat.zero_le _, rfl, rfl, 0, rfl⟩
    case round =>
      obtain ⟨k, hk, rfl, ht, n, rfl⟩ := hrel
      have Ht := Lib.hid ht
      clear ht
      by_cases hlt : k < us.length
      · have hlt2 : k < us2.length := by have := Hl.out; omega
        obtain ⟨b1, off1, rfl, _, hcell1⟩ := hx (by omega)
        obtain ⟨b2, off2, rfl, _, hcell2⟩ := hx2 (by omega)
        obtain ⟨s, hs⟩ : ∃ s, us[k]? = some s := ⟨_, List.getElem?_eq_getElem hlt⟩
        obtain ⟨t, ht⟩ : ∃ t, us2[k]? = some t := ⟨_, List.getElem?_eq_getElem hlt2⟩
        obtain ⟨vs, hvs, hst1⟩ := hin.get hs
        obtain ⟨vt, hvt, hst2⟩ := hin2.get ht
        have hvsn : vs.length ≤ 4294967296 := hva _ (List.mem_of_getElem? hvs)
        have hvtn : vt.length ≤ 4294967296 := hvb _ (List.mem_of_getElem? hvt)
        have Hcall := Lib.hid (fun m => same_ok s.2 t.2 vs vt (w.drewN m) (strs_drewN hst1 m) (strs_drewN hst2 m) hvsn hvtn)
        obtain ⟨c0, c1⟩ := ent_at hcell1 hs
        obtain ⟨d0, d1⟩ := ent_at hcell2 ht
        have hk0 : (0 : Int) ≤ (k : Int) := Int.natCast_nonneg _
        have hk1 : (k : Int) < (us.length : Int) := by omega
        have hk2 : (k : Int) < (us2.length : Int) := by omega
        have Hab : Hid (a[k]? = some (s.1, vs)) := hvs
        have Hbb : Hid (b[k]? = some (t.1, vt)) := hvt
        obtain ⟨sk, sv⟩ := s
        obtain ⟨tk, tv⟩ := t
        obtain ⟨_, a3, c3, e3, _, _⟩ := hst1
        obtain ⟨_, a4, c4, e4, _, _⟩ := hst2
        simp only at e3 e4
        subst e3 e4
        clear hcell1 hcell2 hx hx2 hs ht hin hin2 hvs hvt hva hvb
        have step : ∀ (h : a.take k = b.take k), (decide (sk = tk ∧ vs = vt) = true → a.take (k + 1) = b.take (k + 1)) := fun h e => by
          simp only [decide_eq_true_eq] at e
          have hka : k < a.length := by rw [← Hla.out]; exact hlt
          have hkb : k < b.length := by rw [← Hlb.out]; exact hlt2
          have h1 := Hab.out
          have h2 := Hbb.out
          rw [List.getElem?_eq_getElem hka, Option.some.injEq] at h1
          rw [List.getElem?_eq_getElem hkb, Option.some.injEq] at h2
          rw [List.take_succ_eq_append_getElem hka, List.take_succ_eq_append_getElem hkb, h, h1, h2, e.1, e.2]
        have ndiff : ¬ (sk = tk ∧ vs = vt) → ¬ a = b := fun hne e => by
          have h1 := Hab.out
          have h2 := Hbb.out
          rw [e, h2, Option.some.injEq, Prod.mk.injEq] at h1
          exact hne ⟨h1.1.symm, h1.2.symm⟩
        have Hstep := Lib.hid step
        have Hnd := Lib.hid ndiff
        clear step ndiff
        by_cases hst : sk = tk
        · have e1 : (sk == tk) = true := beq_iff_eq.2 hst
          have e2 : (sk != tk) = false := by simp [hst]
          have Hst := Lib.hid hst
          clear hst
          by_cases hvv : vs = vt
          · have Hvv := Lib.hid hvv
            have Hcall2 : Hid (∀ m, Calls Tryd.prog 47 #[.slice a3 vs.length c3, .slice a4 vt.length c4] (w.drewN m) fun e w' => e = .returned (.bool true) ∧ ∃ n, w' = (w.drewN m).drewN n) := fun m => by
              have := Hcall.out m
              simpa [hvv] using this
            clear hvv Hcall
            go_wp2
            go_quiet ((go_at_call 47; exact quiet_add2 (Hcall2.out _)))
            go_wp2
            go_roundw
            case rel => exact ⟨k + 1, by omega, by go_num, Hstep.out Ht.out (by simp [Hst.out, Hvv.out]), _, rfl⟩
            case measure => simp [intOf]; omega
          · have Hvv := Lib.hid hvv
            have Hcall2 : Hid (∀ m, Calls Tryd.prog 47 #[.slice a3 vs.length c3, .slice a4 vt.length c4] (w.drewN m) fun e w' => e = .returned (.bool false) ∧ ∃ n, w' = (w.drewN m).drewN n) := fun m => by
              have := Hcall.out m
              simpa [hvv] using this
            clear hvv Hcall
            go_wp2
            go_quiet ((go_at_call 47; exact quiet_add2 (Hcall2.out _)))
            go_wp2
            go_ret
            refine ⟨?_, _, World.drewN_drewN _ _ _⟩
            have : ¬ a = b := Hnd.out (fun e => Hvv.out e.2)
            simp [this]
        · have e1 : (sk == tk) = false := beq_eq_false_iff_ne.2 hst
          have e2 : (sk != tk) = true := by simp [hst]
          have Hst := Lib.hid hst
          clear hst
          go_wp2
          go_quiet (fail)
          go_wp2
          go_ret
          refine ⟨?_, _, World.drewN_drewN _ _ _⟩
          have : ¬ a = b := Hnd.out (fun e => Hst.out e.1)
          simp [this]
      · go_wp2
        go_ret
        refine ⟨?_, n, rfl⟩
        have : a = b := by
          have h1 := Ht.out
          rw [List.take_of_length_le (by rw [← Hla.out]; omega), List.take_of_length_le (by have := Hl.out; rw [← Hlb.out]; omega)] at h1
          exact h1
        simp [this]
  · have hne : ((us.length : Int) != (us2.length : Int)) = true := by simp; omega
    have Hab : Hid (¬ a = b) := fun e => hl (by rw [Hla.out, Hlb.out, e])
    clear hl
    go_enter Tryd.func28, Tryd.ntmps28
    go_wp2
    go_ret
    exact ⟨by simp [Hab.out], 0, rfl⟩

set_option maxRecDepth 100000 in
set_option maxHeartbeats 1000000 in
theorem alike_ok (v u : Value) (a b : List Ent) (w : World) (h : Ents w v a) (k : Ents w u b) (hn : a.length ≤ 4294967296) (hm : b.length ≤ 4294967296) (hva : ∀ q ∈ a, q.2.length ≤ 4294967296) (hvb : ∀ q ∈ b, q.2.length ≤ 4294967296) :
    Calls Tryd.prog 22 #[v, u] w fun e w' => e = .returned (.bool (decide (a = b))) ∧ Below w.heap.size w w' := by
  go_enter Tryd.func22, Tryd.ntmps22
  go_wp2_with fail
  refine (entries_ok v a w h hn).mono ?_
  rintro e w1 ⟨v1, rfl, hv1, hb1⟩
  go_wp2_with fail
  refine (entries_ok u b w1 (k.up hb1) hm).mono ?_
  rintro e w2 ⟨v2, rfl, hv2, hb2⟩
  go_wp2_with fail
  refine (specSame_ok v1 v2 a b w2 (hv1.up hb2) hv2 hn hm hva hvb).mono ?_
  rintro e w3 ⟨rfl, n, rfl⟩
  go_wp2
  go_ret
  exact ⟨rfl, (hb1.trans (hb2.mono hb1.size)).trans ⟨rfl, rfl, rfl, Nat.le_refl _, fun _ _ => rfl⟩⟩

end Go.Proofs.YtjgjiaflccdflaaDoor
