/-
  The walks of slices.Clone and of the methods of url.Values that look up, add, set and delete, over the words of MapW. Conditions: keys and lists of at most 2^32 each.
-/
import Derived.Test.YtjgjiaflccdflaaDoorMapW
import Derived.Test.YtjgjiaflccdflaaDoorShelf
namespace Go.Proofs.YtjgjiaflccdflaaDoor
open Go.RowKit Go.Maps

theorem keyed9 : Keyed Tryd.prog 9 := string_keyed Tryd.underlying9
theorem zero23 (w : World) : (zeroValue 23).run Tryd.prog w = .ok (.slice none 0 0) w := by kernel_rfl
theorem Tryd.info9 : (Tryd.prog.info? 9).map (fun i => (i.zero, i.size, i.bytes)) = some (some (.string ⟨#[]⟩), 1, 16) := by kernel_rfl

theorem key9 {k : Bs} (hk : k.length ≤ maxLen) : keyOf Tryd.prog 9 (encStr k) = some (.string k) := by
  have := WideMaps.keyOf_string_mk (P := Tryd.prog) (s := ⟨k.toArray⟩) Tryd.underlying9 (by show k.toArray.size ≤ _; simpa using hk)
  simpa using this

/-- slices.Clone at a slice of strings, nil or not -/
theorem clone_ok (v : Value) (ss : List Bs) (w : World) (h : Strs w v ss) (hn : ss.length ≤ 4294967296) :
    Calls Tryd.prog 46 #[v] w fun e w' => ∃ v', e = .returned v' ∧ w'.ownsRow w.heap.size 9 1 v' ss.length (ss.map encStr) ∧ Below w.heap.size w w' := by
  obtain ⟨_, A, c, rfl, hc, hx⟩ := h
  cases ss with
  | nil =>
    cases A with
    | none =>
      refine (Tryd.slices_Clone_string_nil _ _ w).mono ?_
      rintro e w' ⟨rfl, rfl⟩
      exact ⟨_, rfl, World.ownsRow_nil _ _ _ _, Below.refl _ _⟩
    | some a =>
      refine (Tryd.slices_Clone_string_zero a c w).mono ?_
      rintro e w' ⟨v', rfl, h1, _, h2⟩
      exact ⟨_, rfl, h1, h2⟩
  | cons s r =>
    obtain ⟨b, off, rfl, hb, hcell⟩ := hx (by simp)
    have hl : ((s :: r).map fun l : Bs => (⟨l.toArray⟩ : ByteArray)).length = (s :: r).length := by simp
    refine (Tryd.slices_Clone_string b off (s :: r).length c ((s :: r).map fun l => ⟨l.toArray⟩) w (by simp) (by omega) ?_).mono ?_
    · intro j hj
      rw [hl] at hj
      refine hcell j _ ?_
      rw [List.getElem?_map, List.getD_eq_getElem?_getD, List.getElem?_map, List.getElem?_eq_getElem hj]
      rfl
    · rintro e w' ⟨v', rfl, h1, _, h2⟩
      refine ⟨_, rfl, ?_, h2⟩
      rw [List.take_of_length_le (by simp), List.map_map] at h1
      exact h1

/-- 'm[k]' at the operation -/
theorem wpList_lookup_vals (w : World) {ops : Array Oper} {rest : List Oper} {o : Oper} {a : Act} {Q : Exit → Act → World → Prop}
    (hg : o.guard = none) (mo x : Operand) (hop : o.op = Op.lookup 73 mo x false) (b n : Nat) (l : List (Bs × Value)) (hm : a.eval mo = .map (some b)) (hown : w.ownsMap Tryd.prog 9 raw b n (rawD l)) (hs : Srt l)
    (k : Bs) (hx : a.eval x = encStr k) (hk : k.length ≤ maxLen) (u : Value) (hu : (ofE l k).getD (.slice none 0 0) = u)
    (hK : wpList Tryd.prog ops Q rest (a.put o.dst u) w) : wpList Tryd.prog ops Q (o :: rest) a w := by
  refine wpList_plain hg fun K' hK' => ?_
  obtain ⟨v, ps, hrun, hv⟩ := hown.lookup keyed9 Tryd.underlying73 (zero23 w) (zd := .held (.slice none 0 0)) (zp := []) rfl (key9 hk)
  rw [rawD_at hs, hu] at hv
  obtain rfl : v = u := by
    simp only [raw, Option.some.injEq, Prod.mk.injEq, DataW.held.injEq] at hv
    exact hv.1
  unfold Oper.wp
  simp [execOp, hop, hm, hx, hrun, Result.andThen]
  exact hK' _ _ hK

set_option maxRecDepth 100000 in
set_option maxHeartbeats 400000 in
theorem add_ok (base b : Nat) (m : List Ent) (k v : Bs) (w : World) (h : Vals w base b m) (hk : k.length ≤ maxLen) (hm : m.length ≤ 4294967296) (hv : ∀ q ∈ m, q.2.length ≤ 4294967296) :
    Calls Tryd.prog 54 #[.map (some b), encStr k, encStr v] w fun e w' => e = .returned (.tuple #[]) ∧ Vals w' base b (withE m k ((ofE m k).getD [] ++ [v])) ∧ Below base w w' := by
  obtain ⟨i0, hi, hz0, hz1, hz2⟩ := info_parts Tryd.info9
  have hlt := h.lt
  obtain ⟨l, hown, hbb, hs, ho, ha⟩ := h
  have hll := ho.len
  obtain ⟨u, vs, hu, hvs, hrow, hlen, hap⟩ : ∃ u vs, (ofE l k).getD (.slice none 0 0) = u ∧ (ofE m k).getD [] = vs ∧ w.ownsRow base 9 1 u vs.length (vs.map encStr) ∧ vs.length ≤ 4294967296 ∧ ∀ p ∈ l, p.1 ≠ k → p.2.ownBlock = none ∨ p.2.ownBlock ≠ u.ownBlock := by
    rcases ho.of (key := k) with ⟨h1, h2⟩ | ⟨u, vs, h1, h2, h3, h4, h5⟩
    · refine ⟨_, _, rfl, rfl, by rw [h1, h2]; exact World.ownsRow_nil _ _ _ _, by rw [h2]; exact Nat.zero_le _, fun p _ _ => ?_⟩
      rw [h1]
      cases p.2.ownBlock <;> simp [Value.ownBlock]
    · refine ⟨_, _, rfl, rfl, by rw [h1, h2]; exact h5, by rw [h2]; exact hv _ h4, fun p hp hne => ?_⟩
      rw [h1]
      exact ha.mem hp h3 hne
  have Hu := Lib.hid hu
  have Hvs := Lib.hid hvs
  clear hu hvs
  have hm1 : vs.length + 1 ≤ maxLen := by simp only [maxLen]; omega
  have hm2 : (vs.length + 1) * 16 ≤ 140737488355328 := by omega
  have hm3 : l.length < maxLen := by simp only [maxLen]; omega
  have hne := row_ne_map (base := base) hown hrow
  go_enter Tryd.func54, Tryd.ntmps54
  go_wp2_with (first
    | (at_lookup; refine wpList_lookup_vals _ rfl _ _ rfl b l.length l rfl hown hs k rfl hk u Hu.out ?_)
    | (at_builtin; refine wpList_append_own_at _ rfl _ _ 23 rfl base 9 i0 _ 1 16 Tryd.underlying23 hi hz0 hz1 hz2 rfl (by decide) _ _ _ rfl (hrow.alloc _) ⟨w.heap.size, 0, none⟩ 1 1 [encStr v] rfl rfl (cell_one_new _ _ _) (by simp [Value.oneCell']) hm1 hm2 (by simp; omega) ?_; intro v' w1 hown' hgrow hnil hloc)
    | (at_mapUpdate; refine wpList_mapUpdate_own _ rfl _ _ _ 73 rfl 9 23 keyed9 Tryd.underlying73 raw b l.length (rawD l) rfl ((hown.alloc _).kept hgrow hne) hm3 _ _ (.string k) rfl rfl (key9 hk) (.held v') [] rfl ?_; intro w2 hown2 hgrow2))
  go_end0
  have hall := (World.grownBy_alloc w (.cells #[encStr v] 9) u.ownBlock).trans hgrow
  have hne2 := row_ne_map (base := base) ((hown.alloc (.cells #[encStr v] 9)).kept hgrow hne) hown'
  refine ⟨rfl, ⟨withE l k v', ?_, hbb, withE_srt hs _ _, ?_, ?_⟩, ?_⟩
  · rw [rawD_put hs] at hown2
    exact tight hown2
  · rw [Hvs.out]
    refine ho.store ?_ hs ?_
    · have := hown'.kept hgrow2 (by
        cases hb' : v'.ownBlock with
        | none => exact .inl rfl
        | some g => exact .inr fun e => hne2 (by rw [hb', e]))
      simpa using this
    · intro p hp hpk n xs hr
      refine (hr.kept hall (hap p hp hpk)).kept hgrow2 ?_
      cases hb' : p.2.ownBlock with
      | none => exact .inl rfl
      | some g => exact .inr fun e => row_ne_map (base := base) hown hr (by rw [hb', e])
  · refine ha.with hs fun p hp hpk => ?_
    rcases hloc with h1 | h1
    · rw [h1]; exact hap p hp hpk
    · cases hb' : p.2.ownBlock with
      | none => exact .inl rfl
      | some g =>
        refine .inr fun e => ?_
        obtain ⟨_, _, hr⟩ := ho.mem hp
        have := (hr.lt g hb').2
        rw [h1] at e
        simp at e
        omega
  · exact ((Below.refl base w).grown hall (by omega) (fun j hj => (hrow.lt j hj).1)).grown hgrow2 (by have := hall.size; omega) (fun j hj => by cases hj; exact hbb)

/-- a store of a slice in new memory, seen as a change of the map -/
theorem vals_store {w w1 w2 : World} {base b : Nat} {m : List Ent} {l : List (Bs × Value)} {k : Bs} {u : Value} {vs : List Bs} (hown : w.ownsMap Tryd.prog 9 raw b l.length (rawD l)) (hbb : base ≤ b) (hs : Srt l) (ho : OwnIn w base l m) (ha : Apt l)
    (hall : w.grownBy w1 none) (hrow : w1.ownsRow base 9 1 u vs.length (vs.map encStr)) (hloc : ∀ g, u.ownBlock = some g → w.heap.size ≤ g)
    (hown2 : w2.ownsMap Tryd.prog 9 raw b (l.length + 1) ((rawD l).put (.string k) (.held u))) (hgrow2 : w1.grownBy w2 (some b)) : Vals w2 base b (withE m k vs) := by
  have hown1 : w1.ownsMap Tryd.prog 9 raw b l.length (rawD l) := hown.kept hall (by simp)
  refine ⟨withE l k u, ?_, hbb, withE_srt hs _ _, ?_, ?_⟩
  · rw [rawD_put hs] at hown2
    exact tight hown2
  · refine ho.store ?_ hs ?_
    · refine hrow.kept hgrow2 ?_
      cases hb' : u.ownBlock with
      | none => exact .inl rfl
      | some g => exact .inr fun e => row_ne_map (base := base) hown1 hrow (by rw [hb', e])
    · intro p hp hpk n xs hr
      refine (hr.kept hall (by cases p.2.ownBlock <;> simp)).kept hgrow2 ?_
      cases hb' : p.2.ownBlock with
      | none => exact .inl rfl
      | some g => exact .inr fun e => row_ne_map (base := base) hown hr (by rw [hb', e])
  · refine ha.with hs fun p hp hpk => ?_
    cases hb' : p.2.ownBlock with
    | none => exact .inl rfl
    | some g =>
      refine .inr fun e => ?_
      obtain ⟨_, _, hr⟩ := ho.mem hp
      have h1 := (hr.lt g hb').2
      have h2 := hloc g e.symm
      omega

theorem own_one (w : World) (base : Nat) (x : Value) (h : base ≤ w.heap.size) : (w.alloc (.cells #[x] 9)).ownsRow base 9 1 (.slice (some ⟨w.heap.size, 0, none⟩) 1 1) 1 [x] :=
  ⟨rfl, .inr ⟨w.heap.size, 1, #[x], rfl, h, heap_alloc_new w _, Nat.le_refl _, by decide, rfl, rfl⟩⟩

set_option maxRecDepth 100000 in
set_option maxHeartbeats 400000 in
theorem set_ok (base b : Nat) (m : List Ent) (k v : Bs) (w : World) (h : Vals w base b m) (hk : k.length ≤ maxLen) (hm : m.length ≤ 4294967296) :
    Calls Tryd.prog 55 #[.map (some b), encStr k, encStr v] w fun e w' => e = .returned (.tuple #[]) ∧ Vals w' base b (withE m k [v]) ∧ Below base w w' := by
  have hlt := h.lt
  obtain ⟨l, hown, hbb, hs, ho, ha⟩ := h
  have hll := ho.len
  have hm3 : l.length < maxLen := by simp only [maxLen]; omega
  go_enter Tryd.func55, Tryd.ntmps55
  go_wp2_with (at_mapUpdate; refine wpList_mapUpdate_own _ rfl _ _ _ 73 rfl 9 23 keyed9 Tryd.underlying73 raw b l.length (rawD l) rfl (hown.alloc _) hm3 _ _ (.string k) rfl rfl (key9 hk) (.held (.slice (some ⟨w.heap.size, 0, none⟩) 1 1)) [] rfl ?_; intro w2 hown2 hgrow2)
  go_end0
  refine ⟨rfl, vals_store hown hbb hs ho ha (World.grownBy_alloc w _ none) (vs := [v]) (own_one w base (encStr v) (by omega)) (fun g hg => by cases hg; exact Nat.le_refl _) hown2 hgrow2, ?_⟩
  exact ((Below.refl base w).alloc (by omega) _).grown hgrow2 (by simp; omega) (fun j hj => by cases hj; exact hbb)

set_option maxRecDepth 100000 in
set_option maxHeartbeats 400000 in
theorem del_ok (base b : Nat) (m : List Ent) (k : Bs) (w : World) (h : Vals w base b m) (hk : k.length ≤ maxLen) :
    Calls Tryd.prog 56 #[.map (some b), encStr k] w fun e w' => e = .returned (.tuple #[]) ∧ Vals w' base b (withoutE m k) ∧ Below base w w' := by
  have hlt := h.lt
  obtain ⟨l, hown, hbb, hs, ho, ha⟩ := h
  go_enter Tryd.func56, Tryd.ntmps56
  go_wp2_with (at_delete; refine wpList_delete_own _ rfl _ _ 73 9 rfl 23 keyed9 Tryd.underlying73 raw b l.length (rawD l) rfl hown _ (.string k) rfl (key9 hk) ?_; intro w1 hown1 hturn1)
  go_end0
  have hg := hturn1.grown
  refine ⟨rfl, ⟨withoutE l k, ?_, hbb, withoutE_srt hs k, ?_, ha.filter _⟩, ?_⟩
  · rw [rawD_del] at hown1
    exact tight hown1
  · refine (ho.turn fun p _ n xs hr => hr.kept hg ?_).without
    cases hb' : p.2.ownBlock with
    | none => exact .inl rfl
    | some g => exact .inr fun e => row_ne_map (base := base) hown hr (by rw [hb', e])
  · exact (Below.refl base w).grown hg (by omega) (fun j hj => by cases hj; exact hbb)

set_option maxRecDepth 100000 in
set_option maxHeartbeats 400000 in
theorem get_ok (base b : Nat) (m : List Ent) (k : Bs) (w : World) (h : Vals w base b m) (hk : k.length ≤ maxLen) (hv : ∀ q ∈ m, q.2.length ≤ 4294967296) :
    Calls Tryd.prog 50 #[.map (some b), encStr k] w fun e w' => e = .returned (encStr (((ofE m k).getD []).headD [])) ∧ w = w' := by
  obtain ⟨l, hown, hbb, hs, ho, ha⟩ := h
  obtain ⟨u, vs, hu, hvs, hrow, hlen⟩ : ∃ u vs, (ofE l k).getD (.slice none 0 0) = u ∧ (ofE m k).getD [] = vs ∧ w.ownsRow base 9 1 u vs.length (vs.map encStr) ∧ vs.length ≤ 4294967296 := by
    rcases ho.of (key := k) with ⟨h1, h2⟩ | ⟨u, vs, h1, h2, h3, h4, h5⟩
    · exact ⟨_, _, rfl, rfl, by rw [h1, h2]; exact World.ownsRow_nil _ _ _ _, by rw [h2]; exact Nat.zero_le _⟩
    · exact ⟨_, _, rfl, rfl, by rw [h1, h2]; exact h5, by rw [h2]; exact hv _ h4⟩
  rw [hvs]
  have Hu := Lib.hid hu
  clear hu hvs
  obtain ⟨hl, A, c, rfl, hc, hx⟩ := Row.of_own hrow
  cases vs with
  | nil =>
    go_enter Tryd.func50, Tryd.ntmps50
    go_wp2_with (at_lookup; refine wpList_lookup_vals _ rfl _ _ rfl b l.length l rfl hown hs k rfl hk _ Hu.out ?_)
    go_ret
    exact ⟨rfl, rfl⟩
  | cons s r =>
    obtain ⟨bb, off, rfl, _, hcell⟩ := hx (by simp)
    have hc0 : w.cell? ⟨bb, off, none⟩ = some (encStr s) := hcell 0 _ rfl
    clear hcell hx
    have hlen0 : ((((s :: r).length : Nat) : Int) == 0) = false := by rw [beq_eq_false_iff_ne]; simp; omega
    have hlen1 : (0 : Int) < (((s :: r).length : Nat) : Int) := by simp
    generalize (s :: r).length = N at *
    go_enter Tryd.func50, Tryd.ntmps50
    go_wp2_with (at_lookup; refine wpList_lookup_vals _ rfl _ _ rfl b l.length l rfl hown hs k rfl hk _ Hu.out ?_)
    go_ret
    exact ⟨rfl, rfl⟩

theorem wpList_lookup_vals_ok (w : World) {ops : Array Oper} {rest : List Oper} {o : Oper} {a : Act} {Q : Exit → Act → World → Prop}
    (hg : o.guard = none) (mo x : Operand) (hop : o.op = Op.lookup 73 mo x true) (b n : Nat) (l : List (Bs × Value)) (hm : a.eval mo = .map (some b)) (hown : w.ownsMap Tryd.prog 9 raw b n (rawD l)) (hs : Srt l)
    (k : Bs) (hx : a.eval x = encStr k) (hk : k.length ≤ maxLen) (u : Value) (hu : (ofE l k).getD (.slice none 0 0) = u) (t : Bool) (ht : (ofE l k).isSome = t)
    (hK : wpList Tryd.prog ops Q rest (a.put o.dst (.tuple #[u, .bool t])) w) : wpList Tryd.prog ops Q (o :: rest) a w := by
  refine wpList_plain hg fun K' hK' => ?_
  obtain ⟨v, ps, hrun, hv⟩ := hown.look_ok keyed9 Tryd.underlying73 (zero23 w) (zd := .held (.slice none 0 0)) (zp := []) rfl (key9 hk)
  rw [rawD_at hs, hu] at hv
  rw [rawD_has hs, ht] at hrun
  obtain rfl : v = u := by
    simp only [raw, Option.some.injEq, Prod.mk.injEq, DataW.held.injEq] at hv
    exact hv.1
  unfold Oper.wp
  simp [execOp, hop, hm, hx, hrun, Result.andThen]
  exact hK' _ _ hK

set_option maxRecDepth 100000 in
set_option maxHeartbeats 400000 in
theorem has_ok (base b : Nat) (m : List Ent) (k : Bs) (w : World) (h : Vals w base b m) (hk : k.length ≤ maxLen) :
    Calls Tryd.prog 51 #[.map (some b), encStr k] w fun e w' => e = .returned (.bool (ofE m k).isSome) ∧ w = w' := by
  obtain ⟨l, hown, hbb, hs, ho, ha⟩ := h
  have hsome : (ofE l k).isSome = (ofE m k).isSome := by
    rcases ho.of (key := k) with ⟨h1, h2⟩ | ⟨u, vs, h1, h2, _⟩
    · rw [h1, h2]; rfl
    · rw [h1, h2]; rfl
  generalize (ofE m k).isSome = t at hsome ⊢
  generalize hu : (ofE l k).getD (.slice none 0 0) = u
  have Hu := Lib.hid hu
  have Ht := Lib.hid hsome
  clear hu hsome
  go_enter Tryd.func51, Tryd.ntmps51
  go_wp2_with (at_lookup; refine wpList_lookup_vals_ok _ rfl _ _ rfl b l.length l rfl hown hs k rfl hk u Hu.out t Ht.out ?_)
  go_ret
  exact ⟨rfl, rfl⟩

end Go.Proofs.YtjgjiaflccdflaaDoor
