/-
  The walk of spec.With. Conditions: at most 2^32 elements.
-/
import Derived.Test.YtjgjiaflccdflaaDoorSpecA
namespace Go.Proofs.YtjgjiaflccdflaaDoor
open Go.RowKit

theorem run_append_none {P : Program} (w : World) (base : Nat) (t ty e : TypeId) (i : TypeInfo) (size : Nat) (ht : P.underlying t = some (.slice e)) (hi : P.info? e = some i)
    (v : Value) (n : Nat) (xs : List Value) (hown : w.ownsRow base e size v n xs) (c : Nat) : (Builtin.append_ #[t, t] ty #[v, .slice none 0 c]).run P w = .ok v w := by
  rcases hown.2 with ⟨rfl, rfl⟩ | ⟨g, cap, cur, rfl, _, _, hnc, _⟩
  · simp [Builtin.append_, run_underlying ht, sizeOf, typeInfo, hi, Builtin.lenOf, Builtin.firstCells]
  · simp [Builtin.append_, run_underlying ht, sizeOf, typeInfo, hi, Builtin.lenOf, Builtin.firstCells, hnc, storeCells]

/-- append of a whole slice, nil or empty or not, onto a row of the call's own -/
theorem wpList_append_row {P : Program} (w : World) {ops : Array Oper} {rest : List Oper} {o : Oper} {a : Act} {Q : Exit → Act → World → Prop} (hgd : o.guard = none) (s x : Operand) (t : TypeId)
    (ho : o.op = .call { callee := .builtin .append, args := #[s, x], argTypes := #[t, t] })
    (base : Nat) (e : TypeId) (i : TypeInfo) (z : Value) (size bytes : Nat) (ht : P.underlying t = some (.slice e)) (hi : P.info? e = some i) (hz : i.zero = some z)
    (hsize : i.size = size) (hby : i.bytes = bytes) (hzs : z.cells.size = size) (hsz : 0 < size)
    (v : Value) (n : Nat) (xs : List Value) (hs : a.eval s = v) (hown : w.ownsRow base e size v n xs)
    (sv : Value) (m : Nat) (news : List Value) (hx : a.eval x = sv) (hr : Row w sv m size news) (h1 : ∀ u ∈ news, u.oneCell' = true)
    (h63 : n + m ≤ maxLen) (hbytes : (n + m) * bytes ≤ 140737488355328) (hbase : base ≤ w.heap.size)
    (h : ∀ v' w', w'.ownsRow base e size v' (n + m) (xs ++ news) → w.grownBy w' v.ownBlock → (v'.ownBlock = v.ownBlock ∨ v'.ownBlock = some w.heap.size) → wpList P ops Q rest (a.put o.dst v') w') : wpList P ops Q (o :: rest) a w := by
  obtain ⟨hl, A, c, rfl, _, hc⟩ := hr
  have hrun : ∃ v' w', (Builtin.append_ #[t, t] o.type #[v, .slice A m c]).run P w = .ok v' w' ∧ w'.ownsRow base e size v' (n + m) (xs ++ news) ∧ w.grownBy w' v.ownBlock ∧ (v'.ownBlock = v.ownBlock ∨ v'.ownBlock = some w.heap.size) := by
    rcases A with _ | ad
    · have hm : m = 0 := by
        rcases Nat.eq_zero_or_pos m with h0 | h0
        · exact h0
        · obtain ⟨_, _, h, _⟩ := hc h0
          cases h
      subst hm
      have hn : news = [] := List.eq_nil_of_length_eq_zero (by simpa using hl)
      subst hn
      exact ⟨v, w, run_append_none w base t o.type e i size ht hi v n xs hown c, by simpa using hown, ⟨rfl, rfl, rfl, Nat.le_refl _, fun _ _ _ => rfl⟩, .inl rfl⟩
    · have hcells : ∀ j u, news[j]? = some u → w.cell? (ad.add j) = some u := by
        intro j u hu
        rcases Nat.eq_zero_or_pos m with h0 | h0
        · subst h0
          have hn : news = [] := List.eq_nil_of_length_eq_zero (by simpa using hl)
          subst hn
          simp at hu
        · obtain ⟨b, off, h, _, hcc⟩ := hc h0
          injection h with h
          subst h
          rw [Addr.add_lit]
          exact hcc j u hu
      obtain ⟨v', w', hrun, h2, h3, _, h5⟩ := run_append_own_at (P := P) w base t o.type e i z size bytes ht hi hz hsize hby hzs hsz v n xs hown ad m c news hl hcells h1 h63 hbytes hbase
      exact ⟨v', w', hrun, h2, h3, h5⟩
  obtain ⟨v', w', hrun, h2, h3, h4⟩ := hrun
  refine wpList_plain hgd fun K hK => ?_
  unfold Oper.wp execOp
  simp only [ho, resolve, invoke, builtin, Sem.run_bind, Sem.run_pure, Result.andThen_ok, List.map_toArray, List.map_cons, List.map_nil, hs, hx, hrun]
  exact hK _ _ (h v' w' h2 h3 h4)

theorem grown_setCell (w : World) (p : Addr) (u : Value) : w.grownBy (w.setCell p u) (some p.block) :=
  ⟨rfl, rfl, rfl, by simp [World.setCell], fun k _ hk => Below.heap_setCell w p u k (fun e => hk (by rw [e]))⟩

theorem heap_set_new (w : World) (p : Addr) (u : Value) (o : Obj) : ((w.setCell p u).alloc o).heap[w.heap.size]? = some o := by
  have h5 := heap_alloc_new (w.setCell p u) o
  have h6 : (w.setCell p u).heap.size = w.heap.size := by simp [World.setCell]
  rw [h6] at h5
  exact h5

/-- what stands behind 'e.Values = append(e.Values, values...)' in With: the variable's block, its slice -/
theorem with_mid {w w1 w2 : World} {key : Bs} {v1 v2 : Value} {vs : List Bs} {k : Nat} {xs : List Value} (hg2 : (w1.alloc (.cells #[encStr key, .slice none 0 0] 42)).grownBy w2 none) (hown2 : w2.ownsRow w1.heap.size 9 1 v2 vs.length (vs.map encStr)) (hb1 : Below w.heap.size w w1)
    (hown1 : w1.ownsRow w.heap.size 42 2 v1 k xs) :
    ∃ A3 c3, v2 = .slice A3 vs.length c3 ∧ w2.cell? ⟨w1.heap.size, 0, none⟩ = some (encStr key) ∧ w2.cell? ⟨w1.heap.size, 1, none⟩ = some (.slice none 0 0) ∧ w2.frozen? ⟨w1.heap.size, 1, none⟩ = false ∧ w.heap.size ≤ w2.heap.size ∧ w1.heap.size < w2.heap.size ∧
      (w2.setCell ⟨w1.heap.size, 1, none⟩ (.slice A3 vs.length c3)).ownsRow w.heap.size 42 2 v1 k xs ∧ (w2.setCell ⟨w1.heap.size, 1, none⟩ (.slice A3 vs.length c3)).ownsRow w.heap.size 9 1 (.slice A3 vs.length c3) vs.length (vs.map encStr) ∧ Below w.heap.size w (w2.setCell ⟨w1.heap.size, 1, none⟩ (.slice A3 vs.length c3)) := by
  obtain ⟨A3, c3, rfl, _⟩ := own_form hown2
  have hb : w2.heap[w1.heap.size]? = some (.cells #[encStr key, .slice none 0 0] 42 (0, 0)) := (hg2.block w1.heap.size (by simp) (by simp)).trans (heap_alloc_new w1 _)
  have hs := hg2.size
  simp at hs
  have hs1 := hb1.size
  have hset := grown_setCell w2 ⟨w1.heap.size, 1, none⟩ (.slice A3 vs.length c3)
  refine ⟨A3, c3, rfl, by simp [World.cell?, hb], by simp [World.cell?, hb], by simp [World.frozen?, hb], by omega, by omega, ?_, ?_, ?_⟩
  · refine ((hown1.alloc _).kept hg2 (by cases v1.ownBlock <;> simp)).kept hset ?_
    cases hv : v1.ownBlock with
    | none => exact .inl rfl
    | some g =>
      refine .inr fun e => ?_
      have := (hown1.lt g hv).2
      injection e with e
      simp only at e
      omega
  · refine (own_base hown2 (by omega)).kept hset ?_
    rcases hown2.2 with ⟨e, _⟩ | ⟨g, cap, cur, hv, hg, hh, _⟩
    · rw [e]; exact .inl rfl
    · rw [hv]
      refine .inr fun e => ?_
      simp only [Value.ownBlock, Option.some.injEq] at e
      subst e
      rw [hb] at hh
      cases hh
  · exact ((hb1.alloc hs1 _).grown hg2 (by simp; omega) (fun j hj => by cases hj)).setCell (p := ⟨w1.heap.size, 1, none⟩) hs1 _

theorem row_zero (w : World) (us : List (Bs × Value)) (k : Nat) (X : Option Addr) (c : Nat) (h : us.length ≤ k) : Row w (.slice X (us.length - k) c) (us.length - k) 2 ((us.drop k).flatMap entCells) := by
  rw [List.drop_of_length_le h, show us.length - k = 0 by omega]
  exact Row.nil

theorem row_rest {w : World} {us : List (Bs × Value)} {b off k c : Nat} (hb : b < w.heap.size) (hcell : ∀ j u, (us.flatMap entCells)[j]? = some u → w.cell? ⟨b, off + j, none⟩ = some u) (hk : k ≤ us.length) (hc : us.length - k ≤ c) :
    Row w (.slice (some ⟨b, off + k * 2, none⟩) (us.length - k) c) (us.length - k) 2 ((us.drop k).flatMap entCells) := by
  refine ⟨by rw [flat_length entCells 2 _ (fun _ _ => rfl), List.length_drop], _, c, rfl, hc, fun _ => ⟨b, off + k * 2, rfl, hb, fun j u hu => ?_⟩⟩
  have e1 : us = us.take k ++ us.drop k := (List.take_append_drop k us).symm
  have e2 : ((us.take k).flatMap entCells).length = k * 2 := by rw [flat_length entCells 2 _ (fun _ _ => rfl), List.length_take]; omega
  have := hcell (k * 2 + j) u (by rw [e1, List.flatMap_append, List.getElem?_append_right (by omega), e2, show k * 2 + j - k * 2 = j by omega]; exact hu)
  rwa [← Nat.add_assoc] at this

theorem withE_hit {α : Type} {l : List (Bs × α)} {key : Bs} {k : Nat} {p : Bs × α} {u : α} (hk : placeE l key = k) (hp : l[k]? = some p) (hpk : p.1 = key) : withE l key u = l.take k ++ (key, u) :: l.drop (k + 1) := by
  induction l generalizing k with
  | nil => simp at hp
  | cons e r ih =>
    unfold placeE at hk
    unfold withE
    split at hk
    · rename_i hlt
      subst hk
      rw [if_pos hlt, ih rfl (by simpa using hp)]
      rfl
    · rename_i hlt
      subst hk
      simp at hp
      subst hp
      rw [if_neg hlt, if_pos hpk]
      rfl

theorem withE_miss {α : Type} {l : List (Bs × α)} {key : Bs} {k : Nat} {u : α} (hk : placeE l key = k) (hp : ∀ p, l[k]? = some p → p.1 ≠ key) : withE l key u = l.take k ++ (key, u) :: l.drop k := by
  induction l generalizing k with
  | nil => simp [withE]
  | cons e r ih =>
    unfold placeE at hk
    unfold withE
    split at hk
    · rename_i hlt
      subst hk
      rw [if_pos hlt, ih rfl (fun p h => hp p (by simpa using h))]
      rfl
    · rename_i hlt
      subst hk
      rw [if_neg hlt, if_neg (hp e (by simp))]
      rfl

/-- With's end -/
theorem with_end {w W w3 w4 : World} {us : List (Bs × Value)} {es : List Ent} {key : Bs} {vs : List Bs} {A3 : Option Addr} {c3 k k' : Nat} {o : Obj} {v1 v3 v4 : Value} {xs : List Value} {N : Nat} (hin : Inner w us es) (Hwith : Hid (∀ u, withE us key u = us.take k ++ (key, u) :: us.drop k'))
    (H42 : W.ownsRow w.heap.size 42 2 v1 k xs) (H9 : W.ownsRow w.heap.size 9 1 (.slice A3 vs.length c3) vs.length (vs.map encStr)) (hg3 : (W.alloc o).grownBy w3 v1.ownBlock)
    (hown3 : w3.ownsRow w.heap.size 42 2 v3 (k + 1) ((us.take k).flatMap entCells ++ [encStr key, .slice A3 vs.length c3])) (hb3 : Below w.heap.size w w3) (hg4 : w3.grownBy w4 v3.ownBlock)
    (hown4 : w4.ownsRow w.heap.size 42 2 v4 N ((us.take k).flatMap entCells ++ [encStr key, .slice A3 vs.length c3] ++ (us.drop k').flatMap entCells)) :
    ∃ v', Ending.returned v4 = .returned v' ∧ Ents w4 v' (withE es key vs) ∧ Below w.heap.size w w4 := by
  have hb4 : Below w.heap.size w w4 := hb3.grown hg4 hb3.size (fun j hj => (hown3.lt j hj).1)
  have H9' := ((H9.alloc o).kept hg3 (own_apart (H9.alloc o) (H42.alloc o) (by decide)))
  have H9'' := H9'.kept hg4 (own_apart H9' hown3 (by decide))
  refine ⟨v4, rfl, ⟨withE us key (.slice A3 vs.length c3), (hin.up hb4).with (Row.of_own H9''), ?_⟩, hb4⟩
  have e1 : (withE us key (.slice A3 vs.length c3)).flatMap entCells = (us.take k).flatMap entCells ++ [encStr key, .slice A3 vs.length c3] ++ (us.drop k').flatMap entCells := by
    rw [Hwith.out, List.flatMap_append, List.flatMap_cons, List.append_assoc]
    rfl
  have hr := Row.of_own hown4
  rw [← e1] at hr
  have hN : N = (withE us key (.slice A3 vs.length c3)).length := by
    have := hr.1
    rw [flat_length entCells 2 _ (fun _ _ => rfl)] at this
    omega
  rw [hN] at hr
  exact hr

set_option maxRecDepth 100000 in
set_option maxHeartbeats 4000000 in
theorem with_ok (v u : Value) (es : List Ent) (key : Bs) (vs : List Bs) (w : World) (h : Ents w v es) (hu : Strs w u vs) (hn : es.length ≤ 4294967295) (hvn : vs.length ≤ 4294967296) :
    Calls Tryd.prog 33 #[v, encStr key, u] w fun e w' => ∃ v', e = .returned v' ∧ Ents w' v' (withE es key vs) ∧ Below w.heap.size w w' := by
  have hpl := place_ok v es key w h (by omega)
  obtain ⟨us, hin, hlx, A, c, rfl, hnc, hx⟩ := h
  have hul : us.length ≤ 4294967295 := by rw [hin.len]; exact hn
  have hpe := hin.place key
  have hple := placeE_le us key
  generalize hk : placeE us key = k at *
  have Hk := Lib.hid hk
  have Hin := Lib.hid hin
  rw [← hpe] at hpl
  have Hpl := Lib.hid hpl
  clear hpl hpe
  have hone := hin.slice
  have hc1' : ∀ p ∈ us, ∀ u ∈ entCells p, u.oneCell' = true := fun p hp u hu => by
    obtain ⟨a, n, c, e⟩ := hone p hp
    simp only [entCells, List.mem_cons, List.not_mem_nil, or_false] at hu
    rcases hu with rfl | rfl
    · rfl
    · rw [e]; rfl
  have hone1 : ∀ u ∈ (us.take k).flatMap entCells, u.oneCell' = true := fun u hu => by
    obtain ⟨p, hp, hu⟩ := List.mem_flatMap.1 hu
    exact hc1' p (List.mem_of_mem_take hp) u hu
  have hone2 : ∀ j, ∀ u ∈ (us.drop j).flatMap entCells, u.oneCell' = true := fun j u hu => by
    obtain ⟨p, hp, hu⟩ := List.mem_flatMap.1 hu
    exact hc1' p (List.mem_of_mem_drop hp) u hu
  have hone3 : ∀ u ∈ vs.map encStr, u.oneCell' = true := fun u hu => by
    obtain ⟨x, _, rfl⟩ := List.mem_map.1 hu
    rfl
  obtain ⟨i0, hi, hz0, hz1, hz2⟩ := info_parts Tryd.info42
  obtain ⟨j0, hj, hy0, hy1, hy2⟩ := info_parts Tryd.info9
  have r1 : Row w (.slice A k c) k 2 ((us.take k).flatMap entCells) := by
    refine ⟨by rw [flat_length entCells 2 _ (fun _ _ => rfl), List.length_take]; omega, A, c, rfl, by omega, fun h0 => ?_⟩
    obtain ⟨b, off, rfl, hb, hcell⟩ := hx (by omega)
    refine ⟨b, off, rfl, hb, fun j u hu => hcell j u ?_⟩
    have e1 : us = us.take k ++ us.drop k := (List.take_append_drop k us).symm
    rw [e1, List.flatMap_append, List.getElem?_append_left (List.getElem?_eq_some_iff.1 hu).1]
    exact hu
  have Hr1 := Lib.hid r1
  have Hu := Lib.hid hu
  obtain ⟨_, A2, c2, rfl, _, _⟩ := hu
  clear r1 hone hc1' hk hin
  have m1 : 0 + k ≤ maxLen := by simp only [maxLen]; omega
  have m2 : (0 + k) * 40 ≤ 140737488355328 := by omega
  have m3 : 0 + vs.length ≤ maxLen := by simp only [maxLen]; omega
  have m4 : (0 + vs.length) * 16 ≤ 140737488355328 := by omega
  have m5 : k + 1 ≤ maxLen := by simp only [maxLen]; omega
  have m6 : (k + 1) * 40 ≤ 140737488355328 := by omega
  by_cases hlt : k < us.length
  · obtain ⟨b, off, rfl, hbl, hcell⟩ := hx (by omega)
    obtain ⟨p, hp⟩ : ∃ p, us[k]? = some p := ⟨_, List.getElem?_eq_getElem hlt⟩
    obtain ⟨hc0, _⟩ := ent_at hcell hp
    have hk0 : (0 : Int) ≤ (k : Int) := Int.natCast_nonneg _
    have hk1 : (k : Int) < (us.length : Int) := by omega
    by_cases hpk : p.1 = key
    · have hpb : (p.1 == key) = true := beq_iff_eq.2 hpk
      have m7 : k + 1 + (us.length - (k + 1)) ≤ maxLen := by simp only [maxLen]; omega
      have m8 : (k + 1 + (us.length - (k + 1))) * 40 ≤ 140737488355328 := by omega
      have Hwith := Lib.hid (fun u => withE_hit (u := u) Hk.out hp hpk)
      by_cases hck : c = k + 1
      · have Hdrop : Hid ((us.drop (k + 1)).flatMap entCells = []) := by
          show (us.drop (k + 1)).flatMap entCells = []
          rw [List.drop_of_length_le (by omega)]
          rfl
        clear hcell hx hp hpk
        obtain rfl : c = k + 1 := hck
        go_enter Tryd.func33, Tryd.ntmps33
        go_wp2_with (first
          | (go_at_call 49; refine (Hpl.out).mono ?_; rintro e w' ⟨rfl, rfl⟩)
          | (at_builtin; refine wpList_append_row _ rfl (.tmp 13) (.tmp 16) 37 rfl w.heap.size 42 i0 _ 2 40 Tryd.underlying37 hi hz0 hz1 hz2 rfl (by decide) (.slice none 0 0) 0 [] rfl (World.ownsRow_nil _ _ _ _) _ k _ rfl Hr1.out hone1 m1 m2 (Nat.le_refl _) ?_; intro v1 w1 hown1 hg1 hat1; have hb1 : Below w.heap.size w w1 := (Below.refl _ w).grown hg1 (Nat.le_refl _) (fun j hj => by cases hj); have hsz1 := hb1.size; have Hu1 := Lib.hid (Hu.out.up hb1); simp only [Nat.zero_add, List.nil_append] at hown1)
          | (at_builtin; refine wpList_append_row _ rfl (.tmp 21) (.tmp 22) 23 rfl w1.heap.size 9 j0 _ 1 16 Tryd.underlying23 hj hy0 hy1 hy2 rfl (by decide) (.slice none 0 0) 0 [] rfl (World.ownsRow_nil _ _ _ _) (.slice A2 vs.length c2) vs.length _ rfl (Strs.up Hu1.out ((Below.refl _ w1).alloc (Nat.le_refl _) _)) hone3 m3 m4 (by simp) ?_; intro v2 w2 hown2 hg2 hat2; simp only [Nat.zero_add, List.nil_append] at hown2; obtain ⟨A3, c3, rfl, q0, q1, q2, q3, q4, H42, H9, hb2⟩ := with_mid hg2 hown2 hb1 hown1)
          | (at_builtin; refine wpList_append_own_at _ rfl (.tmp 25) (.tmp 27) 37 rfl w.heap.size 42 i0 _ 2 40 Tryd.underlying37 hi hz0 hz1 hz2 rfl (by decide) v1 k _ rfl (H42.alloc _) ⟨w2.heap.size, 0, none⟩ 1 1 [encStr key, .slice A3 vs.length c3] rfl rfl (World.news_of_block (cs := #[encStr key, .slice A3 vs.length c3]) (t := 42) (fr := (0, 0)) (heap_set_new w2 _ _ _)) (by simp [Value.oneCell']) m5 m6 (by simp; omega) ?_; intro v3 w3 hown3 hg3 hnil3 hat3; have hb3 : Below w.heap.size w w3 := (hb2.alloc (by simp; omega) _).grown hg3 (by simp; omega) (fun j hj => (H42.lt j hj).1); have hsz3 := hb3.size; have hc3 : w3.cell? ⟨b, off + k * 2, none⟩ = some (encStr p.1) := (hb3.cell hbl).trans hc0)
          | (at_builtin; refine wpList_append_row _ rfl (.tmp 44) (.tmp 47) 37 rfl w.heap.size 42 i0 _ 2 40 Tryd.underlying37 hi hz0 hz1 hz2 rfl (by decide) v3 (k + 1) _ rfl hown3 _ 0 [] rfl Row.nil (fun u hu => by simp at hu) m5 m6 hsz3 ?_; intro v4 w4 hown4 hg4 hat4))
        go_ret
        exact with_end Hin.out Hwith H42 H9 hg3 hown3 hb3 hg4 (by rw [Hdrop.out]; exact hown4)
      · have Hrow := Lib.hid (row_rest hbl hcell (show k + 1 ≤ us.length by omega) (show us.length - (k + 1) ≤ c - (k + 1) by omega))
        clear hcell hx hp hpk
        go_enter Tryd.func33, Tryd.ntmps33
        go_wp2_with (first
          | (go_at_call 49; refine (Hpl.out).mono ?_; rintro e w' ⟨rfl, rfl⟩)
          | (at_builtin; refine wpList_append_row _ rfl (.tmp 13) (.tmp 16) 37 rfl w.heap.size 42 i0 _ 2 40 Tryd.underlying37 hi hz0 hz1 hz2 rfl (by decide) (.slice none 0 0) 0 [] rfl (World.ownsRow_nil _ _ _ _) _ k _ rfl Hr1.out hone1 m1 m2 (Nat.le_refl _) ?_; intro v1 w1 hown1 hg1 hat1; have hb1 : Below w.heap.size w w1 := (Below.refl _ w).grown hg1 (Nat.le_refl _) (fun j hj => by cases hj); have hsz1 := hb1.size; have Hu1 := Lib.hid (Hu.out.up hb1); simp only [Nat.zero_add, List.nil_append] at hown1)
          | (at_builtin; refine wpList_append_row _ rfl (.tmp 21) (.tmp 22) 23 rfl w1.heap.size 9 j0 _ 1 16 Tryd.underlying23 hj hy0 hy1 hy2 rfl (by decide) (.slice none 0 0) 0 [] rfl (World.ownsRow_nil _ _ _ _) (.slice A2 vs.length c2) vs.length _ rfl (Strs.up Hu1.out ((Below.refl _ w1).alloc (Nat.le_refl _) _)) hone3 m3 m4 (by simp) ?_; intro v2 w2 hown2 hg2 hat2; simp only [Nat.zero_add, List.nil_append] at hown2; obtain ⟨A3, c3, rfl, q0, q1, q2, q3, q4, H42, H9, hb2⟩ := with_mid hg2 hown2 hb1 hown1)
          | (at_builtin; refine wpList_append_own_at _ rfl (.tmp 25) (.tmp 27) 37 rfl w.heap.size 42 i0 _ 2 40 Tryd.underlying37 hi hz0 hz1 hz2 rfl (by decide) v1 k _ rfl (H42.alloc _) ⟨w2.heap.size, 0, none⟩ 1 1 [encStr key, .slice A3 vs.length c3] rfl rfl (World.news_of_block (cs := #[encStr key, .slice A3 vs.length c3]) (t := 42) (fr := (0, 0)) (heap_set_new w2 _ _ _)) (by simp [Value.oneCell']) m5 m6 (by simp; omega) ?_; intro v3 w3 hown3 hg3 hnil3 hat3; have hb3 : Below w.heap.size w w3 := (hb2.alloc (by simp; omega) _).grown hg3 (by simp; omega) (fun j hj => (H42.lt j hj).1); have hsz3 := hb3.size; have hc3 : w3.cell? ⟨b, off + k * 2, none⟩ = some (encStr p.1) := (hb3.cell hbl).trans hc0)
          | (at_builtin; refine wpList_append_row _ rfl (.tmp 44) (.tmp 47) 37 rfl w.heap.size 42 i0 _ 2 40 Tryd.underlying37 hi hz0 hz1 hz2 rfl (by decide) v3 (k + 1) _ rfl hown3 _ (us.length - (k + 1)) _ rfl (Row.up Hrow.out hb3) (hone2 (k + 1)) m7 m8 hsz3 ?_; intro v4 w4 hown4 hg4 hat4))
        go_ret
        exact with_end Hin.out Hwith H42 H9 hg3 hown3 hb3 hg4 hown4
    · have hpb : (p.1 == key) = false := beq_eq_false_iff_ne.2 hpk
      have m7 : k + 1 + (us.length - k) ≤ maxLen := by simp only [maxLen]; omega
      have m8 : (k + 1 + (us.length - k)) * 40 ≤ 140737488355328 := by omega
      have Hwith := Lib.hid (fun u => withE_miss (u := u) Hk.out (fun q hq => by rw [hp, Option.some.injEq] at hq; rw [← hq]; exact hpk))
      have Hrow := Lib.hid (row_rest hbl hcell (show k ≤ us.length by omega) (show us.length - k ≤ c - k by omega))
      have hck : ¬ c = k := by omega
      clear hcell hx hp hpk
      go_enter Tryd.func33, Tryd.ntmps33
      go_wp2_with (first
        | (go_at_call 49; refine (Hpl.out).mono ?_; rintro e w' ⟨rfl, rfl⟩)
        | (at_builtin; refine wpList_append_row _ rfl (.tmp 13) (.tmp 16) 37 rfl w.heap.size 42 i0 _ 2 40 Tryd.underlying37 hi hz0 hz1 hz2 rfl (by decide) (.slice none 0 0) 0 [] rfl (World.ownsRow_nil _ _ _ _) _ k _ rfl Hr1.out hone1 m1 m2 (Nat.le_refl _) ?_; intro v1 w1 hown1 hg1 hat1; have hb1 : Below w.heap.size w w1 := (Below.refl _ w).grown hg1 (Nat.le_refl _) (fun j hj => by cases hj); have hsz1 := hb1.size; have Hu1 := Lib.hid (Hu.out.up hb1); simp only [Nat.zero_add, List.nil_append] at hown1)
        | (at_builtin; refine wpList_append_row _ rfl (.tmp 21) (.tmp 22) 23 rfl w1.heap.size 9 j0 _ 1 16 Tryd.underlying23 hj hy0 hy1 hy2 rfl (by decide) (.slice none 0 0) 0 [] rfl (World.ownsRow_nil _ _ _ _) (.slice A2 vs.length c2) vs.length _ rfl (Strs.up Hu1.out ((Below.refl _ w1).alloc (Nat.le_refl _) _)) hone3 m3 m4 (by simp) ?_; intro v2 w2 hown2 hg2 hat2; simp only [Nat.zero_add, List.nil_append] at hown2; obtain ⟨A3, c3, rfl, q0, q1, q2, q3, q4, H42, H9, hb2⟩ := with_mid hg2 hown2 hb1 hown1)
        | (at_builtin; refine wpList_append_own_at _ rfl (.tmp 25) (.tmp 27) 37 rfl w.heap.size 42 i0 _ 2 40 Tryd.underlying37 hi hz0 hz1 hz2 rfl (by decide) v1 k _ rfl (H42.alloc _) ⟨w2.heap.size, 0, none⟩ 1 1 [encStr key, .slice A3 vs.length c3] rfl rfl (World.news_of_block (cs := #[encStr key, .slice A3 vs.length c3]) (t := 42) (fr := (0, 0)) (heap_set_new w2 _ _ _)) (by simp [Value.oneCell']) m5 m6 (by simp; omega) ?_; intro v3 w3 hown3 hg3 hnil3 hat3; have hb3 : Below w.heap.size w w3 := (hb2.alloc (by simp; omega) _).grown hg3 (by simp; omega) (fun j hj => (H42.lt j hj).1); have hsz3 := hb3.size; have hc3 : w3.cell? ⟨b, off + k * 2, none⟩ = some (encStr p.1) := (hb3.cell hbl).trans hc0)
        | (at_builtin; refine wpList_append_row _ rfl (.tmp 44) (.tmp 47) 37 rfl w.heap.size 42 i0 _ 2 40 Tryd.underlying37 hi hz0 hz1 hz2 rfl (by decide) v3 (k + 1) _ rfl hown3 _ (us.length - (k)) _ rfl (Row.up Hrow.out hb3) (hone2 (k)) m7 m8 hsz3 ?_; intro v4 w4 hown4 hg4 hat4))
      go_ret
      exact with_end Hin.out Hwith H42 H9 hg3 hown3 hb3 hg4 hown4
  · have m7 : k + 1 + (us.length - k) ≤ maxLen := by simp only [maxLen]; omega
    have m8 : (k + 1 + (us.length - k)) * 40 ≤ 140737488355328 := by omega
    have Hwith := Lib.hid (fun u => withE_miss (u := u) Hk.out (fun q hq => by rw [List.getElem?_eq_none (by omega)] at hq; cases hq))
    have Hdrop : Hid ((us.drop k).flatMap entCells = []) := by
      show (us.drop k).flatMap entCells = []
      rw [List.drop_of_length_le (by omega)]
      rfl
    have Hrow := Lib.hid (fun (W : World) (X : Option Addr) (cc : Nat) => row_zero W us k X cc (by omega))
    clear hx
    by_cases hck : c = k
    · obtain rfl : k = c := hck.symm
      go_enter Tryd.func33, Tryd.ntmps33
      go_wp2_with (first
        | (go_at_call 49; refine (Hpl.out).mono ?_; rintro e w' ⟨rfl, rfl⟩)
        | (at_builtin; refine wpList_append_row _ rfl (.tmp 13) (.tmp 16) 37 rfl w.heap.size 42 i0 _ 2 40 Tryd.underlying37 hi hz0 hz1 hz2 rfl (by decide) (.slice none 0 0) 0 [] rfl (World.ownsRow_nil _ _ _ _) _ k _ rfl Hr1.out hone1 m1 m2 (Nat.le_refl _) ?_; intro v1 w1 hown1 hg1 hat1; have hb1 : Below w.heap.size w w1 := (Below.refl _ w).grown hg1 (Nat.le_refl _) (fun j hj => by cases hj); have hsz1 := hb1.size; have Hu1 := Lib.hid (Hu.out.up hb1); simp only [Nat.zero_add, List.nil_append] at hown1)
        | (at_builtin; refine wpList_append_row _ rfl (.tmp 21) (.tmp 22) 23 rfl w1.heap.size 9 j0 _ 1 16 Tryd.underlying23 hj hy0 hy1 hy2 rfl (by decide) (.slice none 0 0) 0 [] rfl (World.ownsRow_nil _ _ _ _) (.slice A2 vs.length c2) vs.length _ rfl (Strs.up Hu1.out ((Below.refl _ w1).alloc (Nat.le_refl _) _)) hone3 m3 m4 (by simp) ?_; intro v2 w2 hown2 hg2 hat2; simp only [Nat.zero_add, List.nil_append] at hown2; obtain ⟨A3, c3, rfl, q0, q1, q2, q3, q4, H42, H9, hb2⟩ := with_mid hg2 hown2 hb1 hown1)
        | (at_builtin; refine wpList_append_own_at _ rfl (.tmp 25) (.tmp 27) 37 rfl w.heap.size 42 i0 _ 2 40 Tryd.underlying37 hi hz0 hz1 hz2 rfl (by decide) v1 k _ rfl (H42.alloc _) ⟨w2.heap.size, 0, none⟩ 1 1 [encStr key, .slice A3 vs.length c3] rfl rfl (World.news_of_block (cs := #[encStr key, .slice A3 vs.length c3]) (t := 42) (fr := (0, 0)) (heap_set_new w2 _ _ _)) (by simp [Value.oneCell']) m5 m6 (by simp; omega) ?_; intro v3 w3 hown3 hg3 hnil3 hat3; have hb3 : Below w.heap.size w w3 := (hb2.alloc (by simp; omega) _).grown hg3 (by simp; omega) (fun j hj => (H42.lt j hj).1); have hsz3 := hb3.size)
        | (at_builtin; refine wpList_append_row _ rfl (.tmp 44) (.tmp 47) 37 rfl w.heap.size 42 i0 _ 2 40 Tryd.underlying37 hi hz0 hz1 hz2 rfl (by decide) v3 (k + 1) _ rfl hown3 _ 0 [] rfl Row.nil (fun u hu => by simp at hu) m5 m6 hsz3 ?_; intro v4 w4 hown4 hg4 hat4))
      go_ret
      exact with_end Hin.out Hwith H42 H9 hg3 hown3 hb3 hg4 (by rw [Hdrop.out]; exact hown4)
    · go_enter Tryd.func33, Tryd.ntmps33
      go_wp2_with (first
        | (go_at_call 49; refine (Hpl.out).mono ?_; rintro e w' ⟨rfl, rfl⟩)
        | (at_builtin; refine wpList_append_row _ rfl (.tmp 13) (.tmp 16) 37 rfl w.heap.size 42 i0 _ 2 40 Tryd.underlying37 hi hz0 hz1 hz2 rfl (by decide) (.slice none 0 0) 0 [] rfl (World.ownsRow_nil _ _ _ _) _ k _ rfl Hr1.out hone1 m1 m2 (Nat.le_refl _) ?_; intro v1 w1 hown1 hg1 hat1; have hb1 : Below w.heap.size w w1 := (Below.refl _ w).grown hg1 (Nat.le_refl _) (fun j hj => by cases hj); have hsz1 := hb1.size; have Hu1 := Lib.hid (Hu.out.up hb1); simp only [Nat.zero_add, List.nil_append] at hown1)
        | (at_builtin; refine wpList_append_row _ rfl (.tmp 21) (.tmp 22) 23 rfl w1.heap.size 9 j0 _ 1 16 Tryd.underlying23 hj hy0 hy1 hy2 rfl (by decide) (.slice none 0 0) 0 [] rfl (World.ownsRow_nil _ _ _ _) (.slice A2 vs.length c2) vs.length _ rfl (Strs.up Hu1.out ((Below.refl _ w1).alloc (Nat.le_refl _) _)) hone3 m3 m4 (by simp) ?_; intro v2 w2 hown2 hg2 hat2; simp only [Nat.zero_add, List.nil_append] at hown2; obtain ⟨A3, c3, rfl, q0, q1, q2, q3, q4, H42, H9, hb2⟩ := with_mid hg2 hown2 hb1 hown1)
        | (at_builtin; refine wpList_append_own_at _ rfl (.tmp 25) (.tmp 27) 37 rfl w.heap.size 42 i0 _ 2 40 Tryd.underlying37 hi hz0 hz1 hz2 rfl (by decide) v1 k _ rfl (H42.alloc _) ⟨w2.heap.size, 0, none⟩ 1 1 [encStr key, .slice A3 vs.length c3] rfl rfl (World.news_of_block (cs := #[encStr key, .slice A3 vs.length c3]) (t := 42) (fr := (0, 0)) (heap_set_new w2 _ _ _)) (by simp [Value.oneCell']) m5 m6 (by simp; omega) ?_; intro v3 w3 hown3 hg3 hnil3 hat3; have hb3 : Below w.heap.size w w3 := (hb2.alloc (by simp; omega) _).grown hg3 (by simp; omega) (fun j hj => (H42.lt j hj).1); have hsz3 := hb3.size)
        | (at_builtin; refine wpList_append_row _ rfl (.tmp 44) (.tmp 47) 37 rfl w.heap.size 42 i0 _ 2 40 Tryd.underlying37 hi hz0 hz1 hz2 rfl (by decide) v3 (k + 1) _ rfl hown3 _ (us.length - (k)) _ rfl (Hrow.out w3 _ _) (hone2 (k)) m7 m8 hsz3 ?_; intro v4 w4 hown4 hg4 hat4))
      go_ret
      exact with_end Hin.out Hwith H42 H9 hg3 hown3 hb3 hg4 hown4

end Go.Proofs.YtjgjiaflccdflaaDoor
