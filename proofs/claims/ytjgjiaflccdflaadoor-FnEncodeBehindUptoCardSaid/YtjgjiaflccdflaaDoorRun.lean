/-
  The walk of impl.Run: the keys behind a script, in order, each with its values. Conditions: at most 2^32 entries, values a key, steps.
-/
import Derived.Test.YtjgjiaflccdflaaDoorMake
import Derived.Deep.AppendLies
namespace Go.Proofs.YtjgjiaflccdflaaDoor
open Go.RowKit Go.Maps

theorem Tryd.info25 : (Tryd.prog.info? 25).map (fun i => (i.zero, i.size, i.bytes)) = some (some (.agg #[.string ⟨#[]⟩, .slice none 0 0]), 2, 40) := by kernel_rfl

theorem own_form {w : World} {base : Nat} {e : TypeId} {sz n : Nat} {v : Value} {xs : List Value} (h : w.ownsRow base e sz v n xs) : ∃ A c, v = .slice A n c ∧ n ≤ c := by
  rcases h.2 with ⟨rfl, rfl⟩ | ⟨g, cap, cur, rfl, _, _, hn, _⟩
  · exact ⟨_, _, rfl, Nat.le_refl _⟩
  · exact ⟨_, _, rfl, hn⟩

theorem own_apart {w : World} {b1 b2 : Nat} {e1 e2 : TypeId} {s1 s2 n1 n2 : Nat} {v1 v2 : Value} {xs1 xs2 : List Value} (h1 : w.ownsRow b1 e1 s1 v1 n1 xs1) (h2 : w.ownsRow b2 e2 s2 v2 n2 xs2) (hne : e1 ≠ e2) : v1.ownBlock = none ∨ v1.ownBlock ≠ v2.ownBlock := by
  rcases h1.2 with ⟨rfl, _⟩ | ⟨g, cap, cur, rfl, _, hg, _⟩
  · exact .inl rfl
  · refine .inr fun e => ?_
    rcases h2.2 with ⟨rfl, _⟩ | ⟨g', cap', cur', rfl, _, hg', _⟩
    · cases e
    · simp only [Value.ownBlock, Option.some.injEq] at e
      subst e
      rw [hg] at hg'
      injection hg' with hg'
      injection hg' with _ ht
      exact hne ht

theorem own_cells {w : World} {base : Nat} {e : TypeId} {sz n : Nat} {v : Value} {xs : List Value} (h : w.ownsRow base e sz v n xs) {k : Nat} (hk : v.ownBlock = some k) : ∃ cs fr, w.heap[k]? = some (.cells cs e fr) := by
  rcases h.2 with ⟨rfl, _⟩ | ⟨g, cap, cur, rfl, _, hg, _⟩
  · cases hk
  · simp only [Value.ownBlock, Option.some.injEq] at hk
    subst hk
    exact ⟨_, _, hg⟩

theorem clone_ok2 (v : Value) (ss : List Bs) (w : World) (h : Strs w v ss) (hn : ss.length ≤ 4294967296) :
    Calls Tryd.prog 46 #[v] w fun e w' => ∃ A c, e = .returned (.slice A ss.length c) ∧ w'.ownsRow w.heap.size 9 1 (.slice A ss.length c) ss.length (ss.map encStr) ∧ Below w.heap.size w w' :=
  (clone_ok v ss w h hn).mono fun e w' ⟨v', he, hr, hb⟩ => by
    obtain ⟨A, c, rfl, _⟩ := own_form hr
    exact ⟨A, c, he, hr, hb⟩

theorem sorted_keys {l ss : List Bs} (hs : l.Pairwise (· < ·)) (hp : ss.Perm l) : ss.mergeSort (fun x y => decide (x ≤ y)) = l := by
  rw [mergeSort_of_perm hp]
  refine List.mergeSort_of_pairwise ?_
  refine hs.imp fun {a b} h => ?_
  simpa using List.le_of_lt h

theorem oneE_keys {m : List Ent} {s : Stp} : ∀ q ∈ oneE m s, q.1 = s.key ∨ ∃ p ∈ m, p.1 = q.1 := by
  intro q hq
  have hw : ∀ vs, q ∈ withE m s.key vs → q.1 = s.key ∨ ∃ p ∈ m, p.1 = q.1 := fun vs h => by
    rcases withE_keys m s.key vs q h with h | h
    · exact .inl h
    · exact .inr ⟨q, h, rfl⟩
  unfold oneE at hq
  split at hq
  · exact hw _ hq
  · split at hq
    · exact hw _ hq
    · split at hq
      · exact .inr ⟨q, (List.mem_filter.1 hq).1, rfl⟩
      · exact .inr ⟨q, hq, rfl⟩
theorem playE_keys (ss : List Stp) : ∀ {m : List Ent}, ∀ q ∈ playE m ss, (∃ s ∈ ss, s.key = q.1) ∨ ∃ p ∈ m, p.1 = q.1 := by
  induction ss with
  | nil => intro m q hq; exact .inr ⟨q, hq, rfl⟩
  | cons s r ih =>
    intro m q hq
    rcases ih q hq with ⟨t, h1, h2⟩ | ⟨p, h1, h2⟩
    · exact .inl ⟨t, by simp [h1], h2⟩
    · rcases oneE_keys p h1 with h3 | ⟨p', h3, h4⟩
      · exact .inl ⟨s, by simp, by rw [← h3, h2]⟩
      · exact .inr ⟨p', h3, by rw [h4, h2]⟩

theorem tidyE_mem {α : Type} {l : List (Bs × α)} : ∀ q ∈ tidyE l, q ∈ l := by
  have hw : ∀ (m : List (Bs × α)) (k : Bs) (v : α) (q : Bs × α), q ∈ withE m k v → q = (k, v) ∨ q ∈ m := by
    intro m k v q
    induction m with
    | nil => intro h; simp [withE] at h; exact .inl h
    | cons e r ih =>
      intro h
      unfold withE at h
      split at h
      · rcases List.mem_cons.1 h with rfl | h
        · exact .inr (by simp)
        · rcases ih h with h | h
          · exact .inl h
          · exact .inr (by simp [h])
      · split at h
        · rcases List.mem_cons.1 h with rfl | h
          · exact .inl rfl
          · exact .inr (by simp [h])
        · rcases List.mem_cons.1 h with rfl | h
          · exact .inl rfl
          · exact .inr h
  have : ∀ (r m : List (Bs × α)) (q : Bs × α), q ∈ r.foldl (fun m e => withE m e.1 e.2) m → q ∈ m ∨ q ∈ r := by
    intro r
    induction r with
    | nil => intro m q h; exact .inl h
    | cons e r ih =>
      intro m q h
      rcases ih _ q h with h | h
      · rcases hw m e.1 e.2 q h with rfl | h
        · exact .inr (by simp)
        · exact .inl h
      · exact .inr (by simp [h])
  intro q hq
  rcases this l [] q hq with h | h
  · simp at h
  · exact h

theorem ofE_of_mem {α : Type} : ∀ {l : List (Bs × α)}, Srt l → ∀ {q : Bs × α}, q ∈ l → ofE l q.1 = some q.2
  | [], _, _, hq => by simp at hq
  | e :: r, h, q, hq => by
    obtain ⟨h1, h2⟩ := List.pairwise_cons.1 h
    unfold ofE
    rcases List.mem_cons.1 hq with he | hq'
    · rw [he, if_neg (bs_irrefl _), if_pos rfl]
    · rw [if_pos (h1 q hq')]
      exact ofE_of_mem h2 hq'

theorem OwnIn.append {w : World} {base : Nat} : ∀ {us us' : List (Bs × Value)} {es es' : List Ent}, OwnIn w base us es → OwnIn w base us' es' → OwnIn w base (us ++ us') (es ++ es')
  | [], _, [], _, _, h' => h'
  | _ :: _, _, _ :: _, _, h, h' => ⟨h.1, h.2.append h'⟩
  | [], _, _ :: _, _, h, _ => h.elim
  | _ :: _, _, [], _, h, _ => h.elim

theorem OwnIn.inner {w : World} {base : Nat} : ∀ {us : List (Bs × Value)} {es : List Ent}, OwnIn w base us es → Inner w us es
  | [], [], _ => trivial
  | _ :: _, _ :: _, h => ⟨⟨h.1.1, Row.of_own h.1.2⟩, h.2.inner⟩
  | [], _ :: _, h => h.elim
  | _ :: _, [], h => h.elim

set_option maxRecDepth 100000 in
set_option maxHeartbeats 1000000 in
theorem run_ok (v sv : Value) (es : List Ent) (ss : List Stp) (w : World) (h : Ents w v es) (hst : Stps w sv ss) (hn : es.length + ss.length ≤ 4294967296) (hk : ∀ q ∈ es, q.1.length ≤ maxLen) (hks : ∀ s ∈ ss, s.key.length ≤ maxLen)
    (N : Nat) (hv : ∀ q ∈ es, q.2.length ≤ N) (hN : N + ss.length ≤ 4294967296) :
    Calls Tryd.prog 21 #[v, sv] w fun e w' => ∃ v', e = .returned v' ∧ Ents w' v' (runE es ss) ∧ Below w.heap.size w w' := by
  obtain ⟨i0, hi, hz0, hz1, hz2⟩ := info_parts Tryd.info25
  have hm := runE_srt es ss
  have hml : (runE es ss).length ≤ 4294967296 := by
    have h1 := playE_length ss (tidyE es)
    have h2 := tidyE_length es
    show (playE (tidyE es) ss).length ≤ _
    omega
  have hmv : ∀ q ∈ runE es ss, q.2.length ≤ 4294967296 := fun q hq => by
    have := playE_vals ss (N := N) (fun q hq => hv q (tidyE_mem q hq)) q hq
    omega
  have hmk : ∀ q ∈ runE es ss, q.1.length ≤ maxLen := fun q hq => by
    rcases playE_keys ss q hq with ⟨s, h1, h2⟩ | ⟨p, h1, h2⟩
    · rw [← h2]; exact hks s h1
    · rw [← h2]; exact hk p (tidyE_mem p h1)
  go_enter Tryd.func21, Tryd.ntmps21
  go_wp2_with fail
  refine (valuesOf_ok v es w h (by omega) hk (fun q hq => by have := hv q hq; omega)).mono ?_
  rintro e w1 ⟨rfl, hv1, hb1⟩
  go_wp2_with fail
  refine (play_ok w w1 sv ss w.heap.size (tidyE es) hst hb1 hv1 (by have := tidyE_length es; omega) N (fun q hq => hv q (tidyE_mem q hq)) hN hks).mono ?_
  rintro e w2 ⟨rfl, hv2, hb2⟩
  have hb02 := hb1.trans hb2
  replace hv2 : Vals w2 w.heap.size w.heap.size (runE es ss) := hv2
  generalize hmeq : runE es ss = m at *
  have Hmeq := Lib.hid hmeq
  clear hmeq
  have Hv2 := Lib.hid hv2
  obtain ⟨l, hmap, _, hsl, hol, _⟩ := hv2
  have hkeys : l.map (·.1) = m.map (·.1) := hol.keys
  go_wp2_with fail
  refine (callsIn_wide.1 (Tryd.maps_Keys_45 (some w.heap.size) w2)).mono ?_
  rintro e w3 ⟨rfl, rfl⟩
  go_wp2_with fail
  have hll : l.length = m.length := hol.len
  refine (callsIn_wide.1 (Tryd.slices_Sorted_keys_44_45 w.heap.size l.length (rawD l) raw w2 hmap (by simp [Maps.size, maxLen]; omega) (by simp [Maps.size]; omega))).mono ?_
  rintro e w4 ⟨kv, ks, rfl, hperm, hrow, _, hb4⟩
  rw [rawD_keys, hkeys] at hperm
  have hkl : ks.length = m.length := by have := hperm.length_eq; simpa using this
  rw [sorted_keys (List.pairwise_map.2 hm) hperm, hkl] at hrow
  replace hrow : w4.ownsRow w.heap.size 9 1 kv m.length ((m.map (·.1)).map encStr) := own_base hrow (by have := hb02.size; simp; omega)
  have hb24 : Below w2.heap.size w2 w4 := ((Below.refl _ _).alloc (Nat.le_refl _) _).trans (hb4.mono (by simp))
  have hb04 : Below w.heap.size w w4 := hb02.trans (hb24.mono hb02.size)
  have hv4 : Vals w4 w.heap.size w.heap.size m := Hv2.out.up hb24
  obtain ⟨A4, c4, rfl, hc4⟩ := own_form hrow
  clear hkl hperm hll hkeys hmap hsl hol hb4 hb24 hb02 Hv2 hb2 hb1 hv1 hst hv hN hks hk h hn
  have Hm := Lib.hid hm
  clear hm
  go_wp2_with fail
  go_loopw [6, 18] (fun o i wr => ∃ k : Nat, k ≤ m.length ∧ i = .int .i64 k ∧ ∃ us, wr.ownsRow w.heap.size 25 2 o k (us.flatMap entCells) ∧ OwnIn wr w.heap.size us (m.take k) ∧ wr.ownsRow w.heap.size 9 1 (.slice A4 m.length c4) m.length ((m.map (·.1)).map encStr) ∧ Vals wr w.heap.size w.heap.size m ∧ Below w.heap.size w wr)
    (fun _ i _ => m.length - (intOf i).toNat)
  case atStart => exact ⟨0, Nat.zero_le _, rfl, [], World.ownsRow_nil _ _ _ _, trivial, hrow, hv4, hb04⟩
  case round =>
    obtain ⟨k, hk1, rfl, us, hout, hin, hkr, hvr, hnx⟩ := hrel
    by_cases hlt : k < m.length
    · obtain ⟨q, hq⟩ : ∃ q, m[k]? = some q := ⟨_, List.getElem?_eq_getElem hlt⟩
      obtain ⟨_, A5, c5, he5, _, hx⟩ := Row.of_own hkr
      obtain ⟨rfl, rfl⟩ : A4 = A5 ∧ c4 = c5 := by simpa using he5
      obtain ⟨bb, off, rfl, hbl, hcell⟩ := hx (by omega)
      have hc0 : wr.cell? ⟨bb, off + k, none⟩ = some (encStr q.1) := str_at hcell (by rw [List.getElem?_map, hq]; rfl)
      clear hcell hx he5
      obtain ⟨l, hmap, hbb, hsl, hol, hapt⟩ := hvr
      obtain ⟨u, hu, hrowu⟩ : ∃ u, (ofE l q.1).getD (.slice none 0 0) = u ∧ wr.ownsRow w.heap.size 9 1 u q.2.length (q.2.map encStr) := by
        have hof := ofE_of_mem Hm.out (List.mem_of_getElem? hq)
        rcases hol.of (key := q.1) with ⟨_, h2⟩ | ⟨u, vs, h1, h2, _, _, h5⟩
        · rw [hof] at h2; cases h2
        · rw [hof, Option.some.injEq] at h2
          subst h2
          exact ⟨u, by rw [h1]; rfl, h5⟩
      have hvr : Vals wr w.heap.size w.heap.size m := ⟨l, hmap, hbb, hsl, hol, hapt⟩
      have hvl : q.2.length ≤ 4294967296 := hmv q (List.mem_of_getElem? hq)
      have hkl : q.1.length ≤ maxLen := hmk q (List.mem_of_getElem? hq)
      have Hu := Lib.hid hu
      have Hq := Lib.hid hq
      have Hvr := Lib.hid hvr
      have Hol := Lib.hid hol
      have Hin := Lib.hid hin
      have Hstr := Lib.hid (show Strs wr u q.2 from Row.of_own hrowu)
      obtain ⟨key, vs⟩ := q
      clear hu hq hvr hol hin
      have hsz := hnx.size
      have hm1 : k + 1 ≤ maxLen := by simp only [maxLen]; omega
      have hm2 : (k + 1) * 40 ≤ 140737488355328 := by omega
      go_wp2_with (at_lookup; refine wpList_lookup_vals _ rfl _ _ rfl w.heap.size l.length l rfl hmap hsl key rfl hkl u Hu.out ?_)
      refine (clone_ok2 u vs wr Hstr.out hvl).mono ?_
      rintro e w1 ⟨A6, c6, rfl, hrow6, hb6⟩
      have hg6 : wr.grownBy w1 none := ⟨hb6.os, hb6.tape, hb6.output, hb6.size, fun i hi _ => hb6.block i hi⟩
      have hsz6 := hb6.size
      have hout6 := hout.kept hg6 (by cases u6.ownBlock <;> simp)
      go_wp2_with (at_builtin; refine wpList_append_own_at _ rfl _ _ 22 rfl w.heap.size 25 i0 _ 2 40 Tryd.underlying22 hi hz0 hz1 hz2 rfl (by decide) _ _ _ rfl (hout6.alloc _) ⟨w1.heap.size, 0, none⟩ 1 1 [encStr key, .slice A6 vs.length c6] rfl rfl (World.news_of_block (cs := #[encStr key, .slice A6 vs.length c6]) (t := 25) (fr := (0, 0)) (heap_alloc_new w1 _)) (by simp [Value.oneCell']) hm1 hm2 (by simp; omega) ?_; intro v' w2 hown' hgrow hnil hloc)
      go_roundw
      case rel =>
        have hall1 : w1.grownBy w2 u6.ownBlock := (World.grownBy_alloc w1 _ _).trans hgrow
        have hall : wr.grownBy w2 u6.ownBlock := (show wr.grownBy w1 u6.ownBlock from ⟨hg6.os, hg6.tape, hg6.output, hg6.size, fun i hi _ => hg6.block i hi (by simp)⟩).trans hall1
        refine ⟨k + 1, by omega, by go_num, us ++ [(key, .slice A6 vs.length c6)], ?_, ?_, hkr.kept hall (own_apart hkr hout (by decide)), Hvr.out.kept hall (fun j hj => ?_), ?_⟩
        · rw [List.flatMap_append]
          exact hown'
        · have hq := Hq.out
          rw [List.getElem?_eq_getElem hlt, Option.some.injEq] at hq
          rw [List.take_succ_eq_append_getElem hlt, hq]
          refine OwnIn.append (Hin.out.turn fun p _ n xs hr => hr.kept hall (own_apart hr hout (by decide))) ⟨⟨rfl, ?_⟩, trivial⟩
          exact own_base (hrow6.kept hall1 (own_apart hrow6 hout6 (by decide))) hsz
        · obtain ⟨cs, fr, h1⟩ := own_cells hout hj
          exact ⟨cs, 25, fr, h1, by decide⟩
        · exact hnx.grown hall hsz (fun j hj => (hout.lt j hj).1)
      case measure => simp [intOf]; omega
    · go_wp2
      go_ret
      obtain rfl : k = m.length := by omega
      rw [List.take_length] at hin
      refine ⟨_, rfl, ⟨us, by rw [Hmeq.out]; exact OwnIn.inner hin, ?_⟩, hnx⟩
      rw [hin.len]
      exact Row.of_own hout

end Go.Proofs.YtjgjiaflccdflaaDoor
