/-
  The walk of laws.FnEncodeMerged. Conditions: the package's table; the sizes that the bulk's bound gives.
-/
import Derived.Test.YtjgjiaflccdflaaDoorWakes
import Derived.Test.YtjgjiaflccdflaaDoorPlainC
import Derived.Laws.Concat
namespace Go.Proofs.YtjgjiaflccdflaaDoor
open Go.RowKit Go.Maps

/-- two values own no block together -/
def Far (u v : Value) : Prop := ∀ k, u.ownBlock = some k → v.ownBlock ≠ some k

theorem Far.symm {u v : Value} (h : Far u v) : Far v u := fun k hv hu => h k hu hv
theorem Far.kept {u v : Value} (h : Far u v) : u.ownBlock = none ∨ u.ownBlock ≠ v.ownBlock := by
  cases hu : u.ownBlock with
  | none => exact .inl rfl
  | some k => exact .inr fun e => h k hu e.symm
theorem Far.nil (v : Value) : Far (.slice none 0 0) v := fun k h => by cases h
theorem Far.next {u v v' : Value} {n : Nat} (h : Far u v) (hlt : ∀ k, u.ownBlock = some k → k < n) (hloc : v'.ownBlock = v.ownBlock ∨ v'.ownBlock = some n) : Far u v' := fun k hu e => by
  rcases hloc with h1 | h1
  · exact h k hu (h1 ▸ e)
  · rw [h1] at e
    injection e with e
    have := hlt k hu
    omega

theorem low_snoc {α : Type} (l : List (Bs × α)) (p : Bs × α) (key : Bs) : lowE (l ++ [p]) key = if p.1 < key then lowE l key ++ [p] else lowE l key := by
  unfold lowE; rw [List.filter_append]; by_cases h : p.1 < key <;> simp [h]
theorem high_snoc {α : Type} (l : List (Bs × α)) (p : Bs × α) (key : Bs) : highE (l ++ [p]) key = if p.1 < key then highE l key else highE l key ++ [p] := by
  unfold highE; rw [List.filter_append]; by_cases h : p.1 < key <;> simp [h]

theorem inner_filter {w : World} (p : Bs → Bool) : ∀ {us : List (Bs × Value)} {es : List Ent}, Inner w us es → Inner w (us.filter fun e => p e.1) (es.filter fun e => p e.1)
  | [], [], _ => trivial
  | u :: us, e :: es, h => by
    have ih := inner_filter p h.2
    rw [List.filter_cons, List.filter_cons, ← h.1.1]
    split
    · exact ⟨h.1, ih⟩
    · exact ih
  | [], _ :: _, h => h.elim
  | _ :: _, [], h => h.elim

/-- three rows of the call's own; one is appended to: the other two stand -/
theorem step_al {w wr w2 : World} {o : Obj} {al lo hi v2 : Value} {n1 n2 n3 : Nat} {x1 x2 x3 : List Value} (hal : wr.ownsRow w.heap.size 25 2 al n1 x1) (hlo : wr.ownsRow w.heap.size 25 2 lo n2 x2) (hhi : wr.ownsRow w.heap.size 25 2 hi n3 x3) (f1 : Far al lo) (f2 : Far al hi)
    (hnx : Below w.heap.size w wr) (hg : (wr.alloc o).grownBy w2 al.ownBlock) (hloc : v2.ownBlock = al.ownBlock ∨ v2.ownBlock = some (wr.alloc o).heap.size) :
    w2.ownsRow w.heap.size 25 2 lo n2 x2 ∧ w2.ownsRow w.heap.size 25 2 hi n3 x3 ∧ Far v2 lo ∧ Far v2 hi ∧ Below w.heap.size w w2 := by
  have hall : wr.grownBy w2 al.ownBlock := (World.grownBy_alloc wr _ _).trans hg
  refine ⟨hlo.kept hall f1.symm.kept, hhi.kept hall f2.symm.kept, ?_, ?_, ?_⟩
  · exact (f1.symm.next (n := (wr.alloc o).heap.size) (fun k hk => by have := (hlo.lt k hk).2; simp; omega) hloc).symm
  · exact (f2.symm.next (n := (wr.alloc o).heap.size) (fun k hk => by have := (hhi.lt k hk).2; simp; omega) hloc).symm
  · exact hnx.grown hall hnx.size (fun j hj => (hal.lt j hj).1)

/-- 's + t' at the operation -/
theorem wpList_concat (w : World) {ops : Array Oper} {rest : List Oper} {o : Oper} {a : Act} {Q : Exit → Act → World → Prop} (hgd : o.guard = none) (x y : Operand) (ho : o.op = Op.binOp .add 9 x y 9) (s t : Bs) (hx : a.eval x = encStr s) (hy : a.eval y = encStr t)
    (hl : s.length + t.length ≤ 9223372036854775807) (h : wpList Tryd.prog ops Q rest (a.put o.dst (encStr (s ++ t))) w) : wpList Tryd.prog ops Q (o :: rest) a w := by
  have hs1 : (⟨s.toArray⟩ : ByteArray).size = s.length := by show s.toArray.size = _; simp
  have hs2 : (⟨t.toArray⟩ : ByteArray).size = t.length := by show t.toArray.size = _; simp
  have happ : (⟨s.toArray⟩ : ByteArray) ++ ⟨t.toArray⟩ = ⟨(s ++ t).toArray⟩ := by
    exact ByteArray.mk_append_mk s t
  refine wpList_plain hgd fun K hK => ?_
  unfold Oper.wp
  simp only [execOp, ho, hx, hy]
  have hrun : (binOp .add 9 (encStr s) (encStr t)).run Tryd.prog w = .ok (encStr (s ++ t)) w := by
    show (binOp .add 9 (.string ⟨s.toArray⟩) (.string ⟨t.toArray⟩)).run Tryd.prog w = _
    rw [binOp_string_add, run_string_add_sum w _ _ (by rw [hs1, hs2]; exact hl), happ]
  have hgu : (eqGuard .add 9 x y (encStr s) (encStr t)).run Tryd.prog w = .ok () w := by simp [eqGuard]
  simp only [Sem.run_bind, hgu, hrun, Result.andThen]
  simp
  exact hK _ _ h

set_option maxRecDepth 100000 in
set_option maxHeartbeats 2000000 in
theorem merged_walk (v : Value) (es : List Ent) (key : Bs) (w : World) (h : Ents w v es) (ht : Tab w) {A B : Nat} (hA : Ok A B es) (_hkl : key.length ≤ 1048576) (hs : A ≤ 1048576) (hB : B ≤ 1048576) :
    Calls Tryd.prog 3 #[v, encStr key] w fun e w' => e = .returned (.bool true) ∧ Below w.heap.size w w' := by
  obtain ⟨i0, hi, hz0, hz1, hz2⟩ := info_parts Tryd.info25
  have hel := hA.len
  obtain ⟨us, hin, _, A0, c0, rfl, hnc, hx⟩ := h
  have hul : us.length ≤ 1048576 := by rw [hin.len]; omega
  have Hone := Lib.hid hin.slice
  have Hin := Lib.hid hin
  have Hx := Lib.hid hx
  clear hin hx
  go_enter Tryd.func3, Tryd.ntmps3
  go_wp2
  go_loopw [5, 6, 7, 8] (fun lo hi al i wr => ∃ k : Nat, k ≤ us.length ∧ i = .int .i64 k ∧ wr.ownsRow w.heap.size 25 2 al (us.take k).length ((us.take k).flatMap entCells) ∧ wr.ownsRow w.heap.size 25 2 lo (lowE (us.take k) key).length ((lowE (us.take k) key).flatMap entCells) ∧
      wr.ownsRow w.heap.size 25 2 hi (highE (us.take k) key).length ((highE (us.take k) key).flatMap entCells) ∧ Far al lo ∧ Far al hi ∧ Far lo hi ∧ Below w.heap.size w wr)
    (fun _ _ _ i _ => us.length - (intOf i).toNat)
  case atStart => exact ⟨0, Nat.zero_le _, rfl, World.ownsRow_nil _ _ _ _, World.ownsRow_nil _ _ _ _, World.ownsRow_nil _ _ _ _, Far.nil _, Far.nil _, Far.nil _, Below.refl _ _⟩
  case round =>
    obtain ⟨k, hk, rfl, hal, hlo, hhi, f1, f2, f3, hnx⟩ := hrel
    by_cases hlt : k < us.length
    · obtain ⟨b, off, rfl, hbl, hcell⟩ := Hx.out (by omega)
      obtain ⟨kk, a2, n2, c2, hp⟩ : ∃ kk a2 n2 c2, us[k]? = some (kk, .slice a2 n2 c2) := by
        obtain ⟨a2, n2, c2, h2⟩ := Hone.out us[k] (List.getElem_mem _)
        exact ⟨us[k].1, a2, n2, c2, by rw [List.getElem?_eq_getElem hlt, ← h2]⟩
      obtain ⟨hd0, hd1⟩ := ent_at hcell hp
      have Hd0 := Lib.hid hd0
      have Hd1 := Lib.hid hd1
      have hc0 := (hnx.cell (p := ⟨b, off + k * 2, none⟩) hbl).trans hd0
      have hc1 := (hnx.cell (p := ⟨b, off + k * 2 + 1, none⟩) hbl).trans hd1
      have Htk : Hid (us.take (k + 1) = us.take k ++ [(kk, .slice a2 n2 c2)]) := by
        rw [List.getElem?_eq_getElem hlt, Option.some.injEq] at hp
        show us.take (k + 1) = _
        rw [List.take_succ_eq_append_getElem hlt, hp]
      have l1 : (us.take k).length ≤ k := List.length_take_le _ _
      have l2 : (lowE (us.take k) key).length ≤ k := Nat.le_trans (List.length_filter_le _ _) l1
      have l3 : (highE (us.take k) key).length ≤ k := Nat.le_trans (List.length_filter_le _ _) l1
      have Hlow := Lib.hid (low_snoc (us.take k) (kk, .slice a2 n2 c2) key)
      have Hhigh := Lib.hid (high_snoc (us.take k) (kk, .slice a2 n2 c2) key)
      rw [← Htk.out] at Hlow Hhigh
      generalize hL1 : us.take k = L1 at *
      generalize hL2 : lowE L1 key = L2 at *
      generalize hL3 : highE L1 key = L3 at *
      clear hcell hp hd0 hd1 hL1 hL2 hL3
      have m1 : L1.length + 1 ≤ maxLen := by simp only [maxLen]; omega
      have m2 : (L1.length + 1) * 40 ≤ 140737488355328 := by omega
      have m3 : L2.length + 1 ≤ maxLen := by simp only [maxLen]; omega
      have m4 : (L2.length + 1) * 40 ≤ 140737488355328 := by omega
      have m5 : L3.length + 1 ≤ maxLen := by simp only [maxLen]; omega
      have m6 : (L3.length + 1) * 40 ≤ 140737488355328 := by omega
      have hm3 := hnx.size
      by_cases hkk : kk < key
      · have hb : Op.bytesLess kk key = true := by rw [bytesLess_eq]; exact decide_eq_true hkk
        have Hlow2 : Hid (lowE (us.take (k + 1)) key = L2 ++ [(kk, .slice a2 n2 c2)]) := by have := Hlow.out; simp only [if_pos hkk] at this; exact this
        have Hhigh2 : Hid (highE (us.take (k + 1)) key = L3) := by have := Hhigh.out; simp only [if_pos hkk] at this; exact this
        clear hkk Hlow Hhigh
        go_wp2_with (first
          | (at_builtin; refine wpList_append_own_at _ rfl (.tmp 18) _ 22 rfl w.heap.size 25 i0 _ 2 40 Tryd.underlying22 hi hz0 hz1 hz2 rfl (by decide) _ _ _ rfl (hal.alloc _) ⟨wr.heap.size, 0, none⟩ 1 1 [encStr kk, .slice a2 n2 c2] rfl rfl (World.news_of_block (cs := #[encStr kk, .slice a2 n2 c2]) (t := 25) (fr := (0, 0)) (heap_alloc_new wr _)) (by simp [Value.oneCell']) m1 m2 (by simp; omega) ?_; intro v2 w2 hal2 hgr2 hnil2 hloc2; obtain ⟨hlo2, hhi2, f12, f22, hb2⟩ := step_al hal hlo hhi f1 f2 hnx hgr2 hloc2; have hsz2 := hb2.size; have hc02 := (hb2.cell (p := ⟨b, off + k * 2, none⟩) hbl).trans Hd0.out; have hc12 := (hb2.cell (p := ⟨b, off + k * 2 + 1, none⟩) hbl).trans Hd1.out; have Hal2 := Lib.hid hal2; have Hhi2 := Lib.hid hhi2; have Hlo2 := Lib.hid hlo2; clear hal2 hhi2 hlo2)
          | (at_builtin; refine wpList_append_own_at _ rfl (.tmp 32) _ 22 rfl w.heap.size 25 i0 _ 2 40 Tryd.underlying22 hi hz0 hz1 hz2 rfl (by decide) _ _ _ rfl (Hlo2.out.alloc _) ⟨w2.heap.size, 0, none⟩ 1 1 [encStr kk, .slice a2 n2 c2] rfl rfl (World.news_of_block (cs := #[encStr kk, .slice a2 n2 c2]) (t := 25) (fr := (0, 0)) (heap_alloc_new w2 _)) (by simp [Value.oneCell']) m3 m4 (by simp; omega) ?_; intro v3 w3 hown3 hgr3 hnil3 hloc3))
        obtain ⟨hal3, hhi3, f13, f33, hb3⟩ := step_al Hlo2.out Hal2.out Hhi2.out f12.symm f3 hb2 hgr3 hloc3
        go_roundw
        case rel =>
          refine ⟨k + 1, by omega, by go_num, ?_, ?_, ?_, f13.symm, f22, f33, hb3⟩
          · rw [Htk.out, List.flatMap_append, List.length_append]; exact hal3
          · rw [Hlow2.out, List.flatMap_append, List.length_append]; exact hown3
          · rw [Hhigh2.out]; exact hhi3
        case measure => simp [intOf]; omega
      · have hb : Op.bytesLess kk key = false := by rw [bytesLess_eq]; exact decide_eq_false hkk
        have Hlow2 : Hid (lowE (us.take (k + 1)) key = L2) := by have := Hlow.out; simp only [if_neg hkk] at this; exact this
        have Hhigh2 : Hid (highE (us.take (k + 1)) key = L3 ++ [(kk, .slice a2 n2 c2)]) := by have := Hhigh.out; simp only [if_neg hkk] at this; exact this
        clear hkk Hlow Hhigh
        go_wp2_with (first
          | (at_builtin; refine wpList_append_own_at _ rfl (.tmp 18) _ 22 rfl w.heap.size 25 i0 _ 2 40 Tryd.underlying22 hi hz0 hz1 hz2 rfl (by decide) _ _ _ rfl (hal.alloc _) ⟨wr.heap.size, 0, none⟩ 1 1 [encStr kk, .slice a2 n2 c2] rfl rfl (World.news_of_block (cs := #[encStr kk, .slice a2 n2 c2]) (t := 25) (fr := (0, 0)) (heap_alloc_new wr _)) (by simp [Value.oneCell']) m1 m2 (by simp; omega) ?_; intro v2 w2 hal2 hgr2 hnil2 hloc2; obtain ⟨hlo2, hhi2, f12, f22, hb2⟩ := step_al hal hlo hhi f1 f2 hnx hgr2 hloc2; have hsz2 := hb2.size; have hc02 := (hb2.cell (p := ⟨b, off + k * 2, none⟩) hbl).trans Hd0.out; have hc12 := (hb2.cell (p := ⟨b, off + k * 2 + 1, none⟩) hbl).trans Hd1.out; have Hal2 := Lib.hid hal2; have Hhi2 := Lib.hid hhi2; have Hlo2 := Lib.hid hlo2; clear hal2 hhi2 hlo2)
          | (at_builtin; refine wpList_append_own_at _ rfl (.tmp 39) _ 22 rfl w.heap.size 25 i0 _ 2 40 Tryd.underlying22 hi hz0 hz1 hz2 rfl (by decide) _ _ _ rfl (Hhi2.out.alloc _) ⟨w2.heap.size, 0, none⟩ 1 1 [encStr kk, .slice a2 n2 c2] rfl rfl (World.news_of_block (cs := #[encStr kk, .slice a2 n2 c2]) (t := 25) (fr := (0, 0)) (heap_alloc_new w2 _)) (by simp [Value.oneCell']) m5 m6 (by simp; omega) ?_; intro v3 w3 hown3 hgr3 hnil3 hloc3))
        obtain ⟨hal3, hlo3, f13, f33, hb3⟩ := step_al Hhi2.out Hal2.out Hlo2.out f22.symm f3.symm hb2 hgr3 hloc3
        go_roundw
        case rel =>
          refine ⟨k + 1, by omega, by go_num, ?_, ?_, ?_, f12, f13.symm, f33.symm, hb3⟩
          · rw [Htk.out, List.flatMap_append, List.length_append]; exact hal3
          · rw [Hlow2.out]; exact hlo3
          · rw [Hhigh2.out, List.flatMap_append, List.length_append]; exact hown3
        case measure => simp [intOf]; omega
    · obtain rfl : k = us.length := by omega
      rw [List.take_length] at hal hlo hhi
      have hInr := Hin.out.up hnx
      have eal : Ents wr u7 es := ⟨us, hInr, Row.of_own hal⟩
      have elo : Ents wr u5 (lowE es key) := ⟨lowE us key, inner_filter (fun k => decide (k < key)) hInr, Row.of_own hlo⟩
      have ehi : Ents wr u6 (highE es key) := ⟨highE us key, inner_filter (fun k => !decide (k < key)) hInr, Row.of_own hhi⟩
      clear hal hlo hhi
      have hAl : Ok A B (lowE es key) := hA.sub List.filter_sublist
      have hAh : Ok A B (highE es key) := hA.sub List.filter_sublist
      have hK0 : OkS 0 B [] := OkS.nil _ _
      have Hmer := Lib.hid (encE_merged es key)
      go_wp2_with fail
      refine (encode_ok _ _ _ [] wr elo (stps_nil _) (ht.up hnx) hAl hK0 (by omega) (by omega)).mono ?_
      rintro e w1 ⟨rfl, hb1⟩
      have hb01 : Below w.heap.size w w1 := hnx.trans (hb1.mono hnx.size)
      go_wp2_with fail
      refine (encode_ok _ _ _ [] w1 (ehi.up hb1) (stps_nil _) (ht.up hb01) hAh hK0 (by omega) (by omega)).mono ?_
      rintro e w2 ⟨rfl, hb2⟩
      have hb02 : Below w.heap.size w w2 := hb01.trans (hb2.mono hb01.size)
      have eal2 := (eal.up hb1).up hb2
      have Hc := Lib.hid (encode_ok _ _ _ [] w2 eal2 (stps_nil _) (ht.up hb02) hA hK0 (by omega) (by omega))
      rw [Hmer.out] at Hc
      have hla := (hAl.run hK0).text (by omega) (by omega)
      have hlb := (hAh.run hK0).text (by omega) (by omega)
      generalize encE (runE (lowE es key) []) = a at *
      generalize encE (runE (highE es key) []) = b at *
      clear Hmer elo ehi eal eal2
      have hcat : ((⟨a.toArray⟩ : ByteArray) ++ ⟨b.toArray⟩).toList = a ++ b := by rw [ByteArray.mk_append_mk, ByteArray.toList_mk]
      by_cases hab : a ≠ [] ∧ b ≠ []
      · rw [if_pos hab] at Hc
        have n1 : (a == []) = false := by simpa using hab.1
        have n2 : (b == []) = false := by simpa using hab.2
        clear hab hcat
        go_wp2_with fail
        refine Hc.out.mono ?_
        rintro e w3 ⟨rfl, hb3⟩
        have hb03 : Below w.heap.size w w3 := hb02.trans (hb3.mono hb02.size)
        go_wp2_with (first | (refine wpList_concat _ rfl (.tmp 58) (.tmp 59) rfl a [38] rfl rfl (by simp; omega) ?_) | (refine wpList_concat _ rfl (.tmp 60) (.tmp 61) rfl (a ++ [38]) b rfl rfl (by simp; omega) ?_))
        refine (wakes_ok _ (ht.up hb03)).mono ?_
        rintro e w4 ⟨rfl, hb4⟩
        go_wp2_with fail
        go_ret
        exact ⟨rfl, hb03.trans (hb4.mono hb03.size)⟩
      · rw [if_neg hab] at Hc
        by_cases ha : a = []
        · have n1 : (a == []) = true := by simpa using ha
          clear hab ha
          go_wp2_with fail
          refine Hc.out.mono ?_
          rintro e w3 ⟨rfl, hb3⟩
          have hb03 : Below w.heap.size w w3 := hb02.trans (hb3.mono hb02.size)
          go_wp2_with (first | (refine wpList_concat _ rfl (.tmp 58) (.tmp 59) rfl a [] rfl rfl (by simp; omega) ?_) | (refine wpList_concat _ rfl (.tmp 60) (.tmp 61) rfl (a ++ []) b rfl rfl (by simp; omega) ?_))
          refine (wakes_ok _ (ht.up hb03)).mono ?_
          rintro e w4 ⟨rfl, hb4⟩
          go_wp2_with fail
          go_ret
          exact ⟨rfl, hb03.trans (hb4.mono hb03.size)⟩
        · have n1 : (a == []) = false := by simpa using ha
          have n2 : (b == []) = true := by
            by_cases hb : b = []
            · simpa using hb
            · exact absurd ⟨ha, hb⟩ hab
          clear hab ha
          go_wp2_with fail
          refine Hc.out.mono ?_
          rintro e w3 ⟨rfl, hb3⟩
          have hb03 : Below w.heap.size w w3 := hb02.trans (hb3.mono hb02.size)
          go_wp2_with (first | (refine wpList_concat _ rfl (.tmp 58) (.tmp 59) rfl a [] rfl rfl (by simp; omega) ?_) | (refine wpList_concat _ rfl (.tmp 60) (.tmp 61) rfl (a ++ []) b rfl rfl (by simp; omega) ?_))
          refine (wakes_ok _ (ht.up hb03)).mono ?_
          rintro e w4 ⟨rfl, hb4⟩
          go_wp2_with fail
          go_ret
          exact ⟨rfl, hb03.trans (hb4.mono hb03.size)⟩

end Go.Proofs.YtjgjiaflccdflaaDoor
