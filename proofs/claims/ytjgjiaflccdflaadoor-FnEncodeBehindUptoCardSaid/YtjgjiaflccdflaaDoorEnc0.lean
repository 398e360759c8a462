/-
  Small laws for url.Values.Encode: a text that grows part by part, a row of keys that is written, the builder's writers over texts, QueryEscape. Conditions: each at its law.
-/
import Derived.Test.YtjgjiaflccdflaaDoorEscA
import Derived.Test.YtjgjiaflccdflaaDoorRun
import Derived.Test.YtjgjiaflccdflaaDoorBld
import Derived.Sort.OwnSorted
import Derived.Sort.KeysCollected
import Derived.Maps.RangeWalk
namespace Go.Proofs.YtjgjiaflccdflaaDoor
open Go.RowKit Go.Maps

def encP (ps : List (Bs × Bs)) : Bs := joinE (ps.map partE)

theorem joinE_snoc : ∀ (l : List Bs) (x : Bs), l ≠ [] → joinE (l ++ [x]) = joinE l ++ 38 :: x
  | [], _, h => absurd rfl h
  | [_], _, _ => rfl
  | a :: b :: r, x, _ => by
    show a ++ 38 :: joinE (b :: r ++ [x]) = (a ++ 38 :: joinE (b :: r)) ++ 38 :: x
    rw [joinE_snoc (b :: r) x (by simp)]
    simp

theorem partE_ne (p : Bs × Bs) : partE p ≠ [] := by simp [partE]

theorem encP_nil : encP [] = [] := rfl

theorem encP_snoc (ps : List (Bs × Bs)) (p : Bs × Bs) (h : ps ≠ []) : encP (ps ++ [p]) = encP ps ++ 38 :: partE p := by
  unfold encP
  rw [List.map_append]
  exact joinE_snoc _ _ (by simpa using h)

theorem encP_one (p : Bs × Bs) : encP [p] = partE p := rfl

theorem encP_ne {ps : List (Bs × Bs)} (h : ps ≠ []) : encP ps ≠ [] := by
  obtain ⟨l, x, rfl⟩ : ∃ l x, ps = l ++ [x] := ⟨ps.dropLast, ps.getLast h, (List.dropLast_concat_getLast h).symm⟩
  by_cases hl : l = []
  · subst hl; exact partE_ne x
  · rw [encP_snoc l x hl]; simp

theorem encP_len (ps : List (Bs × Bs)) : ∀ qs, (encP ps).length ≤ (encP (ps ++ qs)).length := by
  intro qs
  induction qs generalizing ps with
  | nil => simp
  | cons q qs ih =>
    have h := ih (ps ++ [q])
    rw [List.append_assoc] at h
    refine Nat.le_trans ?_ h
    by_cases hl : ps = []
    · subst hl; exact Nat.zero_le _
    · rw [encP_snoc ps q hl, List.length_append]; omega

theorem pairs_append (a b : List Ent) : pairsE (a ++ b) = pairsE a ++ pairsE b := List.flatMap_append

theorem pairs_cut {m : List Ent} {k : Nat} {q : Ent} (h : m[k]? = some q) : pairsE (m.take (k + 1)) = pairsE (m.take k) ++ q.2.map (fun v => (q.1, v)) ∧ pairsE m = pairsE (m.take k) ++ q.2.map (fun v => (q.1, v)) ++ pairsE (m.drop (k + 1)) := by
  have hk := (List.getElem?_eq_some_iff.1 h).1
  rw [List.getElem?_eq_getElem hk, Option.some.injEq] at h
  have e1 : pairsE (m.take (k + 1)) = pairsE (m.take k) ++ q.2.map (fun v => (q.1, v)) := by
    rw [List.take_succ_eq_append_getElem hk, h, pairs_append]
    simp [pairsE]
  refine ⟨e1, ?_⟩
  have h2 := pairs_append (m.take (k + 1)) (m.drop (k + 1))
  rw [List.take_append_drop, e1] at h2
  exact h2

/-- a row of keys, its first ones known -/
def SBuf (w : World) (g n : Nat) (l : List Bs) : Prop := ∃ (c : Array Value), w.heap[g]? = some (.cells c 9 (0, 0)) ∧ c.size = n ∧ ∀ (j : Nat) (b : Bs), l[j]? = some b → c[j]? = some (encStr b)

namespace SBuf
variable {w : World} {g n : Nat} {l : List Bs}
theorem old (h : SBuf w g n l) {j : Nat} (hj : j < n) : ∃ v, w.cell? ⟨g, j, none⟩ = some v := by
  obtain ⟨c, hb, hn, _⟩ := h
  exact ⟨c[j]'(by omega), by simp [World.cell?, hb]⟩
theorem frozen (h : SBuf w g n l) (j : Nat) : w.frozen? ⟨g, j, none⟩ = false := by
  obtain ⟨c, hb, _, _⟩ := h
  simp [World.frozen?, hb]
theorem of_block {w' : World} (h : SBuf w g n l) (e : w'.heap[g]? = w.heap[g]?) : SBuf w' g n l := by
  obtain ⟨c, hb, hn, hc⟩ := h
  exact ⟨c, e.trans hb, hn, hc⟩
theorem lt (h : SBuf w g n l) : g < w.heap.size := by
  obtain ⟨c, hb, _, _⟩ := h
  exact (Array.getElem?_eq_some_iff.1 hb).1
theorem push (h : SBuf w g n l) (b : Bs) (hn : l.length < n) : SBuf (w.setCell ⟨g, l.length, none⟩ (encStr b)) g n (l ++ [b]) := by
  obtain ⟨c, hb, hs, hc⟩ := h
  refine ⟨c.setIfInBounds l.length (encStr b), by simp [World.setCell, Array.getElem?_modify, hb], by simpa using hs, fun j d hj => ?_⟩
  rw [Array.getElem?_setIfInBounds]
  by_cases e : j < l.length
  · rw [List.getElem?_append_left e] at hj
    rw [if_neg (by omega)]
    exact hc j d hj
  · rw [List.getElem?_append_right (by omega)] at hj
    have : j - l.length = 0 := by
      have := (List.getElem?_eq_some_iff.1 hj).1
      simpa using this
    rw [this] at hj
    simp at hj
    subst hj
    have e2 : l.length = j := by omega
    rw [if_pos e2, if_pos (by omega)]
theorem full (h : SBuf w g n l) (hl : l.length = n) : ∃ cur, w.heap[g]? = some (.cells cur 9 (0, 0)) ∧ cur.size = n * 1 ∧ cur.toList.take l.length = l.map encStr := by
  obtain ⟨c, hb, hs, hc⟩ := h
  refine ⟨c, hb, by omega, ?_⟩
  apply List.ext_getElem?
  intro j
  by_cases hj : j < l.length
  · rw [List.getElem?_take_of_lt hj, Array.getElem?_toList, hc j _ (List.getElem?_eq_getElem hj), List.getElem?_map, List.getElem?_eq_getElem hj]
    rfl
  · rw [List.getElem?_take_eq_none (by omega), List.getElem?_eq_none (by simp; omega)]
end SBuf

theorem own_others {w w' : World} {base b n : Nat} {v : Value} {xs : List Value} (h : w.ownsRow base 9 1 v n xs) (ho : Lib.OthersKept 5 (some b) w w') (hne : v.ownBlock ≠ some b) : w'.ownsRow base 9 1 v n xs := by
  refine ⟨h.1, ?_⟩
  rcases h.2 with ⟨rfl, h0⟩ | ⟨g, cap, cur, rfl, hb, hg, h1, h2, h3, h4⟩
  · exact .inl ⟨rfl, h0⟩
  · refine .inr ⟨g, cap, cur, rfl, hb, ho g _ hg (fun e => hne e) ?_, h1, h2, h3, h4⟩
    intro c fz e
    injection e with _ e _
    exact absurd e (by decide)

theorem builder_up {w w' : World} {B b : Nat} {bs : List Value} (h : Lib.IsBuilderF 95 5 B b bs w) (hb : Below w.heap.size w w') : Lib.IsBuilderF 95 5 B b bs w' := by
  have hg : w.grownBy w' none := ⟨hb.os, hb.tape, hb.output, hb.size, fun i hi _ => hb.block i hi⟩
  have key : ∀ p, Lib.BuilderAtF 95 5 B b p bs w → Lib.BuilderAtF 95 5 B b p bs w' := by
    rintro p ⟨hB, v, hbk, hown, hne⟩
    exact ⟨hB, v, (hb.block b (Array.getElem?_eq_some_iff.1 hbk).1).trans hbk, hown.kept hg (by cases v.ownBlock <;> simp), hne⟩
  exact h.elim (fun x => .inl (key _ x)) (fun x => .inr (key _ x))

theorem wB (B b : Nat) (T : Bs) (c : UInt8) (w : World) (h : Lib.IsBuilderF 95 5 B b (Lib.byteCells T) w) (hlen : T.length + 1 ≤ 140737488355328) (hBw : B ≤ w.heap.size) :
    Calls Tryd.prog 60 #[.pointer (some ⟨b, 0, none⟩), .int .u8 c.toNat] w fun e w' => e = .returned .nilIface ∧ Lib.IsBuilderF 95 5 B b (Lib.byteCells (T ++ [c])) w' ∧ Below B w w' ∧ Lib.OthersKept 5 (some b) w w' := by
  refine (writeByte_k B b _ (c.toNat : Int) w h (by rw [Lib.byteCells_length]; exact hlen) hBw).mono ?_
  rintro e w' ⟨rfl, h1, h2, h3⟩
  refine ⟨rfl, .inr ?_, h2, h3⟩
  have : Lib.byteCells (T ++ [c]) = Lib.byteCells T ++ [.int .u8 c.toNat] := by simp [Lib.byteCells]
  rw [this]; exact h1

theorem wS (B b : Nat) (T s : Bs) (w : World) (h : Lib.IsBuilderF 95 5 B b (Lib.byteCells T) w) (hlen : T.length + s.length ≤ 140737488355328) (hBw : B ≤ w.heap.size) :
    Calls Tryd.prog 61 #[.pointer (some ⟨b, 0, none⟩), encStr s] w fun e w' => e = .returned (.tuple #[.int .i64 s.length, .nilIface]) ∧ Lib.IsBuilderF 95 5 B b (Lib.byteCells (T ++ s)) w' ∧ Below B w w' ∧ Lib.OthersKept 5 (some b) w w' := by
  have hsz : (⟨s.toArray⟩ : ByteArray).size = s.length := by show s.toArray.size = _; simp
  refine (writeString_k B b _ ⟨s.toArray⟩ w h (by rw [Lib.byteCells_length, hsz]; exact hlen) hBw).mono ?_
  rintro e w' ⟨rfl, h1, h2, h3⟩
  rw [hsz]
  refine ⟨rfl, .inr ?_, h2, h3⟩
  have : Lib.byteCells (T ++ s) = Lib.byteCells T ++ Lib.strCells ⟨s.toArray⟩ := by simp [Lib.byteCells, Lib.strCells]
  rw [this]; exact h1

set_option maxRecDepth 100000 in
theorem queryEscape_ok (s : Bs) (w : World) (ht : Tab w) (hl : s.length ≤ 4294967296) :
    Calls Tryd.prog 58 #[encStr s] w fun e w' => e = .returned (encStr (escE s)) ∧ Below w.heap.size w w' := by
  go_enter Tryd.func58, Tryd.ntmps58
  go_wp2_with (go_at_call 69; refine (escape_plain s w ht hl).mono ?_; rintro e w1 ⟨rfl, hb1⟩)
  go_ret
  exact ⟨rfl, hb1⟩

set_option maxRecDepth 100000 in
theorem implEscape_ok (s : Bs) (w : World) (ht : Tab w) (hl : s.length ≤ 4294967296) :
    Calls Tryd.prog 42 #[encStr s] w fun e w' => e = .returned (encStr (escE s)) ∧ Below w.heap.size w w' := by
  go_enter Tryd.func42, Tryd.ntmps42
  go_wp2_with (go_at_call 58; refine (queryEscape_ok s w ht hl).mono ?_; rintro e w1 ⟨rfl, hb1⟩)
  go_ret
  exact ⟨rfl, hb1⟩

end Go.Proofs.YtjgjiaflccdflaaDoor
