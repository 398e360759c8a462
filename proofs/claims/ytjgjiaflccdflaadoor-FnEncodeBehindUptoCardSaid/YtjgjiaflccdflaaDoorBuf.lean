/-
  Small laws for net/url's escape: '[]byte(s)', 'copy(t, s)', a row that is written byte by byte, the counts and what is escaped. Conditions: each at its law.
-/
import Derived.Test.YtjgjiaflccdflaaDoorEsc
import Derived.Deep.OwnRows
import Derived.Lib.ConvBytes
import Derived.Lib.BufferWrite
import Derived.Deep.DeepCutAuto
namespace Go.Proofs.YtjgjiaflccdflaaDoor
open Go.RowKit

/-- '[]byte(s)' at the operation -/
theorem wpList_bytes (w : World) {ops : Array Oper} {rest : List Oper} {o : Oper} {a : Act} {Q : Exit → Act → World → Prop} (hgd : o.guard = none) (x : Operand) (ho : o.op = Op.convert 9 93 x) (s : Bs) (hx : a.eval x = encStr s)
    (h : ∀ cap w', Below w.heap.size w w' → (∀ j c, s[j]? = some c → w'.cell? ⟨w.heap.size, j, none⟩ = some (.int .u8 (c.toNat : Int))) → w.heap.size < w'.heap.size → wpList Tryd.prog ops Q rest (a.put o.dst (.slice (some ⟨w.heap.size, 0, none⟩) s.length cap)) w') :
    wpList Tryd.prog ops Q (o :: rest) a w := by
  have hrun := Lib.run_convert_string_bytes (P := Tryd.prog) w 9 93 5 ⟨s.toArray⟩ Tryd.underlying9 Tryd.underlying93 Tryd.underlying5
  have hsz : (⟨s.toArray⟩ : ByteArray).size = s.length := by show s.toArray.size = _; simp
  rw [hsz] at hrun
  refine wpList_plain hgd fun K hK => ?_
  unfold Oper.wp
  simp only [execOp, ho, hx]
  have hb : Below w.heap.size w (Lib.bytesWorld w 5 ⟨s.toArray⟩) := ⟨rfl, rfl, rfl, by rw [Lib.bytesWorld_size]; omega, fun k hk => Lib.bytesWorld_at_old w 5 _ k hk⟩
  have hK' := hK _ _ (h (grownCap w s.length 0 5) (Lib.bytesWorld w 5 ⟨s.toArray⟩) hb (fun j c hc => by
    have hj : j < s.length := (List.getElem?_eq_some_iff.1 hc).1
    have := Lib.bytesWorld_cell w 5 ⟨s.toArray⟩ j (by rw [hsz]; exact hj)
    rw [this]
    simp [List.getD, hc]) (by rw [Lib.bytesWorld_size]; omega))
  simp [hrun, Result.andThen]
  exact hK'

def cntS (l : Bs) : Nat := (l.filter fun c => c == 32).length
def cntH (l : Bs) : Nat := (l.filter fun c => !plainB c && !(c == 32)).length

theorem cntS_snoc (l : Bs) (c : UInt8) : cntS (l ++ [c]) = cntS l + if c == 32 then 1 else 0 := by
  unfold cntS; rw [List.filter_append]; by_cases h : (c == 32) = true <;> simp [h]
theorem cntH_snoc (l : Bs) (c : UInt8) : cntH (l ++ [c]) = cntH l + if (!plainB c && !(c == 32)) then 1 else 0 := by
  unfold cntH; rw [List.filter_append]; by_cases h : (!plainB c && !(c == 32)) = true <;> simp [h]
theorem cnt_le (l : Bs) : cntS l ≤ l.length ∧ cntH l ≤ l.length := ⟨List.length_filter_le _ _, List.length_filter_le _ _⟩

theorem escE_same {s : Bs} (h : cntS s = 0) (k : cntH s = 0) : escE s = s := by
  induction s with
  | nil => rfl
  | cons c r ih =>
    have hs : (c == 32) = false := by
      cases hc : (c == 32) with
      | false => rfl
      | true => rw [cntS, List.filter_cons_of_pos (by simpa using hc)] at h; simp at h
    have hp : plainB c = true := by
      cases hp : plainB c with
      | true => rfl
      | false => rw [cntH, List.filter_cons_of_pos (by simp [hp, hs])] at k; simp at k
    have h' : cntS r = 0 := by rw [cntS, List.filter_cons_of_neg (by simp [hs])] at h; exact h
    have k' : cntH r = 0 := by rw [cntH, List.filter_cons_of_neg (by simp [hp])] at k; exact k
    show escB c ++ escE r = _
    rw [ih h' k', escB, hs, hp]
    rfl

/-- 'copy(t, s)', s a string that fits, t at the head of a row that is known -/
theorem wpList_copy_str (w : World) {ops : Array Oper} {rest : List Oper} {o : Oper} {a : Act} {Q : Exit → Act → World → Prop} (hgd : o.guard = none) (d x : Operand)
    (ho : o.op = .call { callee := .builtin .copy, args := #[d, x], argTypes := #[93, 9] }) (g R cap : Nat) (hd : a.eval d = .slice (some ⟨g, 0, none⟩) R cap) (s : Bs) (hx : a.eval x = encStr s) (cur : Array Value) (T : TypeId)
    (hg : w.heap[g]? = some (.cells cur T (0, 0))) (hle : s.length ≤ R) (hfit : s.length ≤ cur.size)
    (h : ∀ (w' : World) (cur' : Array Value), w'.heap[g]? = some (.cells cur' T (0, 0)) → cur'.size = cur.size → (∀ (j : Nat) (c : UInt8), s[j]? = some c → cur'[j]? = some (.int .u8 (c.toNat : Int))) → w.grownBy w' (some g) → wpList Tryd.prog ops Q rest (a.put o.dst (goInt s.length)) w') :
    wpList Tryd.prog ops Q (o :: rest) a w := by
  have hsz : (⟨s.toArray⟩ : ByteArray).size = s.length := by show s.toArray.size = _; simp
  have hrun := Lib.run_copy_row_string (P := Tryd.prog) w 93 9 o.type 5 g 0 R cap ⟨s.toArray⟩ cur T Tryd.underlying93 (by kernel_rfl) hg (by rw [hsz]; exact hle) (by rw [hsz]; omega)
  rw [hsz] at hrun
  refine wpList_plain hgd fun K hK => ?_
  unfold Oper.wp
  simp [execOp, ho, resolve, invoke, builtin, hd, hx, hrun, Result.andThen]
  refine hK _ _ (h _ _ (setRow_heap w g cur _ T _ hg) ?_ ?_ ⟨rfl, rfl, rfl, by simp [World.setRow], fun k _ hk => setRow_other w g k _ (fun e => hk (by rw [e]))⟩)
  · simp [Lib.byteCells]
    omega
  · intro j c hc
    have hj : j < s.length := (List.getElem?_eq_some_iff.1 hc).1
    simp [Lib.byteCells, List.getElem?_append, hj]
    rw [List.getElem?_eq_getElem hj, Option.some.injEq] at hc
    rw [hc]

/-- 'string(t)', t's bytes known -/
theorem string_buf (w : World) (g cap : Nat) (l : Bs) (R : Nat) (hR : R = l.length) (hc : ∀ j b, l[j]? = some b → w.cell? ⟨g, j, none⟩ = some (.int .u8 (b.toNat : Int))) : (convert 93 9 (.slice (some ⟨g, 0, none⟩) R cap)).run Tryd.prog w = .ok (encStr l) w := by
  subst hR
  exact run_convert_bytes_back w 93 9 5 ⟨g, 0, none⟩ cap l Tryd.underlying93 Tryd.underlying5 Tryd.underlying9 (fun j hj => by
    have := hc j _ (List.getElem?_eq_getElem hj)
    cases j with
    | zero => exact this
    | succ j => simpa [Addr.add] using this)

theorem slice_buf (w : World) (g R : Nat) (h : R ≤ 64) : (Instr.sliceAt 128 (.pointer (some ⟨g, 0, none⟩)) none (some (.int .i64 (R : Int))) none).run Tryd.prog w = .ok (.slice (some ⟨g, 0, none⟩) R 64) w := by
  have ht : Tryd.prog.underlying 128 = some (.array (Tryd.prog.arrayLen 128) (Tryd.prog.elem 128)) := by kernel_rfl
  have hl : Tryd.prog.arrayLen 128 = 64 := by kernel_rfl
  have hs : ∀ W, (sizeOf (Tryd.prog.elem 128)).run Tryd.prog W = .ok 1 W := fun W => by kernel_rfl
  rw [run_sliceAt_array_h w 128 ⟨g, 0, none⟩ ht .i64 (R : Int) (by omega) (by rw [hl]; omega), hs, hl]
  simp [Result.andThen, slicedAt, Addr.add]


/-- a row that the call has made and writes to: its first bytes -/
def Buf (w : World) (g n : Nat) (l : Bs) : Prop := ∃ (t : TypeId) (c : Array Value), w.heap[g]? = some (.cells c t (0, 0)) ∧ n ≤ c.size ∧ ∀ (j : Nat) (b : UInt8), l[j]? = some b → c[j]? = some (.int .u8 (b.toNat : Int))

namespace Buf
variable {w : World} {g n : Nat} {l : Bs}
theorem old (h : Buf w g n l) {j : Nat} (hj : j < n) : ∃ v, w.cell? ⟨g, j, none⟩ = some v := by
  obtain ⟨t, c, hb, hn, _⟩ := h
  exact ⟨c[j]'(by omega), by simp [World.cell?, hb]⟩
theorem frozen (h : Buf w g n l) (j : Nat) : w.frozen? ⟨g, j, none⟩ = false := by
  obtain ⟨t, c, hb, _, _⟩ := h
  simp [World.frozen?, hb]
theorem cell (h : Buf w g n l) {j : Nat} {b : UInt8} (hj : l[j]? = some b) : w.cell? ⟨g, j, none⟩ = some (.int .u8 (b.toNat : Int)) := by
  obtain ⟨t, c, hb, _, hc⟩ := h
  simp [World.cell?, hb, hc j b hj]
theorem of_block {w' : World} (h : Buf w g n l) (e : w'.heap[g]? = w.heap[g]?) : Buf w' g n l := by
  obtain ⟨t, c, hb, hn, hc⟩ := h
  exact ⟨t, c, e.trans hb, hn, hc⟩
theorem drew (h : Buf w g n l) : Buf w.drew g n l := h
theorem lt (h : Buf w g n l) : g < w.heap.size := by
  obtain ⟨t, c, hb, _, _⟩ := h
  exact (Array.getElem?_eq_some_iff.1 hb).1
theorem put (h : Buf w g n l) (l' : Bs) (i : Nat) (b : UInt8) (x : Int) (hx : x = (b.toNat : Int)) (hi : i < n) (hl : ∀ j d, l'[j]? = some d → (j = i ∧ d = b) ∨ (j ≠ i ∧ l[j]? = some d)) : Buf (w.setCell ⟨g, i, none⟩ (.int .u8 x)) g n l' := by
  obtain ⟨t, c, hb, hn, hc⟩ := h
  subst hx
  refine ⟨t, c.setIfInBounds i (.int .u8 (b.toNat : Int)), by simp [World.setCell, Array.getElem?_modify, hb], by simpa using hn, fun j d hj => ?_⟩
  rw [Array.getElem?_setIfInBounds]
  rcases hl j d hj with ⟨rfl, rfl⟩ | ⟨hne, hd⟩
  · simp; omega
  · rw [if_neg (fun e => hne e.symm)]
    exact hc j d hd
theorem push (h : Buf w g n l) (b : UInt8) (x : Int) (hx : x = (b.toNat : Int)) (i : Nat) (hi : i = l.length) (hn : i < n) : Buf (w.setCell ⟨g, i, none⟩ (.int .u8 x)) g n (l ++ [b]) := by
  refine h.put _ i b x hx hn fun j d hj => ?_
  by_cases e : j < l.length
  · rw [List.getElem?_append_left e] at hj
    exact .inr ⟨by omega, hj⟩
  · rw [List.getElem?_append_right (by omega)] at hj
    have : j - l.length = 0 := by
      have := (List.getElem?_eq_some_iff.1 hj).1
      simpa using this
    rw [this] at hj
    simp at hj
    exact .inl ⟨by omega, hj.symm⟩
end Buf

theorem bytes_lt {s : Bs} {k : Nat} (h : k < s.length) : k < (⟨s.toArray⟩ : ByteArray).size := by show k < s.toArray.size; simpa using h

theorem bytes_get {s : Bs} {k : Nat} {c : UInt8} (hc : s[k]? = some c) (h : k < (⟨s.toArray⟩ : ByteArray).size) : (⟨s.toArray⟩ : ByteArray)[k]'h = c := by
  have hk := (List.getElem?_eq_some_iff.1 hc).1
  rw [List.getElem?_eq_getElem hk, Option.some.injEq] at hc
  rw [← hc]
  show s.toArray[k] = s[k]
  simp

theorem cell_set_far (w : World) (g i j b : Nat) (v : Value) (h : b ≠ g) : (w.setCell ⟨g, i, none⟩ v).cell? ⟨b, j, none⟩ = w.cell? ⟨b, j, none⟩ :=
  World.cell?_of_block (w := w) (Below.heap_setCell w ⟨g, i, none⟩ v b h)

theorem hex_at (n : Nat) (h : n < (⟨#[48, 49, 50, 51, 52, 53, 54, 55, 56, 57, 65, 66, 67, 68, 69, 70]⟩ : ByteArray).size) : (⟨#[48, 49, 50, 51, 52, 53, 54, 55, 56, 57, 65, 66, 67, 68, 69, 70]⟩ : ByteArray)[n]'h = hexB (UInt8.ofNat n) := by
  have hn : n < 16 := h
  have k : ∀ m : Fin 16, #[48, 49, 50, 51, 52, 53, 54, 55, 56, 57, 65, 66, 67, 68, 69, 70].getD m.val 0 = hexB (UInt8.ofNat m.val) := by decide +kernel
  have k1 := k ⟨n, hn⟩
  rw [← k1]
  show #[48, 49, 50, 51, 52, 53, 54, 55, 56, 57, 65, 66, 67, 68, 69, 70][n] = _
  simp [Array.getD, hn]

theorem hex_hi (c : UInt8) : UInt8.ofNat (c.toNat / 16) = c >>> 4 ∧ UInt8.ofNat (c.toNat % 16) = c &&& 15 := by
  have k : ∀ m : Fin 256, UInt8.ofNat (m.val / 16) = UInt8.ofNat m.val >>> 4 ∧ UInt8.ofNat (m.val % 16) = UInt8.ofNat m.val &&& 15 := by decide +kernel
  have k1 := k ⟨c.toNat, c.toNat_lt⟩
  simpa using k1

def plusE (l : Bs) : Bs := l.map fun c => if c == 32 then 43 else c

theorem plusE_length (l : Bs) : (plusE l).length = l.length := List.length_map _

theorem plusE_esc {s : Bs} (k : cntH s = 0) : plusE s = escE s := by
  induction s with
  | nil => rfl
  | cons c r ih =>
    cases hs : (c == 32) with
    | true =>
      have k' : cntH r = 0 := by rw [cntH, List.filter_cons_of_neg (by simp [hs])] at k; exact k
      show (if c == 32 then 43 else c) :: plusE r = escB c ++ escE r
      rw [ih k', escB, hs]
      rfl
    | false =>
      have hp : plainB c = true := by
        cases hp : plainB c with
        | true => rfl
        | false => rw [cntH, List.filter_cons_of_pos (by simp [hp, hs])] at k; simp at k
      have k' : cntH r = 0 := by rw [cntH, List.filter_cons_of_neg (by simp [hp])] at k; exact k
      show (if c == 32 then 43 else c) :: plusE r = escB c ++ escE r
      rw [ih k', escB, hs, hp]
      rfl

theorem plus_same {s : Bs} {k : Nat} {c : UInt8} (hk : k < s.length) (hc : s[k]? = some c) (h : (c == 32) = false) : plusE (s.take (k + 1)) ++ s.drop (k + 1) = plusE (s.take k) ++ s.drop k := by
  rw [List.getElem?_eq_getElem hk, Option.some.injEq] at hc
  have e1 : plusE (s.take (k + 1)) = plusE (s.take k) ++ [c] := by
    rw [List.take_succ_eq_append_getElem hk, hc]
    simp only [plusE, List.map_append, List.map_cons, List.map_nil, h]
    rfl
  have e2 : s.drop k = c :: s.drop (k + 1) := by
    rw [← hc]; exact List.drop_eq_getElem_cons hk
  rw [e1, e2, List.append_assoc]
  rfl

theorem escE_append (a b : Bs) : escE (a ++ b) = escE a ++ escE b := List.flatMap_append

theorem esc_cut {s : Bs} {k : Nat} {c : UInt8} (hk : k < s.length) (hc : s[k]? = some c) : escE (s.take (k + 1)) = escE (s.take k) ++ escB c ∧ (escE (s.take k)).length + (escB c).length ≤ (escE s).length := by
  rw [List.getElem?_eq_getElem hk, Option.some.injEq] at hc
  have e1 : escE (s.take (k + 1)) = escE (s.take k) ++ escB c := by
    rw [List.take_succ_eq_append_getElem hk, hc, escE_append]
    simp [escE]
  refine ⟨e1, ?_⟩
  have h := escE_append (s.take (k + 1)) (s.drop (k + 1))
  rw [List.take_append_drop] at h
  rw [h, e1]
  simp

theorem escE_length (s : Bs) : (escE s).length = s.length + 2 * cntH s := by
  induction s with
  | nil => rfl
  | cons c r ih =>
    have e : (escE (c :: r)).length = (escB c).length + (escE r).length := by
      show (escB c ++ escE r).length = _
      rw [List.length_append]
    rw [e, ih]
    cases hs : (c == 32) with
    | true =>
      have hc : cntH (c :: r) = cntH r := by rw [cntH, List.filter_cons_of_neg (by simp [hs])]; rfl
      rw [hc, escB, hs]; simp; omega
    | false =>
      cases hp : plainB c with
      | true =>
        have hc : cntH (c :: r) = cntH r := by rw [cntH, List.filter_cons_of_neg (by simp [hp])]; rfl
        rw [hc, escB, hs, hp]; simp; omega
      | false =>
        have hc : cntH (c :: r) = cntH r + 1 := by rw [cntH, List.filter_cons_of_pos (by simp [hp, hs])]; rfl
        rw [hc, escB, hs, hp]; simp; omega

theorem plus_step {s : Bs} {k : Nat} {c : UInt8} (hk : k < s.length) (hc : s[k]? = some c) (j : Nat) (d : UInt8) (h : (plusE (s.take (k + 1)) ++ s.drop (k + 1))[j]? = some d) :
    (j = k ∧ d = if c == 32 then 43 else c) ∨ (j ≠ k ∧ (plusE (s.take k) ++ s.drop k)[j]? = some d) := by
  have hl : (plusE (s.take k)).length = k := by rw [plusE_length, List.length_take]; omega
  have e1 : plusE (s.take (k + 1)) = plusE (s.take k) ++ [if c == 32 then 43 else c] := by
    rw [List.getElem?_eq_getElem hk, Option.some.injEq] at hc
    rw [List.take_succ_eq_append_getElem hk, hc]
    simp [plusE]
  have e2 : s.drop k = c :: s.drop (k + 1) := by
    rw [List.getElem?_eq_getElem hk, Option.some.injEq] at hc
    rw [← hc]; exact List.drop_eq_getElem_cons hk
  rw [e1, List.append_assoc, List.getElem?_append] at h
  rw [e2, List.getElem?_append]
  rw [hl] at h ⊢
  by_cases hj : j < k
  · rw [if_pos hj] at h ⊢
    exact .inr ⟨by omega, h⟩
  · rw [if_neg hj] at h ⊢
    by_cases hjk : j = k
    · subst hjk
      simp at h
      exact .inl ⟨rfl, by simpa using h.symm⟩
    · refine .inr ⟨hjk, ?_⟩
      obtain ⟨m, hm⟩ : ∃ m, j - k = m + 1 := ⟨j - k - 1, by omega⟩
      rw [hm] at h ⊢
      simpa using h


end Go.Proofs.YtjgjiaflccdflaaDoor
