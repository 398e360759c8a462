/-
  What the arguments hold: slices of strings, bools, entries and steps, opened to lists, with the bulk's bound; the package's table; the row's last step behind 'Below'. Conditions: none beyond the row's own. 'open_rows' and 'post_below' are turned from the kit's worked blocks to this program.
-/
import Derived.Test.YtjgjiaflccdflaaDoorWakes
import Derived.Test.YtjgjiaflccdflaaDoorCards
import Derived.Test.YtjgjiaflccdflaaDoorTie
import Derived.WalkKit
import Derived.ProofKit
import Derived.OpenShut
import Derived.Deep.DeepHandedRow
import Derived.Lib.LaidTab
import Derived.Deep.Slices
import Derived.Deep.Fields
import Derived.ChangeSame
import Derived.ChangeMaps5
import Derived.WideKeyArgs
import Derived.Below
namespace Go.Proofs.YtjgjiaflccdflaaDoor
open Go.ChangeShapes Go.WideShapes Go.ChangeAt Go.RowKit Go.Deep
open Go.ChangeMaps (open_string shut_string)

section
variable {H : Type} {enc : TypeId × Value → H} {w : World} {base : Nat} {spare : Nat → Bool} {held : Bool}

/-- a slice of structs, field by field -/
theorem open_rows {t e : TypeId} {fs : Array Field} {fuel : Nat} {cs : List Value} {x : DataW H × List MemPlace} (ht : Tryd.prog.underlying t = some (.slice e)) (he : Tryd.prog.underlying e = some (.struct fs))
    (hone : oneCellFields Tryd.prog fs = true) (hC : Tryd.prog.cellsOf e = fs.size) (h : DataW.trod enc Tryd.prog w base spare held fuel t cs = some x) :
    (cs = [.slice none 0 0] ∧ x = (.nil, [])) ∨
    ∃ (a : Addr) (len cap : Nat) (D : Nat → DataW H) (sp : List (DataW H)) (pl : List MemPlace), cs = [.slice (some a) len cap] ∧ len ≤ cap ∧ x = (.slice ((List.range len).map D) sp, pl) ∧
      ∀ i, i < len → ∃ (ys : List (DataW H × List MemPlace)) (n : Nat), D i = .agg (ys.map (·.1)) ∧ ys.length = fs.size ∧
        ∀ (j : Nat) (f : Field), fs[j]? = some f → ∃ (v : Value) (y : DataW H × List MemPlace), w.cell? (a.add (i * fs.size + j)) = some v ∧ ys[j]? = some y ∧ DataW.trod enc Tryd.prog w base spare held n f.type [v] = some y := by
  rcases open_slice ht h with h0 | ⟨a, len, cap, m, n, D, Pl, hcs, hb, hl, hm, hmm, hx, hi⟩
  · exact .inl h0
  · refine .inr ⟨a, len, cap, D, _, _, hcs, hl, hx, fun i him => ?_⟩
    obtain ⟨cs', hc, ht'⟩ := hi i (by rw [hmm]; split <;> omega)
    rw [hC] at hc
    obtain ⟨ys, n', hn', hy, hlen, hyl, hf⟩ := DataW.trod_struct he ht'
    obtain ⟨_, hcl, hat⟩ := World.cells?_some hc
    simp only [Prod.mk.injEq] at hy
    refine ⟨ys, n', hy.1, hyl, fun j f hj => ?_⟩
    obtain ⟨ho, hk⟩ := hone_of hone j f hj
    have hjl : j < fs.size := (Array.getElem?_eq_some_iff.1 hj).1
    have hcell := hat j hjl
    have hv : cs'[j]? = some (cs'[j]'(by omega)) := List.getElem?_eq_getElem (by omega)
    have h1 := hf j f hj
    rw [ho, hk] at h1
    have hone' : (cs'.drop j).take 1 = [cs'[j]'(by omega)] := by
      rw [List.drop_eq_getElem_cons (by omega)]
      rfl
    rw [hone'] at h1
    have hys : ys[j]? = some (ys[j]'(by omega)) := List.getElem?_eq_getElem (by omega)
    refine ⟨_, _, ?_, hys, h1.trans hys⟩
    rw [← Go.Deep.add_add, hcell, hv]
end

theorem choose_list {α : Type} {P : Nat → α → Prop} : ∀ {n : Nat}, (∀ i, i < n → ∃ x, P i x) → ∃ l : List α, l.length = n ∧ ∀ (i : Nat) (x : α), l[i]? = some x → P i x
  | 0, _ => ⟨[], rfl, fun i x h => by simp at h⟩
  | n + 1, h => by
    obtain ⟨l, hl, hp⟩ := choose_list (n := n) fun i hi => h i (by omega)
    obtain ⟨x, hx⟩ := h n (by omega)
    refine ⟨l ++ [x], by simp [hl], fun i y hy => ?_⟩
    by_cases hi : i < l.length
    · rw [List.getElem?_append_left hi] at hy; exact hp i y hy
    · rw [List.getElem?_append_right (by omega)] at hy
      have h0 : i - l.length = 0 := by
        have := (List.getElem?_eq_some_iff.1 hy).1
        simpa using this
      rw [h0] at hy
      simp at hy
      subst hy
      have : i = n := by omega
      subst this
      exact hx

theorem row_of_cells {α : Type} {w : World} {a : Addr} {cap sz : Nat} {xs : List α} {f : α → List Value} (hsz : 0 < sz) (hf : ∀ x ∈ xs, (f x).length = sz) (hc : xs.length ≤ cap)
    (hcell : ∀ (i : Nat) (x : α), xs[i]? = some x → ∀ (j : Nat) (u : Value), (f x)[j]? = some u → w.cell? (a.add (i * sz + j)) = some u) :
    Row w (.slice (some a) xs.length cap) xs.length sz (xs.flatMap f) := by
  refine ⟨flat_length f sz xs hf, some a, cap, rfl, hc, fun hn => ?_⟩
  obtain ⟨b, off, spot⟩ := a
  obtain ⟨x0, hx0⟩ : ∃ x, xs[0]? = some x := ⟨_, List.getElem?_eq_getElem hn⟩
  have hl0 := hf x0 (List.mem_of_getElem? hx0)
  obtain ⟨u0, hu0⟩ : ∃ u, (f x0)[0]? = some u := ⟨_, List.getElem?_eq_getElem (by omega)⟩
  have h0 := hcell 0 x0 hx0 0 u0 hu0
  have hs : spot = none := by
    have : ((⟨b, off, spot⟩ : Addr).add (0 * sz + 0)) = ⟨b, off, spot⟩ := by simp [Addr.add]
    rw [this] at h0
    unfold World.cell? at h0
    split at h0
    · cases spot with
      | none => rfl
      | some z => simp at h0
    · cases h0
  subst hs
  have hadd : ∀ k, ((⟨b, off, none⟩ : Addr).add k) = ⟨b, off + k, none⟩ := fun k => by
    cases k with
    | zero => rfl
    | succ k => simp [Addr.add]
  rw [hadd] at h0
  refine ⟨b, off, rfl, World.block_lt_of_cell? w _ h0, fun j u hj => ?_⟩
  have hjl : j < xs.length * sz := by
    have := (List.getElem?_eq_some_iff.1 hj).1
    rw [flat_length f sz xs hf] at this
    exact this
  have hi : j / sz < xs.length := Nat.div_lt_of_lt_mul (by rw [Nat.mul_comm]; exact hjl)
  obtain ⟨x, hx⟩ : ∃ x, xs[j / sz]? = some x := ⟨_, List.getElem?_eq_getElem hi⟩
  have hfg := flat_get f sz xs hf (j / sz) (j % sz) (Nat.mod_lt _ hsz) x hx
  have hdm : j / sz * sz + j % sz = j := by rw [Nat.mul_comm]; exact Nat.div_add_mod j sz
  rw [hdm, hj] at hfg
  have := hcell (j / sz) x hx (j % sz) u hfg.symm
  rw [hdm, hadd] at this
  exact this

namespace bulks
open Go.Proofs.YtjgjiaflccdflaaDoor.Rows
theorem one_le {H : Type} (d : DataW H) : 1 ≤ uptoBulk d := by
  cases d with
  | lit l => cases l <;> simp [uptoBulk]
  | _ => simp [uptoBulk]
theorem part_le {H : Type} {d : DataW H} {l : List (DataW H)} (h : d ∈ l) : uptoBulk d ≤ uptoBulkAll l := by
  induction l with
  | nil => cases h
  | cons x r ih =>
    simp only [uptoBulkAll]
    rcases List.mem_cons.1 h with e | e
    · subst e; omega
    · have := ih e; omega
theorem length_le {H : Type} (l : List (DataW H)) : l.length ≤ uptoBulkAll l := by
  induction l with
  | nil => simp [uptoBulkAll]
  | cons x r ih => have := one_le x; simp only [uptoBulkAll, List.length_cons]; omega
theorem range_le {H : Type} {n : Nat} (D : Nat → DataW H) {i : Nat} (h : i < n) : uptoBulk (D i) ≤ uptoBulkAll ((List.range n).map D) :=
  part_le (List.mem_map.2 ⟨i, List.mem_range.2 h, rfl⟩)
theorem snoc {H : Type} (l : List (DataW H)) (d : DataW H) : uptoBulkAll (l ++ [d]) = uptoBulkAll l + uptoBulk d := by
  induction l with
  | nil => simp [uptoBulkAll]
  | cons x l ih => simp only [List.cons_append, uptoBulkAll, ih]; omega
theorem range_succ {H : Type} (n : Nat) (D : Nat → DataW H) : uptoBulkAll ((List.range (n + 1)).map D) = uptoBulkAll ((List.range n).map D) + uptoBulk (D n) := by
  rw [List.range_succ, List.map_append]; exact snoc _ _
end bulks

section
variable {H : Type} {enc : TypeId × Value → H} {w : World} {base : Nat} {spare : Nat → Bool} {held : Bool}

theorem str_of {s : ByteArray} : (Value.string s) = encStr s.data.toList := by simp [encStr]

theorem flat_map (ss : List Bs) : ss.flatMap (fun s => [encStr s]) = ss.map encStr := by
  induction ss with
  | nil => rfl
  | cons x r ih => rw [List.flatMap_cons, ih]; rfl

theorem flat_bool (ss : List Bool) : ss.flatMap (fun s => [Value.bool s]) = ss.map Value.bool := by
  induction ss with
  | nil => rfl
  | cons x r ih => rw [List.flatMap_cons, ih]; rfl

theorem cells9 : Tryd.prog.cellsOf 9 = 1 := by kernel_rfl
theorem cells4 : Tryd.prog.cellsOf 4 = 1 := by kernel_rfl

/-- a slice of strings, by its cells -/
theorem strs_of {fuel : Nat} {v : Value} {x : DataW H × List MemPlace} (h : DataW.trod enc Tryd.prog w base spare held fuel 23 [v] = some x) :
    ∃ ss : List Bs, Strs w v ss ∧ ss.length ≤ Rows.uptoBulk x.1 ∧ ∀ s ∈ ss, s.length ≤ Rows.uptoBulk x.1 := by
  rcases open_slice1 Tryd.underlying23 cells9 h with ⟨hv, rfl⟩ | ⟨a, len, cap, m, n, V, D, Pl, hv, _, hl, _, hmm, rfl, hi⟩
  · obtain rfl : v = .slice none 0 0 := by simpa using hv
    exact ⟨[], ⟨rfl, none, 0, rfl, Nat.le_refl _, fun h => absurd h (by simp)⟩, Nat.zero_le _, by simp⟩
  · obtain rfl : v = .slice (some a) len cap := by simpa using hv
    have hlm : len ≤ m := by rw [hmm]; split <;> omega
    obtain ⟨ss, hsl, hp⟩ := choose_list (P := fun i (s : Bs) => w.cell? (a.add i) = some (encStr s) ∧ D i = .lit (.string s)) (n := len) (fun i hil => by
      obtain ⟨hc, ht⟩ := hi i (by omega)
      obtain ⟨s, e1, e2, _⟩ := DataW.trod_string Tryd.underlying9 ht
      refine ⟨s.data.toList, ?_, (Prod.mk.inj e2).1⟩
      rw [hc, List.cons.inj e1 |>.1, str_of])
    subst hsl
    refine ⟨ss, ?_, ?_, ?_⟩
    · have := row_of_cells (w := w) (a := a) (cap := cap) (sz := 1) (xs := ss) (f := fun s => [encStr s]) (by omega) (fun _ _ => rfl) hl (fun i x hx j u hj => by
        match j, hj with
        | 0, hj =>
          simp at hj
          subst hj
          rw [Nat.mul_one, Nat.add_zero]
          exact (hp i x hx).1)
      rw [flat_map] at this
      exact this
    · have := bulks.length_le ((List.range ss.length).map D)
      simp only [Rows.uptoBulk, List.length_map, List.length_range] at this ⊢
      omega
    · intro s hs
      obtain ⟨i, hil, hi'⟩ := List.getElem_of_mem hs
      have := bulks.range_le D hil
      rw [(hp i s (by rw [List.getElem?_eq_getElem hil, hi'])).2] at this
      simp only [Rows.uptoBulk] at this ⊢
      omega

/-- a slice of bools -/
theorem bools_of {fuel : Nat} {v : Value} {x : DataW H × List MemPlace} (h : DataW.trod enc Tryd.prog w base spare held fuel 57 [v] = some x) :
    ∃ bs : List Bool, Row w v bs.length 1 (bs.map Value.bool) ∧ bs.length ≤ Rows.uptoBulk x.1 := by
  rcases open_slice1 Tryd.underlying57 cells4 h with ⟨hv, rfl⟩ | ⟨a, len, cap, m, n, V, D, Pl, hv, _, hl, _, hmm, rfl, hi⟩
  · obtain rfl : v = .slice none 0 0 := by simpa using hv
    exact ⟨[], ⟨rfl, none, 0, rfl, Nat.le_refl _, fun h => absurd h (by simp)⟩, Nat.zero_le _⟩
  · obtain rfl : v = .slice (some a) len cap := by simpa using hv
    have hlm : len ≤ m := by rw [hmm]; split <;> omega
    obtain ⟨ss, hsl, hp⟩ := choose_list (P := fun i (s : Bool) => w.cell? (a.add i) = some (.bool s)) (n := len) (fun i hil => by
      obtain ⟨hc, ht⟩ := hi i (by omega)
      obtain ⟨s, e1, e2⟩ := DataW.trod_bool Tryd.underlying4 ht
      refine ⟨s, ?_⟩
      rw [hc, List.cons.inj e1 |>.1])
    subst hsl
    refine ⟨ss, ?_, ?_⟩
    · have := row_of_cells (w := w) (a := a) (cap := cap) (sz := 1) (xs := ss) (f := fun s => [Value.bool s]) (by omega) (fun _ _ => rfl) hl (fun i x hx j u hj => by
        match j, hj with
        | 0, hj =>
          simp at hj
          subst hj
          rw [Nat.mul_one, Nat.add_zero]
          exact hp i x hx)
      rw [flat_bool] at this
      exact this
    · have := bulks.length_le ((List.range ss.length).map D)
      simp only [Rows.uptoBulk, List.length_map, List.length_range] at this ⊢
      omega

theorem cells70 : Tryd.prog.cellsOf 70 = 3 := by kernel_rfl
theorem cells25 : Tryd.prog.cellsOf 25 = 2 := by kernel_rfl

/-- a script -/
theorem steps_of {fuel : Nat} {v : Value} {x : DataW H × List MemPlace} (h : DataW.trod enc Tryd.prog w base spare held fuel 29 [v] = some x) :
    ∃ ss : List Stp, Stps w v ss ∧ OkS (Rows.uptoBulk x.1) (Rows.uptoBulk x.1) ss := by
  rcases open_rows Tryd.underlying29 Tryd.underlying70 (by kernel_rfl) cells70 h with ⟨hv, rfl⟩ | ⟨a, len, cap, D, sp, pl, hv, hl, rfl, hi⟩
  · obtain rfl : v = .slice none 0 0 := by simpa using hv
    exact ⟨[], stps_nil w, OkS.nil _ _⟩
  · obtain rfl : v = .slice (some a) len cap := by simpa using hv
    obtain ⟨ss, hsl, hp⟩ := choose_list (P := fun i (s : Stp) => w.cell? (a.add (i * 3 + 0)) = some (.int .i64 s.kind) ∧ w.cell? (a.add (i * 3 + 1)) = some (encStr s.key) ∧ w.cell? (a.add (i * 3 + 2)) = some (encStr s.val) ∧ s.key.length ≤ Rows.uptoBulk (D i) ∧ s.val.length ≤ Rows.uptoBulk (D i)) (n := len) (fun i hil => by
      obtain ⟨ys, n, hD, hyl, hf⟩ := hi i hil
      obtain ⟨v0, y0, c0, e0, t0⟩ := hf 0 _ rfl
      obtain ⟨v1, y1, c1, e1, t1⟩ := hf 1 _ rfl
      obtain ⟨v2, y2, c2, e2, t2⟩ := hf 2 _ rfl
      obtain ⟨z, g0, _, _⟩ := DataW.trod_int Tryd.underlying3 t0
      obtain ⟨k, g1, d1, _⟩ := DataW.trod_string Tryd.underlying9 t1
      obtain ⟨s, g2, d2, _⟩ := DataW.trod_string Tryd.underlying9 t2
      refine ⟨⟨z, k.data.toList, s.data.toList⟩, ?_, ?_, ?_, ?_, ?_⟩
      · rw [List.cons.inj g0 |>.1] at c0; exact c0
      · rw [List.cons.inj g1 |>.1, str_of] at c1; exact c1
      · rw [List.cons.inj g2 |>.1, str_of] at c2; exact c2
      · have := bulks.part_le (d := y1.1) (l := ys.map (·.1)) (List.mem_map.2 ⟨y1, List.mem_of_getElem? e1, rfl⟩)
        rw [hD]
        rw [d1] at this
        simp only [Rows.uptoBulk] at this ⊢
        omega
      · have := bulks.part_le (d := y2.1) (l := ys.map (·.1)) (List.mem_map.2 ⟨y2, List.mem_of_getElem? e2, rfl⟩)
        rw [hD]
        rw [d2] at this
        simp only [Rows.uptoBulk] at this ⊢
        omega)
    subst hsl
    refine ⟨ss, ?_, ?_, ?_, ?_⟩
    · exact row_of_cells (w := w) (a := a) (cap := cap) (sz := 3) (xs := ss) (f := stepCells) (by omega) (fun _ _ => rfl) hl (fun i x hx j u hj => by
        obtain ⟨q0, q1, q2, _⟩ := hp i x hx
        match j, hj with
        | 0, hj => rw [q0]; exact hj
        | 1, hj => rw [q1]; exact hj
        | 2, hj => rw [q2]; exact hj)
    · have := bulks.length_le ((List.range ss.length).map D)
      simp only [Rows.uptoBulk, List.length_map, List.length_range] at this ⊢
      omega
    · intro s hs
      obtain ⟨i, hil, hi'⟩ := List.getElem_of_mem hs
      have := bulks.range_le D hil
      have h2 := (hp i s (by rw [List.getElem?_eq_getElem hil, hi'])).2.2.2.1
      simp only [Rows.uptoBulk]
      omega
    · intro s hs
      obtain ⟨i, hil, hi'⟩ := List.getElem_of_mem hs
      have := bulks.range_le D hil
      have h2 := (hp i s (by rw [List.getElem?_eq_getElem hil, hi'])).2.2.2.2
      simp only [Rows.uptoBulk]
      omega

theorem inner_of {w : World} : ∀ (l : List (Bs × Value × List Bs)), (∀ q ∈ l, Strs w q.2.1 q.2.2) → Inner w (l.map fun q => (q.1, q.2.1)) (l.map fun q => (q.1, q.2.2))
  | [], _ => trivial
  | q :: r, h => ⟨⟨rfl, h q (by simp)⟩, inner_of r fun p hp => h p (by simp [hp])⟩

theorem pairs_le {α : Type} (f : α → Ent) (D : Nat → DataW H) : ∀ (l : List α), (∀ (i : Nat) (x : α), l[i]? = some x → (f x).2.length ≤ Rows.uptoBulk (D i)) → (pairsE (l.map f)).length ≤ Rows.uptoBulkAll ((List.range l.length).map D) := by
  intro l
  suffices h : ∀ n ≤ l.length, (∀ (i : Nat) (x : α), l[i]? = some x → (f x).2.length ≤ Rows.uptoBulk (D i)) → (pairsE ((l.take n).map f)).length ≤ Rows.uptoBulkAll ((List.range n).map D) by
    intro hp
    have := h l.length (Nat.le_refl _) hp
    rw [List.take_length] at this
    exact this
  intro n
  induction n with
  | zero => intro _ _; exact Nat.zero_le _
  | succ n ih =>
    intro hn hp
    have h1 := ih (by omega) hp
    have h2 := hp n _ (List.getElem?_eq_getElem (by omega))
    rw [bulks.range_succ, List.take_succ_eq_append_getElem (by omega), List.map_append, pairs_append, List.length_append]
    have h3 : (pairsE ([l[n]].map f)).length = (f l[n]).2.length := by simp [pairsE]
    rw [h3]
    omega

/-- entries -/
theorem ents_of {fuel : Nat} {v : Value} {x : DataW H × List MemPlace} (h : DataW.trod enc Tryd.prog w base spare held fuel 22 [v] = some x) :
    ∃ es : List Ent, Ents w v es ∧ Ok (Rows.uptoBulk x.1) (Rows.uptoBulk x.1) es := by
  rcases open_rows Tryd.underlying22 Tryd.underlying25 (by kernel_rfl) cells25 h with ⟨hv, rfl⟩ | ⟨a, len, cap, D, sp, pl, hv, hl, rfl, hi⟩
  · obtain rfl : v = .slice none 0 0 := by simpa using hv
    exact ⟨[], ents_nil w, Ok.nil _ _⟩
  · obtain rfl : v = .slice (some a) len cap := by simpa using hv
    obtain ⟨qs, hsl, hp⟩ := choose_list (P := fun i (q : Bs × Value × List Bs) => w.cell? (a.add (i * 2 + 0)) = some (encStr q.1) ∧ w.cell? (a.add (i * 2 + 1)) = some q.2.1 ∧ Strs w q.2.1 q.2.2 ∧ q.1.length ≤ Rows.uptoBulk (D i) ∧ q.2.2.length ≤ Rows.uptoBulk (D i) ∧ ∀ v ∈ q.2.2, v.length ≤ Rows.uptoBulk (D i)) (n := len) (fun i hil => by
      obtain ⟨ys, n, hD, hyl, hf⟩ := hi i hil
      obtain ⟨v0, y0, c0, e0, t0⟩ := hf 0 _ rfl
      obtain ⟨v1, y1, c1, e1, t1⟩ := hf 1 _ rfl
      obtain ⟨k, g0, d0, _⟩ := DataW.trod_string Tryd.underlying9 t0
      obtain ⟨vs, hs, b1, b2⟩ := strs_of t1
      have h0 := bulks.part_le (d := y0.1) (l := ys.map (·.1)) (List.mem_map.2 ⟨y0, List.mem_of_getElem? e0, rfl⟩)
      have h1 := bulks.part_le (d := y1.1) (l := ys.map (·.1)) (List.mem_map.2 ⟨y1, List.mem_of_getElem? e1, rfl⟩)
      refine ⟨(k.data.toList, v1, vs), ?_, c1, hs, ?_, ?_, ?_⟩
      · rw [List.cons.inj g0 |>.1, str_of] at c0; exact c0
      · rw [hD]
        rw [d0] at h0
        simp only [Rows.uptoBulk] at h0 ⊢
        omega
      · rw [hD]
        simp only [Rows.uptoBulk]
        show vs.length ≤ _
        omega
      · intro s hs'
        have := b2 s hs'
        rw [hD]
        simp only [Rows.uptoBulk]
        omega)
    subst hsl
    refine ⟨qs.map fun q => (q.1, q.2.2), ⟨qs.map fun q => (q.1, q.2.1), inner_of qs (fun q hq => ?_), ?_⟩, ?_, ?_, ?_, ?_⟩
    · obtain ⟨i, hil, hi'⟩ := List.getElem_of_mem hq
      exact (hp i q (by rw [List.getElem?_eq_getElem hil, hi'])).2.2.1
    · have := row_of_cells (w := w) (a := a) (cap := cap) (sz := 2) (xs := qs.map fun q => (q.1, q.2.1)) (f := entCells) (by omega) (fun _ _ => rfl) (by simpa using hl) (fun i x hx j u hj => by
        rw [List.getElem?_map] at hx
        obtain ⟨q, hq, rfl⟩ := Option.map_eq_some_iff.1 hx
        obtain ⟨q0, q1, _⟩ := hp i q hq
        match j, hj with
        | 0, hj => rw [q0]; exact hj
        | 1, hj => rw [q1]; exact hj)
      rw [List.length_map] at this ⊢
      exact this
    · have := bulks.length_le ((List.range qs.length).map D)
      simp only [Rows.uptoBulk, List.length_map, List.length_range] at this ⊢
      omega
    · have := pairs_le (fun q : Bs × Value × List Bs => ((q.1, q.2.2) : Ent)) D qs (fun i x hx => (hp i x hx).2.2.2.2.1)
      simp only [Rows.uptoBulk]
      omega
    · intro e he
      obtain ⟨q, hq, rfl⟩ := List.mem_map.1 he
      obtain ⟨i, hil, hi'⟩ := List.getElem_of_mem hq
      have := bulks.range_le D hil
      have h2 := (hp i q (by rw [List.getElem?_eq_getElem hil, hi'])).2.2.2.1
      simp only [Rows.uptoBulk]
      omega
    · intro e he u hu
      obtain ⟨q, hq, rfl⟩ := List.mem_map.1 he
      obtain ⟨i, hil, hi'⟩ := List.getElem_of_mem hq
      have := bulks.range_le D hil
      have h2 := (hp i q (by rw [List.getElem?_eq_getElem hil, hi'])).2.2.2.2.2 u hu
      simp only [Rows.uptoBulk]
      omega

set_option maxRecDepth 100000 in
/-- an argument's cells -/
theorem arg_ents {r : Reach} {b0 : Nat} {v : Value} {d : DataW H} {p : List MemPlace} (hv : Value.okWide Tryd.prog w r b0 22 v) (h : DataW.Trod enc Tryd.prog w base spare held 22 v d p) : ∃ es, Ents w v es ∧ Ok (Rows.uptoBulk d) (Rows.uptoBulk d) es := by
  obtain ⟨a, n, c, rfl⟩ := okWide_slice Tryd.underlying22 hv
  obtain ⟨fuel, hf⟩ := h
  exact ents_of (by simpa [Value.cells] using hf)
set_option maxRecDepth 100000 in
theorem arg_steps {r : Reach} {b0 : Nat} {v : Value} {d : DataW H} {p : List MemPlace} (hv : Value.okWide Tryd.prog w r b0 29 v) (h : DataW.Trod enc Tryd.prog w base spare held 29 v d p) : ∃ ss, Stps w v ss ∧ OkS (Rows.uptoBulk d) (Rows.uptoBulk d) ss := by
  obtain ⟨a, n, c, rfl⟩ := okWide_slice Tryd.underlying29 hv
  obtain ⟨fuel, hf⟩ := h
  exact steps_of (by simpa [Value.cells] using hf)
set_option maxRecDepth 100000 in
theorem arg_strs {r : Reach} {b0 : Nat} {v : Value} {d : DataW H} {p : List MemPlace} (hv : Value.okWide Tryd.prog w r b0 23 v) (h : DataW.Trod enc Tryd.prog w base spare held 23 v d p) : ∃ ss : List Bs, Strs w v ss ∧ ss.length ≤ Rows.uptoBulk d ∧ ∀ s ∈ ss, s.length ≤ Rows.uptoBulk d := by
  obtain ⟨a, n, c, rfl⟩ := okWide_slice Tryd.underlying23 hv
  obtain ⟨fuel, hf⟩ := h
  exact strs_of (by simpa [Value.cells] using hf)
set_option maxRecDepth 100000 in
theorem arg_bools {r : Reach} {b0 : Nat} {v : Value} {d : DataW H} {p : List MemPlace} (hv : Value.okWide Tryd.prog w r b0 57 v) (h : DataW.Trod enc Tryd.prog w base spare held 57 v d p) : ∃ bs : List Bool, Row w v bs.length 1 (bs.map Value.bool) ∧ bs.length ≤ Rows.uptoBulk d := by
  obtain ⟨a, n, c, rfl⟩ := okWide_slice Tryd.underlying57 hv
  obtain ⟨fuel, hf⟩ := h
  exact bools_of (by simpa [Value.cells] using hf)
set_option maxRecDepth 100000 in
theorem arg_string {r : Reach} {b0 : Nat} {v : Value} {d : DataW H} {p : List MemPlace} (hv : Value.okWide Tryd.prog w r b0 9 v) (h : DataW.Trod enc Tryd.prog w base spare held 9 v d p) : ∃ s : Bs, v = encStr s ∧ s.length ≤ Rows.uptoBulk d := by
  obtain ⟨s, rfl, rfl, _, _⟩ := open_string Tryd.underlying9 hv h
  refine ⟨s.data.toList, str_of, ?_⟩
  simp only [Rows.uptoBulk]
  omega

set_option maxRecDepth 100000 in
/-- an argument reads as it did -/
theorem arg_stays {t : TypeId} {W W' : World} {sp' : Nat → Bool} {v : Value} {d : DataW H} {ps : List MemPlace} (hl : laidOutB Tryd.prog = true) (hr : Tryd.prog.readableRec t = true) (hrow : t < Tryd.prog.types.size) (h : DataW.Trod enc Tryd.prog W 0 (fun _ => true) true t v d ps) (hb : Below W.heap.size W W') (hlt : ∀ p ∈ ps, p.block < W.heap.size) (hs : ∀ p ∈ ps, sp' p.block = true) :
    DataW.Trod enc Tryd.prog W' 0 sp' true t v d ps :=
  WideElems.Trod_stays hl hr hrow h (fun p hp => by
    have hp' := hlt p hp
    cases p with
    | cell b o => exact World.cell?_of_block (w := W) (hb.block b hp')
    | map b => exact hb.block b hp') hs
end

theorem gTab : Tryd.prog.globalNamed "net/url.table" = some 0 := by kernel_rfl

end Go.Proofs.YtjgjiaflccdflaaDoor
