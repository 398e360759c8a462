/-
  The row and the card of laws.FnEncodeBehind where what comes in is of bulk at most 1,048,576: the frame over the walk. Conditions: none beyond the row's own. The frame is turned from the kit's worked toy (UptoLaidToy).
-/
import Derived.Test.YtjgjiaflccdflaaDoorFrame
import Derived.Test.YtjgjiaflccdflaaDoorBehind
namespace Go.Proofs.YtjgjiaflccdflaaDoor.fnEncodeBehind
open Go.ChangeShapes Go.WideShapes Go.ChangeAt Go.RowKit

set_option maxRecDepth 100000 in
theorem contract (H : Type) (enc : TypeId × Value → H) (W : World) (base : Nat) (args : Array Value) (ds gs : List (DataW H)) (before : List MemPlace)
    (hval : ∀ (j : Nat) t v, Tryd.f12.params[j]? = some t → args[j]? = some v → Value.okWide Tryd.prog W .any base t v)
    (hW : DataW.Whole enc Tryd.prog Tryd.f12.params.toList Rows.fnEncodeBehindSpec.vars false W args.toList ds gs before) (hk : Rows.uptoSmall H (ds ++ gs) = true) (hL : laidMetH Tryd.prog Rows.fnEncodeBehindUptoRow.laid W) :
    Calls Tryd.prog 12 args W fun e W' => ∃ v, e = .returned v ∧ Rows.fnEncodeBehindSpec.post enc Tryd.prog Tryd.f12 false true false false W args v W' := by
  have hW' := hW
  obtain ⟨p, q, hA0, hV, rfl, hfz, hnd⟩ := hW
  have hA : DataW.TrodAll enc Tryd.prog W 0 (fun _ => true) true Tryd.f12.params.toList args.toList ds p := hA0
  rw [Tryd.params12] at hA hval
  obtain ⟨v0, vs0, d0, ds0, p0, q0, hargs0, hds0, hps0, h0, r0⟩ := trodAll_cons hA
  obtain ⟨v1, vs1, d1, ds1, p1, q1, hargs1, hds1, hps1, h1, r1⟩ := trodAll_cons r0
  obtain ⟨v2, vs2, d2, ds2, p2, q2, hargs2, hds2, hps2, h2, r2⟩ := trodAll_cons r1
  obtain ⟨hvs, hdn, hpn⟩ := trodAll_nil r2
  obtain rfl : args = #[v0, v1, v2] := by cases args; simp_all
  obtain rfl : ds = [d0, d1, d2] := by simp_all
  obtain ⟨rfl, rfl⟩ := trodVars_none hV
  have hp : p = p0 ++ (p1 ++ (p2)) := by simp_all
  clear hA0 hA hargs0 hds0 hps0 hargs1 hds1 hps1 hargs2 hds2 hps2 r0 r1 r2 hvs hdn hpn
  subst hp
  obtain ⟨x0, hx0, ok0⟩ := arg_ents (hval 0 22 v0 rfl rfl) h0
  obtain ⟨x1, hx1, ok1⟩ := arg_steps (hval 1 29 v1 rfl rfl) h1
  obtain ⟨x2, rfl, len2⟩ := arg_string (hval 2 9 v2 rfl rfl) h2
  have hsum : Rows.uptoBulk d0 + Rows.uptoBulk d1 + Rows.uptoBulk d2 ≤ 1048576 := by
    have hk2 : Rows.uptoSmall H [d0, d1, d2] = true := by simpa using hk
    have h : Rows.uptoBulkAll [d0, d1, d2] ≤ 1048576 := of_decide_eq_true hk2
    simp only [Rows.uptoBulkAll] at h
    omega
  have hlt : ∀ x ∈ (p0 ++ (p1 ++ (p2)) : List MemPlace), x.block < W.heap.size := fun x hx => hW'.lt x (List.mem_append_left _ hx)
  simp only [List.append_nil] at hW'
  refine (behind_walk v0 v1 x0 x1 x2 W hx0 hx1 (tab_of hL) (ok0.mono (A' := Rows.uptoBulk d0) (Nat.le_refl _) (B' := 1048576) (by omega)) (ok1.mono (A' := Rows.uptoBulk d1) (Nat.le_refl _) (B' := 1048576) (by omega)) (Nat.le_trans len2 (show Rows.uptoBulk d2 ≤ 1048576 by omega)) (by omega) (Nat.le_refl _)).mono fun e W' ⟨he, hg⟩ => ?_
  subst he
  refine ⟨_, rfl, post_below (pa := p0 ++ (p1 ++ (p2))) (pv := []) hW' (fun _ _ _ => trodAll_cons_mk (shut_bool Tryd.underlying4 _) trodAll_mk0) (fun sp hsp => ?_) (fun _ _ => rfl) (by simp) hg (ok_one (by kernel_rfl) rfl (okWide_bool_mk Tryd.underlying4 _))⟩
  rw [Tryd.params12]
  have hall := trodAll_cons_mk (arg_stays laidOutT (by kernel_rfl) (of_decide_eq_true (by kernel_rfl)) h0 hg (fun x hx => hlt x (by simp [hx])) (fun x hx => hsp x (by simp [hx]))) (trodAll_cons_mk (arg_stays laidOutT (by kernel_rfl) (of_decide_eq_true (by kernel_rfl)) h1 hg (fun x hx => hlt x (by simp [hx])) (fun x hx => hsp x (by simp [hx]))) (trodAll_cons_mk (arg_stays laidOutT (by kernel_rfl) (of_decide_eq_true (by kernel_rfl)) h2 hg (fun x hx => hlt x (by simp [hx])) (fun x hx => hsp x (by simp [hx]))) trodAll_mk0))
  simp only [List.append_nil] at hall
  exact hall

theorem laid_met (os : Os) : laidMet Tryd.prog Rows.fnEncodeBehindUptoRow.laid ((laidWorld os).forCall (fun _ _ => 0) ⟨#[], #[.slice none 0 0, .slice none 0 0, .string ⟨#[]⟩], []⟩).memory :=
  laidMet_of_run' 8 (by kernel_rfl) (by kernel_rfl)
theorem reads (os : Os) {H : Type} (enc : TypeId × Value → H) : ∃ places, DataW.whole enc Tryd.prog ((laidWorld os).forCall (fun _ _ => 0) ⟨#[], #[.slice none 0 0, .slice none 0 0, .string ⟨#[]⟩], []⟩).memory Tryd.f12.params.toList Rows.fnEncodeBehindSpec.vars false #[Value.slice none 0 0, Value.slice none 0 0, Value.string ⟨#[]⟩].toList 8 = some ([.nil, .nil, .lit (.string [])], [], places) :=
  ⟨[], by kernel_rfl⟩

set_option maxRecDepth 100000 in
theorem liftedUpto (os : Os) (started : os.Started) (H : Type) (enc : TypeId × Value → H) (F : Stop.Interp) :
    ReturnsInHanded {} Tryd.checked os 12 .any ((Rows.OpenSpec.upto Rows.fnEncodeBehindSpec).preRow enc Tryd.prog Tryd.f12 Rows.fnEncodeBehindUptoRow.domain false Rows.fnEncodeBehindUptoRow.laid) (((Rows.OpenSpec.upto Rows.fnEncodeBehindSpec).at F).post enc Tryd.prog Tryd.f12 false true false false) := by
  obtain ⟨places, hx⟩ := reads os enc
  refine returnsInHanded_of_row (C := Tryd.checked) (s := Rows.OpenSpec.upto Rows.fnEncodeBehindSpec) ownK started (by kernel_rfl) Tryd.func12
    (witness_row_at (enc := enc) (C := Tryd.checked) false (laidWorld os) #[.slice none 0 0, .slice none 0 0, .string ⟨#[]⟩] rfl (by kernel_rfl) (by kernel_rfl) (by kernel_rfl)
      (OpenSpec.preRow_of_cond 8 hx (by kernel_rfl) (fun k hk => by cases hk; kernel_rfl) (by kernel_rfl) (laid_met os))) ?_
  intro W base args ds gs before hval hW _ hcond _ hL _ _
  exact contract H enc W base args ds gs before hval hW (hcond _ rfl) hL

theorem saidUpto : Rows.FnEncodeBehindUptoSaid :=
  OpenClaim.holds_of_cond 12 Tryd.f12 rfl rfl rfl rfl rfl rfl rfl ⟨rfl, rfl, rfl, rfl, rfl⟩ rfl rfl rfl rfl rfl (by kernel_rfl) Tryd.func12 (by kernel_rfl)
    (of_decide_eq_true (by kernel_rfl)) (by unfold Func.isWrapper; first | (rw [if_pos (by decide +kernel)]; kernel_rfl) | (rw [if_neg (by decide +kernel)]; exact ⟨rfl, rfl⟩))
    (fun os started H enc _ F => by rw [OpenClaim.pre_eq_preRow]; exact liftedUpto os started H enc F)

theorem plain (f : FuncId) (fn : Func) (hf : Tryd.pinned.checked.prog.funcNamed "lib-wickergate/laws.FnEncodeBehind" = some f) (hfn : Tryd.pinned.checked.prog.funcs[f]? = some fn) :
    false = Tryd.pinned.checked.prog.looks [] ∧ ∀ (j : Nat) t, fn.params[j]? = some t → Tryd.pinned.checked.prog.wantsStandIn t = false := by
  obtain rfl : f = 12 := Option.some.inj ((show Tryd.prog.funcNamed "lib-wickergate/laws.FnEncodeBehind" = some 12 by kernel_rfl).symm.trans hf) |>.symm
  obtain rfl : fn = Tryd.f12 := (Option.some.inj (Tryd.func12.symm.trans hfn)).symm
  refine ⟨by kernel_rfl, fun j t ht => ?_⟩
  rw [Tryd.params12] at ht
  have hm := Array.mem_of_getElem? ht
  simp only [List.mem_toArray, List.mem_cons, List.not_mem_nil, or_false] at hm
  rcases hm with rfl | rfl | rfl
  · exact (show Tryd.prog.wantsStandIn 22 = false by kernel_rfl)
  · exact (show Tryd.prog.wantsStandIn 29 = false by kernel_rfl)
  · exact (show Tryd.prog.wantsStandIn 9 = false by kernel_rfl)

theorem cardUpto : Rows.FnEncodeBehindUptoCardSaid :=
  Claim7.holds_tied_plain_at .later [] _ _ _ _ saidUpto (fun _ h => by cases h) (by kernel_rfl) (fun _ h => by cases h) fnEncodeBehindUpto_row_tie rfl ⟨rfl, rfl⟩ (by kernel_rfl) rfl plain (by kernel_rfl)
end Go.Proofs.YtjgjiaflccdflaaDoor.fnEncodeBehind
