/-
  What every row's frame shares: the table out of the row's list, the row's last step behind 'Below', a world for the witness. Conditions: none beyond the row's own. 'post_below' is turned from the kit's worked block to this program.
-/
import Derived.Test.YtjgjiaflccdflaaDoorArgs
namespace Go.Proofs.YtjgjiaflccdflaaDoor
open Go.ChangeShapes Go.WideShapes Go.ChangeAt Go.RowKit

theorem ownK : ownKnob Tryd.prog.godebug = none := by kernel_rfl
theorem gTabType : (Tryd.prog.globals[0]?).map (·.type) = some 142 := by kernel_rfl
theorem under142 : Tryd.prog.underlying 142 = some (.array 256 110) := by kernel_rfl
theorem cells142 : Tryd.prog.cellsOf 142 = 256 := by kernel_rfl
theorem cells110 : Tryd.prog.cellsOf 110 = 1 := by kernel_rfl
theorem laidOutT : laidOutB Tryd.prog = true := by kernel_rfl

set_option maxRecDepth 100000 in
theorem tab_is : (Rows.laid_net_url_table : DataW Unit) = Lib.tabData .u8 tabZ := by kernel_rfl

theorem tab_len : tabZ.length = 256 := by kernel_rfl

theorem tab_of {W : World} (h : laidMetH Tryd.prog [("net/url.table", Rows.laid_net_url_table)] W) : Tab W := by
  rw [tab_is] at h
  have ht : Lib.TabIs Tryd.prog W "net/url.table" .u8 tabZ := Lib.tabIs_of_head (rest := []) gTab gTabType under142 Tryd.underlying110 cells110 cells142 h
  exact fun i hi => ht.cell gTab i (by rw [tab_len]; exact hi)

section
variable {H : Type} {enc : TypeId × Value → H}
set_option maxRecDepth 100000 in
theorem post_below {f : Func} {s : ChangeSpec} {apart fresh handsOn again : Bool} {W W' : World} {args : Array Value} {v : Value} {ds gs : List (DataW H)} {before pa pv : List MemPlace}
    (hW : DataW.Whole enc Tryd.prog f.params.toList s.vars apart W args.toList ds gs before)
    (hres : ∀ (b : Nat) (sp : Nat → Bool) (hd : Bool), DataW.TrodAll enc Tryd.prog W' b sp hd f.resultTypes.toList (v.resultList f.resultTypes.size) (s.fn H (ds ++ gs)).results [])
    (hargs : ∀ sp : Nat → Bool, (∀ p ∈ before, sp p.block = true) → DataW.TrodAll enc Tryd.prog W' 0 sp true f.params.toList args.toList (s.fn H (ds ++ gs)).args pa)
    (hvars : ∀ sp : Nat → Bool, (∀ p ∈ before, sp p.block = true) → DataW.TrodVars enc Tryd.prog W' sp s.vars (s.fn H (ds ++ gs)).vars pv)
    (hps : before = pa ++ pv) (hb : Below W.heap.size W W')
    (hok : ∀ (j : Nat) (t : TypeId) (r : Value), f.resultTypes[j]? = some t → (v.resultList f.resultTypes.size)[j]? = some r → Value.okWide Tryd.prog W' .any 0 t r) :
    s.post enc Tryd.prog f apart fresh handsOn again W args v W' := by
  have hlt : ∀ p ∈ before, p.block < W.heap.size := fun p hp => hW.lt p hp
  have hold : ∀ p ∈ before, (fun b => decide (b < W.heap.size)) p.block = true := fun p hp => by simpa using hlt p hp
  refine ⟨ds, gs, before, [], pa, pv, hW, hres _ _ _, hargs _ hold, hvars _ hold, World.keptBut_mono (fun p hp => ⟨hp, ?_⟩) (hb.frame (· ∈ before)), fun _ => ?_⟩
  · rw [hps, List.mem_append] at hp
    exact Or.inr hp
  · obtain ⟨_, _, _, _, _, hz, hn⟩ := hW
    refine ⟨hok, _, _, ([] ++ pa) ++ pv, ⟨[] ++ pa, pv, trodAll_append (hargs _ (fun _ _ => rfl)) (hres _ _ _), hvars _ (fun _ _ => rfl), rfl, ?_, ?_⟩, ?_⟩
    · intro b off hp
      have hin : MemPlace.cell b off ∈ before := by rw [hps]; simpa using hp
      rw [hb.frozen (hlt _ hin)]
      exact hz b off hin
    · intro ha
      have := hn ha
      rw [hps] at this
      simpa using this
    · intro p hp _
      rw [hps]
      simpa using hp
end

/-- a world for the witness: the settled one, the table (block 0) holding what its initialiser lays -/
noncomputable def laidWorld (os : Os) : World :=
  { World.holding Tryd.prog os ⟨#[], #[], []⟩ with heap := (World.holding Tryd.prog os ⟨#[], #[], []⟩).heap.modify 0 fun
      | .cells _ t frozen => .cells (tabZ.map fun z => Value.int .u8 z).toArray t frozen
      | o => o }

end Go.Proofs.YtjgjiaflccdflaaDoor
