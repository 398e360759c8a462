/-
  Plain laws of one key: what a script makes of a key, it makes of it alone. Conditions: none. No program in sight.
-/
import Derived.Test.YtjgjiaflccdflaaDoorPlainA
namespace Go.Proofs.YtjgjiaflccdflaaDoor

theorem about_about (ss : List Stp) (j : Bs) : aboutE (aboutE ss j) j = aboutE ss j := by
  unfold aboutE; rw [List.filter_filter]; simp

/-- the entries of one key alone -/
def ownE (m : List Ent) (key : Bs) : List Ent := match ofE m key with
  | some vs => [(key, vs)]
  | none => []

theorem ownE_tidy (m : List Ent) (key : Bs) : tidyE (ownE m key) = ownE m key := by
  unfold ownE
  cases ofE m key <;> rfl

theorem ofE_ownE (m : List Ent) (key : Bs) : ofE (ownE m key) key = ofE m key := by
  unfold ownE
  cases h : ofE m key with
  | none => rfl
  | some vs =>
    show (if key < key then _ else if key = key then some vs else none) = some vs
    rw [if_neg (bs_irrefl key), if_pos rfl]

theorem runE_own (l : List Ent) (ss : List Stp) (key : Bs) : ofE (runE l ss) key = ofE (runE (ownE (tidyE l) key) (aboutE ss key)) key := by
  rw [ofE_runE, ofE_runE, ownE_tidy, ofE_ownE]
  unfold ownV
  rw [about_about]

end Go.Proofs.YtjgjiaflccdflaaDoor
