/-
  NARROWER THAN 'FOR EVERY INPUT', by the rows' own cells (each row's printed sentence says how): FnEncodeMerged: laid · FnRunAgain: laid · FnRunBack: laid · FnRunLater: laid · FnRunModel: laid · FnRunOwn: laid · FnRunSplit: laid · FnRunWoven: laid · FnAskAnywhere: laid · FnEncodeBehind: laid · FnEncodeGrows: laid · FnEncodeMade: laid · FnEncodeTold: laid · FnEncodeWithout: laid.
  DERIVED. THE GIVEN ROWS OF THIS SEAT. 14 by the template 'for every input the law returns true; each argument reads behind the call as it read before'; 0 by the template 'total and deterministic' (their statements: YtjgjiaflccdflaaDoorTotals.lean).
  GIVEN WITH THE SEED: the statements are not yours to turn. If you find one false, say at which input.
  Laid BY PROGRAM, IN A SANDBOX (cutbox-rows.mjs): the forced cells as the released guide's own fill.sh prints them over the translation 8f6951711473888c… (all of the seat's roots in one cut). By AI agents, Wed Nov 11 2026. No macro, syntax, notation, axiom, sorry.
-/
import Derived.Test.YtjgjiaflccdflaaDoorChecked
import GoSem.Claim
import GoSem.ClaimJoined
import GoSem.ClaimMapViews
import Derived.JoinedTies
import Derived.KernelRfl
namespace Go.Proofs.YtjgjiaflccdflaaDoor
/- THE CELL 'sum', in the pinned program and in every row, IS THE sha256 OF THE DUMP (.gsa) THAT YtjgjiaflccdflaaDoorProg.lean LOADS. Nothing in Lean hashes anything: it is a label: what it is worth is what the hold of that sum in a sandbox is worth. -/
noncomputable def Tryd.pinned : Pinned := { name := "ytjgjiaflccdflaadoor", sum := "8f6951711473888c7e200756f3b50d2447dac01696a52a95fc7e669c18592d2f", checked := Tryd.checked }
namespace Rows
def none {H : Type} : Left H := { results := [], args := [] }

/- WHAT THE LISTED PACKAGE-LEVEL VARIABLES READ AS WHEN THE CALL BEGINS. Each datum BY PROGRAM (the guide's laid-datum.mjs) off the statement by which the dump's own 'gosem.cut.vars' lays the variable. In a bare row this is a premise. The card (YtjgjiaflccdflaaDoorCards.lean) ties it to the program's text. -/
def laid_net_url_table {H : Type} : DataW H := .agg [.lit (.int .u8 0), .lit (.int .u8 0), .lit (.int .u8 0), .lit (.int .u8 0), .lit (.int .u8 0), .lit (.int .u8 0), .lit (.int .u8 0), .lit (.int .u8 0), .lit (.int .u8 0), .lit (.int .u8 0), .lit (.int .u8 0), .lit (.int .u8 0), .lit (.int .u8 0), .lit (.int .u8 0), .lit (.int .u8 0), .lit (.int .u8 0), .lit (.int .u8 0), .lit (.int .u8 0), .lit (.int .u8 0), .lit (.int .u8 0), .lit (.int .u8 0), .lit (.int .u8 0), .lit (.int .u8 0), .lit (.int .u8 0), .lit (.int .u8 0), .lit (.int .u8 0), .lit (.int .u8 0), .lit (.int .u8 0), .lit (.int .u8 0), .lit (.int .u8 0), .lit (.int .u8 0), .lit (.int .u8 0), .lit (.int .u8 0), .lit (.int .u8 76), .lit (.int .u8 12), .lit (.int .u8 0), .lit (.int .u8 95), .lit (.int .u8 0), .lit (.int .u8 95), .lit (.int .u8 12), .lit (.int .u8 76), .lit (.int .u8 76), .lit (.int .u8 76), .lit (.int .u8 95), .lit (.int .u8 93), .lit (.int .u8 127), .lit (.int .u8 127), .lit (.int .u8 65), .lit (.int .u8 255), .lit (.int .u8 255), .lit (.int .u8 255), .lit (.int .u8 255), .lit (.int .u8 255), .lit (.int .u8 255), .lit (.int .u8 255), .lit (.int .u8 255), .lit (.int .u8 255), .lit (.int .u8 255), .lit (.int .u8 79), .lit (.int .u8 93), .lit (.int .u8 12), .lit (.int .u8 95), .lit (.int .u8 12), .lit (.int .u8 64), .lit (.int .u8 67), .lit (.int .u8 255), .lit (.int .u8 255), .lit (.int .u8 255), .lit (.int .u8 255), .lit (.int .u8 255), .lit (.int .u8 255), .lit (.int .u8 127), .lit (.int .u8 127), .lit (.int .u8 127), .lit (.int .u8 127), .lit (.int .u8 127), .lit (.int .u8 127), .lit (.int .u8 127), .lit (.int .u8 127), .lit (.int .u8 127), .lit (.int .u8 127), .lit (.int .u8 127), .lit (.int .u8 127), .lit (.int .u8 127), .lit (.int .u8 127), .lit (.int .u8 127), .lit (.int .u8 127), .lit (.int .u8 127), .lit (.int .u8 127), .lit (.int .u8 127), .lit (.int .u8 127), .lit (.int .u8 12), .lit (.int .u8 0), .lit (.int .u8 12), .lit (.int .u8 0), .lit (.int .u8 127), .lit (.int .u8 0), .lit (.int .u8 255), .lit (.int .u8 255), .lit (.int .u8 255), .lit (.int .u8 255), .lit (.int .u8 255), .lit (.int .u8 255), .lit (.int .u8 127), .lit (.int .u8 127), .lit (.int .u8 127), .lit (.int .u8 127), .lit (.int .u8 127), .lit (.int .u8 127), .lit (.int .u8 127), .lit (.int .u8 127), .lit (.int .u8 127), .lit (.int .u8 127), .lit (.int .u8 127), .lit (.int .u8 127), .lit (.int .u8 127), .lit (.int .u8 127), .lit (.int .u8 127), .lit (.int .u8 127), .lit (.int .u8 127), .lit (.int .u8 127), .lit (.int .u8 127), .lit (.int .u8 127), .lit (.int .u8 0), .lit (.int .u8 0), .lit (.int .u8 0), .lit (.int .u8 127), .lit (.int .u8 0), .lit (.int .u8 0), .lit (.int .u8 0), .lit (.int .u8 0), .lit (.int .u8 0), .lit (.int .u8 0), .lit (.int .u8 0), .lit (.int .u8 0), .lit (.int .u8 0), .lit (.int .u8 0), .lit (.int .u8 0), .lit (.int .u8 0), .lit (.int .u8 0), .lit (.int .u8 0), .lit (.int .u8 0), .lit (.int .u8 0), .lit (.int .u8 0), .lit (.int .u8 0), .lit (.int .u8 0), .lit (.int .u8 0), .lit (.int .u8 0), .lit (.int .u8 0), .lit (.int .u8 0), .lit (.int .u8 0), .lit (.int .u8 0), .lit (.int .u8 0), .lit (.int .u8 0), .lit (.int .u8 0), .lit (.int .u8 0), .lit (.int .u8 0), .lit (.int .u8 0), .lit (.int .u8 0), .lit (.int .u8 0), .lit (.int .u8 0), .lit (.int .u8 0), .lit (.int .u8 0), .lit (.int .u8 0), .lit (.int .u8 0), .lit (.int .u8 0), .lit (.int .u8 0), .lit (.int .u8 0), .lit (.int .u8 0), .lit (.int .u8 0), .lit (.int .u8 0), .lit (.int .u8 0), .lit (.int .u8 0), .lit (.int .u8 0), .lit (.int .u8 0), .lit (.int .u8 0), .lit (.int .u8 0), .lit (.int .u8 0), .lit (.int .u8 0), .lit (.int .u8 0), .lit (.int .u8 0), .lit (.int .u8 0), .lit (.int .u8 0), .lit (.int .u8 0), .lit (.int .u8 0), .lit (.int .u8 0), .lit (.int .u8 0), .lit (.int .u8 0), .lit (.int .u8 0), .lit (.int .u8 0), .lit (.int .u8 0), .lit (.int .u8 0), .lit (.int .u8 0), .lit (.int .u8 0), .lit (.int .u8 0), .lit (.int .u8 0), .lit (.int .u8 0), .lit (.int .u8 0), .lit (.int .u8 0), .lit (.int .u8 0), .lit (.int .u8 0), .lit (.int .u8 0), .lit (.int .u8 0), .lit (.int .u8 0), .lit (.int .u8 0), .lit (.int .u8 0), .lit (.int .u8 0), .lit (.int .u8 0), .lit (.int .u8 0), .lit (.int .u8 0), .lit (.int .u8 0), .lit (.int .u8 0), .lit (.int .u8 0), .lit (.int .u8 0), .lit (.int .u8 0), .lit (.int .u8 0), .lit (.int .u8 0), .lit (.int .u8 0), .lit (.int .u8 0), .lit (.int .u8 0), .lit (.int .u8 0), .lit (.int .u8 0), .lit (.int .u8 0), .lit (.int .u8 0), .lit (.int .u8 0), .lit (.int .u8 0), .lit (.int .u8 0), .lit (.int .u8 0), .lit (.int .u8 0), .lit (.int .u8 0), .lit (.int .u8 0), .lit (.int .u8 0), .lit (.int .u8 0), .lit (.int .u8 0), .lit (.int .u8 0), .lit (.int .u8 0), .lit (.int .u8 0), .lit (.int .u8 0), .lit (.int .u8 0), .lit (.int .u8 0), .lit (.int .u8 0), .lit (.int .u8 0), .lit (.int .u8 0), .lit (.int .u8 0), .lit (.int .u8 0), .lit (.int .u8 0), .lit (.int .u8 0), .lit (.int .u8 0), .lit (.int .u8 0), .lit (.int .u8 0), .lit (.int .u8 0), .lit (.int .u8 0), .lit (.int .u8 0), .lit (.int .u8 0), .lit (.int .u8 0), .lit (.int .u8 0)]

/-- 'laws.FnEncodeMerged': WHATEVER THE INPUT: true; the input reads as it did. -/
def fnEncodeMergedSpec : ChangeSpec := { name := "fnEncodeMerged", fn := fun _ => fun
  | [d1, d2] => { results := [.lit (.bool true)], args := [d1, d2] }
  | _ => none }
def fnEncodeMergedRow : OpenClaim := { program := "ytjgjiaflccdflaadoor", sum := "8f6951711473888c7e200756f3b50d2447dac01696a52a95fc7e669c18592d2f", func := "lib-wickergate/laws.FnEncodeMerged", spec := "fnEncodeMerged", inPlace := ["internal/abi.NoEscape"], unfollowed := true, recurses := true, named := ["net/url.table"], apart := false, laid := [("net/url.table", laid_net_url_table)] }
def FnEncodeMergedSaid : Prop := fnEncodeMergedRow.holds Tryd.pinned (OpenSpec.ofChange fnEncodeMergedSpec)

/-- ITS FALSE NEIGHBOUR: 'it returns false'. Refute it at one input. -/
def fnEncodeMergedWrong : ChangeSpec := { name := "fnEncodeMerged", fn := fun _ => fun
  | [d1, d2] => { results := [.lit (.bool false)], args := [d1, d2] }
  | _ => none }
def FnEncodeMergedWrongFalsely : Prop := fnEncodeMergedRow.holds Tryd.pinned (OpenSpec.ofChange fnEncodeMergedWrong)

/-- 'laws.FnRunAgain': WHATEVER THE INPUT: true; the input reads as it did. -/
def fnRunAgainSpec : ChangeSpec := { name := "fnRunAgain", fn := fun _ => fun
  | [d1, d2] => { results := [.lit (.bool true)], args := [d1, d2] }
  | _ => none }
def fnRunAgainRow : OpenClaim := { program := "ytjgjiaflccdflaadoor", sum := "8f6951711473888c7e200756f3b50d2447dac01696a52a95fc7e669c18592d2f", func := "lib-wickergate/laws.FnRunAgain", spec := "fnRunAgain", inPlace := ["internal/abi.NoEscape"], unfollowed := true, recurses := true, named := ["net/url.table"], apart := false, laid := [("net/url.table", laid_net_url_table)] }
def FnRunAgainSaid : Prop := fnRunAgainRow.holds Tryd.pinned (OpenSpec.ofChange fnRunAgainSpec)

/-- ITS FALSE NEIGHBOUR: 'it returns false'. Refute it at one input. -/
def fnRunAgainWrong : ChangeSpec := { name := "fnRunAgain", fn := fun _ => fun
  | [d1, d2] => { results := [.lit (.bool false)], args := [d1, d2] }
  | _ => none }
def FnRunAgainWrongFalsely : Prop := fnRunAgainRow.holds Tryd.pinned (OpenSpec.ofChange fnRunAgainWrong)

/-- 'laws.FnRunBack': WHATEVER THE INPUT: true; the input reads as it did. -/
def fnRunBackSpec : ChangeSpec := { name := "fnRunBack", fn := fun _ => fun
  | [d1, d2] => { results := [.lit (.bool true)], args := [d1, d2] }
  | _ => none }
def fnRunBackRow : OpenClaim := { program := "ytjgjiaflccdflaadoor", sum := "8f6951711473888c7e200756f3b50d2447dac01696a52a95fc7e669c18592d2f", func := "lib-wickergate/laws.FnRunBack", spec := "fnRunBack", inPlace := ["internal/abi.NoEscape"], unfollowed := true, recurses := true, named := ["net/url.table"], apart := false, laid := [("net/url.table", laid_net_url_table)] }
def FnRunBackSaid : Prop := fnRunBackRow.holds Tryd.pinned (OpenSpec.ofChange fnRunBackSpec)

/-- ITS FALSE NEIGHBOUR: 'it returns false'. Refute it at one input. -/
def fnRunBackWrong : ChangeSpec := { name := "fnRunBack", fn := fun _ => fun
  | [d1, d2] => { results := [.lit (.bool false)], args := [d1, d2] }
  | _ => none }
def FnRunBackWrongFalsely : Prop := fnRunBackRow.holds Tryd.pinned (OpenSpec.ofChange fnRunBackWrong)

/-- 'laws.FnRunLater': WHATEVER THE INPUT: true; the input reads as it did. -/
def fnRunLaterSpec : ChangeSpec := { name := "fnRunLater", fn := fun _ => fun
  | [d1, d2] => { results := [.lit (.bool true)], args := [d1, d2] }
  | _ => none }
def fnRunLaterRow : OpenClaim := { program := "ytjgjiaflccdflaadoor", sum := "8f6951711473888c7e200756f3b50d2447dac01696a52a95fc7e669c18592d2f", func := "lib-wickergate/laws.FnRunLater", spec := "fnRunLater", inPlace := ["internal/abi.NoEscape"], unfollowed := true, recurses := true, named := ["net/url.table"], apart := false, laid := [("net/url.table", laid_net_url_table)] }
def FnRunLaterSaid : Prop := fnRunLaterRow.holds Tryd.pinned (OpenSpec.ofChange fnRunLaterSpec)

/-- ITS FALSE NEIGHBOUR: 'it returns false'. Refute it at one input. -/
def fnRunLaterWrong : ChangeSpec := { name := "fnRunLater", fn := fun _ => fun
  | [d1, d2] => { results := [.lit (.bool false)], args := [d1, d2] }
  | _ => none }
def FnRunLaterWrongFalsely : Prop := fnRunLaterRow.holds Tryd.pinned (OpenSpec.ofChange fnRunLaterWrong)

/-- 'laws.FnRunModel': WHATEVER THE INPUT: true; the input reads as it did. -/
def fnRunModelSpec : ChangeSpec := { name := "fnRunModel", fn := fun _ => fun
  | [d1, d2] => { results := [.lit (.bool true)], args := [d1, d2] }
  | _ => none }
def fnRunModelRow : OpenClaim := { program := "ytjgjiaflccdflaadoor", sum := "8f6951711473888c7e200756f3b50d2447dac01696a52a95fc7e669c18592d2f", func := "lib-wickergate/laws.FnRunModel", spec := "fnRunModel", inPlace := ["internal/abi.NoEscape"], unfollowed := true, recurses := true, named := ["net/url.table"], apart := false, laid := [("net/url.table", laid_net_url_table)] }
def FnRunModelSaid : Prop := fnRunModelRow.holds Tryd.pinned (OpenSpec.ofChange fnRunModelSpec)

/-- ITS FALSE NEIGHBOUR: 'it returns false'. Refute it at one input. -/
def fnRunModelWrong : ChangeSpec := { name := "fnRunModel", fn := fun _ => fun
  | [d1, d2] => { results := [.lit (.bool false)], args := [d1, d2] }
  | _ => none }
def FnRunModelWrongFalsely : Prop := fnRunModelRow.holds Tryd.pinned (OpenSpec.ofChange fnRunModelWrong)

/-- 'laws.FnRunOwn': WHATEVER THE INPUT: true; the input reads as it did. -/
def fnRunOwnSpec : ChangeSpec := { name := "fnRunOwn", fn := fun _ => fun
  | [d1, d2, d3] => { results := [.lit (.bool true)], args := [d1, d2, d3] }
  | _ => none }
def fnRunOwnRow : OpenClaim := { program := "ytjgjiaflccdflaadoor", sum := "8f6951711473888c7e200756f3b50d2447dac01696a52a95fc7e669c18592d2f", func := "lib-wickergate/laws.FnRunOwn", spec := "fnRunOwn", inPlace := ["internal/abi.NoEscape"], unfollowed := true, recurses := true, named := ["net/url.table"], apart := false, laid := [("net/url.table", laid_net_url_table)] }
def FnRunOwnSaid : Prop := fnRunOwnRow.holds Tryd.pinned (OpenSpec.ofChange fnRunOwnSpec)

/-- ITS FALSE NEIGHBOUR: 'it returns false'. Refute it at one input. -/
def fnRunOwnWrong : ChangeSpec := { name := "fnRunOwn", fn := fun _ => fun
  | [d1, d2, d3] => { results := [.lit (.bool false)], args := [d1, d2, d3] }
  | _ => none }
def FnRunOwnWrongFalsely : Prop := fnRunOwnRow.holds Tryd.pinned (OpenSpec.ofChange fnRunOwnWrong)

/-- 'laws.FnRunSplit': WHATEVER THE INPUT: true; the input reads as it did. -/
def fnRunSplitSpec : ChangeSpec := { name := "fnRunSplit", fn := fun _ => fun
  | [d1, d2, d3] => { results := [.lit (.bool true)], args := [d1, d2, d3] }
  | _ => none }
def fnRunSplitRow : OpenClaim := { program := "ytjgjiaflccdflaadoor", sum := "8f6951711473888c7e200756f3b50d2447dac01696a52a95fc7e669c18592d2f", func := "lib-wickergate/laws.FnRunSplit", spec := "fnRunSplit", inPlace := ["internal/abi.NoEscape"], unfollowed := true, recurses := true, named := ["net/url.table"], apart := false, laid := [("net/url.table", laid_net_url_table)] }
def FnRunSplitSaid : Prop := fnRunSplitRow.holds Tryd.pinned (OpenSpec.ofChange fnRunSplitSpec)

/-- ITS FALSE NEIGHBOUR: 'it returns false'. Refute it at one input. -/
def fnRunSplitWrong : ChangeSpec := { name := "fnRunSplit", fn := fun _ => fun
  | [d1, d2, d3] => { results := [.lit (.bool false)], args := [d1, d2, d3] }
  | _ => none }
def FnRunSplitWrongFalsely : Prop := fnRunSplitRow.holds Tryd.pinned (OpenSpec.ofChange fnRunSplitWrong)

/-- 'laws.FnRunWoven': WHATEVER THE INPUT: true; the input reads as it did. -/
def fnRunWovenSpec : ChangeSpec := { name := "fnRunWoven", fn := fun _ => fun
  | [d1, d2, d3, d4] => { results := [.lit (.bool true)], args := [d1, d2, d3, d4] }
  | _ => none }
def fnRunWovenRow : OpenClaim := { program := "ytjgjiaflccdflaadoor", sum := "8f6951711473888c7e200756f3b50d2447dac01696a52a95fc7e669c18592d2f", func := "lib-wickergate/laws.FnRunWoven", spec := "fnRunWoven", inPlace := ["internal/abi.NoEscape"], unfollowed := true, recurses := true, named := ["net/url.table"], apart := false, laid := [("net/url.table", laid_net_url_table)] }
def FnRunWovenSaid : Prop := fnRunWovenRow.holds Tryd.pinned (OpenSpec.ofChange fnRunWovenSpec)

/-- ITS FALSE NEIGHBOUR: 'it returns false'. Refute it at one input. -/
def fnRunWovenWrong : ChangeSpec := { name := "fnRunWoven", fn := fun _ => fun
  | [d1, d2, d3, d4] => { results := [.lit (.bool false)], args := [d1, d2, d3, d4] }
  | _ => none }
def FnRunWovenWrongFalsely : Prop := fnRunWovenRow.holds Tryd.pinned (OpenSpec.ofChange fnRunWovenWrong)

/-- 'laws.FnAskAnywhere': WHATEVER THE INPUT: true; the input reads as it did. -/
def fnAskAnywhereSpec : ChangeSpec := { name := "fnAskAnywhere", fn := fun _ => fun
  | [d1, d2, d3] => { results := [.lit (.bool true)], args := [d1, d2, d3] }
  | _ => none }
def fnAskAnywhereRow : OpenClaim := { program := "ytjgjiaflccdflaadoor", sum := "8f6951711473888c7e200756f3b50d2447dac01696a52a95fc7e669c18592d2f", func := "lib-wickergate/laws.FnAskAnywhere", spec := "fnAskAnywhere", inPlace := ["internal/abi.NoEscape"], unfollowed := true, recurses := true, named := ["net/url.table"], apart := false, laid := [("net/url.table", laid_net_url_table)] }
def FnAskAnywhereSaid : Prop := fnAskAnywhereRow.holds Tryd.pinned (OpenSpec.ofChange fnAskAnywhereSpec)

/-- ITS FALSE NEIGHBOUR: 'it returns false'. Refute it at one input. -/
def fnAskAnywhereWrong : ChangeSpec := { name := "fnAskAnywhere", fn := fun _ => fun
  | [d1, d2, d3] => { results := [.lit (.bool false)], args := [d1, d2, d3] }
  | _ => none }
def FnAskAnywhereWrongFalsely : Prop := fnAskAnywhereRow.holds Tryd.pinned (OpenSpec.ofChange fnAskAnywhereWrong)

/-- 'laws.FnEncodeBehind': WHATEVER THE INPUT: true; the input reads as it did. -/
def fnEncodeBehindSpec : ChangeSpec := { name := "fnEncodeBehind", fn := fun _ => fun
  | [d1, d2, d3] => { results := [.lit (.bool true)], args := [d1, d2, d3] }
  | _ => none }
def fnEncodeBehindRow : OpenClaim := { program := "ytjgjiaflccdflaadoor", sum := "8f6951711473888c7e200756f3b50d2447dac01696a52a95fc7e669c18592d2f", func := "lib-wickergate/laws.FnEncodeBehind", spec := "fnEncodeBehind", inPlace := ["internal/abi.NoEscape", "internal/bytealg.MakeNoZero"], unfollowed := true, recurses := true, named := ["net/url.table"], apart := false, laid := [("net/url.table", laid_net_url_table)] }
def FnEncodeBehindSaid : Prop := fnEncodeBehindRow.holds Tryd.pinned (OpenSpec.ofChange fnEncodeBehindSpec)

/-- ITS FALSE NEIGHBOUR: 'it returns false'. Refute it at one input. -/
def fnEncodeBehindWrong : ChangeSpec := { name := "fnEncodeBehind", fn := fun _ => fun
  | [d1, d2, d3] => { results := [.lit (.bool false)], args := [d1, d2, d3] }
  | _ => none }
def FnEncodeBehindWrongFalsely : Prop := fnEncodeBehindRow.holds Tryd.pinned (OpenSpec.ofChange fnEncodeBehindWrong)

/-- 'laws.FnEncodeGrows': WHATEVER THE INPUT: true; the input reads as it did. -/
def fnEncodeGrowsSpec : ChangeSpec := { name := "fnEncodeGrows", fn := fun _ => fun
  | [d1, d2, d3, d4] => { results := [.lit (.bool true)], args := [d1, d2, d3, d4] }
  | _ => none }
def fnEncodeGrowsRow : OpenClaim := { program := "ytjgjiaflccdflaadoor", sum := "8f6951711473888c7e200756f3b50d2447dac01696a52a95fc7e669c18592d2f", func := "lib-wickergate/laws.FnEncodeGrows", spec := "fnEncodeGrows", inPlace := ["internal/abi.NoEscape", "internal/bytealg.MakeNoZero"], unfollowed := true, recurses := true, named := ["net/url.table"], apart := false, laid := [("net/url.table", laid_net_url_table)] }
def FnEncodeGrowsSaid : Prop := fnEncodeGrowsRow.holds Tryd.pinned (OpenSpec.ofChange fnEncodeGrowsSpec)

/-- ITS FALSE NEIGHBOUR: 'it returns false'. Refute it at one input. -/
def fnEncodeGrowsWrong : ChangeSpec := { name := "fnEncodeGrows", fn := fun _ => fun
  | [d1, d2, d3, d4] => { results := [.lit (.bool false)], args := [d1, d2, d3, d4] }
  | _ => none }
def FnEncodeGrowsWrongFalsely : Prop := fnEncodeGrowsRow.holds Tryd.pinned (OpenSpec.ofChange fnEncodeGrowsWrong)

/-- 'laws.FnEncodeMade': WHATEVER THE INPUT: true; the input reads as it did. -/
def fnEncodeMadeSpec : ChangeSpec := { name := "fnEncodeMade", fn := fun _ => fun
  | [d1, d2] => { results := [.lit (.bool true)], args := [d1, d2] }
  | _ => none }
def fnEncodeMadeRow : OpenClaim := { program := "ytjgjiaflccdflaadoor", sum := "8f6951711473888c7e200756f3b50d2447dac01696a52a95fc7e669c18592d2f", func := "lib-wickergate/laws.FnEncodeMade", spec := "fnEncodeMade", inPlace := ["internal/abi.NoEscape", "internal/bytealg.MakeNoZero"], unfollowed := true, recurses := true, named := ["net/url.table"], apart := false, laid := [("net/url.table", laid_net_url_table)] }
def FnEncodeMadeSaid : Prop := fnEncodeMadeRow.holds Tryd.pinned (OpenSpec.ofChange fnEncodeMadeSpec)

/-- ITS FALSE NEIGHBOUR: 'it returns false'. Refute it at one input. -/
def fnEncodeMadeWrong : ChangeSpec := { name := "fnEncodeMade", fn := fun _ => fun
  | [d1, d2] => { results := [.lit (.bool false)], args := [d1, d2] }
  | _ => none }
def FnEncodeMadeWrongFalsely : Prop := fnEncodeMadeRow.holds Tryd.pinned (OpenSpec.ofChange fnEncodeMadeWrong)

/-- 'laws.FnEncodeTold': WHATEVER THE INPUT: true; the input reads as it did. -/
def fnEncodeToldSpec : ChangeSpec := { name := "fnEncodeTold", fn := fun _ => fun
  | [d1, d2] => { results := [.lit (.bool true)], args := [d1, d2] }
  | _ => none }
def fnEncodeToldRow : OpenClaim := { program := "ytjgjiaflccdflaadoor", sum := "8f6951711473888c7e200756f3b50d2447dac01696a52a95fc7e669c18592d2f", func := "lib-wickergate/laws.FnEncodeTold", spec := "fnEncodeTold", inPlace := ["internal/abi.NoEscape", "internal/bytealg.MakeNoZero"], unfollowed := true, recurses := true, named := ["net/url.table"], apart := false, laid := [("net/url.table", laid_net_url_table)] }
def FnEncodeToldSaid : Prop := fnEncodeToldRow.holds Tryd.pinned (OpenSpec.ofChange fnEncodeToldSpec)

/-- ITS FALSE NEIGHBOUR: 'it returns false'. Refute it at one input. -/
def fnEncodeToldWrong : ChangeSpec := { name := "fnEncodeTold", fn := fun _ => fun
  | [d1, d2] => { results := [.lit (.bool false)], args := [d1, d2] }
  | _ => none }
def FnEncodeToldWrongFalsely : Prop := fnEncodeToldRow.holds Tryd.pinned (OpenSpec.ofChange fnEncodeToldWrong)

/-- 'laws.FnEncodeWithout': WHATEVER THE INPUT: true; the input reads as it did. -/
def fnEncodeWithoutSpec : ChangeSpec := { name := "fnEncodeWithout", fn := fun _ => fun
  | [d1, d2, d3] => { results := [.lit (.bool true)], args := [d1, d2, d3] }
  | _ => none }
def fnEncodeWithoutRow : OpenClaim := { program := "ytjgjiaflccdflaadoor", sum := "8f6951711473888c7e200756f3b50d2447dac01696a52a95fc7e669c18592d2f", func := "lib-wickergate/laws.FnEncodeWithout", spec := "fnEncodeWithout", inPlace := ["internal/abi.NoEscape", "internal/bytealg.MakeNoZero"], unfollowed := true, recurses := true, named := ["net/url.table"], apart := false, laid := [("net/url.table", laid_net_url_table)] }
def FnEncodeWithoutSaid : Prop := fnEncodeWithoutRow.holds Tryd.pinned (OpenSpec.ofChange fnEncodeWithoutSpec)

/-- ITS FALSE NEIGHBOUR: 'it returns false'. Refute it at one input. -/
def fnEncodeWithoutWrong : ChangeSpec := { name := "fnEncodeWithout", fn := fun _ => fun
  | [d1, d2, d3] => { results := [.lit (.bool false)], args := [d1, d2, d3] }
  | _ => none }
def FnEncodeWithoutWrongFalsely : Prop := fnEncodeWithoutRow.holds Tryd.pinned (OpenSpec.ofChange fnEncodeWithoutWrong)

/- THE SECOND FORM. 'bulk': how many values and letters a reading holds, each counted each time it is reached (what is shared counts as often as it is met; a slice's spare places count too). A statement '..UptoSaid' is the law's where the arguments, and the package variables that the reading takes, are together of bulk at most 1048576: NARROWER than '..Said'. Prove '..Said' where nothing that the law and all that it calls make is longer than what came in: it says more and counts as full. Else prove '..UptoSaid'. A law counts once. -/
mutual
def uptoBulk {H : Type} : DataW H → Nat
  | .lit (.string bytes) => bytes.length + 1
  | .lit _ => 1
  | .nil => 1
  | .ptr d => uptoBulk d + 1
  | .slice elems spare => uptoBulkAll elems + uptoBulkAll spare + 1
  | .agg parts => uptoBulkAll parts + 1
  | .iface _ d => uptoBulk d + 1
  | .map entries => uptoBulkEntries entries + 1
  | .held _ => 1
def uptoBulkAll {H : Type} : List (DataW H) → Nat
  | [] => 0
  | d :: r => uptoBulk d + uptoBulkAll r
def uptoBulkEntries {H : Type} : List (Lit × DataW H) → Nat
  | [] => 0
  | x :: r => uptoBulkEntry x + uptoBulkEntries r
def uptoBulkEntry {H : Type} : Lit × DataW H → Nat
  | (.string bytes, d) => bytes.length + uptoBulk d + 1
  | (_, d) => uptoBulk d + 1
 end
def uptoSmall : (H : Type) → List (DataW H) → Bool := fun _ ds => decide (uptoBulkAll ds ≤ 1048576)
def OpenSpec.upto (s : _root_.Go.ChangeSpec) : _root_.Go.OpenSpec := { _root_.Go.OpenSpec.ofChange s with cond := some uptoSmall }

/-- 'laws.FnEncodeMerged', WHERE WHAT IT READS IS OF BULK AT MOST 1048576: true; the input reads as it did. -/
def fnEncodeMergedUptoRow : OpenClaim := { program := "ytjgjiaflccdflaadoor", sum := "8f6951711473888c7e200756f3b50d2447dac01696a52a95fc7e669c18592d2f", func := "lib-wickergate/laws.FnEncodeMerged", spec := "fnEncodeMerged", inPlace := ["internal/abi.NoEscape"], unfollowed := true, recurses := true, named := ["net/url.table"], apart := false, laid := [("net/url.table", laid_net_url_table)], narrowed := true }
def FnEncodeMergedUptoSaid : Prop := fnEncodeMergedUptoRow.holds Tryd.pinned (OpenSpec.upto fnEncodeMergedSpec)

/-- 'laws.FnRunAgain', WHERE WHAT IT READS IS OF BULK AT MOST 1048576: true; the input reads as it did. -/
def fnRunAgainUptoRow : OpenClaim := { program := "ytjgjiaflccdflaadoor", sum := "8f6951711473888c7e200756f3b50d2447dac01696a52a95fc7e669c18592d2f", func := "lib-wickergate/laws.FnRunAgain", spec := "fnRunAgain", inPlace := ["internal/abi.NoEscape"], unfollowed := true, recurses := true, named := ["net/url.table"], apart := false, laid := [("net/url.table", laid_net_url_table)], narrowed := true }
def FnRunAgainUptoSaid : Prop := fnRunAgainUptoRow.holds Tryd.pinned (OpenSpec.upto fnRunAgainSpec)

/-- 'laws.FnRunBack', WHERE WHAT IT READS IS OF BULK AT MOST 1048576: true; the input reads as it did. -/
def fnRunBackUptoRow : OpenClaim := { program := "ytjgjiaflccdflaadoor", sum := "8f6951711473888c7e200756f3b50d2447dac01696a52a95fc7e669c18592d2f", func := "lib-wickergate/laws.FnRunBack", spec := "fnRunBack", inPlace := ["internal/abi.NoEscape"], unfollowed := true, recurses := true, named := ["net/url.table"], apart := false, laid := [("net/url.table", laid_net_url_table)], narrowed := true }
def FnRunBackUptoSaid : Prop := fnRunBackUptoRow.holds Tryd.pinned (OpenSpec.upto fnRunBackSpec)

/-- 'laws.FnRunLater', WHERE WHAT IT READS IS OF BULK AT MOST 1048576: true; the input reads as it did. -/
def fnRunLaterUptoRow : OpenClaim := { program := "ytjgjiaflccdflaadoor", sum := "8f6951711473888c7e200756f3b50d2447dac01696a52a95fc7e669c18592d2f", func := "lib-wickergate/laws.FnRunLater", spec := "fnRunLater", inPlace := ["internal/abi.NoEscape"], unfollowed := true, recurses := true, named := ["net/url.table"], apart := false, laid := [("net/url.table", laid_net_url_table)], narrowed := true }
def FnRunLaterUptoSaid : Prop := fnRunLaterUptoRow.holds Tryd.pinned (OpenSpec.upto fnRunLaterSpec)

/-- 'laws.FnRunModel', WHERE WHAT IT READS IS OF BULK AT MOST 1048576: true; the input reads as it did. -/
def fnRunModelUptoRow : OpenClaim := { program := "ytjgjiaflccdflaadoor", sum := "8f6951711473888c7e200756f3b50d2447dac01696a52a95fc7e669c18592d2f", func := "lib-wickergate/laws.FnRunModel", spec := "fnRunModel", inPlace := ["internal/abi.NoEscape"], unfollowed := true, recurses := true, named := ["net/url.table"], apart := false, laid := [("net/url.table", laid_net_url_table)], narrowed := true }
def FnRunModelUptoSaid : Prop := fnRunModelUptoRow.holds Tryd.pinned (OpenSpec.upto fnRunModelSpec)

/-- 'laws.FnRunOwn', WHERE WHAT IT READS IS OF BULK AT MOST 1048576: true; the input reads as it did. -/
def fnRunOwnUptoRow : OpenClaim := { program := "ytjgjiaflccdflaadoor", sum := "8f6951711473888c7e200756f3b50d2447dac01696a52a95fc7e669c18592d2f", func := "lib-wickergate/laws.FnRunOwn", spec := "fnRunOwn", inPlace := ["internal/abi.NoEscape"], unfollowed := true, recurses := true, named := ["net/url.table"], apart := false, laid := [("net/url.table", laid_net_url_table)], narrowed := true }
def FnRunOwnUptoSaid : Prop := fnRunOwnUptoRow.holds Tryd.pinned (OpenSpec.upto fnRunOwnSpec)

/-- 'laws.FnRunSplit', WHERE WHAT IT READS IS OF BULK AT MOST 1048576: true; the input reads as it did. -/
def fnRunSplitUptoRow : OpenClaim := { program := "ytjgjiaflccdflaadoor", sum := "8f6951711473888c7e200756f3b50d2447dac01696a52a95fc7e669c18592d2f", func := "lib-wickergate/laws.FnRunSplit", spec := "fnRunSplit", inPlace := ["internal/abi.NoEscape"], unfollowed := true, recurses := true, named := ["net/url.table"], apart := false, laid := [("net/url.table", laid_net_url_table)], narrowed := true }
def FnRunSplitUptoSaid : Prop := fnRunSplitUptoRow.holds Tryd.pinned (OpenSpec.upto fnRunSplitSpec)

/-- 'laws.FnRunWoven', WHERE WHAT IT READS IS OF BULK AT MOST 1048576: true; the input reads as it did. -/
def fnRunWovenUptoRow : OpenClaim := { program := "ytjgjiaflccdflaadoor", sum := "8f6951711473888c7e200756f3b50d2447dac01696a52a95fc7e669c18592d2f", func := "lib-wickergate/laws.FnRunWoven", spec := "fnRunWoven", inPlace := ["internal/abi.NoEscape"], unfollowed := true, recurses := true, named := ["net/url.table"], apart := false, laid := [("net/url.table", laid_net_url_table)], narrowed := true }
def FnRunWovenUptoSaid : Prop := fnRunWovenUptoRow.holds Tryd.pinned (OpenSpec.upto fnRunWovenSpec)

/-- 'laws.FnAskAnywhere', WHERE WHAT IT READS IS OF BULK AT MOST 1048576: true; the input reads as it did. -/
def fnAskAnywhereUptoRow : OpenClaim := { program := "ytjgjiaflccdflaadoor", sum := "8f6951711473888c7e200756f3b50d2447dac01696a52a95fc7e669c18592d2f", func := "lib-wickergate/laws.FnAskAnywhere", spec := "fnAskAnywhere", inPlace := ["internal/abi.NoEscape"], unfollowed := true, recurses := true, named := ["net/url.table"], apart := false, laid := [("net/url.table", laid_net_url_table)], narrowed := true }
def FnAskAnywhereUptoSaid : Prop := fnAskAnywhereUptoRow.holds Tryd.pinned (OpenSpec.upto fnAskAnywhereSpec)

/-- 'laws.FnEncodeBehind', WHERE WHAT IT READS IS OF BULK AT MOST 1048576: true; the input reads as it did. -/
def fnEncodeBehindUptoRow : OpenClaim := { program := "ytjgjiaflccdflaadoor", sum := "8f6951711473888c7e200756f3b50d2447dac01696a52a95fc7e669c18592d2f", func := "lib-wickergate/laws.FnEncodeBehind", spec := "fnEncodeBehind", inPlace := ["internal/abi.NoEscape", "internal/bytealg.MakeNoZero"], unfollowed := true, recurses := true, named := ["net/url.table"], apart := false, laid := [("net/url.table", laid_net_url_table)], narrowed := true }
def FnEncodeBehindUptoSaid : Prop := fnEncodeBehindUptoRow.holds Tryd.pinned (OpenSpec.upto fnEncodeBehindSpec)

/-- 'laws.FnEncodeGrows', WHERE WHAT IT READS IS OF BULK AT MOST 1048576: true; the input reads as it did. -/
def fnEncodeGrowsUptoRow : OpenClaim := { program := "ytjgjiaflccdflaadoor", sum := "8f6951711473888c7e200756f3b50d2447dac01696a52a95fc7e669c18592d2f", func := "lib-wickergate/laws.FnEncodeGrows", spec := "fnEncodeGrows", inPlace := ["internal/abi.NoEscape", "internal/bytealg.MakeNoZero"], unfollowed := true, recurses := true, named := ["net/url.table"], apart := false, laid := [("net/url.table", laid_net_url_table)], narrowed := true }
def FnEncodeGrowsUptoSaid : Prop := fnEncodeGrowsUptoRow.holds Tryd.pinned (OpenSpec.upto fnEncodeGrowsSpec)

/-- 'laws.FnEncodeMade', WHERE WHAT IT READS IS OF BULK AT MOST 1048576: true; the input reads as it did. -/
def fnEncodeMadeUptoRow : OpenClaim := { program := "ytjgjiaflccdflaadoor", sum := "8f6951711473888c7e200756f3b50d2447dac01696a52a95fc7e669c18592d2f", func := "lib-wickergate/laws.FnEncodeMade", spec := "fnEncodeMade", inPlace := ["internal/abi.NoEscape", "internal/bytealg.MakeNoZero"], unfollowed := true, recurses := true, named := ["net/url.table"], apart := false, laid := [("net/url.table", laid_net_url_table)], narrowed := true }
def FnEncodeMadeUptoSaid : Prop := fnEncodeMadeUptoRow.holds Tryd.pinned (OpenSpec.upto fnEncodeMadeSpec)

/-- 'laws.FnEncodeTold', WHERE WHAT IT READS IS OF BULK AT MOST 1048576: true; the input reads as it did. -/
def fnEncodeToldUptoRow : OpenClaim := { program := "ytjgjiaflccdflaadoor", sum := "8f6951711473888c7e200756f3b50d2447dac01696a52a95fc7e669c18592d2f", func := "lib-wickergate/laws.FnEncodeTold", spec := "fnEncodeTold", inPlace := ["internal/abi.NoEscape", "internal/bytealg.MakeNoZero"], unfollowed := true, recurses := true, named := ["net/url.table"], apart := false, laid := [("net/url.table", laid_net_url_table)], narrowed := true }
def FnEncodeToldUptoSaid : Prop := fnEncodeToldUptoRow.holds Tryd.pinned (OpenSpec.upto fnEncodeToldSpec)

/-- 'laws.FnEncodeWithout', WHERE WHAT IT READS IS OF BULK AT MOST 1048576: true; the input reads as it did. -/
def fnEncodeWithoutUptoRow : OpenClaim := { program := "ytjgjiaflccdflaadoor", sum := "8f6951711473888c7e200756f3b50d2447dac01696a52a95fc7e669c18592d2f", func := "lib-wickergate/laws.FnEncodeWithout", spec := "fnEncodeWithout", inPlace := ["internal/abi.NoEscape", "internal/bytealg.MakeNoZero"], unfollowed := true, recurses := true, named := ["net/url.table"], apart := false, laid := [("net/url.table", laid_net_url_table)], narrowed := true }
def FnEncodeWithoutUptoSaid : Prop := fnEncodeWithoutUptoRow.holds Tryd.pinned (OpenSpec.upto fnEncodeWithoutSpec)

end Rows
end Go.Proofs.YtjgjiaflccdflaaDoor
