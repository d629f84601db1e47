/-
  No cell of these rows narrows 'for every input' (looked for: loops, veiled, ifaces, maps, wideKeys, modest, calm, conditions, laid).
  DERIVED. THE GIVEN ROWS OF THIS SEAT. 6 by the template 'for every input the law returns true; each argument reads behind the call as it read before'; 0 by the template 'total and deterministic' (their statements: Qxb6602717aTotals.lean).
  GIVEN WITH THE SEED: the statements are not yours to turn. If you find one false, say at which input.
  Laid BY PROGRAM, IN A SANDBOX (cutbox-rows.mjs): the forced cells as the released guide's own fill.sh prints them over the translation c6bd8fd131d8d4b6… (all of the seat's roots in one cut). By AI agents, Wed Nov 11 2026. No macro, syntax, notation, axiom, sorry.
-/
import Derived.Test.Qxb6602717aChecked
import GoSem.Claim
import GoSem.ClaimJoined
import GoSem.ClaimMapViews
import Derived.JoinedTies
import Derived.KernelRfl
namespace Go.Proofs.Qxb6602717a
/- THE CELL 'sum', in the pinned program and in every row, IS THE sha256 OF THE DUMP (.gsa) THAT Qxb6602717aProg.lean LOADS. Nothing in Lean hashes anything: it is a label: what it is worth is what the hold of that sum in a sandbox is worth. -/
noncomputable def Try.pinned : Pinned := { name := "qxb6602717a", sum := "c6bd8fd131d8d4b695cae0a7bcd88bf0899a038fae5e36ba76c4ed8c13d748fe", checked := Try.checked }
namespace Rows
def none {H : Type} : Left H := { results := [], args := [] }

/-- 'zzlaws_pkg_linediff_b1.FnShortestIsMinimalScript': WHATEVER THE INPUT: true; the input reads as it did. -/
def fnShortestIsMinimalScriptSpec : ChangeSpec := { name := "fnShortestIsMinimalScript", fn := fun _ => fun
  | [d1, d2] => { results := [.lit (.bool true)], args := [d1, d2] }
  | _ => none }
def fnShortestIsMinimalScriptRow : OpenClaim := { program := "qxb6602717a", sum := "c6bd8fd131d8d4b695cae0a7bcd88bf0899a038fae5e36ba76c4ed8c13d748fe", func := "example.com/harborwright/harborwright/zzlaws_pkg_linediff_b1.FnShortestIsMinimalScript", spec := "fnShortestIsMinimalScript", unfollowed := true, recurses := true, apart := false }
def FnShortestIsMinimalScriptSaid : Prop := fnShortestIsMinimalScriptRow.holds Try.pinned (OpenSpec.ofChange fnShortestIsMinimalScriptSpec)

/-- ITS FALSE NEIGHBOUR: 'it returns false'. Refute it at one input. -/
def fnShortestIsMinimalScriptWrong : ChangeSpec := { name := "fnShortestIsMinimalScript", fn := fun _ => fun
  | [d1, d2] => { results := [.lit (.bool false)], args := [d1, d2] }
  | _ => none }
def FnShortestIsMinimalScriptWrongFalsely : Prop := fnShortestIsMinimalScriptRow.holds Try.pinned (OpenSpec.ofChange fnShortestIsMinimalScriptWrong)

/-- 'zzlaws_pkg_linediff_b1.FnShortestMirrorsUnderSwap': WHATEVER THE INPUT: true; the input reads as it did. -/
def fnShortestMirrorsUnderSwapSpec : ChangeSpec := { name := "fnShortestMirrorsUnderSwap", fn := fun _ => fun
  | [d1, d2] => { results := [.lit (.bool true)], args := [d1, d2] }
  | _ => none }
def fnShortestMirrorsUnderSwapRow : OpenClaim := { program := "qxb6602717a", sum := "c6bd8fd131d8d4b695cae0a7bcd88bf0899a038fae5e36ba76c4ed8c13d748fe", func := "example.com/harborwright/harborwright/zzlaws_pkg_linediff_b1.FnShortestMirrorsUnderSwap", spec := "fnShortestMirrorsUnderSwap", unfollowed := true, recurses := true, apart := false }
def FnShortestMirrorsUnderSwapSaid : Prop := fnShortestMirrorsUnderSwapRow.holds Try.pinned (OpenSpec.ofChange fnShortestMirrorsUnderSwapSpec)

/-- ITS FALSE NEIGHBOUR: 'it returns false'. Refute it at one input. -/
def fnShortestMirrorsUnderSwapWrong : ChangeSpec := { name := "fnShortestMirrorsUnderSwap", fn := fun _ => fun
  | [d1, d2] => { results := [.lit (.bool false)], args := [d1, d2] }
  | _ => none }
def FnShortestMirrorsUnderSwapWrongFalsely : Prop := fnShortestMirrorsUnderSwapRow.holds Try.pinned (OpenSpec.ofChange fnShortestMirrorsUnderSwapWrong)

/-- 'zzlaws_pkg_linediff_b1.FnLinesIsMinimalDiff': WHATEVER THE INPUT: true; the input reads as it did. -/
def fnLinesIsMinimalDiffSpec : ChangeSpec := { name := "fnLinesIsMinimalDiff", fn := fun _ => fun
  | [d1, d2] => { results := [.lit (.bool true)], args := [d1, d2] }
  | _ => none }
def fnLinesIsMinimalDiffRow : OpenClaim := { program := "qxb6602717a", sum := "c6bd8fd131d8d4b695cae0a7bcd88bf0899a038fae5e36ba76c4ed8c13d748fe", func := "example.com/harborwright/harborwright/zzlaws_pkg_linediff_b1.FnLinesIsMinimalDiff", spec := "fnLinesIsMinimalDiff", unfollowed := true, recurses := true, apart := false }
def FnLinesIsMinimalDiffSaid : Prop := fnLinesIsMinimalDiffRow.holds Try.pinned (OpenSpec.ofChange fnLinesIsMinimalDiffSpec)

/-- ITS FALSE NEIGHBOUR: 'it returns false'. Refute it at one input. -/
def fnLinesIsMinimalDiffWrong : ChangeSpec := { name := "fnLinesIsMinimalDiff", fn := fun _ => fun
  | [d1, d2] => { results := [.lit (.bool false)], args := [d1, d2] }
  | _ => none }
def FnLinesIsMinimalDiffWrongFalsely : Prop := fnLinesIsMinimalDiffRow.holds Try.pinned (OpenSpec.ofChange fnLinesIsMinimalDiffWrong)

/-- 'zzlaws_pkg_linediff_b1.FnLinesCommonPrefixShifts': WHATEVER THE INPUT: true; the input reads as it did. -/
def fnLinesCommonPrefixShiftsSpec : ChangeSpec := { name := "fnLinesCommonPrefixShifts", fn := fun _ => fun
  | [d1, d2, d3] => { results := [.lit (.bool true)], args := [d1, d2, d3] }
  | _ => none }
def fnLinesCommonPrefixShiftsRow : OpenClaim := { program := "qxb6602717a", sum := "c6bd8fd131d8d4b695cae0a7bcd88bf0899a038fae5e36ba76c4ed8c13d748fe", func := "example.com/harborwright/harborwright/zzlaws_pkg_linediff_b1.FnLinesCommonPrefixShifts", spec := "fnLinesCommonPrefixShifts", unfollowed := true, recurses := true, apart := false }
def FnLinesCommonPrefixShiftsSaid : Prop := fnLinesCommonPrefixShiftsRow.holds Try.pinned (OpenSpec.ofChange fnLinesCommonPrefixShiftsSpec)

/-- ITS FALSE NEIGHBOUR: 'it returns false'. Refute it at one input. -/
def fnLinesCommonPrefixShiftsWrong : ChangeSpec := { name := "fnLinesCommonPrefixShifts", fn := fun _ => fun
  | [d1, d2, d3] => { results := [.lit (.bool false)], args := [d1, d2, d3] }
  | _ => none }
def FnLinesCommonPrefixShiftsWrongFalsely : Prop := fnLinesCommonPrefixShiftsRow.holds Try.pinned (OpenSpec.ofChange fnLinesCommonPrefixShiftsWrong)

/-- 'zzlaws_pkg_linediff_b1.FnHunksMatchCoverModel': WHATEVER THE INPUT: true; the input reads as it did. -/
def fnHunksMatchCoverModelSpec : ChangeSpec := { name := "fnHunksMatchCoverModel", fn := fun _ => fun
  | [d1, d2, d3] => { results := [.lit (.bool true)], args := [d1, d2, d3] }
  | _ => none }
def fnHunksMatchCoverModelRow : OpenClaim := { program := "qxb6602717a", sum := "c6bd8fd131d8d4b695cae0a7bcd88bf0899a038fae5e36ba76c4ed8c13d748fe", func := "example.com/harborwright/harborwright/zzlaws_pkg_linediff_b1.FnHunksMatchCoverModel", spec := "fnHunksMatchCoverModel", unfollowed := true, recurses := true, apart := false }
def FnHunksMatchCoverModelSaid : Prop := fnHunksMatchCoverModelRow.holds Try.pinned (OpenSpec.ofChange fnHunksMatchCoverModelSpec)

/-- ITS FALSE NEIGHBOUR: 'it returns false'. Refute it at one input. -/
def fnHunksMatchCoverModelWrong : ChangeSpec := { name := "fnHunksMatchCoverModel", fn := fun _ => fun
  | [d1, d2, d3] => { results := [.lit (.bool false)], args := [d1, d2, d3] }
  | _ => none }
def FnHunksMatchCoverModelWrongFalsely : Prop := fnHunksMatchCoverModelRow.holds Try.pinned (OpenSpec.ofChange fnHunksMatchCoverModelWrong)

/-- 'zzlaws_pkg_linediff_b1.FnHunksFewerAsContextGrows': WHATEVER THE INPUT: true; the input reads as it did. -/
def fnHunksFewerAsContextGrowsSpec : ChangeSpec := { name := "fnHunksFewerAsContextGrows", fn := fun _ => fun
  | [d1, d2, d3, d4] => { results := [.lit (.bool true)], args := [d1, d2, d3, d4] }
  | _ => none }
def fnHunksFewerAsContextGrowsRow : OpenClaim := { program := "qxb6602717a", sum := "c6bd8fd131d8d4b695cae0a7bcd88bf0899a038fae5e36ba76c4ed8c13d748fe", func := "example.com/harborwright/harborwright/zzlaws_pkg_linediff_b1.FnHunksFewerAsContextGrows", spec := "fnHunksFewerAsContextGrows", unfollowed := true, recurses := true, apart := false }
def FnHunksFewerAsContextGrowsSaid : Prop := fnHunksFewerAsContextGrowsRow.holds Try.pinned (OpenSpec.ofChange fnHunksFewerAsContextGrowsSpec)

/-- ITS FALSE NEIGHBOUR: 'it returns false'. Refute it at one input. -/
def fnHunksFewerAsContextGrowsWrong : ChangeSpec := { name := "fnHunksFewerAsContextGrows", fn := fun _ => fun
  | [d1, d2, d3, d4] => { results := [.lit (.bool false)], args := [d1, d2, d3, d4] }
  | _ => none }
def FnHunksFewerAsContextGrowsWrongFalsely : Prop := fnHunksFewerAsContextGrowsRow.holds Try.pinned (OpenSpec.ofChange fnHunksFewerAsContextGrowsWrong)

end Rows
end Go.Proofs.Qxb6602717a
