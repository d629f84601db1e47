/-
  No cell of these rows narrows 'for every input' (looked for: loops, veiled, ifaces, maps, wideKeys, modest, calm, conditions, laid).
  DERIVED. THE GIVEN ROWS OF THIS SEAT. 3 by the template 'for every input the law returns true; each argument reads behind the call as it read before'; 0 by the template 'total and deterministic' (their statements: Qxb6603052aTotals.lean).
  GIVEN WITH THE SEED: the statements are not yours to turn. If you find one false, say at which input.
  Laid BY PROGRAM, IN A SANDBOX (cutbox-rows.mjs): the forced cells as the released guide's own fill.sh prints them over the translation 95cad0e2b6cf3ad3… (all of the seat's roots in one cut). By AI agents, Wed Nov 11 2026. No macro, syntax, notation, axiom, sorry.
-/
import Derived.Test.Qxb6603052aChecked
import GoSem.Claim
import GoSem.ClaimJoined
import GoSem.ClaimMapViews
import Derived.JoinedTies
import Derived.KernelRfl
namespace Go.Proofs.Qxb6603052a
/- THE CELL 'sum', in the pinned program and in every row, IS THE sha256 OF THE DUMP (.gsa) THAT Qxb6603052aProg.lean LOADS. Nothing in Lean hashes anything: it is a label: what it is worth is what the hold of that sum in a sandbox is worth. -/
noncomputable def Try.pinned : Pinned := { name := "qxb6603052a", sum := "95cad0e2b6cf3ad3d12b0051a52d0ab111b1f17e5b8ccc87092a7305c1384726", checked := Try.checked }
namespace Rows
def none {H : Type} : Left H := { results := [], args := [] }

/-- 'zzlaws_internal_textdiff_b1.FnShortestIsAShortestScript': WHATEVER THE INPUT: true; the input reads as it did. -/
def fnShortestIsAShortestScriptSpec : ChangeSpec := { name := "fnShortestIsAShortestScript", fn := fun _ => fun
  | [d1, d2] => { results := [.lit (.bool true)], args := [d1, d2] }
  | _ => none }
def fnShortestIsAShortestScriptRow : OpenClaim := { program := "qxb6603052a", sum := "95cad0e2b6cf3ad3d12b0051a52d0ab111b1f17e5b8ccc87092a7305c1384726", func := "example.com/joinwright/joinwright/zzlaws_internal_textdiff_b1.FnShortestIsAShortestScript", spec := "fnShortestIsAShortestScript", apart := false }
def FnShortestIsAShortestScriptSaid : Prop := fnShortestIsAShortestScriptRow.holds Try.pinned (OpenSpec.ofChange fnShortestIsAShortestScriptSpec)

/-- ITS FALSE NEIGHBOUR: 'it returns false'. Refute it at one input. -/
def fnShortestIsAShortestScriptWrong : ChangeSpec := { name := "fnShortestIsAShortestScript", fn := fun _ => fun
  | [d1, d2] => { results := [.lit (.bool false)], args := [d1, d2] }
  | _ => none }
def FnShortestIsAShortestScriptWrongFalsely : Prop := fnShortestIsAShortestScriptRow.holds Try.pinned (OpenSpec.ofChange fnShortestIsAShortestScriptWrong)

/-- 'zzlaws_internal_textdiff_b1.FnScriptIsAShortestTrimmedScript': WHATEVER THE INPUT: true; the input reads as it did. -/
def fnScriptIsAShortestTrimmedScriptSpec : ChangeSpec := { name := "fnScriptIsAShortestTrimmedScript", fn := fun _ => fun
  | [d1, d2] => { results := [.lit (.bool true)], args := [d1, d2] }
  | _ => none }
def fnScriptIsAShortestTrimmedScriptRow : OpenClaim := { program := "qxb6603052a", sum := "95cad0e2b6cf3ad3d12b0051a52d0ab111b1f17e5b8ccc87092a7305c1384726", func := "example.com/joinwright/joinwright/zzlaws_internal_textdiff_b1.FnScriptIsAShortestTrimmedScript", spec := "fnScriptIsAShortestTrimmedScript", apart := false }
def FnScriptIsAShortestTrimmedScriptSaid : Prop := fnScriptIsAShortestTrimmedScriptRow.holds Try.pinned (OpenSpec.ofChange fnScriptIsAShortestTrimmedScriptSpec)

/-- ITS FALSE NEIGHBOUR: 'it returns false'. Refute it at one input. -/
def fnScriptIsAShortestTrimmedScriptWrong : ChangeSpec := { name := "fnScriptIsAShortestTrimmedScript", fn := fun _ => fun
  | [d1, d2] => { results := [.lit (.bool false)], args := [d1, d2] }
  | _ => none }
def FnScriptIsAShortestTrimmedScriptWrongFalsely : Prop := fnScriptIsAShortestTrimmedScriptRow.holds Try.pinned (OpenSpec.ofChange fnScriptIsAShortestTrimmedScriptWrong)

/-- 'zzlaws_internal_textdiff_b1.FnScriptNeverLongerThanShortest': WHATEVER THE INPUT: true; the input reads as it did. -/
def fnScriptNeverLongerThanShortestSpec : ChangeSpec := { name := "fnScriptNeverLongerThanShortest", fn := fun _ => fun
  | [d1, d2] => { results := [.lit (.bool true)], args := [d1, d2] }
  | _ => none }
def fnScriptNeverLongerThanShortestRow : OpenClaim := { program := "qxb6603052a", sum := "95cad0e2b6cf3ad3d12b0051a52d0ab111b1f17e5b8ccc87092a7305c1384726", func := "example.com/joinwright/joinwright/zzlaws_internal_textdiff_b1.FnScriptNeverLongerThanShortest", spec := "fnScriptNeverLongerThanShortest", apart := false }
def FnScriptNeverLongerThanShortestSaid : Prop := fnScriptNeverLongerThanShortestRow.holds Try.pinned (OpenSpec.ofChange fnScriptNeverLongerThanShortestSpec)

/-- ITS FALSE NEIGHBOUR: 'it returns false'. Refute it at one input. -/
def fnScriptNeverLongerThanShortestWrong : ChangeSpec := { name := "fnScriptNeverLongerThanShortest", fn := fun _ => fun
  | [d1, d2] => { results := [.lit (.bool false)], args := [d1, d2] }
  | _ => none }
def FnScriptNeverLongerThanShortestWrongFalsely : Prop := fnScriptNeverLongerThanShortestRow.holds Try.pinned (OpenSpec.ofChange fnScriptNeverLongerThanShortestWrong)

end Rows
end Go.Proofs.Qxb6603052a
