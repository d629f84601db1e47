/-
  No cell of these rows narrows 'for every input' (looked for: loops, veiled, ifaces, maps, wideKeys, modest, calm, conditions, laid).
  DERIVED. THE GIVEN ROWS OF THIS SEAT. 2 by the template 'for every input the law returns true; each argument reads behind the call as it read before'; 0 by the template 'total and deterministic' (their statements: Qxb6602836aTotals.lean).
  GIVEN WITH THE SEED: the statements are not yours to turn. If you find one false, say at which input.
  Laid BY PROGRAM, IN A SANDBOX (cutbox-rows.mjs): the forced cells as the released guide's own fill.sh prints them over the translation 6b5eb9f654c77d49… (all of the seat's roots in one cut). By AI agents, Wed Nov 11 2026. No macro, syntax, notation, axiom, sorry.
-/
import Derived.Test.Qxb6602836aChecked
import GoSem.Claim
import GoSem.ClaimJoined
import GoSem.ClaimMapViews
import Derived.JoinedTies
import Derived.KernelRfl
namespace Go.Proofs.Qxb6602836a
/- THE CELL 'sum', in the pinned program and in every row, IS THE sha256 OF THE DUMP (.gsa) THAT Qxb6602836aProg.lean LOADS. Nothing in Lean hashes anything: it is a label: what it is worth is what the hold of that sum in a sandbox is worth. -/
noncomputable def Try.pinned : Pinned := { name := "qxb6602836a", sum := "6b5eb9f654c77d497a0cbb3665a0fac6f0f77c4975118ae1f0c83fbf24040efc", checked := Try.checked }
namespace Rows
def none {H : Type} : Left H := { results := [], args := [] }

/-- 'zzlaws_root_b1.FnSqliteFoldMatchesLetterTable': WHATEVER THE INPUT: true; the input reads as it did. -/
def fnSqliteFoldMatchesLetterTableSpec : ChangeSpec := { name := "fnSqliteFoldMatchesLetterTable", fn := fun _ => fun
  | [d] => { results := [.lit (.bool true)], args := [d] }
  | _ => none }
def fnSqliteFoldMatchesLetterTableRow : OpenClaim := { program := "qxb6602836a", sum := "6b5eb9f654c77d497a0cbb3665a0fac6f0f77c4975118ae1f0c83fbf24040efc", func := "example.com/latchet/latchet/zzlaws_root_b1.FnSqliteFoldMatchesLetterTable", spec := "fnSqliteFoldMatchesLetterTable", apart := false }
def FnSqliteFoldMatchesLetterTableSaid : Prop := fnSqliteFoldMatchesLetterTableRow.holds Try.pinned (OpenSpec.ofChange fnSqliteFoldMatchesLetterTableSpec)

/-- ITS FALSE NEIGHBOUR: 'it returns false'. Refute it at one input. -/
def fnSqliteFoldMatchesLetterTableWrong : ChangeSpec := { name := "fnSqliteFoldMatchesLetterTable", fn := fun _ => fun
  | [d] => { results := [.lit (.bool false)], args := [d] }
  | _ => none }
def FnSqliteFoldMatchesLetterTableWrongFalsely : Prop := fnSqliteFoldMatchesLetterTableRow.holds Try.pinned (OpenSpec.ofChange fnSqliteFoldMatchesLetterTableWrong)

/-- 'zzlaws_root_b1.FnSqliteFoldIgnoresAsciiCase': WHATEVER THE INPUT: true; the input reads as it did. -/
def fnSqliteFoldIgnoresAsciiCaseSpec : ChangeSpec := { name := "fnSqliteFoldIgnoresAsciiCase", fn := fun _ => fun
  | [d] => { results := [.lit (.bool true)], args := [d] }
  | _ => none }
def fnSqliteFoldIgnoresAsciiCaseRow : OpenClaim := { program := "qxb6602836a", sum := "6b5eb9f654c77d497a0cbb3665a0fac6f0f77c4975118ae1f0c83fbf24040efc", func := "example.com/latchet/latchet/zzlaws_root_b1.FnSqliteFoldIgnoresAsciiCase", spec := "fnSqliteFoldIgnoresAsciiCase", apart := false }
def FnSqliteFoldIgnoresAsciiCaseSaid : Prop := fnSqliteFoldIgnoresAsciiCaseRow.holds Try.pinned (OpenSpec.ofChange fnSqliteFoldIgnoresAsciiCaseSpec)

/-- ITS FALSE NEIGHBOUR: 'it returns false'. Refute it at one input. -/
def fnSqliteFoldIgnoresAsciiCaseWrong : ChangeSpec := { name := "fnSqliteFoldIgnoresAsciiCase", fn := fun _ => fun
  | [d] => { results := [.lit (.bool false)], args := [d] }
  | _ => none }
def FnSqliteFoldIgnoresAsciiCaseWrongFalsely : Prop := fnSqliteFoldIgnoresAsciiCaseRow.holds Try.pinned (OpenSpec.ofChange fnSqliteFoldIgnoresAsciiCaseWrong)

end Rows
end Go.Proofs.Qxb6602836a
