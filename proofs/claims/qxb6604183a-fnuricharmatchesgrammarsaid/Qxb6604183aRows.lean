/-
  No cell of these rows narrows 'for every input' (looked for: loops, veiled, ifaces, maps, wideKeys, modest, calm, conditions, laid).
  DERIVED. THE GIVEN ROWS OF THIS SEAT. 4 by the template 'for every input the law returns true; each argument reads behind the call as it read before'; 0 by the template 'total and deterministic' (their statements: Qxb6604183aTotals.lean).
  GIVEN WITH THE SEED: the statements are not yours to turn. If you find one false, say at which input.
  Laid BY PROGRAM, IN A SANDBOX (cutbox-rows.mjs): the forced cells as the released guide's own fill.sh prints them over the translation 0560758222ee3a48… (all of the seat's roots in one cut). By AI agents, Wed Nov 11 2026. No macro, syntax, notation, axiom, sorry.
-/
import Derived.Test.Qxb6604183aChecked
import GoSem.Claim
import GoSem.ClaimJoined
import GoSem.ClaimMapViews
import Derived.JoinedTies
import Derived.KernelRfl
namespace Go.Proofs.Qxb6604183a
/- THE CELL 'sum', in the pinned program and in every row, IS THE sha256 OF THE DUMP (.gsa) THAT Qxb6604183aProg.lean LOADS. Nothing in Lean hashes anything: it is a label: what it is worth is what the hold of that sum in a sandbox is worth. -/
noncomputable def Try.pinned : Pinned := { name := "qxb6604183a", sum := "0560758222ee3a48036a5b59cae6bd15199cfc465d9c21dda40675237751e471", checked := Try.checked }
namespace Rows
def none {H : Type} : Left H := { results := [], args := [] }

/-- 'zzlaws_pkg_check_b1.FnUriCharMatchesGrammar': WHATEVER THE INPUT: true; the input reads as it did. -/
def fnUriCharMatchesGrammarSpec : ChangeSpec := { name := "fnUriCharMatchesGrammar", fn := fun _ => fun
  | [d1, d2, d3] => { results := [.lit (.bool true)], args := [d1, d2, d3] }
  | _ => none }
def fnUriCharMatchesGrammarRow : OpenClaim := { program := "qxb6604183a", sum := "0560758222ee3a48036a5b59cae6bd15199cfc465d9c21dda40675237751e471", func := "example.com/rallypoint/rallypoint/zzlaws_pkg_check_b1.FnUriCharMatchesGrammar", spec := "fnUriCharMatchesGrammar", inPlace := ["internal/bytealg.IndexByteString"], apart := false }
def FnUriCharMatchesGrammarSaid : Prop := fnUriCharMatchesGrammarRow.holds Try.pinned (OpenSpec.ofChange fnUriCharMatchesGrammarSpec)

/-- ITS FALSE NEIGHBOUR: 'it returns false'. Refute it at one input. -/
def fnUriCharMatchesGrammarWrong : ChangeSpec := { name := "fnUriCharMatchesGrammar", fn := fun _ => fun
  | [d1, d2, d3] => { results := [.lit (.bool false)], args := [d1, d2, d3] }
  | _ => none }
def FnUriCharMatchesGrammarWrongFalsely : Prop := fnUriCharMatchesGrammarRow.holds Try.pinned (OpenSpec.ofChange fnUriCharMatchesGrammarWrong)

/-- 'zzlaws_pkg_check_b1.FnBlockTextMatchesFoldingModel': WHATEVER THE INPUT: true; the input reads as it did. -/
def fnBlockTextMatchesFoldingModelSpec : ChangeSpec := { name := "fnBlockTextMatchesFoldingModel", fn := fun _ => fun
  | [d1, d2] => { results := [.lit (.bool true)], args := [d1, d2] }
  | _ => none }
def fnBlockTextMatchesFoldingModelRow : OpenClaim := { program := "qxb6604183a", sum := "0560758222ee3a48036a5b59cae6bd15199cfc465d9c21dda40675237751e471", func := "example.com/rallypoint/rallypoint/zzlaws_pkg_check_b1.FnBlockTextMatchesFoldingModel", spec := "fnBlockTextMatchesFoldingModel", inPlace := ["internal/abi.NoEscape", "internal/bytealg.MakeNoZero"], apart := false }
def FnBlockTextMatchesFoldingModelSaid : Prop := fnBlockTextMatchesFoldingModelRow.holds Try.pinned (OpenSpec.ofChange fnBlockTextMatchesFoldingModelSpec)

/-- ITS FALSE NEIGHBOUR: 'it returns false'. Refute it at one input. -/
def fnBlockTextMatchesFoldingModelWrong : ChangeSpec := { name := "fnBlockTextMatchesFoldingModel", fn := fun _ => fun
  | [d1, d2] => { results := [.lit (.bool false)], args := [d1, d2] }
  | _ => none }
def FnBlockTextMatchesFoldingModelWrongFalsely : Prop := fnBlockTextMatchesFoldingModelRow.holds Try.pinned (OpenSpec.ofChange fnBlockTextMatchesFoldingModelWrong)

/-- 'zzlaws_pkg_check_b1.FnBlockTextFoldsExactlyWherePlainLinesMeet': WHATEVER THE INPUT: true; the input reads as it did. -/
def fnBlockTextFoldsExactlyWherePlainLinesMeetSpec : ChangeSpec := { name := "fnBlockTextFoldsExactlyWherePlainLinesMeet", fn := fun _ => fun
  | [d] => { results := [.lit (.bool true)], args := [d] }
  | _ => none }
def fnBlockTextFoldsExactlyWherePlainLinesMeetRow : OpenClaim := { program := "qxb6604183a", sum := "0560758222ee3a48036a5b59cae6bd15199cfc465d9c21dda40675237751e471", func := "example.com/rallypoint/rallypoint/zzlaws_pkg_check_b1.FnBlockTextFoldsExactlyWherePlainLinesMeet", spec := "fnBlockTextFoldsExactlyWherePlainLinesMeet", inPlace := ["internal/abi.NoEscape", "internal/bytealg.MakeNoZero"], apart := false }
def FnBlockTextFoldsExactlyWherePlainLinesMeetSaid : Prop := fnBlockTextFoldsExactlyWherePlainLinesMeetRow.holds Try.pinned (OpenSpec.ofChange fnBlockTextFoldsExactlyWherePlainLinesMeetSpec)

/-- ITS FALSE NEIGHBOUR: 'it returns false'. Refute it at one input. -/
def fnBlockTextFoldsExactlyWherePlainLinesMeetWrong : ChangeSpec := { name := "fnBlockTextFoldsExactlyWherePlainLinesMeet", fn := fun _ => fun
  | [d] => { results := [.lit (.bool false)], args := [d] }
  | _ => none }
def FnBlockTextFoldsExactlyWherePlainLinesMeetWrongFalsely : Prop := fnBlockTextFoldsExactlyWherePlainLinesMeetRow.holds Try.pinned (OpenSpec.ofChange fnBlockTextFoldsExactlyWherePlainLinesMeetWrong)

/-- 'zzlaws_pkg_check_b1.FnBlockTextEmptyEndLines': WHATEVER THE INPUT: true; the input reads as it did. -/
def fnBlockTextEmptyEndLinesSpec : ChangeSpec := { name := "fnBlockTextEmptyEndLines", fn := fun _ => fun
  | [d1, d2, d3, d4] => { results := [.lit (.bool true)], args := [d1, d2, d3, d4] }
  | _ => none }
def fnBlockTextEmptyEndLinesRow : OpenClaim := { program := "qxb6604183a", sum := "0560758222ee3a48036a5b59cae6bd15199cfc465d9c21dda40675237751e471", func := "example.com/rallypoint/rallypoint/zzlaws_pkg_check_b1.FnBlockTextEmptyEndLines", spec := "fnBlockTextEmptyEndLines", inPlace := ["internal/abi.NoEscape", "internal/bytealg.MakeNoZero"], apart := false }
def FnBlockTextEmptyEndLinesSaid : Prop := fnBlockTextEmptyEndLinesRow.holds Try.pinned (OpenSpec.ofChange fnBlockTextEmptyEndLinesSpec)

/-- ITS FALSE NEIGHBOUR: 'it returns false'. Refute it at one input. -/
def fnBlockTextEmptyEndLinesWrong : ChangeSpec := { name := "fnBlockTextEmptyEndLines", fn := fun _ => fun
  | [d1, d2, d3, d4] => { results := [.lit (.bool false)], args := [d1, d2, d3, d4] }
  | _ => none }
def FnBlockTextEmptyEndLinesWrongFalsely : Prop := fnBlockTextEmptyEndLinesRow.holds Try.pinned (OpenSpec.ofChange fnBlockTextEmptyEndLinesWrong)

end Rows
end Go.Proofs.Qxb6604183a
