/-
  No cell of these rows narrows 'for every input' (looked for: loops, veiled, ifaces, maps, wideKeys, modest, calm, conditions, laid).
  DERIVED. THE GIVEN ROWS OF THIS SEAT. 5 by the template 'for every input the law returns true; each argument reads behind the call as it read before'; 0 by the template 'total and deterministic' (their statements: Qxb6603951aTotals.lean).
  GIVEN WITH THE SEED: the statements are not yours to turn. If you find one false, say at which input.
  Laid BY PROGRAM, IN A SANDBOX (cutbox-rows.mjs): the forced cells as the released guide's own fill.sh prints them over the translation b7b66a335bd6748c… (all of the seat's roots in one cut). By AI agents, Wed Nov 11 2026. No macro, syntax, notation, axiom, sorry.
-/
import Derived.Test.Qxb6603951aChecked
import GoSem.Claim
import GoSem.ClaimJoined
import GoSem.ClaimMapViews
import Derived.JoinedTies
import Derived.KernelRfl
namespace Go.Proofs.Qxb6603951a
/- THE CELL 'sum', in the pinned program and in every row, IS THE sha256 OF THE DUMP (.gsa) THAT Qxb6603951aProg.lean LOADS. Nothing in Lean hashes anything: it is a label: what it is worth is what the hold of that sum in a sandbox is worth. -/
noncomputable def Try.pinned : Pinned := { name := "qxb6603951a", sum := "b7b66a335bd6748c7c36a40bad976326c064acd11c155b0901924818a7247899", checked := Try.checked }
namespace Rows
def none {H : Type} : Left H := { results := [], args := [] }

/-- 'zzlaws_internal_policy_b1.FnMethodValueUpperTable': WHATEVER THE INPUT: true; the input reads as it did. -/
def fnMethodValueUpperTableSpec : ChangeSpec := { name := "fnMethodValueUpperTable", fn := fun _ => fun
  | [d1, d2, d3, d4, d5] => { results := [.lit (.bool true)], args := [d1, d2, d3, d4, d5] }
  | _ => none }
def fnMethodValueUpperTableRow : OpenClaim := { program := "qxb6603951a", sum := "b7b66a335bd6748c7c36a40bad976326c064acd11c155b0901924818a7247899", func := "example.com/tidegate/tidegate/zzlaws_internal_policy_b1.FnMethodValueUpperTable", spec := "fnMethodValueUpperTable", inPlace := ["internal/bytealg.IndexByteString"], apart := false }
def FnMethodValueUpperTableSaid : Prop := fnMethodValueUpperTableRow.holds Try.pinned (OpenSpec.ofChange fnMethodValueUpperTableSpec)

/-- ITS FALSE NEIGHBOUR: 'it returns false'. Refute it at one input. -/
def fnMethodValueUpperTableWrong : ChangeSpec := { name := "fnMethodValueUpperTable", fn := fun _ => fun
  | [d1, d2, d3, d4, d5] => { results := [.lit (.bool false)], args := [d1, d2, d3, d4, d5] }
  | _ => none }
def FnMethodValueUpperTableWrongFalsely : Prop := fnMethodValueUpperTableRow.holds Try.pinned (OpenSpec.ofChange fnMethodValueUpperTableWrong)

/-- 'zzlaws_internal_policy_b1.FnMethodValueUpperReadsTrimmedToken': WHATEVER THE INPUT: true; the input reads as it did. -/
def fnMethodValueUpperReadsTrimmedTokenSpec : ChangeSpec := { name := "fnMethodValueUpperReadsTrimmedToken", fn := fun _ => fun
  | [d1, d2] => { results := [.lit (.bool true)], args := [d1, d2] }
  | _ => none }
def fnMethodValueUpperReadsTrimmedTokenRow : OpenClaim := { program := "qxb6603951a", sum := "b7b66a335bd6748c7c36a40bad976326c064acd11c155b0901924818a7247899", func := "example.com/tidegate/tidegate/zzlaws_internal_policy_b1.FnMethodValueUpperReadsTrimmedToken", spec := "fnMethodValueUpperReadsTrimmedToken", inPlace := ["internal/bytealg.IndexByteString"], apart := false }
def FnMethodValueUpperReadsTrimmedTokenSaid : Prop := fnMethodValueUpperReadsTrimmedTokenRow.holds Try.pinned (OpenSpec.ofChange fnMethodValueUpperReadsTrimmedTokenSpec)

/-- ITS FALSE NEIGHBOUR: 'it returns false'. Refute it at one input. -/
def fnMethodValueUpperReadsTrimmedTokenWrong : ChangeSpec := { name := "fnMethodValueUpperReadsTrimmedToken", fn := fun _ => fun
  | [d1, d2] => { results := [.lit (.bool false)], args := [d1, d2] }
  | _ => none }
def FnMethodValueUpperReadsTrimmedTokenWrongFalsely : Prop := fnMethodValueUpperReadsTrimmedTokenRow.holds Try.pinned (OpenSpec.ofChange fnMethodValueUpperReadsTrimmedTokenWrong)

/-- 'zzlaws_internal_policy_b1.FnFormFieldDecodeTable': WHATEVER THE INPUT: true; the input reads as it did. -/
def fnFormFieldDecodeTableSpec : ChangeSpec := { name := "fnFormFieldDecodeTable", fn := fun _ => fun
  | [d1, d2, d3, d4, d5, d6, d7, d8] => { results := [.lit (.bool true)], args := [d1, d2, d3, d4, d5, d6, d7, d8] }
  | _ => none }
def fnFormFieldDecodeTableRow : OpenClaim := { program := "qxb6603951a", sum := "b7b66a335bd6748c7c36a40bad976326c064acd11c155b0901924818a7247899", func := "example.com/tidegate/tidegate/zzlaws_internal_policy_b1.FnFormFieldDecodeTable", spec := "fnFormFieldDecodeTable", apart := false }
def FnFormFieldDecodeTableSaid : Prop := fnFormFieldDecodeTableRow.holds Try.pinned (OpenSpec.ofChange fnFormFieldDecodeTableSpec)

/-- ITS FALSE NEIGHBOUR: 'it returns false'. Refute it at one input. -/
def fnFormFieldDecodeTableWrong : ChangeSpec := { name := "fnFormFieldDecodeTable", fn := fun _ => fun
  | [d1, d2, d3, d4, d5, d6, d7, d8] => { results := [.lit (.bool false)], args := [d1, d2, d3, d4, d5, d6, d7, d8] }
  | _ => none }
def FnFormFieldDecodeTableWrongFalsely : Prop := fnFormFieldDecodeTableRow.holds Try.pinned (OpenSpec.ofChange fnFormFieldDecodeTableWrong)

/-- 'zzlaws_internal_policy_b1.FnFormFieldDecodeInvertsPercentEscape': WHATEVER THE INPUT: true; the input reads as it did. -/
def fnFormFieldDecodeInvertsPercentEscapeSpec : ChangeSpec := { name := "fnFormFieldDecodeInvertsPercentEscape", fn := fun _ => fun
  | [d1, d2, d3, d4, d5, d6, d7, d8] => { results := [.lit (.bool true)], args := [d1, d2, d3, d4, d5, d6, d7, d8] }
  | _ => none }
def fnFormFieldDecodeInvertsPercentEscapeRow : OpenClaim := { program := "qxb6603951a", sum := "b7b66a335bd6748c7c36a40bad976326c064acd11c155b0901924818a7247899", func := "example.com/tidegate/tidegate/zzlaws_internal_policy_b1.FnFormFieldDecodeInvertsPercentEscape", spec := "fnFormFieldDecodeInvertsPercentEscape", apart := false }
def FnFormFieldDecodeInvertsPercentEscapeSaid : Prop := fnFormFieldDecodeInvertsPercentEscapeRow.holds Try.pinned (OpenSpec.ofChange fnFormFieldDecodeInvertsPercentEscapeSpec)

/-- ITS FALSE NEIGHBOUR: 'it returns false'. Refute it at one input. -/
def fnFormFieldDecodeInvertsPercentEscapeWrong : ChangeSpec := { name := "fnFormFieldDecodeInvertsPercentEscape", fn := fun _ => fun
  | [d1, d2, d3, d4, d5, d6, d7, d8] => { results := [.lit (.bool false)], args := [d1, d2, d3, d4, d5, d6, d7, d8] }
  | _ => none }
def FnFormFieldDecodeInvertsPercentEscapeWrongFalsely : Prop := fnFormFieldDecodeInvertsPercentEscapeRow.holds Try.pinned (OpenSpec.ofChange fnFormFieldDecodeInvertsPercentEscapeWrong)

/-- 'zzlaws_internal_policy_b1.FnFormFieldDecodeStreamUnescapes': WHATEVER THE INPUT: true; the input reads as it did. -/
def fnFormFieldDecodeStreamUnescapesSpec : ChangeSpec := { name := "fnFormFieldDecodeStreamUnescapes", fn := fun _ => fun
  | [d] => { results := [.lit (.bool true)], args := [d] }
  | _ => none }
def fnFormFieldDecodeStreamUnescapesRow : OpenClaim := { program := "qxb6603951a", sum := "b7b66a335bd6748c7c36a40bad976326c064acd11c155b0901924818a7247899", func := "example.com/tidegate/tidegate/zzlaws_internal_policy_b1.FnFormFieldDecodeStreamUnescapes", spec := "fnFormFieldDecodeStreamUnescapes", apart := false }
def FnFormFieldDecodeStreamUnescapesSaid : Prop := fnFormFieldDecodeStreamUnescapesRow.holds Try.pinned (OpenSpec.ofChange fnFormFieldDecodeStreamUnescapesSpec)

/-- ITS FALSE NEIGHBOUR: 'it returns false'. Refute it at one input. -/
def fnFormFieldDecodeStreamUnescapesWrong : ChangeSpec := { name := "fnFormFieldDecodeStreamUnescapes", fn := fun _ => fun
  | [d] => { results := [.lit (.bool false)], args := [d] }
  | _ => none }
def FnFormFieldDecodeStreamUnescapesWrongFalsely : Prop := fnFormFieldDecodeStreamUnescapesRow.holds Try.pinned (OpenSpec.ofChange fnFormFieldDecodeStreamUnescapesWrong)

end Rows
end Go.Proofs.Qxb6603951a
