/-
  No cell of these rows narrows 'for every input' (looked for: loops, veiled, ifaces, maps, wideKeys, modest, calm, conditions, laid).
  DERIVED. THE GIVEN ROWS OF THIS SEAT. 6 by the template 'for every input the law returns true; each argument reads behind the call as it read before'; 0 by the template 'total and deterministic' (their statements: Qxb6604024aTotals.lean).
  GIVEN WITH THE SEED: the statements are not yours to turn. If you find one false, say at which input.
  Laid BY PROGRAM, IN A SANDBOX (cutbox-rows.mjs): the forced cells as the released guide's own fill.sh prints them over the translation 2f133361d0f0e674… (all of the seat's roots in one cut). By AI agents, Wed Nov 11 2026. No macro, syntax, notation, axiom, sorry.
-/
import Derived.Test.Qxb6604024aChecked
import GoSem.Claim
import GoSem.ClaimJoined
import GoSem.ClaimMapViews
import Derived.JoinedTies
import Derived.KernelRfl
namespace Go.Proofs.Qxb6604024a
/- THE CELL 'sum', in the pinned program and in every row, IS THE sha256 OF THE DUMP (.gsa) THAT Qxb6604024aProg.lean LOADS. Nothing in Lean hashes anything: it is a label: what it is worth is what the hold of that sum in a sandbox is worth. -/
noncomputable def Try.pinned : Pinned := { name := "qxb6604024a", sum := "2f133361d0f0e674cdec35e4fb75e09955e34f4e7d1c49e73bc4c0583cfa3200", checked := Try.checked }
namespace Rows
def none {H : Type} : Left H := { results := [], args := [] }

/-- 'zzlaws_root_b1.FnJumpStepsMatchesGrowingProduct': WHATEVER THE INPUT: true; the input reads as it did. -/
def fnJumpStepsMatchesGrowingProductSpec : ChangeSpec := { name := "fnJumpStepsMatchesGrowingProduct", fn := fun _ => fun
  | [d1, d2, d3] => { results := [.lit (.bool true)], args := [d1, d2, d3] }
  | _ => none }
def fnJumpStepsMatchesGrowingProductRow : OpenClaim := { program := "qxb6604024a", sum := "2f133361d0f0e674cdec35e4fb75e09955e34f4e7d1c49e73bc4c0583cfa3200", func := "example.com/pageweave/pageweave/zzlaws_root_b1.FnJumpStepsMatchesGrowingProduct", spec := "fnJumpStepsMatchesGrowingProduct", apart := false }
def FnJumpStepsMatchesGrowingProductSaid : Prop := fnJumpStepsMatchesGrowingProductRow.holds Try.pinned (OpenSpec.ofChange fnJumpStepsMatchesGrowingProductSpec)

/-- ITS FALSE NEIGHBOUR: 'it returns false'. Refute it at one input. -/
def fnJumpStepsMatchesGrowingProductWrong : ChangeSpec := { name := "fnJumpStepsMatchesGrowingProduct", fn := fun _ => fun
  | [d1, d2, d3] => { results := [.lit (.bool false)], args := [d1, d2, d3] }
  | _ => none }
def FnJumpStepsMatchesGrowingProductWrongFalsely : Prop := fnJumpStepsMatchesGrowingProductRow.holds Try.pinned (OpenSpec.ofChange fnJumpStepsMatchesGrowingProductWrong)

/-- 'zzlaws_root_b1.FnJumpStepsBoundedByBitLength': WHATEVER THE INPUT: true; the input reads as it did. -/
def fnJumpStepsBoundedByBitLengthSpec : ChangeSpec := { name := "fnJumpStepsBoundedByBitLength", fn := fun _ => fun
  | [d1, d2, d3] => { results := [.lit (.bool true)], args := [d1, d2, d3] }
  | _ => none }
def fnJumpStepsBoundedByBitLengthRow : OpenClaim := { program := "qxb6604024a", sum := "2f133361d0f0e674cdec35e4fb75e09955e34f4e7d1c49e73bc4c0583cfa3200", func := "example.com/pageweave/pageweave/zzlaws_root_b1.FnJumpStepsBoundedByBitLength", spec := "fnJumpStepsBoundedByBitLength", apart := false }
def FnJumpStepsBoundedByBitLengthSaid : Prop := fnJumpStepsBoundedByBitLengthRow.holds Try.pinned (OpenSpec.ofChange fnJumpStepsBoundedByBitLengthSpec)

/-- ITS FALSE NEIGHBOUR: 'it returns false'. Refute it at one input. -/
def fnJumpStepsBoundedByBitLengthWrong : ChangeSpec := { name := "fnJumpStepsBoundedByBitLength", fn := fun _ => fun
  | [d1, d2, d3] => { results := [.lit (.bool false)], args := [d1, d2, d3] }
  | _ => none }
def FnJumpStepsBoundedByBitLengthWrongFalsely : Prop := fnJumpStepsBoundedByBitLengthRow.holds Try.pinned (OpenSpec.ofChange fnJumpStepsBoundedByBitLengthWrong)

/-- 'zzlaws_root_b1.FnIsPlainIdentifierCaseTable': WHATEVER THE INPUT: true; the input reads as it did. -/
def fnIsPlainIdentifierCaseTableSpec : ChangeSpec := { name := "fnIsPlainIdentifierCaseTable", fn := fun _ => fun
  | [d] => { results := [.lit (.bool true)], args := [d] }
  | _ => none }
def fnIsPlainIdentifierCaseTableRow : OpenClaim := { program := "qxb6604024a", sum := "2f133361d0f0e674cdec35e4fb75e09955e34f4e7d1c49e73bc4c0583cfa3200", func := "example.com/pageweave/pageweave/zzlaws_root_b1.FnIsPlainIdentifierCaseTable", spec := "fnIsPlainIdentifierCaseTable", apart := false }
def FnIsPlainIdentifierCaseTableSaid : Prop := fnIsPlainIdentifierCaseTableRow.holds Try.pinned (OpenSpec.ofChange fnIsPlainIdentifierCaseTableSpec)

/-- ITS FALSE NEIGHBOUR: 'it returns false'. Refute it at one input. -/
def fnIsPlainIdentifierCaseTableWrong : ChangeSpec := { name := "fnIsPlainIdentifierCaseTable", fn := fun _ => fun
  | [d] => { results := [.lit (.bool false)], args := [d] }
  | _ => none }
def FnIsPlainIdentifierCaseTableWrongFalsely : Prop := fnIsPlainIdentifierCaseTableRow.holds Try.pinned (OpenSpec.ofChange fnIsPlainIdentifierCaseTableWrong)

/-- 'zzlaws_root_b1.FnContinuationMatchesScanner': WHATEVER THE INPUT: true; the input reads as it did. -/
def fnContinuationMatchesScannerSpec : ChangeSpec := { name := "fnContinuationMatchesScanner", fn := fun _ => fun
  | [d1, d2] => { results := [.lit (.bool true)], args := [d1, d2] }
  | _ => none }
def fnContinuationMatchesScannerRow : OpenClaim := { program := "qxb6604024a", sum := "2f133361d0f0e674cdec35e4fb75e09955e34f4e7d1c49e73bc4c0583cfa3200", func := "example.com/pageweave/pageweave/zzlaws_root_b1.FnContinuationMatchesScanner", spec := "fnContinuationMatchesScanner", inPlace := ["internal/bytealg.IndexByteString", "internal/bytealg.IndexString"], named := ["internal/bytealg.MaxLen"], apart := false }
def FnContinuationMatchesScannerSaid : Prop := fnContinuationMatchesScannerRow.holds Try.pinned (OpenSpec.ofChange fnContinuationMatchesScannerSpec)

/-- ITS FALSE NEIGHBOUR: 'it returns false'. Refute it at one input. -/
def fnContinuationMatchesScannerWrong : ChangeSpec := { name := "fnContinuationMatchesScanner", fn := fun _ => fun
  | [d1, d2] => { results := [.lit (.bool false)], args := [d1, d2] }
  | _ => none }
def FnContinuationMatchesScannerWrongFalsely : Prop := fnContinuationMatchesScannerRow.holds Try.pinned (OpenSpec.ofChange fnContinuationMatchesScannerWrong)

/-- 'zzlaws_root_b1.FnContinuationReadsOnlyFromAtToTheQuote': WHATEVER THE INPUT: true; the input reads as it did. -/
def fnContinuationReadsOnlyFromAtToTheQuoteSpec : ChangeSpec := { name := "fnContinuationReadsOnlyFromAtToTheQuote", fn := fun _ => fun
  | [d1, d2, d3, d4] => { results := [.lit (.bool true)], args := [d1, d2, d3, d4] }
  | _ => none }
def fnContinuationReadsOnlyFromAtToTheQuoteRow : OpenClaim := { program := "qxb6604024a", sum := "2f133361d0f0e674cdec35e4fb75e09955e34f4e7d1c49e73bc4c0583cfa3200", func := "example.com/pageweave/pageweave/zzlaws_root_b1.FnContinuationReadsOnlyFromAtToTheQuote", spec := "fnContinuationReadsOnlyFromAtToTheQuote", inPlace := ["internal/bytealg.IndexByteString", "internal/bytealg.IndexString"], named := ["internal/bytealg.MaxLen"], apart := false }
def FnContinuationReadsOnlyFromAtToTheQuoteSaid : Prop := fnContinuationReadsOnlyFromAtToTheQuoteRow.holds Try.pinned (OpenSpec.ofChange fnContinuationReadsOnlyFromAtToTheQuoteSpec)

/-- ITS FALSE NEIGHBOUR: 'it returns false'. Refute it at one input. -/
def fnContinuationReadsOnlyFromAtToTheQuoteWrong : ChangeSpec := { name := "fnContinuationReadsOnlyFromAtToTheQuote", fn := fun _ => fun
  | [d1, d2, d3, d4] => { results := [.lit (.bool false)], args := [d1, d2, d3, d4] }
  | _ => none }
def FnContinuationReadsOnlyFromAtToTheQuoteWrongFalsely : Prop := fnContinuationReadsOnlyFromAtToTheQuoteRow.holds Try.pinned (OpenSpec.ofChange fnContinuationReadsOnlyFromAtToTheQuoteWrong)

/-- 'zzlaws_root_b1.FnContinuationPointsAtAQuoteAfterALineBreak': WHATEVER THE INPUT: true; the input reads as it did. -/
def fnContinuationPointsAtAQuoteAfterALineBreakSpec : ChangeSpec := { name := "fnContinuationPointsAtAQuoteAfterALineBreak", fn := fun _ => fun
  | [d1, d2] => { results := [.lit (.bool true)], args := [d1, d2] }
  | _ => none }
def fnContinuationPointsAtAQuoteAfterALineBreakRow : OpenClaim := { program := "qxb6604024a", sum := "2f133361d0f0e674cdec35e4fb75e09955e34f4e7d1c49e73bc4c0583cfa3200", func := "example.com/pageweave/pageweave/zzlaws_root_b1.FnContinuationPointsAtAQuoteAfterALineBreak", spec := "fnContinuationPointsAtAQuoteAfterALineBreak", inPlace := ["internal/bytealg.IndexByteString", "internal/bytealg.IndexString"], named := ["internal/bytealg.MaxLen"], apart := false }
def FnContinuationPointsAtAQuoteAfterALineBreakSaid : Prop := fnContinuationPointsAtAQuoteAfterALineBreakRow.holds Try.pinned (OpenSpec.ofChange fnContinuationPointsAtAQuoteAfterALineBreakSpec)

/-- ITS FALSE NEIGHBOUR: 'it returns false'. Refute it at one input. -/
def fnContinuationPointsAtAQuoteAfterALineBreakWrong : ChangeSpec := { name := "fnContinuationPointsAtAQuoteAfterALineBreak", fn := fun _ => fun
  | [d1, d2] => { results := [.lit (.bool false)], args := [d1, d2] }
  | _ => none }
def FnContinuationPointsAtAQuoteAfterALineBreakWrongFalsely : Prop := fnContinuationPointsAtAQuoteAfterALineBreakRow.holds Try.pinned (OpenSpec.ofChange fnContinuationPointsAtAQuoteAfterALineBreakWrong)

end Rows
end Go.Proofs.Qxb6604024a
