/-
  No cell of these rows narrows 'for every input' (looked for: loops, veiled, ifaces, maps, wideKeys, modest, calm, conditions, laid).
  DERIVED. THE GIVEN ROWS OF THIS SEAT. 7 by the template 'for every input the law returns true; each argument reads behind the call as it read before'; 0 by the template 'total and deterministic' (their statements: Qxb6602736aTotals.lean).
  GIVEN WITH THE SEED: the statements are not yours to turn. If you find one false, say at which input.
  Laid BY PROGRAM, IN A SANDBOX (cutbox-rows.mjs): the forced cells as the released guide's own fill.sh prints them over the translation 62a786aa326d3298… (all of the seat's roots in one cut). By AI agents, Wed Nov 11 2026. No macro, syntax, notation, axiom, sorry.
-/
import Derived.Test.Qxb6602736aChecked
import GoSem.Claim
import GoSem.ClaimJoined
import GoSem.ClaimMapViews
import Derived.JoinedTies
import Derived.KernelRfl
namespace Go.Proofs.Qxb6602736a
/- THE CELL 'sum', in the pinned program and in every row, IS THE sha256 OF THE DUMP (.gsa) THAT Qxb6602736aProg.lean LOADS. Nothing in Lean hashes anything: it is a label: what it is worth is what the hold of that sum in a sandbox is worth. -/
noncomputable def Try.pinned : Pinned := { name := "qxb6602736a", sum := "62a786aa326d3298512498764b22d7fc8a3825b36329d28554c002999c9a25e1", checked := Try.checked }
namespace Rows
def none {H : Type} : Left H := { results := [], args := [] }

/-- 'zzlaws_internal_accesslog_b1.FnDigitsMatchesModel': WHATEVER THE INPUT: true; the input reads as it did. -/
def fnDigitsMatchesModelSpec : ChangeSpec := { name := "fnDigitsMatchesModel", fn := fun _ => fun
  | [d] => { results := [.lit (.bool true)], args := [d] }
  | _ => none }
def fnDigitsMatchesModelRow : OpenClaim := { program := "qxb6602736a", sum := "62a786aa326d3298512498764b22d7fc8a3825b36329d28554c002999c9a25e1", func := "example.com/sluice/sluice/zzlaws_internal_accesslog_b1.FnDigitsMatchesModel", spec := "fnDigitsMatchesModel", apart := false }
def FnDigitsMatchesModelSaid : Prop := fnDigitsMatchesModelRow.holds Try.pinned (OpenSpec.ofChange fnDigitsMatchesModelSpec)

/-- ITS FALSE NEIGHBOUR: 'it returns false'. Refute it at one input. -/
def fnDigitsMatchesModelWrong : ChangeSpec := { name := "fnDigitsMatchesModel", fn := fun _ => fun
  | [d] => { results := [.lit (.bool false)], args := [d] }
  | _ => none }
def FnDigitsMatchesModelWrongFalsely : Prop := fnDigitsMatchesModelRow.holds Try.pinned (OpenSpec.ofChange fnDigitsMatchesModelWrong)

/-- 'zzlaws_internal_accesslog_b1.FnDigitsConcat': WHATEVER THE INPUT: true; the input reads as it did. -/
def fnDigitsConcatSpec : ChangeSpec := { name := "fnDigitsConcat", fn := fun _ => fun
  | [d1, d2] => { results := [.lit (.bool true)], args := [d1, d2] }
  | _ => none }
def fnDigitsConcatRow : OpenClaim := { program := "qxb6602736a", sum := "62a786aa326d3298512498764b22d7fc8a3825b36329d28554c002999c9a25e1", func := "example.com/sluice/sluice/zzlaws_internal_accesslog_b1.FnDigitsConcat", spec := "fnDigitsConcat", apart := false }
def FnDigitsConcatSaid : Prop := fnDigitsConcatRow.holds Try.pinned (OpenSpec.ofChange fnDigitsConcatSpec)

/-- ITS FALSE NEIGHBOUR: 'it returns false'. Refute it at one input. -/
def fnDigitsConcatWrong : ChangeSpec := { name := "fnDigitsConcat", fn := fun _ => fun
  | [d1, d2] => { results := [.lit (.bool false)], args := [d1, d2] }
  | _ => none }
def FnDigitsConcatWrongFalsely : Prop := fnDigitsConcatRow.holds Try.pinned (OpenSpec.ofChange fnDigitsConcatWrong)

/-- 'zzlaws_internal_accesslog_b1.FnFieldMatchesModel': WHATEVER THE INPUT: true; the input reads as it did. -/
def fnFieldMatchesModelSpec : ChangeSpec := { name := "fnFieldMatchesModel", fn := fun _ => fun
  | [d] => { results := [.lit (.bool true)], args := [d] }
  | _ => none }
def fnFieldMatchesModelRow : OpenClaim := { program := "qxb6602736a", sum := "62a786aa326d3298512498764b22d7fc8a3825b36329d28554c002999c9a25e1", func := "example.com/sluice/sluice/zzlaws_internal_accesslog_b1.FnFieldMatchesModel", spec := "fnFieldMatchesModel", inPlace := ["internal/bytealg.IndexByteString", "internal/bytealg.IndexString"], named := ["internal/bytealg.MaxLen"], apart := false }
def FnFieldMatchesModelSaid : Prop := fnFieldMatchesModelRow.holds Try.pinned (OpenSpec.ofChange fnFieldMatchesModelSpec)

/-- ITS FALSE NEIGHBOUR: 'it returns false'. Refute it at one input. -/
def fnFieldMatchesModelWrong : ChangeSpec := { name := "fnFieldMatchesModel", fn := fun _ => fun
  | [d] => { results := [.lit (.bool false)], args := [d] }
  | _ => none }
def FnFieldMatchesModelWrongFalsely : Prop := fnFieldMatchesModelRow.holds Try.pinned (OpenSpec.ofChange fnFieldMatchesModelWrong)

/-- 'zzlaws_internal_accesslog_b1.FnFieldInverse': WHATEVER THE INPUT: true; the input reads as it did. -/
def fnFieldInverseSpec : ChangeSpec := { name := "fnFieldInverse", fn := fun _ => fun
  | [d1, d2] => { results := [.lit (.bool true)], args := [d1, d2] }
  | _ => none }
def fnFieldInverseRow : OpenClaim := { program := "qxb6602736a", sum := "62a786aa326d3298512498764b22d7fc8a3825b36329d28554c002999c9a25e1", func := "example.com/sluice/sluice/zzlaws_internal_accesslog_b1.FnFieldInverse", spec := "fnFieldInverse", inPlace := ["internal/bytealg.IndexByteString", "internal/bytealg.IndexString"], named := ["internal/bytealg.MaxLen"], apart := false }
def FnFieldInverseSaid : Prop := fnFieldInverseRow.holds Try.pinned (OpenSpec.ofChange fnFieldInverseSpec)

/-- ITS FALSE NEIGHBOUR: 'it returns false'. Refute it at one input. -/
def fnFieldInverseWrong : ChangeSpec := { name := "fnFieldInverse", fn := fun _ => fun
  | [d1, d2] => { results := [.lit (.bool false)], args := [d1, d2] }
  | _ => none }
def FnFieldInverseWrongFalsely : Prop := fnFieldInverseRow.holds Try.pinned (OpenSpec.ofChange fnFieldInverseWrong)

/-- 'zzlaws_internal_accesslog_b1.FnSkipQuotedMatchesModel': WHATEVER THE INPUT: true; the input reads as it did. -/
def fnSkipQuotedMatchesModelSpec : ChangeSpec := { name := "fnSkipQuotedMatchesModel", fn := fun _ => fun
  | [d] => { results := [.lit (.bool true)], args := [d] }
  | _ => none }
def fnSkipQuotedMatchesModelRow : OpenClaim := { program := "qxb6602736a", sum := "62a786aa326d3298512498764b22d7fc8a3825b36329d28554c002999c9a25e1", func := "example.com/sluice/sluice/zzlaws_internal_accesslog_b1.FnSkipQuotedMatchesModel", spec := "fnSkipQuotedMatchesModel", apart := false }
def FnSkipQuotedMatchesModelSaid : Prop := fnSkipQuotedMatchesModelRow.holds Try.pinned (OpenSpec.ofChange fnSkipQuotedMatchesModelSpec)

/-- ITS FALSE NEIGHBOUR: 'it returns false'. Refute it at one input. -/
def fnSkipQuotedMatchesModelWrong : ChangeSpec := { name := "fnSkipQuotedMatchesModel", fn := fun _ => fun
  | [d] => { results := [.lit (.bool false)], args := [d] }
  | _ => none }
def FnSkipQuotedMatchesModelWrongFalsely : Prop := fnSkipQuotedMatchesModelRow.holds Try.pinned (OpenSpec.ofChange fnSkipQuotedMatchesModelWrong)

/-- 'zzlaws_internal_accesslog_b1.FnSkipQuotedEncodeRoundTrip': WHATEVER THE INPUT: true; the input reads as it did. -/
def fnSkipQuotedEncodeRoundTripSpec : ChangeSpec := { name := "fnSkipQuotedEncodeRoundTrip", fn := fun _ => fun
  | [d1, d2] => { results := [.lit (.bool true)], args := [d1, d2] }
  | _ => none }
def fnSkipQuotedEncodeRoundTripRow : OpenClaim := { program := "qxb6602736a", sum := "62a786aa326d3298512498764b22d7fc8a3825b36329d28554c002999c9a25e1", func := "example.com/sluice/sluice/zzlaws_internal_accesslog_b1.FnSkipQuotedEncodeRoundTrip", spec := "fnSkipQuotedEncodeRoundTrip", apart := false }
def FnSkipQuotedEncodeRoundTripSaid : Prop := fnSkipQuotedEncodeRoundTripRow.holds Try.pinned (OpenSpec.ofChange fnSkipQuotedEncodeRoundTripSpec)

/-- ITS FALSE NEIGHBOUR: 'it returns false'. Refute it at one input. -/
def fnSkipQuotedEncodeRoundTripWrong : ChangeSpec := { name := "fnSkipQuotedEncodeRoundTrip", fn := fun _ => fun
  | [d1, d2] => { results := [.lit (.bool false)], args := [d1, d2] }
  | _ => none }
def FnSkipQuotedEncodeRoundTripWrongFalsely : Prop := fnSkipQuotedEncodeRoundTripRow.holds Try.pinned (OpenSpec.ofChange fnSkipQuotedEncodeRoundTripWrong)

/-- 'zzlaws_internal_accesslog_b1.FnSkipQuotedSuffixExtension': WHATEVER THE INPUT: true; the input reads as it did. -/
def fnSkipQuotedSuffixExtensionSpec : ChangeSpec := { name := "fnSkipQuotedSuffixExtension", fn := fun _ => fun
  | [d1, d2] => { results := [.lit (.bool true)], args := [d1, d2] }
  | _ => none }
def fnSkipQuotedSuffixExtensionRow : OpenClaim := { program := "qxb6602736a", sum := "62a786aa326d3298512498764b22d7fc8a3825b36329d28554c002999c9a25e1", func := "example.com/sluice/sluice/zzlaws_internal_accesslog_b1.FnSkipQuotedSuffixExtension", spec := "fnSkipQuotedSuffixExtension", apart := false }
def FnSkipQuotedSuffixExtensionSaid : Prop := fnSkipQuotedSuffixExtensionRow.holds Try.pinned (OpenSpec.ofChange fnSkipQuotedSuffixExtensionSpec)

/-- ITS FALSE NEIGHBOUR: 'it returns false'. Refute it at one input. -/
def fnSkipQuotedSuffixExtensionWrong : ChangeSpec := { name := "fnSkipQuotedSuffixExtension", fn := fun _ => fun
  | [d1, d2] => { results := [.lit (.bool false)], args := [d1, d2] }
  | _ => none }
def FnSkipQuotedSuffixExtensionWrongFalsely : Prop := fnSkipQuotedSuffixExtensionRow.holds Try.pinned (OpenSpec.ofChange fnSkipQuotedSuffixExtensionWrong)

end Rows
end Go.Proofs.Qxb6602736a
