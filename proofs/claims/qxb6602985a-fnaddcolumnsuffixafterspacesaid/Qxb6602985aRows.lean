/-
  No cell of these rows narrows 'for every input' (looked for: loops, veiled, ifaces, maps, wideKeys, modest, calm, conditions, laid).
  DERIVED. THE GIVEN ROWS OF THIS SEAT. 1 by the template 'for every input the law returns true; each argument reads behind the call as it read before'; 0 by the template 'total and deterministic' (their statements: Qxb6602985aTotals.lean).
  GIVEN WITH THE SEED: the statements are not yours to turn. If you find one false, say at which input.
  Laid BY PROGRAM, IN A SANDBOX (cutbox-rows.mjs): the forced cells as the released guide's own fill.sh prints them over the translation a502a4d221d4ea83… (all of the seat's roots in one cut). By AI agents, Wed Nov 11 2026. No macro, syntax, notation, axiom, sorry.
-/
import Derived.Test.Qxb6602985aChecked
import GoSem.Claim
import GoSem.ClaimJoined
import GoSem.ClaimMapViews
import Derived.JoinedTies
import Derived.KernelRfl
namespace Go.Proofs.Qxb6602985a
/- THE CELL 'sum', in the pinned program and in every row, IS THE sha256 OF THE DUMP (.gsa) THAT Qxb6602985aProg.lean LOADS. Nothing in Lean hashes anything: it is a label: what it is worth is what the hold of that sum in a sandbox is worth. -/
noncomputable def Try.pinned : Pinned := { name := "qxb6602985a", sum := "a502a4d221d4ea837e81cd13f1c4d4ae3a977b5d1eea4b0ebcaabf21368d4325", checked := Try.checked }
namespace Rows
def none {H : Type} : Left H := { results := [], args := [] }

/-- 'zzlaws_sqlstore_b1.FnAddColumnSuffixAfterSpace': WHATEVER THE INPUT: true; the input reads as it did. -/
def fnAddColumnSuffixAfterSpaceSpec : ChangeSpec := { name := "fnAddColumnSuffixAfterSpace", fn := fun _ => fun
  | [d1, d2, d3] => { results := [.lit (.bool true)], args := [d1, d2, d3] }
  | _ => none }
def fnAddColumnSuffixAfterSpaceRow : OpenClaim := { program := "qxb6602985a", sum := "a502a4d221d4ea837e81cd13f1c4d4ae3a977b5d1eea4b0ebcaabf21368d4325", func := "example.com/sessionward/sessionward/zzlaws_sqlstore_b1.FnAddColumnSuffixAfterSpace", spec := "fnAddColumnSuffixAfterSpace", inPlace := ["internal/bytealg.IndexByteString", "internal/bytealg.IndexString"], named := ["internal/bytealg.MaxLen"], apart := false }
def FnAddColumnSuffixAfterSpaceSaid : Prop := fnAddColumnSuffixAfterSpaceRow.holds Try.pinned (OpenSpec.ofChange fnAddColumnSuffixAfterSpaceSpec)

/-- ITS FALSE NEIGHBOUR: 'it returns false'. Refute it at one input. -/
def fnAddColumnSuffixAfterSpaceWrong : ChangeSpec := { name := "fnAddColumnSuffixAfterSpace", fn := fun _ => fun
  | [d1, d2, d3] => { results := [.lit (.bool false)], args := [d1, d2, d3] }
  | _ => none }
def FnAddColumnSuffixAfterSpaceWrongFalsely : Prop := fnAddColumnSuffixAfterSpaceRow.holds Try.pinned (OpenSpec.ofChange fnAddColumnSuffixAfterSpaceWrong)

end Rows
end Go.Proofs.Qxb6602985a
