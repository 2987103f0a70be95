/-
  No cell of these rows narrows 'for every input' (looked for: loops, veiled, ifaces, maps, wideKeys, modest, calm, conditions, laid).
  DERIVED. THE GIVEN ROWS OF THIS SEAT. 2 by the template 'for every input the law returns true; each argument reads behind the call as it read before'; 0 by the template 'total and deterministic' (their statements: Qxb6602915aTotals.lean).
  GIVEN WITH THE SEED: the statements are not yours to turn. If you find one false, say at which input.
  Laid BY PROGRAM, IN A SANDBOX (cutbox-rows.mjs): the forced cells as the released guide's own fill.sh prints them over the translation 0fc89141650bd9e7… (all of the seat's roots in one cut). By AI agents, Wed Nov 11 2026. No macro, syntax, notation, axiom, sorry.
-/
import Derived.Test.Qxb6602915aChecked
import GoSem.Claim
import GoSem.ClaimJoined
import GoSem.ClaimMapViews
import Derived.JoinedTies
import Derived.KernelRfl
namespace Go.Proofs.Qxb6602915a
/- THE CELL 'sum', in the pinned program and in every row, IS THE sha256 OF THE DUMP (.gsa) THAT Qxb6602915aProg.lean LOADS. Nothing in Lean hashes anything: it is a label: what it is worth is what the hold of that sum in a sandbox is worth. -/
noncomputable def Try.pinned : Pinned := { name := "qxb6602915a", sum := "0fc89141650bd9e7496a9639542353f8f3f6d1106a0d7873dadcde1b61b694e5", checked := Try.checked }
namespace Rows
def none {H : Type} : Left H := { results := [], args := [] }

/-- 'zzlaws_root_b1.FnRelateDNSNameMatchesLabelModel': WHATEVER THE INPUT: true; the input reads as it did. -/
def fnRelateDNSNameMatchesLabelModelSpec : ChangeSpec := { name := "fnRelateDNSNameMatchesLabelModel", fn := fun _ => fun
  | [d1, d2, d3, d4] => { results := [.lit (.bool true)], args := [d1, d2, d3, d4] }
  | _ => none }
def fnRelateDNSNameMatchesLabelModelRow : OpenClaim := { program := "qxb6602915a", sum := "0fc89141650bd9e7496a9639542353f8f3f6d1106a0d7873dadcde1b61b694e5", func := "example.com/holdfast/holdfast/zzlaws_root_b1.FnRelateDNSNameMatchesLabelModel", spec := "fnRelateDNSNameMatchesLabelModel", inPlace := ["internal/bytealg.CountString", "internal/bytealg.IndexByteString", "internal/bytealg.IndexString"], named := ["internal/bytealg.MaxLen"], apart := false }
def FnRelateDNSNameMatchesLabelModelSaid : Prop := fnRelateDNSNameMatchesLabelModelRow.holds Try.pinned (OpenSpec.ofChange fnRelateDNSNameMatchesLabelModelSpec)

/-- ITS FALSE NEIGHBOUR: 'it returns false'. Refute it at one input. -/
def fnRelateDNSNameMatchesLabelModelWrong : ChangeSpec := { name := "fnRelateDNSNameMatchesLabelModel", fn := fun _ => fun
  | [d1, d2, d3, d4] => { results := [.lit (.bool false)], args := [d1, d2, d3, d4] }
  | _ => none }
def FnRelateDNSNameMatchesLabelModelWrongFalsely : Prop := fnRelateDNSNameMatchesLabelModelRow.holds Try.pinned (OpenSpec.ofChange fnRelateDNSNameMatchesLabelModelWrong)

/-- 'zzlaws_root_b1.FnRelateWildcardAgreesWithItsFills': WHATEVER THE INPUT: true; the input reads as it did. -/
def fnRelateWildcardAgreesWithItsFillsSpec : ChangeSpec := { name := "fnRelateWildcardAgreesWithItsFills", fn := fun _ => fun
  | [d1, d2, d3, d4] => { results := [.lit (.bool true)], args := [d1, d2, d3, d4] }
  | _ => none }
def fnRelateWildcardAgreesWithItsFillsRow : OpenClaim := { program := "qxb6602915a", sum := "0fc89141650bd9e7496a9639542353f8f3f6d1106a0d7873dadcde1b61b694e5", func := "example.com/holdfast/holdfast/zzlaws_root_b1.FnRelateWildcardAgreesWithItsFills", spec := "fnRelateWildcardAgreesWithItsFills", inPlace := ["internal/bytealg.CountString", "internal/bytealg.IndexByteString", "internal/bytealg.IndexString"], named := ["internal/bytealg.MaxLen"], apart := false }
def FnRelateWildcardAgreesWithItsFillsSaid : Prop := fnRelateWildcardAgreesWithItsFillsRow.holds Try.pinned (OpenSpec.ofChange fnRelateWildcardAgreesWithItsFillsSpec)

/-- ITS FALSE NEIGHBOUR: 'it returns false'. Refute it at one input. -/
def fnRelateWildcardAgreesWithItsFillsWrong : ChangeSpec := { name := "fnRelateWildcardAgreesWithItsFills", fn := fun _ => fun
  | [d1, d2, d3, d4] => { results := [.lit (.bool false)], args := [d1, d2, d3, d4] }
  | _ => none }
def FnRelateWildcardAgreesWithItsFillsWrongFalsely : Prop := fnRelateWildcardAgreesWithItsFillsRow.holds Try.pinned (OpenSpec.ofChange fnRelateWildcardAgreesWithItsFillsWrong)

end Rows
end Go.Proofs.Qxb6602915a
