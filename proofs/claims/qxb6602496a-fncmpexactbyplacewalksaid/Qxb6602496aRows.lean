/-
  No cell of these rows narrows 'for every input' (looked for: loops, veiled, ifaces, maps, wideKeys, modest, calm, conditions, laid).
  DERIVED. THE GIVEN ROWS OF THIS SEAT. 3 by the template 'for every input the law returns true; each argument reads behind the call as it read before'; 0 by the template 'total and deterministic' (their statements: Qxb6602496aTotals.lean).
  GIVEN WITH THE SEED: the statements are not yours to turn. If you find one false, say at which input.
  Laid BY PROGRAM, IN A SANDBOX (cutbox-rows.mjs): the forced cells as the released guide's own fill.sh prints them over the translation da7fede2f64f9e09… (all of the seat's roots in one cut). By AI agents, Wed Nov 11 2026. No macro, syntax, notation, axiom, sorry.
-/
import Derived.Test.Qxb6602496aChecked
import GoSem.Claim
import GoSem.ClaimJoined
import GoSem.ClaimMapViews
import Derived.JoinedTies
import Derived.KernelRfl
namespace Go.Proofs.Qxb6602496a
/- THE CELL 'sum', in the pinned program and in every row, IS THE sha256 OF THE DUMP (.gsa) THAT Qxb6602496aProg.lean LOADS. Nothing in Lean hashes anything: it is a label: what it is worth is what the hold of that sum in a sandbox is worth. -/
noncomputable def Try.pinned : Pinned := { name := "qxb6602496a", sum := "da7fede2f64f9e09a3e6be7973baa6302b50bc456c8e024ee6c89b4c5a63e9cf", checked := Try.checked }
namespace Rows
def none {H : Type} : Left H := { results := [], args := [] }

/-- 'zzlaws_internal_decimal_b1.FnCmpExactByPlaceWalk': WHATEVER THE INPUT: true; the input reads as it did. -/
def fnCmpExactByPlaceWalkSpec : ChangeSpec := { name := "fnCmpExactByPlaceWalk", fn := fun _ => fun
  | [d1, d2, d3, d4, d5, d6] => { results := [.lit (.bool true)], args := [d1, d2, d3, d4, d5, d6] }
  | _ => none }
def fnCmpExactByPlaceWalkRow : OpenClaim := { program := "qxb6602496a", sum := "da7fede2f64f9e09a3e6be7973baa6302b50bc456c8e024ee6c89b4c5a63e9cf", func := "example.com/quiver/quiver/zzlaws_internal_decimal_b1.FnCmpExactByPlaceWalk", spec := "fnCmpExactByPlaceWalk", inPlace := ["internal/bytealg.abigen_runtime_cmpstring"], apart := false }
def FnCmpExactByPlaceWalkSaid : Prop := fnCmpExactByPlaceWalkRow.holds Try.pinned (OpenSpec.ofChange fnCmpExactByPlaceWalkSpec)

/-- ITS FALSE NEIGHBOUR: 'it returns false'. Refute it at one input. -/
def fnCmpExactByPlaceWalkWrong : ChangeSpec := { name := "fnCmpExactByPlaceWalk", fn := fun _ => fun
  | [d1, d2, d3, d4, d5, d6] => { results := [.lit (.bool false)], args := [d1, d2, d3, d4, d5, d6] }
  | _ => none }
def FnCmpExactByPlaceWalkWrongFalsely : Prop := fnCmpExactByPlaceWalkRow.holds Try.pinned (OpenSpec.ofChange fnCmpExactByPlaceWalkWrong)

/-- 'zzlaws_internal_decimal_b1.FnCmpAntisymmetricEqualIffSame': WHATEVER THE INPUT: true; the input reads as it did. -/
def fnCmpAntisymmetricEqualIffSameSpec : ChangeSpec := { name := "fnCmpAntisymmetricEqualIffSame", fn := fun _ => fun
  | [d1, d2, d3, d4, d5, d6] => { results := [.lit (.bool true)], args := [d1, d2, d3, d4, d5, d6] }
  | _ => none }
def fnCmpAntisymmetricEqualIffSameRow : OpenClaim := { program := "qxb6602496a", sum := "da7fede2f64f9e09a3e6be7973baa6302b50bc456c8e024ee6c89b4c5a63e9cf", func := "example.com/quiver/quiver/zzlaws_internal_decimal_b1.FnCmpAntisymmetricEqualIffSame", spec := "fnCmpAntisymmetricEqualIffSame", inPlace := ["internal/bytealg.abigen_runtime_cmpstring"], apart := false }
def FnCmpAntisymmetricEqualIffSameSaid : Prop := fnCmpAntisymmetricEqualIffSameRow.holds Try.pinned (OpenSpec.ofChange fnCmpAntisymmetricEqualIffSameSpec)

/-- ITS FALSE NEIGHBOUR: 'it returns false'. Refute it at one input. -/
def fnCmpAntisymmetricEqualIffSameWrong : ChangeSpec := { name := "fnCmpAntisymmetricEqualIffSame", fn := fun _ => fun
  | [d1, d2, d3, d4, d5, d6] => { results := [.lit (.bool false)], args := [d1, d2, d3, d4, d5, d6] }
  | _ => none }
def FnCmpAntisymmetricEqualIffSameWrongFalsely : Prop := fnCmpAntisymmetricEqualIffSameRow.holds Try.pinned (OpenSpec.ofChange fnCmpAntisymmetricEqualIffSameWrong)

/-- 'zzlaws_internal_decimal_b1.FnCmpTransitive': WHATEVER THE INPUT: true; the input reads as it did. -/
def fnCmpTransitiveSpec : ChangeSpec := { name := "fnCmpTransitive", fn := fun _ => fun
  | [d1, d2, d3, d4, d5, d6, d7, d8, d9] => { results := [.lit (.bool true)], args := [d1, d2, d3, d4, d5, d6, d7, d8, d9] }
  | _ => none }
def fnCmpTransitiveRow : OpenClaim := { program := "qxb6602496a", sum := "da7fede2f64f9e09a3e6be7973baa6302b50bc456c8e024ee6c89b4c5a63e9cf", func := "example.com/quiver/quiver/zzlaws_internal_decimal_b1.FnCmpTransitive", spec := "fnCmpTransitive", inPlace := ["internal/bytealg.abigen_runtime_cmpstring"], apart := false }
def FnCmpTransitiveSaid : Prop := fnCmpTransitiveRow.holds Try.pinned (OpenSpec.ofChange fnCmpTransitiveSpec)

/-- ITS FALSE NEIGHBOUR: 'it returns false'. Refute it at one input. -/
def fnCmpTransitiveWrong : ChangeSpec := { name := "fnCmpTransitive", fn := fun _ => fun
  | [d1, d2, d3, d4, d5, d6, d7, d8, d9] => { results := [.lit (.bool false)], args := [d1, d2, d3, d4, d5, d6, d7, d8, d9] }
  | _ => none }
def FnCmpTransitiveWrongFalsely : Prop := fnCmpTransitiveRow.holds Try.pinned (OpenSpec.ofChange fnCmpTransitiveWrong)

end Rows
end Go.Proofs.Qxb6602496a
