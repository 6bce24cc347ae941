/-
  No cell of these rows narrows 'for every input' (looked for: loops, veiled, ifaces, maps, wideKeys, modest, calm, conditions, laid).
  DERIVED. THE GIVEN ROWS OF THIS SEAT. 3 by the template 'for every input the law returns true; each argument reads behind the call as it read before'; 0 by the template 'total and deterministic' (their statements: Qxb6604679aTotals.lean).
  GIVEN WITH THE SEED: the statements are not yours to turn. If you find one false, say at which input.
  Laid BY PROGRAM, IN A SANDBOX (cutbox-rows.mjs): the forced cells as the released guide's own fill.sh prints them over the translation 6fe2f2ead3efeb66… (all of the seat's roots in one cut). By AI agents, Wed Nov 11 2026. No macro, syntax, notation, axiom, sorry.
-/
import Derived.Test.Qxb6604679aChecked
import GoSem.Claim
import GoSem.ClaimJoined
import GoSem.ClaimMapViews
import Derived.JoinedTies
import Derived.KernelRfl
namespace Go.Proofs.Qxb6604679a
/- THE CELL 'sum', in the pinned program and in every row, IS THE sha256 OF THE DUMP (.gsa) THAT Qxb6604679aProg.lean LOADS. Nothing in Lean hashes anything: it is a label: what it is worth is what the hold of that sum in a sandbox is worth. -/
noncomputable def Try.pinned : Pinned := { name := "qxb6604679a", sum := "6fe2f2ead3efeb66de47316f213e162beb109cdf55ffee740d307d833265f558", checked := Try.checked }
namespace Rows
def none {H : Type} : Left H := { results := [], args := [] }

/-- 'zzlaws_internal_model_b1.FnShapeLayersIsModelDepth': WHATEVER THE INPUT: true; the input reads as it did. -/
def fnShapeLayersIsModelDepthSpec : ChangeSpec := { name := "fnShapeLayersIsModelDepth", fn := fun _ => fun
  | [d] => { results := [.lit (.bool true)], args := [d] }
  | _ => none }
def fnShapeLayersIsModelDepthRow : OpenClaim := { program := "qxb6604679a", sum := "6fe2f2ead3efeb66de47316f213e162beb109cdf55ffee740d307d833265f558", func := "example.com/ciphertrain/ciphertrain/zzlaws_internal_model_b1.FnShapeLayersIsModelDepth", spec := "fnShapeLayersIsModelDepth", apart := false }
def FnShapeLayersIsModelDepthSaid : Prop := fnShapeLayersIsModelDepthRow.holds Try.pinned (OpenSpec.ofChange fnShapeLayersIsModelDepthSpec)

/-- ITS FALSE NEIGHBOUR: 'it returns false'. Refute it at one input. -/
def fnShapeLayersIsModelDepthWrong : ChangeSpec := { name := "fnShapeLayersIsModelDepth", fn := fun _ => fun
  | [d] => { results := [.lit (.bool false)], args := [d] }
  | _ => none }
def FnShapeLayersIsModelDepthWrongFalsely : Prop := fnShapeLayersIsModelDepthRow.holds Try.pinned (OpenSpec.ofChange fnShapeLayersIsModelDepthWrong)

/-- 'zzlaws_internal_model_b1.FnPolynomialDegreeIsLastNonZeroPower': WHATEVER THE INPUT: true; the input reads as it did. -/
def fnPolynomialDegreeIsLastNonZeroPowerSpec : ChangeSpec := { name := "fnPolynomialDegreeIsLastNonZeroPower", fn := fun _ => fun
  | [d] => { results := [.lit (.bool true)], args := [d] }
  | _ => none }
def fnPolynomialDegreeIsLastNonZeroPowerRow : OpenClaim := { program := "qxb6604679a", sum := "6fe2f2ead3efeb66de47316f213e162beb109cdf55ffee740d307d833265f558", func := "example.com/ciphertrain/ciphertrain/zzlaws_internal_model_b1.FnPolynomialDegreeIsLastNonZeroPower", spec := "fnPolynomialDegreeIsLastNonZeroPower", apart := false }
def FnPolynomialDegreeIsLastNonZeroPowerSaid : Prop := fnPolynomialDegreeIsLastNonZeroPowerRow.holds Try.pinned (OpenSpec.ofChange fnPolynomialDegreeIsLastNonZeroPowerSpec)

/-- ITS FALSE NEIGHBOUR: 'it returns false'. Refute it at one input. -/
def fnPolynomialDegreeIsLastNonZeroPowerWrong : ChangeSpec := { name := "fnPolynomialDegreeIsLastNonZeroPower", fn := fun _ => fun
  | [d] => { results := [.lit (.bool false)], args := [d] }
  | _ => none }
def FnPolynomialDegreeIsLastNonZeroPowerWrongFalsely : Prop := fnPolynomialDegreeIsLastNonZeroPowerRow.holds Try.pinned (OpenSpec.ofChange fnPolynomialDegreeIsLastNonZeroPowerWrong)

/-- 'zzlaws_internal_model_b1.FnPolynomialDegreeUnderAppendedCoefficient': WHATEVER THE INPUT: true; the input reads as it did. -/
def fnPolynomialDegreeUnderAppendedCoefficientSpec : ChangeSpec := { name := "fnPolynomialDegreeUnderAppendedCoefficient", fn := fun _ => fun
  | [d1, d2] => { results := [.lit (.bool true)], args := [d1, d2] }
  | _ => none }
def fnPolynomialDegreeUnderAppendedCoefficientRow : OpenClaim := { program := "qxb6604679a", sum := "6fe2f2ead3efeb66de47316f213e162beb109cdf55ffee740d307d833265f558", func := "example.com/ciphertrain/ciphertrain/zzlaws_internal_model_b1.FnPolynomialDegreeUnderAppendedCoefficient", spec := "fnPolynomialDegreeUnderAppendedCoefficient", apart := false }
def FnPolynomialDegreeUnderAppendedCoefficientSaid : Prop := fnPolynomialDegreeUnderAppendedCoefficientRow.holds Try.pinned (OpenSpec.ofChange fnPolynomialDegreeUnderAppendedCoefficientSpec)

/-- ITS FALSE NEIGHBOUR: 'it returns false'. Refute it at one input. -/
def fnPolynomialDegreeUnderAppendedCoefficientWrong : ChangeSpec := { name := "fnPolynomialDegreeUnderAppendedCoefficient", fn := fun _ => fun
  | [d1, d2] => { results := [.lit (.bool false)], args := [d1, d2] }
  | _ => none }
def FnPolynomialDegreeUnderAppendedCoefficientWrongFalsely : Prop := fnPolynomialDegreeUnderAppendedCoefficientRow.holds Try.pinned (OpenSpec.ofChange fnPolynomialDegreeUnderAppendedCoefficientWrong)

end Rows
end Go.Proofs.Qxb6604679a
