/-
  No cell of these rows narrows 'for every input' (looked for: loops, veiled, ifaces, maps, wideKeys, modest, calm, conditions, laid).
  DERIVED. THE GIVEN ROWS OF THIS SEAT. 3 by the template 'for every input the law returns true; each argument reads behind the call as it read before'; 0 by the template 'total and deterministic' (their statements: Qxb6002903aTotals.lean).
  GIVEN WITH THE SEED: the statements are not yours to turn. If you find one false, say at which input.
  Laid BY PROGRAM, IN A SANDBOX (cutbox-rows.mjs): the forced cells as the released guide's own fill.sh prints them over the translation de6f0121500afeb3… (all of the seat's roots in one cut). By AI agents, Wed Nov 11 2026. No macro, syntax, notation, axiom, sorry.
-/
import Derived.Test.Qxb6002903aChecked
import GoSem.Claim
import GoSem.ClaimJoined
import GoSem.ClaimMapViews
import Derived.JoinedTies
import Derived.KernelRfl
namespace Go.Proofs.Qxb6002903a
/- THE CELL 'sum', in the pinned program and in every row, IS THE sha256 OF THE DUMP (.gsa) THAT Qxb6002903aProg.lean LOADS. Nothing in Lean hashes anything: it is a label: what it is worth is what the hold of that sum in a sandbox is worth. -/
noncomputable def Try.pinned : Pinned := { name := "qxb6002903a", sum := "de6f0121500afeb3b3915f7affd430f809f54c6c494d2720639c7158e800d11c", checked := Try.checked }
namespace Rows
def none {H : Type} : Left H := { results := [], args := [] }

/-- 'zzlaws_jsonwalk_b1.FnStringEndMatchesForwardScan': WHATEVER THE INPUT: true; the input reads as it did. -/
def fnStringEndMatchesForwardScanSpec : ChangeSpec := { name := "fnStringEndMatchesForwardScan", fn := fun _ => fun
  | [d1, d2] => { results := [.lit (.bool true)], args := [d1, d2] }
  | _ => none }
def fnStringEndMatchesForwardScanRow : OpenClaim := { program := "qxb6002903a", sum := "de6f0121500afeb3b3915f7affd430f809f54c6c494d2720639c7158e800d11c", func := "example.com/glot2/glot2/zzlaws_jsonwalk_b1.FnStringEndMatchesForwardScan", spec := "fnStringEndMatchesForwardScan", inPlace := ["internal/bytealg.IndexByte"], apart := false }
def FnStringEndMatchesForwardScanSaid : Prop := fnStringEndMatchesForwardScanRow.holds Try.pinned (OpenSpec.ofChange fnStringEndMatchesForwardScanSpec)

/-- ITS FALSE NEIGHBOUR: 'it returns false'. Refute it at one input. -/
def fnStringEndMatchesForwardScanWrong : ChangeSpec := { name := "fnStringEndMatchesForwardScan", fn := fun _ => fun
  | [d1, d2] => { results := [.lit (.bool false)], args := [d1, d2] }
  | _ => none }
def FnStringEndMatchesForwardScanWrongFalsely : Prop := fnStringEndMatchesForwardScanRow.holds Try.pinned (OpenSpec.ofChange fnStringEndMatchesForwardScanWrong)

/-- 'zzlaws_jsonwalk_b1.FnNextSkipsBlanks': WHATEVER THE INPUT: true; the input reads as it did. -/
def fnNextSkipsBlanksSpec : ChangeSpec := { name := "fnNextSkipsBlanks", fn := fun _ => fun
  | [d1, d2, d3] => { results := [.lit (.bool true)], args := [d1, d2, d3] }
  | _ => none }
def fnNextSkipsBlanksRow : OpenClaim := { program := "qxb6002903a", sum := "de6f0121500afeb3b3915f7affd430f809f54c6c494d2720639c7158e800d11c", func := "example.com/glot2/glot2/zzlaws_jsonwalk_b1.FnNextSkipsBlanks", spec := "fnNextSkipsBlanks", apart := false }
def FnNextSkipsBlanksSaid : Prop := fnNextSkipsBlanksRow.holds Try.pinned (OpenSpec.ofChange fnNextSkipsBlanksSpec)

/-- ITS FALSE NEIGHBOUR: 'it returns false'. Refute it at one input. -/
def fnNextSkipsBlanksWrong : ChangeSpec := { name := "fnNextSkipsBlanks", fn := fun _ => fun
  | [d1, d2, d3] => { results := [.lit (.bool false)], args := [d1, d2, d3] }
  | _ => none }
def FnNextSkipsBlanksWrongFalsely : Prop := fnNextSkipsBlanksRow.holds Try.pinned (OpenSpec.ofChange fnNextSkipsBlanksWrong)

/-- 'zzlaws_jsonwalk_b1.FnValueMatchesScanner': WHATEVER THE INPUT: true; the input reads as it did. -/
def fnValueMatchesScannerSpec : ChangeSpec := { name := "fnValueMatchesScanner", fn := fun _ => fun
  | [d1, d2, d3] => { results := [.lit (.bool true)], args := [d1, d2, d3] }
  | _ => none }
def fnValueMatchesScannerRow : OpenClaim := { program := "qxb6002903a", sum := "de6f0121500afeb3b3915f7affd430f809f54c6c494d2720639c7158e800d11c", func := "example.com/glot2/glot2/zzlaws_jsonwalk_b1.FnValueMatchesScanner", spec := "fnValueMatchesScanner", inPlace := ["internal/bytealg.IndexByte"], apart := false }
def FnValueMatchesScannerSaid : Prop := fnValueMatchesScannerRow.holds Try.pinned (OpenSpec.ofChange fnValueMatchesScannerSpec)

/-- ITS FALSE NEIGHBOUR: 'it returns false'. Refute it at one input. -/
def fnValueMatchesScannerWrong : ChangeSpec := { name := "fnValueMatchesScanner", fn := fun _ => fun
  | [d1, d2, d3] => { results := [.lit (.bool false)], args := [d1, d2, d3] }
  | _ => none }
def FnValueMatchesScannerWrongFalsely : Prop := fnValueMatchesScannerRow.holds Try.pinned (OpenSpec.ofChange fnValueMatchesScannerWrong)

end Rows
end Go.Proofs.Qxb6002903a
