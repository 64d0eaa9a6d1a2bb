/-
  No cell of these rows narrows 'for every input' (looked for: loops, veiled, ifaces, maps, wideKeys, modest, calm, conditions, laid).
  DERIVED. THE GIVEN ROWS OF THIS SEAT. 4 by the template 'for every input the law returns true; each argument reads behind the call as it read before'; 0 by the template 'total and deterministic' (their statements: Qxb6601221aTotals.lean).
  GIVEN WITH THE SEED: the statements are not yours to turn. If you find one false, say at which input.
  Laid BY PROGRAM, IN A SANDBOX (cutbox-rows.mjs): the forced cells as the released guide's own fill.sh prints them over the translation 54034a27ec94f176… (all of the seat's roots in one cut). By AI agents, Wed Nov 11 2026. No macro, syntax, notation, axiom, sorry.
-/
import Derived.Test.Qxb6601221aChecked
import GoSem.Claim
import GoSem.ClaimJoined
import GoSem.ClaimMapViews
import Derived.JoinedTies
import Derived.KernelRfl
namespace Go.Proofs.Qxb6601221a
/- THE CELL 'sum', in the pinned program and in every row, IS THE sha256 OF THE DUMP (.gsa) THAT Qxb6601221aProg.lean LOADS. Nothing in Lean hashes anything: it is a label: what it is worth is what the hold of that sum in a sandbox is worth. -/
noncomputable def Try.pinned : Pinned := { name := "qxb6601221a", sum := "54034a27ec94f176020100453820bb917a2081911d4d31768120fc3de0342be6", checked := Try.checked }
namespace Rows
def none {H : Type} : Left H := { results := [], args := [] }

/-- 'zzlaws_internal_jcs_b1.FnStringEndMatchesForwardScan': WHATEVER THE INPUT: true; the input reads as it did. -/
def fnStringEndMatchesForwardScanSpec : ChangeSpec := { name := "fnStringEndMatchesForwardScan", fn := fun _ => fun
  | [d1, d2] => { results := [.lit (.bool true)], args := [d1, d2] }
  | _ => none }
def fnStringEndMatchesForwardScanRow : OpenClaim := { program := "qxb6601221a", sum := "54034a27ec94f176020100453820bb917a2081911d4d31768120fc3de0342be6", func := "example.com/flota/flota/zzlaws_internal_jcs_b1.FnStringEndMatchesForwardScan", spec := "fnStringEndMatchesForwardScan", inPlace := ["internal/bytealg.IndexByte"], apart := false }
def FnStringEndMatchesForwardScanSaid : Prop := fnStringEndMatchesForwardScanRow.holds Try.pinned (OpenSpec.ofChange fnStringEndMatchesForwardScanSpec)

/-- ITS FALSE NEIGHBOUR: 'it returns false'. Refute it at one input. -/
def fnStringEndMatchesForwardScanWrong : ChangeSpec := { name := "fnStringEndMatchesForwardScan", fn := fun _ => fun
  | [d1, d2] => { results := [.lit (.bool false)], args := [d1, d2] }
  | _ => none }
def FnStringEndMatchesForwardScanWrongFalsely : Prop := fnStringEndMatchesForwardScanRow.holds Try.pinned (OpenSpec.ofChange fnStringEndMatchesForwardScanWrong)

/-- 'zzlaws_internal_jcs_b1.FnStringEndClosesAtLeastPrefix': WHATEVER THE INPUT: true; the input reads as it did. -/
def fnStringEndClosesAtLeastPrefixSpec : ChangeSpec := { name := "fnStringEndClosesAtLeastPrefix", fn := fun _ => fun
  | [d1, d2] => { results := [.lit (.bool true)], args := [d1, d2] }
  | _ => none }
def fnStringEndClosesAtLeastPrefixRow : OpenClaim := { program := "qxb6601221a", sum := "54034a27ec94f176020100453820bb917a2081911d4d31768120fc3de0342be6", func := "example.com/flota/flota/zzlaws_internal_jcs_b1.FnStringEndClosesAtLeastPrefix", spec := "fnStringEndClosesAtLeastPrefix", inPlace := ["internal/bytealg.IndexByte"], apart := false }
def FnStringEndClosesAtLeastPrefixSaid : Prop := fnStringEndClosesAtLeastPrefixRow.holds Try.pinned (OpenSpec.ofChange fnStringEndClosesAtLeastPrefixSpec)

/-- ITS FALSE NEIGHBOUR: 'it returns false'. Refute it at one input. -/
def fnStringEndClosesAtLeastPrefixWrong : ChangeSpec := { name := "fnStringEndClosesAtLeastPrefix", fn := fun _ => fun
  | [d1, d2] => { results := [.lit (.bool false)], args := [d1, d2] }
  | _ => none }
def FnStringEndClosesAtLeastPrefixWrongFalsely : Prop := fnStringEndClosesAtLeastPrefixRow.holds Try.pinned (OpenSpec.ofChange fnStringEndClosesAtLeastPrefixWrong)

/-- 'zzlaws_internal_jcs_b1.FnValueEndMatchesModel': WHATEVER THE INPUT: true; the input reads as it did. -/
def fnValueEndMatchesModelSpec : ChangeSpec := { name := "fnValueEndMatchesModel", fn := fun _ => fun
  | [d1, d2] => { results := [.lit (.bool true)], args := [d1, d2] }
  | _ => none }
def fnValueEndMatchesModelRow : OpenClaim := { program := "qxb6601221a", sum := "54034a27ec94f176020100453820bb917a2081911d4d31768120fc3de0342be6", func := "example.com/flota/flota/zzlaws_internal_jcs_b1.FnValueEndMatchesModel", spec := "fnValueEndMatchesModel", inPlace := ["internal/bytealg.IndexByte"], recurses := true, apart := false }
def FnValueEndMatchesModelSaid : Prop := fnValueEndMatchesModelRow.holds Try.pinned (OpenSpec.ofChange fnValueEndMatchesModelSpec)

/-- ITS FALSE NEIGHBOUR: 'it returns false'. Refute it at one input. -/
def fnValueEndMatchesModelWrong : ChangeSpec := { name := "fnValueEndMatchesModel", fn := fun _ => fun
  | [d1, d2] => { results := [.lit (.bool false)], args := [d1, d2] }
  | _ => none }
def FnValueEndMatchesModelWrongFalsely : Prop := fnValueEndMatchesModelRow.holds Try.pinned (OpenSpec.ofChange fnValueEndMatchesModelWrong)

/-- 'zzlaws_internal_jcs_b1.FnValueEndIsSelfDelimiting': WHATEVER THE INPUT: true; the input reads as it did. -/
def fnValueEndIsSelfDelimitingSpec : ChangeSpec := { name := "fnValueEndIsSelfDelimiting", fn := fun _ => fun
  | [d1, d2] => { results := [.lit (.bool true)], args := [d1, d2] }
  | _ => none }
def fnValueEndIsSelfDelimitingRow : OpenClaim := { program := "qxb6601221a", sum := "54034a27ec94f176020100453820bb917a2081911d4d31768120fc3de0342be6", func := "example.com/flota/flota/zzlaws_internal_jcs_b1.FnValueEndIsSelfDelimiting", spec := "fnValueEndIsSelfDelimiting", inPlace := ["internal/bytealg.IndexByte"], apart := false }
def FnValueEndIsSelfDelimitingSaid : Prop := fnValueEndIsSelfDelimitingRow.holds Try.pinned (OpenSpec.ofChange fnValueEndIsSelfDelimitingSpec)

/-- ITS FALSE NEIGHBOUR: 'it returns false'. Refute it at one input. -/
def fnValueEndIsSelfDelimitingWrong : ChangeSpec := { name := "fnValueEndIsSelfDelimiting", fn := fun _ => fun
  | [d1, d2] => { results := [.lit (.bool false)], args := [d1, d2] }
  | _ => none }
def FnValueEndIsSelfDelimitingWrongFalsely : Prop := fnValueEndIsSelfDelimitingRow.holds Try.pinned (OpenSpec.ofChange fnValueEndIsSelfDelimitingWrong)

end Rows
end Go.Proofs.Qxb6601221a
