/-
  No cell of these rows narrows 'for every input' (looked for: loops, veiled, ifaces, maps, wideKeys, modest, calm, conditions, laid).
  DERIVED. THE GIVEN ROWS OF THIS SEAT. 4 by the template 'for every input the law returns true; each argument reads behind the call as it read before'; 0 by the template 'total and deterministic' (their statements: Qxb6602135aTotals.lean).
  GIVEN WITH THE SEED: the statements are not yours to turn. If you find one false, say at which input.
  Laid BY PROGRAM, IN A SANDBOX (cutbox-rows.mjs): the forced cells as the released guide's own fill.sh prints them over the translation f086466ef96fc12b… (all of the seat's roots in one cut). By AI agents, Wed Nov 11 2026. No macro, syntax, notation, axiom, sorry.
-/
import Derived.Test.Qxb6602135aChecked
import GoSem.Claim
import GoSem.ClaimJoined
import GoSem.ClaimMapViews
import Derived.JoinedTies
import Derived.KernelRfl
namespace Go.Proofs.Qxb6602135a
/- THE CELL 'sum', in the pinned program and in every row, IS THE sha256 OF THE DUMP (.gsa) THAT Qxb6602135aProg.lean LOADS. Nothing in Lean hashes anything: it is a label: what it is worth is what the hold of that sum in a sandbox is worth. -/
noncomputable def Try.pinned : Pinned := { name := "qxb6602135a", sum := "f086466ef96fc12bfa92719c03f0f79f549643f805df6dca8ba0d3be3dabda08", checked := Try.checked }
namespace Rows
def none {H : Type} : Left H := { results := [], args := [] }

/-- 'zzlaws_quantity_b1.FnScanNumberMatchesAutomaton': WHATEVER THE INPUT: true; the input reads as it did. -/
def fnScanNumberMatchesAutomatonSpec : ChangeSpec := { name := "fnScanNumberMatchesAutomaton", fn := fun _ => fun
  | [d] => { results := [.lit (.bool true)], args := [d] }
  | _ => none }
def fnScanNumberMatchesAutomatonRow : OpenClaim := { program := "qxb6602135a", sum := "f086466ef96fc12bfa92719c03f0f79f549643f805df6dca8ba0d3be3dabda08", func := "example.com/allotmeter/allotmeter/zzlaws_quantity_b1.FnScanNumberMatchesAutomaton", spec := "fnScanNumberMatchesAutomaton", apart := false }
def FnScanNumberMatchesAutomatonSaid : Prop := fnScanNumberMatchesAutomatonRow.holds Try.pinned (OpenSpec.ofChange fnScanNumberMatchesAutomatonSpec)

/-- ITS FALSE NEIGHBOUR: 'it returns false'. Refute it at one input. -/
def fnScanNumberMatchesAutomatonWrong : ChangeSpec := { name := "fnScanNumberMatchesAutomaton", fn := fun _ => fun
  | [d] => { results := [.lit (.bool false)], args := [d] }
  | _ => none }
def FnScanNumberMatchesAutomatonWrongFalsely : Prop := fnScanNumberMatchesAutomatonRow.holds Try.pinned (OpenSpec.ofChange fnScanNumberMatchesAutomatonWrong)

/-- 'zzlaws_quantity_b1.FnScanNumberPrefixes': WHATEVER THE INPUT: true; the input reads as it did. -/
def fnScanNumberPrefixesSpec : ChangeSpec := { name := "fnScanNumberPrefixes", fn := fun _ => fun
  | [d] => { results := [.lit (.bool true)], args := [d] }
  | _ => none }
def fnScanNumberPrefixesRow : OpenClaim := { program := "qxb6602135a", sum := "f086466ef96fc12bfa92719c03f0f79f549643f805df6dca8ba0d3be3dabda08", func := "example.com/allotmeter/allotmeter/zzlaws_quantity_b1.FnScanNumberPrefixes", spec := "fnScanNumberPrefixes", apart := false }
def FnScanNumberPrefixesSaid : Prop := fnScanNumberPrefixesRow.holds Try.pinned (OpenSpec.ofChange fnScanNumberPrefixesSpec)

/-- ITS FALSE NEIGHBOUR: 'it returns false'. Refute it at one input. -/
def fnScanNumberPrefixesWrong : ChangeSpec := { name := "fnScanNumberPrefixes", fn := fun _ => fun
  | [d] => { results := [.lit (.bool false)], args := [d] }
  | _ => none }
def FnScanNumberPrefixesWrongFalsely : Prop := fnScanNumberPrefixesRow.holds Try.pinned (OpenSpec.ofChange fnScanNumberPrefixesWrong)

/-- 'zzlaws_quantity_b1.FnSkipDigitsMatchesBackwardScan': WHATEVER THE INPUT: true; the input reads as it did. -/
def fnSkipDigitsMatchesBackwardScanSpec : ChangeSpec := { name := "fnSkipDigitsMatchesBackwardScan", fn := fun _ => fun
  | [d1, d2] => { results := [.lit (.bool true)], args := [d1, d2] }
  | _ => none }
def fnSkipDigitsMatchesBackwardScanRow : OpenClaim := { program := "qxb6602135a", sum := "f086466ef96fc12bfa92719c03f0f79f549643f805df6dca8ba0d3be3dabda08", func := "example.com/allotmeter/allotmeter/zzlaws_quantity_b1.FnSkipDigitsMatchesBackwardScan", spec := "fnSkipDigitsMatchesBackwardScan", apart := false }
def FnSkipDigitsMatchesBackwardScanSaid : Prop := fnSkipDigitsMatchesBackwardScanRow.holds Try.pinned (OpenSpec.ofChange fnSkipDigitsMatchesBackwardScanSpec)

/-- ITS FALSE NEIGHBOUR: 'it returns false'. Refute it at one input. -/
def fnSkipDigitsMatchesBackwardScanWrong : ChangeSpec := { name := "fnSkipDigitsMatchesBackwardScan", fn := fun _ => fun
  | [d1, d2] => { results := [.lit (.bool false)], args := [d1, d2] }
  | _ => none }
def FnSkipDigitsMatchesBackwardScanWrongFalsely : Prop := fnSkipDigitsMatchesBackwardScanRow.holds Try.pinned (OpenSpec.ofChange fnSkipDigitsMatchesBackwardScanWrong)

/-- 'zzlaws_quantity_b1.FnSkipDigitsRunLaws': WHATEVER THE INPUT: true; the input reads as it did. -/
def fnSkipDigitsRunLawsSpec : ChangeSpec := { name := "fnSkipDigitsRunLaws", fn := fun _ => fun
  | [d1, d2, d3] => { results := [.lit (.bool true)], args := [d1, d2, d3] }
  | _ => none }
def fnSkipDigitsRunLawsRow : OpenClaim := { program := "qxb6602135a", sum := "f086466ef96fc12bfa92719c03f0f79f549643f805df6dca8ba0d3be3dabda08", func := "example.com/allotmeter/allotmeter/zzlaws_quantity_b1.FnSkipDigitsRunLaws", spec := "fnSkipDigitsRunLaws", apart := false }
def FnSkipDigitsRunLawsSaid : Prop := fnSkipDigitsRunLawsRow.holds Try.pinned (OpenSpec.ofChange fnSkipDigitsRunLawsSpec)

/-- ITS FALSE NEIGHBOUR: 'it returns false'. Refute it at one input. -/
def fnSkipDigitsRunLawsWrong : ChangeSpec := { name := "fnSkipDigitsRunLaws", fn := fun _ => fun
  | [d1, d2, d3] => { results := [.lit (.bool false)], args := [d1, d2, d3] }
  | _ => none }
def FnSkipDigitsRunLawsWrongFalsely : Prop := fnSkipDigitsRunLawsRow.holds Try.pinned (OpenSpec.ofChange fnSkipDigitsRunLawsWrong)

end Rows
end Go.Proofs.Qxb6602135a
