/-
  No cell of these rows narrows 'for every input' (looked for: loops, veiled, ifaces, maps, wideKeys, modest, calm, conditions, laid).
  DERIVED. THE GIVEN ROWS OF THIS SEAT. 5 by the template 'for every input the law returns true; each argument reads behind the call as it read before'; 0 by the template 'total and deterministic' (their statements: Qxb6602244aTotals.lean).
  GIVEN WITH THE SEED: the statements are not yours to turn. If you find one false, say at which input.
  Laid BY PROGRAM, IN A SANDBOX (cutbox-rows.mjs): the forced cells as the released guide's own fill.sh prints them over the translation 7a3fc25f7716cf7d… (all of the seat's roots in one cut). By AI agents, Wed Nov 11 2026. No macro, syntax, notation, axiom, sorry.
-/
import Derived.Test.Qxb6602244aChecked
import GoSem.Claim
import GoSem.ClaimJoined
import GoSem.ClaimMapViews
import Derived.JoinedTies
import Derived.KernelRfl
namespace Go.Proofs.Qxb6602244a
/- THE CELL 'sum', in the pinned program and in every row, IS THE sha256 OF THE DUMP (.gsa) THAT Qxb6602244aProg.lean LOADS. Nothing in Lean hashes anything: it is a label: what it is worth is what the hold of that sum in a sandbox is worth. -/
noncomputable def Try.pinned : Pinned := { name := "qxb6602244a", sum := "7a3fc25f7716cf7d952f49cbc9ccfbc9cf957bfeeba8e7ae46c562ccffc2f40a", checked := Try.checked }
namespace Rows
def none {H : Type} : Left H := { results := [], args := [] }

/-- 'zzlaws_internal_eval_b1.FnMetNeverLostByBinding': WHATEVER THE INPUT: true; the input reads as it did. -/
def fnMetNeverLostByBindingSpec : ChangeSpec := { name := "fnMetNeverLostByBinding", fn := fun _ => fun
  | [d1, d2, d3, d4, d5, d6] => { results := [.lit (.bool true)], args := [d1, d2, d3, d4, d5, d6] }
  | _ => none }
def fnMetNeverLostByBindingRow : OpenClaim := { program := "qxb6602244a", sum := "7a3fc25f7716cf7d952f49cbc9ccfbc9cf957bfeeba8e7ae46c562ccffc2f40a", func := "example.com/decree/decree/zzlaws_internal_eval_b1.FnMetNeverLostByBinding", spec := "fnMetNeverLostByBinding", apart := false }
def FnMetNeverLostByBindingSaid : Prop := fnMetNeverLostByBindingRow.holds Try.pinned (OpenSpec.ofChange fnMetNeverLostByBindingSpec)

/-- ITS FALSE NEIGHBOUR: 'it returns false'. Refute it at one input. -/
def fnMetNeverLostByBindingWrong : ChangeSpec := { name := "fnMetNeverLostByBinding", fn := fun _ => fun
  | [d1, d2, d3, d4, d5, d6] => { results := [.lit (.bool false)], args := [d1, d2, d3, d4, d5, d6] }
  | _ => none }
def FnMetNeverLostByBindingWrongFalsely : Prop := fnMetNeverLostByBindingRow.holds Try.pinned (OpenSpec.ofChange fnMetNeverLostByBindingWrong)

/-- 'zzlaws_internal_eval_b1.FnLookupMatchesChainModel': WHATEVER THE INPUT: true; the input reads as it did. -/
def fnLookupMatchesChainModelSpec : ChangeSpec := { name := "fnLookupMatchesChainModel", fn := fun _ => fun
  | [d1, d2] => { results := [.lit (.bool true)], args := [d1, d2] }
  | _ => none }
def fnLookupMatchesChainModelRow : OpenClaim := { program := "qxb6602244a", sum := "7a3fc25f7716cf7d952f49cbc9ccfbc9cf957bfeeba8e7ae46c562ccffc2f40a", func := "example.com/decree/decree/zzlaws_internal_eval_b1.FnLookupMatchesChainModel", spec := "fnLookupMatchesChainModel", apart := false }
def FnLookupMatchesChainModelSaid : Prop := fnLookupMatchesChainModelRow.holds Try.pinned (OpenSpec.ofChange fnLookupMatchesChainModelSpec)

/-- ITS FALSE NEIGHBOUR: 'it returns false'. Refute it at one input. -/
def fnLookupMatchesChainModelWrong : ChangeSpec := { name := "fnLookupMatchesChainModel", fn := fun _ => fun
  | [d1, d2] => { results := [.lit (.bool false)], args := [d1, d2] }
  | _ => none }
def FnLookupMatchesChainModelWrongFalsely : Prop := fnLookupMatchesChainModelRow.holds Try.pinned (OpenSpec.ofChange fnLookupMatchesChainModelWrong)

/-- 'zzlaws_internal_eval_b1.FnLookupAgainNotesTheSameAgain': WHATEVER THE INPUT: true; the input reads as it did. -/
def fnLookupAgainNotesTheSameAgainSpec : ChangeSpec := { name := "fnLookupAgainNotesTheSameAgain", fn := fun _ => fun
  | [d1, d2] => { results := [.lit (.bool true)], args := [d1, d2] }
  | _ => none }
def fnLookupAgainNotesTheSameAgainRow : OpenClaim := { program := "qxb6602244a", sum := "7a3fc25f7716cf7d952f49cbc9ccfbc9cf957bfeeba8e7ae46c562ccffc2f40a", func := "example.com/decree/decree/zzlaws_internal_eval_b1.FnLookupAgainNotesTheSameAgain", spec := "fnLookupAgainNotesTheSameAgain", apart := false }
def FnLookupAgainNotesTheSameAgainSaid : Prop := fnLookupAgainNotesTheSameAgainRow.holds Try.pinned (OpenSpec.ofChange fnLookupAgainNotesTheSameAgainSpec)

/-- ITS FALSE NEIGHBOUR: 'it returns false'. Refute it at one input. -/
def fnLookupAgainNotesTheSameAgainWrong : ChangeSpec := { name := "fnLookupAgainNotesTheSameAgain", fn := fun _ => fun
  | [d1, d2] => { results := [.lit (.bool false)], args := [d1, d2] }
  | _ => none }
def FnLookupAgainNotesTheSameAgainWrongFalsely : Prop := fnLookupAgainNotesTheSameAgainRow.holds Try.pinned (OpenSpec.ofChange fnLookupAgainNotesTheSameAgainWrong)

/-- 'zzlaws_internal_eval_b1.FnWatchMatchesModel': WHATEVER THE INPUT: true; the input reads as it did. -/
def fnWatchMatchesModelSpec : ChangeSpec := { name := "fnWatchMatchesModel", fn := fun _ => fun
  | [d1, d2, d3, d4, d5, d6, d7, d8] => { results := [.lit (.bool true)], args := [d1, d2, d3, d4, d5, d6, d7, d8] }
  | _ => none }
def fnWatchMatchesModelRow : OpenClaim := { program := "qxb6602244a", sum := "7a3fc25f7716cf7d952f49cbc9ccfbc9cf957bfeeba8e7ae46c562ccffc2f40a", func := "example.com/decree/decree/zzlaws_internal_eval_b1.FnWatchMatchesModel", spec := "fnWatchMatchesModel", apart := false }
def FnWatchMatchesModelSaid : Prop := fnWatchMatchesModelRow.holds Try.pinned (OpenSpec.ofChange fnWatchMatchesModelSpec)

/-- ITS FALSE NEIGHBOUR: 'it returns false'. Refute it at one input. -/
def fnWatchMatchesModelWrong : ChangeSpec := { name := "fnWatchMatchesModel", fn := fun _ => fun
  | [d1, d2, d3, d4, d5, d6, d7, d8] => { results := [.lit (.bool false)], args := [d1, d2, d3, d4, d5, d6, d7, d8] }
  | _ => none }
def FnWatchMatchesModelWrongFalsely : Prop := fnWatchMatchesModelRow.holds Try.pinned (OpenSpec.ofChange fnWatchMatchesModelWrong)

/-- 'zzlaws_internal_eval_b1.FnWatchAgainChangesNothing': WHATEVER THE INPUT: true; the input reads as it did. -/
def fnWatchAgainChangesNothingSpec : ChangeSpec := { name := "fnWatchAgainChangesNothing", fn := fun _ => fun
  | [d1, d2, d3, d4, d5, d6, d7, d8] => { results := [.lit (.bool true)], args := [d1, d2, d3, d4, d5, d6, d7, d8] }
  | _ => none }
def fnWatchAgainChangesNothingRow : OpenClaim := { program := "qxb6602244a", sum := "7a3fc25f7716cf7d952f49cbc9ccfbc9cf957bfeeba8e7ae46c562ccffc2f40a", func := "example.com/decree/decree/zzlaws_internal_eval_b1.FnWatchAgainChangesNothing", spec := "fnWatchAgainChangesNothing", apart := false }
def FnWatchAgainChangesNothingSaid : Prop := fnWatchAgainChangesNothingRow.holds Try.pinned (OpenSpec.ofChange fnWatchAgainChangesNothingSpec)

/-- ITS FALSE NEIGHBOUR: 'it returns false'. Refute it at one input. -/
def fnWatchAgainChangesNothingWrong : ChangeSpec := { name := "fnWatchAgainChangesNothing", fn := fun _ => fun
  | [d1, d2, d3, d4, d5, d6, d7, d8] => { results := [.lit (.bool false)], args := [d1, d2, d3, d4, d5, d6, d7, d8] }
  | _ => none }
def FnWatchAgainChangesNothingWrongFalsely : Prop := fnWatchAgainChangesNothingRow.holds Try.pinned (OpenSpec.ofChange fnWatchAgainChangesNothingWrong)

end Rows
end Go.Proofs.Qxb6602244a
