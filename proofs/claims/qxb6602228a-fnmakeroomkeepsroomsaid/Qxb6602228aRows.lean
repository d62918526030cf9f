/-
  No cell of these rows narrows 'for every input' (looked for: loops, veiled, ifaces, maps, wideKeys, modest, calm, conditions, laid).
  DERIVED. THE GIVEN ROWS OF THIS SEAT. 2 by the template 'for every input the law returns true; each argument reads behind the call as it read before'; 0 by the template 'total and deterministic' (their statements: Qxb6602228aTotals.lean).
  GIVEN WITH THE SEED: the statements are not yours to turn. If you find one false, say at which input.
  Laid BY PROGRAM, IN A SANDBOX (cutbox-rows.mjs): the forced cells as the released guide's own fill.sh prints them over the translation 65ae485e480b5f09… (all of the seat's roots in one cut). By AI agents, Wed Nov 11 2026. No macro, syntax, notation, axiom, sorry.
-/
import Derived.Test.Qxb6602228aChecked
import GoSem.Claim
import GoSem.ClaimJoined
import GoSem.ClaimMapViews
import Derived.JoinedTies
import Derived.KernelRfl
namespace Go.Proofs.Qxb6602228a
/- THE CELL 'sum', in the pinned program and in every row, IS THE sha256 OF THE DUMP (.gsa) THAT Qxb6602228aProg.lean LOADS. Nothing in Lean hashes anything: it is a label: what it is worth is what the hold of that sum in a sandbox is worth. -/
noncomputable def Try.pinned : Pinned := { name := "qxb6602228a", sum := "65ae485e480b5f098c0a00bafdb282a69825dd26d837168fd6a60349c605ec2b", checked := Try.checked }
namespace Rows
def none {H : Type} : Left H := { results := [], args := [] }

/-- 'zzlaws_internal_manifest_b1.FnMakeRoomExactRoom': WHATEVER THE INPUT: true; the input reads as it did. -/
def fnMakeRoomExactRoomSpec : ChangeSpec := { name := "fnMakeRoomExactRoom", fn := fun _ => fun
  | [d1, d2, d3, d4] => { results := [.lit (.bool true)], args := [d1, d2, d3, d4] }
  | _ => none }
def fnMakeRoomExactRoomRow : OpenClaim := { program := "qxb6602228a", sum := "65ae485e480b5f098c0a00bafdb282a69825dd26d837168fd6a60349c605ec2b", func := "example.com/scatterhold/scatterhold/zzlaws_internal_manifest_b1.FnMakeRoomExactRoom", spec := "fnMakeRoomExactRoom", apart := false }
def FnMakeRoomExactRoomSaid : Prop := fnMakeRoomExactRoomRow.holds Try.pinned (OpenSpec.ofChange fnMakeRoomExactRoomSpec)

/-- ITS FALSE NEIGHBOUR: 'it returns false'. Refute it at one input. -/
def fnMakeRoomExactRoomWrong : ChangeSpec := { name := "fnMakeRoomExactRoom", fn := fun _ => fun
  | [d1, d2, d3, d4] => { results := [.lit (.bool false)], args := [d1, d2, d3, d4] }
  | _ => none }
def FnMakeRoomExactRoomWrongFalsely : Prop := fnMakeRoomExactRoomRow.holds Try.pinned (OpenSpec.ofChange fnMakeRoomExactRoomWrong)

/-- 'zzlaws_internal_manifest_b1.FnMakeRoomKeepsRoom': WHATEVER THE INPUT: true; the input reads as it did. -/
def fnMakeRoomKeepsRoomSpec : ChangeSpec := { name := "fnMakeRoomKeepsRoom", fn := fun _ => fun
  | [d1, d2, d3, d4, d5] => { results := [.lit (.bool true)], args := [d1, d2, d3, d4, d5] }
  | _ => none }
def fnMakeRoomKeepsRoomRow : OpenClaim := { program := "qxb6602228a", sum := "65ae485e480b5f098c0a00bafdb282a69825dd26d837168fd6a60349c605ec2b", func := "example.com/scatterhold/scatterhold/zzlaws_internal_manifest_b1.FnMakeRoomKeepsRoom", spec := "fnMakeRoomKeepsRoom", apart := false }
def FnMakeRoomKeepsRoomSaid : Prop := fnMakeRoomKeepsRoomRow.holds Try.pinned (OpenSpec.ofChange fnMakeRoomKeepsRoomSpec)

/-- ITS FALSE NEIGHBOUR: 'it returns false'. Refute it at one input. -/
def fnMakeRoomKeepsRoomWrong : ChangeSpec := { name := "fnMakeRoomKeepsRoom", fn := fun _ => fun
  | [d1, d2, d3, d4, d5] => { results := [.lit (.bool false)], args := [d1, d2, d3, d4, d5] }
  | _ => none }
def FnMakeRoomKeepsRoomWrongFalsely : Prop := fnMakeRoomKeepsRoomRow.holds Try.pinned (OpenSpec.ofChange fnMakeRoomKeepsRoomWrong)

end Rows
end Go.Proofs.Qxb6602228a
