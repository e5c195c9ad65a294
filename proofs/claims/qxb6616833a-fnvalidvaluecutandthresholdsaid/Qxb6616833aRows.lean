/-
  No cell of these rows narrows 'for every input' (looked for: loops, veiled, ifaces, maps, wideKeys, modest, calm, conditions, laid).
  DERIVED. THE GIVEN ROWS OF THIS SEAT. 2 by the template 'for every input the law returns true; each argument reads behind the call as it read before'; 0 by the template 'total and deterministic' (their statements: Qxb6616833aTotals.lean).
  GIVEN WITH THE SEED: the statements are not yours to turn. If you find one false, say at which input.
  Laid BY PROGRAM, IN A SANDBOX (cutbox-rows.mjs): the forced cells as the released guide's own fill.sh prints them over the translation 3f24ef15d9b47671… (all of the seat's roots in one cut). By AI agents, Wed Nov 11 2026. No macro, syntax, notation, axiom, sorry.
-/
import Derived.Test.Qxb6616833aChecked
import GoSem.Claim
import GoSem.ClaimJoined
import GoSem.ClaimMapViews
import Derived.JoinedTies
import Derived.KernelRfl
namespace Go.Proofs.Qxb6616833a
/- THE CELL 'sum', in the pinned program and in every row, IS THE sha256 OF THE DUMP (.gsa) THAT Qxb6616833aProg.lean LOADS. Nothing in Lean hashes anything: it is a label: what it is worth is what the hold of that sum in a sandbox is worth. -/
noncomputable def Try.pinned : Pinned := { name := "qxb6616833a", sum := "3f24ef15d9b476713d4dd4c9dcf7d392b780668003b6970ffc292506ba23caf3", checked := Try.checked }
namespace Rows
def none {H : Type} : Left H := { results := [], args := [] }

/-- 'zzlaws_root_b1.FnValidValueCountsPrefixes': WHATEVER THE INPUT: true; the input reads as it did. -/
def fnValidValueCountsPrefixesSpec : ChangeSpec := { name := "fnValidValueCountsPrefixes", fn := fun _ => fun
  | [d] => { results := [.lit (.bool true)], args := [d] }
  | _ => none }
def fnValidValueCountsPrefixesRow : OpenClaim := { program := "qxb6616833a", sum := "3f24ef15d9b476713d4dd4c9dcf7d392b780668003b6970ffc292506ba23caf3", func := "example.com/viewline/viewline/zzlaws_root_b1.FnValidValueCountsPrefixes", spec := "fnValidValueCountsPrefixes", apart := false }
def FnValidValueCountsPrefixesSaid : Prop := fnValidValueCountsPrefixesRow.holds Try.pinned (OpenSpec.ofChange fnValidValueCountsPrefixesSpec)

/-- ITS FALSE NEIGHBOUR: 'it returns false'. Refute it at one input. -/
def fnValidValueCountsPrefixesWrong : ChangeSpec := { name := "fnValidValueCountsPrefixes", fn := fun _ => fun
  | [d] => { results := [.lit (.bool false)], args := [d] }
  | _ => none }
def FnValidValueCountsPrefixesWrongFalsely : Prop := fnValidValueCountsPrefixesRow.holds Try.pinned (OpenSpec.ofChange fnValidValueCountsPrefixesWrong)

/-- 'zzlaws_root_b1.FnValidValueCutAndThreshold': WHATEVER THE INPUT: true; the input reads as it did. -/
def fnValidValueCutAndThresholdSpec : ChangeSpec := { name := "fnValidValueCutAndThreshold", fn := fun _ => fun
  | [d1, d2] => { results := [.lit (.bool true)], args := [d1, d2] }
  | _ => none }
def fnValidValueCutAndThresholdRow : OpenClaim := { program := "qxb6616833a", sum := "3f24ef15d9b476713d4dd4c9dcf7d392b780668003b6970ffc292506ba23caf3", func := "example.com/viewline/viewline/zzlaws_root_b1.FnValidValueCutAndThreshold", spec := "fnValidValueCutAndThreshold", apart := false }
def FnValidValueCutAndThresholdSaid : Prop := fnValidValueCutAndThresholdRow.holds Try.pinned (OpenSpec.ofChange fnValidValueCutAndThresholdSpec)

/-- ITS FALSE NEIGHBOUR: 'it returns false'. Refute it at one input. -/
def fnValidValueCutAndThresholdWrong : ChangeSpec := { name := "fnValidValueCutAndThreshold", fn := fun _ => fun
  | [d1, d2] => { results := [.lit (.bool false)], args := [d1, d2] }
  | _ => none }
def FnValidValueCutAndThresholdWrongFalsely : Prop := fnValidValueCutAndThresholdRow.holds Try.pinned (OpenSpec.ofChange fnValidValueCutAndThresholdWrong)

end Rows
end Go.Proofs.Qxb6616833a
