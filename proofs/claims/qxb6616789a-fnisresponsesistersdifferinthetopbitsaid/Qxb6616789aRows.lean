/-
  No cell of these rows narrows 'for every input' (looked for: loops, veiled, ifaces, maps, wideKeys, modest, calm, conditions, laid).
  DERIVED. THE GIVEN ROWS OF THIS SEAT. 4 by the template 'for every input the law returns true; each argument reads behind the call as it read before'; 0 by the template 'total and deterministic' (their statements: Qxb6616789aTotals.lean).
  GIVEN WITH THE SEED: the statements are not yours to turn. If you find one false, say at which input.
  Laid BY PROGRAM, IN A SANDBOX (cutbox-rows.mjs): the forced cells as the released guide's own fill.sh prints them over the translation a6ab9dc3ed92d27b… (all of the seat's roots in one cut). By AI agents, Wed Nov 11 2026. No macro, syntax, notation, axiom, sorry.
-/
import Derived.Test.Qxb6616789aChecked
import GoSem.Claim
import GoSem.ClaimJoined
import GoSem.ClaimMapViews
import Derived.JoinedTies
import Derived.KernelRfl
namespace Go.Proofs.Qxb6616789a
/- THE CELL 'sum', in the pinned program and in every row, IS THE sha256 OF THE DUMP (.gsa) THAT Qxb6616789aProg.lean LOADS. Nothing in Lean hashes anything: it is a label: what it is worth is what the hold of that sum in a sandbox is worth. -/
noncomputable def Try.pinned : Pinned := { name := "qxb6616789a", sum := "a6ab9dc3ed92d27bc5421351972dbe1ed0dd4a679e08ef4c26395da66a6a7f2e", checked := Try.checked }
namespace Rows
def none {H : Type} : Left H := { results := [], args := [] }

/-- 'zzlaws_internal_smpp_b1.FnIsResponseExactlyTheHighHalf': WHATEVER THE INPUT: true; the input reads as it did. -/
def fnIsResponseExactlyTheHighHalfSpec : ChangeSpec := { name := "fnIsResponseExactlyTheHighHalf", fn := fun _ => fun
  | [d] => { results := [.lit (.bool true)], args := [d] }
  | _ => none }
def fnIsResponseExactlyTheHighHalfRow : OpenClaim := { program := "qxb6616789a", sum := "a6ab9dc3ed92d27bc5421351972dbe1ed0dd4a679e08ef4c26395da66a6a7f2e", func := "example.com/bindwire/bindwire/zzlaws_internal_smpp_b1.FnIsResponseExactlyTheHighHalf", spec := "fnIsResponseExactlyTheHighHalf", apart := false }
def FnIsResponseExactlyTheHighHalfSaid : Prop := fnIsResponseExactlyTheHighHalfRow.holds Try.pinned (OpenSpec.ofChange fnIsResponseExactlyTheHighHalfSpec)

/-- ITS FALSE NEIGHBOUR: 'it returns false'. Refute it at one input. -/
def fnIsResponseExactlyTheHighHalfWrong : ChangeSpec := { name := "fnIsResponseExactlyTheHighHalf", fn := fun _ => fun
  | [d] => { results := [.lit (.bool false)], args := [d] }
  | _ => none }
def FnIsResponseExactlyTheHighHalfWrongFalsely : Prop := fnIsResponseExactlyTheHighHalfRow.holds Try.pinned (OpenSpec.ofChange fnIsResponseExactlyTheHighHalfWrong)

/-- 'zzlaws_internal_smpp_b1.FnIsResponseSistersDifferInTheTopBit': WHATEVER THE INPUT: true; the input reads as it did. -/
def fnIsResponseSistersDifferInTheTopBitSpec : ChangeSpec := { name := "fnIsResponseSistersDifferInTheTopBit", fn := fun _ => fun
  | [d1, d2] => { results := [.lit (.bool true)], args := [d1, d2] }
  | _ => none }
def fnIsResponseSistersDifferInTheTopBitRow : OpenClaim := { program := "qxb6616789a", sum := "a6ab9dc3ed92d27bc5421351972dbe1ed0dd4a679e08ef4c26395da66a6a7f2e", func := "example.com/bindwire/bindwire/zzlaws_internal_smpp_b1.FnIsResponseSistersDifferInTheTopBit", spec := "fnIsResponseSistersDifferInTheTopBit", apart := false }
def FnIsResponseSistersDifferInTheTopBitSaid : Prop := fnIsResponseSistersDifferInTheTopBitRow.holds Try.pinned (OpenSpec.ofChange fnIsResponseSistersDifferInTheTopBitSpec)

/-- ITS FALSE NEIGHBOUR: 'it returns false'. Refute it at one input. -/
def fnIsResponseSistersDifferInTheTopBitWrong : ChangeSpec := { name := "fnIsResponseSistersDifferInTheTopBit", fn := fun _ => fun
  | [d1, d2] => { results := [.lit (.bool false)], args := [d1, d2] }
  | _ => none }
def FnIsResponseSistersDifferInTheTopBitWrongFalsely : Prop := fnIsResponseSistersDifferInTheTopBitRow.holds Try.pinned (OpenSpec.ofChange fnIsResponseSistersDifferInTheTopBitWrong)

/-- 'zzlaws_internal_smpp_b1.FnResponseKeepsTheLowBits': WHATEVER THE INPUT: true; the input reads as it did. -/
def fnResponseKeepsTheLowBitsSpec : ChangeSpec := { name := "fnResponseKeepsTheLowBits", fn := fun _ => fun
  | [d] => { results := [.lit (.bool true)], args := [d] }
  | _ => none }
def fnResponseKeepsTheLowBitsRow : OpenClaim := { program := "qxb6616789a", sum := "a6ab9dc3ed92d27bc5421351972dbe1ed0dd4a679e08ef4c26395da66a6a7f2e", func := "example.com/bindwire/bindwire/zzlaws_internal_smpp_b1.FnResponseKeepsTheLowBits", spec := "fnResponseKeepsTheLowBits", apart := false }
def FnResponseKeepsTheLowBitsSaid : Prop := fnResponseKeepsTheLowBitsRow.holds Try.pinned (OpenSpec.ofChange fnResponseKeepsTheLowBitsSpec)

/-- ITS FALSE NEIGHBOUR: 'it returns false'. Refute it at one input. -/
def fnResponseKeepsTheLowBitsWrong : ChangeSpec := { name := "fnResponseKeepsTheLowBits", fn := fun _ => fun
  | [d] => { results := [.lit (.bool false)], args := [d] }
  | _ => none }
def FnResponseKeepsTheLowBitsWrongFalsely : Prop := fnResponseKeepsTheLowBitsRow.holds Try.pinned (OpenSpec.ofChange fnResponseKeepsTheLowBitsWrong)

/-- 'zzlaws_internal_smpp_b1.FnResponseOrdersByTheLowBits': WHATEVER THE INPUT: true; the input reads as it did. -/
def fnResponseOrdersByTheLowBitsSpec : ChangeSpec := { name := "fnResponseOrdersByTheLowBits", fn := fun _ => fun
  | [d1, d2] => { results := [.lit (.bool true)], args := [d1, d2] }
  | _ => none }
def fnResponseOrdersByTheLowBitsRow : OpenClaim := { program := "qxb6616789a", sum := "a6ab9dc3ed92d27bc5421351972dbe1ed0dd4a679e08ef4c26395da66a6a7f2e", func := "example.com/bindwire/bindwire/zzlaws_internal_smpp_b1.FnResponseOrdersByTheLowBits", spec := "fnResponseOrdersByTheLowBits", apart := false }
def FnResponseOrdersByTheLowBitsSaid : Prop := fnResponseOrdersByTheLowBitsRow.holds Try.pinned (OpenSpec.ofChange fnResponseOrdersByTheLowBitsSpec)

/-- ITS FALSE NEIGHBOUR: 'it returns false'. Refute it at one input. -/
def fnResponseOrdersByTheLowBitsWrong : ChangeSpec := { name := "fnResponseOrdersByTheLowBits", fn := fun _ => fun
  | [d1, d2] => { results := [.lit (.bool false)], args := [d1, d2] }
  | _ => none }
def FnResponseOrdersByTheLowBitsWrongFalsely : Prop := fnResponseOrdersByTheLowBitsRow.holds Try.pinned (OpenSpec.ofChange fnResponseOrdersByTheLowBitsWrong)

end Rows
end Go.Proofs.Qxb6616789a
