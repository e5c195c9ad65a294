/-
  No cell of these rows narrows 'for every input' (looked for: loops, veiled, ifaces, maps, wideKeys, modest, calm, conditions, laid).
  DERIVED. THE GIVEN ROWS OF THIS SEAT. 3 by the template 'for every input the law returns true; each argument reads behind the call as it read before'; 0 by the template 'total and deterministic' (their statements: Qxb6616833aFmtTotals.lean).
  GIVEN WITH THE SEED: the statements are not yours to turn. If you find one false, say at which input.
  Laid BY PROGRAM, IN A SANDBOX (cutbox-rows.mjs): the forced cells as the released guide's own fill.sh prints them over the translation b2f8ae04a198cfb0… (all of the seat's roots in one cut). By AI agents, Wed Nov 11 2026. No macro, syntax, notation, axiom, sorry.
-/
import Derived.Test.Qxb6616833aFmtChecked
import GoSem.Claim
import GoSem.ClaimJoined
import GoSem.ClaimMapViews
import Derived.JoinedTies
import Derived.KernelRfl
namespace Go.Proofs.Qxb6616833aFmt
/- THE CELL 'sum', in the pinned program and in every row, IS THE sha256 OF THE DUMP (.gsa) THAT Qxb6616833aFmtProg.lean LOADS. Nothing in Lean hashes anything: it is a label: what it is worth is what the hold of that sum in a sandbox is worth. -/
noncomputable def Tryf.pinned : Pinned := { name := "qxb6616833afmt", sum := "b2f8ae04a198cfb0f9cbeb57def03c2069cfadf4e3a349864726a74b69fd4e1f", checked := Tryf.checked }
namespace Rows
def none {H : Type} : Left H := { results := [], args := [] }

/-- 'zzlaws_root_b1.FnNewPBFTAcceptsExactlyTheIdsOfItsKey': WHATEVER THE INPUT: true; the input reads as it did. -/
def fnNewPBFTAcceptsExactlyTheIdsOfItsKeySpec : ChangeSpec := { name := "fnNewPBFTAcceptsExactlyTheIdsOfItsKey", fn := fun _ => fun
  | [d1, d2, d3, d4, d5] => { results := [.lit (.bool true)], args := [d1, d2, d3, d4, d5] }
  | _ => none }
def fnNewPBFTAcceptsExactlyTheIdsOfItsKeyRow : OpenClaim := { program := "qxb6616833afmt", sum := "b2f8ae04a198cfb0f9cbeb57def03c2069cfadf4e3a349864726a74b69fd4e1f", func := "example.com/viewline/viewline/zzlaws_root_b1.FnNewPBFTAcceptsExactlyTheIdsOfItsKey", spec := "fnNewPBFTAcceptsExactlyTheIdsOfItsKey", stops := ["fmt.errorf"], inPlace := ["fmt.errorf", "crypto/internal/constanttime.boolToUint8"], unfollowed := true, recurses := true, apart := false }
/-- NO THEOREM (fmt's text is open here; it may be false): for the released tool's asking of the row's closed facts alone. THE STATEMENT IS 'FnNewPBFTAcceptsExactlyTheIdsOfItsKeyToldSaid' (Qxb6616833aFmtCards.lean). -/
def FnNewPBFTAcceptsExactlyTheIdsOfItsKeyFormAsk : Prop := fnNewPBFTAcceptsExactlyTheIdsOfItsKeyRow.holds Tryf.pinned (OpenSpec.ofChange fnNewPBFTAcceptsExactlyTheIdsOfItsKeySpec)

/-- ITS FALSE NEIGHBOUR: 'it returns false'. Refute it at one input. -/
def fnNewPBFTAcceptsExactlyTheIdsOfItsKeyWrong : ChangeSpec := { name := "fnNewPBFTAcceptsExactlyTheIdsOfItsKey", fn := fun _ => fun
  | [d1, d2, d3, d4, d5] => { results := [.lit (.bool false)], args := [d1, d2, d3, d4, d5] }
  | _ => none }
def FnNewPBFTAcceptsExactlyTheIdsOfItsKeyWrongFormAsk : Prop := fnNewPBFTAcceptsExactlyTheIdsOfItsKeyRow.holds Tryf.pinned (OpenSpec.ofChange fnNewPBFTAcceptsExactlyTheIdsOfItsKeyWrong)

/-- 'zzlaws_root_b1.FnAcceptsCountsPrefixesAsValidValue': WHATEVER THE INPUT: true; the input reads as it did. -/
def fnAcceptsCountsPrefixesAsValidValueSpec : ChangeSpec := { name := "fnAcceptsCountsPrefixesAsValidValue", fn := fun _ => fun
  | [d1, d2, d3, d4, d5, d6, d7] => { results := [.lit (.bool true)], args := [d1, d2, d3, d4, d5, d6, d7] }
  | _ => none }
def fnAcceptsCountsPrefixesAsValidValueRow : OpenClaim := { program := "qxb6616833afmt", sum := "b2f8ae04a198cfb0f9cbeb57def03c2069cfadf4e3a349864726a74b69fd4e1f", func := "example.com/viewline/viewline/zzlaws_root_b1.FnAcceptsCountsPrefixesAsValidValue", spec := "fnAcceptsCountsPrefixesAsValidValue", stops := ["fmt.errorf"], inPlace := ["fmt.errorf", "crypto/internal/constanttime.boolToUint8"], unfollowed := true, recurses := true, apart := false }
/-- NO THEOREM (fmt's text is open here; it may be false): for the released tool's asking of the row's closed facts alone. THE STATEMENT IS 'FnAcceptsCountsPrefixesAsValidValueToldSaid' (Qxb6616833aFmtCards.lean). -/
def FnAcceptsCountsPrefixesAsValidValueFormAsk : Prop := fnAcceptsCountsPrefixesAsValidValueRow.holds Tryf.pinned (OpenSpec.ofChange fnAcceptsCountsPrefixesAsValidValueSpec)

/-- ITS FALSE NEIGHBOUR: 'it returns false'. Refute it at one input. -/
def fnAcceptsCountsPrefixesAsValidValueWrong : ChangeSpec := { name := "fnAcceptsCountsPrefixesAsValidValue", fn := fun _ => fun
  | [d1, d2, d3, d4, d5, d6, d7] => { results := [.lit (.bool false)], args := [d1, d2, d3, d4, d5, d6, d7] }
  | _ => none }
def FnAcceptsCountsPrefixesAsValidValueWrongFormAsk : Prop := fnAcceptsCountsPrefixesAsValidValueRow.holds Tryf.pinned (OpenSpec.ofChange fnAcceptsCountsPrefixesAsValidValueWrong)

/-- 'zzlaws_root_b1.FnAcceptsOwnValueAndEveryPiece': WHATEVER THE INPUT: true; the input reads as it did. -/
def fnAcceptsOwnValueAndEveryPieceSpec : ChangeSpec := { name := "fnAcceptsOwnValueAndEveryPiece", fn := fun _ => fun
  | [d1, d2, d3, d4, d5, d6, d7, d8] => { results := [.lit (.bool true)], args := [d1, d2, d3, d4, d5, d6, d7, d8] }
  | _ => none }
def fnAcceptsOwnValueAndEveryPieceRow : OpenClaim := { program := "qxb6616833afmt", sum := "b2f8ae04a198cfb0f9cbeb57def03c2069cfadf4e3a349864726a74b69fd4e1f", func := "example.com/viewline/viewline/zzlaws_root_b1.FnAcceptsOwnValueAndEveryPiece", spec := "fnAcceptsOwnValueAndEveryPiece", stops := ["fmt.errorf"], inPlace := ["fmt.errorf", "crypto/internal/constanttime.boolToUint8"], unfollowed := true, recurses := true, apart := false }
/-- NO THEOREM (fmt's text is open here; it may be false): for the released tool's asking of the row's closed facts alone. THE STATEMENT IS 'FnAcceptsOwnValueAndEveryPieceToldSaid' (Qxb6616833aFmtCards.lean). -/
def FnAcceptsOwnValueAndEveryPieceFormAsk : Prop := fnAcceptsOwnValueAndEveryPieceRow.holds Tryf.pinned (OpenSpec.ofChange fnAcceptsOwnValueAndEveryPieceSpec)

/-- ITS FALSE NEIGHBOUR: 'it returns false'. Refute it at one input. -/
def fnAcceptsOwnValueAndEveryPieceWrong : ChangeSpec := { name := "fnAcceptsOwnValueAndEveryPiece", fn := fun _ => fun
  | [d1, d2, d3, d4, d5, d6, d7, d8] => { results := [.lit (.bool false)], args := [d1, d2, d3, d4, d5, d6, d7, d8] }
  | _ => none }
def FnAcceptsOwnValueAndEveryPieceWrongFormAsk : Prop := fnAcceptsOwnValueAndEveryPieceRow.holds Tryf.pinned (OpenSpec.ofChange fnAcceptsOwnValueAndEveryPieceWrong)

end Rows
end Go.Proofs.Qxb6616833aFmt
