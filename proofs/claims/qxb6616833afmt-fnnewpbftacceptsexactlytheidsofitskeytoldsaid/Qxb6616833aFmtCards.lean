/-
  DERIVED. GIVEN WITH THE SEED: THE CARDS: each row of Qxb6616833aFmtRows.lean that lists a variable, with what it lists TIED to the program's text (the seventh form; the later family's looks); each row that meets fmt, with fmt's text TOLD by the authors' own Lean function (tested against real Go, not proved from fmt's source: count such statements apart). THE CARD IS WHAT COUNTS. Prove the row's statement (the work); the ties are given (Qxb6616833aFmtTie.lean); close each card by the builder's one call (the guide's Derived/Test/ToyasCard.lean, 'card_holds'). Laid BY PROGRAM, IN A SANDBOX (cutbox-door.mjs). By AI agents, Wed Nov 11 2026. No macro, syntax, notation, axiom, sorry.
-/
import Derived.Test.Qxb6616833aFmtRows
import GoSem.ClaimSeven
namespace Go.Proofs.Qxb6616833aFmt
namespace Rows

/-- THE TOLD CARD OF 'zzlaws_root_b1.FnNewPBFTAcceptsExactlyTheIdsOfItsKey'. -/
def fnNewPBFTAcceptsExactlyTheIdsOfItsKeyCard : Claim7 := { stood := { row := fnNewPBFTAcceptsExactlyTheIdsOfItsKeyRow, standIns := [], harness := (true, "ae1ea2cbe586dbb62124e158c1b9cfc99ad2ea1fbda0f047d1e7bd9b0fb3239c"), looks := true }, told := true, goes := false }
def FnNewPBFTAcceptsExactlyTheIdsOfItsKeyToldSaid : Prop := Claim7.holds Tryf.pinned (.plain (OpenSpec.ofChange fnNewPBFTAcceptsExactlyTheIdsOfItsKeySpec)) fnNewPBFTAcceptsExactlyTheIdsOfItsKeyCard
/-- ITS FALSE NEIGHBOUR. Refute it at one input. -/
def FnNewPBFTAcceptsExactlyTheIdsOfItsKeyToldWrongFalsely : Prop := Claim7.holds Tryf.pinned (.plain (OpenSpec.ofChange fnNewPBFTAcceptsExactlyTheIdsOfItsKeyWrong)) fnNewPBFTAcceptsExactlyTheIdsOfItsKeyCard

/-- THE TOLD CARD OF 'zzlaws_root_b1.FnAcceptsCountsPrefixesAsValidValue'. -/
def fnAcceptsCountsPrefixesAsValidValueCard : Claim7 := { stood := { row := fnAcceptsCountsPrefixesAsValidValueRow, standIns := [], harness := (true, "ae1ea2cbe586dbb62124e158c1b9cfc99ad2ea1fbda0f047d1e7bd9b0fb3239c"), looks := true }, told := true, goes := false }
def FnAcceptsCountsPrefixesAsValidValueToldSaid : Prop := Claim7.holds Tryf.pinned (.plain (OpenSpec.ofChange fnAcceptsCountsPrefixesAsValidValueSpec)) fnAcceptsCountsPrefixesAsValidValueCard
/-- ITS FALSE NEIGHBOUR. Refute it at one input. -/
def FnAcceptsCountsPrefixesAsValidValueToldWrongFalsely : Prop := Claim7.holds Tryf.pinned (.plain (OpenSpec.ofChange fnAcceptsCountsPrefixesAsValidValueWrong)) fnAcceptsCountsPrefixesAsValidValueCard

/-- THE TOLD CARD OF 'zzlaws_root_b1.FnAcceptsOwnValueAndEveryPiece'. -/
def fnAcceptsOwnValueAndEveryPieceCard : Claim7 := { stood := { row := fnAcceptsOwnValueAndEveryPieceRow, standIns := [], harness := (true, "ae1ea2cbe586dbb62124e158c1b9cfc99ad2ea1fbda0f047d1e7bd9b0fb3239c"), looks := true }, told := true, goes := false }
def FnAcceptsOwnValueAndEveryPieceToldSaid : Prop := Claim7.holds Tryf.pinned (.plain (OpenSpec.ofChange fnAcceptsOwnValueAndEveryPieceSpec)) fnAcceptsOwnValueAndEveryPieceCard
/-- ITS FALSE NEIGHBOUR. Refute it at one input. -/
def FnAcceptsOwnValueAndEveryPieceToldWrongFalsely : Prop := Claim7.holds Tryf.pinned (.plain (OpenSpec.ofChange fnAcceptsOwnValueAndEveryPieceWrong)) fnAcceptsOwnValueAndEveryPieceCard
end Rows
end Go.Proofs.Qxb6616833aFmt
