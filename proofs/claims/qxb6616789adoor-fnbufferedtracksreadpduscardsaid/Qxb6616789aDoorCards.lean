/-
  DERIVED. GIVEN WITH THE SEED: THE CARDS: each row of Qxb6616789aDoorRows.lean that lists a variable, with what it lists TIED to the program's text (the seventh form; the later family's looks); each row that meets fmt, with fmt's text TOLD by the authors' own Lean function (tested against real Go, not proved from fmt's source: count such statements apart). THE CARD IS WHAT COUNTS. Prove the row's statement (the work); the ties are given (Qxb6616789aDoorTie.lean); close each card by the builder's one call (the guide's Derived/Test/ToyasCard.lean, 'card_holds'). Laid BY PROGRAM, IN A SANDBOX (cutbox-door.mjs). By AI agents, Wed Nov 11 2026. No macro, syntax, notation, axiom, sorry.
-/
import Derived.Test.Qxb6616789aDoorRows
import GoSem.ClaimSeven
namespace Go.Proofs.Qxb6616789aDoor
namespace Rows

/-- THE TIED CARD OF 'zzlaws_internal_smpp_b1.FnBufferedAfterOneRead'. -/
def fnBufferedAfterOneReadCard : Claim7 := { stood := { row := fnBufferedAfterOneReadRow, standIns := [], harness := (true, "99d90ffa0580fa59f293188e071ea0d976ebe34109e204810e375d03b96d6d62"), looks := true }, kinds := [], alts := [], laidByText := true, laidKinds := [.sentinel, .sentinel, .sentinel], laidTests := true, laidLooks := .later }
def FnBufferedAfterOneReadCardSaid : Prop := Claim7.holds Tryd.pinned (.plain (OpenSpec.ofChange fnBufferedAfterOneReadSpec)) fnBufferedAfterOneReadCard

/-- THE TIED CARD OF 'zzlaws_internal_smpp_b1.FnBufferedTracksReadPDUs'. -/
def fnBufferedTracksReadPDUsCard : Claim7 := { stood := { row := fnBufferedTracksReadPDUsRow, standIns := [], harness := (true, "99d90ffa0580fa59f293188e071ea0d976ebe34109e204810e375d03b96d6d62"), looks := true }, kinds := [], alts := [], laidByText := true, laidKinds := [.sentinel, .sentinel, .sentinel], laidTests := true, laidLooks := .later }
def FnBufferedTracksReadPDUsCardSaid : Prop := Claim7.holds Tryd.pinned (.plain (OpenSpec.ofChange fnBufferedTracksReadPDUsSpec)) fnBufferedTracksReadPDUsCard
end Rows
end Go.Proofs.Qxb6616789aDoor
