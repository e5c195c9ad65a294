/-
  NARROWER THAN 'FOR EVERY INPUT', by the rows' own cells (each row's printed sentence says how): FnBufferedAfterOneRead: laid · FnBufferedTracksReadPDUs: laid.
  DERIVED. THE GIVEN ROWS OF THIS SEAT. 2 by the template 'for every input the law returns true; each argument reads behind the call as it read before'; 0 by the template 'total and deterministic' (their statements: Qxb6616789aDoorTotals.lean).
  GIVEN WITH THE SEED: the statements are not yours to turn. If you find one false, say at which input.
  Laid BY PROGRAM, IN A SANDBOX (cutbox-rows.mjs): the forced cells as the released guide's own fill.sh prints them over the translation cd9e50995a46d3a7… (all of the seat's roots in one cut). By AI agents, Wed Nov 11 2026. No macro, syntax, notation, axiom, sorry.
-/
import Derived.Test.Qxb6616789aDoorChecked
import GoSem.Claim
import GoSem.ClaimJoined
import GoSem.ClaimMapViews
import Derived.JoinedTies
import Derived.KernelRfl
namespace Go.Proofs.Qxb6616789aDoor
/- THE CELL 'sum', in the pinned program and in every row, IS THE sha256 OF THE DUMP (.gsa) THAT Qxb6616789aDoorProg.lean LOADS. Nothing in Lean hashes anything: it is a label: what it is worth is what the hold of that sum in a sandbox is worth. -/
noncomputable def Tryd.pinned : Pinned := { name := "qxb6616789adoor", sum := "cd9e50995a46d3a763a7a567a49f078e7aa03c827a70f611d84866cf9443ae2f", checked := Tryd.checked }
namespace Rows
def none {H : Type} : Left H := { results := [], args := [] }

/- WHAT THE LISTED PACKAGE-LEVEL VARIABLES READ AS WHEN THE CALL BEGINS. Each datum BY PROGRAM (the guide's laid-datum.mjs) off the statement by which the dump's own 'gosem.cut.vars' lays the variable. In a bare row this is a premise. The card (Qxb6616789aDoorCards.lean) ties it to the program's text. -/
def laid_io_ErrShortBuffer {H : Type} : DataW H := .iface "*errors.errorString" (.ptr (.agg [.lit (.string [115, 104, 111, 114, 116, 32, 98, 117, 102, 102, 101, 114])]))
def laid_io_EOF {H : Type} : DataW H := .iface "*errors.errorString" (.ptr (.agg [.lit (.string [69, 79, 70])]))
def laid_io_ErrUnexpectedEOF {H : Type} : DataW H := .iface "*errors.errorString" (.ptr (.agg [.lit (.string [117, 110, 101, 120, 112, 101, 99, 116, 101, 100, 32, 69, 79, 70])]))

/-- 'zzlaws_internal_smpp_b1.FnBufferedAfterOneRead': WHATEVER THE INPUT: true; the input reads as it did. -/
def fnBufferedAfterOneReadSpec : ChangeSpec := { name := "fnBufferedAfterOneRead", fn := fun _ => fun
  | [d1, d2] => { results := [.lit (.bool true)], args := [d1, d2] }
  | _ => none }
def fnBufferedAfterOneReadRow : OpenClaim := { program := "qxb6616789adoor", sum := "cd9e50995a46d3a763a7a567a49f078e7aa03c827a70f611d84866cf9443ae2f", func := "example.com/bindwire/bindwire/zzlaws_internal_smpp_b1.FnBufferedAfterOneRead", spec := "fnBufferedAfterOneRead", unfollowed := true, recurses := true, named := ["encoding/binary.BigEndian", "io.EOF", "io.ErrUnexpectedEOF", "io.ErrShortBuffer"], apart := false, laid := [("io.ErrShortBuffer", laid_io_ErrShortBuffer), ("io.EOF", laid_io_EOF), ("io.ErrUnexpectedEOF", laid_io_ErrUnexpectedEOF)] }
def FnBufferedAfterOneReadSaid : Prop := fnBufferedAfterOneReadRow.holds Tryd.pinned (OpenSpec.ofChange fnBufferedAfterOneReadSpec)

/-- ITS FALSE NEIGHBOUR: 'it returns false'. Refute it at one input. -/
def fnBufferedAfterOneReadWrong : ChangeSpec := { name := "fnBufferedAfterOneRead", fn := fun _ => fun
  | [d1, d2] => { results := [.lit (.bool false)], args := [d1, d2] }
  | _ => none }
def FnBufferedAfterOneReadWrongFalsely : Prop := fnBufferedAfterOneReadRow.holds Tryd.pinned (OpenSpec.ofChange fnBufferedAfterOneReadWrong)

/-- 'zzlaws_internal_smpp_b1.FnBufferedTracksReadPDUs': WHATEVER THE INPUT: true; the input reads as it did. -/
def fnBufferedTracksReadPDUsSpec : ChangeSpec := { name := "fnBufferedTracksReadPDUs", fn := fun _ => fun
  | [d1, d2] => { results := [.lit (.bool true)], args := [d1, d2] }
  | _ => none }
def fnBufferedTracksReadPDUsRow : OpenClaim := { program := "qxb6616789adoor", sum := "cd9e50995a46d3a763a7a567a49f078e7aa03c827a70f611d84866cf9443ae2f", func := "example.com/bindwire/bindwire/zzlaws_internal_smpp_b1.FnBufferedTracksReadPDUs", spec := "fnBufferedTracksReadPDUs", unfollowed := true, recurses := true, named := ["encoding/binary.BigEndian", "io.EOF", "io.ErrUnexpectedEOF", "io.ErrShortBuffer"], apart := false, laid := [("io.ErrShortBuffer", laid_io_ErrShortBuffer), ("io.EOF", laid_io_EOF), ("io.ErrUnexpectedEOF", laid_io_ErrUnexpectedEOF)] }
def FnBufferedTracksReadPDUsSaid : Prop := fnBufferedTracksReadPDUsRow.holds Tryd.pinned (OpenSpec.ofChange fnBufferedTracksReadPDUsSpec)

/-- ITS FALSE NEIGHBOUR: 'it returns false'. Refute it at one input. -/
def fnBufferedTracksReadPDUsWrong : ChangeSpec := { name := "fnBufferedTracksReadPDUs", fn := fun _ => fun
  | [d1, d2] => { results := [.lit (.bool false)], args := [d1, d2] }
  | _ => none }
def FnBufferedTracksReadPDUsWrongFalsely : Prop := fnBufferedTracksReadPDUsRow.holds Tryd.pinned (OpenSpec.ofChange fnBufferedTracksReadPDUsWrong)

end Rows
end Go.Proofs.Qxb6616789aDoor
