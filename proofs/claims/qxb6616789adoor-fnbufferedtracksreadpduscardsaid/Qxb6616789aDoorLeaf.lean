/- THE LEAVES: (*bufio.Reader).Buffered, readErr, (*smpp.Reader).Buffered. -/
import Derived.Test.Qxb6616789aDoorRows
import Derived.Test.Qxb6616789aDoorMem
import Derived.WalkKit
import Derived.WalkSpells
import Derived.RegionTactic
import Derived.Deep.QuietTactic
import Derived.BigQuiet
import Derived.Laws.Pointers
namespace Go.Proofs.Qxb6616789aDoor
open Go.RowKit

/-- A bufio.Reader in block b: its buffer is block bf, its source the bytes.Reader in block bs. -/
def BufC (bf bs : Nat) (r wr : Nat) (er : Value) (lb lr : Int) : List Value :=
  [.slice (some ⟨bf, 0, none⟩) 4096 4096, .iface 42 (.pointer (some ⟨bs, 0, none⟩)), .int .i64 r, .int .i64 wr, er, .int .i64 lb, .int .i64 lr]

theorem buffered_any (b bf bs r wr : Nat) (er : Value) (lb lr : Int) (w : World) (h : Blk w b (BufC bf bs r wr er lb lr) 64) (hr : r ≤ wr) (hw : wr ≤ 4096) :
    Calls Tryd.prog 15 #[.pointer (some ⟨b, 0, none⟩)] w fun e w' => e = .returned (.int .i64 ((wr : Int) - r)) ∧ ∃ n, w' = w.drewN n := by
  have c2 := h.cell 2
  have c3 := h.cell 3
  simp only [BufC, List.getElem?_cons_succ, List.getElem?_cons_zero] at c2 c3
  clear h
  go_enter Tryd.func15, Tryd.ntmps15
  go_wp2
  go_quiet (fail)
  go_wp2
  go_ret
  exact ⟨rfl, _, rfl⟩

theorem readErr_any (b bf bs r wr : Nat) (er : Value) (lb lr : Int) (w : World) (h : Blk w b (BufC bf bs r wr er lb lr) 64) :
    Calls Tryd.prog 45 #[.pointer (some ⟨b, 0, none⟩)] w fun e w' => e = .returned er ∧ Blk w' b (BufC bf bs r wr .nilIface lb lr) 64 ∧ Only [b] w w' := by
  have c4 := h.cell 4
  have f4 := h.frozen 4
  simp only [BufC, List.getElem?_cons_succ, List.getElem?_cons_zero] at c4
  have H : Hid (Blk w b (BufC bf bs r wr er lb lr) 64) := h
  clear h
  go_enter Tryd.func45, Tryd.ntmps45
  go_wp2
  go_ret
  exact ⟨rfl, H.out.set 4 _, (Only.refl _ _).setCell (by simp) _⟩
end Go.Proofs.Qxb6616789aDoor
