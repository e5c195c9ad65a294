/- WHAT THE LISTED VARIABLES GIVE THE WALKS; the witness's heap; what a walk is told of a slice that came in. -/
import Derived.Test.Qxb6616789aDoorRows
import Derived.ProofKit
import Derived.LaidMore
import Derived.OpenShut
import Derived.Stop.Joined
import Derived.Below
import Derived.LaidLaws
import Derived.RowKitTokens
namespace Go.Proofs.Qxb6616789aDoor
open Go.ChangeShapes Go.WideShapes Go.ChangeAt Go.RowKit

theorem own : ownKnob Tryd.prog.godebug = none := by kernel_rfl
theorem laidOut : laidOutB Tryd.prog = true := by kernel_rfl
def laid3 {H : Type} : List (String × DataW H) := [("io.ErrShortBuffer", Rows.laid_io_ErrShortBuffer), ("io.EOF", Rows.laid_io_EOF), ("io.ErrUnexpectedEOF", Rows.laid_io_ErrUnexpectedEOF)]

/-- The door's own heap meets the condition. -/
theorem door_met (os : Os) (args : Array Value) : laidMetH Tryd.prog laid3 ((World.doorLaid Tryd.prog 400 os).forCall (fun _ _ => 0) ⟨#[], args, []⟩).memory :=
  laidMetH_of_parts3 (fuel := 8) (laidMet_of_run' 8 (by kernel_rfl) (by kernel_rfl)) (by kernel_rfl) (by kernel_rfl)

/-- WHAT THE WALK IS TOLD OF A SLICE OF INTEGERS THAT CAME IN. -/
def IsRow (k : IntKind) (w : World) (a : Option Addr) (len cap : Nat) (zs : List Int) : Prop :=
  (a = none ∧ len = 0 ∧ cap = 0 ∧ zs = []) ∨
  ∃ x, a = some x ∧ len ≤ cap ∧ cap ≤ maxLen ∧ zs.length = cap ∧ (∀ i, i < zs.length → w.cell? (x.add i) = some (.int k (zs.getD i 0))) ∧ ∀ n ∈ zs, (Lit.int k n).wf = true

theorem gEOF : Tryd.prog.globalNamed "io.EOF" = some 1 := by kernel_rfl
theorem gUEOF : Tryd.prog.globalNamed "io.ErrUnexpectedEOF" = some 2 := by kernel_rfl
theorem tEOF : (Tryd.prog.globals[1]?).map (·.type) = some 36 := by kernel_rfl
theorem tUEOF : (Tryd.prog.globals[2]?).map (·.type) = some 36 := by kernel_rfl

theorem star : "*" ++ "errors.errorString" = "*errors.errorString" := by decide
theorem cells90 : Tryd.prog.cellsOf 90 = 1 := by kernel_rfl
theorem cells9 : Tryd.prog.cellsOf 9 = 1 := by kernel_rfl
theorem row70 (u : TypeId) (h : Tryd.prog.typeName? 3 u = some "*errors.errorString") : u = 70 :=
  typeName_ptr_named (nm := "errors.errorString") (by rw [star]; kernel_rfl) (by kernel_rfl) (by decide) u (by rw [star]; exact h)

/-- WHAT THE CONDITION GIVES THE WALKS: io.EOF and io.ErrUnexpectedEOF hold errors that are not nil. -/
theorem of_laid {W : World} (h : laidMetH Tryd.prog laid3 W) : ∃ x1 x2 : Addr, W.cell? ⟨1, 0, none⟩ = some (.iface 70 (.pointer (some x1))) ∧ W.cell? ⟨2, 0, none⟩ = some (.iface 70 (.pointer (some x2))) ∧ (∃ c t, W.heap[x1.block]? = some (.cells c t (0, 0))) ∧ (∃ c t, W.heap[x2.block]? = some (.cells c t (0, 0))) := by
  rw [MakeChecks.laidMetH_plain _ _ _ (by kernel_rfl)] at h
  obtain ⟨ps, ⟨g0, t0, cs0, f0, p0, q0, hg0, ht0, hv0, hd0, ⟨g1, t1, cs1, f1, p1, q1, hg1, ht1, hv1, hd1, ⟨g2, t2, cs2, f2, p2, q2, hg2, ht2, hv2, hd2, hq2, e2⟩, e1⟩, e0⟩, hnd, hrows⟩ := h
  obtain rfl := Option.some.inj (gEOF.symm.trans hg1)
  obtain rfl := Option.some.inj (gUEOF.symm.trans hg2)
  obtain rfl := Option.some.inj (tEOF.symm.trans ht1)
  obtain rfl := Option.some.inj (tUEOF.symm.trans ht2)
  subst e2
  subst e1
  subst e0
  obtain ⟨l1⟩ := cs1
  obtain ⟨l2⟩ := cs2
  have ok1 : ∀ u v, l1 = [.iface u v] → Value.okWide Tryd.prog W .any 0 u v := fun u v e => by
    subst e
    exact (hrows 1 0 (by simp [MemPlace.row])).2 u v (by simpa using World.var?_cell hg1 hv1 0)
  have ok2 : ∀ u v, l2 = [.iface u v] → Value.okWide Tryd.prog W .any 0 u v := fun u v e => by
    subst e
    exact (hrows 2 0 (by simp [MemPlace.row])).2 u v (by simpa using World.var?_cell hg2 hv2 0)
  obtain ⟨a1, s1, rfl, _, _, _, rfl⟩ := errorString_of_trod Tryd.underlying36 row70 Tryd.underlying70 Tryd.underlying90 rfl rfl Tryd.underlying9 cells90 cells9 hd1 ok1
  obtain ⟨a2, s2, rfl, _, _, _, rfl⟩ := errorString_of_trod Tryd.underlying36 row70 Tryd.underlying70 Tryd.underlying90 rfl rfl Tryd.underlying9 cells90 cells9 hd2 ok2
  obtain ⟨c1, t1, hb1⟩ := (hrows a1.block a1.off (by simp [MemPlace.row])).1
  obtain ⟨c2, t2, hb2⟩ := (hrows a2.block a2.off (by simp [MemPlace.row])).1
  exact ⟨a1, a2, by simpa using World.var?_cell hg1 hv1 0, by simpa using World.var?_cell hg2 hv2 0, ⟨c1, t1, hb1⟩, ⟨c2, t2, hb2⟩⟩
end Go.Proofs.Qxb6616789aDoor
