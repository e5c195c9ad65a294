/- (*bytes.Reader).Read: at the end of its bytes; and from its head into the buffer. -/
import Derived.Test.Qxb6616789aDoorMake
import Derived.Laws.CopyOwn
import Derived.BigRegion
namespace Go.Proofs.Qxb6616789aDoor
open Go.RowKit
set_option linter.unusedVariables false

/-- The source has no byte left: 0 and io.EOF; nothing turns. -/
theorem src_eof (bs : Nat) (a : Option Addr) (n c i : Nat) (pr : Int) (p : Value) (x1 : Addr) (w : World) (h : Blk w bs (SrcC (.slice a n c) i pr) 62) (hn : n ≤ i) (_hi : i ≤ 4096)
    (g1 : w.cell? ⟨1, 0, none⟩ = some (.iface 70 (.pointer (some x1)))) :
    Calls Tryd.prog 42 #[.pointer (some ⟨bs, 0, none⟩), p] w fun e w' => e = .returned (.tuple #[.int .i64 0, .iface 70 (.pointer (some x1))]) ∧ ∃ m, w' = w.drewN m := by
  have c0 := h.cell 0
  have c1 := h.cell 1
  simp only [SrcC, List.getElem?_cons_succ, List.getElem?_cons_zero] at c0 c1
  clear h
  go_enter Tryd.func42, Tryd.ntmps42
  go_wp2
  go_quiet (fail)
  go_wp2
  go_quiet (fail)
  go_wp2
  go_ret2
  exact ⟨rfl, _, World.drewN_drewN _ _ _⟩

theorem src_read (bs bd bf : Nat) (n c : Nat) (pr : Int) (ds fs : List Value) (w : World) (h : Blk w bs (SrcC (.slice (some ⟨bd, 0, none⟩) n c) 0 pr) 62) (hn : 0 < n) (hn2 : n ≤ 4096) (hnc : n ≤ c)
    (hd : Blk w bd ds 5) (hds : ds.length = n) (hf : Blk w bf fs 5) (hfs : fs.length = 4096) (hne : bs ≠ bd) (hne2 : bs ≠ bf) (hne3 : bd ≠ bf) (hone : ∀ v ∈ ds, v.oneCell' = true) :
    Calls Tryd.prog 42 #[.pointer (some ⟨bs, 0, none⟩), .slice (some ⟨bf, 0, none⟩) 4096 4096] w fun e w' => e = .returned (.tuple #[.int .i64 n, .nilIface]) ∧
      Blk w' bf (ds ++ fs.drop n) 5 ∧ Blk w' bs (SrcC (.slice (some ⟨bd, 0, none⟩) n c) n (-1)) 62 ∧ Only [bf, bs] w w' := by
  have c0 := h.cell 0
  have c1 := h.cell 1
  have c2 := h.cell 2
  have f1 := h.frozen 1
  have f2 := h.frozen 2
  simp only [SrcC, List.getElem?_cons_succ, List.getElem?_cons_zero] at c0 c1 c2
  have HH := h; have HD := hd; have HF := hf
  replace HH : Hid _ := HH
  replace HD : Hid _ := HD
  replace HF : Hid _ := HF
  clear h hd hf
  have hd0 : decide ((n : Int) ≤ 0) = false := by simp; omega
  go_enter Tryd.func42, Tryd.ntmps42
  go_wp2
  go_quiet (fail)
  go_wp2
  obtain ⟨W, hW⟩ : ∃ W, W = (w.drewN nq).setCell ⟨bs, 2, none⟩ (.int .i64 (-1)) := ⟨_, rfl⟩
  rw [← hW]
  have B1 : Hid (Blk W bs (SrcC (.slice (some ⟨bd, 0, none⟩) n c) 0 (-1)) 62) := by rw [hW]; exact (Blk.drewN HH.out nq).set 2 _
  have B2 : Hid (Blk W bd ds 5) := by rw [hW]; exact (Blk.drewN HD.out nq).set_other _ _ (Ne.symm hne)
  have B3 : Hid (Blk W bf fs 5) := by rw [hW]; exact (Blk.drewN HF.out nq).set_other _ _ (Ne.symm hne2)
  have O : Hid (Only [bf, bs] w W) := by rw [hW]; exact ((Only.refl _ _).drewN nq).setCell (by simp) _
  clear c0 c1 c2 f1 f2 hW HH HD HF
  have c0 := Blk.cell B1.out 0
  have c1 := Blk.cell B1.out 1
  simp only [SrcC, List.getElem?_cons_succ, List.getElem?_cons_zero] at c0 c1
  go_region_law (refine step_copy_blk rfl (.tmp 20) (.tmp 29) 22 22 rfl 5 Tryd.underlying22 (by kernel_rfl) bf 0 4096 4096 ⟨bd, 0, none⟩ n c (by simp [Act.eval, Act.put]) (by simp [Act.eval, Act.put]) fs 5 (by exact B3.out) ds (by rw [hds]; exact (Nat.min_eq_left hn2).symm) (by exact Blk.whole B2.out) (by omega) hone ?_)
  all_goals
    have R1 : Hid (Blk (W.drew.setRow bf (splice fs 0 ds).toArray) bs (SrcC (.slice (some ⟨bd, 0, none⟩) n c) 0 (-1)) 62) := (Blk.drew B1.out).setRow_other _ hne2
    have R2 : Hid (Blk (W.drew.setRow bf (splice fs 0 ds).toArray) bf (splice fs 0 ds) 5) := (Blk.drew B3.out).setRow _
    have R3 : Hid (Only [bf, bs] w (W.drew.setRow bf (splice fs 0 ds).toArray)) := (Only.drew O.out).setRow (by simp) _
    clear B1 B2 B3 O c0 c1
    revert R1 R2 R3
    generalize W.drew.setRow bf (splice fs 0 ds).toArray = W2
    intro R1 R2 R3
    have c1 := Blk.cell R1.out 1
    have f1 := Blk.frozen R1.out 1
    simp only [SrcC, List.getElem?_cons_succ, List.getElem?_cons_zero] at c1
    go_wp2
    go_ret2
    refine ⟨rfl, ?_, ?_, ?_⟩
    · have := R2.out
      simp only [splice, hds, List.take_zero, List.nil_append, Nat.zero_add] at this
      exact Blk.set_other this _ _ (Ne.symm hne2)
    · exact Blk.set R1.out 1 _
    · exact Only.setCell R3.out (by simp) _
end Go.Proofs.Qxb6616789aDoor
