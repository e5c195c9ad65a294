/- (*bufio.Reader).Read where the buffer is empty and the source has ended: 0 and io.EOF. -/
import Derived.Test.Qxb6616789aDoorSrc
import Derived.Deep.DeepCutAuto
import Derived.Deep.RegionWith
namespace Go.Proofs.Qxb6616789aDoor
open Go.RowKit
set_option linter.unusedVariables false

/-- Which function 'Read' of a *bytes.Reader is. -/
theorem method_src (a : Addr) (w : World) : (method 198 42 (.pointer (some a)) "Read").run Tryd.prog w = .ok (42, .pointer (some a)) w := by kernel_rfl

set_option maxRecDepth 100000 in
set_option maxHeartbeats 2000000 in
theorem buf_eof_small (b bf bs r : Nat) (lb lr : Int) (a : Option Addr) (n c i : Nat) (pr : Int) (p : Option Addr) (len cap : Nat) (x1 : Addr) (w : World)
    (hB : Blk w b (BufC bf bs r r .nilIface lb lr) 64) (hS : Blk w bs (SrcC (.slice a n c) i pr) 62) (hn : n ≤ i) (hi : i ≤ 4096) (hr : r ≤ 4096)
    (g1 : w.cell? ⟨1, 0, none⟩ = some (.iface 70 (.pointer (some x1)))) (h1 : b ≠ bs) (h2 : b ≠ 1) (hl : 0 < len) (hl2 : len < 4096) :
    Calls Tryd.prog 43 #[.pointer (some ⟨b, 0, none⟩), .slice p len cap] w fun e w' => e = .returned (.tuple #[.int .i64 0, .iface 70 (.pointer (some x1))]) ∧
      Blk w' b (BufC bf bs 0 0 .nilIface lb lr) 64 ∧ Only [b] w w' := by
  have c0 := hB.cell 0
  have c1 := hB.cell 1
  have c2 := hB.cell 2
  have c3 := hB.cell 3
  have c4 := hB.cell 4
  have f2 := hB.frozen 2
  have f3 := hB.frozen 3
  have f4 := hB.frozen 4
  simp only [BufC, List.getElem?_cons_succ, List.getElem?_cons_zero] at c0 c1 c2 c3 c4
  have HB : Hid (Blk w b (BufC bf bs r r .nilIface lb lr) 64) := hB
  have HS : Hid (Blk w bs (SrcC (.slice a n c) i pr) 62) := hS
  clear hB hS
  have hl0 : ((len : Int) == 0) = false := by rw [beq_eq_false_iff_ne]; omega
  have hl1 : decide ((4096 : Int) ≤ (len : Int)) = false := by simp; omega
  go_enter Tryd.func43, Tryd.ntmps43
  go_wp2
  go_quiet (fail)
  go_wp2
  obtain ⟨W, hW⟩ : ∃ W, W = ((w.drewN nq).setCell ⟨b, 2, none⟩ (.int .i64 0)).setCell ⟨b, 3, none⟩ (.int .i64 0) := ⟨_, rfl⟩
  rw [← hW]
  have B1 : Hid (Blk W b (BufC bf bs 0 0 .nilIface lb lr) 64) := by rw [hW]; exact ((Blk.drewN HB.out nq).set 2 _).set 3 _
  have B2 : Hid (Blk W bs (SrcC (.slice a n c) i pr) 62) := by rw [hW]; exact ((Blk.drewN HS.out nq).set_other _ _ (Ne.symm h1)).set_other _ _ (Ne.symm h1)
  have O : Hid (Only [b] w W) := by rw [hW]; exact (((Only.refl _ _).drewN nq).setCell (by simp) _).setCell (by simp) _
  have G1 : Hid (W.cell? ⟨1, 0, none⟩ = some (.iface 70 (.pointer (some x1)))) := Only.cell O.out g1 (by simpa using Ne.symm h2)
  clear c0 c1 c2 c3 c4 f2 f3 f4 HB HS hW g1
  have c0 := Blk.cell B1.out 0
  have c1 := Blk.cell B1.out 1
  have c4 := Blk.cell B1.out 4
  have f4 := Blk.frozen B1.out 4
  simp only [BufC, List.getElem?_cons_succ, List.getElem?_cons_zero] at c0 c1 c4
  have hm := method_src
  go_cut [4] (fun s4 wc => s4 = .int .i64 0 ∧ Blk wc b (BufC bf bs 0 0 (.iface 70 (.pointer (some x1))) lb lr) 64 ∧ Only [b] w wc)
  case first =>
    go_region_with (go_at_call 42; refine (src_eof bs a n c i pr _ x1 _ (by exact B2.out) hn hi (by exact G1.out)).mono ?_; rintro e w' ⟨rfl, m, rfl⟩)
    all_goals
      go_wp2
      go_meet
      case rel => exact ⟨rfl, Blk.set (by exact B1.out) 4 _, Only.setCell (by repeat (first | exact O.out | apply Only.drewN | apply Only.drew)) (by simp) _⟩
  case rest =>
    obtain ⟨rfl, R1, R2⟩ := hcut
    clear B1 B2 O G1 c0 c1 c4 f4 hm
    replace R1 : Hid _ := R1
    replace R2 : Hid _ := R2
    go_wp2_with (go_at_call 45; refine (readErr_any b bf bs 0 0 _ lb lr _ R1.out).mono ?_; rintro e w2 ⟨rfl, T1, T2⟩; replace T1 : Hid _ := T1; replace T2 : Hid _ := T2)
    go_ret2
    exact ⟨rfl, T1.out, Only.trans R2.out T2.out⟩

set_option maxRecDepth 100000 in
set_option maxHeartbeats 2000000 in
theorem buf_eof_large (b bf bs r : Nat) (lb lr : Int) (a : Option Addr) (n c i : Nat) (pr : Int) (p : Option Addr) (len cap : Nat) (x1 : Addr) (w : World)
    (hB : Blk w b (BufC bf bs r r .nilIface lb lr) 64) (hS : Blk w bs (SrcC (.slice a n c) i pr) 62) (hn : n ≤ i) (hi : i ≤ 4096) (hr : r ≤ 4096)
    (g1 : w.cell? ⟨1, 0, none⟩ = some (.iface 70 (.pointer (some x1)))) (h1 : b ≠ bs) (h2 : b ≠ 1) (hl : 4096 ≤ len) :
    Calls Tryd.prog 43 #[.pointer (some ⟨b, 0, none⟩), .slice p len cap] w fun e w' => e = .returned (.tuple #[.int .i64 0, .iface 70 (.pointer (some x1))]) ∧
      Blk w' b (BufC bf bs r r .nilIface lb lr) 64 ∧ Only [b] w w' := by
  have c0 := hB.cell 0
  have c1 := hB.cell 1
  have c2 := hB.cell 2
  have c3 := hB.cell 3
  have c4 := hB.cell 4
  have f4 := hB.frozen 4
  simp only [BufC, List.getElem?_cons_succ, List.getElem?_cons_zero] at c0 c1 c2 c3 c4
  have HB : Hid (Blk w b (BufC bf bs r r .nilIface lb lr) 64) := hB
  have HS : Hid (Blk w bs (SrcC (.slice a n c) i pr) 62) := hS
  have G1 : Hid (w.cell? ⟨1, 0, none⟩ = some (.iface 70 (.pointer (some x1)))) := g1
  clear hB hS g1
  have hl0 : ((len : Int) == 0) = false := by rw [beq_eq_false_iff_ne]; omega
  have hl1 : decide ((4096 : Int) ≤ (len : Int)) = true := by simp; omega
  have hm := method_src
  go_enter Tryd.func43, Tryd.ntmps43
  go_wp2
  go_quiet (fail)
  go_wp2_with (go_at_call 42; refine (src_eof bs a n c i pr _ x1 _ (by exact HS.out) hn hi (by exact G1.out)).mono ?_; rintro e w' ⟨rfl, m, rfl⟩)
  refine (readErr_any b bf bs r r (.iface 70 (.pointer (some x1))) lb lr _ (by exact Blk.set (by exact HB.out) 4 _)).mono ?_
  rintro e w2 ⟨rfl, T1, T2⟩
  replace T1 : Hid _ := T1
  replace T2 : Hid _ := T2
  go_wp2
  go_ret2
  exact ⟨rfl, T1.out, Only.trans (Only.setCell (by repeat (first | exact Only.refl _ _ | apply Only.drewN | apply Only.drew)) (by simp) _) T2.out⟩
end Go.Proofs.Qxb6616789aDoor
