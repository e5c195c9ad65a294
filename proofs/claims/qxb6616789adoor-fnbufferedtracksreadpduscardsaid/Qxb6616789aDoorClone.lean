/- zzCloneBytes; the bounds on total length; zzOneReadModel. -/
import Derived.Test.Qxb6616789aDoorLaid
import Derived.Test.Qxb6616789aDoorHdr0
namespace Go.Proofs.Qxb6616789aDoor
open Go.RowKit
set_option linter.unusedVariables false

theorem clone_nil (w : World) : Calls Tryd.prog 6 #[.slice none 0 0] w fun e w' => e = .returned (.slice none 0 0) ∧ w = w' := by
  have hn := Lib.run_eql_slice_nil (P := Tryd.prog)
  go_enter Tryd.func6, Tryd.ntmps6
  go_wp2
  go_ret
  exact ⟨rfl, rfl⟩

theorem fill_step (zs : List Int) (k len : Nat) (hk : k < len) (hz : len ≤ zs.length) : (bytesC (zs.take k) ++ zeros (len - k)).set k (.int .u8 (zs.getD k 0)) = bytesC (zs.take (k + 1)) ++ zeros (len - (k + 1)) := by
  have hl : (bytesC (zs.take k)).length = k := by rw [bytesC_length, List.length_take]; omega
  obtain ⟨j, hj⟩ : ∃ j, len - k = j + 1 := ⟨len - k - 1, by omega⟩
  have e2 : len - (k + 1) = j := by omega
  have hk2 : k < zs.length := by omega
  rw [List.set_append_right _ _ (by omega), hl, Nat.sub_self, hj, e2]
  have e3 : zeros (j + 1) = .int .u8 0 :: zeros j := rfl
  rw [e3, List.set_cons_zero, List.take_succ_eq_append_getElem hk2]
  unfold bytesC
  rw [List.map_append, List.append_assoc]
  simp only [List.map_cons, List.map_nil, List.getD_eq_getElem?_getD, List.getElem?_eq_getElem hk2, Option.getD_some, List.cons_append, List.nil_append]

theorem clone_some (x : Addr) (len cap : Nat) (zs : List Int) (w : World) (hl : len ≤ cap) (hz : zs.length = cap) (hlen : len ≤ 4096) (hx : ∀ i, i < zs.length → w.cell? (x.add i) = some (.int .u8 (zs.getD i 0))) :
    Calls Tryd.prog 6 #[.slice (some x) len cap] w fun e w' => e = .returned (.slice (some ⟨w.heap.size, 0, none⟩) len len) ∧ Blk w' w.heap.size (bytesC (zs.take len)) 5 ∧ Only [] w w' := by
  have hmk := run_make5 len len (by omega) (by omega) (by omega)
  simp only [Int.toNat_natCast] at hmk
  have hn := fun w => Lib.run_eql_slice_nil (P := Tryd.prog) w 22 5 (some x) len cap 0 0 Tryd.underlying22
  by_cases h0 : len = 0
  · subst h0
    have hmk0 := run_make5 0 0 (by omega) (by omega) (by omega)
    simp only [Int.toNat_zero] at hmk0
    go_enter Tryd.func6, Tryd.ntmps6
    go_wp2
    refine wp_loop_rounds 1 ?_
    rw [rounds_succ]
    go_wp2
    go_ret
    exact ⟨rfl, by simpa [zeros, bytesC] using Blk.new w [] 5, (Only.refl _ _).alloc _⟩
  obtain ⟨b, off, rfl, hc⟩ := ints_at hx (by omega)
  have HX := hid hc
  have HZ := hid hz
  have hb : b < w.heap.size := World.block_lt_of_cell? _ _ (hc 0 (by omega))
  clear hc hx hz
  go_enter Tryd.func6, Tryd.ntmps6
  go_wp2
  obtain ⟨W, hW⟩ : ∃ W, W = w.alloc (.cells (zeros len).toArray 5) := ⟨_, rfl⟩
  rw [← hW]
  obtain ⟨D, hD⟩ : ∃ D, D = w.heap.size := ⟨_, rfl⟩
  rw [← hD]
  have OW := hid (show Only [] w W by rw [hW]; exact (Only.refl _ _).alloc _)
  have BW := hid (show Blk W D (zeros len) 5 by rw [hW, hD]; exact Blk.new _ _ _)
  have HD := hid hD
  have HBD := hid (show b < D by omega)
  clear hW hD hmk hn
  go_loopw [4] (fun i wr => ∃ k : Nat, k ≤ len ∧ i = .int .i64 k ∧ Blk wr D (bytesC (zs.take k) ++ zeros (len - k)) 5 ∧ Only [D] W wr) (fun i _ => len - (intOf i).toNat)
  case atStart => exact ⟨0, Nat.zero_le _, rfl, by simpa [bytesC] using BW.out, Only.refl _ _⟩
  case round =>
    obtain ⟨k, hk, rfl, B1, O1⟩ := hrel
    have HO := hid (OW.out.mono (by simp) |>.trans O1)
    have B2 := hid B1
    have O2 := hid O1
    by_cases hlt : k < len
    · have cs : wr.cell? ⟨b, off + k, none⟩ = some (.int .u8 (zs.getD k 0)) := HO.out.cell (HX.out k (by rw [HZ.out]; omega)) (by simp; have := HBD.out; omega)
      have cd : wr.cell? ⟨D, k, none⟩ = some (.int .u8 0) := by
        have hl : (bytesC (zs.take k)).length = k := by rw [bytesC_length, List.length_take, HZ.out]; omega
        rw [B1.cell, List.getElem?_append_right (by omega), hl, Nat.sub_self]
        obtain ⟨j, hj⟩ : ∃ j, len - k = j + 1 := ⟨len - k - 1, by omega⟩
        rw [hj]; rfl
      have fd := B1.frozen k
      clear B1 O1
      go_wp2
      go_roundw
      case rel => exact ⟨k + 1, by omega, by go_num, by rw [← fill_step zs k len hlt (by rw [HZ.out]; exact hl)]; exact Blk.set B2.out k _, Only.setCell O2.out (by simp) _⟩
      case measure => simp [intOf]; omega
    · obtain rfl : k = len := by omega
      clear B1 O1
      go_wp2
      go_ret
      refine ⟨by rw [← HD.out]; rfl, ?_, ?_⟩
      · have := B2.out
        rw [Nat.sub_self] at this
        rw [← HD.out]
        simpa [zeros] using this
      · exact Only.trans_new OW.out O2.out (by simp; exact Nat.le_of_eq HD.out.symm)

/-! ### the bounds on total length -/
theorem bytes5_yes (a : Option Addr) (n c : Nat) (mx : Int) (w : World) (h : n ≤ 1048576) : Calls Tryd.prog 5 #[.slice a n c, .int .u32 mx] w fun e w' => e = .returned (.bool true) ∧ w = w' := by
  go_enter Tryd.func5, Tryd.ntmps5
  go_wp2
  go_ret
  exact ⟨rfl, rfl⟩
theorem bytes5_no (a : Option Addr) (n c : Nat) (mx : Int) (w : World) (h : 1048576 < n) : Calls Tryd.prog 5 #[.slice a n c, .int .u32 mx] w fun e w' => e = .returned (.bool false) ∧ w = w' := by
  go_enter Tryd.func5, Tryd.ntmps5
  go_wp2
  go_ret
  exact ⟨rfl, rfl⟩
theorem bytes11_yes (a : Option Addr) (n c : Nat) (mx : Int) (w : World) (h : n ≤ 1048576) : Calls Tryd.prog 11 #[.slice a n c, .int .u32 mx] w fun e w' => e = .returned (.bool true) ∧ w = w' := by
  go_enter Tryd.func11, Tryd.ntmps11
  go_wp2
  go_ret
  exact ⟨rfl, rfl⟩
theorem bytes11_no (a : Option Addr) (n c : Nat) (mx : Int) (w : World) (h : 1048576 < n) : Calls Tryd.prog 11 #[.slice a n c, .int .u32 mx] w fun e w' => e = .returned (.bool false) ∧ w = w' := by
  go_enter Tryd.func11, Tryd.ntmps11
  go_wp2
  go_ret
  exact ⟨rfl, rfl⟩

/-! ### zzOneReadModel -/
theorem om_short (a : Option Addr) (n c k : Nat) (mx : Int) (w : World) (hk : k ≤ n) (hn : n ≤ 4096) (h : n - k < 16) :
    Calls Tryd.prog 7 #[.slice a n c, .int .i64 k, .int .u32 mx] w fun e w' => e = .returned (.tuple #[.int .i64 0, .bool false]) ∧ w = w' := by
  have h1 : (n : Int) - k < 16 := by omega
  go_enter Tryd.func7, Tryd.ntmps7
  go_wp2
  go_ret2
  exact ⟨rfl, rfl⟩
theorem row_cell {w : World} {bd : Nat} {zs : List Int} (h : Blk w bd (bytesC zs) 5) (j : Nat) (hj : j < zs.length) : w.cell? ⟨bd, j, none⟩ = some (.int .u8 (zs.getD j 0)) := by
  rw [h.cell]; simp [bytesC, List.getD_eq_getElem?_getD, hj]
theorem be12_row (bd cap k : Nat) (zs : List Int) (w : World) (hB : Blk w bd (bytesC zs) 5) (hby : Byt zs) (hk : k + 4 ≤ zs.length) (hl : zs.length ≤ 4096) :
    Calls Tryd.prog 12 #[.slice (some ⟨bd, 0, none⟩) zs.length cap, .int .i64 k] w fun e w' => e = .returned (.int .u32 (lenOf (zs.drop k))) ∧ ∃ n, w' = w.drewN n := by
  have e : lenOf (zs.drop k) = be32 (zs.getD k 0) (zs.getD (k + 1) 0) (zs.getD (k + 2) 0) (zs.getD (k + 3) 0) := by
    simp [lenOf, List.getD_eq_getElem?_getD]
  rw [e]
  exact be12 bd zs.length cap k _ _ _ _ w hk hl (row_cell hB k (by omega)) (row_cell hB (k + 1) (by omega)) (row_cell hB (k + 2) (by omega)) (row_cell hB (k + 3) (by omega)) (hby.at _) (hby.at _) (hby.at _) (hby.at _)
section
variable (bd cap n k : Nat) (zs : List Int) (mx : Int) (w : World)
theorem om_bad (hB : Blk w bd (bytesC zs) 5) (hby : Byt zs) (hn : zs.length = n) (hk : k + 16 ≤ n) (hl : n ≤ 4096) (hm0 : 0 ≤ mx) (hm1 : mx ≤ 4294967295) (hbad : lenOf (zs.drop k) < 16 ∨ mx < lenOf (zs.drop k)) :
    Calls Tryd.prog 7 #[.slice (some ⟨bd, 0, none⟩) n cap, .int .i64 k, .int .u32 mx] w fun e w' => e = .returned (.tuple #[.int .i64 ((n : Int) - k - 16), .bool false]) ∧ ∃ n, w' = w.drewN n := by
  subst hn
  have HC := hid (be12_row bd cap k zs w hB hby (by omega) hl)
  have hbd : Byt (zs.drop k) := fun z hz => hby z (List.mem_of_mem_drop hz)
  obtain ⟨l0, l1⟩ := lenOf_bd _ hbd
  clear hB hby hbd
  have h1 : ¬ (zs.length : Int) - k < 16 := by omega
  generalize lenOf (zs.drop k) = ln at *
  generalize zs.length = n at *
  by_cases hb : ln < 16
  · clear hbad
    go_enter Tryd.func7, Tryd.ntmps7
    go_wp2_with (go_at_call 12; refine HC.out.mono ?_; rintro e w' ⟨rfl, q, rfl⟩)
    go_ret2
    exact ⟨rfl, _, rfl⟩
  · have hb2 : mx < ln := by omega
    have t1 : decide (ln < 16) = false := by simp; omega
    clear hbad
    go_enter Tryd.func7, Tryd.ntmps7
    go_wp2_with (go_at_call 12; refine HC.out.mono ?_; rintro e w' ⟨rfl, q, rfl⟩)
    go_ret2
    exact ⟨rfl, _, rfl⟩
theorem om_long (hB : Blk w bd (bytesC zs) 5) (hby : Byt zs) (hn : zs.length = n) (hk : k + 16 ≤ n) (hl : n ≤ 4096) (hm0 : 0 ≤ mx) (hm1 : mx ≤ 4294967295) (h16 : 16 ≤ lenOf (zs.drop k)) (hmx : lenOf (zs.drop k) ≤ mx) (hlong : (n : Int) - k < lenOf (zs.drop k)) :
    Calls Tryd.prog 7 #[.slice (some ⟨bd, 0, none⟩) n cap, .int .i64 k, .int .u32 mx] w fun e w' => e = .returned (.tuple #[.int .i64 0, .bool false]) ∧ ∃ n, w' = w.drewN n := by
  subst hn
  have HC := hid (be12_row bd cap k zs w hB hby (by omega) hl)
  have hbd : Byt (zs.drop k) := fun z hz => hby z (List.mem_of_mem_drop hz)
  obtain ⟨l0, l1⟩ := lenOf_bd _ hbd
  clear hB hby hbd
  have h1 : ¬ (zs.length : Int) - k < 16 := by omega
  generalize lenOf (zs.drop k) = ln at *
  generalize zs.length = n at *
  have t1 : decide (ln < 16) = false := by simp; omega
  have t2 : decide (mx < ln) = false := by simp; omega
  have t3 : ¬ mx < ln := by omega
  have t4 : 0 ≤ (n : Int) - k := by omega
  have t5 : (n : Int) - k ≤ 4096 := by omega
  go_enter Tryd.func7, Tryd.ntmps7
  go_wp2_with (go_at_call 12; refine HC.out.mono ?_; rintro e w' ⟨rfl, q, rfl⟩)
  go_ret2
  exact ⟨rfl, _, rfl⟩
theorem om_ok (hB : Blk w bd (bytesC zs) 5) (hby : Byt zs) (hn : zs.length = n) (hk : k + 16 ≤ n) (hl : n ≤ 4096) (hm0 : 0 ≤ mx) (hm1 : mx ≤ 4294967295) (h16 : 16 ≤ lenOf (zs.drop k)) (hmx : lenOf (zs.drop k) ≤ mx) (hok : lenOf (zs.drop k) ≤ (n : Int) - k) :
    Calls Tryd.prog 7 #[.slice (some ⟨bd, 0, none⟩) n cap, .int .i64 k, .int .u32 mx] w fun e w' => e = .returned (.tuple #[.int .i64 ((n : Int) - k - lenOf (zs.drop k)), .bool true]) ∧ ∃ n, w' = w.drewN n := by
  subst hn
  have HC := hid (be12_row bd cap k zs w hB hby (by omega) hl)
  have hbd : Byt (zs.drop k) := fun z hz => hby z (List.mem_of_mem_drop hz)
  obtain ⟨l0, l1⟩ := lenOf_bd _ hbd
  clear hB hby hbd
  have h1 : ¬ (zs.length : Int) - k < 16 := by omega
  generalize lenOf (zs.drop k) = ln at *
  generalize zs.length = n at *
  have t1 : decide (ln < 16) = false := by simp; omega
  have t2 : decide (mx < ln) = false := by simp; omega
  have t3 : ¬ mx < ln := by omega
  have t4 : 0 ≤ (n : Int) - k := by omega
  have t5 : (n : Int) - k ≤ 4096 := by omega
  have t6 : ¬ (n : Int) - k < ln := by omega
  go_enter Tryd.func7, Tryd.ntmps7
  go_wp2_with (go_at_call 12; refine HC.out.mono ?_; rintro e w' ⟨rfl, q, rfl⟩)
  go_ret2
  exact ⟨rfl, _, rfl⟩
end
end Go.Proofs.Qxb6616789aDoor
