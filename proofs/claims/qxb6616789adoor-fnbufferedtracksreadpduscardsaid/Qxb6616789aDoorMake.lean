/- THE MAKERS: bytes.NewReader, bufio.NewReaderSize, bufio.NewReader, smpp.NewReader, ZZNewReaderOfBytes; make([]byte, ..). -/
import Derived.Test.Qxb6616789aDoorLeaf
import Derived.Laws.MakeOwn
import Derived.Deep.OwnRows
namespace Go.Proofs.Qxb6616789aDoor
open Go.RowKit

/-- n zero bytes. -/
def zeros (n : Nat) : List Value := List.replicate n (.int .u8 0)
theorem zeros_length (n : Nat) : (zeros n).length = n := by simp [zeros]
theorem made_zeros (n : Nat) : madeCells #[.int .u8 0] n = (zeros n).toArray := by
  apply Array.ext
  · simp [size_madeCells, zeros]
  · intro i h1 h2
    simp [madeCells, zeros, Nat.mod_one]
theorem info5 : (Tryd.prog.info? 5).map (fun i => (i.zero, i.size, i.bytes)) = some (some (.int .u8 0), 1, 1) := by kernel_rfl
theorem run_make5 (l c : Int) (h0 : 0 ≤ l) (hlc : l ≤ c) (hc : c ≤ 281474976710656) (w : World) :
    (Instr.makeSlice 22 (.int .i64 l) (.int .i64 c)).run Tryd.prog w = .ok (.slice (some ⟨w.heap.size, 0, none⟩) l.toNat c.toNat) (w.alloc (.cells (zeros c.toNat).toArray 5)) := by
  obtain ⟨i, hi, hzz⟩ := Option.map_eq_some_iff.1 info5
  simp only [Prod.mk.injEq] at hzz
  obtain ⟨hz, hs, hb⟩ := hzz
  have := run_make (P := Tryd.prog) w 22 5 i (.int .u8 0) Tryd.underlying22 hi hz .i64 .i64 l c h0 hlc (by rw [hb]; omega) (by omega)
  rw [this, hs, Nat.mul_one, ← made_zeros]
  rfl

/-- A bytes.Reader over the slice sl, at place i. -/
def SrcC (sl : Value) (i : Nat) (pr : Int) : List Value := [sl, .int .i64 i, .int .i64 pr]
/-- A smpp.Reader: its bufio.Reader is block b; the longest length; the 16 header cells. -/
def RdC (b : Nat) (mx : Int) (hs : List Value) : List Value := .pointer (some ⟨b, 0, none⟩) :: .int .u32 mx :: hs

theorem newSrc_any (a : Option Addr) (n c : Nat) (w : World) :
    Calls Tryd.prog 14 #[.slice a n c] w fun e w' => e = .returned (.pointer (some ⟨w.heap.size, 0, none⟩)) ∧ w.alloc (.cells (SrcC (.slice a n c) 0 (-1)).toArray 62) = w' := by
  go_enter Tryd.func14, Tryd.ntmps14
  go_wp2
  go_ret
  exact ⟨rfl, rfl⟩

theorem not_buf (bs : Nat) (w : World) : (Instr.typeAssert (.iface 42 (.pointer (some ⟨bs, 0, none⟩))) 59 44 true).run Tryd.prog w = .ok (.tuple #[.pointer none, .bool false]) w := by kernel_rfl
theorem newBuf_any (bs : Nat) (w : World) :
    Calls Tryd.prog 21 #[.iface 42 (.pointer (some ⟨bs, 0, none⟩)), .int .i64 4096] w fun e w' => e = .returned (.pointer (some ⟨w.heap.size, 0, none⟩)) ∧
      (w.alloc (.cells (BufC (w.heap.size + 1) bs 0 0 .nilIface (-1) (-1)).toArray 64)).alloc (.cells (zeros 4096).toArray 5) = w' := by
  have hmk := run_make5 4096 4096 (by decide) (by decide) (by decide)
  have hta := not_buf bs
  simp only [show Int.toNat 4096 = 4096 from rfl] at hmk
  go_enter Tryd.func21, Tryd.ntmps21
  go_wp2
  go_end0
  go_wp2
  go_ret
  exact ⟨rfl, rfl⟩
theorem newBuf0_any (bs : Nat) (w : World) :
    Calls Tryd.prog 19 #[.iface 42 (.pointer (some ⟨bs, 0, none⟩))] w fun e w' => e = .returned (.pointer (some ⟨w.heap.size, 0, none⟩)) ∧
      (w.alloc (.cells (BufC (w.heap.size + 1) bs 0 0 .nilIface (-1) (-1)).toArray 64)).alloc (.cells (zeros 4096).toArray 5) = w' := by
  go_enter Tryd.func19, Tryd.ntmps19
  go_wp2_with (go_at_call 21; refine (newBuf_any _ _).mono ?_; rintro e w' ⟨rfl, rfl⟩)
  go_ret
  exact ⟨rfl, rfl⟩
theorem newRd_any (bs : Nat) (mx : Int) (w : World) :
    Calls Tryd.prog 13 #[.iface 42 (.pointer (some ⟨bs, 0, none⟩)), .int .u32 mx] w fun e w' => e = .returned (.pointer (some ⟨w.heap.size + 2, 0, none⟩)) ∧
      ((w.alloc (.cells (BufC (w.heap.size + 1) bs 0 0 .nilIface (-1) (-1)).toArray 64)).alloc (.cells (zeros 4096).toArray 5)).alloc (.cells (RdC w.heap.size mx (zeros 16)).toArray 47) = w' := by
  go_enter Tryd.func13, Tryd.ntmps13
  go_wp2_with (go_at_call 19; refine (newBuf0_any _ _).mono ?_; rintro e w' ⟨rfl, rfl⟩)
  go_ret
  exact ⟨rfl, rfl⟩
theorem newOf_any (a : Option Addr) (n c : Nat) (mx : Int) (w : World) :
    Calls Tryd.prog 8 #[.slice a n c, .int .u32 mx] w fun e w' => e = .returned (.pointer (some ⟨w.heap.size + 3, 0, none⟩)) ∧
      (((w.alloc (.cells (SrcC (.slice a n c) 0 (-1)).toArray 62)).alloc (.cells (BufC (w.heap.size + 2) w.heap.size 0 0 .nilIface (-1) (-1)).toArray 64)).alloc (.cells (zeros 4096).toArray 5)).alloc (.cells (RdC (w.heap.size + 1) mx (zeros 16)).toArray 47) = w' := by
  go_enter Tryd.func8, Tryd.ntmps8
  go_wp2_with (first | (go_at_call 14; refine (newSrc_any _ _ _ _).mono ?_; rintro e w' ⟨rfl, rfl⟩) | (go_at_call 13; refine (newRd_any _ _ _).mono ?_; rintro e w' ⟨rfl, rfl⟩))
  go_ret
  exact ⟨rfl, by simp⟩
end Go.Proofs.Qxb6616789aDoor
