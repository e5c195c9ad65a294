/- THE LEAVES: ValidValue, zzb1CloneBytes, zzb1Equal, ByteEq, ConstantTimeCompare. -/
import Derived.Test.Qxb6616833aFmtRows
import Derived.Test.Qxb6616833aFmtMem
import Derived.WalkKit
import Derived.WalkSpells
import Derived.RegionTactic
import Derived.Deep.QuietTactic
import Derived.BigQuiet
import Derived.Laws.Pointers
import Derived.Laws.MakeOwn
import Derived.Deep.OwnRows
import Derived.LoopN
import Derived.Laws.BitsAllLaws
namespace Go.Proofs.Qxb6616833aFmt
open Go.RowKit
set_option linter.unusedVariables false

/-! ### ValidValue -/
theorem nil_of (s : ByteArray) (h : s.size = 0) : s.toList = [] := by
  rw [ByteArray.toList_eq]
  exact List.eq_nil_of_length_eq_zero (by simpa using h)
theorem not_nil_of (s : ByteArray) (h : 1 ≤ s.size) : s.toList.isEmpty = false := by
  rw [ByteArray.toList_eq]
  cases hl : s.data.toList with
  | nil => have : s.data.toList.length = s.size := by simp
           rw [hl] at this; simp at this; omega
  | cons _ _ => rfl
/-- Is the value of 1 to 64 bytes? -/
def okV (n : Nat) : Bool := decide (1 ≤ n) && decide (n ≤ 64)
theorem valid_any (s : ByteArray) (w : World) :
    Calls Tryf.prog 17 #[.string s] w fun e w' => e = .returned (.bool (okV s.size)) ∧ w = w' := by
  by_cases h0 : s.size = 0
  · have e : okV s.size = false := by simp [okV]; omega
    rw [e]
    have hl := nil_of s h0
    clear h0 e
    go_enter Tryf.func17, Tryf.ntmps17
    go_wp2
    go_ret
    exact ⟨rfl, rfl⟩
  have hl := not_nil_of s (by omega)
  have hl2 : ¬ s.toList = [] := by intro e; rw [e] at hl; cases hl
  by_cases h64 : s.size ≤ 64
  · have e : okV s.size = true := by simp [okV]; omega
    rw [e]
    have h3 : decide ((s.size : Int) ≤ 64) = true := by simp; omega
    clear h0 e
    go_enter Tryf.func17, Tryf.ntmps17
    go_wp2
    go_ret
    exact ⟨rfl, rfl⟩
  · have e : okV s.size = false := by simp [okV]; omega
    rw [e]
    have h3 : decide ((s.size : Int) ≤ 64) = false := by simp; omega
    clear h0 e
    go_enter Tryf.func17, Tryf.ntmps17
    go_wp2
    go_ret
    exact ⟨rfl, rfl⟩

/-! ### make([]byte, n), zzb1CloneBytes -/
def zeros (n : Nat) : List Value := List.replicate n (.int .u8 0)
theorem zeros_length (n : Nat) : (zeros n).length = n := by simp [zeros]
theorem made_zeros (n : Nat) : madeCells #[.int .u8 0] n = (zeros n).toArray := by
  apply Array.ext
  · simp [size_madeCells, zeros]
  · intro i h1 h2
    simp [madeCells, zeros, Nat.mod_one]
theorem info5 : (Tryf.prog.info? 5).map (fun i => (i.zero, i.size, i.bytes)) = some (some (.int .u8 0), 1, 1) := by kernel_rfl
theorem run_make5 (l c : Int) (h0 : 0 ≤ l) (hlc : l ≤ c) (hc : c ≤ 281474976710656) (w : World) :
    (Instr.makeSlice 23 (.int .i64 l) (.int .i64 c)).run Tryf.prog w = .ok (.slice (some ⟨w.heap.size, 0, none⟩) l.toNat c.toNat) (w.alloc (.cells (zeros c.toNat).toArray 5)) := by
  obtain ⟨i, hi, hzz⟩ := Option.map_eq_some_iff.1 info5
  simp only [Prod.mk.injEq] at hzz
  obtain ⟨hz, hs, hb⟩ := hzz
  have := run_make (P := Tryf.prog) w 23 5 i (.int .u8 0) Tryf.underlying23 hi hz .i64 .i64 l c h0 hlc (by rw [hb]; omega) (by omega)
  rw [this, hs, Nat.mul_one, ← made_zeros]
  rfl
theorem fill_step (zs : List Int) (k len : Nat) (hk : k < len) (hz : len ≤ zs.length) : (bytesC (zs.take k) ++ zeros (len - k)).set k (.int .u8 (zs.getD k 0)) = bytesC (zs.take (k + 1)) ++ zeros (len - (k + 1)) := by
  have hl : (bytesC (zs.take k)).length = k := by rw [bytesC_length, List.length_take]; omega
  obtain ⟨j, hj⟩ : ∃ j, len - k = j + 1 := ⟨len - k - 1, by omega⟩
  have e2 : len - (k + 1) = j := by omega
  have hk2 : k < zs.length := by omega
  rw [List.set_append_right _ _ (by omega), hl, Nat.sub_self, hj, e2]
  have e3 : zeros (j + 1) = .int .u8 0 :: zeros j := rfl
  rw [e3, List.set_cons_zero, List.take_succ_eq_append_getElem hk2]
  unfold bytesC
  rw [List.map_append, List.append_assoc]
  simp only [List.map_cons, List.map_nil, List.getD_eq_getElem?_getD, List.getElem?_eq_getElem hk2, Option.getD_some, List.cons_append, List.nil_append]

/-- zzb1CloneBytes: nil of nil; else a new row that reads as the old one. -/
theorem clone_any (a : Option Addr) (len cap : Nat) (zs : List Int) (w : World) (h : BytesIs w a len zs) (hcap : a = none → len = 0 ∧ cap = 0) (hlen : len ≤ 1048576) :
    Calls Tryf.prog 9 #[.slice a len cap] w fun e w' => ∃ a' c', e = .returned (.slice a' len c') ∧ BytesIs w' a' len zs ∧ (a' = none ↔ a = none) ∧ len ≤ c' ∧ (a' = none → c' = 0) ∧ c' ≤ 1048576 ∧ Only [] w w' := by
  have hn := fun w => Lib.run_eql_slice_nil (P := Tryf.prog) w 23 5 a len cap 0 0 Tryf.underlying23
  cases a with
  | none =>
    obtain ⟨rfl, rfl⟩ := hcap rfl
    go_enter Tryf.func9, Tryf.ntmps9
    go_wp2
    go_ret
    refine ⟨none, 0, rfl, h, ?_⟩
    refine ⟨by simp, by simp, by simp, Only.refl _ _⟩
  | some x =>
    by_cases h0 : len = 0
    · subst h0
      have hmk0 := run_make5 0 0 (by omega) (by omega) (by omega)
      simp only [Int.toNat_zero] at hmk0
      have HH := hid h
      clear h hcap
      go_enter Tryf.func9, Tryf.ntmps9
      go_wp2
      refine wp_loop_rounds 1 ?_
      rw [rounds_succ]
      go_wp2
      go_ret
      exact ⟨_, _, rfl, ⟨HH.out.1, HH.out.2.1, fun h => absurd h (by omega)⟩, by simp, Nat.le_refl _, by simp, by omega, (Only.refl _ _).alloc _⟩
    obtain ⟨hz, hby, hc⟩ := h
    obtain ⟨b, off, e, hcell⟩ := hc (by omega)
    obtain rfl := Option.some.inj e
    have hmk := run_make5 len len (by omega) (by omega) (by omega)
    simp only [Int.toNat_natCast] at hmk
    have HX := hid hcell
    have HZ := hid hz
    have HBY := hid hby
    have hb : b < w.heap.size := World.block_lt_of_cell? _ _ (hcell 0 (by omega))
    clear hcell hz hby hc hcap e
    go_enter Tryf.func9, Tryf.ntmps9
    go_wp2
    obtain ⟨W, hW⟩ : ∃ W, W = w.alloc (.cells (zeros len).toArray 5) := ⟨_, rfl⟩
    rw [← hW]
    obtain ⟨D, hD⟩ : ∃ D, D = w.heap.size := ⟨_, rfl⟩
    rw [← hD]
    have OW := hid (show Only [] w W by rw [hW]; exact (Only.refl _ _).alloc _)
    have BW := hid (show Blk W D (zeros len) 5 by rw [hW, hD]; exact Blk.new _ _ _)
    have HD := hid hD
    have HBD := hid (show b < D by omega)
    clear hW hD hmk hn
    go_loopw [4] (fun i wr => ∃ k : Nat, k ≤ len ∧ i = .int .i64 k ∧ Blk wr D (bytesC (zs.take k) ++ zeros (len - k)) 5 ∧ Only [D] W wr) (fun i _ => len - (intOf i).toNat)
    case atStart => exact ⟨0, Nat.zero_le _, rfl, by simpa [bytesC] using BW.out, Only.refl _ _⟩
    case round =>
      obtain ⟨k, hk, rfl, B1, O1⟩ := hrel
      have HO := hid (OW.out.mono (by simp) |>.trans O1)
      have B2 := hid B1
      have O2 := hid O1
      by_cases hlt : k < len
      · have cs : wr.cell? ⟨b, off + k, none⟩ = some (.int .u8 (zs.getD k 0)) := HO.out.cell (HX.out k hlt) (by simp; have := HBD.out; omega)
        have cd : wr.cell? ⟨D, k, none⟩ = some (.int .u8 0) := by
          have hl : (bytesC (zs.take k)).length = k := by rw [bytesC_length, List.length_take, HZ.out]; omega
          rw [B1.cell, List.getElem?_append_right (by omega), hl, Nat.sub_self]
          obtain ⟨j, hj⟩ : ∃ j, len - k = j + 1 := ⟨len - k - 1, by omega⟩
          rw [hj]; rfl
        have fd := B1.frozen k
        clear B1 O1
        go_wp2
        go_roundw
        case rel => exact ⟨k + 1, by omega, by go_num, by rw [← fill_step zs k len hlt (by rw [HZ.out]; exact Nat.le_refl _)]; exact Blk.set B2.out k _, Only.setCell O2.out (by simp) _⟩
        case measure => simp [intOf]; omega
      · obtain rfl : k = len := by omega
        clear B1 O1
        go_wp2
        go_ret
        refine ⟨some ⟨D, 0, none⟩, k, rfl, ?_, by simp, Nat.le_refl _, by simp, hlen, OW.out.new O2.out (Nat.le_of_eq HD.out.symm)⟩
        have := B2.out
        rw [Nat.sub_self] at this
        have e2 : bytesC (zs.take k) ++ zeros 0 = bytesC zs := by rw [List.take_of_length_le (by rw [HZ.out]; exact Nat.le_refl _)]; simp [zeros]
        rw [e2] at this
        have h2 := BytesIs.of_blk this HBY.out
        rw [HZ.out] at h2
        exact h2

/-! ### zzb1Equal -/
/-- The cells of two slices of bytes of one length, read side by side. -/
theorem equal_len (a b : Option Addr) (n m c d : Nat) (w : World) (h : n ≠ m) :
    Calls Tryf.prog 10 #[.slice a n c, .slice b m d] w fun e w' => e = .returned (.bool false) ∧ ∃ q, w' = w.drewN q := by
  have h1 : ((n : Int) != (m : Int)) = true := by rw [bne_iff_ne]; omega
  go_enter Tryf.func10, Tryf.ntmps10
  go_wp2
  go_ret
  exact ⟨rfl, 0, rfl⟩
theorem take_eq_step (xs ys : List Int) (k n : Nat) (hx : xs.length = n) (hy : ys.length = n) (hk : k < n) (h : xs.take k = ys.take k) (e : xs.getD k 0 = ys.getD k 0) : xs.take (k + 1) = ys.take (k + 1) := by
  have hx2 : k < xs.length := by omega
  have hy2 : k < ys.length := by omega
  rw [List.take_succ_eq_append_getElem hx2, List.take_succ_eq_append_getElem hy2, h]
  simp only [List.getD_eq_getElem?_getD, List.getElem?_eq_getElem hx2, List.getElem?_eq_getElem hy2, Option.getD_some] at e
  rw [e]
theorem take_iff (xs ys : List Int) (k n : Nat) (hx : xs.length = n) (hy : ys.length = n) (hk : k < n) : xs.take (k + 1) = ys.take (k + 1) ↔ xs.take k = ys.take k ∧ xs.getD k 0 = ys.getD k 0 := by
  have hx2 : k < xs.length := by omega
  have hy2 : k < ys.length := by omega
  constructor
  · intro h
    have h1 : (xs.take (k + 1)).take k = (ys.take (k + 1)).take k := by rw [h]
    have h2 : (xs.take (k + 1))[k]? = (ys.take (k + 1))[k]? := by rw [h]
    rw [List.take_take, List.take_take, Nat.min_eq_left (by omega)] at h1
    rw [List.getElem?_take_of_lt (by omega), List.getElem?_take_of_lt (by omega)] at h2
    exact ⟨h1, by simp only [List.getD_eq_getElem?_getD, h2]⟩
  · intro h
    exact take_eq_step xs ys k n hx hy hk h.1 h.2
theorem equal_any (a b : Option Addr) (n c d : Nat) (xs ys : List Int) (w : World) (hx : BytesIs w a n xs) (hy : BytesIs w b n ys) (hn : n ≤ 1048576) :
    Calls Tryf.prog 10 #[.slice a n c, .slice b n d] w fun e w' => e = .returned (.bool (decide (xs = ys))) ∧ ∃ q, w' = w.drewN q := by
  have HX := hid hx
  have HY := hid hy
  clear hx hy
  go_enter Tryf.func10, Tryf.ntmps10
  go_wp2
  go_loopw [5] (fun i wr => ∃ k : Nat, k ≤ n ∧ i = .int .i64 k ∧ Hid (xs.take k = ys.take k) ∧ ∃ q, wr = w.drewN q) (fun i _ => n - (intOf i).toNat)
  case atStart => exact ⟨0, Nat.zero_le _, rfl, by exact rfl, 0, rfl⟩
  case round =>
    obtain ⟨k, hk, rfl, ht, q, rfl⟩ := hrel
    by_cases hlt : k < n
    · obtain ⟨b1, o1, rfl, c1⟩ := HX.out.2.2 (by omega)
      obtain ⟨b2, o2, rfl, c2⟩ := HY.out.2.2 (by omega)
      have d1 := c1 k hlt
      have d2 := c2 k hlt
      have HTE := hid (take_eq_step xs ys k n HX.out.1 HY.out.1 hlt ht.out)
      clear c1 c2
      have HNE := hid (show xs.getD k 0 ≠ ys.getD k 0 → xs ≠ ys from fun h e => h (by rw [e]))
      generalize xs.getD k 0 = x at *
      generalize ys.getD k 0 = y at *
      by_cases he : x = y
      · subst he
        go_wp2
        go_quiet (fail)
        go_wp2
        go_roundw
        case rel => exact ⟨k + 1, by omega, by go_num, HTE.out (by trivial), _, rfl⟩
        case measure => simp [intOf]; omega
      · have he2 : (x != y) = true := by rw [bne_iff_ne]; exact he
        have HF := hid (decide_eq_false (HNE.out he))
        go_wp2
        go_quiet (fail)
        go_wp2
        go_ret
        exact ⟨by rw [HF.out]; rfl, _, World.drewN_drewN _ _ _⟩
    · obtain rfl : k = n := by omega
      have hT := ht.out
      rw [List.take_of_length_le (by rw [HX.out.1]; exact Nat.le_refl _), List.take_of_length_le (by rw [HY.out.1]; exact Nat.le_refl _)] at hT
      have HT := hid (decide_eq_true hT)
      clear hT
      go_wp2
      go_ret
      exact ⟨by rw [HT.out]; rfl, _, rfl⟩

/-! ### ByteEq, ConstantTimeCompare -/
theorem b2u_true (w : World) : (callFunc 32 #[.bool true]).run Tryf.prog w = .ok (.value (.int .u8 1)) w := by kernel_rfl
theorem b2u_false (w : World) : (callFunc 32 #[.bool false]).run Tryf.prog w = .ok (.value (.int .u8 0)) w := by kernel_rfl
theorem byteEq_any (v : Int) (w : World) : Calls Tryf.prog 31 #[.int .u8 v, .int .u8 0] w fun e w' => e = .returned (.int .i64 (if v = 0 then 1 else 0)) ∧ w = w' := by
  have h1 := b2u_true
  have h2 := b2u_false
  by_cases h : v = 0
  · rw [if_pos h]
    subst h
    go_enter Tryf.func31, Tryf.ntmps31
    go_wp2
    go_ret
    exact ⟨rfl, rfl⟩
  · rw [if_neg h]
    have h3 : (v == 0) = false := by rw [beq_eq_false_iff_ne]; exact h
    go_enter Tryf.func31, Tryf.ntmps31
    go_wp2
    go_ret
    exact ⟨rfl, rfl⟩
theorem xor_zero (x y : Int) (hx : 0 ≤ x ∧ x ≤ 255) (hy : 0 ≤ y ∧ y ≤ 255) : bits .xor .u8 x y = 0 ↔ x = y := by
  obtain ⟨x, rfl⟩ := Int.eq_ofNat_of_zero_le hx.1
  obtain ⟨y, rfl⟩ := Int.eq_ofNat_of_zero_le hy.1
  rw [u8_xor_nat x y (by omega) (by omega)]
  have : x ^^^ y = 0 ↔ x = y := by
    constructor
    · intro h
      have h2 : (x ^^^ y) ^^^ y = 0 ^^^ y := by rw [h]
      rw [Nat.xor_assoc, Nat.xor_self, Nat.xor_zero, Nat.zero_xor] at h2
      exact h2
    · intro h; rw [h, Nat.xor_self]
  omega
theorem xor_bd (x y : Int) (hx : 0 ≤ x ∧ x ≤ 255) (hy : 0 ≤ y ∧ y ≤ 255) : 0 ≤ bits .xor .u8 x y ∧ bits .xor .u8 x y ≤ 255 := by
  rw [u8_xor x y hx.1 (by omega) hy.1 (by omega)]
  have := Nat.xor_lt_two_pow (n := 8) (x := x.toNat) (y := y.toNat) (by omega) (by omega)
  omega
theorem or_zero (x y : Int) (hx : 0 ≤ x ∧ x ≤ 255) (hy : 0 ≤ y ∧ y ≤ 255) : bits .or .u8 x y = 0 ↔ x = 0 ∧ y = 0 := by
  obtain ⟨x, rfl⟩ := Int.eq_ofNat_of_zero_le hx.1
  obtain ⟨y, rfl⟩ := Int.eq_ofNat_of_zero_le hy.1
  rw [u8_or_nat x y (by omega) (by omega)]
  have : x ||| y = 0 ↔ x = 0 ∧ y = 0 := Nat.or_eq_zero_iff
  omega
theorem or_bd (x y : Int) (hx : 0 ≤ x ∧ x ≤ 255) (hy : 0 ≤ y ∧ y ≤ 255) : 0 ≤ bits .or .u8 x y ∧ bits .or .u8 x y ≤ 255 := by
  rw [u8_or x y hx.1 (by omega) hy.1 (by omega)]
  have := Nat.or_lt_two_pow (n := 8) (x := x.toNat) (y := y.toNat) (by omega) (by omega)
  omega

/-- 1 where they are equal, else 0. -/
def eqI (xs ys : List Int) : Int := if xs = ys then 1 else 0
/-- crypto/internal/fips140/subtle.ConstantTimeCompare of two slices of one length: 1 where they are equal, else 0. -/
theorem ctc_any (a b : Option Addr) (n c d : Nat) (xs ys : List Int) (w : World) (hx : BytesIs w a n xs) (hy : BytesIs w b n ys) (hn : n ≤ 1048576) :
    Calls Tryf.prog 30 #[.slice a n c, .slice b n d] w fun e w' => e = .returned (.int .i64 (eqI xs ys)) ∧ ∃ q, w' = w.drewN q := by
  have HX := hid hx
  have HY := hid hy
  clear hx hy
  go_enter Tryf.func30, Tryf.ntmps30
  go_wp2
  go_loopw [5, 6] (fun v i wr => ∃ (k : Nat) (z : Int), k ≤ n ∧ i = .int .i64 k ∧ v = .int .u8 z ∧ 0 ≤ z ∧ z ≤ 255 ∧ Hid (z = 0 ↔ xs.take k = ys.take k) ∧ ∃ q, wr = w.drewN q) (fun _ i _ => n - (intOf i).toNat)
  case atStart => exact ⟨0, 0, Nat.zero_le _, rfl, rfl, by omega, by omega, by simp [Hid], 0, rfl⟩
  case round =>
    obtain ⟨k, z, hk, rfl, rfl, z0, z1, ht, q, rfl⟩ := hrel
    by_cases hlt : k < n
    · obtain ⟨b1, o1, rfl, c1⟩ := HX.out.2.2 (by omega)
      obtain ⟨b2, o2, rfl, c2⟩ := HY.out.2.2 (by omega)
      have d1 := c1 k hlt
      have d2 := c2 k hlt
      have HTE := hid (take_iff xs ys k n HX.out.1 HY.out.1 hlt)
      have HB1 := hid (HX.out.2.1.at k)
      have HB2 := hid (HY.out.2.1.at k)
      clear c1 c2
      generalize xs.getD k 0 = x at *
      generalize ys.getD k 0 = y at *
      go_wp2
      go_quiet (fail)
      go_wp2
      go_roundw
      case rel =>
        have hxb := xor_bd x y HB1.out HB2.out
        refine ⟨k + 1, bits .or .u8 z (bits .xor .u8 x y), by omega, by go_num, rfl, (or_bd z _ ⟨z0, z1⟩ hxb).1, (or_bd z _ ⟨z0, z1⟩ hxb).2, ?_, _, rfl⟩
        show _ ↔ _
        rw [or_zero z _ ⟨z0, z1⟩ hxb, xor_zero x y HB1.out HB2.out, ht.out, HTE.out]
      case measure => simp [intOf]; omega
    · obtain rfl : k = n := by omega
      have hT := ht.out
      rw [List.take_of_length_le (by rw [HX.out.1]; exact Nat.le_refl _), List.take_of_length_le (by rw [HY.out.1]; exact Nat.le_refl _)] at hT
      have HT := hid (show (if z = 0 then (1 : Int) else 0) = eqI xs ys by simp only [eqI, hT])
      clear hT
      go_wp2_with (go_at_call 31; refine (byteEq_any _ _).mono ?_; rintro e w' ⟨rfl, rfl⟩; rw [HT.out])
      go_ret
      exact ⟨rfl, _, rfl⟩
theorem ctc29_any (a b : Option Addr) (n c d : Nat) (xs ys : List Int) (w : World) (hx : BytesIs w a n xs) (hy : BytesIs w b n ys) (hn : n ≤ 1048576) :
    Calls Tryf.prog 29 #[.slice a n c, .slice b n d] w fun e w' => e = .returned (.int .i64 (eqI xs ys)) ∧ ∃ q, w' = w.drewN q := by
  have HC := hid (ctc_any a b n c d xs ys w hx hy hn)
  clear hx hy
  go_enter Tryf.func29, Tryf.ntmps29
  go_wp2_with (go_at_call 30; refine HC.out.mono ?_; rintro e w' ⟨rfl, q, rfl⟩)
  go_ret
  exact ⟨rfl, _, rfl⟩

/-! ### (ed25519.PublicKey).Equal, (ed25519.PrivateKey).Public -/
theorem is_pub (a : Option Addr) (n c : Nat) (w : World) : (Instr.typeAssert (.iface 48 (.slice a n c)) 69 48 true).run Tryf.prog w = .ok (.tuple #[.slice a n c, .bool true]) w := by kernel_rfl
theorem pubEqual_any (a b : Option Addr) (n c d : Nat) (xs ys : List Int) (w : World) (hx : BytesIs w a n xs) (hy : BytesIs w b n ys) (hn : n ≤ 1048576) :
    Calls Tryf.prog 26 #[.slice a n c, .iface 48 (.slice b n d)] w fun e w' => e = .returned (.bool (decide (xs = ys))) ∧ ∃ q, w' = w.drewN q := by
  have HC := hid (ctc29_any a b n c d xs ys w hx hy hn)
  have ht := is_pub b n d
  have HE := hid (show (eqI xs ys == 1) = decide (xs = ys) by by_cases h : xs = ys <;> simp [eqI, h])
  generalize eqI xs ys = v at *
  generalize decide (xs = ys) = r at *
  have he := HE.out
  clear hx hy
  go_enter Tryf.func26, Tryf.ntmps26
  go_wp2_with (go_at_call 29; refine HC.out.mono ?_; rintro e w' ⟨rfl, q, rfl⟩)
  go_ret
  exact ⟨rfl, _, rfl⟩
theorem public_any (b off cap : Nat) (ks : List Int) (w : World) (hk : ks.length = 64) (hby : Byt ks) (hc : ∀ j, j < 64 → w.cell? ⟨b, off + j, none⟩ = some (.int .u8 (ks.getD j 0))) (hcap : 64 ≤ cap) :
    Calls Tryf.prog 27 #[.slice (some ⟨b, off, none⟩) 64 cap] w fun e w' => ∃ a c, e = .returned (.iface 48 (.slice a 32 c)) ∧ BytesIs w' a 32 (ks.drop 32) ∧ Only [] w w' := by
  have hmk := run_make5 32 32 (by decide) (by decide) (by decide)
  simp only [show Int.toNat 32 = 32 from rfl] at hmk
  have q1 : ¬ cap = 32 := by omega
  have HB := hid (show Blk (w.alloc (.cells (zeros 32).toArray 5)) w.heap.size (zeros 32) 5 from Blk.new _ _ _)
  have HS := hid (show ∀ j v, (bytesC (ks.drop 32))[j]? = some v → (w.alloc (.cells (zeros 32).toArray 5)).cell? ((⟨b, off + 32, none⟩ : Addr).add j) = some v by
    intro j v hv
    have hj : j < 32 := by
      have := (List.getElem?_eq_some_iff.1 hv).1
      rw [bytesC_length, List.length_drop] at this; omega
    rw [add_at]
    have h1 := hc (32 + j) (by omega)
    rw [← Nat.add_assoc] at h1
    rw [((Only.refl [] w).alloc _).cell' h1]
    have h2 : 32 + j < ks.length := by omega
    rw [← hv]
    simp [bytesC, List.getD_eq_getElem?_getD, h2])
  have HL := hid (show (bytesC (ks.drop 32)).length = 32 by rw [bytesC_length, List.length_drop]; omega)
  have HBD := hid (show Byt (ks.drop 32) from fun z hz => hby z (List.mem_of_mem_drop hz))
  have HLK := hid (show (ks.drop 32).length = 32 by rw [List.length_drop]; omega)
  clear hc hby
  go_enter Tryf.func27, Tryf.ntmps27
  go_wp2_with (refine wpList_copy_own rfl (.tmp 5) (.tmp 7) 23 50 rfl 5 Tryf.underlying23 (by kernel_rfl) w.heap.size 0 32 32 ⟨b, off + 32, none⟩ 32 (cap - 32) (by simp [Act.eval]) (by simp [Act.eval]) (zeros 32).toArray 5 (by exact HB.out) (bytesC (ks.drop 32)) (by rw [HL.out]; rfl) (by exact HS.out) (by rw [HL.out]; decide) (bytesC_one _) ?_)
  go_ret
  refine ⟨some ⟨w.heap.size, 0, none⟩, 32, rfl, ?_, ?_⟩
  · have e : bytesC (ks.drop 32) ++ List.drop (bytesC (ks.drop 32)).length (zeros 32) = bytesC (ks.drop 32) := by rw [HL.out]; simp [zeros]
    have h2 := BytesIs.of_blk (Blk.setRow HB.out (bytesC (ks.drop 32))) HBD.out
    rw [HLK.out] at h2
    rw [e]
    exact h2
  · exact Only.new ((Only.refl _ _).alloc _) ((Only.refl _ _).setRow (by simp) _) (Nat.le_refl _)
end Go.Proofs.Qxb6616833aFmt
