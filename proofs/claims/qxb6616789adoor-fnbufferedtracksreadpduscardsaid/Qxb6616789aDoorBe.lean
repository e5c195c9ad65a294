/- The two big-endian readers: (binary.bigEndian).Uint32 and the law's own zzBigEndian32. -/
import Derived.Test.Qxb6616789aDoorMake
import Derived.Laws.BitsAllLaws
namespace Go.Proofs.Qxb6616789aDoor
open Go.RowKit
set_option linter.unusedVariables false

theorem nat_or_hi (i q b : Nat) (hb : b < 2 ^ i) : q * 2 ^ i ||| b = q * 2 ^ i + b := by
  have := Nat.two_pow_add_eq_or_of_lt (i := i) (b := b) hb q
  rw [Nat.mul_comm q, ← this]
theorem or_hi_lo (i : Nat) (q x : Int) (m : Int) (hm : m = (2 ^ i : Nat)) (hq : 0 ≤ q) (hx : 0 ≤ x) (hx2 : x < m) (hy : q * m < 4294967296) (hx3 : x < 4294967296) : bits .or .u32 (q * m) x = q * m + x := by
  obtain ⟨q, rfl⟩ := Int.eq_ofNat_of_zero_le hq
  obtain ⟨x, rfl⟩ := Int.eq_ofNat_of_zero_le hx
  subst hm
  have e : (q : Int) * ((2 ^ i : Nat) : Int) = ((q * 2 ^ i : Nat) : Int) := by rw [Int.natCast_mul]
  rw [e] at hy ⊢
  rw [u32_or_nat _ _ (by omega) (by omega), nat_or_hi i q x (by omega)]
  omega
theorem or_lo_hi (i : Nat) (q x : Int) (m : Int) (hm : m = (2 ^ i : Nat)) (hq : 0 ≤ q) (hx : 0 ≤ x) (hx2 : x < m) (hy : q * m < 4294967296) (hx3 : x < 4294967296) : bits .or .u32 x (q * m) = q * m + x := by
  rw [← or_hi_lo i q x m hm hq hx hx2 hy hx3]
  obtain ⟨q, rfl⟩ := Int.eq_ofNat_of_zero_le hq
  obtain ⟨x, rfl⟩ := Int.eq_ofNat_of_zero_le hx
  subst hm
  have e : (q : Int) * ((2 ^ i : Nat) : Int) = ((q * 2 ^ i : Nat) : Int) := by rw [Int.natCast_mul]
  rw [e] at hy ⊢
  rw [u32_or_nat _ _ (by omega) (by omega), u32_or_nat _ _ (by omega) (by omega), Nat.or_comm]

/-- The number that four bytes spell, the greatest first. -/
def be32 (z0 z1 z2 z3 : Int) : Int := z0 * 16777216 + z1 * 65536 + z2 * 256 + z3

section
variable (z0 z1 z2 z3 : Int) (b00 : 0 ≤ z0) (b01 : z0 ≤ 255) (b10 : 0 ≤ z1) (b11 : z1 ≤ 255) (b20 : 0 ≤ z2) (b21 : z2 ≤ 255) (b30 : 0 ≤ z3) (b31 : z3 ≤ 255)
theorem plain17 (b00 : 0 ≤ z0) (b01 : z0 ≤ 255) (b10 : 0 ≤ z1) (b11 : z1 ≤ 255) (b20 : 0 ≤ z2) (b21 : z2 ≤ 255) (b30 : 0 ≤ z3) (b31 : z3 ≤ 255) :
    bits BinOp.or IntKind.u32 (bits BinOp.or IntKind.u32 (bits BinOp.or IntKind.u32 z3 (z2 * 256)) (z1 * 65536)) (z0 * 16777216) = be32 z0 z1 z2 z3 := by
  rw [or_lo_hi 8 z2 z3 256 rfl b20 b30 (by omega) (by omega) (by omega), or_lo_hi 16 z1 _ 65536 rfl b10 (by omega) (by omega) (by omega) (by omega), or_lo_hi 24 z0 _ 16777216 rfl b00 (by omega) (by omega) (by omega) (by omega)]
  unfold be32; omega
theorem plain12 (b00 : 0 ≤ z0) (b01 : z0 ≤ 255) (b10 : 0 ≤ z1) (b11 : z1 ≤ 255) (b20 : 0 ≤ z2) (b21 : z2 ≤ 255) (b30 : 0 ≤ z3) (b31 : z3 ≤ 255) :
    bits BinOp.or IntKind.u32 (bits BinOp.or IntKind.u32 (bits BinOp.or IntKind.u32 (z0 * 16777216) (z1 * 65536)) (z2 * 256)) z3 = be32 z0 z1 z2 z3 := by
  rw [or_hi_lo 24 z0 (z1 * 65536) 16777216 rfl b00 (by omega) (by omega) (by omega) (by omega)]
  have e1 : z0 * 16777216 + z1 * 65536 = (z0 * 256 + z1) * 65536 := by omega
  rw [e1, or_hi_lo 16 (z0 * 256 + z1) (z2 * 256) 65536 rfl (by omega) (by omega) (by omega) (by omega) (by omega)]
  have e2 : (z0 * 256 + z1) * 65536 + z2 * 256 = (z0 * 65536 + z1 * 256 + z2) * 256 := by omega
  rw [e2, or_hi_lo 8 (z0 * 65536 + z1 * 256 + z2) z3 256 rfl (by omega) (by omega) (by omega) (by omega) (by omega)]
  unfold be32; omega
end

set_option maxRecDepth 100000 in
set_option maxHeartbeats 2000000 in
theorem be17 (g off len cap : Nat) (z0 z1 z2 z3 : Int) (w : World) (hl : 4 ≤ len) (v : Value)
    (c0 : w.cell? ⟨g, off, none⟩ = some (.int .u8 z0)) (c1 : w.cell? ⟨g, off + 1, none⟩ = some (.int .u8 z1)) (c2 : w.cell? ⟨g, off + 2, none⟩ = some (.int .u8 z2)) (c3 : w.cell? ⟨g, off + 3, none⟩ = some (.int .u8 z3))
    (b0 : 0 ≤ z0 ∧ z0 ≤ 255) (b1 : 0 ≤ z1 ∧ z1 ≤ 255) (b2 : 0 ≤ z2 ∧ z2 ≤ 255) (b3 : 0 ≤ z3 ∧ z3 ≤ 255) (hg : g < w.heap.size) :
    Calls Tryd.prog 17 #[.agg #[], .slice (some ⟨g, off, none⟩) len cap] w fun e w' => e = .returned (.int .u32 (be32 z0 z1 z2 z3)) ∧ Below w.heap.size w w' := by
  obtain ⟨b00, b01⟩ := b0
  obtain ⟨b10, b11⟩ := b1
  obtain ⟨b20, b21⟩ := b2
  obtain ⟨b30, b31⟩ := b3
  have l1 : (3 : Int) < (len : Int) := by omega
  have l2 : (2 : Int) < (len : Int) := by omega
  have l3 : (1 : Int) < (len : Int) := by omega
  have l4 : (0 : Int) < (len : Int) := by omega
  go_enter Tryd.func17, Tryd.ntmps17
  go_wp2
  go_quiet (fail)
  go_wp2
  go_ret
  exact ⟨by rw [← plain17 z0 z1 z2 z3 b00 b01 b10 b11 b20 b21 b30 b31]; rfl, (by exact ((Below.refl _ _).alloc (Nat.le_refl _) _).trans ⟨rfl, rfl, rfl, Nat.le_refl _, fun _ _ => rfl⟩)⟩

set_option maxRecDepth 100000 in
set_option maxHeartbeats 2000000 in
theorem be12 (g len cap k : Nat) (z0 z1 z2 z3 : Int) (w : World) (hl : k + 4 ≤ len) (hl2 : len ≤ 4096)
    (c0 : w.cell? ⟨g, k, none⟩ = some (.int .u8 z0)) (c1 : w.cell? ⟨g, k + 1, none⟩ = some (.int .u8 z1)) (c2 : w.cell? ⟨g, k + 2, none⟩ = some (.int .u8 z2)) (c3 : w.cell? ⟨g, k + 3, none⟩ = some (.int .u8 z3))
    (b0 : 0 ≤ z0 ∧ z0 ≤ 255) (b1 : 0 ≤ z1 ∧ z1 ≤ 255) (b2 : 0 ≤ z2 ∧ z2 ≤ 255) (b3 : 0 ≤ z3 ∧ z3 ≤ 255) :
    Calls Tryd.prog 12 #[.slice (some ⟨g, 0, none⟩) len cap, .int .i64 k] w fun e w' => e = .returned (.int .u32 (be32 z0 z1 z2 z3)) ∧ ∃ n, w' = w.drewN n := by
  obtain ⟨b00, b01⟩ := b0
  obtain ⟨b10, b11⟩ := b1
  obtain ⟨b20, b21⟩ := b2
  obtain ⟨b30, b31⟩ := b3
  have l1 : (k : Int) + 3 < (len : Int) := by omega
  have l2 : (k : Int) + 2 < (len : Int) := by omega
  have l3 : (k : Int) + 1 < (len : Int) := by omega
  have l4 : (k : Int) < (len : Int) := by omega
  go_enter Tryd.func12, Tryd.ntmps12
  go_wp2
  go_quiet (fail)
  go_wp2
  go_ret
  exact ⟨by rw [← plain12 z0 z1 z2 z3 b00 b01 b10 b11 b20 b21 b30 b31]; rfl, _, rfl⟩
end Go.Proofs.Qxb6616789aDoor
