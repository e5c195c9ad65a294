/- THE PLAIN LAW: the top bit of a 32-bit number. No Go in sight but the model's own bit operations. -/
import Derived.Laws.BitsAllLaws
namespace Go.Proofs.Qxb6616789a.Bits

theorem testBit_top (x : Nat) (h : x < 4294967296) : x.testBit 31 = decide (2147483648 ≤ x) := by
  rw [Nat.testBit_eq_decide_div_mod_eq]
  by_cases c : 2147483648 ≤ x
  · have : x / 2 ^ 31 % 2 = 1 := by omega
    simp [this, c]
  · have : x / 2 ^ 31 % 2 = 0 := by omega
    simp [this, c]

theorem nat_or_lt (a b : Nat) (ha : a < 4294967296) (hb : b < 4294967296) : a ||| b < 4294967296 :=
  Nat.or_lt_two_pow (n := 32) ha hb
theorem nat_and_lt (a b : Nat) (ha : a < 4294967296) : a &&& b < 4294967296 :=
  Nat.lt_of_le_of_lt Nat.and_le_left ha
theorem nat_xor_lt (a b : Nat) (ha : a < 4294967296) (hb : b < 4294967296) : a ^^^ b < 4294967296 :=
  Nat.xor_lt_two_pow (n := 32) ha hb

theorem nat_or_top (a b : Nat) (ha : a < 4294967296) (hb : b < 4294967296) : 2147483648 ≤ a ||| b ↔ 2147483648 ≤ a ∨ 2147483648 ≤ b := by
  have h := testBit_top (a ||| b) (nat_or_lt a b ha hb)
  rw [Nat.testBit_or, testBit_top a ha, testBit_top b hb, Bool.eq_iff_iff] at h
  simp only [Bool.or_eq_true, decide_eq_true_eq] at h
  exact h.symm
theorem nat_and_top (a b : Nat) (ha : a < 4294967296) (hb : b < 4294967296) : 2147483648 ≤ a &&& b ↔ 2147483648 ≤ a ∧ 2147483648 ≤ b := by
  have h := testBit_top (a &&& b) (nat_and_lt a b ha)
  rw [Nat.testBit_and, testBit_top a ha, testBit_top b hb, Bool.eq_iff_iff] at h
  simp only [Bool.and_eq_true, decide_eq_true_eq] at h
  exact h.symm

theorem low_testBit (a : Nat) (i : Nat) : (a % 2147483648).testBit i = (decide (i < 31) && a.testBit i) := by
  have := Nat.testBit_mod_two_pow a 31 i
  simpa using this

theorem nat_or_val (a : Nat) (ha : a < 4294967296) : a ||| 2147483648 = a % 2147483648 + 2147483648 := by
  have e : a % 2147483648 + 2147483648 = 2 ^ 31 ||| a % 2147483648 := by
    have := Nat.two_pow_add_eq_or_of_lt (i := 31) (b := a % 2147483648) (by omega) 1
    rw [Nat.mul_one] at this
    rw [← this]; omega
  rw [e]
  apply Nat.eq_of_testBit_eq
  intro i
  rw [Nat.testBit_or, Nat.testBit_or, low_testBit]
  have e2 : (2147483648 : Nat).testBit i = (2 ^ 31 : Nat).testBit i := rfl
  rw [e2, Nat.testBit_two_pow]
  by_cases c : i < 31
  · simp [c]; rw [Bool.or_comm]
  · by_cases d : i = 31
    · subst d; simp
    · have : a.testBit i = false := Nat.testBit_lt_two_pow (Nat.lt_of_lt_of_le ha (by
        have : (2:Nat) ^ 32 ≤ 2 ^ i := Nat.pow_le_pow_right (by decide) (by omega)
        omega))
      simp [c, this]

theorem nat_xor_val (a : Nat) (ha : a < 4294967296) : a ^^^ 2147483648 = if 2147483648 ≤ a then a - 2147483648 else a + 2147483648 := by
  have key : ∀ r : Nat, r < 2147483648 → r ^^^ 2147483648 = r + 2147483648 := by
    intro r hr
    have e : r + 2147483648 = 2 ^ 31 ||| r := by
      have := Nat.two_pow_add_eq_or_of_lt (i := 31) (b := r) (by omega) 1
      rw [Nat.mul_one] at this
      rw [← this]; omega
    rw [e]
    apply Nat.eq_of_testBit_eq
    intro i
    rw [Nat.testBit_or, Nat.testBit_xor]
    have e2 : (2147483648 : Nat).testBit i = (2 ^ 31 : Nat).testBit i := rfl
    rw [e2, Nat.testBit_two_pow]
    by_cases d : i = 31
    · subst d
      have : r.testBit 31 = false := Nat.testBit_lt_two_pow hr
      simp [this]
    · have d' : ¬ 31 = i := fun h => d h.symm
      simp [d']
  split
  · rename_i h
    have := key (a - 2147483648) (by omega)
    have e : a = (a - 2147483648) ^^^ 2147483648 := by rw [this]; omega
    generalize a - 2147483648 = r at *
    rw [e, Nat.xor_assoc]; simp
  · exact key a (by omega)

section
variable (a b : Int)
theorem or_val (h1 : 0 ≤ a) (h2 : a < 4294967296) : bits .or .u32 a 2147483648 = a % 2147483648 + 2147483648 := by
  rw [u32_or a 2147483648 h1 h2 (by decide) (by decide)]
  have e := nat_or_val a.toNat (by omega)
  have : (2147483648 : Int).toNat = 2147483648 := rfl
  rw [this, e]; omega
theorem xor_val (h1 : 0 ≤ a) (h2 : a < 4294967296) : bits .xor .u32 a 2147483648 = if 2147483648 ≤ a then a - 2147483648 else a + 2147483648 := by
  rw [u32_xor a 2147483648 h1 h2 (by decide) (by decide)]
  have e := nat_xor_val a.toNat (by omega)
  have : (2147483648 : Int).toNat = 2147483648 := rfl
  rw [this, e]; split <;> split <;> omega
theorem and_ne (h1 : 0 ≤ a) (h2 : a < 4294967296) : (bits .and .u32 a 2147483648 != 0) = decide (2147483648 ≤ a) := by
  rw [u32_and a 2147483648 h1 h2 (by decide) (by decide)]
  have : (2147483648 : Int).toNat = 2147483648 := rfl
  rw [this]
  have e := nat_and_top a.toNat 2147483648 (by omega) (by decide)
  have e3 : a.toNat &&& 2147483648 = if 2147483648 ≤ a then 2147483648 else 0 := by
    by_cases c : 2147483648 ≤ a
    · rw [if_pos c]
      have := e.2 ⟨by omega, by omega⟩
      have l := Nat.and_le_right (n := a.toNat) (m := 2147483648)
      omega
    · rw [if_neg c]
      apply Nat.eq_of_testBit_eq
      intro i
      rw [Nat.testBit_and]
      have e2 : (2147483648 : Nat).testBit i = (2 ^ 31 : Nat).testBit i := rfl
      rw [e2, Nat.testBit_two_pow]
      by_cases d : 31 = i
      · subst d
        rw [testBit_top _ (by omega)]
        simp; omega
      · simp [d]
  rw [e3]
  by_cases c : 2147483648 ≤ a <;> simp [c]
theorem or_lo (h1 : 0 ≤ a) (h2 : a < 4294967296) (h3 : 0 ≤ b) (h4 : b < 4294967296) : 0 ≤ bits .or .u32 a b := by
  rw [u32_or a b h1 h2 h3 h4]; omega
theorem or_hi (h1 : 0 ≤ a) (h2 : a < 4294967296) (h3 : 0 ≤ b) (h4 : b < 4294967296) : bits .or .u32 a b < 4294967296 := by
  rw [u32_or a b h1 h2 h3 h4]
  have := nat_or_lt a.toNat b.toNat (by omega) (by omega); omega
theorem and_lo (h1 : 0 ≤ a) (h2 : a < 4294967296) (h3 : 0 ≤ b) (h4 : b < 4294967296) : 0 ≤ bits .and .u32 a b := by
  rw [u32_and a b h1 h2 h3 h4]; omega
theorem and_hi (h1 : 0 ≤ a) (h2 : a < 4294967296) (h3 : 0 ≤ b) (h4 : b < 4294967296) : bits .and .u32 a b < 4294967296 := by
  rw [u32_and a b h1 h2 h3 h4]
  have := nat_and_lt a.toNat b.toNat (by omega); omega
theorem or_top (h1 : 0 ≤ a) (h2 : a < 4294967296) (h3 : 0 ≤ b) (h4 : b < 4294967296) : 2147483648 ≤ bits .or .u32 a b ↔ 2147483648 ≤ a ∨ 2147483648 ≤ b := by
  rw [u32_or a b h1 h2 h3 h4]
  have := nat_or_top a.toNat b.toNat (by omega) (by omega); omega
theorem and_top (h1 : 0 ≤ a) (h2 : a < 4294967296) (h3 : 0 ≤ b) (h4 : b < 4294967296) : 2147483648 ≤ bits .and .u32 a b ↔ 2147483648 ≤ a ∧ 2147483648 ≤ b := by
  rw [u32_and a b h1 h2 h3 h4]
  have := nat_and_top a.toNat b.toNat (by omega) (by omega); omega
end
end Go.Proofs.Qxb6616789a.Bits
