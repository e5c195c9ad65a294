/- The plain law: how often the committee's model says yes. -/
import Derived.Test.Qxb6616833aFmtPbf
namespace Go.Proofs.Qxb6616833aFmt
open Go.RowKit
set_option linter.unusedVariables false

/-- The flag 'base' ahead of the first loop. -/
def base0 (n : Nat) (m : Nat) (h : Int) (vl : Nat) : Bool := decide (0 < n) && decide (m = 64) && decide (h ≠ 0) && okV vl
/-- .. behind k rounds of it. -/
def baseK (kss : List (List Int)) (n m : Nat) (h : Int) (vl k : Nat) : Bool := base0 n m h vl && all32 (kss.take k)
theorem all32_take (kss : List (List Int)) (k : Nat) (hk : k < kss.length) : all32 (kss.take (k + 1)) = (all32 (kss.take k) && decide ((kss.getD k []).length = 32)) := by
  rw [List.take_succ_eq_append_getElem hk]
  unfold all32
  rw [List.all_append, List.getD_eq_getElem?_getD, List.getElem?_eq_getElem hk]
  simp
  rfl
theorem baseK_same (kss : List (List Int)) (n m : Nat) (h : Int) (vl k : Nat) (hk : k < kss.length) (e : (kss.getD k []).length = 32) : baseK kss n m h vl (k + 1) = baseK kss n m h vl k := by
  unfold baseK; rw [all32_take kss k hk]; simp only [e, decide_true, Bool.and_true]
theorem baseK_off (kss : List (List Int)) (n m : Nat) (h : Int) (vl k : Nat) (hk : k < kss.length) (e : (kss.getD k []).length ≠ 32) : baseK kss n m h vl (k + 1) = false := by
  unfold baseK; rw [all32_take kss k hk]; simp only [e, decide_false, Bool.and_false]
theorem baseK_zero (kss : List (List Int)) (n m : Nat) (h : Int) (vl : Nat) : baseK kss n m h vl 0 = base0 n m h vl := by
  unfold baseK; simp [all32]
/-- How many of the first k keys are t. -/
def cnt (kss : List (List Int)) (t : List Int) : Nat → Nat
  | 0 => 0
  | k + 1 => cnt kss t k + if kss.getD k [] = t then 1 else 0
theorem cnt_le (kss : List (List Int)) (t : List Int) (k : Nat) : cnt kss t k ≤ k := by
  induction k with
  | zero => exact Nat.le_refl _
  | succ k ih => unfold cnt; split <;> omega
/-- How many ids below i are accepted. -/
def idc (B : Bool) (kss : List (List Int)) (t : List Int) (n i : Nat) : Nat := if B then cnt kss t (min (i - 1) n) else 0
theorem idc_le (B : Bool) (kss : List (List Int)) (t : List Int) (n i : Nat) : idc B kss t n i ≤ n := by
  unfold idc
  split
  · have := cnt_le kss t (min (i - 1) n); omega
  · omega
theorem comB_eq (kss : List (List Int)) (n m : Nat) (hn : kss.length = n) (ks : List Int) (hm : ks.length = m) (h : Int) (vl : Nat) (i : Nat) :
    comB kss i ks h vl = (baseK kss n m h vl n && decide (1 ≤ i) && decide (i ≤ n) && decide (kss.getD (i - 1) [] = ks.drop 32)) := by
  subst hn hm
  have e1 : ((i : Int) - 1).toNat = i - 1 := by omega
  have e2 : ((1 : Int) ≤ i) = (1 ≤ i) := by apply propext; omega
  have e3 : ((i : Int) ≤ kss.length) = (i ≤ kss.length) := by apply propext; omega
  unfold comB baseK base0
  rw [List.take_length]
  simp only [e1, e2, e3]
  generalize decide (0 < kss.length) = a1
  generalize all32 kss = a2
  generalize decide (1 ≤ i) = a3
  generalize decide (i ≤ kss.length) = a4
  generalize decide (ks.length = 64) = a5
  generalize decide (kss.getD (i - 1) [] = ks.drop 32) = a6
  generalize decide (h ≠ 0) = a7
  generalize okV vl = a8
  cases a1 <;> cases a2 <;> cases a3 <;> cases a4 <;> cases a5 <;> cases a6 <;> cases a7 <;> cases a8 <;> rfl
theorem idc_step (kss : List (List Int)) (n m : Nat) (hn : kss.length = n) (ks : List Int) (hm : ks.length = m) (h : Int) (vl : Nat) (i : Nat) :
    idc (baseK kss n m h vl n) kss (ks.drop 32) n (i + 1) = idc (baseK kss n m h vl n) kss (ks.drop 32) n i + if comB kss i ks h vl then 1 else 0 := by
  rw [comB_eq kss n m hn ks hm]
  generalize baseK kss n m h vl n = B
  unfold idc
  cases B with
  | false => simp
  | true =>
    simp only [if_true, Bool.true_and]
    by_cases h1 : 1 ≤ i
    · by_cases h2 : i ≤ n
      · obtain ⟨j, rfl⟩ : ∃ j, i = j + 1 := ⟨i - 1, by omega⟩
        rw [show min (j + 1 + 1 - 1) n = j + 1 by omega, show min (j + 1 - 1) n = j by omega, show j + 1 - 1 = j by omega]
        show cnt kss _ j + _ = _
        simp [h2]
      · rw [show min (i + 1 - 1) n = n by omega, show min (i - 1) n = n by omega]
        simp [h2]
    · rw [show i = 0 by omega]
      simp [cnt]
theorem idc_zero (B : Bool) (kss : List (List Int)) (t : List Int) (n : Nat) : idc B kss t n 0 = 0 := by
  unfold idc; simp [cnt]
theorem idc_end (B : Bool) (kss : List (List Int)) (t : List Int) (n : Nat) : idc B kss t n (n + 2) = if B then cnt kss t n else 0 := by
  unfold idc; rw [show min (n + 2 - 1) n = n by omega]
end Go.Proofs.Qxb6616833aFmt
