/- THE WALKS of ValidValue and of the two bounds on total length: a contract each. -/
import Derived.Test.Qxb6616833aRows
import Derived.WalkKit
import Derived.ProofKit
import Derived.WalkSpells
namespace Go.Proofs.Qxb6616833a
open Go.RowKit

theorem nil_of (s : ByteArray) (h : s.size = 0) : s.toList = [] := by
  rw [ByteArray.toList_eq]
  exact List.eq_nil_of_length_eq_zero (by simpa using h)
theorem not_nil_of (s : ByteArray) (h : 1 ≤ s.size) : s.toList.isEmpty = false := by
  rw [ByteArray.toList_eq]
  cases hl : s.data.toList with
  | nil => have : s.data.toList.length = s.size := by simp
           rw [hl] at this; simp at this; omega
  | cons _ _ => rfl

/-- ValidValue of the empty string. -/
theorem valid_empty (s : ByteArray) (h : s.size = 0) (w : World) :
    Calls Try.prog 6 #[.string s] w fun e w' => e = .returned (.bool false) ∧ w = w' := by
  have hl := nil_of s h
  clear h
  go_enter Try.func6, Try.ntmps6
  go_wp2
  go_ret
  exact ⟨rfl, rfl⟩
/-- ValidValue of a string of 1 to 64 bytes. -/
theorem valid_yes (s : ByteArray) (h : 1 ≤ s.size) (h2 : s.size ≤ 64) (w : World) :
    Calls Try.prog 6 #[.string s] w fun e w' => e = .returned (.bool true) ∧ w = w' := by
  have hl := not_nil_of s h
  have hl2 : ¬ s.toList = [] := by intro e; rw [e] at hl; cases hl
  have h3 : decide ((s.size : Int) ≤ 64) = true := by simp; omega
  clear h
  go_enter Try.func6, Try.ntmps6
  go_wp2
  go_ret
  exact ⟨rfl, rfl⟩
/-- ValidValue of a longer string. -/
theorem valid_long (s : ByteArray) (h : 64 < s.size) (w : World) :
    Calls Try.prog 6 #[.string s] w fun e w' => e = .returned (.bool false) ∧ w = w' := by
  have hl := not_nil_of s (by omega)
  have hl2 : ¬ s.toList = [] := by intro e; rw [e] at hl; cases hl
  have h3 : decide ((s.size : Int) ≤ 64) = false := by simp; omega
  go_enter Try.func6, Try.ntmps6
  go_wp2
  go_ret
  exact ⟨rfl, rfl⟩

theorem bytes_yes (s : ByteArray) (h : s.size ≤ 1048576) (w : World) :
    Calls Try.prog 5 #[.string s] w fun e w' => e = .returned (.bool true) ∧ w = w' := by
  go_enter Try.func5, Try.ntmps5
  go_wp2
  go_ret
  exact ⟨rfl, rfl⟩
theorem bytes_no (s : ByteArray) (h : 1048576 < s.size) (w : World) :
    Calls Try.prog 5 #[.string s] w fun e w' => e = .returned (.bool false) ∧ w = w' := by
  go_enter Try.func5, Try.ntmps5
  go_wp2
  go_ret
  exact ⟨rfl, rfl⟩
theorem bytes2_yes (s : ByteArray) (i : Int) (h : s.size ≤ 1048576) (w : World) :
    Calls Try.prog 7 #[.string s, .int .i64 i] w fun e w' => e = .returned (.bool true) ∧ w = w' := by
  go_enter Try.func7, Try.ntmps7
  go_wp2
  go_ret
  exact ⟨rfl, rfl⟩
theorem bytes2_no (s : ByteArray) (i : Int) (h : 1048576 < s.size) (w : World) :
    Calls Try.prog 7 #[.string s, .int .i64 i] w fun e w' => e = .returned (.bool false) ∧ w = w' := by
  go_enter Try.func7, Try.ntmps7
  go_wp2
  go_ret
  exact ⟨rfl, rfl⟩
end Go.Proofs.Qxb6616833a
