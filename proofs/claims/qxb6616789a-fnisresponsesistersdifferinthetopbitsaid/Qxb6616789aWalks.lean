/- THE WALKS of (CommandID).Response and (CommandID).IsResponse: one contract each. -/
import Derived.Test.Qxb6616789aRows
import Derived.Test.Qxb6616789aBits
import Derived.WalkKit
import Derived.ProofKit
namespace Go.Proofs.Qxb6616789a
open Go.RowKit

/-- (CommandID).Response. -/
theorem resp_any (a : Int) (h1 : 0 ≤ a) (h2 : a < 4294967296) (w : World) :
    Calls Try.prog 7 #[.int .u32 a] w fun e w' => e = .returned (.int .u32 (a % 2147483648 + 2147483648)) ∧ w = w' := by
  have hb := Bits.or_val a h1 h2
  go_enter Try.func7, Try.ntmps7
  go_wp2
  go_ret
  exact ⟨rfl, rfl⟩

/-- (CommandID).IsResponse, at an id of 2^31 and above. -/
theorem isr_yes (a : Int) (h1 : 2147483648 ≤ a) (h2 : a < 4294967296) (w : World) :
    Calls Try.prog 8 #[.int .u32 a] w fun e w' => e = .returned (.bool true) ∧ w = w' := by
  have hb := Bits.and_ne a (by omega) h2
  rw [decide_eq_true h1] at hb
  go_enter Try.func8, Try.ntmps8
  go_wp2
  go_ret
  exact ⟨rfl, rfl⟩

/-- (CommandID).IsResponse, below 2^31. -/
theorem isr_no (a : Int) (h1 : 0 ≤ a) (h2 : a < 2147483648) (w : World) :
    Calls Try.prog 8 #[.int .u32 a] w fun e w' => e = .returned (.bool false) ∧ w = w' := by
  have hb := Bits.and_ne a h1 (by omega)
  rw [decide_eq_false (by omega)] at hb
  go_enter Try.func8, Try.ntmps8
  go_wp2
  go_ret
  exact ⟨rfl, rfl⟩
end Go.Proofs.Qxb6616789a
