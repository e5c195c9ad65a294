/- THE MAKERS OF ERRORS: errors.New, fmt.Errorf at the formats of the road (their operands are ints), checkProcess. -/
import Derived.Test.Qxb6616833aFmtLeaf
import Derived.Stop.CallBack
import Derived.Stop.IfaceNil
import GoSem.ClaimData
namespace Go.Proofs.Qxb6616833aFmt
open Go.RowKit Go.Extern.Stop Go.Stop Go.Extern
set_option linter.unusedVariables false

theorem call28 (args : Array Value) (w : World) : (callFunc 28 args).run Tryf.prog w = ((FmtStop.errorf #[9, 76] #[38] args).run Tryf.prog w).andThen fun v w' => .ok (.value v) w' :=
  run_callFunc_extern Tryf.func28 (by kernel_rfl) (by kernel_rfl) (by kernel_rfl) (by kernel_rfl) args w
theorem fguard (name : String) (w : World) : (FmtStop.guard name).run Tryf.prog w = .ok () w := by kernel_rfl
def shape3 : List UInt8 := [5, 3, 0, 0, 0, 0, 0, 0, 0, 105, 110, 116]
theorem op3 (name : String) (x : Int) (w : World) : (FmtStop.operand name true 100 false (.iface 3 (.int .i64 x))).run Tryf.prog w = .ok (shape3, Go.Extern.Stop.digits 8 (x % 2 ^ 64).toNat) w := by kernel_rfl
theorem ptr73 (w : World) : (FmtStop.ptrTo "errors.errorString").run Tryf.prog w = .ok 73 w := by kernel_rfl
theorem elem73 (w : World) : (elemOf 73).run Tryf.prog w = .ok 75 w := by kernel_rfl

theorem new_any (s : ByteArray) (w : World) : Calls Tryf.prog 23 #[.string s] w fun e w' => (∃ x, e = .returned (.iface 73 x)) ∧ Only [] w w' := by
  go_enter Tryf.func23, Tryf.ntmps23
  go_wp2
  go_ret
  exact ⟨⟨_, rfl⟩, (Only.refl _ _).alloc _⟩

theorem pK (w : World) : (FmtDoors.printed ⟨#[118, 105, 101, 119, 108, 105, 110, 101, 58, 32, 116, 104, 101, 32, 112, 117, 98, 108, 105, 99, 32, 107, 101, 121, 32, 111, 102, 32, 112, 114, 111, 99, 101, 115, 115, 32, 37, 100, 32, 109, 117, 115, 116, 32, 98, 101, 32, 37, 100, 32, 98, 121, 116, 101, 115, 44, 32, 103, 111, 116, 32, 37, 100]⟩ 3).run Tryf.prog w = .ok [(0, 100, false), (1, 100, false), (2, 100, false)] w := by kernel_rfl
/-- fmt.Errorf: its text is told by nobody here: an error that is not nil. -/
theorem errK (b : Nat) (x0 x1 x2 : Int) (w : World) (c0 : w.cell? ⟨b, 0, none⟩ = some (.iface 3 (.int .i64 x0))) (c1 : w.cell? ⟨b, 1, none⟩ = some (.iface 3 (.int .i64 x1))) (c2 : w.cell? ⟨b, 2, none⟩ = some (.iface 3 (.int .i64 x2))) :
    Calls Tryf.prog 24 #[.string ⟨#[118, 105, 101, 119, 108, 105, 110, 101, 58, 32, 116, 104, 101, 32, 112, 117, 98, 108, 105, 99, 32, 107, 101, 121, 32, 111, 102, 32, 112, 114, 111, 99, 101, 115, 115, 32, 37, 100, 32, 109, 117, 115, 116, 32, 98, 101, 32, 37, 100, 32, 98, 121, 116, 101, 115, 44, 32, 103, 111, 116, 32, 37, 100]⟩, .slice (some ⟨b, 0, none⟩) 3 3] w fun e w' => (∃ x, e = .returned (.iface 73 x)) ∧ Only [] w w' := by
  have h1 := call28
  have h2 := fguard
  have h3 := op3
  have h4 := ptr73
  have h5 := elem73
  have h6 := pK
  go_enter Tryf.func24, Tryf.ntmps24
  go_wp2
  go_ret
  exact ⟨⟨_, rfl⟩, ((Only.refl _ _).alloc _).drew⟩

theorem pP (w : World) : (FmtDoors.printed ⟨#[118, 105, 101, 119, 108, 105, 110, 101, 58, 32, 112, 114, 111, 99, 101, 115, 115, 32, 105, 100, 32, 109, 117, 115, 116, 32, 98, 101, 32, 102, 114, 111, 109, 32, 49, 32, 116, 111, 32, 37, 100, 44, 32, 103, 111, 116, 32, 37, 100]⟩ 2).run Tryf.prog w = .ok [(0, 100, false), (1, 100, false)] w := by kernel_rfl
/-- fmt.Errorf: its text is told by nobody here: an error that is not nil. -/
theorem errP (b : Nat) (x0 x1 : Int) (w : World) (c0 : w.cell? ⟨b, 0, none⟩ = some (.iface 3 (.int .i64 x0))) (c1 : w.cell? ⟨b, 1, none⟩ = some (.iface 3 (.int .i64 x1))) :
    Calls Tryf.prog 24 #[.string ⟨#[118, 105, 101, 119, 108, 105, 110, 101, 58, 32, 112, 114, 111, 99, 101, 115, 115, 32, 105, 100, 32, 109, 117, 115, 116, 32, 98, 101, 32, 102, 114, 111, 109, 32, 49, 32, 116, 111, 32, 37, 100, 44, 32, 103, 111, 116, 32, 37, 100]⟩, .slice (some ⟨b, 0, none⟩) 2 2] w fun e w' => (∃ x, e = .returned (.iface 73 x)) ∧ Only [] w w' := by
  have h1 := call28
  have h2 := fguard
  have h3 := op3
  have h4 := ptr73
  have h5 := elem73
  have h6 := pP
  go_enter Tryf.func24, Tryf.ntmps24
  go_wp2
  go_ret
  exact ⟨⟨_, rfl⟩, ((Only.refl _ _).alloc _).drew⟩

theorem pI (w : World) : (FmtDoors.printed ⟨#[118, 105, 101, 119, 108, 105, 110, 101, 58, 32, 116, 104, 101, 32, 112, 114, 105, 118, 97, 116, 101, 32, 107, 101, 121, 32, 105, 115, 32, 110, 111, 116, 32, 116, 104, 101, 32, 111, 110, 101, 32, 111, 102, 32, 112, 114, 111, 99, 101, 115, 115, 32, 37, 100]⟩ 1).run Tryf.prog w = .ok [(0, 100, false)] w := by kernel_rfl
/-- fmt.Errorf: its text is told by nobody here: an error that is not nil. -/
theorem errI (b : Nat) (x0 : Int) (w : World) (c0 : w.cell? ⟨b, 0, none⟩ = some (.iface 3 (.int .i64 x0))) :
    Calls Tryf.prog 24 #[.string ⟨#[118, 105, 101, 119, 108, 105, 110, 101, 58, 32, 116, 104, 101, 32, 112, 114, 105, 118, 97, 116, 101, 32, 107, 101, 121, 32, 105, 115, 32, 110, 111, 116, 32, 116, 104, 101, 32, 111, 110, 101, 32, 111, 102, 32, 112, 114, 111, 99, 101, 115, 115, 32, 37, 100]⟩, .slice (some ⟨b, 0, none⟩) 1 1] w fun e w' => (∃ x, e = .returned (.iface 73 x)) ∧ Only [] w w' := by
  have h1 := call28
  have h2 := fguard
  have h3 := op3
  have h4 := ptr73
  have h5 := elem73
  have h6 := pI
  go_enter Tryf.func24, Tryf.ntmps24
  go_wp2
  go_ret
  exact ⟨⟨_, rfl⟩, ((Only.refl _ _).alloc _).drew⟩

theorem pV (w : World) : (FmtDoors.printed ⟨#[118, 105, 101, 119, 108, 105, 110, 101, 58, 32, 97, 32, 118, 97, 108, 117, 101, 32, 109, 117, 115, 116, 32, 98, 101, 32, 49, 32, 116, 111, 32, 37, 100, 32, 98, 121, 116, 101, 115, 44, 32, 103, 111, 116, 32, 37, 100]⟩ 2).run Tryf.prog w = .ok [(0, 100, false), (1, 100, false)] w := by kernel_rfl
/-- fmt.Errorf: its text is told by nobody here: an error that is not nil. -/
theorem errV (b : Nat) (x0 x1 : Int) (w : World) (c0 : w.cell? ⟨b, 0, none⟩ = some (.iface 3 (.int .i64 x0))) (c1 : w.cell? ⟨b, 1, none⟩ = some (.iface 3 (.int .i64 x1))) :
    Calls Tryf.prog 24 #[.string ⟨#[118, 105, 101, 119, 108, 105, 110, 101, 58, 32, 97, 32, 118, 97, 108, 117, 101, 32, 109, 117, 115, 116, 32, 98, 101, 32, 49, 32, 116, 111, 32, 37, 100, 32, 98, 121, 116, 101, 115, 44, 32, 103, 111, 116, 32, 37, 100]⟩, .slice (some ⟨b, 0, none⟩) 2 2] w fun e w' => (∃ x, e = .returned (.iface 73 x)) ∧ Only [] w w' := by
  have h1 := call28
  have h2 := fguard
  have h3 := op3
  have h4 := ptr73
  have h5 := elem73
  have h6 := pV
  go_enter Tryf.func24, Tryf.ntmps24
  go_wp2
  go_ret
  exact ⟨⟨_, rfl⟩, ((Only.refl _ _).alloc _).drew⟩


theorem check_bad (n : Nat) (id : Int) (w : World) (h : id < 1 ∨ (n : Int) < id) :
    Calls Tryf.prog 25 #[.int .i64 n, .int .i64 id] w fun e w' => (∃ x, e = .returned (.iface 73 x)) ∧ Only [] w w' := by
  by_cases hb : id < 1
  · clear h
    go_enter Tryf.func25, Tryf.ntmps25
    go_wp2_with (go_at_call 24; refine (errP _ (n : Int) id _ (by rw [World.cell?_alloc_new]; rfl) (by rw [World.cell?_alloc_new]; rfl)).mono ?_; rintro e w' ⟨⟨x, rfl⟩, O⟩; replace O := hid O)
    go_ret
    exact ⟨⟨_, rfl⟩, ((Only.refl _ _).alloc _).trans O.out⟩
  · have hb2 : (n : Int) < id := by omega
    have t1 : decide (id < 1) = false := by simp; omega
    clear h
    go_enter Tryf.func25, Tryf.ntmps25
    go_wp2_with (go_at_call 24; refine (errP _ (n : Int) id _ (by rw [World.cell?_alloc_new]; rfl) (by rw [World.cell?_alloc_new]; rfl)).mono ?_; rintro e w' ⟨⟨x, rfl⟩, O⟩; replace O := hid O)
    go_ret
    exact ⟨⟨_, rfl⟩, ((Only.refl _ _).alloc _).trans O.out⟩
theorem check_ok (n : Nat) (id : Int) (w : World) (h1 : 1 ≤ id) (h2 : id ≤ (n : Int)) :
    Calls Tryf.prog 25 #[.int .i64 n, .int .i64 id] w fun e w' => e = .returned .nilIface ∧ w = w' := by
  have t1 : decide (id < 1) = false := by simp; omega
  have t2 : decide ((n : Int) < id) = false := by simp; omega
  have t3 : ¬ id < 1 := by omega
  have t4 : ¬ (n : Int) < id := by omega
  go_enter Tryf.func25, Tryf.ntmps25
  go_wp2
  go_ret
  exact ⟨rfl, rfl⟩
end Go.Proofs.Qxb6616833aFmt
