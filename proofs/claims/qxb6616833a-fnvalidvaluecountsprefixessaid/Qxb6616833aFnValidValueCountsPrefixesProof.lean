/-
  THE PROOF OF 'Rows.FnValidValueCountsPrefixesSaid'. The frame was written by program (proof-skeleton.mjs); the walk is ours.
-/
import Derived.Test.Qxb6616833aRows
import Derived.Test.Qxb6616833aWalks
import Derived.WalkKit
import Derived.ProofKit
import Derived.OpenShut
import Derived.ShutString
namespace Go.Proofs.Qxb6616833a.fnValidValueCountsPrefixes
open Go.ChangeShapes Go.WideShapes Go.ChangeAt Go.RowKit
open Go.ChangeMaps (open_string shut_string)
set_option linter.unusedVariables false      -- a walk need not use every 'w<i>' (that an integer argument fits its kind)

theorem own : ownKnob Try.prog.godebug = none := by kernel_rfl

/-- How many of the prefixes shorter than k are valid. -/
def cnt (k : Nat) : Int := min ((k : Int) - 1) 64
theorem cnt_lo (j : Nat) (h : j ≤ 64) : cnt (j + 1) = (j : Int) := by unfold cnt; omega
theorem cnt_hi (j : Nat) (h : 64 ≤ j) : cnt (j + 1) = 64 := by unfold cnt; omega

/-! ### STEP 1: THE WALK: the Go text returns true. 'Grown w w'': the world has at most new blocks (Derived/RowKit3.lean). Part the cases AHEAD of 'go_enter' where a test parts the walk; take each callee by a contract of your own. -/
set_option maxRecDepth 100000 in
theorem walk (a0 : ByteArray) (w0 : a0.size ≤ maxLen) (w : World) :
    Calls Try.prog 3 #[.string a0] w fun e w' => e = .returned (.bool true) ∧ Grown w w' := by
  by_cases hb : a0.size ≤ 1048576
  · clear w0
    have hb' : decide (1048576 < (a0.size : Int)) = false := by simp; omega
    go_enter Try.func3, Try.ntmps3
    go_wp2_with (first | (go_at_call 5; refine (bytes_yes _ hb _).mono ?_; rintro e w' ⟨rfl, rfl⟩) | (go_at_call 6; refine (valid_empty _ (by simp) _).mono ?_; rintro e w' ⟨rfl, rfl⟩))
    go_loop [3, 4, 5] (fun c p i => ∃ k : Nat, 1 ≤ k ∧ k ≤ a0.size + 1 ∧ i = .int .i64 k ∧ c = .int .i64 (cnt k) ∧ p = .bool (decide (2 ≤ k ∧ k ≤ 65))) (fun _ _ i => a0.size + 1 - (intOf i).toNat)
    case atStart => exact ⟨1, by omega, by omega, rfl, rfl, rfl⟩
    case round =>
      obtain ⟨k, hk1, hk2, rfl, rfl, rfl⟩ := hrel
      obtain ⟨j, rfl⟩ : ∃ j, k = j + 1 := ⟨k - 1, by omega⟩
      by_cases hlt : j < a0.size
      · by_cases h64 : j < 64
        · rw [cnt_lo j (by omega)]
          by_cases h0 : j = 0
          · subst h0
            rw [decide_eq_false (by omega)]
            go_wp2_with (go_at_call 6; refine (valid_yes _ (by simp; omega) (by simp; omega) _).mono ?_; rintro e w' ⟨rfl, rfl⟩)
            go_round
            case rel => exact ⟨0 + 2, by omega, by omega, by go_num, by rw [cnt_lo (0 + 1) (by omega)]; go_num, by rw [decide_eq_true (by omega)]⟩
            case measure => simp [intOf]; omega
          · rw [decide_eq_true (by omega)]
            have h1 : 1 ≤ j := by omega
            clear h0
            go_wp2_with (go_at_call 6; refine (valid_yes _ (by simp; omega) (by simp; omega) _).mono ?_; rintro e w' ⟨rfl, rfl⟩)
            go_round
            case rel => exact ⟨j + 2, by omega, by omega, by go_num, by rw [cnt_lo (j + 1) (by omega)]; go_num, by rw [decide_eq_true (by omega)]⟩
            case measure => simp [intOf]; omega
        · rw [cnt_hi j (by omega)]
          go_wp2_with (go_at_call 6; refine (valid_long _ (by simp; omega) _).mono ?_; rintro e w' ⟨rfl, rfl⟩)
          go_round
          case rel => exact ⟨j + 2, by omega, by omega, by go_num, by rw [cnt_hi (j + 1) (by omega)], by rw [decide_eq_false (by omega)]⟩
          case measure => simp [intOf]; omega
      · obtain rfl : j = a0.size := by omega
        by_cases h64 : a0.size ≤ 64
        · rw [cnt_lo a0.size h64]
          go_wp2
          go_ret
          exact ⟨rfl, Grown.refl _⟩
        · rw [cnt_hi a0.size (by omega)]
          go_wp2
          go_ret
          exact ⟨rfl, Grown.refl _⟩
  · go_enter Try.func3, Try.ntmps3
    go_wp2_with (go_at_call 5; refine (bytes_no _ (by omega) _).mono ?_; rintro e w' ⟨rfl, rfl⟩)
    go_ret
    exact ⟨rfl, Grown.refl _⟩

/-! ### THE ROW's STEP: WRITTEN OUT: LEAVE IT -/
set_option maxRecDepth 100000 in
theorem lifted (os : Os) (started : os.Started) (H : Type) (enc : TypeId × Value → H) :
    ReturnsInHanded {} Try.checked os 3 .any (Rows.fnValidValueCountsPrefixesSpec.pre6 enc Try.prog Try.f3 Rows.fnValidValueCountsPrefixesRow.domain false) (Rows.fnValidValueCountsPrefixesSpec.post enc Try.prog Try.f3 false true false false) := by
  refine returnsInHanded_of_change (C := Try.checked) own started (by kernel_rfl) Try.func3
    (ChangeSpec.witness6 (enc := enc) (C := Try.checked) false ⟨#[], #[.string ByteArray.empty], []⟩ 8 (by kernel_rfl) (by kernel_rfl) (by kernel_rfl) (by kernel_rfl)) ?_
  intro W base args ds gs before hval0 hW hcnd _
  have hval : ∀ (j : Nat) t v, Try.f3.params[j]? = some t → args[j]? = some v → Value.okWide Try.prog W .any base t v := hval0
  have hW' := hW
  obtain ⟨p, q, hA0, hV, rfl, hfz, hnd⟩ := hW
  have hA : DataW.TrodAll enc Try.prog W 0 (fun _ => true) true Try.f3.params.toList args.toList ds p := hA0
  rw [Try.params3] at hA hval
  obtain ⟨v0, vs0, d0, ds0, p0, q0, hargs, rfl, rfl, h0, r0⟩ := trodAll_cons hA
  obtain ⟨rfl, rfl, rfl⟩ := trodAll_nil r0
  obtain rfl : args = #[v0] := by cases args; simp_all
  obtain ⟨rfl, rfl⟩ := trodVars_none hV
  obtain ⟨a0, rfl, rfl, rfl, w0⟩ := open_string Try.underlying9 (hval 0 9 v0 rfl rfl) h0
  clear hA0 hval0
  simp only [List.append_nil] at hW'
  refine (walk a0 w0 W).mono fun e W' ⟨he, hg⟩ => ?_
  subst he
  exact ⟨_, rfl, post_of_same (pa := []) (pv := []) hW' (fun _ _ _ => (trodAll_cons_mk (shut_bool Try.underlying4 _) trodAll_mk0)) (fun sp _ => (trodAll_cons_mk (shut_string Try.underlying9 w0) trodAll_mk0)) (fun _ _ => rfl) rfl
    (hg.frame _) hg.2.1 (ok_one (by kernel_rfl) rfl (okWide_bool_mk Try.underlying4 _))⟩

theorem over : Rows.fnValidValueCountsPrefixesRow.holds Try.pinned (OpenSpec.ofChange Rows.fnValidValueCountsPrefixesSpec) :=
  OpenClaim.holds_of_wide 3 Try.f3 rfl rfl rfl rfl rfl rfl rfl ⟨rfl, rfl, rfl, rfl, rfl⟩ rfl rfl rfl rfl rfl (by kernel_rfl) Try.func3 (by kernel_rfl)
    (of_decide_eq_true (by kernel_rfl)) (by unfold Func.isWrapper; first | (rw [if_pos (by decide +kernel)]; kernel_rfl) | (rw [if_neg (by decide +kernel)]; exact ⟨rfl, rfl⟩))
    (fun os started H enc _ => lifted os started H enc)

/-- ████ THE STATEMENT ████ -/
theorem proved : Rows.FnValidValueCountsPrefixesSaid :=
  over
end Go.Proofs.Qxb6616833a.fnValidValueCountsPrefixes
