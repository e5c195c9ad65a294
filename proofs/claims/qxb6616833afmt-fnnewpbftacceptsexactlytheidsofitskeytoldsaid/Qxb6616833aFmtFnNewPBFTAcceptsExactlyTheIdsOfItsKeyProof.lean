/- The told card of FnNewPBFTAcceptsExactlyTheIdsOfItsKey. -/
import Derived.Test.Qxb6616833aFmtCards
import Derived.Test.Qxb6616833aFmtOpen
import Derived.ProofKit
import Derived.Carry
import Derived.Below
import Derived.ShutString
import Derived.Stop.JoinedAt
import Derived.Stop.JoinedTold
import Derived.SevenToldRow
namespace Go.Proofs.Qxb6616833aFmt.fnNewPBFTAcceptsExactlyTheIdsOfItsKey
open Go.ChangeShapes Go.WideShapes Go.ChangeAt Go.RowKit Go.Kit
open Go.ChangeMaps (open_string shut_string)
open Go.Extern.Stop Go.Stop Go.Extern
set_option linter.unusedVariables false

theorem own : ownKnob Tryf.prog.godebug = none := by kernel_rfl
theorem laidOut : laidOutB Tryf.pinned.checked.prog = true := by kernel_rfl
theorem stops : Tryf.pinned.checked.prog.stops = ["fmt.errorf"] := by kernel_rfl
theorem stopKnobs : Tryf.pinned.checked.prog.stopKnobs = [] := by kernel_rfl
theorem quiet (os : Os) : Stop.quiet Tryf.pinned.checked.prog os := by
  intro k hk
  rw [stopKnobs] at hk
  cases hk

set_option maxRecDepth 100000 in
theorem lifted (os : Os) (started : os.Started) (H : Type) (enc : TypeId × Value → H) :
    ReturnsInTold none {} Tryf.checked os 3 .any Input.okWide ((OpenSpec.ofChange Rows.fnNewPBFTAcceptsExactlyTheIdsOfItsKeySpec).preRow enc Tryf.prog Tryf.f3 [] false []) (fun F => ((OpenSpec.ofChange Rows.fnNewPBFTAcceptsExactlyTheIdsOfItsKeySpec).at F).post enc Tryf.prog Tryf.f3 false true false false) (aloneAtReturn Tryf.prog) nothingAlways := by
  refine returnsInTold_of_row (C := Tryf.checked) (s := OpenSpec.ofChange Rows.fnNewPBFTAcceptsExactlyTheIdsOfItsKeySpec) (by kernel_rfl) own started (by kernel_rfl) Tryf.func3
    (OpenSpec.witness_stopped (enc := enc) (C := Tryf.checked) false ⟨#[], #[.slice none 0 0, .slice none 0 0, .int .u64 0, .agg (Array.replicate 32 (.int .u8 0)), .string ⟨#[]⟩], []⟩ 8 (by kernel_rfl) (by kernel_rfl) (by kernel_rfl) (by kernel_rfl)) ?_
  intro F W base args ds gs before _ hF hval0 hW _ _ _ _ _
  have hval : ∀ (j : Nat) t v, Tryf.f3.params[j]? = some t → args[j]? = some v → Value.okWide Tryf.prog W .any base t v := hval0
  have hW' := hW
  obtain ⟨p, q, hA0, hV, rfl, hfz, hnd⟩ := hW
  have hA : DataW.TrodAll enc Tryf.prog W 0 (fun _ => true) true Tryf.f3.params.toList args.toList ds p := hA0
  rw [Tryf.params3] at hA hval
  obtain ⟨v0, vs0, d0, ds0, p0, q0, hargs, rfl, rfl, h0, r0⟩ := trodAll_cons hA
  obtain ⟨v1, vs1, d1, ds1, p1, q1, rfl, rfl, rfl, h1, r1⟩ := trodAll_cons r0
  obtain ⟨v2, vs2, d2, ds2, p2, q2, rfl, rfl, rfl, h2, r2⟩ := trodAll_cons r1
  obtain ⟨v3, vs3, d3, ds3, p3, q3, rfl, rfl, rfl, h3, r3⟩ := trodAll_cons r2
  obtain ⟨v4, vs4, d4, ds4, p4, q4, rfl, rfl, rfl, h4, r4⟩ := trodAll_cons r3
  obtain ⟨rfl, rfl, rfl⟩ := trodAll_nil r4
  obtain rfl : args = #[v0, v1, v2, v3, v4] := by cases args; simp_all
  obtain ⟨rfl, rfl⟩ := trodVars_none hV
  have k0 := h0
  have k1 := h1
  have k2 := h2
  have k3 := h3
  have k4 := h4
  have lt0 : ∀ x ∈ p0, x.block < W.heap.size := by obtain ⟨m, hm⟩ := k0; exact DataW.trod_lt m _ _ _ hm
  have lt1 : ∀ x ∈ p1, x.block < W.heap.size := by obtain ⟨m, hm⟩ := k1; exact DataW.trod_lt m _ _ _ hm
  have lt2 : ∀ x ∈ p2, x.block < W.heap.size := by obtain ⟨m, hm⟩ := k2; exact DataW.trod_lt m _ _ _ hm
  have lt3 : ∀ x ∈ p3, x.block < W.heap.size := by obtain ⟨m, hm⟩ := k3; exact DataW.trod_lt m _ _ _ hm
  have lt4 : ∀ x ∈ p4, x.block < W.heap.size := by obtain ⟨m, hm⟩ := k4; exact DataW.trod_lt m _ _ _ hm
  obtain ⟨a0, n0, c0, rfl⟩ := okWide_slice Tryf.underlying22 (hval 0 22 v0 rfl rfl)
  obtain ⟨a1, n1, c1, rfl⟩ := okWide_slice Tryf.underlying23 (hval 1 23 v1 rfl rfl)
  obtain ⟨hh, rfl, rfl, rfl, wh⟩ := open_int Tryf.underlying24 (hval 2 24 v2 rfl rfl) h2
  obtain ⟨pc, rfl⟩ : ∃ cs, v3 = .agg cs := by
    have := hval 3 25 v3 rfl rfl
    unfold Value.okWide at this
    rw [Tryf.underlying25] at this
    obtain ⟨cs, e, _⟩ := this
    exact ⟨cs, e⟩
  obtain ⟨pv, rfl⟩ : ∃ l : List Value, pc = l.toArray := ⟨pc.toList, by simp⟩
  obtain ⟨s, rfl, rfl, rfl, hs⟩ := open_string Tryf.underlying9 (hval 4 9 v4 rfl rfl) h4
  obtain ⟨b0, m0, e0, kss, ee, wK, wN, wM, wL⟩ : ∃ a l c kss, Value.slice a0 n0 c0 = .slice a l c ∧ KeysIs W a l kss ∧ (a = none → l = 0 ∧ c = 0) ∧ l ≤ maxLen ∧ ∀ j, j < l → (kss.getD j []).length ≤ maxLen := by
    obtain ⟨fuel, hf⟩ := h0
    exact keys_of hf
  obtain ⟨rfl, rfl, rfl⟩ : a0 = b0 ∧ n0 = m0 ∧ c0 = e0 := by simpa using ee
  obtain ⟨b1, m1, e1, ks, ee1, wB, wN1, wM1⟩ : ∃ a l c zs, Value.slice a1 n1 c1 = .slice a l c ∧ BytesIs W a l zs ∧ (a = none → l = 0 ∧ c = 0) ∧ l ≤ maxLen := by
    obtain ⟨fuel, hf⟩ := h1
    exact bytes_of hf
  obtain ⟨rfl, rfl, rfl⟩ : a1 = b1 ∧ n1 = m1 ∧ c1 = e1 := by simpa using ee1
  obtain ⟨hp1, hp2⟩ : pv.length = 32 ∧ ∀ v ∈ pv, v.oneCell' = true := by
    obtain ⟨fuel, hf⟩ := h3
    have hf' : DataW.trod enc Tryf.prog W 0 (fun _ => true) true fuel 25 pv = some (d3, p3) := by simpa [Value.cells] using hf
    exact arr_of hf'
  clear hA0 hval0
  refine (law_any a0 n0 c0 kss a1 n1 c1 ks hh pv s W wK wN wB wN1 wM wM1 hs wL hp1 hp2).mono fun e W' ⟨he, ho⟩ => ?_
  subst he
  have bel : Below W.heap.size W W' := ho.below (Nat.le_refl _) (by simp)
  exact ⟨_, rfl, _, _, _, [], _, [], hW', trodAll_mk1 (shut_bool Tryf.underlying4 _),
    (trodAll_cons_mk (Below.trod laidOut (by kernel_rfl) (of_decide_eq_true (by kernel_rfl)) k0 bel lt0)
      (trodAll_cons_mk (Below.trod laidOut (by kernel_rfl) (of_decide_eq_true (by kernel_rfl)) k1 bel lt1)
        (trodAll_cons_mk (shut_int Tryf.underlying24 wh)
          (trodAll_cons_mk (Below.trod laidOut (by kernel_rfl) (of_decide_eq_true (by kernel_rfl)) k3 bel lt3)
            (trodAll_cons_mk (shut_string Tryf.underlying9 hs) trodAll_mk0))))), rfl, bel.frame _, fun h => by cases h⟩

theorem proved : Rows.FnNewPBFTAcceptsExactlyTheIdsOfItsKeyToldSaid :=
  Claim7.holds_of_told_any 3 Tryf.f3 "fmt.errorf" [] [] _ _ _ (by kernel_rfl) rfl rfl rfl laidOut (by kernel_rfl) rfl ⟨rfl, rfl, rfl, rfl, rfl, rfl, rfl⟩ rfl rfl (by kernel_rfl) (by kernel_rfl) Tryf.func3 (by kernel_rfl)
    (of_decide_eq_true (by kernel_rfl)) (of_decide_eq_true (by kernel_rfl)) stops.symm rfl stopKnobs.symm (by kernel_rfl)
    (by kernel_rfl) (by kernel_rfl) (by kernel_rfl) (by kernel_rfl) (by kernel_rfl) (by kernel_rfl) (by kernel_rfl) (by kernel_rfl) (by kernel_rfl) rfl (by kernel_rfl) rfl rfl
    rfl rfl
    rfl (by kernel_rfl) (by kernel_rfl) (by kernel_rfl) (by decide) (by kernel_rfl)
    (OpenClaim.moreEntering_of (by kernel_rfl) (by kernel_rfl) (by kernel_rfl) (by kernel_rfl) (by kernel_rfl) (by kernel_rfl) (by kernel_rfl) (by kernel_rfl) (by kernel_rfl) (by kernel_rfl))
    ⟨_, WideRow.started_initial, quiet _⟩
    (fun os started _ H enc _ => lifted os started H enc)
#print axioms proved
end Go.Proofs.Qxb6616833aFmt.fnNewPBFTAcceptsExactlyTheIdsOfItsKey
