/- The arguments, opened. -/
import Derived.Test.Qxb6616833aFmtLaw
import Derived.ProofKit
import Derived.ChangeSlices
import Derived.Deep.Slices
import Derived.OpenShut
namespace Go.Proofs.Qxb6616833aFmt
open Go.RowKit Go.ChangeShapes
set_option linter.unusedVariables false

theorem spot_none {w : World} {a : Addr} {v : Value} (h : w.cell? a = some v) : a = ⟨a.block, a.off, none⟩ := by
  obtain ⟨b, o, s⟩ := a
  cases s with
  | none => rfl
  | some x =>
    unfold World.cell? at h
    split at h <;> simp at h
theorem add_zero' (a : Addr) : a.add 0 = a := rfl

theorem bytes_of {H : Type} {enc : TypeId × Value → H} {w : World} {base : Nat} {spare : Nat → Bool} {held : Bool} {fuel : Nat} {v : Value} {x : DataW H × List MemPlace} (h : DataW.trod enc Tryf.prog w base spare held fuel 23 [v] = some x) :
    ∃ a l c zs, v = .slice a l c ∧ BytesIs w a l zs ∧ (a = none → l = 0 ∧ c = 0) ∧ l ≤ maxLen := by
  rcases open_ints Tryf.underlying23 Tryf.underlying5 (by kernel_rfl) h with ⟨hcs, _⟩ | ⟨a, l, c, zs, hcs, _, hl, hm, hz, _, hcell, hwz⟩
  · simp at hcs
    exact ⟨none, 0, 0, [], hcs, ⟨rfl, fun z hz => absurd hz (by simp), fun h => absurd h (by omega)⟩, fun _ => ⟨rfl, rfl⟩, by decide⟩
  · simp at hcs
    have hzl : l ≤ zs.length := by rw [hz]; split <;> omega
    refine ⟨some a, l, c, zs.take l, hcs, ⟨by rw [List.length_take]; omega, fun z hz' => ?_, fun h0 => ?_⟩, fun h => (by cases h), by omega⟩
    · have := hwz z (List.mem_of_mem_take hz')
      simp [Lit.wf, IntKind.min, IntKind.max, IntKind.signed, IntKind.bits] at this
      omega
    · have h1 := hcell 0 (by omega)
      rw [add_zero'] at h1
      have h2 := spot_none h1
      refine ⟨a.block, a.off, by rw [← h2], fun j hj => ?_⟩
      have h3 := hcell j (by omega)
      rw [h2, add_at] at h3
      rw [h3]
      simp [List.getD_eq_getElem?_getD, hj]

theorem keys_of {H : Type} {enc : TypeId × Value → H} {w : World} {base : Nat} {spare : Nat → Bool} {held : Bool} {fuel : Nat} {v : Value} {x : DataW H × List MemPlace} (h : DataW.trod enc Tryf.prog w base spare held fuel 22 [v] = some x) :
    ∃ a l c kss, v = .slice a l c ∧ KeysIs w a l kss ∧ (a = none → l = 0 ∧ c = 0) ∧ l ≤ maxLen ∧ ∀ j, j < l → (kss.getD j []).length ≤ maxLen := by
  rcases Go.Deep.open_slice1 Tryf.underlying22 (by kernel_rfl) h with ⟨hcs, _⟩ | ⟨a, l, c, m, n, V, D, Pl, hcs, _, hl, hm, hmm, _, hx⟩
  · simp at hcs
    exact ⟨none, 0, 0, [], hcs, ⟨rfl, fun h => absurd h (by omega)⟩, fun _ => ⟨rfl, rfl⟩, by decide, fun j hj => absurd hj (by omega)⟩
  · simp at hcs
    have hlm : l ≤ m := by rw [hmm]; split <;> omega
    obtain ⟨f, hf⟩ := Go.Deep.choose_lt (α := List Int) (n := l) (p := fun i zs => (∃ b k d, V i = .slice b k d ∧ BytesIs w b k zs ∧ (b = none → k = 0 ∧ d = 0) ∧ k ≤ maxLen)) (fun i hi => by
      obtain ⟨b, k, d, zs, e1, e2, e3, e4⟩ := bytes_of (hx i (by omega)).2
      exact ⟨zs, b, k, d, e1, e2, e3, e4⟩)
    have hg : ∀ j, j < l → ((List.range l).map f).getD j [] = f j := by
      intro j hj
      simp [List.getD_eq_getElem?_getD, hj]
    refine ⟨some a, l, c, (List.range l).map f, hcs, ⟨by simp, fun h0 => ?_⟩, fun h => (by cases h), by omega, fun j hj => ?_⟩
    · have h1 := (hx 0 (by omega)).1
      rw [add_zero'] at h1
      have h2 := spot_none h1
      refine ⟨a.block, a.off, by rw [← h2], fun j hj => ?_⟩
      rw [hg j hj]
      obtain ⟨b, k, d, e1, e2, e3, e4⟩ := hf j hj
      have h3 := (hx j (by omega)).1
      rw [h2, add_at, e1] at h3
      exact ⟨b, k, d, h3, e2, e3⟩
    · rw [hg j hj]
      obtain ⟨b, k, d, e1, e2, e3, e4⟩ := hf j hj
      rw [e2.1]; exact e4

theorem arr_of {H : Type} {enc : TypeId × Value → H} {w : World} {base : Nat} {spare : Nat → Bool} {held : Bool} {fuel : Nat} {cs : List Value} {x : DataW H × List MemPlace} (h : DataW.trod enc Tryf.prog w base spare held fuel 25 cs = some x) :
    cs.length = 32 ∧ ∀ v ∈ cs, v.oneCell' = true := by
  obtain ⟨xs, m, _, _, h2, h3, h4⟩ := DataW.trod_array Tryf.underlying25 h
  have hc25 : Tryf.prog.cellsOf 25 = 32 := by kernel_rfl
  have hc5 : Tryf.prog.cellsOf 5 = 1 := by kernel_rfl
  rw [hc25] at h2
  rw [hc5] at h4
  refine ⟨h2, fun v hv => ?_⟩
  obtain ⟨i, hi, rfl⟩ := List.getElem_of_mem hv
  have h5 := h4 i (by omega)
  have hx : xs[i]? = some xs[i] := List.getElem?_eq_getElem (by omega)
  rw [hx, Nat.mul_one] at h5
  have h6 : (cs.drop i).take 1 = [cs[i]] := by
    rw [List.drop_eq_getElem_cons hi]; rfl
  rw [h6] at h5
  cases m with
  | zero => simp [DataW.trod] at h5
  | succ m =>
    generalize cs[i] = c at h5 ⊢
    unfold DataW.trod at h5
    rw [Tryf.underlying5] at h5
    cases c <;> first | rfl | (simp at h5)
end Go.Proofs.Qxb6616833aFmt
