/- THE KEYS: what a [][]byte reads as; zzb1CloneKeys; the two bounds on total length. -/
import Derived.Test.Qxb6616833aFmtErr
namespace Go.Proofs.Qxb6616833aFmt
open Go.RowKit
set_option linter.unusedVariables false

/-- The j-th key: a slice value that reads as zs. -/
def KeyAt (w : World) (b o : Nat) (zs : List Int) : Prop := ∃ a l c, w.cell? ⟨b, o, none⟩ = some (.slice a l c) ∧ BytesIs w a l zs ∧ (a = none → l = 0 ∧ c = 0)
/-- A slice of slices of bytes at a, of length n, reads as kss. -/
def KeysIs (w : World) (a : Option Addr) (n : Nat) (kss : List (List Int)) : Prop :=
  kss.length = n ∧ (0 < n → ∃ b off, a = some ⟨b, off, none⟩ ∧ ∀ j, j < n → KeyAt w b (off + j) (kss.getD j []))
theorem KeyAt.only {w w' : World} {b o : Nat} {zs : List Int} (h : KeyAt w b o zs) (k : Only [] w w') : KeyAt w' b o zs := by
  obtain ⟨a, l, c, h1, h2, h3⟩ := h
  exact ⟨a, l, c, k.cell' h1, h2.only k, h3⟩
theorem KeysIs.only {w w' : World} {a : Option Addr} {n : Nat} {kss : List (List Int)} (h : KeysIs w a n kss) (o : Only [] w w') : KeysIs w' a n kss := by
  refine ⟨h.1, fun h0 => ?_⟩
  obtain ⟨b, off, e, hc⟩ := h.2 h0
  exact ⟨b, off, e, fun j hj => (hc j hj).only o⟩

/-- A slice value. -/
def IsSl (v : Value) : Prop := ∃ a l c, v = .slice a l c
theorem BytesIs.set_slice {w : World} {D i : Nat} {vs : List Value} {a : Option Addr} {l : Nat} {zs : List Int} (h : BytesIs w a l zs) (hB : Blk w D vs 23) (hs : ∀ v ∈ vs, IsSl v) (v : Value) : BytesIs (w.setCell ⟨D, i, none⟩ v) a l zs := by
  obtain ⟨h1, h2, h3⟩ := h
  refine ⟨h1, h2, fun h0 => ?_⟩
  obtain ⟨b, off, e, hc⟩ := h3 h0
  refine ⟨b, off, e, fun j hj => ?_⟩
  have hne : b ≠ D := by
    rintro rfl
    have := hc j hj
    rw [hB.cell] at this
    obtain ⟨x, y, z, hh⟩ := hs _ (List.mem_of_getElem? this)
    cases hh
  exact ((Only.refl [D] w).setCell (p := ⟨D, i, none⟩) (by simp) v).cell (hc j hj) (by simp; exact hne)

/-! ### make([][]byte, n) -/
def nils (n : Nat) : List Value := List.replicate n (.slice none 0 0)
theorem made_nils (n : Nat) : madeCells #[.slice none 0 0] n = (nils n).toArray := by
  apply Array.ext
  · simp [size_madeCells, nils]
  · intro i h1 h2
    simp [madeCells, nils, Nat.mod_one]
theorem info23 : (Tryf.prog.info? 23).map (fun i => (i.zero, i.size, i.bytes)) = some (some (.slice none 0 0), 1, 24) := by kernel_rfl
theorem run_make23 (n : Nat) (hn : n ≤ 1048576) (w : World) :
    (Instr.makeSlice 22 (.int .i64 n) (.int .i64 n)).run Tryf.prog w = .ok (.slice (some ⟨w.heap.size, 0, none⟩) n n) (w.alloc (.cells (nils n).toArray 23)) := by
  have := run_make_row' (P := Tryf.prog) 22 23 (.slice none 0 0) 24 Tryf.underlying22 info23 rfl .i64 .i64 n (by omega) (by omega) w
  rw [this, made_nils]

theorem store_cell {w w' : World} {D n k : Nat} {vs : List Value} {t : TypeId} (h : Blk w D vs t) (hn : vs.length = n) (o : Only [] w w') (hk : k < n) : ∃ v, w'.cell? ⟨D, k, none⟩ = some v := by
  have hk2 : k < vs.length := by omega
  exact ⟨vs[k], by rw [(o.blk' h).cell]; exact List.getElem?_eq_getElem hk2⟩
theorem store_free {w w' : World} {D : Nat} {vs : List Value} {t : TypeId} (h : Blk w D vs t) (o : Only [] w w') (k : Nat) : w'.frozen? ⟨D, k, none⟩ = false := (o.blk' h).frozen k

set_option maxHeartbeats 1000000 in
theorem cloneKeys_any (a : Option Addr) (n cap : Nat) (kss : List (List Int)) (w : World) (h : KeysIs w a n kss) (hcap : a = none → n = 0 ∧ cap = 0) (hn : n ≤ 65536) (hl : ∀ j, j < n → (kss.getD j []).length ≤ 1048576) :
    Calls Tryf.prog 8 #[.slice a n cap] w fun e w' => ∃ a' c', e = .returned (.slice a' n c') ∧ KeysIs w' a' n kss ∧ (a' = none → n = 0 ∧ c' = 0) ∧ Only [] w w' := by
  have hnil := fun w => Lib.run_eql_slice_nil (P := Tryf.prog) w 22 23 a n cap 0 0 Tryf.underlying22
  cases a with
  | none =>
    obtain ⟨rfl, rfl⟩ := hcap rfl
    have HH := hid h
    clear h hcap
    go_enter Tryf.func8, Tryf.ntmps8
    go_wp2
    go_ret
    refine ⟨none, 0, rfl, HH.out, by simp, Only.refl _ _⟩
  | some x =>
    have HK := hid h
    have HL := hid hl
    have hmk := run_make23 n (by omega)
    clear h hl hcap
    go_enter Tryf.func8, Tryf.ntmps8
    go_wp2
    obtain ⟨W, hW⟩ : ∃ W, W = w.alloc (.cells (nils n).toArray 23) := ⟨_, rfl⟩
    rw [← hW]
    obtain ⟨D, hD⟩ : ∃ D, D = w.heap.size := ⟨_, rfl⟩
    rw [← hD]
    have OW := hid (show Only [] w W by rw [hW]; exact (Only.refl _ _).alloc _)
    have BW := hid (show Blk W D (nils n) 23 by rw [hW, hD]; exact Blk.new _ _ _)
    have HD := hid hD
    have HDl := hid (show ∀ b o, KeyAt w b o [] → True from fun _ _ _ => trivial)
    clear hW hD hmk hnil HDl
    go_loopw [4] (fun i wr => ∃ k : Nat, k ≤ n ∧ i = .int .i64 k ∧ (∃ vs, vs.length = n ∧ Blk wr D vs 23 ∧ (∀ v ∈ vs, IsSl v) ∧ ∀ j, j < k → ∃ a l c, vs[j]? = some (.slice a l c) ∧ BytesIs wr a l (kss.getD j []) ∧ (a = none → l = 0 ∧ c = 0)) ∧ Only [D] W wr) (fun i _ => n - (intOf i).toNat)
    case atStart => exact ⟨0, Nat.zero_le _, rfl, ⟨nils n, by simp [nils], BW.out, fun v hv => ⟨_, _, _, List.eq_of_mem_replicate hv⟩, fun j hj => absurd hj (by omega)⟩, Only.refl _ _⟩
    case round =>
      obtain ⟨k, hk, rfl, ⟨vs, v1, v2, v3, v4⟩, O1⟩ := hrel
      by_cases hlt : k < n
      · obtain ⟨b, off, e, hc⟩ := HK.out.2 (by omega)
        obtain rfl := Option.some.inj e
        obtain ⟨ka, kl, kc, hcell, hbytes, hnl⟩ := hc k hlt
        have hbD : b ≠ D := by
          have hh : b < w.heap.size := World.block_lt_of_cell? _ _ hcell
          have := HD.out
          omega
        have cs : wr.cell? ⟨b, off + k, none⟩ = some (.slice ka kl kc) := O1.cell (OW.out.cell' hcell) (by simp; exact hbD)
        have HBY := hid (show BytesIs wr ka kl (kss.getD k []) by
          obtain ⟨q1, q2, q3⟩ := hbytes
          refine ⟨q1, q2, fun h0 => ?_⟩
          obtain ⟨b', off', e', hc'⟩ := q3 h0
          refine ⟨b', off', e', fun j hj => O1.cell (OW.out.cell' (hc' j hj)) ?_⟩
          have hh : b' < w.heap.size := World.block_lt_of_cell? _ _ (hc' j hj)
          have := HD.out
          simp; omega)
        have HNL := hid hnl
        have hkl : kl ≤ 1048576 := by have := HL.out k hlt; rw [hbytes.1] at this; exact this
        have V := hid (show vs.length = n ∧ Blk wr D vs 23 ∧ (∀ v ∈ vs, IsSl v) ∧ ∀ j, j < k → ∃ a l c, vs[j]? = some (.slice a l c) ∧ BytesIs wr a l (kss.getD j []) ∧ (a = none → l = 0 ∧ c = 0) from ⟨v1, v2, v3, v4⟩)
        have O2 := hid O1
        clear hc hcell hbytes hnl v1 v2 v3 v4 O1 e
        go_wp2_with (go_at_call 9; refine (clone_any ka kl kc _ _ HBY.out HNL.out hkl).mono ?_; rintro e w' ⟨na, nc, rfl, A1, A2, A3, A4, A5, A6⟩; obtain ⟨ov, cd⟩ := store_cell V.out.2.1 V.out.1 A6 hlt; have fd := store_free V.out.2.1 A6 k; replace A1 := hid A1; replace A2 := hid A2; replace A4 := hid A4; replace A6 := hid A6)
        obtain ⟨u1, u2, u3, u4⟩ := V.out
        have BB := A6.out.blk' u2
        refine ⟨⟨k + 1, by omega, by go_num, ⟨vs.set k (.slice na kl nc), by rw [List.length_set]; exact u1, BB.set k _, ?_, ?_⟩, ?_⟩, by simp [intOf]; omega⟩
        · intro v hv
          rcases List.mem_or_eq_of_mem_set hv with h | h
          · exact u3 v h
          · exact ⟨_, _, _, h⟩
        · intro j hj
          by_cases hjk : j = k
          · subst hjk
            refine ⟨na, kl, nc, by rw [List.getElem?_set_self (by omega)], A1.out.set_slice BB u3 _, fun h => ?_⟩
            have h0 := HNL.out (A2.out.1 h)
            exact ⟨h0.1, A4.out h⟩
          · obtain ⟨p1, p2, p3, p4, p5, p6⟩ := u4 j (by omega)
            exact ⟨p1, p2, p3, by rw [List.getElem?_set_ne (Ne.symm hjk)]; exact p4, (p5.only A6.out).set_slice BB u3 _, p6⟩
        · exact (O2.out.trans (A6.out.mono (by simp))).setCell (by simp) _
      · obtain rfl : k = n := by omega
        have V := hid (show vs.length = k ∧ Blk wr D vs 23 ∧ ∀ j, j < k → ∃ a l c, vs[j]? = some (.slice a l c) ∧ BytesIs wr a l (kss.getD j []) ∧ (a = none → l = 0 ∧ c = 0) from ⟨v1, v2, v4⟩)
        have O2 := hid O1
        clear v1 v2 v3 v4 O1
        go_wp2
        go_ret
        refine ⟨some ⟨D, 0, none⟩, k, rfl, ⟨HK.out.1, fun h0 => ⟨D, 0, rfl, fun j hj => ?_⟩⟩, by simp, OW.out.new O2.out (Nat.le_of_eq HD.out.symm)⟩
        obtain ⟨p1, p2, p3, p4, p5, p6⟩ := V.out.2.2 j hj
        exact ⟨p1, p2, p3, by rw [Nat.zero_add, V.out.2.1.cell]; exact p4, p5, p6⟩

/-! ### the bounds on total length -/
/-- It answers. -/
def SomeBool (e : Ending) : Prop := ∃ r, e = .returned (.bool r)
set_option maxRecDepth 100000 in
set_option maxHeartbeats 4000000 in
theorem bytes6_any (a b : Option Addr) (n cap m c2 : Nat) (kss : List (List Int)) (h : Int) (pv : Array Value) (s : ByteArray) (w : World) (hK : KeysIs w a n kss) (hs : s.size ≤ maxLen) (hm : m ≤ maxLen) (hn : n ≤ maxLen) (hkl : ∀ j, j < n → (kss.getD j []).length ≤ maxLen) :
    Calls Tryf.prog 6 #[.slice a n cap, .slice b m c2, .int .u64 h, .agg pv, .string s] w fun e w' => SomeBool e ∧ Only [] w w' := by
  have HK := hid hK
  have HKL := hid hkl
  clear hK hkl
  unfold maxLen at hs hm hn
  by_cases hn1 : n ≤ 1048576
  · have t1 : decide ((1048576 : Int) < (n : Int)) = false := by simp; omega
    go_enter Tryf.func6, Tryf.ntmps6
    go_wp2
    obtain ⟨W, hW⟩ : ∃ W, W = w.alloc (.cells pv 25) := ⟨_, rfl⟩
    rw [← hW]
    have OW := hid (show Only [] w W by rw [hW]; exact (Only.refl _ _).alloc _)
    clear hW
    go_loop [11, 12] (fun z i => ∃ k q : Nat, k ≤ n ∧ q ≤ 1048576 ∧ i = .int .i64 k ∧ z = .int .i64 q) (fun _ i => n - (intOf i).toNat)
    case atStart => exact ⟨0, n, by omega, by omega, rfl, rfl⟩
    case round =>
      obtain ⟨k, q, hk, hq, rfl, rfl⟩ := hrel
      by_cases hlt : k < n
      · obtain ⟨b1, off, rfl, hc⟩ := HK.out.2 (by omega)
        obtain ⟨ka, kl, kc, hcell, hby, _⟩ := hc k hlt
        have cs := OW.out.cell' hcell
        have hkl : kl ≤ 2 ^ 63 - 1 := by have := HKL.out k hlt; rw [hby.1] at this; exact this
        clear hc hcell hby
        by_cases h1 : kl ≤ 1048576
        · by_cases h2 : q + kl ≤ 1048576
          · go_wp2
            go_round
            case rel => exact ⟨k + 1, q + kl, by omega, by omega, by go_num, by go_num⟩
            case measure => simp [intOf]; omega
          · go_wp2
            go_ret
            exact ⟨⟨_, rfl⟩, OW.out⟩
        · go_wp2
          go_ret
          exact ⟨⟨_, rfl⟩, OW.out⟩
      · by_cases h1 : m ≤ 1048576
        · by_cases h2 : q + m ≤ 1048576
          · by_cases h3 : s.size ≤ 1048576
            · by_cases h4 : q + m + s.size ≤ 1048576
              · go_wp2
                go_ret
                exact ⟨⟨_, rfl⟩, OW.out⟩
              · go_wp2
                go_ret
                exact ⟨⟨_, rfl⟩, OW.out⟩
            · go_wp2
              go_ret
              exact ⟨⟨_, rfl⟩, OW.out⟩
          · go_wp2
            go_ret
            exact ⟨⟨_, rfl⟩, OW.out⟩
        · go_wp2
          go_ret
          exact ⟨⟨_, rfl⟩, OW.out⟩
  · go_enter Tryf.func6, Tryf.ntmps6
    go_wp2
    go_ret
    exact ⟨⟨_, rfl⟩, (Only.refl _ _).alloc _⟩

/-- zzb1OverBudget: it answers; where it says no, nothing is long. -/
def OverAns (P : Prop) (e : Ending) : Prop := ∃ r, e = .returned (.bool r) ∧ (r = false → P)
/-- Nothing is long. -/
def Short (n m sz : Nat) (kss : List (List Int)) : Prop := n ≤ 65536 ∧ m ≤ 1048576 ∧ sz ≤ 1048576 ∧ ∀ j, j < n → (kss.getD j []).length ≤ 1048576
set_option maxRecDepth 100000 in
set_option maxHeartbeats 4000000 in
theorem over_any (a b : Option Addr) (n cap m c2 : Nat) (kss : List (List Int)) (s : ByteArray) (w : World) (hK : KeysIs w a n kss) (hs : s.size ≤ maxLen) (hm : m ≤ maxLen) (hn : n ≤ maxLen) (hkl : ∀ j, j < n → (kss.getD j []).length ≤ maxLen) :
    Calls Tryf.prog 7 #[.slice a n cap, .slice b m c2, .string s, .string ⟨#[]⟩] w fun e w' => OverAns (Short n m s.size kss) e ∧ w = w' := by
  have HK := hid hK
  have HKL := hid hkl
  clear hK hkl
  unfold maxLen at hs hm hn
  by_cases g1 : n ≤ 65536
  · by_cases g2 : m ≤ 1048576
    · by_cases g3 : s.size ≤ 1048576
      · by_cases g4 : m + s.size ≤ 1048576
        · by_cases g5 : m + s.size + 24 * n ≤ 1048576
          · go_enter Tryf.func7, Tryf.ntmps7
            go_wp2
            go_loop [9, 10] (fun z i => ∃ k q : Nat, k ≤ n ∧ q ≤ 1048576 ∧ i = .int .i64 k ∧ z = .int .i64 q ∧ Hid (∀ j, j < k → (kss.getD j []).length ≤ 1048576)) (fun _ i => n - (intOf i).toNat)
            case atStart => exact ⟨0, m + s.size + 24 * n, by omega, by omega, rfl, by go_num, fun j hj => absurd hj (by omega)⟩
            case round =>
              obtain ⟨k, q, hk, hq, rfl, rfl, hall⟩ := hrel
              by_cases hlt : k < n
              · obtain ⟨b1, off, rfl, hc⟩ := HK.out.2 (by omega)
                obtain ⟨ka, kl, kc, hcell, hby, _⟩ := hc k hlt
                have hkl : kl ≤ 2 ^ 63 - 1 := by have := HKL.out k hlt; rw [hby.1] at this; exact this
                have HL := hid hby.1
                clear hc hby
                by_cases h1 : kl ≤ 1048576
                · by_cases h2 : q + kl ≤ 1048576
                  · go_wp2
                    go_round
                    case rel => exact ⟨k + 1, q + kl, by omega, by omega, by go_num, by go_num, fun j hj => by
                      by_cases e : j = k
                      · subst e; rw [HL.out]; exact h1
                      · exact hall.out j (by omega)⟩
                    case measure => simp [intOf]; omega
                  · go_wp2
                    go_ret
                    exact ⟨⟨true, rfl, fun h => by cases h⟩, rfl⟩
                · go_wp2
                  go_ret
                  exact ⟨⟨true, rfl, fun h => by cases h⟩, rfl⟩
              · obtain rfl : k = n := by omega
                go_wp2
                go_ret
                exact ⟨⟨false, rfl, fun _ => ⟨g1, g2, g3, hall.out⟩⟩, rfl⟩
          · go_enter Tryf.func7, Tryf.ntmps7
            go_wp2
            go_ret
            exact ⟨⟨true, rfl, fun h => by cases h⟩, rfl⟩
        · go_enter Tryf.func7, Tryf.ntmps7
          go_wp2
          go_ret
          exact ⟨⟨true, rfl, fun h => by cases h⟩, rfl⟩
      · go_enter Tryf.func7, Tryf.ntmps7
        go_wp2
        go_ret
        exact ⟨⟨true, rfl, fun h => by cases h⟩, rfl⟩
    · go_enter Tryf.func7, Tryf.ntmps7
      go_wp2
      go_ret
      exact ⟨⟨true, rfl, fun h => by cases h⟩, rfl⟩
  · go_enter Tryf.func7, Tryf.ntmps7
    go_wp2
    go_ret
    exact ⟨⟨true, rfl, fun h => by cases h⟩, rfl⟩
end Go.Proofs.Qxb6616833aFmt
