/- NewPBFT, ZZB1NewPBFT. -/
import Derived.Test.Qxb6616833aFmtNew
namespace Go.Proofs.Qxb6616833aFmt
open Go.RowKit
set_option linter.unusedVariables false

/-- What NewPBFT answers: a pointer to a replica of process id, no error; or no pointer, an error. -/
def PbfAns (ok : Bool) (id : Int) (e : Ending) (w' : World) : Prop :=
  (ok = true ∧ ∃ g, e = .returned (.tuple #[.pointer (some ⟨g, 0, none⟩), .nilIface]) ∧ w'.cell? ⟨g, 0, none⟩ = some (.int .i64 id)) ∨ (ok = false ∧ ∃ x, e = .returned (.tuple #[.pointer none, .iface 73 x]))

theorem rep_true {id : Int} {e : Ending} {w w' : World} (h : RepAns true id e ∧ Only [] w w') : ∃ cs : List Value, e = .returned (.tuple #[.agg cs.toArray, .nilIface]) ∧ RepC cs ∧ cs[0]? = some (.int .i64 id) ∧ Only [] w w' := by
  obtain ⟨⟨cs, h1, h2⟩, o⟩ := h
  rcases h2 with ⟨_, h2, h3⟩ | ⟨h2, _⟩
  · exact ⟨cs, h2, h1, h3, o⟩
  · exact absurd h2 (by decide)
theorem rep_false {id : Int} {e : Ending} {w w' : World} (h : RepAns false id e ∧ Only [] w w') : ∃ (cs : List Value) (x : Value), e = .returned (.tuple #[.agg cs.toArray, .iface 73 x]) ∧ RepC cs ∧ Only [] w w' := by
  obtain ⟨⟨cs, h1, h2⟩, o⟩ := h
  rcases h2 with ⟨h2, _⟩ | ⟨_, x, h2⟩
  · exact absurd h2 (by decide)
  · exact ⟨cs, x, h2, h1, o⟩

set_option maxRecDepth 100000 in
set_option maxHeartbeats 4000000 in
theorem pbft_any (a : Option Addr) (n cap : Nat) (kss : List (List Int)) (id : Int) (ka : Option Addr) (m kc : Nat) (ks : List Int) (bc : List Value) (h : Int) (s : ByteArray) (w : World)
    (hK : KeysIs w a n kss) (hn : n ≤ 65536) (hid0 : 0 ≤ id) (hid1 : id ≤ 70000) (hP : PrivIs w ka m kc ks) (hs : s.size ≤ 1048576) (hl : ∀ j, j < n → (kss.getD j []).length ≤ 1048576) (hb : BloC bc h s) :
    Calls Tryf.prog 19 #[.slice a n cap, .int .i64 id, .slice ka m kc, .agg bc.toArray, .slice none 0 0] w fun e w' => PbfAns (comB kss id ks h s.size) id e w' ∧ Only [] w w' := by
  have HC := hid (fun (wx : World) (o : Only [] w wx) => rep_any a n cap kss id ka m kc ks bc h s wx (hK.only o) hn hid0 hid1 (hP.only o) hs hl hb)
  have HBC := hid hb
  have hq := neq38
  generalize comB kss id ks h s.size = R at *
  clear hK hP hl hb
  cases R with
  | false =>
    go_enter Tryf.func19, Tryf.ntmps19
    go_wp2_with (first
      | (refine st_box rfl 34 _ rfl bc rfl ?_; intro W1 g1 l1 o1 b1; have O1 := hid o1; have B1 := hid b1; clear o1 b1 l1)
      | (refine st_load rfl 34 _ rfl g1 rfl bc 34 (by exact B1.out) _ Tryf.underlying34 rfl (by rw [HBC.out.len]; exact size34) ?_)
      | (go_at_call 21; refine (HC.out _ O1.out).mono ?_; intro e w2 hA; obtain ⟨cs, x, rfl, h1, o2⟩ := rep_false hA; have HCS := hid h1; have O2 := hid (O1.out.trans o2); clear hA h1 o2)
      | (refine st_alloc rfl 57 rfl z57 zero57 ?_; intro W3 g3 l3 o3 b3; have O3 := hid (O2.out.trans o3); have B3 := hid b3; have L3 := hid (Nat.le_trans O2.out.size l3); clear o3 b3 l3)
      | (refine st_store rfl 57 _ _ rfl g3 rfl cs rfl z57 57 (by exact B3.out) (by rw [HCS.out.len]; exact size57) (by rw [HCS.out.len]; exact z57_length) (by exact HCS.out.one) ?_; intro W4 o4 b4; have O4 := hid (O3.out.new o4 L3.out); have B4 := hid b4; clear o4 b4 B3))
    go_ret2
    exact ⟨Or.inr ⟨rfl, x, rfl⟩, O4.out⟩
  | true =>
    go_enter Tryf.func19, Tryf.ntmps19
    go_wp2_with (first
      | (refine st_box rfl 34 _ rfl bc rfl ?_; intro W1 g1 l1 o1 b1; have O1 := hid o1; have B1 := hid b1; clear o1 b1 l1)
      | (refine st_load rfl 34 _ rfl g1 rfl bc 34 (by exact B1.out) _ Tryf.underlying34 rfl (by rw [HBC.out.len]; exact size34) ?_)
      | (go_at_call 21; refine (HC.out _ O1.out).mono ?_; intro e w2 hA; obtain ⟨cs, rfl, h1, h2, o2⟩ := rep_true hA; obtain ⟨ds, hd⟩ := built59_rep cs h1; have HD := hid hd; have HCS := hid h1; have HC0 := hid h2; have O2 := hid (O1.out.trans o2); clear hA h1 h2 o2 hd)
      | (refine st_alloc rfl 57 rfl z57 zero57 ?_; intro W3 g3 l3 o3 b3; have O3 := hid (O2.out.trans o3); have B3 := hid b3; have L3 := hid (Nat.le_trans O2.out.size l3); clear o3 b3 l3)
      | (refine st_store rfl 57 _ _ rfl g3 rfl cs rfl z57 57 (by exact B3.out) (by rw [HCS.out.len]; exact size57) (by rw [HCS.out.len]; exact z57_length) (by exact HCS.out.one) ?_; intro W4 o4 b4; have O4 := hid (O3.out.new o4 L3.out); have B4 := hid b4; clear o4 b4 B3)
      | (refine st_load rfl 57 _ rfl g3 rfl cs 57 (by exact B4.out) _ Tryf.underlying57 rfl (by rw [HCS.out.len]; exact size57) ?_)
      | (refine st_build rfl 59 _ rfl [(0, .agg cs.toArray)] (by simp [Act.eval]; rfl) ds (by exact HD.out.1) ?_)
      | (refine st_box rfl 59 _ rfl ds rfl ?_; intro W5 g5 l5 o5 b5; have O5 := hid (O4.out.trans o5); have B5 := hid b5; clear o5 b5 l5))
    go_ret2
    exact ⟨Or.inl ⟨rfl, g5, rfl, by rw [B5.out.cell, HD.out.2.2]; exact HC0.out⟩, O5.out⟩

/-! ### ZZB1NewPBFT -/
theorem pbf_pair {R : Bool} {id : Int} {e : Ending} {w : World} (h : PbfAns R id e w) : ∃ p x, e = .returned (.tuple #[p, x]) := by
  rcases h with ⟨_, g, h, _⟩ | ⟨_, x, h⟩
  · exact ⟨_, _, h⟩
  · exact ⟨_, _, h⟩
theorem neq22_some (x : Addr) (n c : Nat) (w : World) : (binOp .neq 22 (.slice (some x) n c) (.slice none 0 0)).run Tryf.prog w = .ok (.bool true) w := by kernel_rfl
theorem neq22_none (w : World) : (binOp .neq 22 (.slice none 0 0) (.slice none 0 0)).run Tryf.prog w = .ok (.bool false) w := by kernel_rfl
theorem info48 : (Tryf.prog.info? 48).map (fun i => (i.zero, i.size, i.bytes)) = some (some (.slice none 0 0), 1, 24) := by kernel_rfl
theorem st_make47 {ops : Array Oper} {rest : List Oper} {o : Oper} {a : Act} {w : World} {Q : Exit → Act → World → Prop} (hg : o.guard = none) (x y : Operand) (ho : o.op = .makeSlice 47 x y) (n : Nat) (hn : n ≤ 65536)
    (hx : a.eval x = .int .i64 n) (hy : a.eval y = .int .i64 n) (h : ∀ W D, w.heap.size ≤ D → Only [] w W → Blk W D (nils n) 48 → wpList Tryf.prog ops Q rest (a.put o.dst (.slice (some ⟨D, 0, none⟩) n n)) W) : wpList Tryf.prog ops Q (o :: rest) a w := by
  refine wpList_plain hg fun K hK => ?_
  have := run_make_row' (P := Tryf.prog) 47 48 (.slice none 0 0) 24 Tryf.underlying47 info48 rfl .i64 .i64 n (by omega) (by omega) w
  rw [made_nils] at this
  unfold Oper.wp execOp
  simp only [ho, hx, hy, Sem.run_bind, this, Sem.run_pure, Result.andThen_ok]
  exact hK _ _ (h _ _ (Nat.le_refl _) ((Only.refl _ _).alloc _) (Blk.new _ _ _))
/-- The world in the copying loop. -/
structure CpC (w wr : World) (D g1 : Nat) (bc : List Value) (b off n k : Nat) : Prop where
  o : Only [] w wr
  b1 : Blk wr g1 bc 34
  bD : ∃ vs : List Value, vs.length = n ∧ Blk wr D vs 48 ∧ ∀ j, j < k → vs[j]? = w.cell? ⟨b, off + j, none⟩
theorem CpC.cell {w wr : World} {D g1 : Nat} {bc : List Value} {b off n k : Nat} (h : CpC w wr D g1 bc b off n k) (hk : k < n) : ∃ v, wr.cell? ⟨D, k, none⟩ = some v := by
  obtain ⟨vs, h1, h2, h3⟩ := h.bD
  have hk2 : k < vs.length := by rw [h1]; exact hk
  exact ⟨vs[k], by rw [h2.cell]; exact List.getElem?_eq_getElem hk2⟩
theorem CpC.free {w wr : World} {D g1 : Nat} {bc : List Value} {b off n k : Nat} (h : CpC w wr D g1 bc b off n k) : wr.frozen? ⟨D, k, none⟩ = false := by
  obtain ⟨vs, h1, h2, h3⟩ := h.bD
  exact h2.frozen k
theorem CpC.set {w wr : World} {D g1 : Nat} {bc : List Value} {b off n k : Nat} (h : CpC w wr D g1 bc b off n k) (hk : k < n) (lD : w.heap.size ≤ D) (hn : g1 ≠ D) (v : Value) (hv : w.cell? ⟨b, off + k, none⟩ = some v) :
    CpC w (wr.setCell ⟨D, k, none⟩ v) D g1 bc b off n (k + 1) := by
  obtain ⟨vs, h1, h2, h3⟩ := h.bD
  refine ⟨h.o.new ((Only.refl [D] _).setCell (by simp) _) lD, h.b1.set_other _ _ hn, vs.set k v, by rw [List.length_set]; exact h1, h2.set k v, fun j hj => ?_⟩
  by_cases e : j = k
  · subst e
    rw [List.getElem?_set_self (by omega), hv]
  · rw [List.getElem?_set_ne (Ne.symm e)]
    exact h3 j (by omega)
theorem CpC.keys {w wr : World} {D g1 : Nat} {bc : List Value} {b off n : Nat} {kss : List (List Int)} (h : CpC w wr D g1 bc b off n n) {x : Addr} (hx : 0 < n → x = ⟨b, off, none⟩) (hk : KeysIs w (some x) n kss) : KeysIs wr (some ⟨D, 0, none⟩) n kss := by
  refine ⟨hk.1, fun h0 => ⟨D, 0, rfl, fun j hj => ?_⟩⟩
  obtain rfl := hx h0
  obtain ⟨b', off', e, hc⟩ := hk.2 h0
  obtain ⟨rfl, rfl⟩ : b' = b ∧ off' = off := by
    have := Option.some.inj e
    simp at this
    exact ⟨this.1.symm, this.2.symm⟩
  obtain ⟨vs, h1, h2, h3⟩ := h.bD
  obtain ⟨a, l, c, e1, e2, e3⟩ := hc j hj
  exact ⟨a, l, c, by rw [Nat.zero_add, h2.cell, h3 j hj]; exact e1, e2.only h.o, e3⟩

set_option maxRecDepth 100000 in
set_option maxHeartbeats 4000000 in
theorem zz_any (a : Option Addr) (n cap : Nat) (kss : List (List Int)) (id : Int) (ka : Option Addr) (m kc : Nat) (ks : List Int) (bc : List Value) (h : Int) (s : ByteArray) (w : World)
    (hK : KeysIs w a n kss) (hcap : a = none → n = 0 ∧ cap = 0) (hn : n ≤ 65536) (hid0 : 0 ≤ id) (hid1 : id ≤ 70000) (hP : PrivIs w ka m kc ks) (hs : s.size ≤ 1048576) (hl : ∀ j, j < n → (kss.getD j []).length ≤ 1048576) (hb : BloC bc h s) :
    Calls Tryf.prog 12 #[.slice a n cap, .int .i64 id, .slice ka m kc, .agg bc.toArray] w fun e w' => PbfAns (comB kss id ks h s.size) id e w' ∧ Only [] w w' := by
  have HC := hid (fun (wx : World) (ax : Option Addr) (cx : Nat) (o : Only [] w wx) (hx : KeysIs wx ax n kss) => pbft_any ax n cx kss id ka m kc ks bc h s wx hx hn hid0 hid1 (hP.only o) hs hl hb)
  have HBC := hid hb
  have HK := hid hK
  have q1 := neq22_some
  have q2 := neq22_none
  generalize comB kss id ks h s.size = R at *
  clear hP hl hb hK
  cases a with
  | none =>
    obtain ⟨rfl, rfl⟩ := hcap rfl
    clear hcap
    go_enter Tryf.func12, Tryf.ntmps12
    go_wp2_with (first
      | (refine st_box rfl 34 _ rfl bc rfl ?_; intro W1 g1 l1 o1 b1; have O1 := hid o1; have B1 := hid b1; clear o1 b1 l1)
      | (refine st_load rfl 34 _ rfl g1 rfl bc 34 (by exact B1.out) _ Tryf.underlying34 rfl (by rw [HBC.out.len]; exact size34) ?_)
      | (go_at_call 19; refine (HC.out _ none 0 O1.out (HK.out.only O1.out)).mono ?_; intro e w2 hA; obtain ⟨p, x, rfl⟩ := pbf_pair hA.1; have HA := hid hA; clear hA))
    go_ret2
    exact ⟨HA.out.1, O1.out.trans HA.out.2⟩
  | some x =>
    obtain ⟨b, off, hx⟩ : ∃ b off, 0 < n → x = ⟨b, off, none⟩ := by
      by_cases h0 : 0 < n
      · obtain ⟨b, off, e, _⟩ := HK.out.2 h0
        exact ⟨b, off, fun _ => Option.some.inj e⟩
      · exact ⟨0, 0, fun h => absurd h h0⟩
    have HX := hid hx
    clear hx
    clear hcap
    go_enter Tryf.func12, Tryf.ntmps12
    go_wp2_with (first
      | (refine st_box rfl 34 _ rfl bc rfl ?_; intro W1 g1 l1 o1 b1; have O1 := hid o1; have B1 := hid b1; clear o1 b1 l1)
      | (refine st_make47 rfl _ _ rfl n (by omega) rfl rfl ?_; intro W2 D l2 o2 b2; have LD := hid (Nat.le_trans O1.out.size l2); have ND := hid (show g1 ≠ D from Nat.ne_of_lt (Nat.lt_of_lt_of_le B1.out.lt l2)); have C := hid (show CpC w W2 D g1 bc b off n 0 from ⟨O1.out.trans o2, o2.blk' B1.out, nils n, by simp [nils], b2, fun j hj => absurd hj (by omega)⟩); clear l2 o2 b2 O1 B1))
    go_loopw [11] (fun v wr => ∃ k : Nat, k ≤ n ∧ v = .int .i64 k ∧ Hid (CpC w wr D g1 bc b off n k)) (fun v _ => n - (intOf v).toNat)
    case atStart => exact ⟨0, Nat.zero_le _, rfl, C.out⟩
    case round =>
      obtain ⟨k, hk, rfl, CR⟩ := hrel
      clear C
      by_cases hlt : k < n
      · obtain rfl := HX.out (by omega)
        obtain ⟨b', off', e, hc⟩ := HK.out.2 (by omega)
        obtain ⟨rfl, rfl⟩ : b' = b ∧ off' = off := by
          have := Option.some.inj e
          simp at this
          exact ⟨this.1.symm, this.2.symm⟩
        obtain ⟨xa, xl, xc, hw, _, _⟩ := hc k hlt
        have HW := hid hw
        have hcell := CR.out.o.cell' hw
        obtain ⟨ov, cd⟩ := CR.out.cell hlt
        have fd := CR.out.free
        clear hc hw e
        go_wp2
        go_roundw
        case rel => exact ⟨k + 1, by omega, by go_num, CR.out.set hlt LD.out ND.out _ HW.out⟩
        case measure => simp [intOf]; omega
      · obtain rfl : k = n := by omega
        go_wp2_with (first
          | (refine st_load rfl 34 _ rfl g1 rfl bc 34 (by exact CR.out.b1) _ Tryf.underlying34 rfl (by rw [HBC.out.len]; exact size34) ?_)
          | (go_at_call 19; refine (HC.out _ (some ⟨D, 0, none⟩) k CR.out.o (CR.out.keys HX.out HK.out)).mono ?_; intro e w2 hA; obtain ⟨p, x, rfl⟩ := pbf_pair hA.1; have HA := hid hA; clear hA))
        go_ret2
        exact ⟨HA.out.1, CR.out.o.trans HA.out.2⟩
end Go.Proofs.Qxb6616833aFmt
