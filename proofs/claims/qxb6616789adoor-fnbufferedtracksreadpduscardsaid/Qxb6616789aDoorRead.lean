/- (*smpp.Reader).Read. -/
import Derived.Test.Qxb6616789aDoorFull
namespace Go.Proofs.Qxb6616789aDoor
open Go.RowKit
set_option linter.unusedVariables false

/-- The package-level variables io.EOF and io.ErrUnexpectedEOF, below block B. -/
structure Glob (w : World) (B : Nat) (x1 x2 : Addr) : Prop where
  g1 : w.cell? ⟨1, 0, none⟩ = some (.iface 70 (.pointer (some x1)))
  g2 : w.cell? ⟨2, 0, none⟩ = some (.iface 70 (.pointer (some x2)))
  a1 : ∃ c t, w.heap[x1.block]? = some (.cells c t (0, 0))
  a2 : ∃ c t, w.heap[x2.block]? = some (.cells c t (0, 0))
  l0 : 2 < B
  l1 : x1.block < B
  l2 : x2.block < B
  l3 : B ≤ w.heap.size

theorem Glob.step {w w' : World} {B : Nat} {x1 x2 : Addr} {S : List Nat} (h : Glob w B x1 x2) (o : Only S w w') (hS : ∀ k ∈ S, B ≤ k) : Glob w' B x1 x2 := by
  have nm : ∀ k, k < B → k ∉ S := fun k hk hm => by have := hS k hm; omega
  have a0 := h.l0; have a1 := h.l1; have a2 := h.l2; have a3 := h.l3
  refine ⟨o.cell h.g1 (nm 1 (by omega)), o.cell h.g2 (nm 2 (by omega)), ?_, ?_, h.l0, h.l1, h.l2, Nat.le_trans h.l3 o.size⟩
  · rw [o.block _ (by omega) (nm _ a1)]; exact h.a1
  · rw [o.block _ (by omega) (nm _ a2)]; exact h.a2

/-- Two errors are the same or not: the comparison answers. -/
theorem eql_any {w : World} {B : Nat} {x1 x2 : Addr} (h : Glob w B x1 x2) : ∃ bb, (binOp .eql 36 (.iface 70 (.pointer (some x2))) (.iface 70 (.pointer (some x1)))).run Tryd.prog w = .ok (.bool bb) w := by
  by_cases e : x2 = x1
  · subst e; exact ⟨true, eql_same _ w⟩
  · obtain ⟨i, hi, hc⟩ := Option.map_eq_some_iff.1 comp70
    obtain ⟨j, hj, hsz⟩ := Option.map_eq_some_iff.1 size90
    obtain ⟨c1, t1, k1⟩ := h.a1
    obtain ⟨c2, t2, k2⟩ := h.a2
    exact ⟨false, run_eql_iface_ptr_other (P := Tryd.prog) w Tryd.underlying36 Tryd.underlying70 hi hc hj (by rw [hsz]; decide) e k2 k1⟩

theorem Only.trans_new {S S' : List Nat} {w a b : World} (h : Only S w a) (o : Only S' a b) (hn : ∀ k ∈ S', k ∈ S ∨ w.heap.size ≤ k) : Only S w b :=
  ⟨o.os.trans h.os, o.tape.trans h.tape, o.output.trans h.output, Nat.le_trans h.size o.size, fun k hk hs =>
    (o.block k (Nat.lt_of_lt_of_le hk h.size) fun e => (hn k e).elim hs (fun e => by omega)).trans (h.block k hk hs)⟩
theorem only_four (Z : Nat) (w : World) (v0 v1 v2 v3 : Value) : Only [Z] w ((((w.setCell ⟨Z, 0, none⟩ v0).setCell ⟨Z, 1, none⟩ v1).setCell ⟨Z, 2, none⟩ v2).setCell ⟨Z, 3, none⟩ v3) :=
  ((((Only.refl _ _).setCell (by simp) _).setCell (by simp) _).setCell (by simp) _).setCell (by simp) _

/-- No PDU. -/
def noPDU : Value := .agg #[.int .u32 0, .int .u32 0, .int .u32 0, .slice none 0 0]

theorem splice_hdr (b : Nat) (mx : Int) (hs cs : List Value) (h : hs.length = 16) (hc : cs.length ≤ 16) : ∃ hs', splice (RdC b mx hs) 2 cs = RdC b mx hs' ∧ hs'.length = 16 := by
  refine ⟨cs ++ hs.drop cs.length, ?_, by simp [h]; omega⟩
  simp [splice, RdC, Nat.add_comm 2]
theorem splice_hdr16 (b : Nat) (mx : Int) (hs cs : List Value) (h : hs.length = 16) (hc : cs.length = 16) : splice (RdC b mx hs) 2 cs = RdC b mx cs := by
  have : hs.drop cs.length = [] := List.drop_eq_nil_of_le (by omega)
  simp [splice, RdC, Nat.add_comm 2, this]

/-- The blocks of the reader lie in the heap, from block B on (the bytes may lie anywhere). -/
structure Lay.In (L : Lay) (B R N : Nat) : Prop where
  b0 : B ≤ L.b
  f0 : B ≤ L.bf
  s0 : B ≤ L.bs
  r0 : B ≤ R
  b1 : L.b < N
  f1 : L.bf < N
  s1 : L.bs < N
  d1 : L.bd < N
  r1 : R < N
  g1 : R ≠ L.b
  g2 : R ≠ L.bf
  g3 : R ≠ L.bs
  g4 : R ≠ L.bd
theorem Lay.In.mono {L : Lay} {B R N M : Nat} (h : L.In B R N) (k : N ≤ M) : L.In B R M :=
  ⟨h.b0, h.f0, h.s0, h.r0, Nat.lt_of_lt_of_le h.b1 k, Nat.lt_of_lt_of_le h.f1 k, Nat.lt_of_lt_of_le h.s1 k, Nat.lt_of_lt_of_le h.d1 k, Nat.lt_of_lt_of_le h.r1 k, h.g1, h.g2, h.g3, h.g4⟩
theorem Lay.In.all {L : Lay} {B R N : Nat} (h : L.In B R N) : ∀ k ∈ [R, L.b, L.bf, L.bs], B ≤ k := by
  intro k hk
  simp only [List.mem_cons, List.not_mem_nil, or_false] at hk
  rcases hk with rfl | rfl | rfl | rfl
  · exact h.r0
  · exact h.b0
  · exact h.f0
  · exact h.s0

theorem St.only {w w' : World} {L : Lay} {zs : List Int} {S : List Nat} (h : St w L zs) (o : Only S w w') (n1 : L.b ∉ S) (n2 : L.bf ∉ S) (n3 : L.bs ∉ S) (n4 : L.bd ∉ S) : St w' L zs :=
  h.elim (fun h => .inl (h.only o n1 n2 n3 n4)) (fun h => .inr (h.only o n1 n2 n3))

set_option maxRecDepth 100000 in
set_option maxHeartbeats 2000000 in
/-- The header does not come whole. -/
theorem read_nohdr (L : Lay) (ok : L.Ok) (B R : Nat) (mx : Int) (hs : List Value) (inp : List Int) (x1 x2 : Addr) (w : World)
    (hR : Blk w R (RdC L.b mx hs) 47) (hhs : hs.length = 16) (hS : St w L inp) (hG : Glob w B x1 x2) (hin : L.In B R w.heap.size) (hlen : inp.length < 16) :
    Calls Tryd.prog 10 #[.pointer (some ⟨R, 0, none⟩)] w fun e w' => (∃ T x, e = .returned (.tuple #[noPDU, .iface T x])) ∧ Loaded w' L [] ∧ (∃ hs', Blk w' R (RdC L.b mx hs') 47 ∧ hs'.length = 16) ∧ Only [R, L.b, L.bf, L.bs] w w' := by
  have c0 := hR.cell 0
  have c1 := hR.cell 1
  simp only [RdC, List.getElem?_cons_succ, List.getElem?_cons_zero] at c0 c1
  have hlt : R < w.heap.size := hR.lt
  have HS := hid hS
  have HR := hid hR
  have HG := hid hG
  have HIN := hid hin
  clear hS hR hG hin
  go_enter Tryd.func10, Tryd.ntmps10
  go_wp2
  obtain ⟨W, hW⟩ : ∃ W, W = w.alloc (.cells #[.int .u32 0, .int .u32 0, .int .u32 0, .slice none 0 0] 34) := ⟨_, rfl⟩
  rw [← hW]
  obtain ⟨Z, hZ⟩ : ∃ Z, Z = w.heap.size := ⟨_, rfl⟩
  rw [← hZ]
  have OW := hid (show Only [] w W by rw [hW]; exact (Only.refl _ _).alloc _)
  have ZW := hid (show Blk W Z [.int .u32 0, .int .u32 0, .int .u32 0, .slice none 0 0] 34 by rw [hW, hZ]; exact Blk.new _ _ _)
  have RW := hid (OW.out.blk HR.out (by simp))
  have SW := hid (HS.out.only OW.out (by simp) (by simp) (by simp) (by simp))
  have GW := hid (HG.out.step OW.out (by simp))
  have ZN := hid (show Z ≠ R ∧ Z ≠ L.b ∧ Z ≠ L.bf ∧ Z ≠ L.bs by
    have h1 := HIN.out.r1; have h2 := HIN.out.b1; have h3 := HIN.out.f1; have h4 := HIN.out.s1
    exact ⟨by omega, by omega, by omega, by omega⟩)
  have HZ := hid hZ
  clear c0 c1 hW HR HS HG hlt hZ
  have c0 := RW.out.cell 0
  simp only [RdC, List.getElem?_cons_zero] at c0
  go_cut [5] (fun s5 wc => (∃ x, s5 = .iface 70 (.pointer (some x))) ∧ Loaded wc L [] ∧ (∃ hs', Blk wc R (RdC L.b mx hs') 47 ∧ hs'.length = 16) ∧ Only [R, L.b, L.bf, L.bs] W wc)
  case first =>
    by_cases hne : 0 < inp.length
    · go_region_with (go_at_call 16; refine (rf_short L ok inp R 2 16 16 (RdC L.b mx hs) 47 x1 x2 _ ((by exact SW.out) : St _ L inp) (by exact RW.out) hlen hne (.inr (by omega)) (by simp [RdC, hhs]) (by omega) (by omega) HIN.out.g1 HIN.out.g2 HIN.out.g3 HIN.out.g4 (by have := HIN.out.r0; have := GW.out.l0; omega) (by have := HIN.out.r0; have := GW.out.l0; omega) (by exact GW.out.g1) (by exact GW.out.g2)).mono ?_; rintro e w' ⟨rfl, A1, A2, A3⟩; replace A1 := hid A1; replace A2 := hid A2; replace A3 := hid A3)
      all_goals
        go_wp2
        go_meet
        case rel =>
          refine ⟨⟨_, rfl⟩, A1.out, ?_, Only.trans (by repeat (first | exact Only.refl _ _ | apply Only.drewN | apply Only.drew)) A3.out⟩
          obtain ⟨hs', e1, e2⟩ := splice_hdr L.b mx hs (bytesC inp) hhs (by rw [bytesC_length]; omega)
          exact ⟨hs', by rw [← e1]; exact A2.out, e2⟩
    · have hnil : inp = [] := List.eq_nil_of_length_eq_zero (by omega)
      have SL := hid (show Loaded W L [] by
        have h := SW.out
        rw [hnil] at h
        exact h.resolve_left (fun h => absurd h.1 (by simp)))
      clear hnil
      go_region_with (go_at_call 16; refine (rf_none L ok _ 16 16 x1 _ ((by exact SL.out) : Loaded _ L []) (by exact GW.out.g1) (by omega) (by omega) (by omega)).mono ?_; rintro e w' ⟨rfl, A1, A3⟩; replace A1 := hid A1; replace A3 := hid A3)
      all_goals
        go_wp2
        go_meet
        case rel =>
          have O2 : Only [L.b] W w' := Only.trans (by repeat (first | exact Only.refl _ _ | apply Only.drewN | apply Only.drew)) A3.out
          exact ⟨⟨_, rfl⟩, A1.out, ⟨hs, O2.blk RW.out (by simp; exact HIN.out.g1), hhs⟩, O2.mono (by simp)⟩
  case rest =>
    obtain ⟨⟨x, rfl⟩, R1, R2, R3⟩ := hcut
    have Z2 := hid (R3.blk ZW.out (by simp; exact ZN.out))
    have z0 := Z2.out.cell 0
    have z1 := Z2.out.cell 1
    have z2 := Z2.out.cell 2
    have z3 := Z2.out.cell 3
    have y0 := Z2.out.frozen 0
    have y1 := Z2.out.frozen 1
    have y2 := Z2.out.frozen 2
    have y3 := Z2.out.frozen 3
    simp only [List.getElem?_cons_succ, List.getElem?_cons_zero] at z0 z1 z2 z3
    replace R1 := hid R1
    replace R2 := hid R2
    replace R3 := hid R3
    go_wp2
    refine bodyPost_ret (v := .tuple #[.agg #[.int .u32 0, .int .u32 0, .int .u32 0, .slice none 0 0], .iface 70 (.pointer (some x))]) ?_ rfl ?_
    · simp [results, Tryd.results10, go_sem, z0, z1, z2, z3]
    · have F := only_four Z wc (.int .u32 0) (.int .u32 0) (.int .u32 0) (.slice none 0 0)
      obtain ⟨n1, n2, n3, n4⟩ := ZN.out
      obtain ⟨hs', A, A'⟩ := R2.out
      exact ⟨⟨_, _, rfl⟩, R1.out.only F (by simp; exact Ne.symm n2) (by simp; exact Ne.symm n3) (by simp; exact Ne.symm n4), ⟨hs', F.blk A (by simp; exact Ne.symm n1), A'⟩,
        Only.trans_new ((OW.out.mono (by simp)).trans R3.out) F (by simp; exact .inr (Nat.le_of_eq HZ.out.symm))⟩
end Go.Proofs.Qxb6616789aDoor
