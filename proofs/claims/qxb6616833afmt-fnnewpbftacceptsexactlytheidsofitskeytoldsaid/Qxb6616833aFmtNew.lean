/- newReplica. -/
import Derived.Test.Qxb6616833aFmtBlo
import Derived.Deep.DeepCutAuto
import Derived.Deep.RegionHeld3
namespace Go.Proofs.Qxb6616833aFmt
open Go.RowKit
set_option linter.unusedVariables false

/-- The world on the way: the block boxed at g1, the result's cell at g2. -/
structure Cur (w W : World) (g1 g2 : Nat) (bc : List Value) : Prop where
  o : Only [] w W
  b1 : Blk W g1 bc 34
  b2 : Blk W g2 z57 57
  l2 : w.heap.size ≤ g2
theorem Cur.only {w W W' : World} {g1 g2 : Nat} {bc : List Value} (h : Cur w W g1 g2 bc) (o : Only [] W W') : Cur w W' g1 g2 bc := ⟨h.o.trans o, o.blk' h.b1, o.blk' h.b2, h.l2⟩
theorem res21 (cs : List Value) (v : Value) (tmps : Array Value) (w : World) (g : Nat) (t : TypeId) (hp : tmps.getD 10 undef = .pointer (some ⟨g, 0, none⟩)) (hv : tmps.getD 11 undef = v) (hB : Blk w g cs t) (hc : cs.length = 85) :
    (results Tryf.f21 tmps).run Tryf.prog w = .ok (.tuple #[.agg cs.toArray, v]) w := by
  have hp' : tmps[10]?.getD undef = .pointer (some ⟨g, 0, none⟩) := by simpa using hp
  have hv' : tmps[11]?.getD undef = v := by simpa using hv
  simp [results, Tryf.results21, hp', hv', asAddr, run_loadVar_row w g t 57 cs.toArray (0,0) _ hB Tryf.underlying57 rfl (by rw [size57]; simp [hc])]
/-- What newReplica answers. -/
def RepAns (ok : Bool) (id : Int) (e : Ending) : Prop := ∃ cs : List Value, RepC cs ∧ ((ok = true ∧ e = .returned (.tuple #[.agg cs.toArray, .nilIface]) ∧ cs[0]? = some (.int .i64 id)) ∨ (ok = false ∧ ∃ x, e = .returned (.tuple #[.agg cs.toArray, .iface 73 x])))
theorem neq38 (x : Value) (w : World) : (binOp .neq 38 (.iface 73 x) .nilIface).run Tryf.prog w = .ok (.bool true) w := by kernel_rfl

theorem info103 : (Tryf.prog.info? 103).map (fun i => (i.zero, i.size, i.bytes)) = some (some (.pointer none), 1, 8) := by kernel_rfl
theorem st_make54 {ops : Array Oper} {rest : List Oper} {o : Oper} {a : Act} {w : World} {Q : Exit → Act → World → Prop} (hg : o.guard = none) (x y : Operand) (ho : o.op = .makeSlice 54 x y) (n : Nat) (hn : n ≤ 65536)
    (hx : a.eval x = .int .i64 n) (hy : a.eval y = .int .i64 n) (h : ∀ W b, Only [] w W → wpList Tryf.prog ops Q rest (a.put o.dst (.slice (some ⟨b, 0, none⟩) n n)) W) : wpList Tryf.prog ops Q (o :: rest) a w := by
  refine wpList_plain hg fun K hK => ?_
  have := run_make_row' (P := Tryf.prog) 54 103 (.pointer none) 8 Tryf.underlying54 info103 rfl .i64 .i64 n (by omega) (by omega) w
  unfold Oper.wp execOp
  simp only [ho, hx, hy, Sem.run_bind, this, Sem.run_pure, Result.andThen_ok]
  exact hK _ _ (h _ _ ((Only.refl _ _).alloc _))
/-- The world in the last loop. -/
structure LoopC (w wr : World) (g2 g3 : Nat) (id : Int) : Prop where
  o : Only [] w wr
  b2 : Blk wr g2 z57 57
  b3 : ∃ vs : List Value, RepC vs ∧ vs[0]? = some (.int .i64 id) ∧ Blk wr g3 vs 57
theorem LoopC.only {w W W' : World} {g2 g3 : Nat} {id : Int} (h : LoopC w W g2 g3 id) (o : Only [] W W') : LoopC w W' g2 g3 id := by
  obtain ⟨vs, h1, h2, h3⟩ := h.b3
  exact ⟨h.o.trans o, o.blk' h.b2, vs, h1, h2, o.blk' h3⟩
theorem LoopC.cell {w W : World} {g2 g3 : Nat} {id : Int} (h : LoopC w W g2 g3 id) (k : Nat) (hk : k < 85) : ∃ v, W.cell? ⟨g3, k, none⟩ = some v := by
  obtain ⟨vs, h1, h2, h3⟩ := h.b3
  have hk2 : k < vs.length := by rw [h1.len]; exact hk
  exact ⟨vs[k], by rw [h3.cell]; exact List.getElem?_eq_getElem hk2⟩
theorem LoopC.free {w W : World} {g2 g3 : Nat} {id : Int} (h : LoopC w W g2 g3 id) (k : Nat) : W.frozen? ⟨g3, k, none⟩ = false := by
  obtain ⟨vs, h1, h2, h3⟩ := h.b3
  exact h3.frozen k
theorem LoopC.set {w W : World} {g2 g3 : Nat} {id : Int} (h : LoopC w W g2 g3 id) (l3 : w.heap.size ≤ g3) (hn : g2 ≠ g3) (k : Nat) (hk : 80 ≤ k) (v : Value) (hv : v.oneCell' = true) : LoopC w (W.setCell ⟨g3, k, none⟩ v) g2 g3 id := by
  obtain ⟨vs, h1, h2, h3⟩ := h.b3
  refine ⟨h.o.new ((Only.refl [g3] _).setCell (by simp) _) l3, h.b2.set_other _ _ hn, vs.set k v, ⟨by rw [List.length_set]; exact h1.len, ?_⟩, ?_, h3.set k v⟩
  · intro u hu
    rcases List.mem_or_eq_of_mem_set hu with e | e
    · exact h1.one u e
    · rw [e]; exact hv
  · rw [List.getElem?_set_ne (by omega)]; exact h2

set_option maxRecDepth 100000 in
set_option maxHeartbeats 8000000 in
theorem rep_any (a : Option Addr) (n cap : Nat) (kss : List (List Int)) (id : Int) (ka : Option Addr) (m kc : Nat) (ks : List Int) (bc : List Value) (h : Int) (s : ByteArray) (w : World)
    (hK : KeysIs w a n kss) (hn : n ≤ 65536) (hid0 : 0 ≤ id) (hid1 : id ≤ 70000) (hP : PrivIs w ka m kc ks) (hs : s.size ≤ 1048576) (hl : ∀ j, j < n → (kss.getD j []).length ≤ 1048576) (hb : BloC bc h s) :
    Calls Tryf.prog 21 #[.slice a n cap, .int .i64 id, .slice ka m kc, .agg bc.toArray, .slice none 0 0] w fun e w' => RepAns (comB kss id ks h s.size) id e ∧ Only [] w w' := by
  have HK := hid hK
  have HP := hid hP
  have HL := hid hl
  have HBC := hid hb
  have hkn : kss.length = n := hK.1
  have hmk : ks.length = m := hP.is.1
  have hm1 : m ≤ kc := hP.le
  have hm2 : kc ≤ 1048576 := hP.hi
  obtain ⟨R, hR⟩ : ∃ R, R = comB kss id ks h s.size := ⟨_, rfl⟩
  rw [← hR]
  have HRR := hid hR
  clear hK hP hl hb hR
  go_enter Tryf.func21, Tryf.ntmps21
  by_cases h0 : n = 0
  · obtain rfl : R = false := HRR.out.trans (by simp [comB]; omega)
    clear hkn hmk HRR
    subst h0
    go_wp2_with (first
      | (refine st_box rfl 34 _ rfl bc rfl ?_; intro W1 g1 l1 o1 b1; have O1 := hid o1; have B1 := hid b1; clear o1 b1 l1)
      | (refine st_alloc rfl 57 rfl z57 zero57 ?_; intro W2 g2 l2 o2 b2; have C := hid (show Cur w W2 g1 g2 bc from ⟨O1.out.trans o2, o2.blk' B1.out, b2, Nat.le_trans O1.out.size l2⟩); clear O1 B1 o2 b2 l2)
      | (refine st_build rfl 57 _ rfl [] (by simp [Act.eval]) z57 (by exact built57_nil) ?_)
      | (go_at_call 23; refine (new_any _ _).mono ?_; rintro e W' ⟨⟨x, rfl⟩, o'⟩; have C' := hid (C.out.only o'); clear o')
      | (refine st_store rfl 57 _ _ rfl g2 rfl z57 rfl z57 57 (by exact C'.out.b2) (by rw [z57_length]; exact size57) rfl (by exact z57_rep.one) ?_; intro W3 o3 b3; have O3 := hid (C'.out.o.new o3 C'.out.l2); have B3 := hid b3; clear o3 b3))
    refine bodyPost_ret (v := .tuple #[.agg z57.toArray, .iface 73 x]) (res21 z57 _ _ _ g2 57 rfl rfl B3.out z57_length) rfl ⟨⟨z57, z57_rep, Or.inr ⟨rfl, _, rfl⟩⟩, O3.out⟩
  have t0 : ((n : Int) == 0) = false := by rw [beq_eq_false_iff_ne]; omega
  go_wp2_with (first
    | (refine st_box rfl 34 _ rfl bc rfl ?_; intro W1 g1 l1 o1 b1; have O1 := hid o1; have B1 := hid b1; clear o1 b1 l1)
    | (refine st_alloc rfl 57 rfl z57 zero57 ?_; intro W2 g2 l2 o2 b2; have C := hid (show Cur w W2 g1 g2 bc from ⟨O1.out.trans o2, o2.blk' B1.out, b2, Nat.le_trans O1.out.size l2⟩); clear O1 B1 o2 b2 l2))
  by_cases h32 : all32 kss = true
  · have H32 := hid ((all32_iff kss n hkn).1 h32)
    have HA := hid h32
    clear h32
    go_loop [26] (fun i => ∃ k : Nat, k ≤ n ∧ i = .int .i64 k) (fun i => n - (intOf i).toNat)
    case atStart => exact ⟨0, Nat.zero_le _, rfl⟩
    case round =>
      obtain ⟨k, hk, rfl⟩ := hrel
      by_cases hlt : k < n
      · obtain ⟨b1, off, rfl, hc⟩ := HK.out.2 (by omega)
        obtain ⟨xa, xl, xc, hcell, hby, _⟩ := hc k hlt
        have HX : xl = 32 := by have := H32.out k hlt; rw [hby.1] at this; exact this
        clear hc hby
        replace hcell := C.out.o.cell' hcell
        subst HX
        go_wp2
        go_round
        case rel => exact ⟨k + 1, by omega, by go_num⟩
        case measure => simp [intOf]; omega
      · obtain rfl : k = n := by omega
        have hq := neq38
        by_cases hi : 1 ≤ id ∧ id ≤ k
        · by_cases hm : m = 64
          · subst hm
            obtain ⟨i, rfl⟩ : ∃ i : Nat, id = (i : Int) + 1 := ⟨(id - 1).toNat, by omega⟩
            obtain ⟨b1, off, rfl, hc⟩ := HK.out.2 (by omega)
            obtain ⟨b2, off2, rfl, hc2⟩ := HP.out.is.2.2 (by omega)
            obtain ⟨xa, xl, xc, hcell, hby, _⟩ := hc i (by omega)
            obtain rfl : xl = 32 := by have := H32.out i (by omega); rw [hby.1] at this; exact this
            replace hcell := C.out.o.cell' hcell
            have HCC := hid (fun j hj => C.out.o.cell' (hc2 j hj))
            have HX := hid (hby.only C.out.o)
            have HBY := hid HP.out.is.2.1
            have q1 : ¬ kc = 32 := by omega
            have q2 : ((i : Int) + 1 - 1) = i := by omega
            have q3 : IntKind.i64.wrap (i : Int) = i := by rw [IntKind.wrap_i64]; omega
            have hik : i < k := by omega
            have HPE := hid (fun (wx : World) (pa : Option Addr) (pc : Nat) (h1 : BytesIs wx xa 32 (kss.getD i [])) (h2 : BytesIs wx pa 32 (ks.drop 32)) => pubEqual_any xa pa 32 xc pc (kss.getD i []) (ks.drop 32) wx h1 h2 (by omega))
            have HR := hid (show R = (decide (kss.getD i [] = ks.drop 32) && decide (h ≠ 0) && okV s.size) by
              have e2 : (0 < kss.length) := by omega
              have e3 : (1 : Int) ≤ (i : Int) + 1 := by omega
              have e4 : (i : Int) + 1 ≤ kss.length := by omega
              rw [HRR.out]
              simp [comB, HA.out, hmk, e2, e3, e4])
            generalize decide (kss.getD i [] = ks.drop 32) = eq at *
            clear hc hc2 hby HRR HL H32 HA hk hlt
            go_wp2_with (first
              | (go_at_call 25; refine (check_ok k _ _ (by omega) (by omega)).mono ?_; rintro e W' ⟨rfl, rfl⟩))
            go_cut [66] (fun s66 wc => s66 = .bool (!eq) ∧ Only [] W2 wc)
            case first =>
              go_region_held3 (fun wx => wx.cell? ⟨b1, off + i, none⟩ = some (.slice xa 32 xc)) (first | exact hcell2 | exact hcell) (first
                | (go_at_call 27; refine (public_any b2 off2 kc ks _ hmk HBY.out (by exact HCC.out) (by omega)).mono ?_; rintro e w' ⟨pa, pc, rfl, A1, A2⟩; have hcell2 := A2.cell' (show World.cell? _ _ = _ from hcell); replace A1 := hid A1; replace A2 := hid A2)
                | (go_at_call 26; refine (HPE.out _ pa pc (by exact HX.out.only (Only.trans (Only.drew (Only.refl _ _)) A2.out)) (by exact A1.out)).mono ?_; rintro e w'' ⟨rfl, q, rfl⟩))
              all_goals
                go_wp2
                go_meet
                case rel => exact ⟨rfl, Only.drewN (Only.trans (Only.drew (Only.refl _ _)) A2.out) _⟩
            case rest =>
              obtain ⟨rfl, oc⟩ := hcut
              replace C := hid (C.out.only oc)
              clear q1 q2 q3 hcell HCC HX HBY HPE oc hmk HP HK hkn t0 hid0 hid1
              have c0 := C.out.b1.cell 0
              have c33 := C.out.b1.cell 33
              rw [HBC.out.ht] at c0
              rw [HBC.out.vl] at c33
              have HV := hid (valid_any s wc)
              cases eq with
              | false =>
                obtain rfl : R = false := HR.out
                clear HR
                go_wp2_with (first
                  | (refine st_build rfl 57 _ rfl [] (by simp [Act.eval]) z57 (by exact built57_nil) ?_)
                  | (go_at_call 24; refine (errI _ _ _ (by rw [World.cell?_alloc_new]; rfl)).mono ?_; rintro e W' ⟨⟨x, rfl⟩, o'⟩; have C' := hid (C.out.only (((Only.refl [] _).alloc _).trans o')); clear o')
                  | (refine st_store rfl 57 _ _ rfl g2 rfl z57 rfl z57 57 (by exact C'.out.b2) (by rw [z57_length]; exact size57) rfl (by exact z57_rep.one) ?_; intro W3 o3 b3; have O3 := hid (C'.out.o.new o3 C'.out.l2); have B3 := hid b3; clear o3 b3))
                refine bodyPost_ret (v := .tuple #[.agg z57.toArray, .iface 73 x]) (res21 z57 _ _ _ g2 57 rfl rfl B3.out z57_length) rfl ⟨⟨z57, z57_rep, Or.inr ⟨rfl, _, rfl⟩⟩, O3.out⟩
              | true =>
                by_cases hz : h = 0
                · obtain rfl : R = false := by rw [HR.out, hz]; rfl
                  clear HR
                  subst hz
                  go_wp2_with (first
                    | (refine st_build rfl 57 _ rfl [] (by simp [Act.eval]) z57 (by exact built57_nil) ?_)
                    | (go_at_call 23; refine (new_any _ _).mono ?_; rintro e W' ⟨⟨x, rfl⟩, o'⟩; have C' := hid (C.out.only o'); clear o')
                    | (refine st_store rfl 57 _ _ rfl g2 rfl z57 rfl z57 57 (by exact C'.out.b2) (by rw [z57_length]; exact size57) rfl (by exact z57_rep.one) ?_; intro W3 o3 b3; have O3 := hid (C'.out.o.new o3 C'.out.l2); have B3 := hid b3; clear o3 b3))
                  refine bodyPost_ret (v := .tuple #[.agg z57.toArray, .iface 73 x]) (res21 z57 _ _ _ g2 57 rfl rfl B3.out z57_length) rfl ⟨⟨z57, z57_rep, Or.inr ⟨rfl, _, rfl⟩⟩, O3.out⟩
                · have t5 : (h == 0) = false := by rw [beq_eq_false_iff_ne]; exact hz
                  have HR2 := hid (show R = okV s.size by rw [HR.out]; simp [hz])
                  rw [← HR2.out] at HV
                  clear HR
                  cases R with
                  | false =>
                    clear HR2
                    go_wp2_with (first
                      | (go_at_call 17; refine HV.out.mono ?_; rintro e W' ⟨rfl, rfl⟩)
                      | (refine st_build rfl 57 _ rfl [] (by simp [Act.eval]) z57 (by exact built57_nil) ?_)
                      | (go_at_call 24; refine (errV _ 64 (s.size : Int) _ (by rw [World.cell?_alloc_new]; rfl) (by rw [World.cell?_alloc_new]; rfl)).mono ?_; rintro e W' ⟨⟨x, rfl⟩, o'⟩; have C' := hid (C.out.only (((Only.refl [] _).alloc _).trans o')); clear o')
                      | (refine st_store rfl 57 _ _ rfl g2 rfl z57 rfl z57 57 (by exact C'.out.b2) (by rw [z57_length]; exact size57) rfl (by exact z57_rep.one) ?_; intro W3 o3 b3; have O3 := hid (C'.out.o.new o3 C'.out.l2); have B3 := hid b3; clear o3 b3))
                    refine bodyPost_ret (v := .tuple #[.agg z57.toArray, .iface 73 x]) (res21 z57 _ _ _ g2 57 rfl rfl B3.out z57_length) rfl ⟨⟨z57, z57_rep, Or.inr ⟨rfl, _, rfl⟩⟩, O3.out⟩
                  | true =>
                    have hg2 := C.out.l2
                    obtain ⟨cs, hcs⟩ := built57_rep ((i : Int) + 1) (some ⟨b1, off, none⟩) (some ⟨b2, off2, none⟩) k cap 64 kc bc h s HBC.out
                    have HCS := hid hcs
                    clear hcs
                    go_wp2_with (first
                      | (go_at_call 17; refine HV.out.mono ?_; rintro e W' ⟨rfl, rfl⟩)
                      | (refine st_load rfl 34 _ rfl g1 rfl bc 34 (by exact C.out.b1) _ Tryf.underlying34 rfl (by rw [HBC.out.len]; exact size34) ?_)
                      | (refine st_build rfl 57 _ rfl [(0, .int .i64 ((i : Int) + 1)), (1, .slice (some ⟨b1, off, none⟩) k cap), (2, .slice (some ⟨b2, off2, none⟩) 64 kc), (3, .agg bc.toArray)] (by simp [Act.eval]; exact ⟨rfl, rfl, rfl, rfl⟩) cs (by exact HCS.out.1) ?_)
                      | (refine st_alloc rfl 57 rfl z57 zero57 ?_; intro W4 g3 l4 o4 b4; have C4 := hid (C.out.only o4); have B4 := hid b4; have L4 := hid (Nat.le_trans C.out.o.size l4); have N4 := hid (show g2 ≠ g3 from Nat.ne_of_lt (Nat.lt_of_lt_of_le C.out.b2.lt l4)); have M4 := hid (show g1 ≠ g3 from Nat.ne_of_lt (Nat.lt_of_lt_of_le C.out.b1.lt l4)); clear o4 b4 l4)
                      | (refine st_store rfl 57 _ _ rfl g3 rfl cs rfl z57 57 (by exact B4.out) (by rw [HCS.out.2.1.len]; exact size57) (by rw [HCS.out.2.1.len]; exact z57_length) (by exact HCS.out.2.1.one) ?_; intro W5 o5 b5; have O5 := hid (C4.out.o.new o5 L4.out); have B5 := hid b5; have G5 := hid (o5.blk C4.out.b2 (by simp; exact N4.out)); have P5 := hid (o5.blk C4.out.b1 (by simp; exact M4.out)); clear o5 b5 B4))
                    clear c0 c33 HV C C4
                    have c33 := P5.out.cell 33
                    rw [HBC.out.vl] at c33
                    have HAC := hid (accepts_any g3 s W5 (by rw [B5.out.cell]; exact HCS.out.2.2.2))
                    rw [← HR2.out] at HAC
                    clear HR2
                    refine wp_loop_rounds 1 ?_
                    rw [rounds_succ]
                    go_wp2_with (go_at_call 20; refine HAC.out.mono ?_; rintro e W' ⟨rfl, q, rfl⟩)
                    obtain ⟨W6, hW6⟩ : ∃ W, W = W5.drewN q := ⟨_, rfl⟩
                    rw [← hW6]
                    have o6 : Only [] W5 W6 := Only.of_drewN ⟨q, hW6⟩
                    have LC := hid (show LoopC w W6 g2 g3 ((i : Int) + 1) from ⟨O5.out.trans o6, o6.blk' G5.out, cs, HCS.out.2.1, HCS.out.2.2.1, o6.blk' B5.out⟩)
                    clear hW6 o6 HCS O5 B5 G5 P5 c33 HAC
                    have HG2 := hid hg2
                    clear hg2
                    go_loopw [116] (fun v wr => ∃ j : Nat, j ≤ 5 ∧ v = .int .i64 j ∧ Hid (LoopC w wr g2 g3 ((i : Int) + 1))) (fun v _ => 5 - (intOf v).toNat)
                    case atStart => exact ⟨0, by omega, rfl, LC.out⟩
                    case round =>
                      obtain ⟨j, hj, rfl, LR⟩ := hrel
                      clear LC
                      by_cases hj5 : j < 5
                      · go_wp2_with (refine st_make54 rfl _ _ rfl k (by omega) rfl rfl ?_; intro W7 b7 o7; have LQ := hid (LR.out.only o7); obtain ⟨ov, cd⟩ := LQ.out.cell (80 + j) (by omega); have fd := LQ.out.free (80 + j); clear o7)
                        go_roundw
                        case rel => exact ⟨j + 1, by omega, by go_num, LQ.out.set L4.out N4.out (80 + j) (by omega) _ rfl⟩
                        case measure => simp [intOf]; omega
                      · obtain rfl : j = 5 := by omega
                        obtain ⟨lo, lb, vs, lr, lv, lg⟩ := LR.out
                        have LO := hid lo
                        have LB := hid lb
                        have LV := hid (And.intro lr (And.intro lv lg))
                        clear lo lb lr lv lg LR
                        go_wp2_with (first
                          | (refine st_load rfl 57 _ rfl g3 rfl vs 57 (by exact LV.out.2.2) _ Tryf.underlying57 rfl (by rw [LV.out.1.len]; exact size57) ?_)
                          | (refine st_store rfl 57 _ _ rfl g2 rfl vs rfl z57 57 (by exact LB.out) (by rw [LV.out.1.len]; exact size57) (by rw [LV.out.1.len]; exact z57_length) (by exact LV.out.1.one) ?_; intro W8 o8 b8; have O8 := hid (LO.out.new o8 HG2.out); have B8 := hid b8; clear o8 b8))
                        refine bodyPost_ret (v := .tuple #[.agg vs.toArray, .nilIface]) (res21 vs _ _ _ g2 57 rfl rfl B8.out LV.out.1.len) rfl ⟨⟨vs, LV.out.1, Or.inl ⟨rfl, rfl, LV.out.2.1⟩⟩, O8.out⟩
          · obtain rfl : R = false := HRR.out.trans (by simp [comB, hmk, hm])
            have t3 : ((m : Int) != 64) = true := by rw [bne_iff_ne]; omega
            clear HRR hk hlt
            go_wp2_with (first
              | (go_at_call 25; refine (check_ok k _ _ (by omega) (by omega)).mono ?_; rintro e W' ⟨rfl, rfl⟩))
            go_quiet (fail)
            obtain ⟨W, hW⟩ : ∃ W, W = W2.drewN nq := ⟨_, rfl⟩
            rw [← hW]
            replace C := hid (C.out.only (Only.of_drewN ⟨nq, hW⟩))
            clear hW
            go_wp2_with (first
              | (refine st_build rfl 57 _ rfl [] (by simp [Act.eval]) z57 (by exact built57_nil) ?_)
              | (go_at_call 24; refine (errI _ _ _ (by rw [World.cell?_alloc_new]; rfl)).mono ?_; rintro e W' ⟨⟨x, rfl⟩, o'⟩; have C' := hid (C.out.only (((Only.refl [] _).alloc _).trans o')); clear o')
              | (refine st_store rfl 57 _ _ rfl g2 rfl z57 rfl z57 57 (by exact C'.out.b2) (by rw [z57_length]; exact size57) rfl (by exact z57_rep.one) ?_; intro W3 o3 b3; have O3 := hid (C'.out.o.new o3 C'.out.l2); have B3 := hid b3; clear o3 b3))
            refine bodyPost_ret (v := .tuple #[.agg z57.toArray, .iface 73 x]) (res21 z57 _ _ _ g2 57 rfl rfl B3.out z57_length) rfl ⟨⟨z57, z57_rep, Or.inr ⟨rfl, _, rfl⟩⟩, O3.out⟩
        · obtain rfl : R = false := HRR.out.trans (by simp [comB]; intros; omega)
          clear HRR
          go_wp2_with (first
            | (go_at_call 25; refine (check_bad k id _ (by omega)).mono ?_; rintro e W' ⟨⟨x, rfl⟩, o'⟩; have C' := hid (C.out.only o'); clear o')
            | (refine st_build rfl 57 _ rfl [] (by simp [Act.eval]) z57 (by exact built57_nil) ?_)
            | (refine st_store rfl 57 _ _ rfl g2 rfl z57 rfl z57 57 (by exact C'.out.b2) (by rw [z57_length]; exact size57) rfl (by exact z57_rep.one) ?_; intro W3 o3 b3; have O3 := hid (C'.out.o.new o3 C'.out.l2); have B3 := hid b3; clear o3 b3))
          refine bodyPost_ret (v := .tuple #[.agg z57.toArray, .iface 73 x]) (res21 z57 _ _ _ g2 57 rfl rfl B3.out z57_length) rfl ⟨⟨z57, z57_rep, Or.inr ⟨rfl, _, rfl⟩⟩, O3.out⟩
  · obtain rfl : R = false := HRR.out.trans (by simp [comB, h32])
    rw [all32_iff kss n hkn] at h32
    have H32 := hid h32
    clear hkn hmk h32 HRR
    go_loop [26] (fun i => ∃ k : Nat, k ≤ n ∧ i = .int .i64 k ∧ Hid (∀ j, j < k → (kss.getD j []).length = 32)) (fun i => n - (intOf i).toNat)
    case atStart => exact ⟨0, Nat.zero_le _, rfl, fun j hj => absurd hj (by omega)⟩
    case round =>
      obtain ⟨k, hk, rfl, hall⟩ := hrel
      by_cases hlt : k < n
      · obtain ⟨b1, off, rfl, hc⟩ := HK.out.2 (by omega)
        obtain ⟨xa, xl, xc, hcell, hby, _⟩ := hc k hlt
        have HX := hid hby.1
        have hxl : xl ≤ 1048576 := by have := HL.out k hlt; rw [hby.1] at this; exact this
        clear hc hby
        replace hcell := C.out.o.cell' hcell
        by_cases hx : xl = 32
        · subst hx
          go_wp2
          go_round
          case rel => exact ⟨k + 1, by omega, by go_num, fun j hj => by
            by_cases e : j = k
            · subst e; exact HX.out
            · exact hall.out j (by omega)⟩
          case measure => simp [intOf]; omega
        · have hx2 : ((xl : Int) != 32) = true := by rw [bne_iff_ne]; omega
          go_wp2_with (first
            | (refine st_build rfl 57 _ rfl [] (by simp [Act.eval]) z57 (by exact built57_nil) ?_)
            | (go_at_call 24; refine (errK _ ((k : Int) + 1) 32 (xl : Int) _ (by rw [World.cell?_alloc_new]; rfl) (by rw [World.cell?_alloc_new]; rfl) (by rw [World.cell?_alloc_new]; rfl)).mono ?_; rintro e W' ⟨⟨x, rfl⟩, o'⟩; have C' := hid (C.out.only (((Only.refl [] _).alloc _).trans o')); clear o')
            | (refine st_store rfl 57 _ _ rfl g2 rfl z57 rfl z57 57 (by exact C'.out.b2) (by rw [z57_length]; exact size57) rfl (by exact z57_rep.one) ?_; intro W3 o3 b3; have O3 := hid (C'.out.o.new o3 C'.out.l2); have B3 := hid b3; clear o3 b3))
          refine bodyPost_ret (v := .tuple #[.agg z57.toArray, .iface 73 x]) (res21 z57 _ _ _ g2 57 rfl rfl B3.out z57_length) rfl ⟨⟨z57, z57_rep, Or.inr ⟨rfl, _, rfl⟩⟩, O3.out⟩
      · exact absurd (fun j hj => hall.out j (by omega)) H32.out
end Go.Proofs.Qxb6616833aFmt
