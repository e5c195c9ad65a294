/- (*smpp.Reader).Read, the header come whole: read_small. -/
import Derived.Test.Qxb6616789aDoorHdr0
namespace Go.Proofs.Qxb6616789aDoor
open Go.RowKit
set_option linter.unusedVariables false

set_option maxRecDepth 100000 in
set_option maxHeartbeats 8000000 in
theorem read_small (L : Lay) (ok : L.Ok) (B R : Nat) (mx : Int) (hs : List Value) (inp : List Int) (x1 x2 : Addr) (w : World)
    (hR : Blk w R (RdC L.b mx hs) 47) (hhs : hs.length = 16) (hS : St w L inp) (hG : Glob w B x1 x2) (hin : L.In B R w.heap.size) (hlen : 16 ≤ inp.length) (hby : Byt inp) (hl4 : inp.length ≤ 4096) (hmx : 0 ≤ mx ∧ mx ≤ 4294967295) (hbad : ¬ (lenOf inp < 16 ∨ mx < lenOf inp)) (hc0 : lenOf inp ≤ 65552) :
    Calls Tryd.prog 10 #[.pointer (some ⟨R, 0, none⟩)] w fun e w' => ReadPost L R mx inp w e w' := by
  obtain ⟨bl0, bl1⟩ := lenOf_bd inp hby
  obtain ⟨bm0, bm1⟩ := hmx
  have c0 := hR.cell 0
  simp only [RdC, List.getElem?_cons_zero] at c0
  have hlt : R < w.heap.size := hR.lt
  have HS := hid hS
  have HR := hid hR
  have HG := hid hG
  have HIN := hid hin
  have HBY := hid hby
  clear hS hR hG hin hby
  go_enter Tryd.func10, Tryd.ntmps10
  go_wp2
  obtain ⟨W, hW⟩ : ∃ W, W = w.alloc (.cells #[.int .u32 0, .int .u32 0, .int .u32 0, .slice none 0 0] 34) := ⟨_, rfl⟩
  rw [← hW]
  obtain ⟨Z, hZ⟩ : ∃ Z, Z = w.heap.size := ⟨_, rfl⟩
  rw [← hZ]
  have OW := hid (show Only [] w W by rw [hW]; exact (Only.refl _ _).alloc _)
  have ZW := hid (show Blk W Z [.int .u32 0, .int .u32 0, .int .u32 0, .slice none 0 0] 34 by rw [hW, hZ]; exact Blk.new _ _ _)
  have RW := hid (OW.out.blk HR.out (by simp))
  have SW := hid (HS.out.only OW.out (by simp) (by simp) (by simp) (by simp))
  have GW := hid (HG.out.step OW.out (by simp))
  have ZN := hid (show Z ≠ R ∧ Z ≠ L.b ∧ Z ≠ L.bf ∧ Z ≠ L.bs by
    have h1 := HIN.out.r1; have h2 := HIN.out.b1; have h3 := HIN.out.f1; have h4 := HIN.out.s1
    exact ⟨by omega, by omega, by omega, by omega⟩)
  have HZ := hid hZ
  clear c0 hW HR HS HG hlt hZ
  have c0 := RW.out.cell 0
  simp only [RdC, List.getElem?_cons_zero] at c0
  go_cut [5] (fun s5 wc => s5 = .nilIface ∧ Loaded wc L (inp.drop 16) ∧ Blk wc R (RdC L.b mx (bytesC (inp.take 16))) 47 ∧ Only [R, L.b, L.bf, L.bs] W wc)
  case first =>
    go_region_with (go_at_call 16; refine (rf_full L ok inp R 2 16 16 (RdC L.b mx hs) 47 _ ((by exact SW.out) : St _ L inp) (by exact RW.out) hlen (by omega) (.inr (by omega)) (by simp [RdC, hhs]) (by omega) (by omega) HIN.out.g1 HIN.out.g2 HIN.out.g3 HIN.out.g4).mono ?_; rintro e w' ⟨rfl, A1, A2, A3⟩; replace A1 := hid A1; replace A2 := hid A2; replace A3 := hid A3)
    all_goals
      go_wp2
      go_meet
      case rel =>
        refine ⟨rfl, A1.out, ?_, Only.trans (by repeat (first | exact Only.refl _ _ | apply Only.drewN | apply Only.drew)) A3.out⟩
        have := A2.out
        rw [splice_hdr16 L.b mx hs _ hhs (by rw [bytesC_length]; simp; omega)] at this
        exact this
  case rest =>
    obtain ⟨rfl, R1, R2, R3⟩ := hcut
    have ZX := hid (R3.blk ZW.out (by simp; exact ZN.out))
    have GX := hid (GW.out.step R3 (HIN.out.all))
    have OX := hid ((OW.out.mono (by simp)).trans R3)
    replace R1 := hid R1
    replace R2 := hid R2
    clear R3 ZW GW OW SW RW c0
    go_wp2
    go_cut [6] (fun s6 wd => s6 = .int .u32 (lenOf inp) ∧ Only [] wc wd)
    case first =>
      go_region_with (go_at_call 17; refine (be17 R 2 4 16 (inp.getD 0 0) (inp.getD 1 0) (inp.getD 2 0) (inp.getD 3 0) _ (by omega) .nilIface (by exact hdr_cell R2.out hlen 0 (by omega)) (by exact hdr_cell R2.out hlen 1 (by omega)) (by exact hdr_cell R2.out hlen 2 (by omega)) (by exact hdr_cell R2.out hlen 3 (by omega)) (HBY.out.at 0) (HBY.out.at 1) (HBY.out.at 2) (HBY.out.at 3) (by exact R2.out.lt)).mono ?_; rintro e w' ⟨rfl, A1⟩; replace A1 := hid A1)
      go_wp2
      go_meet
      case rel => exact ⟨rfl, Only.trans (by repeat (first | exact Only.refl _ _ | apply Only.drewN | apply Only.drew)) (Only.of_below A1.out)⟩
    case rest =>
      obtain ⟨rfl, R4⟩ := hcut
      have R2' := hid (R4.blk R2.out (by simp))
      have R1' := hid (R1.out.only R4 (by simp) (by simp) (by simp))
      have ZX' := hid (R4.blk ZX.out (by simp))
      have GX' := hid (GX.out.step R4 (by simp))
      have OX' := hid (OX.out.trans (R4.mono (by simp)))
      clear R1 R2 ZX GX OX R4
      go_wp2
      obtain ⟨wk, hwk⟩ : ∃ wk, wk = wc := ⟨_, rfl⟩
      subst hwk
      have A0 := hid (show HdrAt wk wk R L.b mx inp from ⟨R2'.out, Only.refl _ _⟩)
      go_cut [7] (fun s7 we => PduAt wk s7 we)
      case first =>
        go_region_held3 (fun _ => True) (exact trivial) (first | (go_at_call_of 17 (Value.slice (some { block := R, off := 6 }) 4 12); refine (be17h wk R L.b mx inp 4 12 _ hlen HBY.out (by omega) (hdr_up A0.out (by repeat (first | exact Only.refl _ _ | apply Only.drewN | apply Only.drew | apply Only.alloc)))).mono ?_; rintro e wa ⟨rfl, Aa, Oa⟩; replace A0 := hid Aa; clear Aa; replace Oa := hid Oa; try (have BP := hid (Only.blk (cs := [.int .u32 0, .int .u32 0, .int .u32 0, .slice none 0 0]) (t := 34) Oa.out (by first | exact BP.out | exact Blk.new _ _ _) (by simp)); have HP := pdu_cells BP.out; obtain ⟨k0, k1, k2, k3, m0, m1, m2, m3⟩ := HP)) | (go_at_call_of 17 (Value.slice (some { block := R, off := 10 }) 4 8); refine (be17h wk R L.b mx inp 8 8 _ hlen HBY.out (by omega) (hdr_up A0.out (by repeat (first | exact Only.refl _ _ | apply Only.drewN | apply Only.drew | apply Only.alloc)))).mono ?_; rintro e wb ⟨rfl, Ab, Ob⟩; replace A0 := hid Ab; clear Ab; replace Ob := hid Ob; try (have BP := hid (Only.blk (cs := [.int .u32 0, .int .u32 0, .int .u32 0, .slice none 0 0]) (t := 34) Ob.out (by first | exact BP.out | exact Blk.new _ _ _) (by simp)); have HP := pdu_cells BP.out; obtain ⟨k0, k1, k2, k3, m0, m1, m2, m3⟩ := HP)) | (go_at_call_of 17 (Value.slice (some { block := R, off := 14 }) 4 4); refine (be17h wk R L.b mx inp 12 4 _ hlen HBY.out (by omega) (hdr_up A0.out (by repeat (first | exact Only.refl _ _ | apply Only.drewN | apply Only.drew | apply Only.alloc)))).mono ?_; rintro e wc ⟨rfl, Ac, Oc⟩; replace A0 := hid Ac; clear Ac; replace Oc := hid Oc; try (have BP := hid (Only.blk (cs := [.int .u32 0, .int .u32 0, .int .u32 0, .slice none 0 0]) (t := 34) Oc.out (by first | exact BP.out | exact Blk.new _ _ _) (by simp)); have HP := pdu_cells BP.out; obtain ⟨k0, k1, k2, k3, m0, m1, m2, m3⟩ := HP)))
        · go_wp2
          go_meet
          case rel => exact pdu_last A0.out.2
        · have hP := size_le2 Oa.out.size Ob.out.size
          go_wp2
          go_meet
          case rel => exact pdu_done BP.out hP A0.out.2
        · have hP := size_le1 Oa.out.size
          go_wp2
          go_meet
          case rel => exact pdu_done BP.out hP A0.out.2
        · go_wp2
          go_meet
          case rel => exact pdu_done BP.out (Nat.le_refl _) A0.out.2
      case rest =>
        obtain ⟨P, rfl, ⟨pa, pb, pc, BPD⟩, hP, O5⟩ := hcut
        have R2 := hid (O5.blk R2'.out (by simp))
        have R1 := hid (R1'.out.only O5 (by simp) (by simp) (by simp))
        have ZX := hid (O5.blk ZX'.out (by simp))
        have GX := hid (GX'.out.step O5 (by simp))
        have OX := hid (OX'.out.trans (O5.mono (by simp)))
        have PN := hid (show P ≠ Z ∧ P ≠ R ∧ P ≠ L.b ∧ P ≠ L.bf ∧ P ≠ L.bs ∧ w.heap.size ≤ P by
          have h0 := ZX'.out.lt; have h1 := HIN.out.r1; have h2 := HIN.out.b1; have h3 := HIN.out.f1; have h4 := HIN.out.s1; have h5 := OX'.out.size
          exact ⟨by omega, by omega, by omega, by omega, by omega, by omega⟩)
        have hPlt := BPD.lt
        replace BPD := hid BPD
        clear R1' R2' ZX' GX' OX' O5 hP A0
        have m1 := R2.out.cell 1
        simp only [RdC, List.getElem?_cons_succ, List.getElem?_cons_zero] at m1
        obtain ⟨m, hm⟩ : ∃ m : Nat, lenOf inp = (m : Int) + 16 := ⟨(lenOf inp - 16).toNat, by omega⟩
        have hg2 : (m : Int) + 16 ≤ mx := by omega
        have t2 : decide (mx < (m : Int) + 16) = false := by simp; omega
        have t3 : ¬ mx < (m : Int) + 16 := by omega
        have HM := hid hm
        have HRL := hid (show (inp.drop 16).length = inp.length - 16 by simp)
        clear hbad
        have p3 := BPD.out.cell 3
        have fp3 := BPD.out.frozen 3
        simp only [List.getElem?_cons_succ, List.getElem?_cons_zero] at p3
        have hc : m ≤ 65536 := by omega
        have hmk := run_make5 0 (m : Int) (by omega) (by omega) (by omega)
        simp only [Int.toNat_natCast, Int.toNat_zero] at hmk
        go_wp2
        obtain ⟨Bb, hBb⟩ : ∃ Bb, wc.heap.size = Bb := ⟨_, rfl⟩
        rw [hBb]
        obtain ⟨W6, hW6⟩ : ∃ W6, W6 = (wc.setCell ⟨P, 3, none⟩ (.slice (some ⟨Bb, 0, none⟩) 0 m)).alloc (.cells (zeros m).toArray 5) := ⟨_, rfl⟩
        rw [← hW6]
        have O6 := hid (show Only [P] wc W6 by rw [hW6]; exact ((Only.refl _ _).setCell (by simp) _).alloc _)
        have BN := hid (show Bb ≠ P ∧ Bb ≠ Z ∧ Bb ≠ R ∧ Bb ≠ L.b ∧ Bb ≠ L.bf ∧ Bb ≠ L.bs ∧ Bb ≠ L.bd ∧ Bb ≠ 1 ∧ Bb ≠ 2 ∧ w.heap.size ≤ Bb by
          have h0 := ZX.out.lt; have h1 := HIN.out.r1; have h2 := HIN.out.b1; have h3 := HIN.out.f1; have h4 := HIN.out.s1; have h5 := OX.out.size; have h6 := HIN.out.d1; have h7 := GX.out.l0; have h8 := GX.out.l3; have h9 := HIN.out.r0
          exact ⟨by omega, by omega, by omega, by omega, by omega, by omega, by omega, by omega, by omega, by omega⟩)
        have BB := hid (show Blk W6 Bb (zeros m) 5 by
          rw [hW6]
          have := Blk.new (wc.setCell ⟨P, 3, none⟩ (.slice (some ⟨Bb, 0, none⟩) 0 m)) (zeros m) 5
          rw [World.size_setCell, hBb] at this
          exact this)
        have PB := hid (show Blk W6 P [.int .u32 pa, .int .u32 pb, .int .u32 pc, .slice (some ⟨Bb, 0, none⟩) 0 m] 34 by rw [hW6]; exact (Blk.set BPD.out 3 _).alloc _)
        have R26 := hid (O6.out.blk R2.out (by simp; exact Ne.symm PN.out.2.1))
        have R16 := hid (R1.out.only O6.out (by simp; exact Ne.symm PN.out.2.2.1) (by simp; exact Ne.symm PN.out.2.2.2.1) (by simp; exact Ne.symm PN.out.2.2.2.2.1))
        have Z6 := hid (O6.out.blk ZX.out (by simp; exact Ne.symm PN.out.1))
        have G6 := hid (GX.out.step O6.out (by simp; have := PN.out.2.2.2.2.2; have := HIN.out.r0; have := HIN.out.r1; omega))
        have OX6 := hid (Only.trans_new OX.out O6.out (by simp; exact .inr PN.out.2.2.2.2.2))
        clear hmk hW6 hBb O6 R1 R2 ZX GX OX BPD p3 fp3 m1 hPlt
        by_cases hz : m = 0
        · subst hz
          obtain ⟨p0, p1, p2, p3, _, _, _, _⟩ := pdu_four PB.out
          obtain ⟨z0, z1, z2, z3, y0, y1, y2, y3⟩ := pdu_four Z6.out
          refine wp_loop_rounds 1 ?_
          rw [rounds_succ]
          go_wp2
          refine bodyPost_ret (v := .tuple #[.agg #[.int .u32 pa, .int .u32 pb, .int .u32 pc, .slice (some ⟨Bb, 0, none⟩) 0 0], .nilIface]) ?_ rfl ?_
          · simp [results, Tryd.results10, go_sem, z0, z1, z2, z3]
          · have F := only_four Z W6 (.int .u32 pa) (.int .u32 pb) (.int .u32 pc) (.slice (some ⟨Bb, 0, none⟩) 0 0)
            obtain ⟨n1, n2, n3, n4⟩ := ZN.out
            exact ⟨⟨_, F.blk R26.out (by simp; exact Ne.symm n1), by rw [bytesC_length]; simp; omega⟩, Only.trans_new OX6.out F (by simp; exact .inr (Nat.le_of_eq HZ.out.symm)), .inr (.inr ⟨0, HM.out, by rw [HM.out]; exact hg2, by omega, ⟨_, _, _, _, _, rfl⟩, R16.out.only F (by simp; exact Ne.symm n2) (by simp; exact Ne.symm n3) (by simp; exact Ne.symm n4)⟩)⟩
        have hm0 : 0 < m := by omega
        clear hz
        have p3 := PB.out.cell 3
        have fp3 := PB.out.frozen 3
        simp only [List.getElem?_cons_succ, List.getElem?_cons_zero] at p3
        have q0 : ¬ m = 0 := by omega
        refine wp_loop_rounds 2 ?_
        rw [rounds_succ]
        go_wp2_with (go_at_call 18; refine (grow_room _ 0 m m _ (by omega) (by omega)).mono ?_; rintro e w' ⟨rfl, rfl⟩)
        obtain ⟨W7, hW7⟩ : ∃ W7, W7 = W6.setCell ⟨P, 3, none⟩ (.slice (some ⟨Bb, 0, none⟩) m m) := ⟨_, rfl⟩
        rw [← hW7]
        have O7 := hid (show Only [P] W6 W7 by rw [hW7]; exact (Only.refl _ _).setCell (by simp) _)
        have PB7 := hid (show Blk W7 P [.int .u32 pa, .int .u32 pb, .int .u32 pc, .slice (some ⟨Bb, 0, none⟩) m m] 34 by rw [hW7]; exact Blk.set PB.out 3 _)
        have BB7 := hid (O7.out.blk BB.out (by simp; exact BN.out.1))
        have R27 := hid (O7.out.blk R26.out (by simp; exact Ne.symm PN.out.2.1))
        have R17 := hid (R16.out.only O7.out (by simp; exact Ne.symm PN.out.2.2.1) (by simp; exact Ne.symm PN.out.2.2.2.1) (by simp; exact Ne.symm PN.out.2.2.2.2.1))
        have Z7 := hid (O7.out.blk Z6.out (by simp; exact Ne.symm PN.out.1))
        have G7 := hid (G6.out.step O7.out (by simp; have := PN.out.2.2.2.2.2; have := HIN.out.r0; have := HIN.out.r1; omega))
        have OX7 := hid (Only.trans_new OX6.out O7.out (by simp; exact .inr PN.out.2.2.2.2.2))
        clear hW7 p3 fp3 O7 PB BB R26 R16 Z6 G6 OX6
        have r0 := R27.out.cell 0
        have p3 := PB7.out.cell 3
        simp only [RdC, List.getElem?_cons_succ, List.getElem?_cons_zero] at r0 p3
        by_cases hful : m + 16 ≤ inp.length
        · go_cut [12] (fun s12 wd => s12 = .nilIface ∧ Loaded wd L ((inp.drop 16).drop m) ∧ Only [Bb, L.b, L.bf, L.bs] W7 wd)
          case first =>
            go_region_with (go_at_call 16; refine (rf_full L ok (inp.drop 16) Bb 0 m m (zeros m) 5 _ (.inr (by exact R17.out)) (by exact BB7.out) (by simp; omega) hm0 (.inl (by exact R17.out)) (by simp [zeros_length]) (Nat.le_refl _) (by omega) BN.out.2.2.2.1 BN.out.2.2.2.2.1 BN.out.2.2.2.2.2.1 BN.out.2.2.2.2.2.2.1).mono ?_; rintro e w' ⟨rfl, A1, A2, A3⟩; replace A1 := hid A1; replace A2 := hid A2; replace A3 := hid A3)
            all_goals
              go_wp2
              go_meet
              case rel => exact ⟨rfl, A1.out, Only.trans (by repeat (first | exact Only.refl _ _ | apply Only.drewN | apply Only.drew)) A3.out⟩
          case rest =>
            obtain ⟨rfl, T1, T2⟩ := hcut
            have PB8 := hid (T2.blk PB7.out (by simp; exact ⟨Ne.symm BN.out.1, PN.out.2.2.1, PN.out.2.2.2.1, PN.out.2.2.2.2.1⟩))
            have Z8 := hid (T2.blk Z7.out (by simp; exact ⟨Ne.symm BN.out.2.1, ZN.out.2.1, ZN.out.2.2.1, ZN.out.2.2.2⟩))
            have R28 := hid (T2.blk R27.out (by simp; exact ⟨Ne.symm BN.out.2.2.1, HIN.out.g1, HIN.out.g2, HIN.out.g3⟩))
            have OX8 := hid (Only.trans_new OX7.out T2 (new_or BN.out.2.2.2.2.2.2.2.2.2))
            replace T1 := hid T1
            clear T2 OX7 R27 R17 Z7 PB7 BB7 G7 r0 p3
            obtain ⟨p0, p1, p2, p3, _, _, _, _⟩ := pdu_four PB8.out
            obtain ⟨z0, z1, z2, z3, y0, y1, y2, y3⟩ := pdu_four Z8.out
            go_wp2
            rw [rounds_succ]
            go_wp2
            refine bodyPost_ret (v := .tuple #[.agg #[.int .u32 pa, .int .u32 pb, .int .u32 pc, .slice (some ⟨Bb, 0, none⟩) m m], .nilIface]) ?_ rfl ?_
            · simp [results, Tryd.results10, go_sem, z0, z1, z2, z3]
            · have F := only_four Z wc (.int .u32 pa) (.int .u32 pb) (.int .u32 pc) (.slice (some ⟨Bb, 0, none⟩) m m)
              obtain ⟨n1, n2, n3, n4⟩ := ZN.out
              have T1' := T1.out
              rw [List.drop_drop, Nat.add_comm] at T1'
              exact ⟨⟨_, F.blk R28.out (by simp; exact Ne.symm n1), by rw [bytesC_length]; simp; omega⟩, Only.trans_new OX8.out F (by simp; exact .inr (Nat.le_of_eq HZ.out.symm)), .inr (.inr ⟨m, HM.out, by rw [HM.out]; exact hg2, hful, ⟨_, _, _, _, _, rfl⟩, T1'.only F (by simp; exact Ne.symm n2) (by simp; exact Ne.symm n3) (by simp; exact Ne.symm n4)⟩)⟩
        have hfail : inp.length < m + 16 := by omega
        go_cut [12] (fun s12 wd => (∃ x, s12 = .iface 70 (.pointer (some x)) ∧ (x = x1 ∨ x = x2)) ∧ Loaded wd L [] ∧ Only [Bb, L.b, L.bf, L.bs] W7 wd)
        case first =>
          by_cases hr0 : 0 < (inp.drop 16).length
          · have hr1 : (inp.drop 16).length < m := by simp; omega
            replace hr0 := hid hr0
            replace hr1 := hid hr1
            go_region_with (go_at_call 16; refine (rf_short L ok (inp.drop 16) Bb 0 m m (zeros m) 5 x1 x2 _ (.inr (by exact R17.out)) (by exact BB7.out) hr1.out hr0.out (.inl (by exact R17.out)) (by simp [zeros_length]) (Nat.le_refl _) (by omega) BN.out.2.2.2.1 BN.out.2.2.2.2.1 BN.out.2.2.2.2.2.1 BN.out.2.2.2.2.2.2.1 BN.out.2.2.2.2.2.2.2.1 BN.out.2.2.2.2.2.2.2.2.1 (by exact G7.out.g1) (by exact G7.out.g2)).mono ?_; rintro e w' ⟨rfl, A1, A2, A3⟩; replace A1 := hid A1; replace A2 := hid A2; replace A3 := hid A3)
            all_goals
              go_wp2
              go_meet
              case rel => exact ⟨⟨_, rfl, .inr rfl⟩, A1.out, Only.trans (by repeat (first | exact Only.refl _ _ | apply Only.drewN | apply Only.drew)) A3.out⟩
          · have SL := hid (show Loaded W7 L [] by
              have h := R17.out
              rw [List.eq_nil_of_length_eq_zero (by omega : (inp.drop 16).length = 0)] at h
              exact h)
            clear hr0
            go_region_with (go_at_call 16; refine (rf_none L ok _ m m x1 _ ((by exact SL.out) : Loaded _ L []) (by exact G7.out.g1) (by omega) (Nat.le_refl _) (by omega)).mono ?_; rintro e w' ⟨rfl, A1, A3⟩; replace A1 := hid A1; replace A3 := hid A3)
            all_goals
              go_wp2
              go_meet
              case rel => exact ⟨⟨_, rfl, .inl rfl⟩, A1.out, Only.trans (by repeat (first | exact Only.refl _ _ | apply Only.drewN | apply Only.drew)) (A3.out.mono (by simp))⟩
        case rest =>
          obtain ⟨⟨x, rfl, hx⟩, T1, T2⟩ := hcut
          have Z8 := hid (T2.blk Z7.out (by simp; exact ⟨Ne.symm BN.out.2.1, ZN.out.2.1, ZN.out.2.2.1, ZN.out.2.2.2⟩))
          have R28 := hid (T2.blk R27.out (by simp; exact ⟨Ne.symm BN.out.2.2.1, HIN.out.g1, HIN.out.g2, HIN.out.g3⟩))
          have OX8 := hid (Only.trans_new OX7.out T2 (new_or BN.out.2.2.2.2.2.2.2.2.2))
          have G8 := G7.out.step T2 (by
            intro k hk
            simp only [List.mem_cons, List.not_mem_nil, or_false] at hk
            have i1 := HIN.out.b0; have i2 := HIN.out.f0; have i3 := HIN.out.s0; have i4 := BN.out.2.2.2.2.2.2.2.2.2; have i5 := HIN.out.b1
            rcases hk with rfl | rfl | rfl | rfl <;> omega)
          obtain ⟨bb, hq⟩ : ∃ bb, (binOp .eql 36 (.iface 70 (.pointer (some x))) (.iface 70 (.pointer (some x1)))).run Tryd.prog wc = .ok (.bool bb) wc := by
            rcases hx with rfl | rfl
            · exact ⟨true, eql_same _ _⟩
            · exact eql_any G8
          have e1 := G8.g1
          have e2 := G8.g2
          replace T1 := hid T1
          clear T2 OX7 R27 R17 Z7 PB7 BB7 G7 G8 r0 p3 hx
          obtain ⟨z0, z1, z2, z3, y0, y1, y2, y3⟩ := pdu_four Z8.out
          cases bb
          · go_wp2
            refine bodyPost_ret (v := .tuple #[.agg #[.int .u32 0, .int .u32 0, .int .u32 0, .slice none 0 0], .iface 70 (.pointer (some x))]) ?_ rfl ?_
            · simp [results, Tryd.results10, go_sem, z0, z1, z2, z3]
            · have F := only_four Z wc (.int .u32 0) (.int .u32 0) (.int .u32 0) (.slice none 0 0)
              obtain ⟨n1, n2, n3, n4⟩ := ZN.out
              exact ⟨⟨_, F.blk R28.out (by simp; exact Ne.symm n1), by rw [bytesC_length]; simp; omega⟩, Only.trans_new OX8.out F (by simp; exact .inr (Nat.le_of_eq HZ.out.symm)), .inr (.inl ⟨by rw [HM.out]; omega, by rw [HM.out]; exact hg2, by rw [HM.out]; omega, ⟨_, _, rfl⟩, T1.out.only F (by simp; exact Ne.symm n2) (by simp; exact Ne.symm n3) (by simp; exact Ne.symm n4)⟩)⟩
          · go_wp2
            refine bodyPost_ret (v := .tuple #[.agg #[.int .u32 0, .int .u32 0, .int .u32 0, .slice none 0 0], .iface 70 (.pointer (some x2))]) ?_ rfl ?_
            · simp [results, Tryd.results10, go_sem, z0, z1, z2, z3]
            · have F := only_four Z wc (.int .u32 0) (.int .u32 0) (.int .u32 0) (.slice none 0 0)
              obtain ⟨n1, n2, n3, n4⟩ := ZN.out
              exact ⟨⟨_, F.blk R28.out (by simp; exact Ne.symm n1), by rw [bytesC_length]; simp; omega⟩, Only.trans_new OX8.out F (by simp; exact .inr (Nat.le_of_eq HZ.out.symm)), .inr (.inl ⟨by rw [HM.out]; omega, by rw [HM.out]; exact hg2, by rw [HM.out]; omega, ⟨_, _, rfl⟩, T1.out.only F (by simp; exact Ne.symm n2) (by simp; exact Ne.symm n3) (by simp; exact Ne.symm n4)⟩)⟩
end Go.Proofs.Qxb6616789aDoor
