/- (*smpp.Reader).Read, the header come whole: read_badlen. -/
import Derived.Test.Qxb6616789aDoorHdr0
namespace Go.Proofs.Qxb6616789aDoor
open Go.RowKit
set_option linter.unusedVariables false

set_option maxRecDepth 100000 in
set_option maxHeartbeats 8000000 in
theorem read_badlen (L : Lay) (ok : L.Ok) (B R : Nat) (mx : Int) (hs : List Value) (inp : List Int) (x1 x2 : Addr) (w : World)
    (hR : Blk w R (RdC L.b mx hs) 47) (hhs : hs.length = 16) (hS : St w L inp) (hG : Glob w B x1 x2) (hin : L.In B R w.heap.size) (hlen : 16 ≤ inp.length) (hby : Byt inp) (hl4 : inp.length ≤ 4096) (hmx : 0 ≤ mx ∧ mx ≤ 4294967295) (hbad : lenOf inp < 16 ∨ mx < lenOf inp) :
    Calls Tryd.prog 10 #[.pointer (some ⟨R, 0, none⟩)] w fun e w' => ReadPost L R mx inp w e w' := by
  obtain ⟨bl0, bl1⟩ := lenOf_bd inp hby
  obtain ⟨bm0, bm1⟩ := hmx
  have c0 := hR.cell 0
  simp only [RdC, List.getElem?_cons_zero] at c0
  have hlt : R < w.heap.size := hR.lt
  have HS := hid hS
  have HR := hid hR
  have HG := hid hG
  have HIN := hid hin
  have HBY := hid hby
  clear hS hR hG hin hby
  go_enter Tryd.func10, Tryd.ntmps10
  go_wp2
  obtain ⟨W, hW⟩ : ∃ W, W = w.alloc (.cells #[.int .u32 0, .int .u32 0, .int .u32 0, .slice none 0 0] 34) := ⟨_, rfl⟩
  rw [← hW]
  obtain ⟨Z, hZ⟩ : ∃ Z, Z = w.heap.size := ⟨_, rfl⟩
  rw [← hZ]
  have OW := hid (show Only [] w W by rw [hW]; exact (Only.refl _ _).alloc _)
  have ZW := hid (show Blk W Z [.int .u32 0, .int .u32 0, .int .u32 0, .slice none 0 0] 34 by rw [hW, hZ]; exact Blk.new _ _ _)
  have RW := hid (OW.out.blk HR.out (by simp))
  have SW := hid (HS.out.only OW.out (by simp) (by simp) (by simp) (by simp))
  have GW := hid (HG.out.step OW.out (by simp))
  have ZN := hid (show Z ≠ R ∧ Z ≠ L.b ∧ Z ≠ L.bf ∧ Z ≠ L.bs by
    have h1 := HIN.out.r1; have h2 := HIN.out.b1; have h3 := HIN.out.f1; have h4 := HIN.out.s1
    exact ⟨by omega, by omega, by omega, by omega⟩)
  have HZ := hid hZ
  clear c0 hW HR HS HG hlt hZ
  have c0 := RW.out.cell 0
  simp only [RdC, List.getElem?_cons_zero] at c0
  go_cut [5] (fun s5 wc => s5 = .nilIface ∧ Loaded wc L (inp.drop 16) ∧ Blk wc R (RdC L.b mx (bytesC (inp.take 16))) 47 ∧ Only [R, L.b, L.bf, L.bs] W wc)
  case first =>
    go_region_with (go_at_call 16; refine (rf_full L ok inp R 2 16 16 (RdC L.b mx hs) 47 _ ((by exact SW.out) : St _ L inp) (by exact RW.out) hlen (by omega) (.inr (by omega)) (by simp [RdC, hhs]) (by omega) (by omega) HIN.out.g1 HIN.out.g2 HIN.out.g3 HIN.out.g4).mono ?_; rintro e w' ⟨rfl, A1, A2, A3⟩; replace A1 := hid A1; replace A2 := hid A2; replace A3 := hid A3)
    all_goals
      go_wp2
      go_meet
      case rel =>
        refine ⟨rfl, A1.out, ?_, Only.trans (by repeat (first | exact Only.refl _ _ | apply Only.drewN | apply Only.drew)) A3.out⟩
        have := A2.out
        rw [splice_hdr16 L.b mx hs _ hhs (by rw [bytesC_length]; simp; omega)] at this
        exact this
  case rest =>
    obtain ⟨rfl, R1, R2, R3⟩ := hcut
    have ZX := hid (R3.blk ZW.out (by simp; exact ZN.out))
    have GX := hid (GW.out.step R3 (HIN.out.all))
    have OX := hid ((OW.out.mono (by simp)).trans R3)
    replace R1 := hid R1
    replace R2 := hid R2
    clear R3 ZW GW OW SW RW c0
    go_wp2
    go_cut [6] (fun s6 wd => s6 = .int .u32 (lenOf inp) ∧ Only [] wc wd)
    case first =>
      go_region_with (go_at_call 17; refine (be17 R 2 4 16 (inp.getD 0 0) (inp.getD 1 0) (inp.getD 2 0) (inp.getD 3 0) _ (by omega) .nilIface (by exact hdr_cell R2.out hlen 0 (by omega)) (by exact hdr_cell R2.out hlen 1 (by omega)) (by exact hdr_cell R2.out hlen 2 (by omega)) (by exact hdr_cell R2.out hlen 3 (by omega)) (HBY.out.at 0) (HBY.out.at 1) (HBY.out.at 2) (HBY.out.at 3) (by exact R2.out.lt)).mono ?_; rintro e w' ⟨rfl, A1⟩; replace A1 := hid A1)
      go_wp2
      go_meet
      case rel => exact ⟨rfl, Only.trans (by repeat (first | exact Only.refl _ _ | apply Only.drewN | apply Only.drew)) (Only.of_below A1.out)⟩
    case rest =>
      obtain ⟨rfl, R4⟩ := hcut
      have R2' := hid (R4.blk R2.out (by simp))
      have R1' := hid (R1.out.only R4 (by simp) (by simp) (by simp))
      have ZX' := hid (R4.blk ZX.out (by simp))
      have GX' := hid (GX.out.step R4 (by simp))
      have OX' := hid (OX.out.trans (R4.mono (by simp)))
      clear R1 R2 ZX GX OX R4
      go_wp2
      obtain ⟨wk, hwk⟩ : ∃ wk, wk = wc := ⟨_, rfl⟩
      subst hwk
      have A0 := hid (show HdrAt wk wk R L.b mx inp from ⟨R2'.out, Only.refl _ _⟩)
      go_cut [7] (fun s7 we => PduAt wk s7 we)
      case first =>
        go_region_held3 (fun _ => True) (exact trivial) (first | (go_at_call_of 17 (Value.slice (some { block := R, off := 6 }) 4 12); refine (be17h wk R L.b mx inp 4 12 _ hlen HBY.out (by omega) (hdr_up A0.out (by repeat (first | exact Only.refl _ _ | apply Only.drewN | apply Only.drew | apply Only.alloc)))).mono ?_; rintro e wa ⟨rfl, Aa, Oa⟩; replace A0 := hid Aa; clear Aa; replace Oa := hid Oa; try (have BP := hid (Only.blk (cs := [.int .u32 0, .int .u32 0, .int .u32 0, .slice none 0 0]) (t := 34) Oa.out (by first | exact BP.out | exact Blk.new _ _ _) (by simp)); have HP := pdu_cells BP.out; obtain ⟨k0, k1, k2, k3, m0, m1, m2, m3⟩ := HP)) | (go_at_call_of 17 (Value.slice (some { block := R, off := 10 }) 4 8); refine (be17h wk R L.b mx inp 8 8 _ hlen HBY.out (by omega) (hdr_up A0.out (by repeat (first | exact Only.refl _ _ | apply Only.drewN | apply Only.drew | apply Only.alloc)))).mono ?_; rintro e wb ⟨rfl, Ab, Ob⟩; replace A0 := hid Ab; clear Ab; replace Ob := hid Ob; try (have BP := hid (Only.blk (cs := [.int .u32 0, .int .u32 0, .int .u32 0, .slice none 0 0]) (t := 34) Ob.out (by first | exact BP.out | exact Blk.new _ _ _) (by simp)); have HP := pdu_cells BP.out; obtain ⟨k0, k1, k2, k3, m0, m1, m2, m3⟩ := HP)) | (go_at_call_of 17 (Value.slice (some { block := R, off := 14 }) 4 4); refine (be17h wk R L.b mx inp 12 4 _ hlen HBY.out (by omega) (hdr_up A0.out (by repeat (first | exact Only.refl _ _ | apply Only.drewN | apply Only.drew | apply Only.alloc)))).mono ?_; rintro e wc ⟨rfl, Ac, Oc⟩; replace A0 := hid Ac; clear Ac; replace Oc := hid Oc; try (have BP := hid (Only.blk (cs := [.int .u32 0, .int .u32 0, .int .u32 0, .slice none 0 0]) (t := 34) Oc.out (by first | exact BP.out | exact Blk.new _ _ _) (by simp)); have HP := pdu_cells BP.out; obtain ⟨k0, k1, k2, k3, m0, m1, m2, m3⟩ := HP)))
        · go_wp2
          go_meet
          case rel => exact pdu_last A0.out.2
        · have hP := size_le2 Oa.out.size Ob.out.size
          go_wp2
          go_meet
          case rel => exact pdu_done BP.out hP A0.out.2
        · have hP := size_le1 Oa.out.size
          go_wp2
          go_meet
          case rel => exact pdu_done BP.out hP A0.out.2
        · go_wp2
          go_meet
          case rel => exact pdu_done BP.out (Nat.le_refl _) A0.out.2
      case rest =>
        obtain ⟨P, rfl, ⟨pa, pb, pc, BPD⟩, hP, O5⟩ := hcut
        have R2 := hid (O5.blk R2'.out (by simp))
        have R1 := hid (R1'.out.only O5 (by simp) (by simp) (by simp))
        have ZX := hid (O5.blk ZX'.out (by simp))
        have GX := hid (GX'.out.step O5 (by simp))
        have OX := hid (OX'.out.trans (O5.mono (by simp)))
        have PN := hid (show P ≠ Z ∧ P ≠ R ∧ P ≠ L.b ∧ P ≠ L.bf ∧ P ≠ L.bs ∧ w.heap.size ≤ P by
          have h0 := ZX'.out.lt; have h1 := HIN.out.r1; have h2 := HIN.out.b1; have h3 := HIN.out.f1; have h4 := HIN.out.s1; have h5 := OX'.out.size
          exact ⟨by omega, by omega, by omega, by omega, by omega, by omega⟩)
        have hPlt := BPD.lt
        replace BPD := hid BPD
        clear R1' R2' ZX' GX' OX' O5 hP A0
        have m1 := R2.out.cell 1
        simp only [RdC, List.getElem?_cons_succ, List.getElem?_cons_zero] at m1
        have p0 := BPD.out.cell 0
        have p2 := BPD.out.cell 2
        obtain ⟨z0, z1, z2, z3, y0, y1, y2, y3⟩ := pdu_four ZX.out
        simp only [List.getElem?_cons_succ, List.getElem?_cons_zero] at p0 p2
        have HBAD := hid hbad
        have hZlt := ZX.out.lt
        have hRlt := R2.out.lt
        have hZR := ZN.out.1
        have hRZ := Ne.symm ZN.out.1
        have hPZ := PN.out.1
        have hZP := Ne.symm PN.out.1
        by_cases hb1 : lenOf inp < 16
        · clear hbad
          go_wp2
          go_cut [3] (fun s3 wd => (∃ x, s3 = .iface 53 x) ∧ Blk wd Z [.int .u32 0, .int .u32 0, .int .u32 0, .slice none 0 0] 34 ∧ Only [Z] wc wd)
          case first =>
            go_region
            all_goals
              go_wp2
              go_meet
              case rel => exact ⟨⟨_, rfl⟩, Blk.drew (Blk.alloc ((((Blk.set ZX.out 0 _).set 1 _).set 2 _).set 3 _) _), Only.drew (Only.alloc (only_four Z wc _ _ _ _) _)⟩
          case rest =>
            obtain ⟨⟨x, rfl⟩, Z9, O9⟩ := hcut
            clear z0 z1 z2 z3 y0 y1 y2 y3 p0 p2 m1
            obtain ⟨z0, z1, z2, z3, y0, y1, y2, y3⟩ := pdu_four Z9
            replace Z9 := hid Z9
            replace O9 := hid O9
            go_wp2
            refine bodyPost_ret (v := .tuple #[.agg #[.int .u32 0, .int .u32 0, .int .u32 0, .slice none 0 0], .iface 53 x]) ?_ rfl ?_
            · simp [results, Tryd.results10, go_sem, z0, z1, z2, z3]
            · obtain ⟨n1, n2, n3, n4⟩ := ZN.out
              exact ⟨⟨_, O9.out.blk R2.out (by simp; exact Ne.symm n1), by rw [bytesC_length]; simp; omega⟩, Only.trans_new OX.out O9.out (by simp; exact .inr (Nat.le_of_eq HZ.out.symm)), .inl ⟨HBAD.out, ⟨_, _, rfl⟩, R1.out.only O9.out (by simp; exact Ne.symm n2) (by simp; exact Ne.symm n3) (by simp; exact Ne.symm n4)⟩⟩
        · have hb2 : mx < lenOf inp := by omega
          have t1 : decide (lenOf inp < 16) = false := by simp; omega
          clear hbad
          go_wp2
          go_cut [3] (fun s3 wd => (∃ x, s3 = .iface 53 x) ∧ Blk wd Z [.int .u32 0, .int .u32 0, .int .u32 0, .slice none 0 0] 34 ∧ Only [Z] wc wd)
          case first =>
            go_region
            all_goals
              go_wp2
              go_meet
              case rel => exact ⟨⟨_, rfl⟩, Blk.drew (Blk.alloc ((((Blk.set ZX.out 0 _).set 1 _).set 2 _).set 3 _) _), Only.drew (Only.alloc (only_four Z wc _ _ _ _) _)⟩
          case rest =>
            obtain ⟨⟨x, rfl⟩, Z9, O9⟩ := hcut
            clear z0 z1 z2 z3 y0 y1 y2 y3 p0 p2 m1
            obtain ⟨z0, z1, z2, z3, y0, y1, y2, y3⟩ := pdu_four Z9
            replace Z9 := hid Z9
            replace O9 := hid O9
            go_wp2
            refine bodyPost_ret (v := .tuple #[.agg #[.int .u32 0, .int .u32 0, .int .u32 0, .slice none 0 0], .iface 53 x]) ?_ rfl ?_
            · simp [results, Tryd.results10, go_sem, z0, z1, z2, z3]
            · obtain ⟨n1, n2, n3, n4⟩ := ZN.out
              exact ⟨⟨_, O9.out.blk R2.out (by simp; exact Ne.symm n1), by rw [bytesC_length]; simp; omega⟩, Only.trans_new OX.out O9.out (by simp; exact .inr (Nat.le_of_eq HZ.out.symm)), .inl ⟨HBAD.out, ⟨_, _, rfl⟩, R1.out.only O9.out (by simp; exact Ne.symm n2) (by simp; exact Ne.symm n3) (by simp; exact Ne.symm n4)⟩⟩
end Go.Proofs.Qxb6616789aDoor
