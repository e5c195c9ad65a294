/- THE WALK OF FnBufferedTracksReadPDUs. -/
import Derived.Test.Qxb6616789aDoorWalkA
namespace Go.Proofs.Qxb6616789aDoor
open Go.RowKit
set_option linter.unusedVariables false

theorem Blk.new' {w w' : World} {b : Nat} {cs : List Value} {t : TypeId} (h : Blk w b cs t) (o : Only [] w w') : Blk w' b cs t := o.blk h (by simp)
/-- The copied bytes lie where they lay (where there are any). -/
def BdAt (w : World) (n bd : Nat) (zs : List Int) : Prop := 0 < n → Blk w bd (bytesC zs) 5
theorem bd_keep {w w' : World} {n bd R : Nat} {zs : List Int} {L : Lay} (h : BdAt w n bd zs) (o : Only [R, L.b, L.bf, L.bs] w w') (hn : bd ≠ R ∧ bd ≠ L.b ∧ bd ≠ L.bf ∧ bd ≠ L.bs) : BdAt w' n bd zs :=
  fun h0 => o.blk (h h0) (by simp; exact hn)
theorem bd_new {w w' : World} {n bd : Nat} {zs : List Int} (h : BdAt w n bd zs) (o : Only [] w w') : BdAt w' n bd zs :=
  fun h0 => o.blk (h h0) (by simp)

section
variable (a : Option Addr) (bd n c k : Nat) (zs : List Int) (mx : Int) (w : World)
theorem omk_short (hk : k ≤ n) (hn : n ≤ 4096) (h : n - k < 16) : Calls Tryd.prog 7 #[.slice a n c, .int .i64 k, .int .u32 mx] w fun e w' => e = .returned (.tuple #[.int .i64 0, .bool false]) ∧ ∃ n, w' = w.drewN n :=
  (om_short a n c k mx w hk hn h).mono fun e w' h => ⟨h.1, 0, h.2.symm⟩
end

theorem byt_drop {zs : List Int} (h : Byt zs) (k : Nat) : Byt (zs.drop k) := fun z hz => h z (List.mem_of_mem_drop hz)

set_option maxRecDepth 100000 in
set_option maxHeartbeats 8000000 in
theorem walkB_small (a0 : Option Addr) (len cap : Nat) (z0 : List Int) (mx : Int) (x1 x2 : Addr) (w : World) (w0 : IsRow .u8 w a0 len cap z0) (hlen : len ≤ 4096) (hmx : 0 ≤ mx ∧ mx ≤ 4294967295) (hg : Glob w w.heap.size x1 x2) :
    Calls Tryd.prog 4 #[.slice a0 len cap, .int .u32 mx] w fun e w' => e = .returned (.bool true) ∧ Below w.heap.size w w' := by
  have HCl := hid (clone_any a0 len cap z0 w w0 hlen (by have := hg.l0; omega))
  have HG := hid hg
  have hl1 : decide ((4096 : Int) < (len : Int)) = false := by simp; omega
  have HMX := hid hmx
  obtain ⟨m0, m1⟩ := hmx
  clear w0 hg
  go_enter Tryd.func4, Tryd.ntmps4
  go_wp2_with (go_at_call 11; refine (bytes11_yes _ _ _ _ _ (by omega)).mono ?_; rintro e w' ⟨rfl, rfl⟩)
  refine HCl.out.mono ?_
  rintro e w2 ⟨da, c, bd, zs, rfl, hC⟩
  have HC2 := hid hC
  clear hC HCl
  go_wp2_with fail
  refine (newOf_made _ _ _ _ _).mono ?_
  rintro e w3 ⟨rfl, hw3⟩
  obtain ⟨R, hR⟩ : ∃ R, R = w2.heap.size + 3 := ⟨_, rfl⟩
  rw [← hR]
  obtain ⟨L, hL⟩ : ∃ L, L = layAt w2.heap.size bd := ⟨_, rfl⟩
  have RD := hid (show Rd w3 L w.heap.size R mx x1 x2 by rw [← hw3, hR, hL]; exact made_rd w2 _ mx w.heap.size bd x1 x2 (HG.out.step HC2.out.1 (by simp)) HC2.out.2.1)
  have SS := hid (show Start w3 L zs by rw [← hw3, hL]; exact start_of HC2.out hlen)
  have O3 := hid (show Only [] w w3 by rw [← hw3]; exact HC2.out.1.trans (made_blks w2 _ mx).2.2.2.2.1)
  have BD3 := hid (show BdAt w3 len bd zs from fun h0 => by rw [← hw3]; exact (made_blks w2 _ mx).2.2.2.2.1.blk (HC2.out.2.2.2.2 h0).2.1 (by simp))
  have HZ := hid HC2.out.2.2.1
  have HBY := hid HC2.out.2.2.2.1
  have HDA := hid (show 0 < len → da = some ⟨bd, 0, none⟩ ∧ len ≤ c from fun h0 => ⟨(HC2.out.2.2.2.2 h0).1, (HC2.out.2.2.2.2 h0).2.2⟩)
  have BN := hid (show bd ≠ R ∧ bd ≠ L.b ∧ bd ≠ L.bf ∧ bd ≠ L.bs by
    have h1 := RD.out.inn.g4
    have h2 := RD.out.ok.h5; have h3 := RD.out.ok.h8; have h4 := RD.out.ok.h6
    rw [hL] at h1 h2 h3 h4 ⊢
    exact ⟨Ne.symm h1, Ne.symm h2, h3, Ne.symm h4⟩)
  clear hw3 hR hL HC2 HG
  go_wp2_with fail
  refine (rbuffered_start L w.heap.size R mx x1 x2 zs _ (by exact RD.out) (by exact SS.out)).mono ?_
  rintro e w4 ⟨rfl, q4, rfl⟩
  go_wp2_with fail
  go_loopw [6, 7] (fun cns i wr => ∃ k j : Nat, 16 * j ≤ k ∧ k ≤ len ∧ cns = .int .i64 k ∧ i = .int .i64 j ∧ Rd wr L w.heap.size R mx x1 x2 ∧ St wr L (zs.drop k) ∧ BdAt wr len bd zs ∧ Only [R, L.b, L.bf, L.bs] w wr) (fun _ i _ => len + 1 - (intOf i).toNat)
  case atStart => exact ⟨0, 0, by omega, by omega, rfl, rfl, RD.out.draws ⟨q4, rfl⟩, by rw [List.drop_zero]; exact (SS.out.new (Only.of_drewN ⟨q4, rfl⟩)).st, bd_new BD3.out (Only.of_drewN ⟨q4, rfl⟩), (O3.out.mono (by simp)).trans (Only.of_drewN ⟨q4, rfl⟩)⟩
  case round =>
    obtain ⟨k, j, hj, hk, rfl, rfl, RW, SW, BD, OW⟩ := hrel
    have INN := hid RW.inn
    replace RW := hid RW
    replace SW := hid SW
    replace BD := hid BD
    replace OW := hid OW
    clear RD SS O3 BD3
    have hdiv : (j : Int) ≤ (len : Int) / 16 := by omega
    have HLD := hid (show (zs.drop k).length = len - k by rw [List.length_drop, HZ.out])
    by_cases hsh : len - k < 16
    · go_wp2_with fail
      refine (read_short L w.heap.size R mx (zs.drop k) x1 x2 _ (by exact RW.out) (by exact SW.out) (by rw [HLD.out]; exact hsh)).mono ?_
      rintro e w5 ⟨⟨T, x, rfl⟩, A2, A3, A4⟩
      have BD5 := hid (bd_keep BD.out A4 BN.out)
      replace A2 := hid A2
      replace A3 := hid A3
      replace A4 := hid A4
      simp only [noPDU]
      go_wp2_with fail
      refine (omk_short da len c k mx _ hk hlen hsh).mono ?_
      rintro e w6 ⟨rfl, q6, rfl⟩
      go_wp2_with fail
      refine (rbuffered_rd L w.heap.size R mx x1 x2 ([]) (0) _ (A3.out.new (by repeat (first | exact Only.refl _ _ | apply Only.drewN | apply Only.drew | apply Only.alloc))) (A2.out.new (by repeat (first | exact Only.refl _ _ | apply Only.drewN | apply Only.drew | apply Only.alloc))) (by have := HZ.out; first | (simp; done) | (simp; omega))).mono ?_
      rintro e w7 ⟨rfl, q7, rfl⟩
      go_wp2
      go_ret
      refine ⟨rfl, Only.below (S := [R, L.b, L.bf, L.bs]) ?_ (Nat.le_refl _) INN.out.all⟩
      exact Only.trans OW.out (Only.trans A4.out (by repeat (first | exact Only.refl _ _ | apply Only.drewN | apply Only.drew | apply Only.alloc)))
    have h16 : 16 ≤ (zs.drop k).length := by rw [HLD.out]; omega
    have hk16 : k + 16 ≤ len := by omega
    obtain ⟨hda, hcc⟩ := HDA.out (by omega)
    have H16 := hid h16
    clear h16 hsh
    have HB4 := hid (show (zs.drop k).length ≤ 4096 by rw [HLD.out]; omega)
    by_cases hbad : lenOf (zs.drop k) < 16 ∨ mx < lenOf (zs.drop k)
    · have HBAD := hid hbad
      clear hbad
      subst hda
      go_wp2_with fail
      refine (read_bad L w.heap.size R mx (zs.drop k) x1 x2 _ (by exact RW.out) (by exact SW.out) H16.out (byt_drop HBY.out k) HB4.out HMX.out HBAD.out).mono ?_
      rintro e w5 ⟨⟨T, x, rfl⟩, A2, A3, A4⟩
      have BD5 := hid (bd_keep BD.out A4 BN.out)
      replace A2 := hid A2
      replace A3 := hid A3
      replace A4 := hid A4
      simp only [noPDU]
      go_wp2_with fail
      refine (om_bad bd c len k zs mx _ (bd_new BD5.out (by repeat (first | exact Only.refl _ _ | apply Only.drewN | apply Only.drew | apply Only.alloc)) (by omega)) HBY.out HZ.out hk16 hlen m0 m1 HBAD.out).mono ?_
      rintro e w6 ⟨rfl, q6, rfl⟩
      go_wp2_with fail
      refine (rbuffered_rd L w.heap.size R mx x1 x2 ((zs.drop k).drop 16) ((len : Int) - k - 16) _ (A3.out.new (by repeat (first | exact Only.refl _ _ | apply Only.drewN | apply Only.drew | apply Only.alloc))) (A2.out.new (by repeat (first | exact Only.refl _ _ | apply Only.drewN | apply Only.drew | apply Only.alloc))) (by have := HZ.out; first | (simp; done) | (simp; omega))).mono ?_
      rintro e w7 ⟨rfl, q7, rfl⟩
      go_wp2
      go_ret
      refine ⟨rfl, Only.below (S := [R, L.b, L.bf, L.bs]) ?_ (Nat.le_refl _) INN.out.all⟩
      exact Only.trans OW.out (Only.trans A4.out (by repeat (first | exact Only.refl _ _ | apply Only.drewN | apply Only.drew | apply Only.alloc)))
    by_cases hlong : (len : Int) - k < lenOf (zs.drop k)
    · have HL := hid (show 16 ≤ lenOf (zs.drop k) ∧ lenOf (zs.drop k) ≤ mx ∧ (len : Int) - k < lenOf (zs.drop k) by omega)
      clear hbad hlong
      subst hda
      go_wp2_with fail
      refine (read_long L w.heap.size R mx (zs.drop k) x1 x2 _ (by exact RW.out) (by exact SW.out) H16.out (byt_drop HBY.out k) HB4.out HMX.out HL.out.1 HL.out.2.1 (by have := HL.out.2.2; rw [HLD.out]; omega)).mono ?_
      rintro e w5 ⟨⟨T, x, rfl⟩, A2, A3, A4⟩
      have BD5 := hid (bd_keep BD.out A4 BN.out)
      replace A2 := hid A2
      replace A3 := hid A3
      replace A4 := hid A4
      simp only [noPDU]
      go_wp2_with fail
      refine (om_long bd c len k zs mx _ (bd_new BD5.out (by repeat (first | exact Only.refl _ _ | apply Only.drewN | apply Only.drew | apply Only.alloc)) (by omega)) HBY.out HZ.out hk16 hlen m0 m1 HL.out.1 HL.out.2.1 HL.out.2.2).mono ?_
      rintro e w6 ⟨rfl, q6, rfl⟩
      go_wp2_with fail
      refine (rbuffered_rd L w.heap.size R mx x1 x2 ([]) (0) _ (A3.out.new (by repeat (first | exact Only.refl _ _ | apply Only.drewN | apply Only.drew | apply Only.alloc))) (A2.out.new (by repeat (first | exact Only.refl _ _ | apply Only.drewN | apply Only.drew | apply Only.alloc))) (by have := HZ.out; first | (simp; done) | (simp; omega))).mono ?_
      rintro e w7 ⟨rfl, q7, rfl⟩
      go_wp2
      go_ret
      refine ⟨rfl, Only.below (S := [R, L.b, L.bf, L.bs]) ?_ (Nat.le_refl _) INN.out.all⟩
      exact Only.trans OW.out (Only.trans A4.out (by repeat (first | exact Only.refl _ _ | apply Only.drewN | apply Only.drew | apply Only.alloc)))
    obtain ⟨m, hm⟩ : ∃ m : Nat, lenOf (zs.drop k) = (m : Int) + 16 := ⟨(lenOf (zs.drop k) - 16).toNat, by omega⟩
    have HM := hid hm
    have HM2 := hid (show lenOf (zs.drop k) ≤ mx by omega)
    have hmn : k + 16 + m ≤ len := by omega
    clear hbad hlong hm hda hcc
    go_wp2_with fail
    refine (read_ok L w.heap.size R mx (zs.drop k) x1 x2 _ m (by exact RW.out) (by exact SW.out) H16.out (byt_drop HBY.out k) HB4.out HMX.out HM.out HM2.out (by rw [HLD.out]; omega)).mono ?_
    rintro e w5 ⟨⟨pa, pb, pc, bo, cp, rfl⟩, A2, A3, A4⟩
    have BD5 := hid (bd_keep BD.out A4 BN.out)
    replace A2 := hid A2
    replace A3 := hid A3
    replace A4 := hid A4
    go_wp2_with fail
    refine (rbuffered_rd L w.heap.size R mx x1 x2 ((zs.drop k).drop (m + 16)) ((len : Int) - ((k : Int) + 16 + m)) _ (A3.out.new (by repeat (first | exact Only.refl _ _ | apply Only.drewN | apply Only.drew | apply Only.alloc))) (A2.out.new (by repeat (first | exact Only.refl _ _ | apply Only.drewN | apply Only.drew | apply Only.alloc))) (by have := HZ.out; simp; omega)).mono ?_
    rintro e w7 ⟨rfl, q7, rfl⟩
    go_wp2
    go_roundw
    case rel =>
      refine ⟨k + 16 + m, j + 1, by omega, by omega, by go_num, by go_num, A3.out.new (by repeat (first | exact Only.refl _ _ | apply Only.drewN | apply Only.drew | apply Only.alloc)), ?_, bd_new BD5.out (by repeat (first | exact Only.refl _ _ | apply Only.drewN | apply Only.drew | apply Only.alloc)), Only.trans OW.out (Only.trans A4.out (by repeat (first | exact Only.refl _ _ | apply Only.drewN | apply Only.drew | apply Only.alloc)))⟩
      have hS := A2.out
      rw [List.drop_drop, show k + (m + 16) = k + 16 + m by omega] at hS
      exact .inr (hS.new (by repeat (first | exact Only.refl _ _ | apply Only.drewN | apply Only.drew | apply Only.alloc)))
    case measure => simp [intOf]; omega

/-- ████ THE WALK OF THE LAW, WHATEVER THE INPUT. -/
theorem fnBufferedTracksReadPDUs.walk (a0 : Option Addr) (len0 cap0 : Nat) (z0 : List Int) (a1 : Int) (x1 x2 : Addr) (w : World) (w0 : IsRow .u8 w a0 len0 cap0 z0) (w1 : (Lit.int .u32 a1).wf = true)
    (hg : Glob w w.heap.size x1 x2) :
    Calls Tryd.prog 4 #[.slice a0 len0 cap0, .int .u32 a1] w fun e w' => e = .returned (.bool true) ∧ Below w.heap.size w w' := by
  obtain ⟨m0, m1⟩ := Go.bounds_u32 w1
  by_cases h1 : len0 ≤ 4096
  · exact walkB_small a0 len0 cap0 z0 a1 x1 x2 w w0 h1 ⟨m0, m1⟩ hg
  by_cases h2 : len0 ≤ 1048576
  · clear w0 hg
    go_enter Tryd.func4, Tryd.ntmps4
    go_wp2_with (go_at_call 11; refine (bytes11_yes _ _ _ _ _ h2).mono ?_; rintro e w' ⟨rfl, rfl⟩)
    go_ret
    exact ⟨rfl, Below.refl _ _⟩
  · clear w0 hg
    go_enter Tryd.func4, Tryd.ntmps4
    go_wp2_with (go_at_call 11; refine (bytes11_no _ _ _ _ _ (by omega)).mono ?_; rintro e w' ⟨rfl, rfl⟩)
    go_ret
    exact ⟨rfl, Below.refl _ _⟩
end Go.Proofs.Qxb6616789aDoor
