/- The law's walk. -/
import Derived.Test.Qxb6616833aFmtPlain
import Derived.Deep.DeepCutAuto
namespace Go.Proofs.Qxb6616833aFmt
open Go.RowKit
set_option linter.unusedVariables false

theorem priv_of {w : World} {a a' : Option Addr} {m c c' : Nat} {ks : List Int} (h1 : BytesIs w a' m ks) (h2 : a' = none ↔ a = none) (h3 : m ≤ c') (h4 : a' = none → c' = 0) (h5 : c' ≤ 1048576) (hc : a = none → m = 0 ∧ c = 0) : PrivIs w a' m c' ks :=
  ⟨h1, fun e => ⟨(hc (h2.1 e)).1, h4 e⟩, h3, h5⟩

theorem baseK_true {kss : List (List Int)} {n m : Nat} {h : Int} {vl : Nat} (hn : kss.length = n) (e : baseK kss n m h vl n = true) : m = 64 ∧ ∀ j, j < n → (kss.getD j []).length = 32 := by
  unfold baseK base0 at e
  rw [← hn, List.take_length] at e
  simp only [Bool.and_eq_true, decide_eq_true_eq] at e
  exact ⟨e.1.1.1.2, (all32_iff kss n hn).1 e.2⟩
theorem eql38_nil (w : World) : (binOp .eql 38 .nilIface .nilIface).run Tryf.prog w = .ok (.bool true) w := by kernel_rfl
theorem neq38_nil (w : World) : (binOp .neq 38 .nilIface .nilIface).run Tryf.prog w = .ok (.bool false) w := by kernel_rfl
theorem eql38_err (x : Value) (w : World) : (binOp .eql 38 (.iface 73 x) .nilIface).run Tryf.prog w = .ok (.bool false) w := by kernel_rfl
/-- The world in the last loop. -/
structure LawC (w wr : World) (g : Nat) (bc : List Value) (a1 a2 p1 p2 : Option Addr) (n m d1 d2 : Nat) (kss : List (List Int)) (ks : List Int) : Prop where
  o : Only [] w wr
  b : Blk wr g bc 34
  k1 : KeysIs wr a1 n kss
  k2 : KeysIs wr a2 n kss
  p1 : PrivIs wr p1 m d1 ks
  p2 : PrivIs wr p2 m d2 ks
theorem LawC.only {w W W' : World} {g : Nat} {bc : List Value} {a1 a2 p1 p2 : Option Addr} {n m d1 d2 : Nat} {kss : List (List Int)} {ks : List Int} (h : LawC w W g bc a1 a2 p1 p2 n m d1 d2 kss ks) (o : Only [] W W') : LawC w W' g bc a1 a2 p1 p2 n m d1 d2 kss ks :=
  ⟨h.o.trans o, o.blk' h.b, h.k1.only o, h.k2.only o, h.p1.only o, h.p2.only o⟩
theorem pbf_true {id : Int} {e : Ending} {w w' : World} (h : PbfAns true id e w' ∧ Only [] w w') : ∃ g, e = .returned (.tuple #[.pointer (some ⟨g, 0, none⟩), .nilIface]) ∧ w'.cell? ⟨g, 0, none⟩ = some (.int .i64 id) ∧ Only [] w w' := by
  rcases h with ⟨⟨_, g, h, h2⟩ | ⟨h, _⟩, o⟩
  · exact ⟨g, h, h2, o⟩
  · exact absurd h (by decide)
theorem pbf_false {id : Int} {e : Ending} {w w' : World} (h : PbfAns false id e w' ∧ Only [] w w') : ∃ x, e = .returned (.tuple #[.pointer none, .iface 73 x]) ∧ Only [] w w' := by
  rcases h with ⟨⟨h, _⟩ | ⟨_, x, h⟩, o⟩
  · exact absurd h (by decide)
  · exact ⟨x, h, o⟩

set_option maxRecDepth 100000 in
set_option maxHeartbeats 8000000 in
theorem law_any (a : Option Addr) (n cap : Nat) (kss : List (List Int)) (ka : Option Addr) (m kc : Nat) (ks : List Int) (h : Int) (pv : List Value) (s : ByteArray) (w : World)
    (hK : KeysIs w a n kss) (hcap : a = none → n = 0 ∧ cap = 0) (hP : BytesIs w ka m ks) (hkc : ka = none → m = 0 ∧ kc = 0) (hn : n ≤ maxLen) (hm : m ≤ maxLen) (hs : s.size ≤ maxLen)
    (hl : ∀ j, j < n → (kss.getD j []).length ≤ maxLen) (hpv : pv.length = 32) (hp1 : ∀ v ∈ pv, v.oneCell' = true) :
    Calls Tryf.prog 3 #[.slice a n cap, .slice ka m kc, .int .u64 h, .agg pv.toArray, .string s] w fun e w' => e = .returned (.bool true) ∧ Only [] w w' := by
  have HK := hid hK
  have HP := hid hP
  have HL := hid hl
  have HCAP := hid hcap
  have HKC := hid hkc
  have HPV := hid (And.intro hpv hp1)
  have hkn : kss.length = n := hK.1
  have hmk : ks.length = m := hP.1
  clear hK hcap hP hkc hl hpv hp1
  go_enter Tryf.func3, Tryf.ntmps3
  go_wp2_with (first
    | (refine st_box rfl 25 _ rfl pv rfl ?_; intro W1 g1 l1 o1 b1; have O1 := hid o1; have B1 := hid b1; clear o1 b1 l1)
    | (refine st_load rfl 25 _ rfl g1 rfl pv 25 (by exact B1.out) _ Tryf.underlying25 rfl (by rw [HPV.out.1]; exact size25) ?_)
    | (go_at_call 6; refine (bytes6_any a ka n cap m kc kss h pv.toArray s _ (HK.out.only O1.out) hs hm hn HL.out).mono ?_; intro e w2 hA; obtain ⟨⟨r, rfl⟩, o2⟩ := hA; have O2 := hid (O1.out.trans o2); have B2 := hid (o2.blk' B1.out); clear o2 B1 O1)
    | (go_at_call 7; refine (over_any a ka n cap m kc kss s _ (HK.out.only O2.out) hs hm hn HL.out).mono ?_; intro e w3 hA; obtain ⟨⟨r, rfl, hS⟩, rfl⟩ := hA; have HS := hid hS; clear hS))
  all_goals try (go_ret; exact ⟨rfl, O2.out⟩)
  have hS := HS.out (by assumption)
  replace HS := hid hS
  have hS1 : n ≤ 65536 := hS.1
  have hS2 : m ≤ 1048576 := hS.2.1
  have hS3 : s.size ≤ 1048576 := hS.2.2.1
  have hn4 : n ≤ 1024 := by omega
  clear hS hn hm hs
  obtain ⟨hb, hhb⟩ : ∃ hb, (h != 0) = hb := ⟨_, rfl⟩
  have H9 := hid (show decide (h ≠ 0) = hb by rw [← hhb]; by_cases hz : h = 0 <;> simp [hz])
  go_wp2_with (first
    | (go_at_call_of 8 (Value.slice a n cap); refine (cloneKeys_any a n cap kss _ (HK.out.only O2.out) HCAP.out hS1 HS.out.2.2.2).mono ?_; intro e w4 hA; obtain ⟨a1, c1, rfl, k1, n1, o⟩ := hA; have K1 := hid k1; have N1 := hid n1; have O3 := hid (O2.out.trans o); have B3 := hid (o.blk' B2.out); clear k1 n1 o B2)
    | (go_at_call_of 9 (Value.slice ka m kc); refine (clone_any ka m kc ks _ (HP.out.only O3.out) HKC.out hS2).mono ?_; intro e w5 hA; obtain ⟨p1, d1, rfl, y1, y2, y3, y4, y5, o⟩ := hA; have P1 := hid (priv_of y1 y2 y3 y4 y5 HKC.out); have O4 := hid (O3.out.trans o); have B4 := hid (o.blk' B3.out); have K1' := hid (K1.out.only o); clear y1 y2 y3 y4 y5 o B3 K1 O2 O3)
    | (go_at_call_of 8 (Value.slice a1 n c1); refine (cloneKeys_any a1 n c1 kss _ K1'.out N1.out hS1 HS.out.2.2.2).mono ?_; intro e w6 hA; obtain ⟨a2, c2, rfl, k2, n2, o⟩ := hA; have K2 := hid k2; have N2 := hid n2; have O5 := hid (O4.out.trans o); have B5 := hid (o.blk' B4.out); have K1 := hid (K1'.out.only o); have P1' := hid (P1.out.only o); clear k2 n2 o B4 O4 K1' P1)
    | (go_at_call_of 9 (Value.slice p1 m d1); refine (clone_any p1 m d1 ks _ P1'.out.is P1'.out.nl hS2).mono ?_; intro e w7 hA; obtain ⟨p2, d2, rfl, y1, y2, y3, y4, y5, o⟩ := hA; have P2 := hid (priv_of y1 y2 y3 y4 y5 P1'.out.nl); have O := hid (O5.out.trans o); have B := hid (o.blk' B5.out); have KA := hid (K1.out.only o); have KB := hid (K2.out.only o); have P1 := hid (P1'.out.only o); clear y1 y2 y3 y4 y5 o B5 K1 K2 O5 P1'))
  · have e1 := eql38_nil
    have e2 := neq38_nil
    have e3 := eql38_err
    have e4 := neq38
    go_loop [14, 15] (fun v i => ∃ k : Nat, k ≤ n ∧ i = .int .i64 k ∧ v = .bool (baseK kss n m h s.size k)) (fun _ i => n - (intOf i).toNat)
    case atStart => exact ⟨0, Nat.zero_le _, rfl, by rw [baseK_zero, base0, H9.out]; refine congrArg _ (Bool.eq_iff_iff.2 ?_); clear H9; cases hb <;> first | contradiction | (simp [okV]; done) | (simp [okV]; omega)⟩
    case round =>
      obtain ⟨k, hk, rfl, rfl⟩ := hrel
      by_cases hlt : k < n
      · obtain ⟨b1, off, rfl, hc⟩ := KB.out.2 (by omega)
        obtain ⟨xa, xl, xc, hcell, hby, _⟩ := hc k hlt
        have HX := hid hby.1
        have hxl : xl ≤ 1048576 := by have := HS.out.2.2.2 k hlt; rw [hby.1] at this; exact this
        clear hc hby
        by_cases hx : xl = 32
        · have HE := hid (baseK_same kss n m h s.size k (by omega) (HX.out.trans hx))
          subst hx
          go_wp2
          go_round
          case rel => exact ⟨k + 1, by omega, by go_num, by rw [HE.out]⟩
          case measure => simp [intOf]; omega
        · have hx2 : ((xl : Int) != 32) = true := by rw [bne_iff_ne]; omega
          have HE := hid (baseK_off kss n m h s.size k (by omega) (by rw [HX.out]; exact hx))
          go_wp2
          go_round
          case rel => exact ⟨k + 1, by omega, by go_num, by rw [HE.out]⟩
          case measure => simp [intOf]; omega
      · obtain rfl : k = n := by omega
        have HSTEP := hid (fun i => idc_step kss k m hkn ks hmk h s.size i)
        have HT := hid (fun e => baseK_true (m := m) (h := h) (vl := s.size) hkn e)
        generalize baseK kss k m h s.size k = BB at *
        cases BB with
        | false =>
          have OV := O
          have BV := B
          go_wp2_with (first
            | (refine st_load rfl 25 _ rfl g1 rfl pv 25 (by exact BV.out) _ Tryf.underlying25 rfl (by rw [HPV.out.1]; exact size25) ?_)
            | (go_at_call 11; refine (block_any h pv s _ HPV.out.1 HPV.out.2).mono ?_; intro e w8 hA; obtain ⟨bc, rfl, hb, o⟩ := hA; have HBC := hid hb; have O8 := hid o; clear hb o)
            | (refine st_alloc rfl 34 rfl z34 zero34 ?_; intro W9 g9 l9 o9 b9; have O9 := hid (O8.out.trans o9); have B9 := hid b9; have L9 := hid (Nat.le_trans O8.out.size l9); clear o9 b9 l9 O8)
            | (refine st_store rfl 34 _ _ rfl g9 rfl bc rfl z34 34 (by exact B9.out) (by rw [HBC.out.len]; exact size34) (by rw [HBC.out.len]; exact z34_length) (by exact HBC.out.one) ?_; intro Wa oa ba; have oo := O9.out.new oa L9.out; have LC := hid (show LawC w Wa g9 bc a1 a2 p1 p2 k m d1 d2 kss ks from ⟨OV.out.trans oo, ba, KA.out.only oo, KB.out.only oo, P1.out.only oo, P2.out.only oo⟩); clear oa ba oo O9 B9))
          clear OV BV KA KB P1 P2 HPV
          go_loopw [19, 20] (fun c v wr => ∃ j : Nat, j ≤ k + 2 ∧ v = .int .i64 j ∧ c = .int .i64 ((idc false kss (ks.drop 32) k j : Nat) : Int) ∧ Hid (LawC w wr g9 bc a1 a2 p1 p2 k m d1 d2 kss ks)) (fun _ v _ => k + 2 - (intOf v).toNat)
          case atStart => exact ⟨0, by omega, rfl, by rw [idc_zero]; rfl, LC.out⟩
          case round =>
            obtain ⟨j, hj, rfl, rfl, LR⟩ := hrel
            clear LC
            by_cases hj2 : j < k + 2
            · have hle := idc_le false kss (ks.drop 32) k j
              have HST := hid (HSTEP.out j)
              have HZ := hid (zz_any a1 k c1 kss (j : Int) p1 m d1 ks bc h s _ LR.out.k1 N1.out (by omega) (by omega) (by omega) LR.out.p1 (by omega) HS.out.2.2.2 HBC.out)
              have HM := hid (fun (wx : World) (o : Only [] wr wx) => com_any a2 k c2 kss (j : Int) p2 m d2 ks h s wx (LR.out.k2.only o) (by omega) (by omega) (by omega) (LR.out.p2.only o) (by omega) HS.out.2.2.2)
              generalize comB kss (j : Int) ks h s.size = R at *
              generalize idc false kss (ks.drop 32) k j = cj at *
              cases R with
              | false =>
                go_wp2_with (first
                  | (refine st_load rfl 34 _ rfl g9 rfl bc 34 (by exact LR.out.b) _ Tryf.underlying34 rfl (by rw [HBC.out.len]; exact size34) ?_)
                  | (go_at_call 12; refine HZ.out.mono ?_; intro e wb hA; obtain ⟨x, rfl, o⟩ := pbf_false hA; have OB := hid o; clear o hA)
                  | (go_at_call 13; refine (HM.out _ OB.out).mono ?_; intro e wd hA; obtain ⟨rfl, hq⟩ := hA; have OD := hid (OB.out.trans (Only.of_drewN hq)); clear hq))
                go_roundw
                case rel => exact ⟨j + 1, by omega, by go_num, by rw [HST.out]; rfl, LR.out.only OD.out⟩
                case measure => simp [intOf]; omega
              | true =>
                go_wp2_with (first
                  | (refine st_load rfl 34 _ rfl g9 rfl bc 34 (by exact LR.out.b) _ Tryf.underlying34 rfl (by rw [HBC.out.len]; exact size34) ?_)
                  | (go_at_call 12; refine HZ.out.mono ?_; intro e wb hA; obtain ⟨gp, rfl, hcp, o⟩ := pbf_true hA; have OB := hid o; have HCP := hid hcp; clear o hA hcp)
                  | (go_at_call 13; refine (HM.out _ OB.out).mono ?_; intro e wd hA; obtain ⟨rfl, hq⟩ := hA; have OD := hid (OB.out.trans (Only.of_drewN hq)); have HCD := hid ((Only.of_drewN (S := []) hq).cell' HCP.out); clear hq HCP)
                  | (go_at_call 14; refine (id_any _ (j : Int) _ HCD.out).mono ?_; intro e we hA; obtain ⟨rfl, rfl⟩ := hA))
            · obtain rfl : j = k + 2 := by omega
              have HE := hid (idc_end false kss (ks.drop 32) k)
              rw [HE.out]
              go_wp2
              go_ret
              exact ⟨by simp, LR.out.o⟩
        | true =>
          obtain ⟨hm64, h32⟩ := HT.out rfl
          have H32 := hid h32
          subst hm64
          have q4 : 64 ≤ d2 := P2.out.le
          have q5 : d2 ≤ 1048576 := P2.out.hi
          have q1 : ¬ d2 = 32 := by omega
          clear HT h32
          go_wp2
          go_loopw [16, 17] (fun c v wr => ∃ j : Nat, j ≤ k ∧ v = .int .i64 j ∧ c = .int .i64 ((cnt kss (ks.drop 32) j : Nat) : Int) ∧ Hid (Only [] w7 wr)) (fun _ v _ => k - (intOf v).toNat)
          case atStart => exact ⟨0, Nat.zero_le _, rfl, rfl, Only.refl _ _⟩
          case round =>
            obtain ⟨j, hj, rfl, rfl, OR⟩ := hrel
            by_cases hjk : j < k
            · obtain ⟨b1, off, rfl, hc⟩ := KB.out.2 (by omega)
              obtain ⟨b2, off2, rfl, hc2⟩ := P2.out.is.2.2 (by omega)
              obtain ⟨xa, xl, xc, hcell, hby, _⟩ := hc j hjk
              obtain rfl : xl = 32 := by have := H32.out j hjk; rw [hby.1] at this; exact this
              replace hcell := OR.out.cell' hcell
              have HC := hid (fun q => equal_any xa (some ⟨b2, off2 + 32, none⟩) 32 xc (d2 - 32) (kss.getD j []) (ks.drop 32) (wr.drewN q) ((hby.only OR.out).only (Only.of_drewN ⟨q, rfl⟩)) (((PrivIs.tail (c := d2) P2.out.is).only OR.out).only (Only.of_drewN ⟨q, rfl⟩)) (by omega))
              have hle := cnt_le kss (ks.drop 32) j
              have HCN := hid (show cnt kss (ks.drop 32) (j + 1) = cnt kss (ks.drop 32) j + (if decide (kss.getD j [] = ks.drop 32) = true then 1 else 0) by simp [cnt])
              generalize decide (kss.getD j [] = ks.drop 32) = eq at *
              generalize cnt kss (ks.drop 32) j = cj at *
              clear hc hc2 hby HSTEP
              cases eq with
              | false =>
                go_wp2
                go_quiet ((go_at_call 10; exact Calls.quiet_of (HC.out _)))
                go_wp2
                go_roundw
                case rel => exact ⟨j + 1, by omega, by go_num, by rw [HCN.out]; rfl, OR.out.drewN _⟩
                case measure => simp [intOf]; omega
              | true =>
                go_wp2
                go_quiet ((go_at_call 10; exact Calls.quiet_of (HC.out _)))
                go_wp2
                go_roundw
                case rel => exact ⟨j + 1, by omega, by go_num, by rw [HCN.out]; go_num, OR.out.drewN _⟩
                case measure => simp [intOf]; omega
            · obtain rfl : k = j := by omega
              have OV := hid (O.out.trans OR.out)
              have BV := hid (OR.out.blk' B.out)
              replace KA := hid (KA.out.only OR.out)
              replace KB := hid (KB.out.only OR.out)
              replace P1 := hid (P1.out.only OR.out)
              replace P2 := hid (P2.out.only OR.out)
              have hcl := cnt_le kss (ks.drop 32) k
              clear OR O B H32 q4 q5 q1
              go_wp2_with (first
                | (refine st_load rfl 25 _ rfl g1 rfl pv 25 (by exact BV.out) _ Tryf.underlying25 rfl (by rw [HPV.out.1]; exact size25) ?_)
                | (go_at_call 11; refine (block_any h pv s _ HPV.out.1 HPV.out.2).mono ?_; intro e w8 hA; obtain ⟨bc, rfl, hb, o⟩ := hA; have HBC := hid hb; have O8 := hid o; clear hb o)
                | (refine st_alloc rfl 34 rfl z34 zero34 ?_; intro W9 g9 l9 o9 b9; have O9 := hid (O8.out.trans o9); have B9 := hid b9; have L9 := hid (Nat.le_trans O8.out.size l9); clear o9 b9 l9 O8)
                | (refine st_store rfl 34 _ _ rfl g9 rfl bc rfl z34 34 (by exact B9.out) (by rw [HBC.out.len]; exact size34) (by rw [HBC.out.len]; exact z34_length) (by exact HBC.out.one) ?_; intro Wa oa ba; have oo := O9.out.new oa L9.out; have LC := hid (show LawC w Wa g9 bc a1 a2 p1 p2 k 64 d1 d2 kss ks from ⟨OV.out.trans oo, ba, KA.out.only oo, KB.out.only oo, P1.out.only oo, P2.out.only oo⟩); clear oa ba oo O9 B9))
              clear OV BV KA KB P1 P2 HPV
              go_loopw [19, 20] (fun c v wr => ∃ j : Nat, j ≤ k + 2 ∧ v = .int .i64 j ∧ c = .int .i64 ((idc true kss (ks.drop 32) k j : Nat) : Int) ∧ Hid (LawC w wr g9 bc a1 a2 p1 p2 k 64 d1 d2 kss ks)) (fun _ v _ => k + 2 - (intOf v).toNat)
              case atStart => exact ⟨0, by omega, rfl, by rw [idc_zero]; rfl, LC.out⟩
              case round =>
                obtain ⟨j, hj, rfl, rfl, LR⟩ := hrel
                clear LC
                by_cases hj2 : j < k + 2
                · have hle := idc_le true kss (ks.drop 32) k j
                  have HST := hid (HSTEP.out j)
                  have HZ := hid (zz_any a1 k c1 kss (j : Int) p1 64 d1 ks bc h s _ LR.out.k1 N1.out (by omega) (by omega) (by omega) LR.out.p1 (by omega) HS.out.2.2.2 HBC.out)
                  have HM := hid (fun (wx : World) (o : Only [] wr wx) => com_any a2 k c2 kss (j : Int) p2 64 d2 ks h s wx (LR.out.k2.only o) (by omega) (by omega) (by omega) (LR.out.p2.only o) (by omega) HS.out.2.2.2)
                  generalize comB kss (j : Int) ks h s.size = R at *
                  generalize idc true kss (ks.drop 32) k j = cj at *
                  cases R with
                  | false =>
                    go_wp2_with (first
                      | (refine st_load rfl 34 _ rfl g9 rfl bc 34 (by exact LR.out.b) _ Tryf.underlying34 rfl (by rw [HBC.out.len]; exact size34) ?_)
                      | (go_at_call 12; refine HZ.out.mono ?_; intro e wb hA; obtain ⟨x, rfl, o⟩ := pbf_false hA; have OB := hid o; clear o hA)
                      | (go_at_call 13; refine (HM.out _ OB.out).mono ?_; intro e wd hA; obtain ⟨rfl, hq⟩ := hA; have OD := hid (OB.out.trans (Only.of_drewN hq)); clear hq))
                    go_roundw
                    case rel => exact ⟨j + 1, by omega, by go_num, by rw [HST.out]; rfl, LR.out.only OD.out⟩
                    case measure => simp [intOf]; omega
                  | true =>
                    go_wp2_with (first
                      | (refine st_load rfl 34 _ rfl g9 rfl bc 34 (by exact LR.out.b) _ Tryf.underlying34 rfl (by rw [HBC.out.len]; exact size34) ?_)
                      | (go_at_call 12; refine HZ.out.mono ?_; intro e wb hA; obtain ⟨gp, rfl, hcp, o⟩ := pbf_true hA; have OB := hid o; have HCP := hid hcp; clear o hA hcp)
                      | (go_at_call 13; refine (HM.out _ OB.out).mono ?_; intro e wd hA; obtain ⟨rfl, hq⟩ := hA; have OD := hid (OB.out.trans (Only.of_drewN hq)); have HCD := hid ((Only.of_drewN (S := []) hq).cell' HCP.out); clear hq HCP)
                      | (go_at_call 14; refine (id_any _ (j : Int) _ HCD.out).mono ?_; intro e we hA; obtain ⟨rfl, rfl⟩ := hA))
                    go_roundw
                    case rel => exact ⟨j + 1, by omega, by go_num, by rw [HST.out]; go_num, LR.out.only OD.out⟩
                    case measure => simp [intOf]; omega
                · obtain rfl : j = k + 2 := by omega
                  have HE := hid (idc_end true kss (ks.drop 32) k)
                  rw [HE.out]
                  go_wp2
                  go_ret
                  exact ⟨by simp, LR.out.o⟩
  all_goals
    have HB0 := hid (show base0 n m h s.size = false by rw [base0, H9.out]; clear H9; cases hb <;> first | contradiction | (simp [okV]; done) | (simp [okV]; omega))
    have e1 := eql38_nil
    have e2 := neq38_nil
    have e3 := eql38_err
    have e4 := neq38
    go_loop [14, 15] (fun v i => ∃ k : Nat, k ≤ n ∧ i = .int .i64 k ∧ v = .bool (baseK kss n m h s.size k)) (fun _ i => n - (intOf i).toNat)
    case atStart => exact ⟨0, Nat.zero_le _, rfl, by rw [baseK_zero, base0, H9.out]; refine congrArg _ (Bool.eq_iff_iff.2 ?_); clear H9; cases hb <;> first | contradiction | (simp [okV]; done) | (simp [okV]; omega)⟩
    case round =>
      obtain ⟨k, hk, rfl, rfl⟩ := hrel
      by_cases hlt : k < n
      · obtain ⟨b1, off, rfl, hc⟩ := KB.out.2 (by omega)
        obtain ⟨xa, xl, xc, hcell, hby, _⟩ := hc k hlt
        have HX := hid hby.1
        have hxl : xl ≤ 1048576 := by have := HS.out.2.2.2 k hlt; rw [hby.1] at this; exact this
        clear hc hby
        by_cases hx : xl = 32
        · have HE := hid (baseK_same kss n m h s.size k (by omega) (HX.out.trans hx))
          subst hx
          go_wp2
          go_round
          case rel => exact ⟨k + 1, by omega, by go_num, by rw [HE.out]⟩
          case measure => simp [intOf]; omega
        · have hx2 : ((xl : Int) != 32) = true := by rw [bne_iff_ne]; omega
          have HE := hid (baseK_off kss n m h s.size k (by omega) (by rw [HX.out]; exact hx))
          go_wp2
          go_round
          case rel => exact ⟨k + 1, by omega, by go_num, by rw [HE.out]⟩
          case measure => simp [intOf]; omega
      · obtain rfl : k = n := by omega
        have HSTEP := hid (fun i => idc_step kss k m hkn ks hmk h s.size i)
        have HT := hid (fun e => baseK_true (m := m) (h := h) (vl := s.size) hkn e)
        have HBF := hid (show baseK kss k m h s.size k = false by rw [baseK, HB0.out]; rfl)
        generalize baseK kss k m h s.size k = BB at *
        obtain rfl : BB = false := HBF.out
        have OV := O
        have BV := B
        go_wp2_with (first
          | (refine st_load rfl 25 _ rfl g1 rfl pv 25 (by exact BV.out) _ Tryf.underlying25 rfl (by rw [HPV.out.1]; exact size25) ?_)
          | (go_at_call 11; refine (block_any h pv s _ HPV.out.1 HPV.out.2).mono ?_; intro e w8 hA; obtain ⟨bc, rfl, hb, o⟩ := hA; have HBC := hid hb; have O8 := hid o; clear hb o)
          | (refine st_alloc rfl 34 rfl z34 zero34 ?_; intro W9 g9 l9 o9 b9; have O9 := hid (O8.out.trans o9); have B9 := hid b9; have L9 := hid (Nat.le_trans O8.out.size l9); clear o9 b9 l9 O8)
          | (refine st_store rfl 34 _ _ rfl g9 rfl bc rfl z34 34 (by exact B9.out) (by rw [HBC.out.len]; exact size34) (by rw [HBC.out.len]; exact z34_length) (by exact HBC.out.one) ?_; intro Wa oa ba; have oo := O9.out.new oa L9.out; have LC := hid (show LawC w Wa g9 bc a1 a2 p1 p2 k m d1 d2 kss ks from ⟨OV.out.trans oo, ba, KA.out.only oo, KB.out.only oo, P1.out.only oo, P2.out.only oo⟩); clear oa ba oo O9 B9))
        clear OV BV KA KB P1 P2 HPV
        go_loopw [19, 20] (fun c v wr => ∃ j : Nat, j ≤ k + 2 ∧ v = .int .i64 j ∧ c = .int .i64 ((idc false kss (ks.drop 32) k j : Nat) : Int) ∧ Hid (LawC w wr g9 bc a1 a2 p1 p2 k m d1 d2 kss ks)) (fun _ v _ => k + 2 - (intOf v).toNat)
        case atStart => exact ⟨0, by omega, rfl, by rw [idc_zero]; rfl, LC.out⟩
        case round =>
          obtain ⟨j, hj, rfl, rfl, LR⟩ := hrel
          clear LC
          by_cases hj2 : j < k + 2
          · have hle := idc_le false kss (ks.drop 32) k j
            have HST := hid (HSTEP.out j)
            have HZ := hid (zz_any a1 k c1 kss (j : Int) p1 m d1 ks bc h s _ LR.out.k1 N1.out (by omega) (by omega) (by omega) LR.out.p1 (by omega) HS.out.2.2.2 HBC.out)
            have HM := hid (fun (wx : World) (o : Only [] wr wx) => com_any a2 k c2 kss (j : Int) p2 m d2 ks h s wx (LR.out.k2.only o) (by omega) (by omega) (by omega) (LR.out.p2.only o) (by omega) HS.out.2.2.2)
            generalize comB kss (j : Int) ks h s.size = R at *
            generalize idc false kss (ks.drop 32) k j = cj at *
            cases R with
            | false =>
              go_wp2_with (first
                | (refine st_load rfl 34 _ rfl g9 rfl bc 34 (by exact LR.out.b) _ Tryf.underlying34 rfl (by rw [HBC.out.len]; exact size34) ?_)
                | (go_at_call 12; refine HZ.out.mono ?_; intro e wb hA; obtain ⟨x, rfl, o⟩ := pbf_false hA; have OB := hid o; clear o hA)
                | (go_at_call 13; refine (HM.out _ OB.out).mono ?_; intro e wd hA; obtain ⟨rfl, hq⟩ := hA; have OD := hid (OB.out.trans (Only.of_drewN hq)); clear hq))
              go_roundw
              case rel => exact ⟨j + 1, by omega, by go_num, by rw [HST.out]; rfl, LR.out.only OD.out⟩
              case measure => simp [intOf]; omega
            | true =>
              go_wp2_with (first
                | (refine st_load rfl 34 _ rfl g9 rfl bc 34 (by exact LR.out.b) _ Tryf.underlying34 rfl (by rw [HBC.out.len]; exact size34) ?_)
                | (go_at_call 12; refine HZ.out.mono ?_; intro e wb hA; obtain ⟨gp, rfl, hcp, o⟩ := pbf_true hA; have OB := hid o; have HCP := hid hcp; clear o hA hcp)
                | (go_at_call 13; refine (HM.out _ OB.out).mono ?_; intro e wd hA; obtain ⟨rfl, hq⟩ := hA; have OD := hid (OB.out.trans (Only.of_drewN hq)); have HCD := hid ((Only.of_drewN (S := []) hq).cell' HCP.out); clear hq HCP)
                | (go_at_call 14; refine (id_any _ (j : Int) _ HCD.out).mono ?_; intro e we hA; obtain ⟨rfl, rfl⟩ := hA))
          · obtain rfl : j = k + 2 := by omega
            have HE := hid (idc_end false kss (ks.drop 32) k)
            rw [HE.out]
            go_wp2
            go_ret
            exact ⟨by simp, LR.out.o⟩
end Go.Proofs.Qxb6616833aFmt
