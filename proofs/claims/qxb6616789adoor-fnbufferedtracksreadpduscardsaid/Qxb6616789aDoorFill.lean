/- (*bufio.Reader).Read where the buffer is filled from the source first. -/
import Derived.Test.Qxb6616789aDoorBuf
namespace Go.Proofs.Qxb6616789aDoor
open Go.RowKit
set_option linter.unusedVariables false

theorem filled_facts {w W0 w' : World} {b bf bs g n : Nat} {lb lr : Int} {zs fs0 : List Int} {cur : List Value} {t : TypeId} {sl : Value}
    (B1 : Blk W0 b (BufC bf bs 0 0 .nilIface lb lr) 64) (B5 : Blk W0 g cur t) (O : Only [g, b, bf, bs] w W0)
    (A1 : Blk w' bf (bytesC zs ++ (bytesC fs0).drop n) 5) (A2 : Blk w' bs (SrcC sl n (-1)) 62) (A3 : Only [bf, bs] W0 w')
    (h1 : b ≠ bf) (h2 : g ≠ b) (h3 : g ≠ bf) (h4 : b ≠ bs) (h9 : g ≠ bs) :
    Hid (Blk w' b (BufC bf bs 0 0 .nilIface lb lr) 64) ∧ Hid (Blk w' bf (bytesC (zs ++ fs0.drop n)) 5 ∧ Blk w' bs (SrcC sl n (-1)) 62) ∧ Hid (Blk w' g cur t ∧ Only [g, b, bf, bs] w w') ∧ w'.cell? ⟨b, 4, none⟩ = some .nilIface ∧ w'.frozen? ⟨b, 4, none⟩ = false := by
  have D1 : Blk w' b (BufC bf bs 0 0 .nilIface lb lr) 64 := A3.blk B1 (by simp; exact ⟨h1, h4⟩)
  refine ⟨D1, ⟨?_, A2⟩, ⟨A3.blk B5 (by simp; exact ⟨h3, h9⟩), O.trans (A3.mono (by simp))⟩, D1.cell 4, D1.frozen 4⟩
  have e : bytesC zs ++ (bytesC fs0).drop n = bytesC (zs ++ fs0.drop n) := by simp [bytesC]
  rw [← e]; exact A1
theorem bytesC_app (zs fs : List Int) (n : Nat) : bytesC zs ++ (bytesC fs).drop n = bytesC (zs ++ fs.drop n) := by
  simp [bytesC]
theorem bytesC_take_app (zs fs : List Int) (k : Nat) (h : k ≤ zs.length) : (bytesC (zs ++ fs)).take k = (bytesC zs).take k := by
  simp only [bytesC, List.map_append]
  rw [List.take_append_of_le_length (by simpa using h)]

set_option maxRecDepth 100000 in
set_option maxHeartbeats 2000000 in
theorem buf_fill (b bf bs bd : Nat) (lb lr : Int) (fs0 zs : List Int) (n c : Nat) (pr : Int) (g off len cap : Nat) (cur : List Value) (t : TypeId) (k : Nat) (cs : List Value) (w : World)
    (hB : Blk w b (BufC bf bs 0 0 .nilIface lb lr) 64) (hF : Blk w bf (bytesC fs0) 5) (hS : Blk w bs (SrcC (.slice (some ⟨bd, 0, none⟩) n c) 0 pr) 62) (hD : Blk w bd (bytesC zs) 5) (hG : Blk w g cur t)
    (hk : Nat.min n len = k) (hcs : (bytesC zs).take k = cs)
    (hn : 0 < n) (hw : n ≤ 4096) (hnc : n ≤ c) (hzs : zs.length = n) (hfs0 : fs0.length = 4096) (hl : 0 < len) (hl2 : len < 4096) (hfit : off + len ≤ cur.length)
    (h1 : b ≠ bf) (h2 : g ≠ b) (h3 : g ≠ bf) (h4 : b ≠ bs) (h5 : b ≠ bd) (h6 : bs ≠ bd) (h7 : bs ≠ bf) (h8 : bd ≠ bf) (h9 : g ≠ bs) (h10 : g ≠ bd) :
    Calls Tryd.prog 43 #[.pointer (some ⟨b, 0, none⟩), .slice (some ⟨g, off, none⟩) len cap] w fun e w' => e = .returned (.tuple #[.int .i64 k, .nilIface]) ∧
      (∃ lb', Blk w' b (BufC bf bs k n .nilIface lb' (-1)) 64) ∧ Blk w' bf (bytesC (zs ++ fs0.drop n)) 5 ∧ Blk w' bs (SrcC (.slice (some ⟨bd, 0, none⟩) n c) n (-1)) 62 ∧ Blk w' g (splice cur off cs) t ∧ Only [g, b, bf, bs] w w' := by
  have hk1 : k ≤ n := by rw [← hk]; exact Nat.min_le_left _ _
  have hk2 : k ≤ len := by rw [← hk]; exact Nat.min_le_right _ _
  have hk0 : 0 < k := by rw [← hk]; exact Nat.lt_min.2 ⟨by omega, hl⟩
  have hcl : cs.length = k := by
    rw [← hcs, List.length_take, bytesC_length]; omega
  have hone : ∀ v ∈ cs, v.oneCell' = true := fun v hv => bytesC_one zs v (by rw [← hcs] at hv; exact List.mem_of_mem_take hv)
  have c0 := hB.cell 0
  have c1 := hB.cell 1
  have c2 := hB.cell 2
  have c3 := hB.cell 3
  have c4 := hB.cell 4
  have f2 := hB.frozen 2
  have f3 := hB.frozen 3
  simp only [BufC, List.getElem?_cons_succ, List.getElem?_cons_zero] at c0 c1 c2 c3 c4
  have HB : Hid (Blk w b (BufC bf bs 0 0 .nilIface lb lr) 64) := hB
  have HF : Hid (Blk w bf (bytesC fs0) 5) := hF
  have HS : Hid (Blk w bs (SrcC (.slice (some ⟨bd, 0, none⟩) n c) 0 pr) 62) := hS
  have HD : Hid (Blk w bd (bytesC zs) 5) := hD
  have HG : Hid (Blk w g cur t) := hG
  have HKK : Hid (Nat.min n len = k ∧ (bytesC zs).take k = cs) := ⟨hk, hcs⟩
  clear hB hF hG hS hD hk hcs
  have hl0 : ((len : Int) == 0) = false := by rw [beq_eq_false_iff_ne]; omega
  have hl1 : decide ((4096 : Int) ≤ (len : Int)) = false := by simp; omega
  have hn0 : ((n : Int) == 0) = false := by rw [beq_eq_false_iff_ne]; omega
  go_enter Tryd.func43, Tryd.ntmps43
  go_wp2
  go_quiet (fail)
  go_wp2
  obtain ⟨W, hW⟩ : ∃ W, W = ((w.drewN nq).setCell ⟨b, 2, none⟩ (.int .i64 0)).setCell ⟨b, 3, none⟩ (.int .i64 0) := ⟨_, rfl⟩
  rw [← hW]
  have B1 : Hid (Blk W b (BufC bf bs 0 0 .nilIface lb lr) 64) := by rw [hW]; exact ((Blk.drewN HB.out nq).set 2 _).set 3 _
  have B2 : Hid (Blk W bs (SrcC (.slice (some ⟨bd, 0, none⟩) n c) 0 pr) 62) := by rw [hW]; exact ((Blk.drewN HS.out nq).set_other _ _ (Ne.symm h4)).set_other _ _ (Ne.symm h4)
  have B3 : Hid (Blk W bd (bytesC zs) 5) := by rw [hW]; exact ((Blk.drewN HD.out nq).set_other _ _ (Ne.symm h5)).set_other _ _ (Ne.symm h5)
  have B4 : Hid (Blk W bf (bytesC fs0) 5) := by rw [hW]; exact ((Blk.drewN HF.out nq).set_other _ _ (Ne.symm h1)).set_other _ _ (Ne.symm h1)
  have B5 : Hid (Blk W g cur t) := by rw [hW]; exact ((Blk.drewN HG.out nq).set_other _ _ h2).set_other _ _ h2
  have O : Hid (Only [g, b, bf, bs] w W) := by rw [hW]; exact (((Only.refl _ _).drewN nq).setCell (by simp) _).setCell (by simp) _
  clear c0 c1 c2 c3 c4 f2 f3 HB HS HD HF HG hW
  have c0 := Blk.cell B1.out 0
  have c1 := Blk.cell B1.out 1
  simp only [BufC, List.getElem?_cons_succ, List.getElem?_cons_zero] at c0 c1
  have hm := method_src
  go_cut [4] (fun s4 wc => s4 = .int .i64 n ∧ Blk wc b (BufC bf bs 0 0 .nilIface lb lr) 64 ∧ Blk wc bf (bytesC (zs ++ fs0.drop n)) 5 ∧ Blk wc bs (SrcC (.slice (some ⟨bd, 0, none⟩) n c) n (-1)) 62 ∧ Blk wc g cur t ∧ Only [g, b, bf, bs] w wc)
  case first =>
    go_region_with (go_at_call 42; refine (src_read bs bd bf n c pr (bytesC zs) (bytesC fs0) _ (by exact B2.out) hn hw hnc (by exact B3.out) (by rw [bytesC_length]; exact hzs) (by exact B4.out) (by rw [bytesC_length]; exact hfs0) h6 h7 h8 (bytesC_one zs)).mono ?_; rintro e w' ⟨rfl, A1, A2, A3⟩; obtain ⟨D1, D2, D4, d4, g4⟩ : Hid (Blk w' b (BufC bf bs 0 0 .nilIface lb lr) 64) ∧ Hid (Blk w' bf (bytesC (zs ++ fs0.drop n)) 5 ∧ Blk w' bs (SrcC (.slice (some ⟨bd, 0, none⟩) n c) n (-1)) 62) ∧ Hid (Blk w' g cur t ∧ Only [g, b, bf, bs] w w') ∧ w'.cell? ⟨b, 4, none⟩ = some .nilIface ∧ w'.frozen? ⟨b, 4, none⟩ = false := filled_facts (by exact B1.out) (by exact B5.out) (by repeat (first | exact O.out | apply Only.drewN | apply Only.drew)) A1 A2 A3 h1 h2 h3 h4 h9; clear A1 A2 A3)
    all_goals
      go_wp2
      go_meet
      case rel => exact ⟨rfl, Blk.set D1.out 4 _, Blk.set_other D2.out.1 _ _ (Ne.symm h1), Blk.set_other D2.out.2 _ _ (Ne.symm h4), Blk.set_other D4.out.1 _ _ h2, Only.setCell D4.out.2 (by simp) _⟩
  case rest =>
    obtain ⟨rfl, R1, R2, R3, R4, R5⟩ := hcut
    clear B1 B2 B3 B4 B5 O c0 c1 hm
    have c3 := R1.cell 3
    have f3 := R1.frozen 3
    simp only [BufC, List.getElem?_cons_succ, List.getElem?_cons_zero] at c3
    replace R1 : Hid _ := R1
    replace R2 : Hid _ := R2
    replace R3 : Hid _ := R3
    replace R4 : Hid _ := R4
    replace R5 : Hid _ := R5
    go_wp2
    obtain ⟨W, hW⟩ : ∃ W, W = wc.setCell ⟨b, 3, none⟩ (.int .i64 n) := ⟨_, rfl⟩
    rw [← hW]
    obtain ⟨r, hr0⟩ : ∃ r : Nat, r = 0 := ⟨0, rfl⟩
    obtain ⟨fs, hf4⟩ : ∃ fs, fs = zs ++ fs0.drop n := ⟨_, rfl⟩
    have hfs : fs.length = 4096 := by rw [hf4]; simp; omega
    have B1 : Hid (Blk W b (BufC bf bs r n .nilIface lb lr) 64) := by rw [hW, hr0]; exact Blk.set R1.out 3 _
    have B2 : Hid (Blk W bf (bytesC fs) 5) := by rw [hW, hf4]; exact Blk.set_other R2.out _ _ (Ne.symm h1)
    have B6 : Hid (Blk W bs (SrcC (.slice (some ⟨bd, 0, none⟩) n c) n (-1)) 62) := by rw [hW]; exact Blk.set_other R3.out _ _ (Ne.symm h4)
    have B3 : Hid (Blk W g cur t) := by rw [hW]; exact Blk.set_other R4.out _ _ h2
    have O : Hid (Only [g, b, bf, bs] w W) := by rw [hW]; exact Only.setCell R5.out (by simp) _
    have Hk : Hid (Nat.min (n - r) len = k) := by rw [hr0]; exact HKK.out.1
    have Hcs : Hid (((bytesC fs).drop r).take k = cs) := by rw [hr0, hf4, List.drop_zero, bytesC_take_app _ _ _ (by omega)]; exact HKK.out.2
    have hr : r < n := by omega
    have hk3 : k ≤ n - r := by omega
    have q1 : (n : Int) ≤ 4096 := by omega
    have q2 : r ≤ n := by omega
    have q3 : ¬ 4096 = r := by omega
    have HR0 : Hid (r = 0) := hr0
    have HF4 : Hid (fs = zs ++ fs0.drop n) := hf4
    clear hr0 hf4 R1 R2 R3 R4 R5 hW c3 f3 HKK hk1
    have c0 := Blk.cell B1.out 0
    have c2 := Blk.cell B1.out 2
    have c3 := Blk.cell B1.out 3
    simp only [BufC, List.getElem?_cons_succ, List.getElem?_cons_zero] at c0 c2 c3
    go_cut [4] (fun s4 wc => s4 = .int .i64 k ∧ Blk wc b (BufC bf bs r n .nilIface lb lr) 64 ∧ Blk wc bf (bytesC fs) 5 ∧ Blk wc g (splice cur off cs) t ∧ Only [g, b] W wc)
    case first =>
      go_region_law (refine step_copy_blk rfl (.tmp 109) (.tmp 122) 22 22 rfl 5 Tryd.underlying22 (by kernel_rfl) g off len cap ⟨bf, r, none⟩ (n - r) (4096 - r) (by simp [Act.eval, Act.put]) (by simp [Act.eval, Act.put]) cur t (by exact B3.out) cs (by rw [hcl]; exact Hk.out.symm) (by exact seg_of B2.out Hcs.out) (by omega) hone ?_)
      all_goals
        go_wp2
        go_meet
        case rel => exact ⟨rfl, (Blk.drew B1.out).setRow_other _ (Ne.symm h2), (Blk.drew B2.out).setRow_other _ (Ne.symm h3), (Blk.drew B3.out).setRow _, (Only.drew (Only.refl _ _)).setRow (by simp) _⟩
    case rest =>
      obtain ⟨rfl, R1, R2, R3, R4⟩ := hcut
      clear c0 c2 c3 q3
      have c0 := R1.cell 0
      have c2 := R1.cell 2
      have c5 := R1.cell 5
      have c6 := R1.cell 6
      have f2 := R1.frozen 2
      have f5 := R1.frozen 5
      have f6 := R1.frozen 6
      simp only [BufC, List.getElem?_cons_succ, List.getElem?_cons_zero] at c0 c2 c5 c6
      replace R1 : Hid _ := R1
      replace R2 : Hid _ := R2
      replace R3 : Hid _ := R3
      replace R4 : Hid _ := R4
      go_wp2
      obtain ⟨W3, hW3⟩ : ∃ W3, W3 = wc.setCell ⟨b, 2, none⟩ (.int .i64 ((r : Int) + k)) := ⟨_, rfl⟩
      rw [← hW3]
      have S1 : Hid (Blk W3 b (BufC bf bs (r + k) n .nilIface lb lr) 64) := by
        rw [hW3]; have := Blk.set R1.out 2 (.int .i64 ((r : Int) + k))
        show Blk _ _ _ _
        simpa [BufC, Int.natCast_add] using this
      have S2 : Hid (Blk W3 bf (bytesC fs) 5) := by rw [hW3]; exact Blk.set_other R2.out _ _ (Ne.symm h1)
      have S3 : Hid (Blk W3 g (splice cur off cs) t) := by rw [hW3]; exact Blk.set_other R3.out _ _ h2
      have S4 : Hid (Only [g, b] W W3) := by rw [hW3]; exact Only.setCell R4.out (by simp) _
      clear R1 R2 R3 R4 hW3 c0 c2 c5 c6 f2 f5 f6
      obtain ⟨z, hz⟩ : ∃ z, W3.cell? ⟨bf, r + k - 1, none⟩ = some (.int .u8 z) := by
        have hlt : r + k - 1 < fs.length := by omega
        refine ⟨fs[r + k - 1], ?_⟩
        rw [Blk.cell S2.out]
        simp [bytesC]
      have c0 := Blk.cell S1.out 0
      have c2 := Blk.cell S1.out 2
      have c5 := Blk.cell S1.out 5
      have f5 := Blk.frozen S1.out 5
      simp only [BufC, List.getElem?_cons_succ, List.getElem?_cons_zero, Int.natCast_add] at c0 c2 c5
      have i0 : 0 ≤ (r : Int) + k - 1 := by omega
      have i1 : (r : Int) + k - 1 < 4096 := by omega
      go_cut [] (fun wc => ∃ lb', Blk wc b (BufC bf bs (r + k) n .nilIface lb' lr) 64 ∧ Blk wc g (splice cur off cs) t ∧ Only [g, b] W wc)
      case first =>
        go_region
        all_goals
          go_wp2
          go_meet
          case rel => exact ⟨_, Blk.set (Blk.drew S1.out) 5 _, Blk.set_other (Blk.drew S3.out) _ _ h2, Only.setCell (Only.drew S4.out) (by simp) _⟩
      case rest =>
        obtain ⟨lb', T1, T2, T3⟩ := hcut
        clear c0 c2 c5 f5 S1 S2 S3 S4 hz
        have c6 := T1.cell 6
        have f6 := T1.frozen 6
        simp only [BufC, List.getElem?_cons_succ, List.getElem?_cons_zero] at c6
        replace T1 : Hid _ := T1
        replace T2 : Hid _ := T2
        replace T3 : Hid _ := T3
        go_wp2
        go_ret2
        have U1 := Blk.set T1.out 6 (.int .i64 (-1))
        have U2 := Blk.set_other T2.out ⟨b, 6, none⟩ (.int .i64 (-1)) h2
        have U3 := Only.setCell (p := ⟨b, 6, none⟩) T3.out (by simp) (.int .i64 (-1))
        rw [HR0.out, Nat.zero_add] at U1
        exact ⟨rfl, ⟨lb', U1⟩, (by have := Only.blk U3 B2.out (by simp; exact ⟨Ne.symm h3, Ne.symm h1⟩); rw [HF4.out] at this; exact this), Only.blk U3 B6.out (by simp; exact ⟨Ne.symm h9, Ne.symm h4⟩), U2, Only.trans O.out (U3.mono (by simp))⟩
end Go.Proofs.Qxb6616789aDoor
