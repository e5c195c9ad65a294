/- (*bufio.Reader).Read where the buffer holds something; and where it is filled from the source first. -/
import Derived.Test.Qxb6616789aDoorEof
import Derived.Deep.DeepCutAuto
namespace Go.Proofs.Qxb6616789aDoor
open Go.RowKit
set_option linter.unusedVariables false

/-- A row of bytes. -/
def bytesC (zs : List Int) : List Value := zs.map (Value.int .u8)
theorem bytesC_length (zs : List Int) : (bytesC zs).length = zs.length := by simp [bytesC]
theorem bytesC_one (zs : List Int) : ∀ v ∈ bytesC zs, v.oneCell' = true := by
  intro v hv
  obtain ⟨z, _, rfl⟩ := List.mem_map.1 hv
  rfl
theorem seg_of {w : World} {b : Nat} {cs ds : List Value} {t : TypeId} {o k : Nat} (h : Blk w b cs t) (e : (cs.drop o).take k = ds) : ∀ j v, ds[j]? = some v → w.cell? ((⟨b, o, none⟩ : Addr).add j) = some v := by
  subst e; exact h.seg o k

set_option maxRecDepth 100000 in
set_option maxHeartbeats 2000000 in
theorem buf_some (b bf bs r wr : Nat) (lb lr : Int) (fs : List Int) (g off len cap : Nat) (cur : List Value) (t : TypeId) (k : Nat) (cs : List Value) (w : World)
    (hB : Blk w b (BufC bf bs r wr .nilIface lb lr) 64) (hF : Blk w bf (bytesC fs) 5) (hG : Blk w g cur t)
    (hk : Nat.min (wr - r) len = k) (hcs : ((bytesC fs).drop r).take k = cs)
    (hr : r < wr) (hw : wr ≤ 4096) (hfs : fs.length = 4096) (hl : 0 < len) (hfit : off + len ≤ cur.length) (h1 : b ≠ bf) (h2 : g ≠ b) (h3 : g ≠ bf) :
    Calls Tryd.prog 43 #[.pointer (some ⟨b, 0, none⟩), .slice (some ⟨g, off, none⟩) len cap] w fun e w' => e = .returned (.tuple #[.int .i64 k, .nilIface]) ∧
      (∃ lb', Blk w' b (BufC bf bs (r + k) wr .nilIface lb' (-1)) 64) ∧ Blk w' g (splice cur off cs) t ∧ Only [g, b] w w' := by
  have hcl : cs.length = k := by
    rw [← hcs, List.length_take, List.length_drop, bytesC_length]; have : k ≤ wr - r := by rw [← hk]; exact Nat.min_le_left _ _
    omega
  have hone : ∀ v ∈ cs, v.oneCell' = true := fun v hv => bytesC_one fs v (by rw [← hcs] at hv; exact List.mem_of_mem_drop (List.mem_of_mem_take hv))
  have hk1 : k ≤ wr - r := by rw [← hk]; exact Nat.min_le_left _ _
  have hk2 : k ≤ len := by rw [← hk]; exact Nat.min_le_right _ _
  have hk0 : 0 < k := by rw [← hk]; exact Nat.lt_min.2 ⟨by omega, hl⟩
  have Hk : Hid (Nat.min (wr - r) len = k) := hk
  have Hcs : Hid (((bytesC fs).drop r).take k = cs) := hcs
  clear hk hcs
  have c0 := hB.cell 0
  have c2 := hB.cell 2
  have c3 := hB.cell 3
  simp only [BufC, List.getElem?_cons_succ, List.getElem?_cons_zero] at c0 c2 c3
  have HB : Hid (Blk w b (BufC bf bs r wr .nilIface lb lr) 64) := hB
  have HF : Hid (Blk w bf (bytesC fs) 5) := hF
  have HG : Hid (Blk w g cur t) := hG
  clear hB hF hG
  have hl0 : ((len : Int) == 0) = false := by rw [beq_eq_false_iff_ne]; omega
  have hrw : ((r : Int) == (wr : Int)) = false := by rw [beq_eq_false_iff_ne]; omega
  have q1 : (wr : Int) ≤ 4096 := by omega
  have q2 : r ≤ wr := by omega
  have q3 : ¬ 4096 = r := by omega
  go_enter Tryd.func43, Tryd.ntmps43
  go_wp2
  go_quiet (fail)
  go_wp2
  obtain ⟨W, hW⟩ : ∃ W, W = w.drewN nq := ⟨_, rfl⟩
  rw [← hW]
  have B1 : Hid (Blk W b (BufC bf bs r wr .nilIface lb lr) 64) := by rw [hW]; exact Blk.drewN HB.out nq
  have B2 : Hid (Blk W bf (bytesC fs) 5) := by rw [hW]; exact Blk.drewN HF.out nq
  have B3 : Hid (Blk W g cur t) := by rw [hW]; exact Blk.drewN HG.out nq
  have O : Hid (Only [g, b] w W) := by rw [hW]; exact (Only.refl _ _).drewN nq
  clear c0 c2 c3 HB HF HG hW
  have c0 := Blk.cell B1.out 0
  have c2 := Blk.cell B1.out 2
  have c3 := Blk.cell B1.out 3
  simp only [BufC, List.getElem?_cons_succ, List.getElem?_cons_zero] at c0 c2 c3
  go_cut [4] (fun s4 wc => s4 = .int .i64 k ∧ Blk wc b (BufC bf bs r wr .nilIface lb lr) 64 ∧ Blk wc bf (bytesC fs) 5 ∧ Blk wc g (splice cur off cs) t ∧ Only [g, b] W wc)
  case first =>
    go_region_law (refine step_copy_blk rfl (.tmp 109) (.tmp 122) 22 22 rfl 5 Tryd.underlying22 (by kernel_rfl) g off len cap ⟨bf, r, none⟩ (wr - r) (4096 - r) (by simp [Act.eval, Act.put]) (by simp [Act.eval, Act.put]) cur t (by exact B3.out) cs (by rw [hcl]; exact Hk.out.symm) (by exact seg_of B2.out Hcs.out) (by omega) hone ?_)
    all_goals
      go_wp2
      go_meet
      case rel => exact ⟨rfl, (Blk.drew B1.out).setRow_other _ (Ne.symm h2), (Blk.drew B2.out).setRow_other _ (Ne.symm h3), (Blk.drew B3.out).setRow _, (Only.drew (Only.refl _ _)).setRow (by simp) _⟩
  case rest =>
    obtain ⟨rfl, R1, R2, R3, R4⟩ := hcut
    clear c0 c2 c3 q3
    have c0 := R1.cell 0
    have c2 := R1.cell 2
    have c5 := R1.cell 5
    have c6 := R1.cell 6
    have f2 := R1.frozen 2
    have f5 := R1.frozen 5
    have f6 := R1.frozen 6
    simp only [BufC, List.getElem?_cons_succ, List.getElem?_cons_zero] at c0 c2 c5 c6
    replace R1 : Hid _ := R1
    replace R2 : Hid _ := R2
    replace R3 : Hid _ := R3
    replace R4 : Hid _ := R4
    go_wp2
    obtain ⟨W3, hW3⟩ : ∃ W3, W3 = wc.setCell ⟨b, 2, none⟩ (.int .i64 ((r : Int) + k)) := ⟨_, rfl⟩
    rw [← hW3]
    have S1 : Hid (Blk W3 b (BufC bf bs (r + k) wr .nilIface lb lr) 64) := by
      rw [hW3]; have := Blk.set R1.out 2 (.int .i64 ((r : Int) + k))
      show Blk _ _ _ _
      simpa [BufC, Int.natCast_add] using this
    have S2 : Hid (Blk W3 bf (bytesC fs) 5) := by rw [hW3]; exact Blk.set_other R2.out _ _ (Ne.symm h1)
    have S3 : Hid (Blk W3 g (splice cur off cs) t) := by rw [hW3]; exact Blk.set_other R3.out _ _ h2
    have S4 : Hid (Only [g, b] W W3) := by rw [hW3]; exact Only.setCell R4.out (by simp) _
    clear R1 R2 R3 R4 hW3 c0 c2 c5 c6 f2 f5 f6
    obtain ⟨z, hz⟩ : ∃ z, W3.cell? ⟨bf, r + k - 1, none⟩ = some (.int .u8 z) := by
      have hlt : r + k - 1 < fs.length := by omega
      refine ⟨fs[r + k - 1], ?_⟩
      rw [Blk.cell S2.out]
      simp [bytesC]
    have c0 := Blk.cell S1.out 0
    have c2 := Blk.cell S1.out 2
    have c5 := Blk.cell S1.out 5
    have f5 := Blk.frozen S1.out 5
    simp only [BufC, List.getElem?_cons_succ, List.getElem?_cons_zero, Int.natCast_add] at c0 c2 c5
    have i0 : 0 ≤ (r : Int) + k - 1 := by omega
    have i1 : (r : Int) + k - 1 < 4096 := by omega
    go_cut [] (fun wc => ∃ lb', Blk wc b (BufC bf bs (r + k) wr .nilIface lb' lr) 64 ∧ Blk wc g (splice cur off cs) t ∧ Only [g, b] W wc)
    case first =>
      go_region
      all_goals
        go_wp2
        go_meet
        case rel => exact ⟨_, Blk.set (Blk.drew S1.out) 5 _, Blk.set_other (Blk.drew S3.out) _ _ h2, Only.setCell (Only.drew S4.out) (by simp) _⟩
    case rest =>
      obtain ⟨lb', T1, T2, T3⟩ := hcut
      clear c0 c2 c5 f5 S1 S2 S3 S4 hz
      have c6 := T1.cell 6
      have f6 := T1.frozen 6
      simp only [BufC, List.getElem?_cons_succ, List.getElem?_cons_zero] at c6
      replace T1 : Hid _ := T1
      replace T2 : Hid _ := T2
      replace T3 : Hid _ := T3
      go_wp2
      go_ret2
      have U1 := Blk.set T1.out 6 (.int .i64 (-1))
      have U2 := Blk.set_other T2.out ⟨b, 6, none⟩ (.int .i64 (-1)) h2
      have U3 := Only.setCell (p := ⟨b, 6, none⟩) T3.out (by simp) (.int .i64 (-1))
      exact ⟨rfl, ⟨lb', U1⟩, U2, Only.trans O.out U3⟩

end Go.Proofs.Qxb6616789aDoor
