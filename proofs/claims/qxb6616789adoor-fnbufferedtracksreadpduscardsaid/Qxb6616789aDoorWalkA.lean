/- THE WALK OF FnBufferedAfterOneRead. -/
import Derived.Test.Qxb6616789aDoorRes
namespace Go.Proofs.Qxb6616789aDoor
open Go.RowKit
set_option linter.unusedVariables false

theorem newOf_made (a : Option Addr) (n c : Nat) (mx : Int) (w : World) :
    Calls Tryd.prog 8 #[.slice a n c, .int .u32 mx] w fun e w' => e = .returned (.pointer (some ⟨w.heap.size + 3, 0, none⟩)) ∧ made w (.slice a n c) mx = w' := newOf_any a n c mx w

/-- The bytes of a slice that came in, copied. -/
def Copied (w : World) (len : Nat) (da : Option Addr) (c : Nat) (bd : Nat) (zs : List Int) (w' : World) : Prop :=
  Only [] w w' ∧ bd < w'.heap.size ∧ zs.length = len ∧ Byt zs ∧ (0 < len → da = some ⟨bd, 0, none⟩ ∧ Blk w' bd (bytesC zs) 5 ∧ len ≤ c)
theorem clone_any (a0 : Option Addr) (len cap : Nat) (z0 : List Int) (w : World) (w0 : IsRow .u8 w a0 len cap z0) (hlen : len ≤ 4096) (hw : 0 < w.heap.size) :
    Calls Tryd.prog 6 #[.slice a0 len cap] w fun e w' => ∃ da c bd zs, e = .returned (.slice da len c) ∧ Copied w len da c bd zs w' := by
  rcases w0 with ⟨rfl, rfl, rfl, rfl⟩ | ⟨x, rfl, hl, hm, hz, hx, hwf⟩
  · refine (clone_nil w).mono ?_
    rintro e w' ⟨rfl, rfl⟩
    exact ⟨_, _, 0, [], rfl, Only.refl _ _, hw, rfl, by simp [Byt], by simp⟩
  · refine (clone_some x len cap z0 w hl hz hlen hx).mono ?_
    rintro e w' ⟨rfl, hB, hO⟩
    refine ⟨_, _, w.heap.size, z0.take len, rfl, hO, hB.lt, by simp; omega, ?_, fun _ => ⟨rfl, hB, Nat.le_refl _⟩⟩
    intro z hz'
    exact Go.bounds_u8 (hwf z (List.mem_of_mem_take hz'))

theorem glob_of {w : World} {x1 x2 : Addr} (g1 : w.cell? ⟨1, 0, none⟩ = some (.iface 70 (.pointer (some x1)))) (g2 : w.cell? ⟨2, 0, none⟩ = some (.iface 70 (.pointer (some x2))))
    (a1 : ∃ c t, w.heap[x1.block]? = some (.cells c t (0, 0))) (a2 : ∃ c t, w.heap[x2.block]? = some (.cells c t (0, 0))) : Glob w w.heap.size x1 x2 := by
  refine ⟨g1, g2, a1, a2, World.block_lt_of_cell? _ _ g2, ?_, ?_, Nat.le_refl _⟩
  · obtain ⟨c, t, h⟩ := a1; exact (Array.getElem?_eq_some_iff.1 h).1
  · obtain ⟨c, t, h⟩ := a2; exact (Array.getElem?_eq_some_iff.1 h).1

theorem Copied.draws {w w1 : World} {len c bd : Nat} {da : Option Addr} {zs : List Int} (h : Copied w len da c bd zs w1) (q : Nat) : Copied w len da c bd zs (w1.drewN q) :=
  ⟨h.1.drewN q, h.2.1, h.2.2.1, h.2.2.2.1, h.2.2.2.2⟩
/-- A reader that has read nothing yet. -/
def Start (w : World) (L : Lay) (zs : List Int) : Prop := Fresh w L zs ∨ (zs = [] ∧ Loaded w L [])
theorem Start.st {w : World} {L : Lay} {zs : List Int} (h : Start w L zs) : St w L zs := by
  rcases h with h | ⟨rfl, h⟩
  · exact .inl h
  · exact .inr h
theorem start_of {w w1 : World} {len c bd : Nat} {da : Option Addr} {zs : List Int} {mx : Int} (h : Copied w len da c bd zs w1) (hl : len ≤ 4096) : Start (made w1 (.slice da len c) mx) (layAt w1.heap.size bd) zs := by
  obtain ⟨_, k1, k2, k3, k4⟩ := h
  by_cases h0 : 0 < len
  · obtain ⟨rfl, k5, k6⟩ := k4 h0
    exact .inl (made_fresh w1 mx bd len c zs k5 k2 h0 hl k6)
  · have hl0 : len = 0 := by omega
    have hz0 : zs = [] := List.eq_nil_of_length_eq_zero (by omega)
    rw [hl0]
    exact .inr ⟨hz0, made_empty w1 mx bd c da⟩
theorem rbuffered_start (L : Lay) (B R : Nat) (mx : Int) (x1 x2 : Addr) (zs : List Int) (w : World) (hR : Rd w L B R mx x1 x2) (hL : Start w L zs) :
    Calls Tryd.prog 9 #[.pointer (some ⟨R, 0, none⟩)] w fun e w' => e = .returned (.int .i64 0) ∧ ∃ n, w' = w.drewN n := by
  obtain ⟨hs, k1, k2⟩ := hR.blk
  rcases hL with h | ⟨rfl, h⟩
  · exact rbuffered_fresh L R mx hs zs w k1 h
  · exact rbuffered_any L R mx hs hs [] w k1 h
theorem rbuffered_rd (L : Lay) (B R : Nat) (mx : Int) (x1 x2 : Addr) (rest : List Int) (n : Int) (w : World) (hR : Rd w L B R mx x1 x2) (hL : Loaded w L rest) (hn : (rest.length : Int) = n) :
    Calls Tryd.prog 9 #[.pointer (some ⟨R, 0, none⟩)] w fun e w' => e = .returned (.int .i64 n) ∧ ∃ n, w' = w.drewN n := by
  obtain ⟨hs, k1, k2⟩ := hR.blk
  subst hn
  exact rbuffered_any L R mx hs hs rest w k1 hL
theorem Rd.new {w w' : World} {L : Lay} {B R : Nat} {mx : Int} {x1 x2 : Addr} (h : Rd w L B R mx x1 x2) (o : Only [] w w') : Rd w' L B R mx x1 x2 := by
  obtain ⟨hs, k1, k2⟩ := h.blk
  exact h.step (o.mono (by simp)) ⟨hs, o.blk k1 (by simp), k2⟩
theorem Loaded.new {w w' : World} {L : Lay} {r : List Int} (h : Loaded w L r) (o : Only [] w w') : Loaded w' L r := h.only o (by simp) (by simp) (by simp)
theorem Start.new {w w' : World} {L : Lay} {r : List Int} (h : Start w L r) (o : Only [] w w') : Start w' L r :=
  h.elim (fun h => .inl (h.only o (by simp) (by simp) (by simp) (by simp))) (fun h => .inr ⟨h.1, h.2.new o⟩)

section
variable (a : Option Addr) (bd n c : Nat) (zs : List Int) (mx : Int) (w : World)
theorem om0_short (hn : n ≤ 4096) (h : n < 16) : Calls Tryd.prog 7 #[.slice a n c, .int .i64 0, .int .u32 mx] w fun e w' => e = .returned (.tuple #[.int .i64 0, .bool false]) ∧ ∃ n, w' = w.drewN n :=
  (om_short a n c 0 mx w (by omega) hn (by omega)).mono fun e w' h => ⟨h.1, 0, h.2.symm⟩
theorem om0_bad (hB : Blk w bd (bytesC zs) 5) (hby : Byt zs) (hn : zs.length = n) (hk : 16 ≤ n) (hl : n ≤ 4096) (hm0 : 0 ≤ mx) (hm1 : mx ≤ 4294967295) (hbad : lenOf zs < 16 ∨ mx < lenOf zs) :
    Calls Tryd.prog 7 #[.slice (some ⟨bd, 0, none⟩) n c, .int .i64 0, .int .u32 mx] w fun e w' => e = .returned (.tuple #[.int .i64 ((n : Int) - 16), .bool false]) ∧ ∃ n, w' = w.drewN n := by
  have e : (n : Int) - ((0 : Nat) : Int) - 16 = (n : Int) - 16 := by omega
  exact (om_bad bd c n 0 zs mx w hB hby hn (by omega) hl hm0 hm1 (by simpa using hbad)).mono fun e' w' h => ⟨by rw [h.1, e], h.2⟩
theorem om0_long (hB : Blk w bd (bytesC zs) 5) (hby : Byt zs) (hn : zs.length = n) (hk : 16 ≤ n) (hl : n ≤ 4096) (hm0 : 0 ≤ mx) (hm1 : mx ≤ 4294967295) (h16 : 16 ≤ lenOf zs) (hmx : lenOf zs ≤ mx) (hlong : (n : Int) < lenOf zs) :
    Calls Tryd.prog 7 #[.slice (some ⟨bd, 0, none⟩) n c, .int .i64 0, .int .u32 mx] w fun e w' => e = .returned (.tuple #[.int .i64 0, .bool false]) ∧ ∃ n, w' = w.drewN n :=
  om_long bd c n 0 zs mx w hB hby hn (by omega) hl hm0 hm1 (by simpa using h16) (by simpa using hmx) (by simpa using hlong)
theorem om0_ok (m : Nat) (hB : Blk w bd (bytesC zs) 5) (hby : Byt zs) (hn : zs.length = n) (hk : 16 ≤ n) (hl : n ≤ 4096) (hm0 : 0 ≤ mx) (hm1 : mx ≤ 4294967295) (hm : lenOf zs = (m : Int) + 16) (hmx : lenOf zs ≤ mx) (hok : m + 16 ≤ n) :
    Calls Tryd.prog 7 #[.slice (some ⟨bd, 0, none⟩) n c, .int .i64 0, .int .u32 mx] w fun e w' => e = .returned (.tuple #[.int .i64 ((n : Int) - (m + 16)), .bool true]) ∧ ∃ n, w' = w.drewN n := by
  have e : (n : Int) - ((0 : Nat) : Int) - lenOf (zs.drop 0) = (n : Int) - (m + 16) := by rw [List.drop_zero, hm]; omega
  exact (om_ok bd c n 0 zs mx w hB hby hn (by omega) hl hm0 hm1 (by rw [List.drop_zero]; omega) (by simpa using hmx) (by rw [List.drop_zero]; omega)).mono fun e' w' h => ⟨by rw [h.1, e], h.2⟩
end

set_option maxRecDepth 100000 in
set_option maxHeartbeats 4000000 in
theorem walkA_small (a0 : Option Addr) (len cap : Nat) (z0 : List Int) (mx : Int) (x1 x2 : Addr) (w : World) (w0 : IsRow .u8 w a0 len cap z0) (hlen : len ≤ 4096) (hmx : 0 ≤ mx ∧ mx ≤ 4294967295) (hg : Glob w w.heap.size x1 x2) :
    Calls Tryd.prog 3 #[.slice a0 len cap, .int .u32 mx] w fun e w' => e = .returned (.bool true) ∧ Below w.heap.size w w' := by
  have HCl := hid (clone_any a0 len cap z0 w w0 hlen (by have := hg.l0; omega))
  have HG := hid hg
  have hl1 : decide ((4096 : Int) < (len : Int)) = false := by simp; omega
  have HMX := hid hmx
  obtain ⟨m0, m1⟩ := hmx
  clear w0 hg
  go_enter Tryd.func3, Tryd.ntmps3
  go_wp2_with (go_at_call 5; refine (bytes5_yes _ _ _ _ _ (by omega)).mono ?_; rintro e w' ⟨rfl, rfl⟩)
  refine HCl.out.mono ?_
  rintro e w1 ⟨da, c, bd, zs, rfl, hC⟩
  have HC := hid hC
  clear hC HCl
  go_wp2_with fail
  by_cases hsh : len < 16
  · refine (om0_short da len c mx w1 hlen hsh).mono ?_
    rintro e w2 ⟨rfl, q2, rfl⟩
    have HC2 := hid (HC.out.draws q2)
    clear HC
    generalize w1.drewN q2 = w2 at *
    go_wp2_with fail
    refine (newOf_made _ _ _ _ _).mono ?_
    rintro e w3 ⟨rfl, hw3⟩
    obtain ⟨R, hR⟩ : ∃ R, R = w2.heap.size + 3 := ⟨_, rfl⟩
    rw [← hR]
    obtain ⟨L, hL⟩ : ∃ L, L = layAt w2.heap.size bd := ⟨_, rfl⟩
    have RD := hid (show Rd w3 L w.heap.size R mx x1 x2 by rw [← hw3, hR, hL]; exact made_rd w2 _ mx w.heap.size bd x1 x2 (HG.out.step HC2.out.1 (by simp)) HC2.out.2.1)
    have SS := hid (show Start w3 L zs by rw [← hw3, hL]; exact start_of HC2.out hlen)
    have O3 := hid (show Only [] w w3 by rw [← hw3]; exact HC2.out.1.trans (made_blks w2 _ mx).2.2.2.2.1)
    have HZ := hid HC2.out.2.2.1
    have HBY := hid HC2.out.2.2.2.1
    clear hw3 hR hL HC2 HG
    go_wp2_with fail
    refine (rbuffered_start L w.heap.size R mx x1 x2 zs _ (by exact RD.out) (by exact SS.out)).mono ?_
    rintro e w4 ⟨rfl, q4, rfl⟩
    go_wp2_with fail
    refine (read_short L w.heap.size R mx zs x1 x2 _ (RD.out.draws ⟨q4, rfl⟩) (SS.out.new (Only.of_drewN ⟨q4, rfl⟩)).st (by rw [HZ.out]; exact hsh)).mono ?_
    rintro e w5 ⟨⟨T, x, rfl⟩, A2, A3, A4⟩
    replace A2 := hid A2
    replace A3 := hid A3
    replace A4 := hid A4
    simp only [noPDU]
    go_wp2_with fail
    refine (rbuffered_rd L w.heap.size R mx x1 x2 ([]) (0) _ (A3.out.new (by repeat (first | exact Only.refl _ _ | apply Only.drewN | apply Only.drew | apply Only.alloc))) (A2.out.new (by repeat (first | exact Only.refl _ _ | apply Only.drewN | apply Only.drew | apply Only.alloc))) (by have := HZ.out; first | (simp; done) | (simp; omega))).mono ?_
    rintro e w6 ⟨rfl, q6, rfl⟩
    go_wp2
    go_ret
    refine ⟨rfl, Only.below (S := [R, L.b, L.bf, L.bs]) ?_ (Nat.le_refl _) RD.out.inn.all⟩
    exact Only.trans (O3.out.mono (by simp)) (Only.trans (by repeat (first | exact Only.refl _ _ | apply Only.drewN | apply Only.drew | apply Only.alloc)) (Only.trans A4.out (by repeat (first | exact Only.refl _ _ | apply Only.drewN | apply Only.drew | apply Only.alloc))))
  have h16 : 16 ≤ len := by omega
  obtain ⟨hda, hBd, hcc⟩ := HC.out.2.2.2.2 (by omega)
  subst hda
  have HB := hid hBd
  have HZ0 := hid HC.out.2.2.1
  have HBY0 := hid HC.out.2.2.2.1
  clear hBd hsh
  by_cases hbad : lenOf zs < 16 ∨ mx < lenOf zs
  · have HBAD := hid hbad
    clear hbad
    refine (om0_bad bd len c zs mx w1 HB.out HBY0.out HZ0.out h16 hlen m0 m1 HBAD.out).mono ?_
    rintro e w2 ⟨rfl, q2, rfl⟩
    have HC2 := hid (HC.out.draws q2)
    clear HC
    generalize w1.drewN q2 = w2 at *
    go_wp2_with fail
    refine (newOf_made _ _ _ _ _).mono ?_
    rintro e w3 ⟨rfl, hw3⟩
    obtain ⟨R, hR⟩ : ∃ R, R = w2.heap.size + 3 := ⟨_, rfl⟩
    rw [← hR]
    obtain ⟨L, hL⟩ : ∃ L, L = layAt w2.heap.size bd := ⟨_, rfl⟩
    have RD := hid (show Rd w3 L w.heap.size R mx x1 x2 by rw [← hw3, hR, hL]; exact made_rd w2 _ mx w.heap.size bd x1 x2 (HG.out.step HC2.out.1 (by simp)) HC2.out.2.1)
    have SS := hid (show Start w3 L zs by rw [← hw3, hL]; exact start_of HC2.out hlen)
    have O3 := hid (show Only [] w w3 by rw [← hw3]; exact HC2.out.1.trans (made_blks w2 _ mx).2.2.2.2.1)
    have HZ := hid HC2.out.2.2.1
    have HBY := hid HC2.out.2.2.2.1
    clear hw3 hR hL HC2 HG
    go_wp2_with fail
    refine (rbuffered_start L w.heap.size R mx x1 x2 zs _ (by exact RD.out) (by exact SS.out)).mono ?_
    rintro e w4 ⟨rfl, q4, rfl⟩
    go_wp2_with fail
    refine (read_bad L w.heap.size R mx zs x1 x2 _ (RD.out.draws ⟨q4, rfl⟩) (SS.out.new (Only.of_drewN ⟨q4, rfl⟩)).st (by rw [HZ.out]; exact h16) HBY.out (by rw [HZ.out]; exact hlen) HMX.out HBAD.out).mono ?_
    rintro e w5 ⟨⟨T, x, rfl⟩, A2, A3, A4⟩
    replace A2 := hid A2
    replace A3 := hid A3
    replace A4 := hid A4
    simp only [noPDU]
    go_wp2_with fail
    refine (rbuffered_rd L w.heap.size R mx x1 x2 (zs.drop 16) ((len : Int) - 16) _ (A3.out.new (by repeat (first | exact Only.refl _ _ | apply Only.drewN | apply Only.drew | apply Only.alloc))) (A2.out.new (by repeat (first | exact Only.refl _ _ | apply Only.drewN | apply Only.drew | apply Only.alloc))) (by have := HZ.out; first | (simp; done) | (simp; omega))).mono ?_
    rintro e w6 ⟨rfl, q6, rfl⟩
    go_wp2
    go_ret
    refine ⟨rfl, Only.below (S := [R, L.b, L.bf, L.bs]) ?_ (Nat.le_refl _) RD.out.inn.all⟩
    exact Only.trans (O3.out.mono (by simp)) (Only.trans (by repeat (first | exact Only.refl _ _ | apply Only.drewN | apply Only.drew | apply Only.alloc)) (Only.trans A4.out (by repeat (first | exact Only.refl _ _ | apply Only.drewN | apply Only.drew | apply Only.alloc))))
  by_cases hlong : (len : Int) < lenOf zs
  · have HL := hid (show 16 ≤ lenOf zs ∧ lenOf zs ≤ mx ∧ (len : Int) < lenOf zs by omega)
    clear hbad hlong
    refine (om0_long bd len c zs mx w1 HB.out HBY0.out HZ0.out h16 hlen m0 m1 HL.out.1 HL.out.2.1 HL.out.2.2).mono ?_
    rintro e w2 ⟨rfl, q2, rfl⟩
    have HC2 := hid (HC.out.draws q2)
    clear HC
    generalize w1.drewN q2 = w2 at *
    go_wp2_with fail
    refine (newOf_made _ _ _ _ _).mono ?_
    rintro e w3 ⟨rfl, hw3⟩
    obtain ⟨R, hR⟩ : ∃ R, R = w2.heap.size + 3 := ⟨_, rfl⟩
    rw [← hR]
    obtain ⟨L, hL⟩ : ∃ L, L = layAt w2.heap.size bd := ⟨_, rfl⟩
    have RD := hid (show Rd w3 L w.heap.size R mx x1 x2 by rw [← hw3, hR, hL]; exact made_rd w2 _ mx w.heap.size bd x1 x2 (HG.out.step HC2.out.1 (by simp)) HC2.out.2.1)
    have SS := hid (show Start w3 L zs by rw [← hw3, hL]; exact start_of HC2.out hlen)
    have O3 := hid (show Only [] w w3 by rw [← hw3]; exact HC2.out.1.trans (made_blks w2 _ mx).2.2.2.2.1)
    have HZ := hid HC2.out.2.2.1
    have HBY := hid HC2.out.2.2.2.1
    clear hw3 hR hL HC2 HG
    go_wp2_with fail
    refine (rbuffered_start L w.heap.size R mx x1 x2 zs _ (by exact RD.out) (by exact SS.out)).mono ?_
    rintro e w4 ⟨rfl, q4, rfl⟩
    go_wp2_with fail
    refine (read_long L w.heap.size R mx zs x1 x2 _ (RD.out.draws ⟨q4, rfl⟩) (SS.out.new (Only.of_drewN ⟨q4, rfl⟩)).st (by rw [HZ.out]; exact h16) HBY.out (by rw [HZ.out]; exact hlen) HMX.out HL.out.1 HL.out.2.1 (by rw [HZ.out]; exact HL.out.2.2)).mono ?_
    rintro e w5 ⟨⟨T, x, rfl⟩, A2, A3, A4⟩
    replace A2 := hid A2
    replace A3 := hid A3
    replace A4 := hid A4
    simp only [noPDU]
    go_wp2_with fail
    refine (rbuffered_rd L w.heap.size R mx x1 x2 ([]) (0) _ (A3.out.new (by repeat (first | exact Only.refl _ _ | apply Only.drewN | apply Only.drew | apply Only.alloc))) (A2.out.new (by repeat (first | exact Only.refl _ _ | apply Only.drewN | apply Only.drew | apply Only.alloc))) (by have := HZ.out; first | (simp; done) | (simp; omega))).mono ?_
    rintro e w6 ⟨rfl, q6, rfl⟩
    go_wp2
    go_ret
    refine ⟨rfl, Only.below (S := [R, L.b, L.bf, L.bs]) ?_ (Nat.le_refl _) RD.out.inn.all⟩
    exact Only.trans (O3.out.mono (by simp)) (Only.trans (by repeat (first | exact Only.refl _ _ | apply Only.drewN | apply Only.drew | apply Only.alloc)) (Only.trans A4.out (by repeat (first | exact Only.refl _ _ | apply Only.drewN | apply Only.drew | apply Only.alloc))))
  obtain ⟨m, hm⟩ : ∃ m : Nat, lenOf zs = (m : Int) + 16 := ⟨(lenOf zs - 16).toNat, by omega⟩
  have HM := hid hm
  have HM2 := hid (show lenOf zs ≤ mx by omega)
  have hmn : m + 16 ≤ len := by omega
  clear hbad hlong hm
  refine (om0_ok bd len c zs mx w1 m HB.out HBY0.out HZ0.out h16 hlen m0 m1 HM.out HM2.out hmn).mono ?_
  rintro e w2 ⟨rfl, q2, rfl⟩
  have HC2 := hid (HC.out.draws q2)
  clear HC
  generalize w1.drewN q2 = w2 at *
  go_wp2_with fail
  refine (newOf_made _ _ _ _ _).mono ?_
  rintro e w3 ⟨rfl, hw3⟩
  obtain ⟨R, hR⟩ : ∃ R, R = w2.heap.size + 3 := ⟨_, rfl⟩
  rw [← hR]
  obtain ⟨L, hL⟩ : ∃ L, L = layAt w2.heap.size bd := ⟨_, rfl⟩
  have RD := hid (show Rd w3 L w.heap.size R mx x1 x2 by rw [← hw3, hR, hL]; exact made_rd w2 _ mx w.heap.size bd x1 x2 (HG.out.step HC2.out.1 (by simp)) HC2.out.2.1)
  have SS := hid (show Start w3 L zs by rw [← hw3, hL]; exact start_of HC2.out hlen)
  have O3 := hid (show Only [] w w3 by rw [← hw3]; exact HC2.out.1.trans (made_blks w2 _ mx).2.2.2.2.1)
  have HZ := hid HC2.out.2.2.1
  have HBY := hid HC2.out.2.2.2.1
  clear hw3 hR hL HC2 HG
  go_wp2_with fail
  refine (rbuffered_start L w.heap.size R mx x1 x2 zs _ (by exact RD.out) (by exact SS.out)).mono ?_
  rintro e w4 ⟨rfl, q4, rfl⟩
  go_wp2_with fail
  refine (read_ok L w.heap.size R mx zs x1 x2 _ m (RD.out.draws ⟨q4, rfl⟩) (SS.out.new (Only.of_drewN ⟨q4, rfl⟩)).st (by rw [HZ.out]; exact h16) HBY.out (by rw [HZ.out]; exact hlen) HMX.out HM.out HM2.out (by rw [HZ.out]; exact hmn)).mono ?_
  rintro e w5 ⟨⟨pa, pb, pc, bo, cp, rfl⟩, A2, A3, A4⟩
  replace A2 := hid A2
  replace A3 := hid A3
  replace A4 := hid A4
  go_wp2_with fail
  refine (rbuffered_rd L w.heap.size R mx x1 x2 (zs.drop (m + 16)) ((len : Int) - (m + 16)) _ (A3.out.new (by repeat (first | exact Only.refl _ _ | apply Only.drewN | apply Only.drew | apply Only.alloc))) (A2.out.new (by repeat (first | exact Only.refl _ _ | apply Only.drewN | apply Only.drew | apply Only.alloc))) (by have := HZ.out; first | (simp; done) | (simp; omega))).mono ?_
  rintro e w6 ⟨rfl, q6, rfl⟩
  go_wp2
  go_ret
  refine ⟨rfl, Only.below (S := [R, L.b, L.bf, L.bs]) ?_ (Nat.le_refl _) RD.out.inn.all⟩
  exact Only.trans (O3.out.mono (by simp)) (Only.trans (by repeat (first | exact Only.refl _ _ | apply Only.drewN | apply Only.drew | apply Only.alloc)) (Only.trans A4.out (by repeat (first | exact Only.refl _ _ | apply Only.drewN | apply Only.drew | apply Only.alloc))))

/-- ████ THE WALK OF THE LAW, WHATEVER THE INPUT. -/
theorem fnBufferedAfterOneRead.walk (a0 : Option Addr) (len0 cap0 : Nat) (z0 : List Int) (a1 : Int) (x1 x2 : Addr) (w : World) (w0 : IsRow .u8 w a0 len0 cap0 z0) (w1 : (Lit.int .u32 a1).wf = true)
    (hg : Glob w w.heap.size x1 x2) :
    Calls Tryd.prog 3 #[.slice a0 len0 cap0, .int .u32 a1] w fun e w' => e = .returned (.bool true) ∧ Below w.heap.size w w' := by
  obtain ⟨m0, m1⟩ := Go.bounds_u32 w1
  by_cases h1 : len0 ≤ 4096
  · exact walkA_small a0 len0 cap0 z0 a1 x1 x2 w w0 h1 ⟨m0, m1⟩ hg
  by_cases h2 : len0 ≤ 1048576
  · clear w0 hg
    go_enter Tryd.func3, Tryd.ntmps3
    go_wp2_with (go_at_call 5; refine (bytes5_yes _ _ _ _ _ h2).mono ?_; rintro e w' ⟨rfl, rfl⟩)
    go_ret
    exact ⟨rfl, Below.refl _ _⟩
  · clear w0 hg
    go_enter Tryd.func3, Tryd.ntmps3
    go_wp2_with (go_at_call 5; refine (bytes5_no _ _ _ _ _ (by omega)).mono ?_; rintro e w' ⟨rfl, rfl⟩)
    go_ret
    exact ⟨rfl, Below.refl _ _⟩
end Go.Proofs.Qxb6616789aDoor
