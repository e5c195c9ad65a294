/- io.ReadAtLeast with min = len(buf): enough; too little; nothing. -/
import Derived.Test.Qxb6616789aDoorOne
import Derived.LoopN
import Derived.LaidEql
namespace Go.Proofs.Qxb6616789aDoor
open Go.RowKit
set_option linter.unusedVariables false

/-- Which function 'Read' of a *bufio.Reader is. -/
theorem method_buf (a : Addr) (w : World) : (method 198 44 (.pointer (some a)) "Read").run Tryd.prog w = .ok (43, .pointer (some a)) w := by kernel_rfl
theorem nil_ahead (a : Addr) (w : World) : (nilAhead 198 44 (.pointer (some a)) "Read").run Tryd.prog w = .ok (some false) w := by kernel_rfl
theorem comp70 : (Tryd.prog.info? 70).map (·.comparable) = some true := by kernel_rfl
theorem size90 : (Tryd.prog.info? 90).map (·.size) = some 1 := by kernel_rfl
/-- An error is itself. -/
theorem eql_same (x : Addr) (w : World) : (binOp .eql 36 (.iface 70 (.pointer (some x))) (.iface 70 (.pointer (some x)))).run Tryd.prog w = .ok (.bool true) w := by
  obtain ⟨i, hi, hc⟩ := Option.map_eq_some_iff.1 comp70
  obtain ⟨j, hj, _⟩ := Option.map_eq_some_iff.1 size90
  exact run_eql_iface_ptr_same (P := Tryd.prog) w x Tryd.underlying36 Tryd.underlying70 hi hc hj

set_option maxRecDepth 100000 in
set_option maxHeartbeats 2000000 in
theorem rat_full (L : Lay) (ok : L.Ok) (inp : List Int) (g off len cap : Nat) (cur : List Value) (t : TypeId) (w : World)
    (hS : St w L inp) (hG : Blk w g cur t) (hlen : len ≤ inp.length) (hl : 0 < len) (hl2 : Loaded w L inp ∨ len < 4096) (hfit : off + len ≤ cur.length) (hcap : len ≤ cap) (hc2 : cap ≤ 65536)
    (g1 : g ≠ L.b) (g2 : g ≠ L.bf) (g3 : g ≠ L.bs) (g4 : g ≠ L.bd) :
    Calls Tryd.prog 20 #[.iface 44 (.pointer (some ⟨L.b, 0, none⟩)), .slice (some ⟨g, off, none⟩) len cap, .int .i64 len] w fun e w' => e = .returned (.tuple #[.int .i64 len, .nilIface]) ∧
      Loaded w' L (inp.drop len) ∧ Blk w' g (splice cur off (bytesC (inp.take len))) t ∧ Only [g, L.b, L.bf, L.bs] w w' := by
  have HS : Hid (St w L inp ∧ Blk w g cur t ∧ (Loaded w L inp ∨ len < 4096)) := ⟨hS, hG, hl2⟩
  clear hS hG hl2
  have hm := method_buf
  have hna := nil_ahead
  have q0 : ¬ cap = 0 := by omega
  go_enter Tryd.func20, Tryd.ntmps20
  go_wp2
  refine wp_loop_rounds 2 ?_
  rw [rounds_succ]
  go_wp2
  go_cut [7, 8] (fun s7 s8 wc => s7 = .nilIface ∧ s8 = .int .i64 len ∧ Loaded wc L (inp.drop len) ∧ Blk wc g (splice cur off (bytesC (inp.take len))) t ∧ Only [g, L.b, L.bf, L.bs] w wc)
  case first =>
    go_region_with (go_at_call 43; refine (one_read L ok inp g off len cap cur t len _ ((by exact HS.out.1) : St _ L inp) (by exact HS.out.2.1) (Nat.min_eq_right hlen) (by omega) hl (by exact HS.out.2.2) hfit g1 g2 g3 g4).mono ?_; rintro e w' ⟨rfl, A1, A2, A3⟩; replace A1 : Hid _ := A1; replace A2 : Hid _ := A2; replace A3 : Hid _ := A3)
    go_wp2
    go_meet
    case rel => exact ⟨rfl, rfl, A1.out, A2.out, Only.trans (by repeat (first | exact Only.refl _ _ | apply Only.drewN | apply Only.drew)) A3.out⟩
  case rest =>
    obtain ⟨rfl, rfl, R1, R2, R3⟩ := hcut
    replace R1 : Hid _ := R1
    replace R2 : Hid _ := R2
    replace R3 : Hid _ := R3
    go_wp2
    rw [rounds_succ]
    go_wp2
    go_ret2
    exact ⟨rfl, R1.out, R2.out, R3.out⟩

set_option maxRecDepth 100000 in
set_option maxHeartbeats 2000000 in
theorem rat_none (L : Lay) (ok : L.Ok) (ga : Option Addr) (len cap : Nat) (x1 : Addr) (w : World)
    (hS : Loaded w L []) (g1 : w.cell? ⟨1, 0, none⟩ = some (.iface 70 (.pointer (some x1)))) (hl : 0 < len) (hcap : len ≤ cap) (hc2 : cap ≤ 65536) :
    Calls Tryd.prog 20 #[.iface 44 (.pointer (some ⟨L.b, 0, none⟩)), .slice ga len cap, .int .i64 len] w fun e w' => e = .returned (.tuple #[.int .i64 0, .iface 70 (.pointer (some x1))]) ∧
      Loaded w' L [] ∧ Only [L.b] w w' := by
  have HS : Hid (Loaded w L [] ∧ w.cell? ⟨1, 0, none⟩ = some (.iface 70 (.pointer (some x1)))) := ⟨hS, g1⟩
  clear hS g1
  have hm := method_buf
  have hna := nil_ahead
  have q0 : ¬ cap = 0 := by omega
  go_enter Tryd.func20, Tryd.ntmps20
  go_wp2
  refine wp_loop_rounds 2 ?_
  rw [rounds_succ]
  go_wp2
  go_cut [7, 8] (fun s7 s8 wc => s7 = .iface 70 (.pointer (some x1)) ∧ s8 = .int .i64 0 ∧ Loaded wc L [] ∧ Only [L.b] w wc)
  case first =>
    go_region_with (go_at_call 43; refine (one_eof L ok _ len _ x1 _ ((by exact HS.out.1) : Loaded _ L []) (by exact HS.out.2) hl).mono ?_; rintro e w' ⟨rfl, A1, A2⟩; replace A1 : Hid _ := A1; replace A2 : Hid _ := A2)
    all_goals
      go_wp2
      go_meet
      case rel => exact ⟨rfl, rfl, A1.out, Only.trans (by repeat (first | exact Only.refl _ _ | apply Only.drewN | apply Only.drew)) A2.out⟩
  case rest =>
    obtain ⟨rfl, rfl, R1, R2⟩ := hcut
    replace R1 : Hid _ := R1
    replace R2 : Hid _ := R2
    go_wp2
    rw [rounds_succ]
    go_wp2
    go_ret2
    exact ⟨rfl, R1.out, R2.out⟩

set_option maxRecDepth 100000 in
set_option maxHeartbeats 2000000 in
theorem rat_short (L : Lay) (ok : L.Ok) (inp : List Int) (g off len cap : Nat) (cur : List Value) (t : TypeId) (x1 x2 : Addr) (w : World)
    (hS : St w L inp) (hG : Blk w g cur t) (hlen : inp.length < len) (hne : 0 < inp.length) (hl2 : Loaded w L inp ∨ len < 4096) (hfit : off + len ≤ cur.length) (hcap : len ≤ cap) (hc2 : cap ≤ 65536)
    (g1 : g ≠ L.b) (g2 : g ≠ L.bf) (g3 : g ≠ L.bs) (g4 : g ≠ L.bd) (g5 : g ≠ 1) (g6 : g ≠ 2)
    (e1 : w.cell? ⟨1, 0, none⟩ = some (.iface 70 (.pointer (some x1)))) (e2 : w.cell? ⟨2, 0, none⟩ = some (.iface 70 (.pointer (some x2)))) :
    Calls Tryd.prog 20 #[.iface 44 (.pointer (some ⟨L.b, 0, none⟩)), .slice (some ⟨g, off, none⟩) len cap, .int .i64 len] w fun e w' => e = .returned (.tuple #[.int .i64 inp.length, .iface 70 (.pointer (some x2))]) ∧
      Loaded w' L [] ∧ Blk w' g (splice cur off (bytesC inp)) t ∧ Only [g, L.b, L.bf, L.bs] w w' := by
  have HS : Hid (St w L inp ∧ Blk w g cur t ∧ (Loaded w L inp ∨ len < 4096) ∧ w.cell? ⟨1, 0, none⟩ = some (.iface 70 (.pointer (some x1))) ∧ w.cell? ⟨2, 0, none⟩ = some (.iface 70 (.pointer (some x2)))) := ⟨hS, hG, hl2, e1, e2⟩
  clear hS hG hl2 e1 e2
  obtain ⟨n, hn⟩ : ∃ n, inp.length = n := ⟨_, rfl⟩
  rw [hn] at hlen hne ⊢
  have Hn : Hid (inp.length = n) := hn
  clear hn
  have hm := method_buf
  have hna := nil_ahead
  have q0 : ¬ cap = 0 := by omega
  have q1 : ¬ cap = n := by omega
  go_enter Tryd.func20, Tryd.ntmps20
  go_wp2
  refine wp_loop_rounds 3 ?_
  rw [rounds_succ]
  go_wp2
  go_cut [7, 8] (fun s7 s8 wc => s7 = .nilIface ∧ s8 = .int .i64 n ∧ Loaded wc L [] ∧ Blk wc g (splice cur off (bytesC inp)) t ∧ Only [g, L.b, L.bf, L.bs] w wc)
  case first =>
    go_region_with (go_at_call 43; refine (one_read L ok inp g off len cap cur t n _ ((by exact HS.out.1) : St _ L inp) (by exact HS.out.2.1) (by rw [Hn.out]; exact Nat.min_eq_left (by omega)) (by rw [Hn.out]; exact hne) (by omega) (by exact HS.out.2.2.1) hfit g1 g2 g3 g4).mono ?_; rintro e w' ⟨rfl, A1, A2, A3⟩; replace A1 : Hid _ := A1; replace A2 : Hid _ := A2; replace A3 : Hid _ := A3)
    all_goals
      go_wp2
      go_meet
      case rel =>
        refine ⟨rfl, rfl, ?_, ?_, Only.trans (by repeat (first | exact Only.refl _ _ | apply Only.drewN | apply Only.drew)) A3.out⟩
        · have := A1.out; rw [List.drop_eq_nil_of_le (by rw [Hn.out]; exact Nat.le_refl _)] at this; exact this
        · have := A2.out; rw [List.take_of_length_le (by rw [Hn.out]; exact Nat.le_refl _)] at this; exact this
  case rest =>
    obtain ⟨rfl, rfl, R1, R2, R3⟩ := hcut
    have E1 : Hid (wc.cell? ⟨1, 0, none⟩ = some (.iface 70 (.pointer (some x1)))) := R3.cell HS.out.2.2.2.1 (by simp; exact ⟨Ne.symm g5, Ne.symm ok.g1, Ne.symm ok.k1, Ne.symm ok.j1⟩)
    have E2 : Hid (wc.cell? ⟨2, 0, none⟩ = some (.iface 70 (.pointer (some x2)))) := R3.cell HS.out.2.2.2.2 (by simp; exact ⟨Ne.symm g6, Ne.symm ok.g2, Ne.symm ok.k2, Ne.symm ok.j2⟩)
    replace R1 : Hid _ := R1
    replace R2 : Hid _ := R2
    replace R3 : Hid _ := R3
    clear HS
    go_wp2
    rw [rounds_succ]
    go_wp2
    go_cut [7, 8] (fun s7 s8 wd => s7 = .iface 70 (.pointer (some x1)) ∧ s8 = .int .i64 0 ∧ Loaded wd L [] ∧ Only [L.b] wc wd)
    case first =>
      go_region_with (go_at_call 43; refine (one_eof L ok _ (len - n) _ x1 _ ((by exact R1.out) : Loaded _ L []) (by exact E1.out) (by omega)).mono ?_; rintro e w' ⟨rfl, A1, A2⟩; replace A1 : Hid _ := A1; replace A2 : Hid _ := A2)
      all_goals
        go_wp2
        go_meet
        case rel => exact ⟨rfl, rfl, A1.out, Only.trans (by repeat (first | exact Only.refl _ _ | apply Only.drewN | apply Only.drew)) A2.out⟩
    case rest =>
      obtain ⟨rfl, rfl, T1, T2⟩ := hcut
      have e1 := T2.cell E1.out (by simp; exact Ne.symm ok.g1)
      have e2 := T2.cell E2.out (by simp; exact Ne.symm ok.g2)
      replace T1 : Hid _ := T1
      replace T2 : Hid _ := T2
      have hq := eql_same x1
      go_wp2
      rw [rounds_succ]
      go_wp2
      go_ret2
      exact ⟨rfl, T1.out, T2.out.blk R2.out (by simp; exact g1), Only.trans R3.out (T2.out.mono (by simp))⟩
end Go.Proofs.Qxb6616789aDoor
