/- io.ReadFull: enough; too little; nothing. slices.Grow where there is room. (*smpp.Reader).Buffered. -/
import Derived.Test.Qxb6616789aDoorRat
import Derived.Test.Qxb6616789aDoorBe
namespace Go.Proofs.Qxb6616789aDoor
open Go.RowKit

theorem hid {p : Prop} (h : p) : Hid p := h
set_option linter.unusedVariables false

theorem rf_full (L : Lay) (ok : L.Ok) (inp : List Int) (g off len cap : Nat) (cur : List Value) (t : TypeId) (w : World)
    (hS : St w L inp) (hG : Blk w g cur t) (hlen : len ≤ inp.length) (hl : 0 < len) (hl2 : Loaded w L inp ∨ len < 4096) (hfit : off + len ≤ cur.length) (hcap : len ≤ cap) (hc2 : cap ≤ 65536)
    (g1 : g ≠ L.b) (g2 : g ≠ L.bf) (g3 : g ≠ L.bs) (g4 : g ≠ L.bd) :
    Calls Tryd.prog 16 #[.iface 44 (.pointer (some ⟨L.b, 0, none⟩)), .slice (some ⟨g, off, none⟩) len cap] w fun e w' => e = .returned (.tuple #[.int .i64 len, .nilIface]) ∧
      Loaded w' L (inp.drop len) ∧ Blk w' g (splice cur off (bytesC (inp.take len))) t ∧ Only [g, L.b, L.bf, L.bs] w w' := by
  have HC := hid (rat_full L ok inp g off len cap cur t w hS hG hlen hl hl2 hfit hcap hc2 g1 g2 g3 g4)
  clear hS hG hl2
  go_enter Tryd.func16, Tryd.ntmps16
  go_wp2_with (go_at_call 20; refine (HC.out).mono ?_; rintro e w' ⟨rfl, A1, A2, A3⟩; replace A1 : Hid _ := A1; replace A2 : Hid _ := A2; replace A3 : Hid _ := A3)
  go_ret2
  exact ⟨rfl, A1.out, A2.out, A3.out⟩

theorem rf_none (L : Lay) (ok : L.Ok) (ga : Option Addr) (len cap : Nat) (x1 : Addr) (w : World)
    (hS : Loaded w L []) (g1 : w.cell? ⟨1, 0, none⟩ = some (.iface 70 (.pointer (some x1)))) (hl : 0 < len) (hcap : len ≤ cap) (hc2 : cap ≤ 65536) :
    Calls Tryd.prog 16 #[.iface 44 (.pointer (some ⟨L.b, 0, none⟩)), .slice ga len cap] w fun e w' => e = .returned (.tuple #[.int .i64 0, .iface 70 (.pointer (some x1))]) ∧
      Loaded w' L [] ∧ Only [L.b] w w' := by
  have HC := hid (rat_none L ok ga len cap x1 w hS g1 hl hcap hc2)
  clear hS g1
  go_enter Tryd.func16, Tryd.ntmps16
  go_wp2_with (go_at_call 20; refine (HC.out).mono ?_; rintro e w' ⟨rfl, A1, A2⟩; replace A1 : Hid _ := A1; replace A2 : Hid _ := A2)
  go_ret2
  exact ⟨rfl, A1.out, A2.out⟩

theorem rf_short (L : Lay) (ok : L.Ok) (inp : List Int) (g off len cap : Nat) (cur : List Value) (t : TypeId) (x1 x2 : Addr) (w : World)
    (hS : St w L inp) (hG : Blk w g cur t) (hlen : inp.length < len) (hne : 0 < inp.length) (hl2 : Loaded w L inp ∨ len < 4096) (hfit : off + len ≤ cur.length) (hcap : len ≤ cap) (hc2 : cap ≤ 65536)
    (g1 : g ≠ L.b) (g2 : g ≠ L.bf) (g3 : g ≠ L.bs) (g4 : g ≠ L.bd) (g5 : g ≠ 1) (g6 : g ≠ 2)
    (e1 : w.cell? ⟨1, 0, none⟩ = some (.iface 70 (.pointer (some x1)))) (e2 : w.cell? ⟨2, 0, none⟩ = some (.iface 70 (.pointer (some x2)))) :
    Calls Tryd.prog 16 #[.iface 44 (.pointer (some ⟨L.b, 0, none⟩)), .slice (some ⟨g, off, none⟩) len cap] w fun e w' => e = .returned (.tuple #[.int .i64 inp.length, .iface 70 (.pointer (some x2))]) ∧
      Loaded w' L [] ∧ Blk w' g (splice cur off (bytesC inp)) t ∧ Only [g, L.b, L.bf, L.bs] w w' := by
  have HC := hid (rat_short L ok inp g off len cap cur t x1 x2 w hS hG hlen hne hl2 hfit hcap hc2 g1 g2 g3 g4 g5 g6 e1 e2)
  clear hS hG hl2 e1 e2
  go_enter Tryd.func16, Tryd.ntmps16
  go_wp2_with (go_at_call 20; refine (HC.out).mono ?_; rintro e w' ⟨rfl, A1, A2, A3⟩; replace A1 : Hid _ := A1; replace A2 : Hid _ := A2; replace A3 : Hid _ := A3)
  go_ret2
  exact ⟨rfl, A1.out, A2.out, A3.out⟩

theorem grow_room (a : Option Addr) (len cap m : Nat) (w : World) (h : len + m ≤ cap) (hc : cap ≤ 65536) :
    Calls Tryd.prog 18 #[.slice a len cap, .int .i64 m] w fun e w' => e = .returned (.slice a len cap) ∧ w = w' := by
  have h1 : ¬ (m : Int) < 0 := by omega
  have h2 : ¬ (0 : Int) < (m : Int) - ((cap : Int) - len) := by omega
  go_enter Tryd.func18, Tryd.ntmps18
  go_wp2
  go_ret
  exact ⟨rfl, rfl⟩

theorem rbuffered_any (L : Lay) (R : Nat) (mx : Int) (hs rest : List Value) (inp : List Int) (w : World) (hR : Blk w R (RdC L.b mx hs) 47) (hL : Loaded w L inp) :
    Calls Tryd.prog 9 #[.pointer (some ⟨R, 0, none⟩)] w fun e w' => e = .returned (.int .i64 inp.length) ∧ ∃ n, w' = w.drewN n := by
  obtain ⟨r, lb, lr, fs, a, m, c, i, pr, k1, k2, k3, k4, k5, k6, k7, k8⟩ := hL
  have HC := buffered_any L.b L.bf L.bs r (r + inp.length) .nilIface lb lr w k1 (by omega) k2
  have e : ((r + inp.length : Nat) : Int) - r = inp.length := by omega
  rw [e] at HC
  replace HC := hid HC
  have c0 := hR.cell 0
  simp only [RdC, List.getElem?_cons_zero] at c0
  clear k1 k2 k3 k4 k5 k6 k7 k8 hR e
  go_enter Tryd.func9, Tryd.ntmps9
  go_wp2_with (go_at_call 15; refine (HC.out).mono ?_; rintro e w' ⟨rfl, n, rfl⟩)
  go_ret
  exact ⟨rfl, _, rfl⟩
theorem rbuffered_fresh (L : Lay) (R : Nat) (mx : Int) (hs : List Value) (inp : List Int) (w : World) (hR : Blk w R (RdC L.b mx hs) 47) (hL : Fresh w L inp) :
    Calls Tryd.prog 9 #[.pointer (some ⟨R, 0, none⟩)] w fun e w' => e = .returned (.int .i64 0) ∧ ∃ n, w' = w.drewN n := by
  obtain ⟨k0, k00, lb, lr, fs, c, pr, k1, k2, k3, k4, k5, k6⟩ := hL
  have HC := hid (buffered_any L.b L.bf L.bs 0 0 .nilIface lb lr w k1 (by omega) (by omega))
  have c0 := hR.cell 0
  simp only [RdC, List.getElem?_cons_zero] at c0
  clear k1 k2 k3 k4 k5 k6 hR
  go_enter Tryd.func9, Tryd.ntmps9
  go_wp2_with (go_at_call 15; refine (HC.out).mono ?_; rintro e w' ⟨rfl, n, rfl⟩)
  go_ret
  exact ⟨rfl, _, rfl⟩
end Go.Proofs.Qxb6616789aDoor
