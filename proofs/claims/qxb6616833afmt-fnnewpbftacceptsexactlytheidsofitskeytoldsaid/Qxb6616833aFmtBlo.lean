/- zzb1Block, ZZB1ID, accepts. -/
import Derived.Test.Qxb6616833aFmtRep
namespace Go.Proofs.Qxb6616833aFmt
open Go.RowKit
set_option linter.unusedVariables false

theorem block_any (h : Int) (pv : List Value) (s : ByteArray) (w : World) (hp : pv.length = 32) (h1 : ∀ v ∈ pv, v.oneCell' = true) :
    Calls Tryf.prog 11 #[.int .u64 h, .agg pv.toArray, .string s] w fun e w' => ∃ bc : List Value, e = .returned (.agg bc.toArray) ∧ BloC bc h s ∧ Only [] w w' := by
  obtain ⟨bc, hb, hbc⟩ := built34_blo h pv s hp h1
  have HB := hid hb
  have HBC := hid hbc
  have HP := hid hp
  clear hp h1 hb hbc
  go_enter Tryf.func11, Tryf.ntmps11
  go_wp2_with (first
    | (refine st_box rfl 25 _ rfl pv rfl ?_; intro W1 g1 l1 o1 b1; have O1 := hid o1; have B1 := hid b1; have L1 := hid l1; clear o1 b1 l1)
    | (refine st_alloc rfl 34 rfl z34 zero34 ?_; intro W2 g2 l2 o2 b2; have O2 := hid (O1.out.trans o2); have B2 := hid b2; have B1' := hid (o2.blk' B1.out); have L2 := hid (Nat.le_trans O1.out.size l2); clear o2 b2 l2)
    | (refine st_load rfl 25 _ rfl g1 rfl pv 25 (by exact B1'.out) _ Tryf.underlying25 rfl (by rw [HP.out]; exact size25) ?_)
    | (refine st_build rfl 34 _ rfl [(0, .int .u64 h), (1, .agg pv.toArray), (2, .string s)] (by simp [Act.eval]) bc (by exact HB.out) ?_)
    | (refine st_store rfl 34 _ _ rfl g2 rfl bc rfl z34 34 (by exact B2.out) (by rw [HBC.out.len]; exact size34) (by rw [HBC.out.len]; exact z34_length) (by exact HBC.out.one) ?_; intro W3 o3 b3; have O3 := hid (O2.out.new o3 L2.out); have B3 := hid b3; clear o3 b3))
  refine bodyPost_ret (v := .agg bc.toArray) (results_cell_row (p := 6) (ty := 34) Tryf.results11 _ _ g2 34 bc.toArray (0, 0) _ rfl B3.out Tryf.underlying34 rfl (by rw [size34]; simp [HBC.out.len])) rfl ?_
  exact ⟨bc, rfl, HBC.out, O3.out⟩

theorem id_any (p : Addr) (id : Int) (w : World) (h : w.cell? p = some (.int .i64 id)) :
    Calls Tryf.prog 14 #[.pointer (some p)] w fun e w' => e = .returned (.int .i64 id) ∧ w = w' := by
  go_enter Tryf.func14, Tryf.ntmps14
  go_wp2
  go_ret
  exact ⟨rfl, rfl⟩

theorem eql51 (w : World) : (binOp .eql 51 .nilFunc .nilFunc).run Tryf.prog w = .ok (.bool true) w := by kernel_rfl
/-- accepts where there is no check. -/
theorem accepts_any (g : Nat) (s : ByteArray) (w : World) (h : w.cell? ⟨g, 37, none⟩ = some .nilFunc) :
    Calls Tryf.prog 20 #[.pointer (some ⟨g, 0, none⟩), .string s] w fun e w' => e = .returned (.bool (okV s.size)) ∧ ∃ q, w' = w.drewN q := by
  have HV := hid (valid_any s w)
  generalize okV s.size = r at *
  have hq := eql51
  go_enter Tryf.func20, Tryf.ntmps20
  cases r with
  | false =>
    go_wp2_with (go_at_call 17; refine HV.out.mono ?_; rintro e w' ⟨rfl, rfl⟩)
    go_ret
    exact ⟨rfl, 0, rfl⟩
  | true =>
    go_wp2_with (go_at_call 17; refine HV.out.mono ?_; rintro e w' ⟨rfl, rfl⟩)
    go_quiet (fail)
    go_wp2
    go_ret
    exact ⟨rfl, _, rfl⟩
end Go.Proofs.Qxb6616833aFmt
