/- (*smpp.Reader).Read, the header come whole: the notions. -/
import Derived.Test.Qxb6616789aDoorRead
import Derived.Deep.RegionHeld3
namespace Go.Proofs.Qxb6616789aDoor
open Go.RowKit
set_option linter.unusedVariables false

/-- Bytes. -/
def Byt (zs : List Int) : Prop := ∀ z ∈ zs, 0 ≤ z ∧ z ≤ 255
theorem Byt.at {zs : List Int} (h : Byt zs) (j : Nat) : 0 ≤ zs.getD j 0 ∧ zs.getD j 0 ≤ 255 := by
  rw [List.getD_eq_getElem?_getD]
  cases e : zs[j]? with
  | none => simp
  | some z => exact h z (List.mem_of_getElem? e)
theorem hdr_cell {w : World} {R b : Nat} {mx : Int} {inp : List Int} (h : Blk w R (RdC b mx (bytesC (inp.take 16))) 47) (hl : 16 ≤ inp.length) (j : Nat) (hj : j < 16) : w.cell? ⟨R, 2 + j, none⟩ = some (.int .u8 (inp.getD j 0)) := by
  rw [h.cell, Nat.add_comm]
  have hj' : j < inp.length := by omega
  simp [RdC, bytesC, hj, List.getD_eq_getElem?_getD, hj']

/-- The header lies in block R; nothing that was there in wc has turned. -/
def HdrAt (wc wk : World) (R b : Nat) (mx : Int) (inp : List Int) : Prop := Blk wk R (RdC b mx (bytesC (inp.take 16))) 47 ∧ Only [] wc wk
theorem hdr_up {wc wk W : World} {R b : Nat} {mx : Int} {inp : List Int} (h : HdrAt wc wk R b mx inp) (o : Only [] wk W) : HdrAt wc W R b mx inp :=
  ⟨o.blk h.1 (by simp), h.2.trans o⟩
theorem pdu_cells {w : World} {P : Nat} (h : Blk w P [.int .u32 0, .int .u32 0, .int .u32 0, .slice none 0 0] 34) :
    w.cell? ⟨P, 0, none⟩ = some (.int .u32 0) ∧ w.cell? ⟨P, 1, none⟩ = some (.int .u32 0) ∧ w.cell? ⟨P, 2, none⟩ = some (.int .u32 0) ∧ w.cell? ⟨P, 3, none⟩ = some (.slice none 0 0) ∧
    w.frozen? ⟨P, 0, none⟩ = false ∧ w.frozen? ⟨P, 1, none⟩ = false ∧ w.frozen? ⟨P, 2, none⟩ = false ∧ w.frozen? ⟨P, 3, none⟩ = false :=
  ⟨h.cell 0, h.cell 1, h.cell 2, h.cell 3, h.frozen 0, h.frozen 1, h.frozen 2, h.frozen 3⟩
theorem size_le1 {wk wa : World} (h : wk.drew.heap.size ≤ wa.heap.size) : wk.heap.size ≤ wa.heap.size := h
theorem size_le2 {wk wa wb : World} (h : wk.drew.heap.size ≤ wa.heap.size) (h2 : wa.heap.size ≤ wb.heap.size) : wk.heap.size ≤ wb.heap.size := Nat.le_trans h h2
/-- Where the new PDU lies. -/
def PduAt (wk : World) (v : Value) (we : World) : Prop := ∃ P, v = .pointer (some ⟨P, 0, none⟩) ∧ (∃ a b c, Blk we P [.int .u32 a, .int .u32 b, .int .u32 c, .slice none 0 0] 34) ∧ wk.heap.size ≤ P ∧ Only [] wk we
theorem pdu_last {wk wc : World} {a b c : Int} (o : Only [] wk wc) : PduAt wk (.pointer (some ⟨wc.heap.size, 0, none⟩)) (wc.alloc (.cells #[.int .u32 a, .int .u32 b, .int .u32 c, .slice none 0 0] 34)) :=
  ⟨_, rfl, ⟨a, b, c, Blk.new _ _ _⟩, o.size, o.alloc _⟩
theorem pdu_done {wk wc : World} {P : Nat} {a b c : Int} (B : Blk wc P [.int .u32 0, .int .u32 0, .int .u32 0, .slice none 0 0] 34) (hP : wk.heap.size ≤ P) (o : Only [] wk wc) :
    PduAt wk (.pointer (some ⟨P, 0, none⟩)) ((((wc.setCell ⟨P, 0, none⟩ (.int .u32 a)).setCell ⟨P, 1, none⟩ (.int .u32 b)).setCell ⟨P, 2, none⟩ (.int .u32 c)).setCell ⟨P, 3, none⟩ (.slice none 0 0)) :=
  ⟨P, rfl, ⟨a, b, c, (((B.set 0 _).set 1 _).set 2 _).set 3 _⟩, hP, Only.trans_new o (only_four P wc _ _ _ _) (by simp; exact hP)⟩
/-- BigEndian.Uint32 of four of the header's bytes. -/
theorem be17h (wc : World) (R b : Nat) (mx : Int) (inp : List Int) (j cap : Nat) (w : World) (hlen : 16 ≤ inp.length) (hby : Byt inp) (hj : j + 4 ≤ 16) (h : HdrAt wc w R b mx inp) :
    Calls Tryd.prog 17 #[.agg #[], .slice (some ⟨R, 2 + j, none⟩) 4 cap] w fun e w' => e = .returned (.int .u32 (be32 (inp.getD j 0) (inp.getD (j + 1) 0) (inp.getD (j + 2) 0) (inp.getD (j + 3) 0))) ∧ HdrAt wc w' R b mx inp ∧ Only [] w w' := by
  refine (be17 R (2 + j) 4 cap (inp.getD j 0) (inp.getD (j + 1) 0) (inp.getD (j + 2) 0) (inp.getD (j + 3) 0) w (by omega) .nilIface (hdr_cell h.1 hlen j (by omega)) (hdr_cell h.1 hlen (j + 1) (by omega)) (hdr_cell h.1 hlen (j + 2) (by omega)) (hdr_cell h.1 hlen (j + 3) (by omega)) (hby.at _) (hby.at _) (hby.at _) (hby.at _) h.1.lt).mono ?_
  rintro e w' ⟨rfl, A1⟩
  have o : Only [] w w' := Only.of_below A1
  exact ⟨rfl, hdr_up h o, o⟩

/-- The header's command_length. -/
def lenOf (inp : List Int) : Int := be32 (inp.getD 0 0) (inp.getD 1 0) (inp.getD 2 0) (inp.getD 3 0)

theorem new_or {B R b bf bs N : Nat} (h : N ≤ B) : ∀ k ∈ [B, b, bf, bs], k ∈ [R, b, bf, bs] ∨ N ≤ k := by
  intro k hk
  simp only [List.mem_cons, List.not_mem_nil, or_false] at hk ⊢
  rcases hk with rfl | rfl | rfl | rfl
  · exact .inr h
  · exact .inl (.inr (.inl rfl))
  · exact .inl (.inr (.inr (.inl rfl)))
  · exact .inl (.inr (.inr (.inr rfl)))
/-- No PDU and an error. -/
def Bad (e : Ending) : Prop := ∃ T x, e = .returned (.tuple #[noPDU, .iface T x])
/-- A PDU whose body has n bytes, and no error. -/
def Good (n : Nat) (e : Ending) : Prop := ∃ a b c bo cap, e = .returned (.tuple #[.agg #[.int .u32 a, .int .u32 b, .int .u32 c, .slice bo n cap], .nilIface])
/-- What Read leaves, the header come whole. -/
def ReadPost (L : Lay) (R : Nat) (mx : Int) (inp : List Int) (w : World) (e : Ending) (w' : World) : Prop :=
  (∃ hs', Blk w' R (RdC L.b mx hs') 47 ∧ hs'.length = 16) ∧ Only [R, L.b, L.bf, L.bs] w w' ∧
  (((lenOf inp < 16 ∨ mx < lenOf inp) ∧ Bad e ∧ Loaded w' L (inp.drop 16)) ∨
   (16 ≤ lenOf inp ∧ lenOf inp ≤ mx ∧ (inp.length : Int) < lenOf inp ∧ Bad e ∧ Loaded w' L []) ∨
   (∃ m : Nat, lenOf inp = (m : Int) + 16 ∧ lenOf inp ≤ mx ∧ m + 16 ≤ inp.length ∧ Good m e ∧ Loaded w' L (inp.drop (m + 16))))
theorem lenOf_bd (inp : List Int) (h : Byt inp) : 0 ≤ lenOf inp ∧ lenOf inp ≤ 4294967295 := by
  have h0 := h.at 0; have h1 := h.at 1; have h2 := h.at 2; have h3 := h.at 3
  unfold lenOf be32; omega
/-- Reading block Z's four cells as a PDU, one behind the other. -/
theorem pdu_four {w : World} {Z : Nat} {a b c v : Value} (h : Blk w Z [a, b, c, v] 34) :
    w.cell? ⟨Z, 0, none⟩ = some a ∧ w.cell? ⟨Z, 1, none⟩ = some b ∧ w.cell? ⟨Z, 2, none⟩ = some c ∧ w.cell? ⟨Z, 3, none⟩ = some v ∧
    w.frozen? ⟨Z, 0, none⟩ = false ∧ w.frozen? ⟨Z, 1, none⟩ = false ∧ w.frozen? ⟨Z, 2, none⟩ = false ∧ w.frozen? ⟨Z, 3, none⟩ = false :=
  ⟨h.cell 0, h.cell 1, h.cell 2, h.cell 3, h.frozen 0, h.frozen 1, h.frozen 2, h.frozen 3⟩

end Go.Proofs.Qxb6616789aDoor
