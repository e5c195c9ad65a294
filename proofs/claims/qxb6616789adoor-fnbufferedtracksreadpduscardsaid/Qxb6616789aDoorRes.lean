/- (*smpp.Reader).Read, all ways in one; the reader as it is made. -/
import Derived.Test.Qxb6616789aDoorHdrA
import Derived.Test.Qxb6616789aDoorHdrB
import Derived.Test.Qxb6616789aDoorHdrC
import Derived.Test.Qxb6616789aDoorClone
namespace Go.Proofs.Qxb6616789aDoor
open Go.RowKit
set_option linter.unusedVariables false

/-- What stays of the reader from one call to the next. -/
structure Rd (w : World) (L : Lay) (B R : Nat) (mx : Int) (x1 x2 : Addr) : Prop where
  ok : L.Ok
  glob : Glob w B x1 x2
  inn : L.In B R w.heap.size
  blk : ∃ hs, Blk w R (RdC L.b mx hs) 47 ∧ hs.length = 16
theorem Rd.step {w w' : World} {L : Lay} {B R : Nat} {mx : Int} {x1 x2 : Addr} (h : Rd w L B R mx x1 x2) (o : Only [R, L.b, L.bf, L.bs] w w') (k : ∃ hs', Blk w' R (RdC L.b mx hs') 47 ∧ hs'.length = 16) : Rd w' L B R mx x1 x2 :=
  ⟨h.ok, h.glob.step o h.inn.all, h.inn.mono o.size, k⟩
theorem Rd.draws {w w' : World} {L : Lay} {B R : Nat} {mx : Int} {x1 x2 : Addr} (h : Rd w L B R mx x1 x2) (k : ∃ n, w' = w.drewN n) : Rd w' L B R mx x1 x2 := by
  obtain ⟨n, rfl⟩ := k
  exact h.step ((Only.refl _ _).drewN n) h.blk

theorem read_short (L : Lay) (B R : Nat) (mx : Int) (inp : List Int) (x1 x2 : Addr) (w : World) (h : Rd w L B R mx x1 x2) (hS : St w L inp) (hlen : inp.length < 16) :
    Calls Tryd.prog 10 #[.pointer (some ⟨R, 0, none⟩)] w fun e w' => Bad e ∧ Loaded w' L [] ∧ Rd w' L B R mx x1 x2 ∧ Only [R, L.b, L.bf, L.bs] w w' := by
  obtain ⟨hs, k1, k2⟩ := h.blk
  refine (read_nohdr L h.ok B R mx hs inp x1 x2 w k1 k2 hS h.glob h.inn hlen).mono ?_
  rintro e w' ⟨A1, A2, A3, A4⟩
  exact ⟨A1, A2, h.step A4 A3, A4⟩
theorem read_post (L : Lay) (B R : Nat) (mx : Int) (inp : List Int) (x1 x2 : Addr) (w : World) (h : Rd w L B R mx x1 x2) (hS : St w L inp) (hlen : 16 ≤ inp.length) (hby : Byt inp) (hl4 : inp.length ≤ 4096) (hmx : 0 ≤ mx ∧ mx ≤ 4294967295) :
    Calls Tryd.prog 10 #[.pointer (some ⟨R, 0, none⟩)] w fun e w' => ReadPost L R mx inp w e w' := by
  obtain ⟨hs, k1, k2⟩ := h.blk
  by_cases hbad : lenOf inp < 16 ∨ mx < lenOf inp
  · exact read_badlen L h.ok B R mx hs inp x1 x2 w k1 k2 hS h.glob h.inn hlen hby hl4 hmx hbad
  · by_cases hc : lenOf inp ≤ 65552
    · exact read_small L h.ok B R mx hs inp x1 x2 w k1 k2 hS h.glob h.inn hlen hby hl4 hmx hbad hc
    · exact read_big L h.ok B R mx hs inp x1 x2 w k1 k2 hS h.glob h.inn hlen hby hl4 hmx hbad (by omega)
theorem read_bad (L : Lay) (B R : Nat) (mx : Int) (inp : List Int) (x1 x2 : Addr) (w : World) (h : Rd w L B R mx x1 x2) (hS : St w L inp) (hlen : 16 ≤ inp.length) (hby : Byt inp) (hl4 : inp.length ≤ 4096) (hmx : 0 ≤ mx ∧ mx ≤ 4294967295)
    (hbad : lenOf inp < 16 ∨ mx < lenOf inp) :
    Calls Tryd.prog 10 #[.pointer (some ⟨R, 0, none⟩)] w fun e w' => Bad e ∧ Loaded w' L (inp.drop 16) ∧ Rd w' L B R mx x1 x2 ∧ Only [R, L.b, L.bf, L.bs] w w' := by
  refine (read_post L B R mx inp x1 x2 w h hS hlen hby hl4 hmx).mono ?_
  rintro e w' ⟨A1, A2, A3⟩
  rcases A3 with ⟨_, A4, A5⟩ | ⟨A4, A5, _⟩ | ⟨m, A4, A5, _⟩
  · exact ⟨A4, A5, h.step A2 A1, A2⟩
  · omega
  · omega
theorem read_long (L : Lay) (B R : Nat) (mx : Int) (inp : List Int) (x1 x2 : Addr) (w : World) (h : Rd w L B R mx x1 x2) (hS : St w L inp) (hlen : 16 ≤ inp.length) (hby : Byt inp) (hl4 : inp.length ≤ 4096) (hmx : 0 ≤ mx ∧ mx ≤ 4294967295)
    (h16 : 16 ≤ lenOf inp) (hm : lenOf inp ≤ mx) (hlong : (inp.length : Int) < lenOf inp) :
    Calls Tryd.prog 10 #[.pointer (some ⟨R, 0, none⟩)] w fun e w' => Bad e ∧ Loaded w' L [] ∧ Rd w' L B R mx x1 x2 ∧ Only [R, L.b, L.bf, L.bs] w w' := by
  refine (read_post L B R mx inp x1 x2 w h hS hlen hby hl4 hmx).mono ?_
  rintro e w' ⟨A1, A2, A3⟩
  rcases A3 with ⟨A4, _⟩ | ⟨_, _, _, A4, A5⟩ | ⟨m, A4, A5, A6, _⟩
  · omega
  · exact ⟨A4, A5, h.step A2 A1, A2⟩
  · omega
theorem read_ok (L : Lay) (B R : Nat) (mx : Int) (inp : List Int) (x1 x2 : Addr) (w : World) (m : Nat) (h : Rd w L B R mx x1 x2) (hS : St w L inp) (hlen : 16 ≤ inp.length) (hby : Byt inp) (hl4 : inp.length ≤ 4096) (hmx : 0 ≤ mx ∧ mx ≤ 4294967295)
    (hm : lenOf inp = (m : Int) + 16) (hm2 : lenOf inp ≤ mx) (hok : m + 16 ≤ inp.length) :
    Calls Tryd.prog 10 #[.pointer (some ⟨R, 0, none⟩)] w fun e w' => Good m e ∧ Loaded w' L (inp.drop (m + 16)) ∧ Rd w' L B R mx x1 x2 ∧ Only [R, L.b, L.bf, L.bs] w w' := by
  refine (read_post L B R mx inp x1 x2 w h hS hlen hby hl4 hmx).mono ?_
  rintro e w' ⟨A1, A2, A3⟩
  rcases A3 with ⟨A4, _⟩ | ⟨_, _, A4, _⟩ | ⟨m', A4, A5, A6, A7, A8⟩
  · omega
  · omega
  · obtain rfl : m' = m := by omega
    exact ⟨A7, A8, h.step A2 A1, A2⟩

/-- The reader as ZZNewReaderOfBytes makes it. -/
def made (w : World) (sv : Value) (mx : Int) : World :=
  (((w.alloc (.cells (SrcC sv 0 (-1)).toArray 62)).alloc (.cells (BufC (w.heap.size + 2) w.heap.size 0 0 .nilIface (-1) (-1)).toArray 64)).alloc (.cells (zeros 4096).toArray 5)).alloc (.cells (RdC (w.heap.size + 1) mx (zeros 16)).toArray 47)
def layAt (s bd : Nat) : Lay := ⟨s + 1, s + 2, s, bd⟩
theorem made_blks (w : World) (sv : Value) (mx : Int) : Blk (made w sv mx) w.heap.size (SrcC sv 0 (-1)) 62 ∧ Blk (made w sv mx) (w.heap.size + 1) (BufC (w.heap.size + 2) w.heap.size 0 0 .nilIface (-1) (-1)) 64 ∧
    Blk (made w sv mx) (w.heap.size + 2) (zeros 4096) 5 ∧ Blk (made w sv mx) (w.heap.size + 3) (RdC (w.heap.size + 1) mx (zeros 16)) 47 ∧ Only [] w (made w sv mx) ∧ (made w sv mx).heap.size = w.heap.size + 4 := by
  have b1 := Blk.new w (SrcC sv 0 (-1)) 62
  have b2 := Blk.new (w.alloc (.cells (SrcC sv 0 (-1)).toArray 62)) (BufC (w.heap.size + 2) w.heap.size 0 0 .nilIface (-1) (-1)) 64
  have b3 := Blk.new ((w.alloc (.cells (SrcC sv 0 (-1)).toArray 62)).alloc (.cells (BufC (w.heap.size + 2) w.heap.size 0 0 .nilIface (-1) (-1)).toArray 64)) (zeros 4096) 5
  have b4 := Blk.new (((w.alloc (.cells (SrcC sv 0 (-1)).toArray 62)).alloc (.cells (BufC (w.heap.size + 2) w.heap.size 0 0 .nilIface (-1) (-1)).toArray 64)).alloc (.cells (zeros 4096).toArray 5)) (RdC (w.heap.size + 1) mx (zeros 16)) 47
  simp only [World.size_alloc] at b2 b3 b4
  exact ⟨((b1.alloc _).alloc _).alloc _, (b2.alloc _).alloc _, b3.alloc _, b4, ((((Only.refl _ _).alloc _).alloc _).alloc _).alloc _, by simp [made]⟩
theorem zeros_bytes (n : Nat) : zeros n = bytesC (List.replicate n 0) := by simp [zeros, bytesC]

theorem made_rd (w : World) (sv : Value) (mx : Int) (B bd : Nat) (x1 x2 : Addr) (hg : Glob w B x1 x2) (hbd : bd < w.heap.size) : Rd (made w sv mx) (layAt w.heap.size bd) B (w.heap.size + 3) mx x1 x2 := by
  obtain ⟨b1, b2, b3, b4, o, hz⟩ := made_blks w sv mx
  have l0 := hg.l0; have l3 := hg.l3
  refine ⟨⟨?_, ?_, ?_, ?_, ?_, ?_, ?_, ?_, ?_, ?_, ?_, ?_⟩, hg.step o (by simp), ⟨?_, ?_, ?_, ?_, ?_, ?_, ?_, ?_, ?_, ?_, ?_, ?_, ?_⟩, ⟨_, b4, zeros_length 16⟩⟩ <;> (try simp only [layAt, hz]) <;> omega
theorem made_fresh (w : World) (mx : Int) (bd n c : Nat) (zs : List Int) (hb : Blk w bd (bytesC zs) 5) (hn : zs.length = n) (h0 : 0 < n) (h4 : n ≤ 4096) (hc : n ≤ c) : Fresh (made w (.slice (some ⟨bd, 0, none⟩) n c) mx) (layAt w.heap.size bd) zs := by
  subst hn
  obtain ⟨b1, b2, b3, b4, o, hz⟩ := made_blks w (.slice (some ⟨bd, 0, none⟩) zs.length c) mx
  exact ⟨h0, h4, -1, -1, List.replicate 4096 0, c, -1, b2, by rw [← zeros_bytes]; exact b3, List.length_replicate, b1, hc, o.blk hb (by simp)⟩
theorem made_empty (w : World) (mx : Int) (bd c : Nat) (a : Option Addr) : Loaded (made w (.slice a 0 c) mx) (layAt w.heap.size bd) [] := by
  obtain ⟨b1, b2, b3, b4, o, hz⟩ := made_blks w (.slice a 0 c) mx
  exact ⟨0, -1, -1, List.replicate 4096 0, a, 0, c, 0, -1, b2, by decide, by rw [← zeros_bytes]; exact b3, List.length_replicate, List.take_zero, b1, Nat.le_refl _, by omega⟩
end Go.Proofs.Qxb6616789aDoor
