/- THE READER's STATE, and what one (*bufio.Reader).Read does to it. -/
import Derived.Test.Qxb6616789aDoorFill
namespace Go.Proofs.Qxb6616789aDoor
open Go.RowKit
set_option linter.unusedVariables false

/-- The blocks of a reader: the bufio.Reader b, its buffer bf, the bytes.Reader bs, the bytes bd. -/
structure Lay where
  b : Nat
  bf : Nat
  bs : Nat
  bd : Nat

/-- They lie apart, and above the package-level variables. -/
structure Lay.Ok (L : Lay) : Prop where
  h1 : L.b ≠ L.bf
  h4 : L.b ≠ L.bs
  h5 : L.b ≠ L.bd
  h6 : L.bs ≠ L.bd
  h7 : L.bs ≠ L.bf
  h8 : L.bd ≠ L.bf
  g1 : L.b ≠ 1
  g2 : L.b ≠ 2
  k1 : L.bf ≠ 1
  k2 : L.bf ≠ 2
  j1 : L.bs ≠ 1
  j2 : L.bs ≠ 2

/-- Nothing has been read yet: the bytes zs lie in block bd. -/
def Fresh (w : World) (L : Lay) (zs : List Int) : Prop :=
  0 < zs.length ∧ zs.length ≤ 4096 ∧ ∃ lb lr fs c pr, Blk w L.b (BufC L.bf L.bs 0 0 .nilIface lb lr) 64 ∧ Blk w L.bf (bytesC fs) 5 ∧ fs.length = 4096 ∧
    Blk w L.bs (SrcC (.slice (some ⟨L.bd, 0, none⟩) zs.length c) 0 pr) 62 ∧ zs.length ≤ c ∧ Blk w L.bd (bytesC zs) 5

/-- The source has ended; what is unread lies in the buffer: rest. -/
def Loaded (w : World) (L : Lay) (rest : List Int) : Prop :=
  ∃ r lb lr fs a m c i pr, Blk w L.b (BufC L.bf L.bs r (r + rest.length) .nilIface lb lr) 64 ∧ r + rest.length ≤ 4096 ∧ Blk w L.bf (bytesC fs) 5 ∧ fs.length = 4096 ∧
    (fs.drop r).take rest.length = rest ∧ Blk w L.bs (SrcC (.slice a m c) i pr) 62 ∧ m ≤ i ∧ i ≤ 4096

theorem Loaded.only {w w' : World} {L : Lay} {rest : List Int} {S : List Nat} (h : Loaded w L rest) (o : Only S w w') (n1 : L.b ∉ S) (n2 : L.bf ∉ S) (n3 : L.bs ∉ S) : Loaded w' L rest := by
  obtain ⟨r, lb, lr, fs, a, m, c, i, pr, k1, k2, k3, k4, k5, k6, k7, k8⟩ := h
  exact ⟨r, lb, lr, fs, a, m, c, i, pr, o.blk k1 n1, k2, o.blk k3 n2, k4, k5, o.blk k6 n3, k7, k8⟩
theorem Fresh.only {w w' : World} {L : Lay} {zs : List Int} {S : List Nat} (h : Fresh w L zs) (o : Only S w w') (n1 : L.b ∉ S) (n2 : L.bf ∉ S) (n3 : L.bs ∉ S) (n4 : L.bd ∉ S) : Fresh w' L zs := by
  obtain ⟨k0, k00, lb, lr, fs, c, pr, k1, k2, k3, k4, k5, k6⟩ := h
  exact ⟨k0, k00, lb, lr, fs, c, pr, o.blk k1 n1, o.blk k2 n2, k3, o.blk k4 n3, k5, o.blk k6 n4⟩

/-- The state: the unread bytes. -/
def St (w : World) (L : Lay) (inp : List Int) : Prop := Fresh w L inp ∨ Loaded w L inp

theorem bytesC_seg (fs rest : List Int) (r k : Nat) (h : (fs.drop r).take rest.length = rest) (hk : k ≤ rest.length) : ((bytesC fs).drop r).take k = bytesC (rest.take k) := by
  have e : rest.take k = (fs.drop r).take k := by
    conv => lhs; rw [← h]
    rw [List.take_take, Nat.min_eq_left hk]
  rw [e]; simp [bytesC, List.map_take, List.map_drop]
theorem seg_drop (fs rest : List Int) (r k : Nat) (h : (fs.drop r).take rest.length = rest) (hk : k ≤ rest.length) : (fs.drop (r + k)).take (rest.drop k).length = rest.drop k := by
  have e : rest.drop k = ((fs.drop r).take rest.length).drop k := by rw [h]
  rw [e, List.drop_take, List.drop_drop]
  congr 1
  rw [List.length_take, List.length_drop]
  have : ((fs.drop r).take rest.length).length = rest.length := by rw [h]
  rw [List.length_take, List.length_drop] at this
  omega

/-- One Read, something being unread: k bytes go over. -/
theorem one_read (L : Lay) (ok : L.Ok) (inp : List Int) (g off len cap : Nat) (cur : List Value) (t : TypeId) (k : Nat) (w : World)
    (hS : St w L inp) (hG : Blk w g cur t) (hk : Nat.min inp.length len = k) (hne : 0 < inp.length) (hl : 0 < len) (hl2 : Loaded w L inp ∨ len < 4096) (hfit : off + len ≤ cur.length)
    (g1 : g ≠ L.b) (g2 : g ≠ L.bf) (g3 : g ≠ L.bs) (g4 : g ≠ L.bd) :
    Calls Tryd.prog 43 #[.pointer (some ⟨L.b, 0, none⟩), .slice (some ⟨g, off, none⟩) len cap] w fun e w' => e = .returned (.tuple #[.int .i64 k, .nilIface]) ∧
      Loaded w' L (inp.drop k) ∧ Blk w' g (splice cur off (bytesC (inp.take k))) t ∧ Only [g, L.b, L.bf, L.bs] w w' := by
  have hk1 : k ≤ inp.length := by rw [← hk]; exact Nat.min_le_left _ _
  by_cases hL : Loaded w L inp
  · obtain ⟨r, lb, lr, fs, a, m, c, i, pr, k1, k2, k3, k4, k5, k6, k7, k8⟩ := hL
    refine (buf_some L.b L.bf L.bs r (r + inp.length) lb lr fs g off len cap cur t k (bytesC (inp.take k)) w k1 k3 hG (by rw [Nat.add_sub_cancel_left]; exact hk) (bytesC_seg fs inp r k k5 hk1) (by omega) k2 k4 hl hfit ok.h1 g1 g2).mono ?_
    rintro e w' ⟨rfl, ⟨lb', A1⟩, A2, A3⟩
    refine ⟨rfl, ⟨r + k, lb', -1, fs, a, m, c, i, pr, ?_, ?_, A3.blk k3 (by simp; exact ⟨Ne.symm g2, Ne.symm ok.h1⟩), k4, seg_drop fs inp r k k5 hk1, A3.blk k6 (by simp; exact ⟨Ne.symm g3, Ne.symm ok.h4⟩), k7, k8⟩, A2, A3.mono (by simp)⟩
    · have e : r + k + (inp.drop k).length = r + inp.length := by simp; omega
      rw [e]; exact A1
    · simp; omega
  · have hl3 : len < 4096 := hl2.resolve_left hL
    have hF : Fresh w L inp := hS.resolve_right hL
    obtain ⟨k0, k00, lb, lr, fs, c, pr, k1, k2, k3, k4, k5, k6⟩ := hF
    refine (buf_fill L.b L.bf L.bs L.bd lb lr fs inp inp.length c pr g off len cap cur t k (bytesC (inp.take k)) w k1 k2 k4 k6 hG hk (by simp [bytesC, List.map_take]) hne k00 k5 rfl k3 hl hl3 hfit ok.h1 g1 g2 ok.h4 ok.h5 ok.h6 ok.h7 ok.h8 g3 g4).mono ?_
    rintro e w' ⟨rfl, ⟨lb', A1⟩, A2, A3, A4, A5⟩
    refine ⟨rfl, ⟨k, lb', -1, inp ++ fs.drop inp.length, _, _, _, _, _, ?_, ?_, A2, by simp; omega, ?_, A3, Nat.le_refl _, k00⟩, A4, A5⟩
    · have e : k + (inp.drop k).length = inp.length := by simp; omega
      rw [e]; exact A1
    · simp; omega
    · rw [List.drop_append_of_le_length hk1, List.take_append_of_le_length (by simp)]
      exact List.take_of_length_le (Nat.le_refl _)
/-- One Read, nothing being unread: 0 and io.EOF. -/
theorem one_eof (L : Lay) (ok : L.Ok) (p : Option Addr) (len cap : Nat) (x1 : Addr) (w : World)
    (hS : Loaded w L []) (g1 : w.cell? ⟨1, 0, none⟩ = some (.iface 70 (.pointer (some x1)))) (hl : 0 < len) :
    Calls Tryd.prog 43 #[.pointer (some ⟨L.b, 0, none⟩), .slice p len cap] w fun e w' => e = .returned (.tuple #[.int .i64 0, .iface 70 (.pointer (some x1))]) ∧
      Loaded w' L [] ∧ Only [L.b] w w' := by
  obtain ⟨r, lb, lr, fs, a, m, c, i, pr, k1, k2, k3, k4, k5, k6, k7, k8⟩ := hS
  by_cases hl4 : len < 4096
  · refine (buf_eof_small L.b L.bf L.bs r lb lr a m c i pr p len cap x1 w k1 k6 k7 k8 (by simpa using k2) g1 ok.h4 ok.g1 hl hl4).mono ?_
    rintro e w' ⟨rfl, A1, A2⟩
    exact ⟨rfl, ⟨0, lb, lr, fs, a, m, c, i, pr, A1, by simp, A2.blk k3 (by simp; exact Ne.symm ok.h1), k4, by simp, A2.blk k6 (by simp; exact Ne.symm ok.h4), k7, k8⟩, A2⟩
  · refine (buf_eof_large L.b L.bf L.bs r lb lr a m c i pr p len cap x1 w k1 k6 k7 k8 (by simpa using k2) g1 ok.h4 ok.g1 (by omega)).mono ?_
    rintro e w' ⟨rfl, A1, A2⟩
    exact ⟨rfl, ⟨r, lb, lr, fs, a, m, c, i, pr, A1, k2, A2.blk k3 (by simp; exact Ne.symm ok.h1), k4, by simp, A2.blk k6 (by simp; exact Ne.symm ok.h4), k7, k8⟩, A2⟩
end Go.Proofs.Qxb6616789aDoor
