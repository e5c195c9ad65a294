/- THE MEMORY NOTIONS OF THE WALKS: a block known whole ('Blk'); a step of the world that turns only named blocks ('Only'). No program in sight. -/
import Derived.Below
import Derived.Laws.Tables
import Derived.Laws.NewBlocks
import Derived.Laws.CopyOwn
import Derived.Deep.Draws
import Derived.Laws.Rows
namespace Go.Proofs.Qxb6616833aFmt
open Go.RowKit

/-- Block b holds just the cells cs, of element type t, none frozen. -/
def Blk (w : World) (b : Nat) (cs : List Value) (t : TypeId) : Prop := w.heap[b]? = some (.cells cs.toArray t (0, 0))

theorem Blk.cell {w : World} {b : Nat} {cs : List Value} {t : TypeId} (h : Blk w b cs t) (i : Nat) : w.cell? ⟨b, i, none⟩ = cs[i]? := by
  unfold Blk at h
  simp [World.cell?, h]
theorem Blk.frozen {w : World} {b : Nat} {cs : List Value} {t : TypeId} (h : Blk w b cs t) (i : Nat) : w.frozen? ⟨b, i, none⟩ = false := by
  unfold Blk at h
  simp [World.frozen?, h]
theorem Blk.lt {w : World} {b : Nat} {cs : List Value} {t : TypeId} (h : Blk w b cs t) : b < w.heap.size := (Array.getElem?_eq_some_iff.1 h).1
theorem Blk.of_heap {w w' : World} {b : Nat} {cs : List Value} {t : TypeId} (h : Blk w b cs t) (e : w'.heap[b]? = w.heap[b]?) : Blk w' b cs t := by
  unfold Blk at *; rw [e]; exact h
theorem Blk.drew {w : World} {b : Nat} {cs : List Value} {t : TypeId} (h : Blk w b cs t) : Blk w.drew b cs t := h
theorem Blk.set {w : World} {b : Nat} {cs : List Value} {t : TypeId} (h : Blk w b cs t) (i : Nat) (v : Value) : Blk (w.setCell ⟨b, i, none⟩ v) b (cs.set i v) t := by
  unfold Blk at *
  obtain ⟨hl, he⟩ := Array.getElem?_eq_some_iff.1 h
  simp [World.setCell, Array.getElem?_modify, h]
theorem Blk.set_other {w : World} {b : Nat} {cs : List Value} {t : TypeId} (h : Blk w b cs t) (p : Addr) (v : Value) (hp : b ≠ p.block) : Blk (w.setCell p v) b cs t :=
  h.of_heap (Below.heap_setCell w p v b hp)
theorem Blk.alloc {w : World} {b : Nat} {cs : List Value} {t : TypeId} (h : Blk w b cs t) (o : Obj) : Blk (w.alloc o) b cs t :=
  h.of_heap (Below.heap_alloc w o b h.lt)
theorem Blk.new (w : World) (cs : List Value) (t : TypeId) : Blk (w.alloc (.cells cs.toArray t)) w.heap.size cs t := by
  show (w.heap.push _)[w.heap.size]? = _
  simp
theorem Blk.setRow {w : World} {b : Nat} {cs : List Value} {t : TypeId} (h : Blk w b cs t) (ds : List Value) : Blk (w.setRow b ds.toArray) b ds t :=
  setRow_heap w b _ _ t _ h
theorem Blk.setRow_other {w : World} {b g : Nat} {cs : List Value} {t : TypeId} (h : Blk w b cs t) (ds : Array Value) (hg : b ≠ g) : Blk (w.setRow g ds) b cs t :=
  h.of_heap (Go.setRow_other w g b ds hg)

/-- From w to w' only the blocks of S (and new ones) have turned. -/
structure Only (S : List Nat) (w w' : World) : Prop where
  os : w'.os = w.os
  tape : w'.tape = w.tape
  output : w'.output = w.output
  size : w.heap.size ≤ w'.heap.size
  block : ∀ k, k < w.heap.size → k ∉ S → w'.heap[k]? = w.heap[k]?

theorem Only.refl (S : List Nat) (w : World) : Only S w w := ⟨rfl, rfl, rfl, Nat.le_refl _, fun _ _ _ => rfl⟩
theorem Only.trans {S : List Nat} {a b c : World} (h : Only S a b) (k : Only S b c) : Only S a c :=
  ⟨k.os.trans h.os, k.tape.trans h.tape, k.output.trans h.output, Nat.le_trans h.size k.size, fun i hi hs => (k.block i (Nat.lt_of_lt_of_le hi h.size) hs).trans (h.block i hi hs)⟩
theorem Only.mono {S S' : List Nat} {w w' : World} (h : Only S w w') (hs : ∀ k, k ∈ S → k ∈ S') : Only S' w w' :=
  ⟨h.os, h.tape, h.output, h.size, fun k hk hn => h.block k hk fun e => hn (hs k e)⟩
theorem Only.drew {S : List Nat} {a w : World} (h : Only S a w) : Only S a w.drew := ⟨h.os, h.tape, h.output, h.size, h.block⟩
theorem Only.alloc {S : List Nat} {a w : World} (h : Only S a w) (o : Obj) : Only S a (w.alloc o) :=
  h.trans ⟨rfl, rfl, rfl, by simp, fun k hk _ => Below.heap_alloc w o k hk⟩
theorem Only.setCell {S : List Nat} {a w : World} (h : Only S a w) {p : Addr} (hp : p.block ∈ S) (u : Value) : Only S a (w.setCell p u) :=
  h.trans ⟨rfl, rfl, rfl, by simp, fun k _ hn => Below.heap_setCell w p u k fun e => hn (e ▸ hp)⟩
theorem Only.setRow {S : List Nat} {a w : World} (h : Only S a w) {g : Nat} (hg : g ∈ S) (cs : Array Value) : Only S a (w.setRow g cs) :=
  h.trans ⟨rfl, rfl, rfl, by simp, fun k _ hn => Go.setRow_other w g k cs fun e => hn (e ▸ hg)⟩
theorem Only.blk {S : List Nat} {w w' : World} (h : Only S w w') {b : Nat} {cs : List Value} {t : TypeId} (k : Blk w b cs t) (hn : b ∉ S) : Blk w' b cs t :=
  k.of_heap (h.block b k.lt hn)
theorem Only.cell {S : List Nat} {w w' : World} (h : Only S w w') {p : Addr} {v : Value} (k : w.cell? p = some v) (hn : p.block ∉ S) : w'.cell? p = some v := by
  rw [World.cell?_of_block (w := w) (h.block p.block (World.block_lt_of_cell? _ _ k) hn)]; exact k
theorem Only.below {S : List Nat} {w w' : World} (h : Only S w w') {B : Nat} (hB : B ≤ w.heap.size) (hs : ∀ k, k ∈ S → B ≤ k) : Below B w w' :=
  ⟨h.os, h.tape, h.output, h.size, fun k hk => h.block k (by omega) fun e => by have := hs k e; omega⟩
theorem Only.of_below {S : List Nat} {w w' : World} (h : Below w.heap.size w w') : Only S w w' :=
  ⟨h.os, h.tape, h.output, h.size, fun k hk _ => h.block k hk⟩
theorem Blk.drewN {w : World} {b : Nat} {cs : List Value} {t : TypeId} (h : Blk w b cs t) (n : Nat) : Blk (w.drewN n) b cs t := h
theorem Only.drewN {S : List Nat} {a w : World} (h : Only S a w) (n : Nat) : Only S a (w.drewN n) := ⟨h.os, h.tape, h.output, h.size, h.block⟩
theorem Only.of_drewN {S : List Nat} {w w' : World} (h : ∃ n, w' = w.drewN n) : Only S w w' := by
  obtain ⟨n, rfl⟩ := h; exact (Only.refl _ _).drewN n
theorem Blk.of_drewN {w w' : World} {b : Nat} {cs : List Value} {t : TypeId} (h : Blk w b cs t) (k : ∃ n, w' = w.drewN n) : Blk w' b cs t := by
  obtain ⟨n, rfl⟩ := k; exact h.drewN n

theorem add_at (b o j : Nat) : (⟨b, o, none⟩ : Addr).add j = ⟨b, o + j, none⟩ := by
  unfold Addr.add; split
  · rename_i h; subst h; rfl
  · rfl
theorem Blk.whole {w : World} {b : Nat} {cs : List Value} {t : TypeId} (h : Blk w b cs t) : ∀ j v, cs[j]? = some v → w.cell? ((⟨b, 0, none⟩ : Addr).add j) = some v := by
  intro j v hv
  have := h.cell j
  rw [hv] at this
  rw [add_at, Nat.zero_add]; exact this
theorem Blk.seg {w : World} {b : Nat} {cs : List Value} {t : TypeId} (h : Blk w b cs t) (o k : Nat) : ∀ j v, ((cs.drop o).take k)[j]? = some v → w.cell? ((⟨b, o, none⟩ : Addr).add j) = some v := by
  intro j v hv
  have := h.cell (o + j)
  rw [List.getElem?_take] at hv
  split at hv
  · rw [List.getElem?_drop] at hv
    rw [hv] at this
    rw [add_at]; exact this
  · cases hv

/-- 'copy' INTO A BLOCK THAT IS KNOWN WHOLE, as one step of a region that draws its order. -/
theorem step_copy_blk {P : Program} {ops : Array Oper} {o : Oper} {a : Act} {w : World} {K : Act → World → Prop} {Q : Exit → Act → World → Prop} {E : Prop} (hgd : o.guard = none) (d s : Operand) (dT sT : TypeId)
    (ho : o.op = .call { callee := .builtin .copy, args := #[d, s], argTypes := #[dT, sT] }) (elem : TypeId) (hu : P.underlying dT = some (.slice elem)) (hsz : (P.info? elem).map (·.size) = some 1)
    (g off dLen dCap : Nat) (ad : Addr) (sLen sCap : Nat) (hd : a.eval d = .slice (some ⟨g, off, none⟩) dLen dCap) (hs : a.eval s = .slice (some ad) sLen sCap)
    (cur : List Value) (t : TypeId) (hg : Blk w g cur t) (cs : List Value) (hn : cs.length = Nat.min sLen dLen)
    (hsrc : ∀ j v, cs[j]? = some v → w.cell? (ad.add j) = some v) (hfit : off + cs.length ≤ cur.length) (h1 : ∀ v ∈ cs, v.oneCell' = true)
    (h : K (a.put o.dst (.int .i64 cs.length)) (w.setRow g (splice cur off cs).toArray)) :
    if Region.wanted o (yielded ops a.tmps) = true then Oper.wp P o a w K Q else E := by
  have hw : Region.wanted o (yielded ops a.tmps) = true := by simp [Region.wanted, hgd]
  rw [if_pos hw]
  have hrun := run_copy_row (P := P) w dT sT o.type elem g off dLen dCap ad sLen sCap cur.toArray t cs hu hsz hg hn hsrc (by simpa using hfit) h1
  unfold Oper.wp
  simp [execOp, ho, resolve, invoke, builtin, hd, hs, hrun, Result.andThen]
  have h' : K (a.put o.dst (goInt cs.length)) (w.setRow g (cur.take off ++ (cs ++ cur.drop (off + cs.length))).toArray) := h
  exact h'

theorem hid {p : Prop} (h : p) : Hid p := h
theorem Only.trans_new {S S' : List Nat} {w a b : World} (h : Only S w a) (o : Only S' a b) (hn : ∀ k ∈ S', k ∈ S ∨ w.heap.size ≤ k) : Only S w b :=
  ⟨o.os.trans h.os, o.tape.trans h.tape, o.output.trans h.output, Nat.le_trans h.size o.size, fun k hk hs =>
    (o.block k (Nat.lt_of_lt_of_le hk h.size) fun e => (hn k e).elim hs (fun e => by omega)).trans (h.block k hk hs)⟩
/-- Nothing that was there has turned. -/
theorem Only.new {w a b : World} (h : Only [] w a) {g : Nat} (o : Only [g] a b) (hg : w.heap.size ≤ g) : Only [] w b :=
  h.trans_new o (by simp; exact hg)
theorem Only.cell' {w w' : World} (h : Only [] w w') {p : Addr} {v : Value} (k : w.cell? p = some v) : w'.cell? p = some v := h.cell k (by simp)
theorem Only.blk' {w w' : World} (h : Only [] w w') {b : Nat} {cs : List Value} {t : TypeId} (k : Blk w b cs t) : Blk w' b cs t := h.blk k (by simp)

/-- A row of bytes. -/
def bytesC (zs : List Int) : List Value := zs.map (Value.int .u8)
theorem bytesC_length (zs : List Int) : (bytesC zs).length = zs.length := by simp [bytesC]
theorem bytesC_one (zs : List Int) : ∀ v ∈ bytesC zs, v.oneCell' = true := by
  intro v hv
  obtain ⟨z, _, rfl⟩ := List.mem_map.1 hv
  rfl
/-- Bytes. -/
def Byt (zs : List Int) : Prop := ∀ z ∈ zs, 0 ≤ z ∧ z ≤ 255
theorem Byt.at {zs : List Int} (h : Byt zs) (j : Nat) : 0 ≤ zs.getD j 0 ∧ zs.getD j 0 ≤ 255 := by
  rw [List.getD_eq_getElem?_getD]
  cases e : zs[j]? with
  | none => simp
  | some z => exact h z (List.mem_of_getElem? e)
/-- A slice of bytes at a, of length len, reads as zs. -/
def BytesIs (w : World) (a : Option Addr) (len : Nat) (zs : List Int) : Prop :=
  zs.length = len ∧ Byt zs ∧ (0 < len → ∃ b off, a = some ⟨b, off, none⟩ ∧ ∀ j, j < len → w.cell? ⟨b, off + j, none⟩ = some (.int .u8 (zs.getD j 0)))
theorem BytesIs.only {w w' : World} {a : Option Addr} {len : Nat} {zs : List Int} (h : BytesIs w a len zs) (o : Only [] w w') : BytesIs w' a len zs := by
  obtain ⟨h1, h2, h3⟩ := h
  refine ⟨h1, h2, fun h0 => ?_⟩
  obtain ⟨b, off, e, hc⟩ := h3 h0
  exact ⟨b, off, e, fun j hj => o.cell' (hc j hj)⟩
theorem BytesIs.of_blk {w : World} {b : Nat} {zs : List Int} (h : Blk w b (bytesC zs) 5) (hby : Byt zs) : BytesIs w (some ⟨b, 0, none⟩) zs.length zs := by
  refine ⟨rfl, hby, fun _ => ⟨b, 0, rfl, fun j hj => ?_⟩⟩
  rw [Nat.zero_add, h.cell]; simp [bytesC, List.getD_eq_getElem?_getD, hj]
end Go.Proofs.Qxb6616833aFmt
