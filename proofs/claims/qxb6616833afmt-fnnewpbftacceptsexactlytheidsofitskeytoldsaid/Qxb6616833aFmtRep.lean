/- Step laws over whole structs that end in an abstract world; the replica's cells. -/
import Derived.Test.Qxb6616833aFmtCom
import Derived.Laws.Tables
import Derived.Laws.Rows
namespace Go.Proofs.Qxb6616833aFmt
open Go.RowKit
set_option linter.unusedVariables false

section
variable {P : Program} {ops : Array Oper} {rest : List Oper} {o : Oper} {a : Act} {w : World} {Q : Exit → Act → World → Prop}

theorem st_alloc (hg : o.guard = none) (t : TypeId) (ho : o.op = .alloc t) (zs : List Value) (hz : (P.info? t).bind (fun i => i.zero.map Value.cells) = some zs.toArray)
    (h : ∀ W g, w.heap.size ≤ g → Only [] w W → Blk W g zs t → wpList P ops Q rest (a.put o.dst (.pointer (some ⟨g, 0, none⟩))) W) : wpList P ops Q (o :: rest) a w := by
  refine wpList_plain hg fun K hK => ?_
  obtain ⟨i, hi, hi2⟩ := Option.bind_eq_some_iff.1 hz
  obtain ⟨z, hz1, hz2⟩ := Option.map_eq_some_iff.1 hi2
  have hzv : (zeroValue t).run P w = .ok z w := by simp [zeroValue, typeInfo, hi, hz1]
  unfold Oper.wp execOp
  simp only [ho, Sem.run_bind, Instr.alloc, hzv, newVar, newRow, run_newObj_alloc, Sem.run_pure, Result.andThen_ok]
  rw [hz2]
  exact hK _ _ (h _ _ (Nat.le_refl _) ((Only.refl _ _).alloc _) (Blk.new w zs t))

theorem st_box (hg : o.guard = none) (t : TypeId) (x : Operand) (ho : o.op = .box t x) (cs : List Value) (hx : a.eval x = .agg cs.toArray)
    (h : ∀ W g, w.heap.size ≤ g → Only [] w W → Blk W g cs t → wpList P ops Q rest (a.put o.dst (.pointer (some ⟨g, 0, none⟩))) W) : wpList P ops Q (o :: rest) a w := by
  refine wpList_plain hg fun K hK => ?_
  unfold Oper.wp execOp
  simp only [ho, hx, Sem.run_bind, Instr.box, newVar, newRow, run_newObj_alloc, Sem.run_pure, Result.andThen_ok, Value.cells]
  exact hK _ _ (h _ _ (Nat.le_refl _) ((Only.refl _ _).alloc _) (Blk.new w cs t))

theorem st_load (hg : o.guard = none) (ty : TypeId) (x : Operand) (ho : o.op = .load ty x) (g : Nat) (hx : a.eval x = .pointer (some ⟨g, 0, none⟩)) (cs : List Value) (t : TypeId) (hB : Blk w g cs t)
    (d : TypeDesc) (hu : P.underlying ty = some d) (hd : (match d with | .struct _ | .array _ _ => true | _ => false) = true) (hi : (P.info? ty).map (·.size) = some cs.length)
    (h : wpList P ops Q rest (a.put o.dst (.agg cs.toArray)) w) : wpList P ops Q (o :: rest) a w :=
  wpList_load_row hg ty x ho g hx t cs.toArray (0, 0) d hB hu hd (by simpa using hi) h

theorem st_store (hg : o.guard = none) (ty : TypeId) (x y : Operand) (ho : o.op = .store ty x y) (g : Nat) (hx : a.eval x = .pointer (some ⟨g, 0, none⟩)) (cs : List Value) (hy : a.eval y = .agg cs.toArray)
    (old : List Value) (t : TypeId) (hB : Blk w g old t) (hi : (P.info? ty).map (·.size) = some cs.length) (hold : old.length = cs.length) (h1 : ∀ v ∈ cs, v.oneCell' = true)
    (h : ∀ W, Only [g] w W → Blk W g cs t → wpList P ops Q rest (a.put o.dst undef) W) : wpList P ops Q (o :: rest) a w :=
  wpList_store_row hg ty x y ho g cs.toArray hx hy t old.toArray hB (by simpa using hi) (by simpa using hold) (by simpa using h1)
    (h _ ((Only.refl _ _).setRow (by simp) _) (hB.setRow cs))

theorem st_build (hg : o.guard = none) (t : TypeId) (parts : Array (Nat × Operand)) (ho : o.op = .build t parts) (vs : List (Nat × Value)) (hv : (parts.map fun (i, x) => (i, a.eval x)).toList = vs)
    (cs : List Value) (hb : P.built t vs = some cs.toArray)
    (h : wpList P ops Q rest (a.put o.dst (.agg cs.toArray)) w) : wpList P ops Q (o :: rest) a w := by
  subst hv
  refine wpList_build hg t parts ho (by rw [hb]; rfl) ?_
  rw [hb]
  exact h
end

/-! ### fill -/
/-- A value's cells laid over a row from off on. -/
def putA (off : Nat) (l : List Value) (n : Nat) (cells : Array Value) : Array Value := (l.zipIdx n).foldl (fun cs (c, j) => cs.setIfInBounds (off + j) c) cells
theorem putA_size (off : Nat) (l : List Value) : ∀ (n : Nat) (cells : Array Value), (putA off l n cells).size = cells.size := by
  induction l with
  | nil => intro n cells; rfl
  | cons x l ih =>
    intro n cells
    show (putA off l (n + 1) (cells.setIfInBounds (off + n) x)).size = _
    rw [ih]; simp
theorem putA_at (off : Nat) (l : List Value) : ∀ (n : Nat) (cells : Array Value) (k : Nat), (putA off l n cells)[k]? = if off + n ≤ k ∧ k < off + n + l.length ∧ k < cells.size then l[k - (off + n)]? else cells[k]? := by
  induction l with
  | nil =>
    intro n cells k
    show cells[k]? = _
    rw [if_neg]
    simp; omega
  | cons x l ih =>
    intro n cells k
    show (putA off l (n + 1) (cells.setIfInBounds (off + n) x))[k]? = _
    rw [ih]
    simp only [Array.size_setIfInBounds, List.length_cons]
    by_cases h : off + n = k
    · subst h
      rw [if_neg (by omega)]
      by_cases h2 : off + n < cells.size
      · rw [if_pos (by omega), Array.getElem?_setIfInBounds_self_of_lt h2]; simp
      · rw [if_neg (by omega)]
        rw [Array.getElem?_eq_none (by simp; omega), Array.getElem?_eq_none (by omega)]
    · by_cases h2 : off + n + 1 ≤ k ∧ k < off + n + 1 + l.length ∧ k < cells.size
      · rw [if_pos (by omega), if_pos (by omega)]
        obtain ⟨j, rfl⟩ : ∃ j, k = off + n + 1 + j := ⟨k - (off + n + 1), by omega⟩
        rw [show off + n + 1 + j - (off + (n + 1)) = j by omega, show off + n + 1 + j - (off + n) = j + 1 by omega]
        simp
      · rw [if_neg (by omega), if_neg (by omega), Array.getElem?_setIfInBounds_ne h]
theorem fill_cons (place : Nat → Option (Nat × Nat)) (cells : Array Value) (i : Nat) (v : Value) (rest : List (Nat × Value)) (off : Nat) (l : List Value) (hv : v.cells = l.toArray) (hp : place i = some (off, l.length)) (hl : off + l.length ≤ cells.size) :
    Instr.fill place cells ((i, v) :: rest) = Instr.fill place (putA off l 0 cells) rest := by
  conv => lhs; unfold Instr.fill
  rw [hp, hv]
  have : ¬ (off + l.length > cells.size) := by omega
  simp [this]
  rfl
theorem putA_one (off : Nat) (l : List Value) (n : Nat) (cells : Array Value) (h1 : ∀ v ∈ l, v.oneCell' = true) (h2 : ∀ v ∈ cells, v.oneCell' = true) : ∀ v ∈ putA off l n cells, v.oneCell' = true := by
  intro v hv
  obtain ⟨k, hk⟩ := Array.mem_iff_getElem?.1 hv
  rw [putA_at] at hk
  split at hk
  · exact h1 v (List.mem_iff_getElem?.2 ⟨_, hk⟩)
  · exact h2 v (Array.mem_iff_getElem?.2 ⟨_, hk⟩)

/-! ### The replica, the block -/
noncomputable def z57 : List Value := (((Tryf.prog.info? 57).bind (fun i => i.zero.map Value.cells)).getD #[]).toList
noncomputable def z34 : List Value := (((Tryf.prog.info? 34).bind (fun i => i.zero.map Value.cells)).getD #[]).toList
theorem zero57 : (Tryf.prog.info? 57).bind (fun i => i.zero.map Value.cells) = some z57.toArray := by kernel_rfl
theorem zero34 : (Tryf.prog.info? 34).bind (fun i => i.zero.map Value.cells) = some z34.toArray := by kernel_rfl
theorem z57_length : z57.length = 85 := by kernel_rfl
theorem z34_length : z34.length = 34 := by kernel_rfl
theorem z57_one : z57.all (·.oneCell') = true := by kernel_rfl
theorem z34_one : z34.all (·.oneCell') = true := by kernel_rfl
theorem z57_37 : z57[37]? = some .nilFunc := by kernel_rfl
theorem size57 : (Tryf.prog.info? 57).map (·.size) = some 85 := by kernel_rfl
theorem size59 : (Tryf.prog.info? 59).map (·.size) = some 85 := by kernel_rfl
theorem size34 : (Tryf.prog.info? 34).map (·.size) = some 34 := by kernel_rfl
theorem size25 : (Tryf.prog.info? 25).map (·.size) = some 32 := by kernel_rfl
noncomputable def places (t : TypeId) : List (Nat × Nat) := match Tryf.prog.underlying t with
  | some (.struct fields) => (fields.toList.mapM (fun f => (Tryf.prog.info? f.type).map fun i => (f.offset, i.size))).getD []
  | _ => []
theorem built57 (parts : List (Nat × Value)) : Tryf.prog.built 57 parts = Instr.fill ((places 57).toArray[·]?) z57.toArray parts := by kernel_rfl
theorem built59 (parts : List (Nat × Value)) : Tryf.prog.built 59 parts = Instr.fill ((places 59).toArray[·]?) z57.toArray parts := by kernel_rfl
theorem built34 (parts : List (Nat × Value)) : Tryf.prog.built 34 parts = Instr.fill ((places 34).toArray[·]?) z34.toArray parts := by kernel_rfl
theorem pl57_0 : (places 57).toArray[0]? = some (0, 1) := by kernel_rfl
theorem pl57_1 : (places 57).toArray[1]? = some (1, 1) := by kernel_rfl
theorem pl57_2 : (places 57).toArray[2]? = some (2, 1) := by kernel_rfl
theorem pl57_3 : (places 57).toArray[3]? = some (3, 34) := by kernel_rfl
theorem pl59_0 : (places 59).toArray[0]? = some (0, 85) := by kernel_rfl
theorem pl34_0 : (places 34).toArray[0]? = some (0, 1) := by kernel_rfl
theorem pl34_1 : (places 34).toArray[1]? = some (1, 32) := by kernel_rfl
theorem pl34_2 : (places 34).toArray[2]? = some (33, 1) := by kernel_rfl

/-- The cells of a replica of process id. -/
structure RepC (cs : List Value) : Prop where
  len : cs.length = 85
  one : ∀ v ∈ cs, v.oneCell' = true
/-- The cells of a block of height h with value s. -/
structure BloC (bc : List Value) (h : Int) (s : ByteArray) : Prop where
  len : bc.length = 34
  one : ∀ v ∈ bc, v.oneCell' = true
  ht : bc[0]? = some (.int .u64 h)
  vl : bc[33]? = some (.string s)
theorem z57_rep : RepC z57 := ⟨z57_length, by simpa using z57_one⟩
theorem built57_nil : Tryf.prog.built 57 [] = some z57.toArray := by rw [built57]; rfl
theorem built57_rep (id : Int) (ka pa : Option Addr) (n c m d : Nat) (bc : List Value) (h : Int) (s : ByteArray) (hb : BloC bc h s) :
    ∃ cs : List Value, Tryf.prog.built 57 [(0, .int .i64 id), (1, .slice ka n c), (2, .slice pa m d), (3, .agg bc.toArray)] = some cs.toArray ∧ RepC cs ∧ cs[0]? = some (.int .i64 id) ∧ cs[37]? = some .nilFunc := by
  have hz : z57.toArray.size = 85 := by simp [z57_length]
  rw [built57, fill_cons _ _ 0 _ _ 0 [.int .i64 id] rfl pl57_0 (by simp [z57_length]), fill_cons _ _ 1 _ _ 1 [.slice ka n c] rfl pl57_1 (by rw [putA_size, hz]; simp),
    fill_cons _ _ 2 _ _ 2 [.slice pa m d] rfl pl57_2 (by rw [putA_size, putA_size, hz]; simp), fill_cons _ _ 3 _ _ 3 bc rfl (by rw [pl57_3, hb.len]) (by rw [putA_size, putA_size, putA_size, hz, hb.len]; omega)]
  refine ⟨(putA 3 bc 0 (putA 2 [.slice pa m d] 0 (putA 1 [.slice ka n c] 0 (putA 0 [.int .i64 id] 0 z57.toArray)))).toList, ?_, ⟨?_, ?_⟩, ?_, ?_⟩
  · rfl
  · simp [putA_size, z57_length]
  · intro v hv
    refine putA_one _ _ _ _ hb.one (putA_one _ _ _ _ ?_ (putA_one _ _ _ _ ?_ (putA_one _ _ _ _ ?_ ?_))) v (by simpa using hv)
    · simp [Value.oneCell']
    · simp [Value.oneCell']
    · simp [Value.oneCell']
    · intro v hv
      exact z57_rep.one v (by simpa using hv)
  · rw [Array.getElem?_toList, putA_at, if_neg (by omega), putA_at, if_neg (by omega), putA_at, if_neg (by omega), putA_at, if_pos (by simp [z57_length])]
    rfl
  · rw [Array.getElem?_toList, putA_at, if_neg (by rw [hb.len]; omega), putA_at, if_neg (by simp), putA_at, if_neg (by simp), putA_at, if_neg (by simp)]
    simpa using z57_37
theorem built59_rep (cs : List Value) (hc : RepC cs) : ∃ ds : List Value, Tryf.prog.built 59 [(0, .agg cs.toArray)] = some ds.toArray ∧ RepC ds ∧ ds[0]? = cs[0]? := by
  have hz : z57.toArray.size = 85 := by simp [z57_length]
  rw [built59, fill_cons _ _ 0 _ _ 0 cs rfl (by rw [pl59_0, hc.len]) (by rw [hc.len, hz]; omega)]
  refine ⟨(putA 0 cs 0 z57.toArray).toList, rfl, ⟨by simp [putA_size, z57_length], ?_⟩, ?_⟩
  · intro v hv
    refine putA_one _ _ _ _ hc.one ?_ v (by simpa using hv)
    intro v hv
    exact z57_rep.one v (by simpa using hv)
  · rw [Array.getElem?_toList, putA_at, if_pos (by rw [hc.len, hz]; omega)]
theorem built34_blo (h : Int) (pv : List Value) (s : ByteArray) (hp : pv.length = 32) (h1 : ∀ v ∈ pv, v.oneCell' = true) :
    ∃ bc : List Value, Tryf.prog.built 34 [(0, .int .u64 h), (1, .agg pv.toArray), (2, .string s)] = some bc.toArray ∧ BloC bc h s := by
  have hz : z34.toArray.size = 34 := by simp [z34_length]
  rw [built34, fill_cons _ _ 0 _ _ 0 [.int .u64 h] rfl pl34_0 (by simp [z34_length]), fill_cons _ _ 1 _ _ 1 pv rfl (by rw [pl34_1, hp]) (by rw [putA_size, hz, hp]; omega),
    fill_cons _ _ 2 _ _ 33 [.string s] rfl pl34_2 (by rw [putA_size, putA_size, hz]; simp)]
  refine ⟨(putA 33 [.string s] 0 (putA 1 pv 0 (putA 0 [.int .u64 h] 0 z34.toArray))).toList, rfl, ⟨by simp [putA_size, z34_length], ?_, ?_, ?_⟩⟩
  · intro v hv
    refine putA_one _ _ _ _ ?_ (putA_one _ _ _ _ h1 (putA_one _ _ _ _ ?_ ?_)) v (by simpa using hv)
    · simp [Value.oneCell']
    · simp [Value.oneCell']
    · intro v hv
      have := z34_one
      rw [List.all_eq_true] at this
      exact this v (by simpa using hv)
  · rw [Array.getElem?_toList, putA_at, if_neg (by omega), putA_at, if_neg (by omega), putA_at, if_pos (by simp [z34_length])]
    rfl
  · rw [Array.getElem?_toList, putA_at, if_pos (by simp [putA_size, z34_length])]
    rfl
attribute [irreducible] z57 z34 putA
end Go.Proofs.Qxb6616833aFmt
