/- zzb1CommitteeOK: the model of what the maker accepts. -/
import Derived.Test.Qxb6616833aFmtKeys
namespace Go.Proofs.Qxb6616833aFmt
open Go.RowKit
set_option linter.unusedVariables false

/-- All keys have 32 bytes. -/
def all32 (kss : List (List Int)) : Bool := kss.all fun x => x.length == 32
theorem all32_iff (kss : List (List Int)) (n : Nat) (hn : kss.length = n) : all32 kss = true ↔ ∀ j, j < n → (kss.getD j []).length = 32 := by
  subst hn
  unfold all32
  rw [List.all_eq_true]
  constructor
  · intro h j hj
    have := h kss[j] (List.getElem_mem hj)
    rw [List.getD_eq_getElem?_getD, List.getElem?_eq_getElem hj]
    simpa using this
  · intro h x hx
    obtain ⟨j, hj, rfl⟩ := List.getElem_of_mem hx
    have := h j hj
    rw [List.getD_eq_getElem?_getD, List.getElem?_eq_getElem hj] at this
    simpa using this
/-- What the committee's model answers. -/
def comB (kss : List (List Int)) (id : Int) (ks : List Int) (h : Int) (vl : Nat) : Bool :=
  decide (0 < kss.length) && all32 kss && decide (1 ≤ id) && decide (id ≤ kss.length) && decide (ks.length = 64) && decide (kss.getD (id - 1).toNat [] = ks.drop 32) && decide (h ≠ 0) && okV vl

/-- The private key: a slice of bytes at a, of length m. -/
structure PrivIs (w : World) (a : Option Addr) (m c : Nat) (ks : List Int) : Prop where
  is : BytesIs w a m ks
  nl : a = none → m = 0 ∧ c = 0
  le : m ≤ c
  hi : c ≤ 1048576
theorem PrivIs.only {w w' : World} {a : Option Addr} {m c : Nat} {ks : List Int} (h : PrivIs w a m c ks) (o : Only [] w w') : PrivIs w' a m c ks := ⟨h.is.only o, h.nl, h.le, h.hi⟩
/-- Its last 32 bytes. -/
theorem PrivIs.tail {w : World} {b off c : Nat} {ks : List Int} (h : BytesIs w (some ⟨b, off, none⟩) 64 ks) : BytesIs w (some ⟨b, off + 32, none⟩) 32 (ks.drop 32) := by
  obtain ⟨h1, h2, h3⟩ := h
  refine ⟨by rw [List.length_drop]; omega, fun z hz => h2 z (List.mem_of_mem_drop hz), fun _ => ⟨b, off + 32, rfl, fun j hj => ?_⟩⟩
  obtain ⟨b', off', e, hc⟩ := h3 (by omega)
  obtain ⟨rfl, rfl⟩ : b' = b ∧ off' = off := by
    have := Option.some.inj e
    simp at this
    exact ⟨this.1.symm, this.2.symm⟩
  have := hc (32 + j) (by omega)
  rw [← Nat.add_assoc] at this
  rw [this]
  simp [List.getD_eq_getElem?_getD]

set_option maxRecDepth 100000 in
set_option maxHeartbeats 4000000 in
theorem com_any (a : Option Addr) (n cap : Nat) (kss : List (List Int)) (id : Int) (ka : Option Addr) (m kc : Nat) (ks : List Int) (h : Int) (s : ByteArray) (w : World)
    (hK : KeysIs w a n kss) (hn : n ≤ 65536) (hid0 : 0 ≤ id) (hid1 : id ≤ 70000) (hP : PrivIs w ka m kc ks) (hs : s.size ≤ 1048576) (hl : ∀ j, j < n → (kss.getD j []).length ≤ 1048576) :
    Calls Tryf.prog 13 #[.slice a n cap, .int .i64 id, .slice ka m kc, .int .u64 h, .string s] w fun e w' => e = .returned (.bool (comB kss id ks h s.size)) ∧ ∃ q, w' = w.drewN q := by
  have HK := hid hK
  have HP := hid hP
  have HL := hid hl
  have hkn : kss.length = n := hK.1
  have hmk : ks.length = m := hP.is.1
  have hm1 : m ≤ kc := hP.le
  have hm2 : kc ≤ 1048576 := hP.hi
  clear hK hP hl
  by_cases h0 : n = 0
  · have e : comB kss id ks h s.size = false := by simp [comB]; omega
    rw [e]
    clear e hkn hmk
    subst h0
    go_enter Tryf.func13, Tryf.ntmps13
    go_wp2
    go_ret
    exact ⟨rfl, 0, rfl⟩
  have t0 : ((n : Int) == 0) = false := by rw [beq_eq_false_iff_ne]; omega
  by_cases h32 : all32 kss = true
  · have H32 := hid ((all32_iff kss n hkn).1 h32)
    have HA := hid h32
    obtain ⟨R, hR⟩ : ∃ R, R = comB kss id ks h s.size := ⟨_, rfl⟩
    rw [← hR]
    have HRR := hid hR
    clear h32 hR
    go_enter Tryf.func13, Tryf.ntmps13
    go_wp2
    go_loop [12] (fun i => ∃ k : Nat, k ≤ n ∧ i = .int .i64 k) (fun i => n - (intOf i).toNat)
    case atStart => exact ⟨0, Nat.zero_le _, rfl⟩
    case round =>
      obtain ⟨k, hk, rfl⟩ := hrel
      by_cases hlt : k < n
      · obtain ⟨b1, off, rfl, hc⟩ := HK.out.2 (by omega)
        obtain ⟨xa, xl, xc, hcell, hby, _⟩ := hc k hlt
        have HX : xl = 32 := by have := H32.out k hlt; rw [hby.1] at this; exact this
        clear hc hby
        subst HX
        go_wp2
        go_round
        case rel => exact ⟨k + 1, by omega, by go_num⟩
        case measure => simp [intOf]; omega
      · obtain rfl : k = n := by omega
        by_cases hi : 1 ≤ id ∧ id ≤ k
        · have t1 : decide (id < 1) = false := by simp; omega
          have t2 : decide ((k : Int) < id) = false := by simp; omega
          by_cases hm : m = 64
          · subst hm
            obtain ⟨i, rfl⟩ : ∃ i : Nat, id = (i : Int) + 1 := ⟨(id - 1).toNat, by omega⟩
            obtain ⟨b1, off, rfl, hc⟩ := HK.out.2 (by omega)
            obtain ⟨b2, off2, rfl, hc2⟩ := HP.out.is.2.2 (by omega)
            obtain ⟨xa, xl, xc, hcell, hby, _⟩ := hc i (by omega)
            obtain rfl : xl = 32 := by have := H32.out i (by omega); rw [hby.1] at this; exact this
            have HC := hid (fun q => equal_any xa (some ⟨b2, off2 + 32, none⟩) 32 xc (kc - 32) (kss.getD i []) (ks.drop 32) (w.drewN q) (hby.only (Only.of_drewN ⟨q, rfl⟩)) ((PrivIs.tail (c := kc) HP.out.is).only (Only.of_drewN ⟨q, rfl⟩)) (by omega))
            have q1 : ¬ kc = 32 := by omega
            have q2 : ((i : Int) + 1 - 1) = i := by omega
            have q3 : IntKind.i64.wrap (i : Int) = i := by rw [IntKind.wrap_i64]; omega
            have hik : i < k := by omega
            have HR := hid (show comB kss ((i : Int) + 1) ks h s.size = (decide (kss.getD i [] = ks.drop 32) && decide (h ≠ 0) && okV s.size) by
              have e2 : (0 < kss.length) := by omega
              have e3 : (1 : Int) ≤ (i : Int) + 1 := by omega
              have e4 : (i : Int) + 1 ≤ kss.length := by omega
              simp [comB, HA.out, hmk, e2, e3, e4])
            rw [← HRR.out] at HR
            clear HRR
            generalize decide (kss.getD i [] = ks.drop 32) = eq at *
            clear hc hc2 hby
            go_wp2
            go_quiet ((go_at_call 10; exact Calls.quiet_of (HC.out _)))
            clear q1 q2 q3 t1 t2 hi hid0 hid1 hcell hk hlt HC hmk hm1
            cases eq with
            | false =>
              obtain rfl : R = false := HR.out
              clear HR
              go_wp2
              go_ret
              exact ⟨rfl, _, rfl⟩
            | true =>
              by_cases hz : h = 0
              · obtain rfl : R = false := by rw [HR.out, hz]; rfl
                clear HR
                subst hz
                go_wp2
                go_ret
                exact ⟨rfl, _, rfl⟩
              · have t5 : (h == 0) = false := by rw [beq_eq_false_iff_ne]; exact hz
                have HR2 := hid (show R = okV s.size by rw [HR.out]; simp [hz])
                clear HR
                by_cases v1 : s.size = 0
                · obtain rfl : R = false := by rw [HR2.out]; simp [okV]; omega
                  clear HR2
                  have v2 : decide (1 ≤ (s.size : Int)) = false := by simp; omega
                  go_wp2
                  go_ret
                  exact ⟨rfl, _, rfl⟩
                · have v2 : decide (1 ≤ (s.size : Int)) = true := by simp; omega
                  have v3 : decide ((s.size : Int) ≤ 64) = R := by rw [HR2.out, okV, decide_eq_true (show 1 ≤ s.size by omega), Bool.true_and]; exact decide_eq_decide.2 (by omega)
                  clear HR2
                  go_wp2
                  go_ret
                  exact ⟨rfl, _, rfl⟩
          · have e : comB kss id ks h s.size = false := by simp [comB, hmk, hm]
            obtain rfl : R = false := HRR.out.trans e
            clear HRR
            have t3 : ((m : Int) != 64) = true := by rw [bne_iff_ne]; omega
            clear e
            go_wp2
            go_ret
            exact ⟨rfl, 0, rfl⟩
        · have e : comB kss id ks h s.size = false := by
            simp [comB]
            intros
            omega
          obtain rfl : R = false := HRR.out.trans e
          clear HRR
          clear e
          by_cases h1 : id < 1
          · go_wp2
            go_ret
            exact ⟨rfl, 0, rfl⟩
          · have t2 : decide ((k : Int) < id) = true := by simp; omega
            go_wp2
            go_ret
            exact ⟨rfl, 0, rfl⟩
  · have e : comB kss id ks h s.size = false := by simp [comB, h32]
    rw [e]
    rw [all32_iff kss n hkn] at h32
    have H32 := hid h32
    clear e hkn hmk h32
    go_enter Tryf.func13, Tryf.ntmps13
    go_wp2
    go_loop [12] (fun i => ∃ k : Nat, k ≤ n ∧ i = .int .i64 k ∧ Hid (∀ j, j < k → (kss.getD j []).length = 32)) (fun i => n - (intOf i).toNat)
    case atStart => exact ⟨0, Nat.zero_le _, rfl, fun j hj => absurd hj (by omega)⟩
    case round =>
      obtain ⟨k, hk, rfl, hall⟩ := hrel
      by_cases hlt : k < n
      · obtain ⟨b1, off, rfl, hc⟩ := HK.out.2 (by omega)
        obtain ⟨xa, xl, xc, hcell, hby, _⟩ := hc k hlt
        have HX := hid hby.1
        have hxl : xl ≤ 1048576 := by have := HL.out k hlt; rw [hby.1] at this; exact this
        clear hc hby
        by_cases hx : xl = 32
        · subst hx
          go_wp2
          go_round
          case rel => exact ⟨k + 1, by omega, by go_num, fun j hj => by
            by_cases e : j = k
            · subst e; exact HX.out
            · exact hall.out j (by omega)⟩
          case measure => simp [intOf]; omega
        · have hx2 : ((xl : Int) != 32) = true := by rw [bne_iff_ne]; omega
          go_wp2
          go_ret
          exact ⟨rfl, 0, rfl⟩
      · exact absurd (fun j hj => hall.out j (by omega)) H32.out
end Go.Proofs.Qxb6616833aFmt
