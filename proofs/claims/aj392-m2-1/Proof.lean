import JvmDerived
import JvmDerived.Pilot.@@N@@Statement
import JvmDerived.Pilot.@@N@@Code
set_option linter.unusedVariables false
set_option linter.unusedSimpArgs false
namespace Jvm.RoadKit
open Sem ClassFile Op Lib Jvm.Stand Jvm.Free Jvm.LawKit
section New
variable {p : Program} {l : Launch} {e : Env} {R : Room} {s : State} {m : MethodId} {args : Array Value} {below : List Frame} {meth : Method} {c : Code} {T : State} {locs : List Loc} {cells slots : Nat}
theorem retI (X : Stand p l e R s m args below meth c T locs cells slots) (hx : p.tables.exec = Jvm.exec) {pc : Nat} {Ls : Array Slot} {z : Int32} {rest : List Value} (hret : meth.sig.returnType = some .int) (hd : decode c.code pc = .ok (.ireturn, 1)) {fs : List Frame}
    (hl : ∀ (f : JFrame) (acts : List Action), f.method = m → f.locked = none → f.entered = [] → (doReturn e (T.setTop f) acts (some (.int z))).1 = T.setFrames fs) : Steps p.tables e below (T.setTop (mkF m pc Ls (.int z :: rest))) (T.setFrames fs) := by
  have hm' : T.vm.method? m = some meth := X.method'
  have hn : narrow .int (.int z) = .int z := rfl
  show Steps p.tables e below (T.setTop { method := m, pc := pc, locals := Ls, stack := _ :: rest, locked := none }) _
  jvm_step X.here [X.here.top, hx, hd, hm', hret, hn]
  first | (intro acts; rw [hl _ acts rfl rfl rfl]) | rw [hl _ _ rfl rfl rfl]
  exact Steps.refl _
end New
end Jvm.RoadKit
namespace Jvm.Pilot.@@N@@
open Jvm Jvm.ClassFile Sem Op Lib Jvm.Free Jvm.Stand Jvm.LawKit Jvm.RoadKit Bundle Jvm.Pilot.@@N@@.Jvm.D
/-- whoever comes from the frame f (over T) comes from the frame f0 (over T0) -/
abbrev Go (p : Program) (e : Env) (below : List Frame) (T : State) (f : JFrame) (T0 : State) (f0 : JFrame) : Prop := ∀ t, Steps p.tables e below (T.setTop f) t → Steps p.tables e below (T0.setTop f0) t
/-! numbers -/
def own_u (z : Int64) : Nat := (z.toInt % 18446744073709551616).toNat
theorem own_u_lt (z : Int64) : own_u z < 18446744073709551616 := by unfold own_u; omega
theorem own_u_eq (z : Int64) : (own_u z : Int) = z.toInt % 18446744073709551616 := by unfold own_u; omega
def own_g (u i : Nat) : Nat := u / 128 ^ i
theorem own_g0 (u : Nat) : own_g u 0 = u := by simp [own_g]
theorem own_gs (u i : Nat) : own_g u (i + 1) = own_g u i / 128 := by unfold own_g; rw [Nat.pow_succ, Nat.div_div_eq_div_mul]
theorem own_gz (u i : Nat) : own_g u i = 0 ↔ u < 128 ^ i := by
  unfold own_g
  rw [Nat.div_eq_zero_iff]
  have : 0 < 128 ^ i := Nat.pow_pos (by decide)
  omega
theorem own_len0 (u : Nat) : ∀ m, u < 128 ^ (m + 1) → ∃ n, 1 ≤ n ∧ n ≤ m + 1 ∧ ∀ i, own_g u (i + 1) = 0 ↔ n ≤ i + 1 := by
  intro m
  induction m with
  | zero =>
    intro h
    refine ⟨1, by omega, by omega, fun i => ?_⟩
    rw [own_gz]
    have : 128 ^ (0 + 1) ≤ 128 ^ (i + 1) := Nat.pow_le_pow_right (by decide) (by omega)
    constructor <;> intro _ <;> omega
  | succ m ih =>
    intro h
    by_cases c : u < 128 ^ (m + 1)
    · obtain ⟨n, h1, h2, h3⟩ := ih c
      exact ⟨n, h1, by omega, h3⟩
    · refine ⟨m + 2, by omega, by omega, fun i => ?_⟩
      rw [own_gz]
      constructor
      · intro q
        by_cases z : m + 2 ≤ i + 1
        · exact z
        · exfalso
          have : 128 ^ (i + 1) ≤ 128 ^ (m + 1) := Nat.pow_le_pow_right (by decide) (by omega)
          exact c (Nat.lt_of_lt_of_le q this)
      · intro q
        have : 128 ^ (m + 2) ≤ 128 ^ (i + 1) := Nat.pow_le_pow_right (by decide) q
        exact Nat.lt_of_lt_of_le h this
theorem own_len (u : Nat) (h : u < 18446744073709551616) : ∃ n, 1 ≤ n ∧ n ≤ 10 ∧ ∀ i, own_g u (i + 1) = 0 ↔ n ≤ i + 1 := by
  have e : (128 : Nat) ^ (9 + 1) = 1180591620717411303424 := by decide +kernel
  exact own_len0 u 9 (by rw [e]; omega)
def own_W (u n i : Nat) : Nat := own_g u i % 128 + (if i + 1 < n then 128 else 0)
theorem own_W_lt (u n i : Nat) : own_W u n i < 256 := by unfold own_W; split <;> omega
/-! masks -/
theorem own_and0 (x M k : Nat) (hx : x < 2 ^ 64) (h1 : ∀ i, i < 64 → k ≤ i → Nat.testBit M i = true) (h2 : ∀ i, i < k → Nat.testBit M i = false) : x &&& M = 0 ↔ x < 2 ^ k := by
  constructor
  · intro h
    apply Nat.lt_pow_two_of_testBit
    intro i hi
    by_cases c : i < 64
    · have := congrArg (fun t => Nat.testBit t i) h
      simp only [Nat.testBit_and, Nat.zero_testBit, h1 i c hi, Bool.and_true] at this
      exact this
    · exact Nat.testBit_lt_two_pow (Nat.lt_of_lt_of_le hx (Nat.pow_le_pow_right (by decide) (by omega)))
  · intro h
    apply Nat.eq_of_testBit_eq
    intro i
    rw [Nat.testBit_and, Nat.zero_testBit]
    by_cases c : i < k
    · rw [h2 i c, Bool.and_false]
    · rw [Nat.testBit_lt_two_pow (Nat.lt_of_lt_of_le h (Nat.pow_le_pow_right (by decide) (by omega))), Bool.false_and]
theorem own_u_bv (z : Int64) : own_u z = z.toBitVec.toNat := by
  have h := own_u_eq z
  have e : z.toInt = z.toBitVec.toInt := rfl
  rw [e, BitVec.toInt_eq_toNat_bmod] at h
  have := z.toBitVec.isLt
  have q := Int.bmod_emod (x := (z.toBitVec.toNat : Int)) (m := 2 ^ 64)
  have e2 : ((2 ^ 64 : Nat) : Int) = 18446744073709551616 := rfl
  rw [e2] at q
  rw [q] at h
  omega
theorem own_m7 (z : Int64) : z &&& (-128 : Int64) = 0 ↔ own_u z < 128 := by
  have q := own_and0 (own_u z) 18446744073709551488 7 (own_u_lt z) (by decide +kernel) (by decide +kernel)
  rw [show (2 : Nat) ^ 7 = 128 from rfl] at q
  rw [← q, own_u_bv, ← Int64.toBitVec_inj, ← BitVec.toNat_inj, Int64.toBitVec_and, BitVec.toNat_and]
  exact Iff.rfl
theorem own_m14 (z : Int64) : z &&& (-16384 : Int64) = 0 ↔ own_u z < 16384 := by
  have q := own_and0 (own_u z) 18446744073709535232 14 (own_u_lt z) (by decide +kernel) (by decide +kernel)
  rw [show (2 : Nat) ^ 14 = 16384 from rfl] at q
  rw [← q, own_u_bv, ← Int64.toBitVec_inj, ← BitVec.toNat_inj, Int64.toBitVec_and, BitVec.toNat_and]
  exact Iff.rfl
abbrev own_shr (z : Int64) (q : Int32) : Int64 := (z.toUInt64 >>> (q &&& 0x3f).toInt64.toUInt64).toInt64
theorem own_shr_u (z : Int64) (q : Int32) (k : Nat) (hk : q.toBitVec.toNat % 64 = k) (h0 : 0 < k) : own_u (own_shr z q) = own_u z / 2 ^ k := by
  have h := c_lushr z q k hk h0
  have h1 := own_u_eq z
  have h2 := own_u_eq (own_shr z q)
  rw [h, ← h1] at h2
  have hl := own_u_lt z
  have e : ((own_u z : Int) / ((2 ^ k : Nat) : Int)) = ((own_u z / 2 ^ k : Nat) : Int) := rfl
  rw [e] at h2
  have hd : own_u z / 2 ^ k ≤ own_u z := Nat.div_le_self _ _
  generalize own_u z / 2 ^ k = w at *
  omega
theorem own_shr7 (z : Int64) : own_u (own_shr z 7) = own_u z / 128 := own_shr_u z 7 7 (by decide) (by decide)
theorem own_u0 (z : Int64) : z = 0 ↔ own_u z = 0 := by
  have h := own_u_eq z
  have r := rng64 z
  rw [← Int64.toInt_inj]
  have e : (0 : Int64).toInt = 0 := rfl
  rw [e]; omega
/-! bytes -/
theorem own_byte1 (z : Int64) : (nar .byte (z.toInt32.toInt8.toInt32)).toInt % 256 = (own_u z % 256 : Nat) := by
  have h1 := c_l2i z
  have h2 := c_i2b z.toInt32
  have h3 := c_i2b (z.toInt32.toInt8.toInt32)
  have h4 := own_u_eq z
  show ((z.toInt32.toInt8.toInt32).toInt8.toInt32).toInt % 256 = _
  omega
theorem own_byte2 (z : Int64) : (nar .byte (((z &&& (127 : Int64)) ||| (128 : Int64)).toInt32.toInt8.toInt32)).toInt % 256 = (own_u z % 128 + 128 : Nat) := by
  have h0 := c_maskL z 127 7 (by decide) (by decide)
  have e : (128 : Int64).toInt = 128 := rfl
  have h5 := c_orL' (z &&& 127) 128 7 (by decide) 128 rfl (by decide) (by omega) (by omega)
  have h1 := c_l2i ((z &&& (127 : Int64)) ||| (128 : Int64))
  have h2 := c_i2b ((z &&& (127 : Int64)) ||| (128 : Int64)).toInt32
  have h3 := c_i2b (((z &&& (127 : Int64)) ||| (128 : Int64)).toInt32.toInt8.toInt32)
  have h4 := own_u_eq z
  show ((((z &&& (127 : Int64)) ||| (128 : Int64)).toInt32.toInt8.toInt32).toInt8.toInt32).toInt % 256 = _
  omega
theorem own_or8 : ∀ n : Fin 256, ((Int8.ofBitVec (BitVec.ofFin n) ||| (-128 : Int8)).toInt32).toInt % 256 = (Int8.ofBitVec (BitVec.ofFin n)).toInt % 128 + 128 := by decide +kernel
theorem own_byte3 (z : Int64) : (nar .byte ((z ||| (128 : Int64)).toInt32.toInt8.toInt32)).toInt % 256 = (own_u z % 128 + 128 : Nat) := by
  have e : (z ||| (128 : Int64)).toInt32.toInt8 = z.toInt32.toInt8 ||| (-128 : Int8) := by
    rw [Int64.toInt32_or, Int32.toInt8_or]; rfl
  have h3 := c_i2b ((z ||| (128 : Int64)).toInt32.toInt8.toInt32)
  have h6 := own_or8 z.toInt32.toInt8.toBitVec.toFin
  have h7 : Int8.ofBitVec (BitVec.ofFin z.toInt32.toInt8.toBitVec.toFin) = z.toInt32.toInt8 := rfl
  rw [h7, ← e] at h6
  have h1 := c_l2i z
  have h2 := c_i2b z.toInt32
  have h8 : (z.toInt32.toInt8.toInt32).toInt = z.toInt32.toInt8.toInt := Int8.toInt_toInt32 _
  have h4 := own_u_eq z
  show (((z ||| (128 : Int64)).toInt32.toInt8.toInt32).toInt8.toInt32).toInt % 256 = _
  omega
/-! the zigzag -/
abbrev own_zz (v : Int64) : Int64 := (v <<< ((1 : Int32) &&& 0x3f).toInt64) ^^^ (v >>> ((63 : Int32) &&& 0x3f).toInt64)
theorem own_zz_pos (v : Int64) (h : ¬ v < 0) : (v <<< ((1 : Int32) &&& 0x3f).toInt64) = own_zz v := by
  have q := c_lshr v 63 63 (by decide)
  have r := rng64 v
  have e : (v >>> ((63 : Int32) &&& 0x3f).toInt64) = 0 := by
    rw [Int64.lt_iff_toInt_lt] at h
    have e0 : (0 : Int64).toInt = 0 := rfl
    apply Int64.toInt_inj.mp
    rw [q, e0]; omega
  unfold own_zz
  rw [e, Int64.xor_zero]
theorem own_zz_neg (v : Int64) (h : v < 0) : ((v <<< ((1 : Int32) &&& 0x3f).toInt64) ^^^ (-1 : Int64)) = own_zz v := by
  have q := c_lshr v 63 63 (by decide)
  have r := rng64 v
  have e : (v >>> ((63 : Int32) &&& 0x3f).toInt64) = -1 := by
    rw [Int64.lt_iff_toInt_lt] at h
    have e0 : (0 : Int64).toInt = 0 := rfl
    have e1 : (-1 : Int64).toInt = -1 := rfl
    apply Int64.toInt_inj.mp
    rw [q, e1]; omega
  unfold own_zz
  rw [e]
/-! how many bytes -/
def own_more (z : Int64) (q : Int32) : Int32 := if own_shr z q = 0 then 0 else 1
abbrev own_N (z : Int64) : Int32 := (1 : Int32) + own_more z 7 + own_more z 14 + own_more z 21 + own_more z 28 + own_more z 35 + own_more z 42 + own_more z 49 + own_more z 56 + own_more z 63
theorem own_more_n (z : Int64) (n i : Nat) (q : Int32) (hq : q.toBitVec.toNat % 64 = 7 * (i + 1)) (hn : own_g (own_u z) (i + 1) = 0 ↔ n ≤ i + 1) : own_more z q = if n ≤ i + 1 then 0 else 1 := by
  unfold own_more
  have h := own_shr_u z q (7 * (i + 1)) hq (by omega)
  have e : own_u z / 2 ^ (7 * (i + 1)) = own_g (own_u z) (i + 1) := by unfold own_g; rw [Nat.pow_mul]
  by_cases c : n ≤ i + 1
  · rw [if_pos c, if_pos]; rw [own_u0, h, e]; exact hn.mpr c
  · rw [if_neg c, if_neg]; rw [own_u0, h, e]; exact fun z => c (hn.mp z)
theorem own_N_n (z : Int64) (n : Nat) (h1 : 1 ≤ n) (h2 : n ≤ 10) (hn : ∀ i, own_g (own_u z) (i + 1) = 0 ↔ n ≤ i + 1) : (own_N z).toInt = n := by
  unfold own_N
  rw [own_more_n z n 0 7 (by decide) (hn 0), own_more_n z n 1 14 (by decide) (hn 1), own_more_n z n 2 21 (by decide) (hn 2), own_more_n z n 3 28 (by decide) (hn 3), own_more_n z n 4 35 (by decide) (hn 4), own_more_n z n 5 42 (by decide) (hn 5), own_more_n z n 6 49 (by decide) (hn 6), own_more_n z n 7 56 (by decide) (hn 7), own_more_n z n 8 63 (by decide) (hn 8)]
  rcases (by omega : n = 1 ∨ n = 2 ∨ n = 3 ∨ n = 4 ∨ n = 5 ∨ n = 6 ∨ n = 7 ∨ n = 8 ∨ n = 9 ∨ n = 10) with rfl | rfl | rfl | rfl | rfl | rfl | rfl | rfl | rfl | rfl <;> rfl
/-! what a cell must hold -/
abbrev own_want (z : Int64) (i n : Int32) : Int32 := ((own_shr z ((7 : Int32) * i)) &&& (127 : Int64)).toInt32 ||| (if i < n - (1 : Int32) then (128 : Int32) else (0 : Int32))
theorem own_want_n (z : Int64) (i N : Int32) (n k : Nat) (hi : i.toInt = k) (hN : N.toInt = n) (hk : k < n) (h2 : n ≤ 10) : (own_want z i N).toInt = own_W (own_u z) n k := by
  have e0 : own_u (own_shr z ((7 : Int32) * i)) = own_g (own_u z) k := by
    by_cases c : k = 0
    · subst c
      have : i = 0 := Int32.toInt_inj.mp hi
      subst this
      have : own_shr z ((7 : Int32) * 0) = z := by
        apply Int64.toBitVec_inj.mp
        show (z.toBitVec >>> (0 : Nat) : BitVec 64) = z.toBitVec
        exact BitVec.ushiftRight_zero _
      rw [this, own_g0]
    · have q : ((7 : Int32) * i).toBitVec.toNat % 64 = 7 * k := by
        rcases (by omega : k = 1 ∨ k = 2 ∨ k = 3 ∨ k = 4 ∨ k = 5 ∨ k = 6 ∨ k = 7 ∨ k = 8 ∨ k = 9) with rfl | rfl | rfl | rfl | rfl | rfl | rfl | rfl | rfl
        · rw [show i = 1 from Int32.toInt_inj.mp hi]; rfl
        · rw [show i = 2 from Int32.toInt_inj.mp hi]; rfl
        · rw [show i = 3 from Int32.toInt_inj.mp hi]; rfl
        · rw [show i = 4 from Int32.toInt_inj.mp hi]; rfl
        · rw [show i = 5 from Int32.toInt_inj.mp hi]; rfl
        · rw [show i = 6 from Int32.toInt_inj.mp hi]; rfl
        · rw [show i = 7 from Int32.toInt_inj.mp hi]; rfl
        · rw [show i = 8 from Int32.toInt_inj.mp hi]; rfl
        · rw [show i = 9 from Int32.toInt_inj.mp hi]; rfl
      rw [own_shr_u z _ (7 * k) q (by omega)]
      unfold own_g; rw [Nat.pow_mul]
  have h0 := c_maskL (own_shr z ((7 : Int32) * i)) 127 7 (by decide) (by decide)
  have h1 := c_l2i (own_shr z ((7 : Int32) * i) &&& 127)
  have h3 := own_u_eq (own_shr z ((7 : Int32) * i))
  have r1 := rng32 ((own_shr z ((7 : Int32) * i) &&& (127 : Int64)).toInt32)
  have h4 : ((own_shr z ((7 : Int32) * i) &&& (127 : Int64)).toInt32).toInt = (own_g (own_u z) k % 128 : Nat) := by
    rw [← e0]; omega
  have h5 : (N - (1 : Int32)).toInt = n - 1 := by
    have := c_isub N 1
    have e1 : (1 : Int32).toInt = 1 := rfl
    have := rng32 (N - 1)
    omega
  unfold own_want own_W
  by_cases c : k + 1 < n
  · rw [if_pos c, if_pos (by rw [Int32.lt_iff_toInt_lt, h5, hi]; omega)]
    have h6 := c_or' ((own_shr z ((7 : Int32) * i) &&& (127 : Int64)).toInt32) 128 7 (by decide) 128 rfl (by decide) (by omega) (by omega)
    have e8 : (128 : Int32).toInt = 128 := rfl
    have r2 := rng32 ((own_shr z ((7 : Int32) * i) &&& (127 : Int64)).toInt32 ||| 128)
    have r3 := (c_orS ((own_shr z ((7 : Int32) * i) &&& (127 : Int64)).toInt32) 128).1 (by omega) (by decide)
    omega
  · rw [if_neg c, if_neg (by rw [Int32.lt_iff_toInt_lt, h5, hi]; omega), Int32.or_zero, h4]; rfl
/-! the array's values -/
def own_P (s : Int32) (u n a i : Nat) (vs : List Value) : Prop := vs.length = 12 ∧ ∀ j, j < 12 → ∃ y : Int32, vs.getD j (.int 0) = .int y ∧ ((a ≤ j ∧ j < a + i) → y.toInt % 256 = (own_W u n (j - a) : Nat)) ∧ (¬ (a ≤ j ∧ j < a + i) → y = s)
theorem own_P_set {s : Int32} {u n a i : Nat} {vs : List Value} (h : own_P s u n a i vs) (y : Int32) (hy : y.toInt % 256 = (own_W u n i : Nat)) (hi : a + i < 12) : own_P s u n a (i + 1) (vs.set (a + i) (.int y)) := by
  refine ⟨by rw [List.length_set]; exact h.1, fun j hj => ?_⟩
  by_cases c : a + i = j
  · subst c
    refine ⟨y, ?_, fun _ => ?_, fun z => absurd ⟨by omega, by omega⟩ z⟩
    · rw [List.getD_eq_getElem?_getD, List.getElem?_set_self (by rw [h.1]; omega)]; rfl
    · rw [show a + i - a = i by omega]; exact hy
  · obtain ⟨w, h1, h2, h3⟩ := h.2 j hj
    refine ⟨w, ?_, fun z => h2 ⟨z.1, by omega⟩, fun z => h3 (fun q => z ⟨q.1, by omega⟩)⟩
    rw [List.getD_eq_getElem?_getD, List.getElem?_set_ne c, ← List.getD_eq_getElem?_getD]; exact h1
theorem own_idx {j : Int32} {i : Nat} (h : j.toInt = i) : j.toNatClampNeg = i := by simp [Int32.toNatClampNeg, h]
theorem own_in {c : Cell} {j : Int32} {i : Nat} (S : c.slots.size = (12 : Int32).toNatClampNeg) (h : j.toInt = i) (hi : i < 12) : ¬ (j < 0 ∨ c.slots.size ≤ j.toNatClampNeg) := by
  have e : (12 : Int32).toNatClampNeg = 12 := rfl
  have e0 : (0 : Int32).toInt = 0 := rfl
  rw [S, own_idx h, e, Int32.lt_iff_toInt_lt, h, e0]
  omega
theorem own_up {j : Int32} {i : Nat} (h : j.toInt = i) (hi : i < 100) : (j + (1 : Int32)).toInt = (i + 1 : Nat) := by
  have := c_iadd j 1
  have e1 : (1 : Int32).toInt = 1 := rfl
  have := rng32 (j + 1)
  omega
theorem own_at (a : Int32) : ∃ k : Nat, ((a &&& (2147483647 : Int32)) % (3 : Int32)).toInt = k ∧ k ≤ 2 := by
  have q := c_and a 2147483647 (by decide)
  have w := (c_irem (a &&& 2147483647) 3 3 rfl).1 q.1
  refine ⟨((a &&& (2147483647 : Int32)) % (3 : Int32)).toInt.toNat, ?_, ?_⟩ <;> omega
theorem own_nar2 (x : Int32) : nar .byte (x.toInt8.toInt32) = x.toInt8.toInt32 := by
  show (x.toInt8.toInt32).toInt8.toInt32 = _
  have h2 := c_i2b x
  have h3 := c_i2b (x.toInt8.toInt32)
  apply Int32.toInt_inj.mp
  omega
theorem own_cell {a n j : Nat} {J A N y s : Int32} {z : Int64} (hJ : J.toInt = j) (hA : A.toInt = a) (hN : N.toInt = n) (ha : a ≤ 2) (hj : j < 12) (h2 : n ≤ 10)
    (hin : (a ≤ j ∧ j < a + n) → y.toInt % 256 = (own_W (own_u z) n (j - a) : Nat)) (hout : ¬ (a ≤ j ∧ j < a + n) → y = s) :
    (((J - A) < 0 ∨ ¬ (J - A) < N) → y = s) ∧ (¬ (J - A) < 0 → (J - A) < N → (y &&& (255 : Int32)) = own_want z (J - A) N) := by
  have e0 : (0 : Int32).toInt = 0 := rfl
  have h := c_isub J A
  have r := rng32 (J - A)
  have q : (J - A).toInt = (j : Int) - a := by omega
  simp only [Int32.lt_iff_toInt_lt, q, e0, hN]
  constructor
  · intro z; apply hout; omega
  · intro z1 z2
    have w := hin ⟨by omega, by omega⟩
    have v := own_want_n z (J - A) N n (j - a) (by omega) hN (by omega) h2
    have m := c_mask y 255 8 (by decide) (by decide)
    apply Int32.toInt_inj.mp
    rw [v, m]
    have : ((2 ^ 8 : Nat) : Int) = 256 := rfl
    rw [this]
    exact w
theorem d2_0 : decode prog_41_method_9_code 0 = .ok (.lload_n 0, 1) := by decide +kernel
theorem d2_1 : decode prog_41_method_9_code 1 = .ok (.iconst 1, 1) := by decide +kernel
theorem d2_2 : decode prog_41_method_9_code 2 = .ok (.lshl, 1) := by decide +kernel
theorem d2_3 : decode prog_41_method_9_code 3 = .ok (.lload_n 0, 1) := by decide +kernel
theorem d2_4 : decode prog_41_method_9_code 4 = .ok (.bipush 63, 2) := by decide +kernel
theorem d2_6 : decode prog_41_method_9_code 6 = .ok (.lshr, 1) := by decide +kernel
theorem d2_7 : decode prog_41_method_9_code 7 = .ok (.lxor, 1) := by decide +kernel
theorem d2_8 : decode prog_41_method_9_code 8 = .ok (.lreturn, 1) := by decide +kernel
theorem pn_2 : plainName "com/example/tidelog/tidelog/Varints" = true := by first | (simp [plainName, overriddenIn]; done) | decide +kernel
theorem pd_2 : parseMethodDescriptor "(J)J" = some ⟨[.long], some .long⟩ := by decide +kernel
theorem ef_2 (m : MethodId) (x0 : Int64) : entryFrame m #[(.long x0)] 2 = mkF m 0 #[.val (.long x0), .second] [] := by first | (simp [entryFrame, mkF, argsToLocals, Value.category]; done) | rfl
def Q2 (Z : State) (p1 : Int64) (h0 : Heap) (n0 : Nat) (v : Option Value) (h : Heap) (L : List Loc) : Prop := v = some (.long (own_zz p1)) ∧ Fr n0 L ∧ h = h0
set_option maxRecDepth 65536 in
set_option maxHeartbeats 40000000 in
theorem rm2 (l : Launch) (Z : State) (a0 : Array Value) (hw : ∀ d ∈ tables_1, d.before a0 Z = true) (ws : List Jvm.Cond) (p1 : Int64) (h0 : Heap) (n0 : Nat) (Z0 : n0 ≤ h0.size)  :
    MetFree l (⟨"com/example/tidelog/tidelog/Varints", "zigZag", "(J)J"⟩ : MethodName) (head1 (Jvm.Cond.code (⟨"com/example/tidelog/tidelog/Varints", "zigZag", "(J)J"⟩ : MethodName) prog_41_method_9_code 2 (some .long) :: ws) ({ frames := 0, cells := 0, slots := 0, locals := 0 } : Room)) (fun a U => a = #[(.long p1)] ∧ Z.Warmed39 U.vm ∧ U.heap = h0) (fun _ _ _ _ _ => True) (fun _ U o U' => ∃ v L, o = .returned v ∧ Q2 Z p1 h0 n0 v U'.heap L ∧ FrameEnd U o U' L ({ frames := 0, cells := 0, slots := 0, locals := 0 } : Room).cells ({ frames := 0, cells := 0, slots := 0, locals := 0 } : Room).slots) := by
  refine MetFree.of_bodySF (plainFor_of_name pn_2) hisR ?_
  intro p e s m args below meth c s₁ Bd hml0 hP hK
  obtain ⟨rfl, hZ, hh⟩ := hP
  have hx := Bd.exec
  have hby := Bd.bytes
  have hml : c.maxLocals = 2 := hml0
  have hown : s.vm.findClass "com/example/tidelog/tidelog/Varints" = some m.cls := findClass_of_methodNamed Bd.named
  have hnm := (name_of_methodNamed Bd.named Bd.method).1
  have X0 : Stand p l e ({ frames := 0, cells := 0, slots := 0, locals := 0 } : Room) s m #[(.long p1)] below meth c s₁ [] 0 0 := Stand.of_body Bd
  have e0 : s₁.heap = h0 := by rw [← hh, Bd.state]; rfl
  have N0 := Fr.nil n0
  obtain ⟨F0, hF0⟩ : ∃ F0, F0 = entryFrame m #[(.long p1)] 2 := ⟨_, rfl⟩
  have C0 : Go p e below s₁ (mkF m 0 #[.val (.long p1), .second] []) s₁ F0 := fun t k => by rw [hF0]; exact castTop (ef_2 m p1) k
  have pre0 : ∀ t, Steps p.tables e below (s₁.setTop F0) t → Steps p.tables e below (s₁.setTop (entryFrame m #[(.long p1)] 2)) t := fun t k => by rw [← hF0]; exact k
  have C1 : Go p e below s₁ (mkF m 8 #[.val (.long p1), .second] [(.long ((p1 <<< ((1 : Int32) &&& 0x3f).toInt64) ^^^ (p1 >>> ((63 : Int32) &&& 0x3f).toInt64)))]) s₁ F0 := fun t k => C0 t (by
    refine XS.lloadN X0.here hx rfl (hb hby d2_0) rfl ?_
    show Steps p.tables e below (s₁.setTop (mkF m 1 #[.val (.long p1), .second] [(.long p1)])) _
    refine XS.iconst X0.here hx rfl (hb hby d2_1) ?_
    show Steps p.tables e below (s₁.setTop (mkF m 2 #[.val (.long p1), .second] [(.int (1 : Int32)), (.long p1)])) _
    refine XS.lshl X0.here hx rfl (hb hby d2_2) rfl ?_
    show Steps p.tables e below (s₁.setTop (mkF m 3 #[.val (.long p1), .second] [(.long (p1 <<< ((1 : Int32) &&& 0x3f).toInt64))])) _
    refine XS.lloadN X0.here hx rfl (hb hby d2_3) rfl ?_
    show Steps p.tables e below (s₁.setTop (mkF m 4 #[.val (.long p1), .second] [(.long p1), (.long (p1 <<< ((1 : Int32) &&& 0x3f).toInt64))])) _
    refine XS.bipush X0.here hx rfl (hb hby d2_4) ?_
    show Steps p.tables e below (s₁.setTop (mkF m 6 #[.val (.long p1), .second] [(.int (63 : Int32)), (.long p1), (.long (p1 <<< ((1 : Int32) &&& 0x3f).toInt64))])) _
    refine XS.lshr X0.here hx rfl (hb hby d2_6) rfl ?_
    show Steps p.tables e below (s₁.setTop (mkF m 7 #[.val (.long p1), .second] [(.long (p1 >>> ((63 : Int32) &&& 0x3f).toInt64)), (.long (p1 <<< ((1 : Int32) &&& 0x3f).toInt64))])) _
    refine XS.lxor X0.here hx rfl (hb hby d2_7) rfl ?_
    exact k)
  obtain ⟨fs, hr, hrun, hended, hW, hsame⟩ := X0.leave (v := (some (.long ((p1 <<< ((1 : Int32) &&& 0x3f).toInt64) ^^^ (p1 >>> ((63 : Int32) &&& 0x3f).toInt64))))) (fun h => by rw [Bd.returns] at h; cases h)
  refine ⟨_, _, pre0 _ (C1 _ ?_), hrun, hended, _, _, rfl, ?_, ⟨_, rfl⟩, hW, hsame.mono (by decide) (by decide)⟩
  · exact retOut X0 hx Bd.returns rfl (Or.inr (Or.inl ⟨rfl, rfl, _, rfl⟩)) (hb hby d2_8) hr
  · show Q2 Z p1 h0 n0 _ s₁.heap _
    rw [e0]
    exact ⟨rfl, N0, rfl⟩
theorem d3_0 : decode method_2_code 0 = .ok (.lload_n 0, 1) := by decide +kernel
theorem d3_1 : decode method_2_code 1 = .ok (.iload_n 2, 1) := by decide +kernel
theorem d3_2 : decode method_2_code 2 = .ok (.lushr, 1) := by decide +kernel
theorem d3_3 : decode method_2_code 3 = .ok (.lconst 0, 1) := by decide +kernel
theorem d3_4 : decode method_2_code 4 = .ok (.lcmp, 1) := by decide +kernel
theorem d3_5 : decode method_2_code 5 = .ok (.ifCond .eq 7, 3) := by decide +kernel
theorem d3_8 : decode method_2_code 8 = .ok (.iconst 1, 1) := by decide +kernel
theorem d3_9 : decode method_2_code 9 = .ok (.goto 4, 3) := by decide +kernel
theorem d3_12 : decode method_2_code 12 = .ok (.iconst 0, 1) := by decide +kernel
theorem d3_13 : decode method_2_code 13 = .ok (.ireturn, 1) := by decide +kernel
theorem pn_3 : plainName "com/example/tidelog/tidelog/VarintsPutVarlongPinLaw" = true := by first | (simp [plainName, overriddenIn]; done) | decide +kernel
theorem pd_3 : parseMethodDescriptor "(JI)I" = some ⟨[.long, .int], some .int⟩ := by decide +kernel
theorem ef_3 (m : MethodId) (x0 : Int64) (x1 : Int32) : entryFrame m #[(.long x0), (.int x1)] 3 = mkF m 0 #[.val (.long x0), .second, .val (.int x1)] [] := by first | (simp [entryFrame, mkF, argsToLocals, Value.category]; done) | rfl
def Q3 (Z : State) (p1 : Int64) (p2 : Int32) (h0 : Heap) (n0 : Nat) (v : Option Value) (h : Heap) (L : List Loc) : Prop := v = some (.int (own_more p1 p2)) ∧ Fr n0 L ∧ h = h0
set_option maxRecDepth 65536 in
set_option maxHeartbeats 40000000 in
theorem rm3 (l : Launch) (Z : State) (a0 : Array Value) (hw : ∀ d ∈ tables_1, d.before a0 Z = true) (ws : List Jvm.Cond) (p1 : Int64) (p2 : Int32) (h0 : Heap) (n0 : Nat) (Z0 : n0 ≤ h0.size)  :
    MetFree l (⟨"com/example/tidelog/tidelog/VarintsPutVarlongPinLaw", "more", "(JI)I"⟩ : MethodName) (head1 (Jvm.Cond.code (⟨"com/example/tidelog/tidelog/VarintsPutVarlongPinLaw", "more", "(JI)I"⟩ : MethodName) method_2_code 3 (some .int) :: ws) ({ frames := 0, cells := 0, slots := 0, locals := 0 } : Room)) (fun a U => a = #[(.long p1), (.int p2)] ∧ Z.Warmed39 U.vm ∧ U.heap = h0) (fun _ _ _ _ _ => True) (fun _ U o U' => ∃ v L, o = .returned v ∧ Q3 Z p1 p2 h0 n0 v U'.heap L ∧ FrameEnd U o U' L ({ frames := 0, cells := 0, slots := 0, locals := 0 } : Room).cells ({ frames := 0, cells := 0, slots := 0, locals := 0 } : Room).slots) := by
  refine MetFree.of_bodySF (plainFor_of_name pn_3) hisR ?_
  intro p e s m args below meth c s₁ Bd hml0 hP hK
  obtain ⟨rfl, hZ, hh⟩ := hP
  have hx := Bd.exec
  have hby := Bd.bytes
  have hml : c.maxLocals = 3 := hml0
  have hown : s.vm.findClass "com/example/tidelog/tidelog/VarintsPutVarlongPinLaw" = some m.cls := findClass_of_methodNamed Bd.named
  have hnm := (name_of_methodNamed Bd.named Bd.method).1
  have X0 : Stand p l e ({ frames := 0, cells := 0, slots := 0, locals := 0 } : Room) s m #[(.long p1), (.int p2)] below meth c s₁ [] 0 0 := Stand.of_body Bd
  have e0 : s₁.heap = h0 := by rw [← hh, Bd.state]; rfl
  have N0 := Fr.nil n0
  obtain ⟨F0, hF0⟩ : ∃ F0, F0 = entryFrame m #[(.long p1), (.int p2)] 3 := ⟨_, rfl⟩
  have C0 : Go p e below s₁ (mkF m 0 #[.val (.long p1), .second, .val (.int p2)] []) s₁ F0 := fun t k => by rw [hF0]; exact castTop (ef_3 m p1 p2) k
  have pre0 : ∀ t, Steps p.tables e below (s₁.setTop F0) t → Steps p.tables e below (s₁.setTop (entryFrame m #[(.long p1), (.int p2)] 3)) t := fun t k => by rw [← hF0]; exact k
  have CJ : Go p e below s₁ (mkF m 13 #[.val (.long p1), .second, .val (.int p2)] [(.int (own_more p1 p2))]) s₁ F0 := by
    by_cases hc : own_shr p1 p2 = 0
    · have q : own_more p1 p2 = 0 := if_pos hc
      have C1 : Go p e below s₁ (mkF m 13 #[.val (.long p1), .second, .val (.int p2)] [(.int (0 : Int32))]) s₁ F0 := fun t k => C0 t (by
        refine XS.lloadN X0.here hx rfl (hb hby d3_0) rfl ?_
        show Steps p.tables e below (s₁.setTop (mkF m 1 #[.val (.long p1), .second, .val (.int p2)] [(.long p1)])) _
        refine XS.iloadN X0.here hx rfl (hb hby d3_1) rfl ?_
        show Steps p.tables e below (s₁.setTop (mkF m 2 #[.val (.long p1), .second, .val (.int p2)] [(.int p2), (.long p1)])) _
        refine XS.lushr X0.here hx rfl (hb hby d3_2) rfl ?_
        show Steps p.tables e below (s₁.setTop (mkF m 3 #[.val (.long p1), .second, .val (.int p2)] [(.long ((p1.toUInt64 >>> (p2 &&& 0x3f).toInt64.toUInt64).toInt64))])) _
        refine XS.lconst X0.here hx rfl (hb hby d3_3) ?_
        show Steps p.tables e below (s₁.setTop (mkF m 4 #[.val (.long p1), .second, .val (.int p2)] [(.long (0 : Int64)), (.long ((p1.toUInt64 >>> (p2 &&& 0x3f).toInt64.toUInt64).toInt64))])) _
        refine XS.lcmp X0.here hx rfl (hb hby d3_4) rfl ?_
        show Steps p.tables e below (s₁.setTop (mkF m 5 #[.val (.long p1), .second, .val (.int p2)] [(.int (lcmpW ((p1.toUInt64 >>> (p2 &&& 0x3f).toInt64.toUInt64).toInt64) (0 : Int64)))])) _
        refine XS.ifYes X0.here hx rfl (pc0 := 5) (pc' := 12) rfl (hb hby d3_5) rfl ((if0 _ _).trans (teq ((lw_eq _ _).mpr hc)).1) (by decide) (by decide) ?_
        show Steps p.tables e below (s₁.setTop (mkF m 12 #[.val (.long p1), .second, .val (.int p2)] [])) _
        refine XS.iconst X0.here hx rfl (hb hby d3_12) ?_
        exact k)
      rw [q]
      exact C1
    · have q : own_more p1 p2 = 1 := if_neg hc
      have C2 : Go p e below s₁ (mkF m 13 #[.val (.long p1), .second, .val (.int p2)] [(.int (1 : Int32))]) s₁ F0 := fun t k => C0 t (by
        refine XS.lloadN X0.here hx rfl (hb hby d3_0) rfl ?_
        show Steps p.tables e below (s₁.setTop (mkF m 1 #[.val (.long p1), .second, .val (.int p2)] [(.long p1)])) _
        refine XS.iloadN X0.here hx rfl (hb hby d3_1) rfl ?_
        show Steps p.tables e below (s₁.setTop (mkF m 2 #[.val (.long p1), .second, .val (.int p2)] [(.int p2), (.long p1)])) _
        refine XS.lushr X0.here hx rfl (hb hby d3_2) rfl ?_
        show Steps p.tables e below (s₁.setTop (mkF m 3 #[.val (.long p1), .second, .val (.int p2)] [(.long ((p1.toUInt64 >>> (p2 &&& 0x3f).toInt64.toUInt64).toInt64))])) _
        refine XS.lconst X0.here hx rfl (hb hby d3_3) ?_
        show Steps p.tables e below (s₁.setTop (mkF m 4 #[.val (.long p1), .second, .val (.int p2)] [(.long (0 : Int64)), (.long ((p1.toUInt64 >>> (p2 &&& 0x3f).toInt64.toUInt64).toInt64))])) _
        refine XS.lcmp X0.here hx rfl (hb hby d3_4) rfl ?_
        show Steps p.tables e below (s₁.setTop (mkF m 5 #[.val (.long p1), .second, .val (.int p2)] [(.int (lcmpW ((p1.toUInt64 >>> (p2 &&& 0x3f).toInt64.toUInt64).toInt64) (0 : Int64)))])) _
        refine XS.ifNo X0.here hx rfl (hb hby d3_5) rfl ((if0 _ _).trans (feq (fun z => hc ((lw_eq _ _).mp z))).1) ?_
        show Steps p.tables e below (s₁.setTop (mkF m 8 #[.val (.long p1), .second, .val (.int p2)] [])) _
        refine XS.iconst X0.here hx rfl (hb hby d3_8) ?_
        show Steps p.tables e below (s₁.setTop (mkF m 9 #[.val (.long p1), .second, .val (.int p2)] [(.int (1 : Int32))])) _
        refine XS.goto X0.here hx rfl (pc0 := 9) (pc' := 13) rfl (hb hby d3_9) (by decide) (by decide) ?_
        exact k)
      rw [q]
      exact C2
  obtain ⟨fs, hr, hrun, hended, hW, hsame⟩ := X0.leave (v := (some (.int (own_more p1 p2)))) (fun h => by rw [Bd.returns] at h; cases h)
  refine ⟨_, _, pre0 _ (CJ _ ?_), hrun, hended, _, _, rfl, ?_, ⟨_, rfl⟩, hW, hsame.mono (by decide) (by decide)⟩
  · exact retI X0 hx Bd.returns (hb hby d3_13) hr
  · show Q3 Z p1 p2 h0 n0 _ s₁.heap _
    rw [e0]
    exact ⟨rfl, N0, rfl⟩
theorem d4_0 : decode method_3_code 0 = .ok (.iload_n 1, 1) := by decide +kernel
theorem d4_1 : decode method_3_code 1 = .ok (.iload_n 2, 1) := by decide +kernel
theorem d4_2 : decode method_3_code 2 = .ok (.isub, 1) := by decide +kernel
theorem d4_3 : decode method_3_code 3 = .ok (.istore 7, 2) := by decide +kernel
theorem d4_5 : decode method_3_code 5 = .ok (.iload 7, 2) := by decide +kernel
theorem d4_7 : decode method_3_code 7 = .ok (.ifCond .lt 10, 3) := by decide +kernel
theorem d4_10 : decode method_3_code 10 = .ok (.iload 7, 2) := by decide +kernel
theorem d4_12 : decode method_3_code 12 = .ok (.iload 5, 2) := by decide +kernel
theorem d4_14 : decode method_3_code 14 = .ok (.if_icmp .lt 17, 3) := by decide +kernel
theorem d4_17 : decode method_3_code 17 = .ok (.aload_n 0, 1) := by decide +kernel
theorem d4_18 : decode method_3_code 18 = .ok (.iload_n 1, 1) := by decide +kernel
theorem d4_19 : decode method_3_code 19 = .ok (.baload, 1) := by decide +kernel
theorem d4_20 : decode method_3_code 20 = .ok (.iload 6, 2) := by decide +kernel
theorem d4_22 : decode method_3_code 22 = .ok (.if_icmp .ne 7, 3) := by decide +kernel
theorem d4_25 : decode method_3_code 25 = .ok (.iconst 1, 1) := by decide +kernel
theorem d4_26 : decode method_3_code 26 = .ok (.goto 4, 3) := by decide +kernel
theorem d4_29 : decode method_3_code 29 = .ok (.iconst 0, 1) := by decide +kernel
theorem d4_30 : decode method_3_code 30 = .ok (.ireturn, 1) := by decide +kernel
theorem d4_31 : decode method_3_code 31 = .ok (.lload_n 3, 1) := by decide +kernel
theorem d4_32 : decode method_3_code 32 = .ok (.bipush 7, 2) := by decide +kernel
theorem d4_34 : decode method_3_code 34 = .ok (.iload 7, 2) := by decide +kernel
theorem d4_36 : decode method_3_code 36 = .ok (.imul, 1) := by decide +kernel
theorem d4_37 : decode method_3_code 37 = .ok (.lushr, 1) := by decide +kernel
theorem d4_38 : decode method_3_code 38 = .ok (.ldc2_w 7, 3) := by decide +kernel
theorem d4_41 : decode method_3_code 41 = .ok (.land, 1) := by decide +kernel
theorem d4_42 : decode method_3_code 42 = .ok (.l2i, 1) := by decide +kernel
theorem d4_43 : decode method_3_code 43 = .ok (.iload 7, 2) := by decide +kernel
theorem d4_45 : decode method_3_code 45 = .ok (.iload 5, 2) := by decide +kernel
theorem d4_47 : decode method_3_code 47 = .ok (.iconst 1, 1) := by decide +kernel
theorem d4_48 : decode method_3_code 48 = .ok (.isub, 1) := by decide +kernel
theorem d4_49 : decode method_3_code 49 = .ok (.if_icmp .ge 9, 3) := by decide +kernel
theorem d4_52 : decode method_3_code 52 = .ok (.sipush 128, 3) := by decide +kernel
theorem d4_55 : decode method_3_code 55 = .ok (.goto 4, 3) := by decide +kernel
theorem d4_58 : decode method_3_code 58 = .ok (.iconst 0, 1) := by decide +kernel
theorem d4_59 : decode method_3_code 59 = .ok (.ior, 1) := by decide +kernel
theorem d4_60 : decode method_3_code 60 = .ok (.istore 8, 2) := by decide +kernel
theorem d4_62 : decode method_3_code 62 = .ok (.aload_n 0, 1) := by decide +kernel
theorem d4_63 : decode method_3_code 63 = .ok (.iload_n 1, 1) := by decide +kernel
theorem d4_64 : decode method_3_code 64 = .ok (.baload, 1) := by decide +kernel
theorem d4_65 : decode method_3_code 65 = .ok (.sipush 255, 3) := by decide +kernel
theorem d4_68 : decode method_3_code 68 = .ok (.iand, 1) := by decide +kernel
theorem d4_69 : decode method_3_code 69 = .ok (.iload 8, 2) := by decide +kernel
theorem d4_71 : decode method_3_code 71 = .ok (.if_icmp .ne 7, 3) := by decide +kernel
theorem d4_74 : decode method_3_code 74 = .ok (.iconst 1, 1) := by decide +kernel
theorem d4_75 : decode method_3_code 75 = .ok (.goto 4, 3) := by decide +kernel
theorem d4_78 : decode method_3_code 78 = .ok (.iconst 0, 1) := by decide +kernel
theorem d4_79 : decode method_3_code 79 = .ok (.ireturn, 1) := by decide +kernel
theorem pn_4 : plainName "com/example/tidelog/tidelog/VarintsPutVarlongPinLaw" = true := by first | (simp [plainName, overriddenIn]; done) | decide +kernel
theorem pd_4 : parseMethodDescriptor "([BIIJIB)Z" = some ⟨[(.array .byte), .int, .int, .long, .int, .byte], some .boolean⟩ := by decide +kernel
theorem ef_4 (m : MethodId) (x0 : Addr) (x1 : Int32) (x2 : Int32) (x3 : Int64) (x4 : Int32) (x5 : Int32) : entryFrame m #[(.ref x0), (.int x1), (.int x2), (.long x3), (.int x4), (.int x5)] 9 = mkF m 0 #[.val (.ref x0), .val (.int x1), .val (.int x2), .val (.long x3), .second, .val (.int x4), .val (.int x5), .unset, .unset] [] := by first | (simp [entryFrame, mkF, argsToLocals, Value.category]; done) | rfl
def Q4 (Z : State) (a1 : Addr) (p2 p3 : Int32) (p4 : Int64) (p5 p6 : Int32) (k0 : ClassId) (vs : List Value) (j : Nat) (y : Int32) (h0 : Heap) (n0 : Nat) (v : Option Value) (h : Heap) (L : List Loc) : Prop := v = some (.int 1) ∧ Fr n0 L ∧ h = h0
set_option maxRecDepth 65536 in
set_option maxHeartbeats 40000000 in
theorem rm4 (l : Launch) (Z : State) (a0 : Array Value) (hw : ∀ d ∈ tables_1, d.before a0 Z = true) (ws : List Jvm.Cond) (a1 : Addr) (p2 p3 : Int32) (p4 : Int64) (p5 p6 : Int32) (k0 : ClassId) (vs : List Value) (j : Nat) (y : Int32) (h0 : Heap) (n0 : Nat) (Z0 : n0 ≤ h0.size) (V0 : Arv Z h0 a1 k0 .byte 12 vs (.int 0)) (hj : p2.toInt = j) (hj12 : j < 12) (hy : vs.getD j (.int 0) = .int y) (ho : ((p2 - p3) < 0 ∨ ¬ (p2 - p3) < p5) → y = p6) (hi : ¬ (p2 - p3) < 0 → (p2 - p3) < p5 → (y &&& (255 : Int32)) = own_want p4 (p2 - p3) p5) :
    MetFree l (⟨"com/example/tidelog/tidelog/VarintsPutVarlongPinLaw", "cell", "([BIIJIB)Z"⟩ : MethodName) (head1 (Jvm.Cond.code (⟨"com/example/tidelog/tidelog/VarintsPutVarlongPinLaw", "cell", "([BIIJIB)Z"⟩ : MethodName) method_3_code 9 (some .boolean) :: ws) ({ frames := 0, cells := 0, slots := 0, locals := 0 } : Room)) (fun a U => a = #[(.ref a1), (.int p2), (.int p3), (.long p4), (.int p5), (.int p6)] ∧ Z.Warmed39 U.vm ∧ U.heap = h0) (fun _ _ _ _ _ => True) (fun _ U o U' => ∃ v L, o = .returned v ∧ Q4 Z a1 p2 p3 p4 p5 p6 k0 vs j y h0 n0 v U'.heap L ∧ FrameEnd U o U' L ({ frames := 0, cells := 0, slots := 0, locals := 0 } : Room).cells ({ frames := 0, cells := 0, slots := 0, locals := 0 } : Room).slots) := by
  refine MetFree.of_bodySF (plainFor_of_name pn_4) hisR ?_
  intro p e s m args below meth c s₁ Bd hml0 hP hK
  obtain ⟨rfl, hZ, hh⟩ := hP
  have hx := Bd.exec
  have hby := Bd.bytes
  have hml : c.maxLocals = 9 := hml0
  have hown : s.vm.findClass "com/example/tidelog/tidelog/VarintsPutVarlongPinLaw" = some m.cls := findClass_of_methodNamed Bd.named
  have hnm := (name_of_methodNamed Bd.named Bd.method).1
  have X0 : Stand p l e ({ frames := 0, cells := 0, slots := 0, locals := 0 } : Room) s m #[(.ref a1), (.int p2), (.int p3), (.long p4), (.int p5), (.int p6)] below meth c s₁ [] 0 0 := Stand.of_body Bd
  have e0 : s₁.heap = h0 := by rw [← hh, Bd.state]; rfl
  have N0 := Fr.nil n0
  obtain ⟨F0, hF0⟩ : ∃ F0, F0 = entryFrame m #[(.ref a1), (.int p2), (.int p3), (.long p4), (.int p5), (.int p6)] 9 := ⟨_, rfl⟩
  have C0 : Go p e below s₁ (mkF m 0 #[.val (.ref a1), .val (.int p2), .val (.int p3), .val (.long p4), .second, .val (.int p5), .val (.int p6), .unset, .unset] []) s₁ F0 := fun t k => by rw [hF0]; exact castTop (ef_4 m a1 p2 p3 p4 p5 p6) k
  have pre0 : ∀ t, Steps p.tables e below (s₁.setTop F0) t → Steps p.tables e below (s₁.setTop (entryFrame m #[(.ref a1), (.int p2), (.int p3), (.long p4), (.int p5), (.int p6)] 9)) t := fun t k => by rw [← hF0]; exact k
  obtain ⟨cl0, Ar0, q0, S0, M0, H0, G0⟩ := V0
  have hin := own_in S0 hj hj12
  have hat : cl0.slots[p2.toNatClampNeg]? = some (.int y) := H0.at hin (by rw [own_idx hj]; exact hy)
  have C1 : Go p e below s₁ (mkF m 5 #[.val (.ref a1), .val (.int p2), .val (.int p3), .val (.long p4), .second, .val (.int p5), .val (.int p6), .val (.int (p2 - p3)), .unset] []) s₁ F0 := fun t k => C0 t (by
    refine XS.iloadN X0.here hx rfl (hb hby d4_0) rfl ?_
    show Steps p.tables e below (s₁.setTop (mkF m 1 #[.val (.ref a1), .val (.int p2), .val (.int p3), .val (.long p4), .second, .val (.int p5), .val (.int p6), .unset, .unset] [(.int p2)])) _
    refine XS.iloadN X0.here hx rfl (hb hby d4_1) rfl ?_
    show Steps p.tables e below (s₁.setTop (mkF m 2 #[.val (.ref a1), .val (.int p2), .val (.int p3), .val (.long p4), .second, .val (.int p5), .val (.int p6), .unset, .unset] [(.int p3), (.int p2)])) _
    refine XS.isub X0.here hx rfl (hb hby d4_2) rfl ?_
    show Steps p.tables e below (s₁.setTop (mkF m 3 #[.val (.ref a1), .val (.int p2), .val (.int p3), .val (.long p4), .second, .val (.int p5), .val (.int p6), .unset, .unset] [(.int (p2 - p3))])) _
    refine XS.istore X0.here hx rfl (hb hby d4_3) rfl (l' := #[.val (.ref a1), .val (.int p2), .val (.int p3), .val (.long p4), .second, .val (.int p5), .val (.int p6), .val (.int (p2 - p3)), .unset]) rfl ?_
    exact k)
  by_cases hc : (p2 - p3) < 0 ∨ ¬ (p2 - p3) < p5
  · have hys := ho hc
    have C17 : Go p e below s₁ (mkF m 17 #[.val (.ref a1), .val (.int p2), .val (.int p3), .val (.long p4), .second, .val (.int p5), .val (.int p6), .val (.int (p2 - p3)), .unset] []) s₁ F0 := by
      by_cases c1 : (p2 - p3) < 0
      · skip
        have C2 : Go p e below s₁ (mkF m 17 #[.val (.ref a1), .val (.int p2), .val (.int p3), .val (.long p4), .second, .val (.int p5), .val (.int p6), .val (.int (p2 - p3)), .unset] []) s₁ F0 := fun t k => C1 t (by
          refine XS.iload X0.here hx rfl (hb hby d4_5) rfl ?_
          show Steps p.tables e below (s₁.setTop (mkF m 7 #[.val (.ref a1), .val (.int p2), .val (.int p3), .val (.long p4), .second, .val (.int p5), .val (.int p6), .val (.int (p2 - p3)), .unset] [(.int (p2 - p3))])) _
          refine XS.ifYes X0.here hx rfl (pc0 := 7) (pc' := 17) rfl (hb hby d4_7) rfl ((if0 _ _).trans (tlt c1).1) (by decide) (by decide) ?_
          exact k)
        exact C2
      · skip
        have C3 : Go p e below s₁ (mkF m 17 #[.val (.ref a1), .val (.int p2), .val (.int p3), .val (.long p4), .second, .val (.int p5), .val (.int p6), .val (.int (p2 - p3)), .unset] []) s₁ F0 := fun t k => C1 t (by
          refine XS.iload X0.here hx rfl (hb hby d4_5) rfl ?_
          show Steps p.tables e below (s₁.setTop (mkF m 7 #[.val (.ref a1), .val (.int p2), .val (.int p3), .val (.long p4), .second, .val (.int p5), .val (.int p6), .val (.int (p2 - p3)), .unset] [(.int (p2 - p3))])) _
          refine XS.ifNo X0.here hx rfl (hb hby d4_7) rfl ((if0 _ _).trans (flt c1).1) ?_
          show Steps p.tables e below (s₁.setTop (mkF m 10 #[.val (.ref a1), .val (.int p2), .val (.int p3), .val (.long p4), .second, .val (.int p5), .val (.int p6), .val (.int (p2 - p3)), .unset] [])) _
          refine XS.iload X0.here hx rfl (hb hby d4_10) rfl ?_
          show Steps p.tables e below (s₁.setTop (mkF m 12 #[.val (.ref a1), .val (.int p2), .val (.int p3), .val (.long p4), .second, .val (.int p5), .val (.int p6), .val (.int (p2 - p3)), .unset] [(.int (p2 - p3))])) _
          refine XS.iload X0.here hx rfl (hb hby d4_12) rfl ?_
          show Steps p.tables e below (s₁.setTop (mkF m 14 #[.val (.ref a1), .val (.int p2), .val (.int p3), .val (.long p4), .second, .val (.int p5), .val (.int p6), .val (.int (p2 - p3)), .unset] [(.int p5), (.int (p2 - p3))])) _
          refine XS.icmpNo X0.here hx rfl (hb hby d4_14) rfl (flt (hc.resolve_left c1)).1 ?_
          exact k)
        exact C3
    have C4 : Go p e below s₁ (mkF m 30 #[.val (.ref a1), .val (.int p2), .val (.int p3), .val (.long p4), .second, .val (.int p5), .val (.int p6), .val (.int (p2 - p3)), .unset] [(.int (1 : Int32))]) s₁ F0 := fun t k => C17 t (by
      refine XS.aloadN X0.here hx rfl (hb hby d4_17) rfl rfl ?_
      show Steps p.tables e below (s₁.setTop (mkF m 18 #[.val (.ref a1), .val (.int p2), .val (.int p3), .val (.long p4), .second, .val (.int p5), .val (.int p6), .val (.int (p2 - p3)), .unset] [(.ref a1)])) _
      refine XS.iloadN X0.here hx rfl (hb hby d4_18) rfl ?_
      show Steps p.tables e below (s₁.setTop (mkF m 19 #[.val (.ref a1), .val (.int p2), .val (.int p3), .val (.long p4), .second, .val (.int p5), .val (.int p6), .val (.int (p2 - p3)), .unset] [(.int p2), (.ref a1)])) _
      refine X0.baloadBytes hx (j := p2) (v := (.int y)) (by rw [e0]; exact Ar0.1) (State.isArrayOf_alike hZ.alike Ar0.2.1) Ar0.2.2 hin hat (g := (mkF m 19 #[.val (.ref a1), .val (.int p2), .val (.int p3), .val (.long p4), .second, .val (.int p5), .val (.int p6), .val (.int (p2 - p3)), .unset] [(.int p2), (.ref a1)])) rfl rfl (hb hby d4_19) _ ?_
      show Steps p.tables e below (s₁.setTop (mkF m 20 #[.val (.ref a1), .val (.int p2), .val (.int p3), .val (.long p4), .second, .val (.int p5), .val (.int p6), .val (.int (p2 - p3)), .unset] [(.int y)])) _
      refine XS.iload X0.here hx rfl (hb hby d4_20) rfl ?_
      show Steps p.tables e below (s₁.setTop (mkF m 22 #[.val (.ref a1), .val (.int p2), .val (.int p3), .val (.long p4), .second, .val (.int p5), .val (.int p6), .val (.int (p2 - p3)), .unset] [(.int p6), (.int y)])) _
      refine XS.icmpNo X0.here hx rfl (hb hby d4_22) rfl (teq hys).2 ?_
      show Steps p.tables e below (s₁.setTop (mkF m 25 #[.val (.ref a1), .val (.int p2), .val (.int p3), .val (.long p4), .second, .val (.int p5), .val (.int p6), .val (.int (p2 - p3)), .unset] [])) _
      refine XS.iconst X0.here hx rfl (hb hby d4_25) ?_
      show Steps p.tables e below (s₁.setTop (mkF m 26 #[.val (.ref a1), .val (.int p2), .val (.int p3), .val (.long p4), .second, .val (.int p5), .val (.int p6), .val (.int (p2 - p3)), .unset] [(.int (1 : Int32))])) _
      refine XS.goto X0.here hx rfl (pc0 := 26) (pc' := 30) rfl (hb hby d4_26) (by decide) (by decide) ?_
      exact k)
    obtain ⟨fs, hr, hrun, hended, hW, hsame⟩ := X0.leave (v := (some (.int (nar .boolean (1 : Int32))))) (fun h => by rw [Bd.returns] at h; cases h)
    refine ⟨_, _, pre0 _ (C4 _ ?_), hrun, hended, _, _, rfl, ?_, ⟨_, rfl⟩, hW, hsame.mono (by decide) (by decide)⟩
    · exact retN X0 hx (t := .boolean) Bd.returns (by simp) (hb hby d4_30) hr
    · show Q4 Z a1 p2 p3 p4 p5 p6 k0 vs j y h0 n0 _ s₁.heap _
      rw [e0]
      exact ⟨rfl, N0, rfl⟩
  · have c1 : ¬ (p2 - p3) < 0 := fun z => hc (Or.inl z)
    have c2 : (p2 - p3) < p5 := Classical.byContradiction fun z => hc (Or.inr z)
    have hww := hi c1 c2
    have C5 : Go p e below s₁ (mkF m 49 #[.val (.ref a1), .val (.int p2), .val (.int p3), .val (.long p4), .second, .val (.int p5), .val (.int p6), .val (.int (p2 - p3)), .unset] [(.int (p5 - (1 : Int32))), (.int (p2 - p3)), (.int ((((p4.toUInt64 >>> (((7 : Int32) * (p2 - p3)) &&& 0x3f).toInt64.toUInt64).toInt64) &&& (127 : Int64)).toInt32))]) s₁ F0 := fun t k => C1 t (by
      refine XS.iload X0.here hx rfl (hb hby d4_5) rfl ?_
      show Steps p.tables e below (s₁.setTop (mkF m 7 #[.val (.ref a1), .val (.int p2), .val (.int p3), .val (.long p4), .second, .val (.int p5), .val (.int p6), .val (.int (p2 - p3)), .unset] [(.int (p2 - p3))])) _
      refine XS.ifNo X0.here hx rfl (hb hby d4_7) rfl ((if0 _ _).trans (flt c1).1) ?_
      show Steps p.tables e below (s₁.setTop (mkF m 10 #[.val (.ref a1), .val (.int p2), .val (.int p3), .val (.long p4), .second, .val (.int p5), .val (.int p6), .val (.int (p2 - p3)), .unset] [])) _
      refine XS.iload X0.here hx rfl (hb hby d4_10) rfl ?_
      show Steps p.tables e below (s₁.setTop (mkF m 12 #[.val (.ref a1), .val (.int p2), .val (.int p3), .val (.long p4), .second, .val (.int p5), .val (.int p6), .val (.int (p2 - p3)), .unset] [(.int (p2 - p3))])) _
      refine XS.iload X0.here hx rfl (hb hby d4_12) rfl ?_
      show Steps p.tables e below (s₁.setTop (mkF m 14 #[.val (.ref a1), .val (.int p2), .val (.int p3), .val (.long p4), .second, .val (.int p5), .val (.int p6), .val (.int (p2 - p3)), .unset] [(.int p5), (.int (p2 - p3))])) _
      refine XS.icmpYes X0.here hx rfl (pc0 := 14) (pc' := 31) rfl (hb hby d4_14) rfl (tlt c2).1 (by decide) (by decide) ?_
      show Steps p.tables e below (s₁.setTop (mkF m 31 #[.val (.ref a1), .val (.int p2), .val (.int p3), .val (.long p4), .second, .val (.int p5), .val (.int p6), .val (.int (p2 - p3)), .unset] [])) _
      refine XS.lloadN X0.here hx rfl (hb hby d4_31) rfl ?_
      show Steps p.tables e below (s₁.setTop (mkF m 32 #[.val (.ref a1), .val (.int p2), .val (.int p3), .val (.long p4), .second, .val (.int p5), .val (.int p6), .val (.int (p2 - p3)), .unset] [(.long p4)])) _
      refine XS.bipush X0.here hx rfl (hb hby d4_32) ?_
      show Steps p.tables e below (s₁.setTop (mkF m 34 #[.val (.ref a1), .val (.int p2), .val (.int p3), .val (.long p4), .second, .val (.int p5), .val (.int p6), .val (.int (p2 - p3)), .unset] [(.int (7 : Int32)), (.long p4)])) _
      refine XS.iload X0.here hx rfl (hb hby d4_34) rfl ?_
      show Steps p.tables e below (s₁.setTop (mkF m 36 #[.val (.ref a1), .val (.int p2), .val (.int p3), .val (.long p4), .second, .val (.int p5), .val (.int p6), .val (.int (p2 - p3)), .unset] [(.int (p2 - p3)), (.int (7 : Int32)), (.long p4)])) _
      refine XS.imul X0.here hx rfl (hb hby d4_36) rfl ?_
      show Steps p.tables e below (s₁.setTop (mkF m 37 #[.val (.ref a1), .val (.int p2), .val (.int p3), .val (.long p4), .second, .val (.int p5), .val (.int p6), .val (.int (p2 - p3)), .unset] [(.int ((7 : Int32) * (p2 - p3))), (.long p4)])) _
      refine XS.lushr X0.here hx rfl (hb hby d4_37) rfl ?_
      show Steps p.tables e below (s₁.setTop (mkF m 38 #[.val (.ref a1), .val (.int p2), .val (.int p3), .val (.long p4), .second, .val (.int p5), .val (.int p6), .val (.int (p2 - p3)), .unset] [(.long ((p4.toUInt64 >>> (((7 : Int32) * (p2 - p3)) &&& 0x3f).toInt64.toUInt64).toInt64))])) _
      refine X0.ldc2Long hx hown (mvT hZ (hw _ (List.mem_of_getElem? (i := 17) rfl))) (g := (mkF m 38 #[.val (.ref a1), .val (.int p2), .val (.int p3), .val (.long p4), .second, .val (.int p5), .val (.int p6), .val (.int (p2 - p3)), .unset] [(.long ((p4.toUInt64 >>> (((7 : Int32) * (p2 - p3)) &&& 0x3f).toInt64.toUInt64).toInt64))])) rfl (hb hby d4_38) _ ?_
      show Steps p.tables e below (s₁.setTop (mkF m 41 #[.val (.ref a1), .val (.int p2), .val (.int p3), .val (.long p4), .second, .val (.int p5), .val (.int p6), .val (.int (p2 - p3)), .unset] [(.long (127 : Int64)), (.long ((p4.toUInt64 >>> (((7 : Int32) * (p2 - p3)) &&& 0x3f).toInt64.toUInt64).toInt64))])) _
      refine XS.land X0.here hx rfl (hb hby d4_41) rfl ?_
      show Steps p.tables e below (s₁.setTop (mkF m 42 #[.val (.ref a1), .val (.int p2), .val (.int p3), .val (.long p4), .second, .val (.int p5), .val (.int p6), .val (.int (p2 - p3)), .unset] [(.long (((p4.toUInt64 >>> (((7 : Int32) * (p2 - p3)) &&& 0x3f).toInt64.toUInt64).toInt64) &&& (127 : Int64)))])) _
      refine XS.l2i X0.here hx rfl (hb hby d4_42) rfl ?_
      show Steps p.tables e below (s₁.setTop (mkF m 43 #[.val (.ref a1), .val (.int p2), .val (.int p3), .val (.long p4), .second, .val (.int p5), .val (.int p6), .val (.int (p2 - p3)), .unset] [(.int ((((p4.toUInt64 >>> (((7 : Int32) * (p2 - p3)) &&& 0x3f).toInt64.toUInt64).toInt64) &&& (127 : Int64)).toInt32))])) _
      refine XS.iload X0.here hx rfl (hb hby d4_43) rfl ?_
      show Steps p.tables e below (s₁.setTop (mkF m 45 #[.val (.ref a1), .val (.int p2), .val (.int p3), .val (.long p4), .second, .val (.int p5), .val (.int p6), .val (.int (p2 - p3)), .unset] [(.int (p2 - p3)), (.int ((((p4.toUInt64 >>> (((7 : Int32) * (p2 - p3)) &&& 0x3f).toInt64.toUInt64).toInt64) &&& (127 : Int64)).toInt32))])) _
      refine XS.iload X0.here hx rfl (hb hby d4_45) rfl ?_
      show Steps p.tables e below (s₁.setTop (mkF m 47 #[.val (.ref a1), .val (.int p2), .val (.int p3), .val (.long p4), .second, .val (.int p5), .val (.int p6), .val (.int (p2 - p3)), .unset] [(.int p5), (.int (p2 - p3)), (.int ((((p4.toUInt64 >>> (((7 : Int32) * (p2 - p3)) &&& 0x3f).toInt64.toUInt64).toInt64) &&& (127 : Int64)).toInt32))])) _
      refine XS.iconst X0.here hx rfl (hb hby d4_47) ?_
      show Steps p.tables e below (s₁.setTop (mkF m 48 #[.val (.ref a1), .val (.int p2), .val (.int p3), .val (.long p4), .second, .val (.int p5), .val (.int p6), .val (.int (p2 - p3)), .unset] [(.int (1 : Int32)), (.int p5), (.int (p2 - p3)), (.int ((((p4.toUInt64 >>> (((7 : Int32) * (p2 - p3)) &&& 0x3f).toInt64.toUInt64).toInt64) &&& (127 : Int64)).toInt32))])) _
      refine XS.isub X0.here hx rfl (hb hby d4_48) rfl ?_
      exact k)
    have C59 : Go p e below s₁ (mkF m 59 #[.val (.ref a1), .val (.int p2), .val (.int p3), .val (.long p4), .second, .val (.int p5), .val (.int p6), .val (.int (p2 - p3)), .unset] [(.int (if (p2 - p3) < p5 - (1 : Int32) then (128 : Int32) else (0 : Int32))), (.int ((((p4.toUInt64 >>> (((7 : Int32) * (p2 - p3)) &&& 0x3f).toInt64.toUInt64).toInt64) &&& (127 : Int64)).toInt32))]) s₁ F0 := by
      by_cases c3 : (p2 - p3) < p5 - (1 : Int32)
      · have q : (if (p2 - p3) < p5 - (1 : Int32) then (128 : Int32) else (0 : Int32)) = 128 := if_pos c3
        have C6 : Go p e below s₁ (mkF m 59 #[.val (.ref a1), .val (.int p2), .val (.int p3), .val (.long p4), .second, .val (.int p5), .val (.int p6), .val (.int (p2 - p3)), .unset] [(.int (128 : Int32)), (.int ((((p4.toUInt64 >>> (((7 : Int32) * (p2 - p3)) &&& 0x3f).toInt64.toUInt64).toInt64) &&& (127 : Int64)).toInt32))]) s₁ F0 := fun t k => C5 t (by
          refine XS.icmpNo X0.here hx rfl (hb hby d4_49) rfl (tlt c3).2.1 ?_
          show Steps p.tables e below (s₁.setTop (mkF m 52 #[.val (.ref a1), .val (.int p2), .val (.int p3), .val (.long p4), .second, .val (.int p5), .val (.int p6), .val (.int (p2 - p3)), .unset] [(.int ((((p4.toUInt64 >>> (((7 : Int32) * (p2 - p3)) &&& 0x3f).toInt64.toUInt64).toInt64) &&& (127 : Int64)).toInt32))])) _
          refine XS.sipush X0.here hx rfl (hb hby d4_52) ?_
          show Steps p.tables e below (s₁.setTop (mkF m 55 #[.val (.ref a1), .val (.int p2), .val (.int p3), .val (.long p4), .second, .val (.int p5), .val (.int p6), .val (.int (p2 - p3)), .unset] [(.int (128 : Int32)), (.int ((((p4.toUInt64 >>> (((7 : Int32) * (p2 - p3)) &&& 0x3f).toInt64.toUInt64).toInt64) &&& (127 : Int64)).toInt32))])) _
          refine XS.goto X0.here hx rfl (pc0 := 55) (pc' := 59) rfl (hb hby d4_55) (by decide) (by decide) ?_
          exact k)
        rw [q]
        exact C6
      · have q : (if (p2 - p3) < p5 - (1 : Int32) then (128 : Int32) else (0 : Int32)) = 0 := if_neg c3
        have C7 : Go p e below s₁ (mkF m 59 #[.val (.ref a1), .val (.int p2), .val (.int p3), .val (.long p4), .second, .val (.int p5), .val (.int p6), .val (.int (p2 - p3)), .unset] [(.int (0 : Int32)), (.int ((((p4.toUInt64 >>> (((7 : Int32) * (p2 - p3)) &&& 0x3f).toInt64.toUInt64).toInt64) &&& (127 : Int64)).toInt32))]) s₁ F0 := fun t k => C5 t (by
          refine XS.icmpYes X0.here hx rfl (pc0 := 49) (pc' := 58) rfl (hb hby d4_49) rfl (flt c3).2.1 (by decide) (by decide) ?_
          show Steps p.tables e below (s₁.setTop (mkF m 58 #[.val (.ref a1), .val (.int p2), .val (.int p3), .val (.long p4), .second, .val (.int p5), .val (.int p6), .val (.int (p2 - p3)), .unset] [(.int ((((p4.toUInt64 >>> (((7 : Int32) * (p2 - p3)) &&& 0x3f).toInt64.toUInt64).toInt64) &&& (127 : Int64)).toInt32))])) _
          refine XS.iconst X0.here hx rfl (hb hby d4_58) ?_
          exact k)
        rw [q]
        exact C7
    have C8 : Go p e below s₁ (mkF m 79 #[.val (.ref a1), .val (.int p2), .val (.int p3), .val (.long p4), .second, .val (.int p5), .val (.int p6), .val (.int (p2 - p3)), .val (.int (((((p4.toUInt64 >>> (((7 : Int32) * (p2 - p3)) &&& 0x3f).toInt64.toUInt64).toInt64) &&& (127 : Int64)).toInt32) ||| (if (p2 - p3) < p5 - (1 : Int32) then (128 : Int32) else (0 : Int32))))] [(.int (1 : Int32))]) s₁ F0 := fun t k => C59 t (by
      refine XS.ior X0.here hx rfl (hb hby d4_59) rfl ?_
      show Steps p.tables e below (s₁.setTop (mkF m 60 #[.val (.ref a1), .val (.int p2), .val (.int p3), .val (.long p4), .second, .val (.int p5), .val (.int p6), .val (.int (p2 - p3)), .unset] [(.int (((((p4.toUInt64 >>> (((7 : Int32) * (p2 - p3)) &&& 0x3f).toInt64.toUInt64).toInt64) &&& (127 : Int64)).toInt32) ||| (if (p2 - p3) < p5 - (1 : Int32) then (128 : Int32) else (0 : Int32))))])) _
      refine XS.istore X0.here hx rfl (hb hby d4_60) rfl (l' := #[.val (.ref a1), .val (.int p2), .val (.int p3), .val (.long p4), .second, .val (.int p5), .val (.int p6), .val (.int (p2 - p3)), .val (.int (((((p4.toUInt64 >>> (((7 : Int32) * (p2 - p3)) &&& 0x3f).toInt64.toUInt64).toInt64) &&& (127 : Int64)).toInt32) ||| (if (p2 - p3) < p5 - (1 : Int32) then (128 : Int32) else (0 : Int32))))]) rfl ?_
      show Steps p.tables e below (s₁.setTop (mkF m 62 #[.val (.ref a1), .val (.int p2), .val (.int p3), .val (.long p4), .second, .val (.int p5), .val (.int p6), .val (.int (p2 - p3)), .val (.int (((((p4.toUInt64 >>> (((7 : Int32) * (p2 - p3)) &&& 0x3f).toInt64.toUInt64).toInt64) &&& (127 : Int64)).toInt32) ||| (if (p2 - p3) < p5 - (1 : Int32) then (128 : Int32) else (0 : Int32))))] [])) _
      refine XS.aloadN X0.here hx rfl (hb hby d4_62) rfl rfl ?_
      show Steps p.tables e below (s₁.setTop (mkF m 63 #[.val (.ref a1), .val (.int p2), .val (.int p3), .val (.long p4), .second, .val (.int p5), .val (.int p6), .val (.int (p2 - p3)), .val (.int (((((p4.toUInt64 >>> (((7 : Int32) * (p2 - p3)) &&& 0x3f).toInt64.toUInt64).toInt64) &&& (127 : Int64)).toInt32) ||| (if (p2 - p3) < p5 - (1 : Int32) then (128 : Int32) else (0 : Int32))))] [(.ref a1)])) _
      refine XS.iloadN X0.here hx rfl (hb hby d4_63) rfl ?_
      show Steps p.tables e below (s₁.setTop (mkF m 64 #[.val (.ref a1), .val (.int p2), .val (.int p3), .val (.long p4), .second, .val (.int p5), .val (.int p6), .val (.int (p2 - p3)), .val (.int (((((p4.toUInt64 >>> (((7 : Int32) * (p2 - p3)) &&& 0x3f).toInt64.toUInt64).toInt64) &&& (127 : Int64)).toInt32) ||| (if (p2 - p3) < p5 - (1 : Int32) then (128 : Int32) else (0 : Int32))))] [(.int p2), (.ref a1)])) _
      refine X0.baloadBytes hx (j := p2) (v := (.int y)) (by rw [e0]; exact Ar0.1) (State.isArrayOf_alike hZ.alike Ar0.2.1) Ar0.2.2 hin hat (g := (mkF m 64 #[.val (.ref a1), .val (.int p2), .val (.int p3), .val (.long p4), .second, .val (.int p5), .val (.int p6), .val (.int (p2 - p3)), .val (.int (((((p4.toUInt64 >>> (((7 : Int32) * (p2 - p3)) &&& 0x3f).toInt64.toUInt64).toInt64) &&& (127 : Int64)).toInt32) ||| (if (p2 - p3) < p5 - (1 : Int32) then (128 : Int32) else (0 : Int32))))] [(.int p2), (.ref a1)])) rfl rfl (hb hby d4_64) _ ?_
      show Steps p.tables e below (s₁.setTop (mkF m 65 #[.val (.ref a1), .val (.int p2), .val (.int p3), .val (.long p4), .second, .val (.int p5), .val (.int p6), .val (.int (p2 - p3)), .val (.int (((((p4.toUInt64 >>> (((7 : Int32) * (p2 - p3)) &&& 0x3f).toInt64.toUInt64).toInt64) &&& (127 : Int64)).toInt32) ||| (if (p2 - p3) < p5 - (1 : Int32) then (128 : Int32) else (0 : Int32))))] [(.int y)])) _
      refine XS.sipush X0.here hx rfl (hb hby d4_65) ?_
      show Steps p.tables e below (s₁.setTop (mkF m 68 #[.val (.ref a1), .val (.int p2), .val (.int p3), .val (.long p4), .second, .val (.int p5), .val (.int p6), .val (.int (p2 - p3)), .val (.int (((((p4.toUInt64 >>> (((7 : Int32) * (p2 - p3)) &&& 0x3f).toInt64.toUInt64).toInt64) &&& (127 : Int64)).toInt32) ||| (if (p2 - p3) < p5 - (1 : Int32) then (128 : Int32) else (0 : Int32))))] [(.int (255 : Int32)), (.int y)])) _
      refine XS.iand X0.here hx rfl (hb hby d4_68) rfl ?_
      show Steps p.tables e below (s₁.setTop (mkF m 69 #[.val (.ref a1), .val (.int p2), .val (.int p3), .val (.long p4), .second, .val (.int p5), .val (.int p6), .val (.int (p2 - p3)), .val (.int (((((p4.toUInt64 >>> (((7 : Int32) * (p2 - p3)) &&& 0x3f).toInt64.toUInt64).toInt64) &&& (127 : Int64)).toInt32) ||| (if (p2 - p3) < p5 - (1 : Int32) then (128 : Int32) else (0 : Int32))))] [(.int (y &&& (255 : Int32)))])) _
      refine XS.iload X0.here hx rfl (hb hby d4_69) rfl ?_
      show Steps p.tables e below (s₁.setTop (mkF m 71 #[.val (.ref a1), .val (.int p2), .val (.int p3), .val (.long p4), .second, .val (.int p5), .val (.int p6), .val (.int (p2 - p3)), .val (.int (((((p4.toUInt64 >>> (((7 : Int32) * (p2 - p3)) &&& 0x3f).toInt64.toUInt64).toInt64) &&& (127 : Int64)).toInt32) ||| (if (p2 - p3) < p5 - (1 : Int32) then (128 : Int32) else (0 : Int32))))] [(.int (((((p4.toUInt64 >>> (((7 : Int32) * (p2 - p3)) &&& 0x3f).toInt64.toUInt64).toInt64) &&& (127 : Int64)).toInt32) ||| (if (p2 - p3) < p5 - (1 : Int32) then (128 : Int32) else (0 : Int32)))), (.int (y &&& (255 : Int32)))])) _
      refine XS.icmpNo X0.here hx rfl (hb hby d4_71) rfl (teq hww).2 ?_
      show Steps p.tables e below (s₁.setTop (mkF m 74 #[.val (.ref a1), .val (.int p2), .val (.int p3), .val (.long p4), .second, .val (.int p5), .val (.int p6), .val (.int (p2 - p3)), .val (.int (((((p4.toUInt64 >>> (((7 : Int32) * (p2 - p3)) &&& 0x3f).toInt64.toUInt64).toInt64) &&& (127 : Int64)).toInt32) ||| (if (p2 - p3) < p5 - (1 : Int32) then (128 : Int32) else (0 : Int32))))] [])) _
      refine XS.iconst X0.here hx rfl (hb hby d4_74) ?_
      show Steps p.tables e below (s₁.setTop (mkF m 75 #[.val (.ref a1), .val (.int p2), .val (.int p3), .val (.long p4), .second, .val (.int p5), .val (.int p6), .val (.int (p2 - p3)), .val (.int (((((p4.toUInt64 >>> (((7 : Int32) * (p2 - p3)) &&& 0x3f).toInt64.toUInt64).toInt64) &&& (127 : Int64)).toInt32) ||| (if (p2 - p3) < p5 - (1 : Int32) then (128 : Int32) else (0 : Int32))))] [(.int (1 : Int32))])) _
      refine XS.goto X0.here hx rfl (pc0 := 75) (pc' := 79) rfl (hb hby d4_75) (by decide) (by decide) ?_
      exact k)
    obtain ⟨fs, hr, hrun, hended, hW, hsame⟩ := X0.leave (v := (some (.int (nar .boolean (1 : Int32))))) (fun h => by rw [Bd.returns] at h; cases h)
    refine ⟨_, _, pre0 _ (C8 _ ?_), hrun, hended, _, _, rfl, ?_, ⟨_, rfl⟩, hW, hsame.mono (by decide) (by decide)⟩
    · exact retN X0 hx (t := .boolean) Bd.returns (by simp) (hb hby d4_79) hr
    · show Q4 Z a1 p2 p3 p4 p5 p6 k0 vs j y h0 n0 _ s₁.heap _
      rw [e0]
      exact ⟨rfl, N0, rfl⟩
theorem d1_0 : decode prog_41_method_5_code 0 = .ok (.lload_n 2, 1) := by decide +kernel
theorem d1_1 : decode prog_41_method_5_code 1 = .ok (.invokestatic 13, 3) := by decide +kernel
theorem d1_4 : decode prog_41_method_5_code 4 = .ok (.lstore 4, 2) := by decide +kernel
theorem d1_6 : decode prog_41_method_5_code 6 = .ok (.iload_n 1, 1) := by decide +kernel
theorem d1_7 : decode prog_41_method_5_code 7 = .ok (.istore 6, 2) := by decide +kernel
theorem d1_9 : decode prog_41_method_5_code 9 = .ok (.lload 4, 2) := by decide +kernel
theorem d1_11 : decode prog_41_method_5_code 11 = .ok (.ldc2_w 17, 3) := by decide +kernel
theorem d1_14 : decode prog_41_method_5_code 14 = .ok (.land, 1) := by decide +kernel
theorem d1_15 : decode prog_41_method_5_code 15 = .ok (.lconst 0, 1) := by decide +kernel
theorem d1_16 : decode prog_41_method_5_code 16 = .ok (.lcmp, 1) := by decide +kernel
theorem d1_17 : decode prog_41_method_5_code 17 = .ok (.ifCond .ne 17, 3) := by decide +kernel
theorem d1_20 : decode prog_41_method_5_code 20 = .ok (.aload_n 0, 1) := by decide +kernel
theorem d1_21 : decode prog_41_method_5_code 21 = .ok (.iload 6, 2) := by decide +kernel
theorem d1_23 : decode prog_41_method_5_code 23 = .ok (.iinc 6 1, 3) := by decide +kernel
theorem d1_26 : decode prog_41_method_5_code 26 = .ok (.lload 4, 2) := by decide +kernel
theorem d1_28 : decode prog_41_method_5_code 28 = .ok (.l2i, 1) := by decide +kernel
theorem d1_29 : decode prog_41_method_5_code 29 = .ok (.i2b, 1) := by decide +kernel
theorem d1_30 : decode prog_41_method_5_code 30 = .ok (.bastore, 1) := by decide +kernel
theorem d1_31 : decode prog_41_method_5_code 31 = .ok (.goto 97, 3) := by decide +kernel
theorem d1_34 : decode prog_41_method_5_code 34 = .ok (.lload 4, 2) := by decide +kernel
theorem d1_36 : decode prog_41_method_5_code 36 = .ok (.ldc2_w 23, 3) := by decide +kernel
theorem d1_39 : decode prog_41_method_5_code 39 = .ok (.land, 1) := by decide +kernel
theorem d1_40 : decode prog_41_method_5_code 40 = .ok (.lconst 0, 1) := by decide +kernel
theorem d1_41 : decode prog_41_method_5_code 41 = .ok (.lcmp, 1) := by decide +kernel
theorem d1_42 : decode prog_41_method_5_code 42 = .ok (.ifCond .ne 35, 3) := by decide +kernel
theorem d1_45 : decode prog_41_method_5_code 45 = .ok (.aload_n 0, 1) := by decide +kernel
theorem d1_46 : decode prog_41_method_5_code 46 = .ok (.iload 6, 2) := by decide +kernel
theorem d1_48 : decode prog_41_method_5_code 48 = .ok (.iinc 6 1, 3) := by decide +kernel
theorem d1_51 : decode prog_41_method_5_code 51 = .ok (.lload 4, 2) := by decide +kernel
theorem d1_53 : decode prog_41_method_5_code 53 = .ok (.ldc2_w 25, 3) := by decide +kernel
theorem d1_56 : decode prog_41_method_5_code 56 = .ok (.lor, 1) := by decide +kernel
theorem d1_57 : decode prog_41_method_5_code 57 = .ok (.l2i, 1) := by decide +kernel
theorem d1_58 : decode prog_41_method_5_code 58 = .ok (.i2b, 1) := by decide +kernel
theorem d1_59 : decode prog_41_method_5_code 59 = .ok (.bastore, 1) := by decide +kernel
theorem d1_60 : decode prog_41_method_5_code 60 = .ok (.aload_n 0, 1) := by decide +kernel
theorem d1_61 : decode prog_41_method_5_code 61 = .ok (.iload 6, 2) := by decide +kernel
theorem d1_63 : decode prog_41_method_5_code 63 = .ok (.iinc 6 1, 3) := by decide +kernel
theorem d1_66 : decode prog_41_method_5_code 66 = .ok (.lload 4, 2) := by decide +kernel
theorem d1_68 : decode prog_41_method_5_code 68 = .ok (.bipush 7, 2) := by decide +kernel
theorem d1_70 : decode prog_41_method_5_code 70 = .ok (.lushr, 1) := by decide +kernel
theorem d1_71 : decode prog_41_method_5_code 71 = .ok (.l2i, 1) := by decide +kernel
theorem d1_72 : decode prog_41_method_5_code 72 = .ok (.i2b, 1) := by decide +kernel
theorem d1_73 : decode prog_41_method_5_code 73 = .ok (.bastore, 1) := by decide +kernel
theorem d1_74 : decode prog_41_method_5_code 74 = .ok (.goto 54, 3) := by decide +kernel
theorem d1_77 : decode prog_41_method_5_code 77 = .ok (.lload 4, 2) := by decide +kernel
theorem d1_79 : decode prog_41_method_5_code 79 = .ok (.ldc2_w 17, 3) := by decide +kernel
theorem d1_82 : decode prog_41_method_5_code 82 = .ok (.land, 1) := by decide +kernel
theorem d1_83 : decode prog_41_method_5_code 83 = .ok (.lconst 0, 1) := by decide +kernel
theorem d1_84 : decode prog_41_method_5_code 84 = .ok (.lcmp, 1) := by decide +kernel
theorem d1_85 : decode prog_41_method_5_code 85 = .ok (.ifCond .eq 32, 3) := by decide +kernel
theorem d1_88 : decode prog_41_method_5_code 88 = .ok (.aload_n 0, 1) := by decide +kernel
theorem d1_89 : decode prog_41_method_5_code 89 = .ok (.iload 6, 2) := by decide +kernel
theorem d1_91 : decode prog_41_method_5_code 91 = .ok (.iinc 6 1, 3) := by decide +kernel
theorem d1_94 : decode prog_41_method_5_code 94 = .ok (.lload 4, 2) := by decide +kernel
theorem d1_96 : decode prog_41_method_5_code 96 = .ok (.ldc2_w 27, 3) := by decide +kernel
theorem d1_99 : decode prog_41_method_5_code 99 = .ok (.land, 1) := by decide +kernel
theorem d1_100 : decode prog_41_method_5_code 100 = .ok (.ldc2_w 25, 3) := by decide +kernel
theorem d1_103 : decode prog_41_method_5_code 103 = .ok (.lor, 1) := by decide +kernel
theorem d1_104 : decode prog_41_method_5_code 104 = .ok (.l2i, 1) := by decide +kernel
theorem d1_105 : decode prog_41_method_5_code 105 = .ok (.i2b, 1) := by decide +kernel
theorem d1_106 : decode prog_41_method_5_code 106 = .ok (.bastore, 1) := by decide +kernel
theorem d1_107 : decode prog_41_method_5_code 107 = .ok (.lload 4, 2) := by decide +kernel
theorem d1_109 : decode prog_41_method_5_code 109 = .ok (.bipush 7, 2) := by decide +kernel
theorem d1_111 : decode prog_41_method_5_code 111 = .ok (.lushr, 1) := by decide +kernel
theorem d1_112 : decode prog_41_method_5_code 112 = .ok (.lstore 4, 2) := by decide +kernel
theorem d1_114 : decode prog_41_method_5_code 114 = .ok (.goto (-37), 3) := by decide +kernel
theorem d1_117 : decode prog_41_method_5_code 117 = .ok (.aload_n 0, 1) := by decide +kernel
theorem d1_118 : decode prog_41_method_5_code 118 = .ok (.iload 6, 2) := by decide +kernel
theorem d1_120 : decode prog_41_method_5_code 120 = .ok (.iinc 6 1, 3) := by decide +kernel
theorem d1_123 : decode prog_41_method_5_code 123 = .ok (.lload 4, 2) := by decide +kernel
theorem d1_125 : decode prog_41_method_5_code 125 = .ok (.l2i, 1) := by decide +kernel
theorem d1_126 : decode prog_41_method_5_code 126 = .ok (.i2b, 1) := by decide +kernel
theorem d1_127 : decode prog_41_method_5_code 127 = .ok (.bastore, 1) := by decide +kernel
theorem d1_128 : decode prog_41_method_5_code 128 = .ok (.iload 6, 2) := by decide +kernel
theorem d1_130 : decode prog_41_method_5_code 130 = .ok (.ireturn, 1) := by decide +kernel
set_option maxRecDepth 65536 in
set_option maxHeartbeats 40000000 in
theorem loop1 {p : Program} {l : Launch} {e : Env} {R : Room} {s : State} {m : MethodId} {args : Array Value} {below : List Frame} {meth : Method} {c : Code} {cells slots : Nat} {Z : State} {a0 : Array Value} {n0 : Nat} (hx : p.tables.exec = Jvm.exec) (hZ : Z.Warmed39 s.vm) (hw : ∀ d ∈ tables_1, d.before a0 Z = true) (hby : c.code = prog_41_method_5_code) (hml : c.maxLocals = 7) (hown : s.vm.findClass "com/example/tidelog/tidelog/Varints" = some m.cls) (a1 : Addr) (p2 : Int32) (p3 : Int64) (k0 : ClassId) (ga : n0 ≤ a1) (s0 : Int32) (u n a : Nat) (ha : a ≤ 2) (hn10 : n ≤ 10) (hn : ∀ i, own_g u (i + 1) = 0 ↔ n ≤ i + 1) :
    ∀ (k i : Nat) (T : State) (h : Heap) (locs : List Loc) (z : Int64) (w : Int32) (vs : List Value), i + k + 1 = n → Stand p l e R s m args below meth c T locs cells slots → T.heap = h → Fr n0 locs → own_u z = own_g u i → w.toInt = (a + i : Nat) → own_P s0 u n a i vs → Arv Z h a1 k0 .byte 12 vs (.int 0) → ∀ (hh : Heap), Keep hh h [a1] →
      ∃ (T' : State) (h' : Heap) (locs' : List Loc) (z' : Int64) (w' : Int32) (vs' : List Value), Stand p l e R s m args below meth c T' locs' cells slots ∧ T'.heap = h' ∧ Fr n0 locs' ∧ w'.toInt = (a + n : Nat) ∧ own_P s0 u n a n vs' ∧ Arv Z h' a1 k0 .byte 12 vs' (.int 0) ∧ Keep hh h' [a1] ∧
        Go p e below T' (mkF m 128 #[.val (.ref a1), .val (.int p2), .val (.long p3), .second, .val (.long z'), .second, .val (.int w')] []) T (mkF m 77 #[.val (.ref a1), .val (.int p2), .val (.long p3), .second, .val (.long z), .second, .val (.int w)] []) := by
  intro k
  induction k with
  | zero =>
    intro i T h locs z w vs hk X0 e0 N0 hz hwi hP V0 hh KK
    have hi : n = i + 1 := by omega
    subst hi
    have hlt : own_u z < 128 := by
      have := (hn i).mpr (Nat.le_refl _)
      rw [own_gs] at this; omega
    obtain ⟨cl0, Ar0, q0, S0, M0, H0, G0⟩ := V0
    have C0 : Go p e below T (mkF m 77 #[.val (.ref a1), .val (.int p2), .val (.long p3), .second, .val (.long z), .second, .val (.int w)] []) T (mkF m 77 #[.val (.ref a1), .val (.int p2), .val (.long p3), .second, .val (.long z), .second, .val (.int w)] []) := fun t k => k
    have C1 : Go p e below T (mkF m 127 #[.val (.ref a1), .val (.int p2), .val (.long p3), .second, .val (.long z), .second, .val (.int (w + (1 : Int32)))] [(.int ((z.toInt32).toInt8.toInt32)), (.int w), (.ref a1)]) T (mkF m 77 #[.val (.ref a1), .val (.int p2), .val (.long p3), .second, .val (.long z), .second, .val (.int w)] []) := fun t k => C0 t (by
      refine XS.lload X0.here hx rfl (hb hby d1_77) rfl ?_
      show Steps p.tables e below (T.setTop (mkF m 79 #[.val (.ref a1), .val (.int p2), .val (.long p3), .second, .val (.long z), .second, .val (.int w)] [(.long z)])) _
      refine X0.ldc2Long hx hown (mvT hZ (hw _ (List.mem_of_getElem? (i := 9) rfl))) (g := (mkF m 79 #[.val (.ref a1), .val (.int p2), .val (.long p3), .second, .val (.long z), .second, .val (.int w)] [(.long z)])) rfl (hb hby d1_79) _ ?_
      show Steps p.tables e below (T.setTop (mkF m 82 #[.val (.ref a1), .val (.int p2), .val (.long p3), .second, .val (.long z), .second, .val (.int w)] [(.long (-128 : Int64)), (.long z)])) _
      refine XS.land X0.here hx rfl (hb hby d1_82) rfl ?_
      show Steps p.tables e below (T.setTop (mkF m 83 #[.val (.ref a1), .val (.int p2), .val (.long p3), .second, .val (.long z), .second, .val (.int w)] [(.long (z &&& (-128 : Int64)))])) _
      refine XS.lconst X0.here hx rfl (hb hby d1_83) ?_
      show Steps p.tables e below (T.setTop (mkF m 84 #[.val (.ref a1), .val (.int p2), .val (.long p3), .second, .val (.long z), .second, .val (.int w)] [(.long (0 : Int64)), (.long (z &&& (-128 : Int64)))])) _
      refine XS.lcmp X0.here hx rfl (hb hby d1_84) rfl ?_
      show Steps p.tables e below (T.setTop (mkF m 85 #[.val (.ref a1), .val (.int p2), .val (.long p3), .second, .val (.long z), .second, .val (.int w)] [(.int (lcmpW (z &&& (-128 : Int64)) (0 : Int64)))])) _
      refine XS.ifYes X0.here hx rfl (pc0 := 85) (pc' := 117) rfl (hb hby d1_85) rfl ((if0 _ _).trans (teq ((lw_eq _ _).mpr ((own_m7 z).mpr hlt))).1) (by decide) (by decide) ?_
      show Steps p.tables e below (T.setTop (mkF m 117 #[.val (.ref a1), .val (.int p2), .val (.long p3), .second, .val (.long z), .second, .val (.int w)] [])) _
      refine XS.aloadN X0.here hx rfl (hb hby d1_117) rfl rfl ?_
      show Steps p.tables e below (T.setTop (mkF m 118 #[.val (.ref a1), .val (.int p2), .val (.long p3), .second, .val (.long z), .second, .val (.int w)] [(.ref a1)])) _
      refine XS.iload X0.here hx rfl (hb hby d1_118) rfl ?_
      show Steps p.tables e below (T.setTop (mkF m 120 #[.val (.ref a1), .val (.int p2), .val (.long p3), .second, .val (.long z), .second, .val (.int w)] [(.int w), (.ref a1)])) _
      refine XS.iinc X0.here hx rfl (hb hby d1_120) rfl (l' := #[.val (.ref a1), .val (.int p2), .val (.long p3), .second, .val (.long z), .second, .val (.int (w + (1 : Int32)))]) rfl ?_
      show Steps p.tables e below (T.setTop (mkF m 123 #[.val (.ref a1), .val (.int p2), .val (.long p3), .second, .val (.long z), .second, .val (.int (w + (1 : Int32)))] [(.int w), (.ref a1)])) _
      refine XS.lload X0.here hx rfl (hb hby d1_123) rfl ?_
      show Steps p.tables e below (T.setTop (mkF m 125 #[.val (.ref a1), .val (.int p2), .val (.long p3), .second, .val (.long z), .second, .val (.int (w + (1 : Int32)))] [(.long z), (.int w), (.ref a1)])) _
      refine XS.l2i X0.here hx rfl (hb hby d1_125) rfl ?_
      show Steps p.tables e below (T.setTop (mkF m 126 #[.val (.ref a1), .val (.int p2), .val (.long p3), .second, .val (.long z), .second, .val (.int (w + (1 : Int32)))] [(.int (z.toInt32)), (.int w), (.ref a1)])) _
      refine XS.i2b X0.here hx rfl (hb hby d1_126) rfl ?_
      exact k)
    obtain ⟨T2, h2, X2, e2, W2, st2⟩ := stB X0 hx hZ e0 Ar0 (j := w) (own_in S0 hwi (by omega)) (g := (mkF m 127 #[.val (.ref a1), .val (.int p2), .val (.long p3), .second, .val (.long z), .second, .val (.int (w + (1 : Int32)))] [(.int ((z.toInt32).toInt8.toInt32)), (.int w), (.ref a1)])) rfl rfl (hb hby d1_127)
    have C2 : Go p e below T2 (mkF m 128 #[.val (.ref a1), .val (.int p2), .val (.long p3), .second, .val (.long z), .second, .val (.int (w + (1 : Int32)))] []) T (mkF m 77 #[.val (.ref a1), .val (.int p2), .val (.long p3), .second, .val (.long z), .second, .val (.int w)] []) := fun t k => C1 t (st2 t k)
    have V2 := Arv.set Ar0 q0 S0 M0 H0 G0 (fits_nar_byte _) W2 (a + i) (own_idx hwi) (by rw [hP.1]; omega)
    have hy := own_byte1 z
    have P2 := own_P_set hP (nar .byte (z.toInt32.toInt8.toInt32)) (by rw [hy]; unfold own_W; rw [if_neg (by omega), ← hz]; omega) (by omega)
    exact ⟨_, _, _, _, _, _, X2, e2, Fr.snoc X2 N0 ga, own_up (i := a + i) hwi (by omega), P2, V2, KK.wr W2 (Or.inl (List.mem_of_getElem? (i := 0) rfl)), C2⟩
  | succ k ih =>
    intro i T h locs z w vs hk X0 e0 N0 hz hwi hP V0 hh KK
    have hge : ¬ own_u z < 128 := by
      intro q
      have := (hn i).mp (by rw [own_gs]; omega)
      omega
    obtain ⟨cl0, Ar0, q0, S0, M0, H0, G0⟩ := V0
    have C0 : Go p e below T (mkF m 77 #[.val (.ref a1), .val (.int p2), .val (.long p3), .second, .val (.long z), .second, .val (.int w)] []) T (mkF m 77 #[.val (.ref a1), .val (.int p2), .val (.long p3), .second, .val (.long z), .second, .val (.int w)] []) := fun t k => k
    have C1 : Go p e below T (mkF m 106 #[.val (.ref a1), .val (.int p2), .val (.long p3), .second, .val (.long z), .second, .val (.int (w + (1 : Int32)))] [(.int ((((z &&& (127 : Int64)) ||| (128 : Int64)).toInt32).toInt8.toInt32)), (.int w), (.ref a1)]) T (mkF m 77 #[.val (.ref a1), .val (.int p2), .val (.long p3), .second, .val (.long z), .second, .val (.int w)] []) := fun t k => C0 t (by
      refine XS.lload X0.here hx rfl (hb hby d1_77) rfl ?_
      show Steps p.tables e below (T.setTop (mkF m 79 #[.val (.ref a1), .val (.int p2), .val (.long p3), .second, .val (.long z), .second, .val (.int w)] [(.long z)])) _
      refine X0.ldc2Long hx hown (mvT hZ (hw _ (List.mem_of_getElem? (i := 9) rfl))) (g := (mkF m 79 #[.val (.ref a1), .val (.int p2), .val (.long p3), .second, .val (.long z), .second, .val (.int w)] [(.long z)])) rfl (hb hby d1_79) _ ?_
      show Steps p.tables e below (T.setTop (mkF m 82 #[.val (.ref a1), .val (.int p2), .val (.long p3), .second, .val (.long z), .second, .val (.int w)] [(.long (-128 : Int64)), (.long z)])) _
      refine XS.land X0.here hx rfl (hb hby d1_82) rfl ?_
      show Steps p.tables e below (T.setTop (mkF m 83 #[.val (.ref a1), .val (.int p2), .val (.long p3), .second, .val (.long z), .second, .val (.int w)] [(.long (z &&& (-128 : Int64)))])) _
      refine XS.lconst X0.here hx rfl (hb hby d1_83) ?_
      show Steps p.tables e below (T.setTop (mkF m 84 #[.val (.ref a1), .val (.int p2), .val (.long p3), .second, .val (.long z), .second, .val (.int w)] [(.long (0 : Int64)), (.long (z &&& (-128 : Int64)))])) _
      refine XS.lcmp X0.here hx rfl (hb hby d1_84) rfl ?_
      show Steps p.tables e below (T.setTop (mkF m 85 #[.val (.ref a1), .val (.int p2), .val (.long p3), .second, .val (.long z), .second, .val (.int w)] [(.int (lcmpW (z &&& (-128 : Int64)) (0 : Int64)))])) _
      refine XS.ifNo X0.here hx rfl (hb hby d1_85) rfl ((if0 _ _).trans (feq (fun q => hge ((own_m7 z).mp ((lw_eq _ _).mp q)))).1) ?_
      show Steps p.tables e below (T.setTop (mkF m 88 #[.val (.ref a1), .val (.int p2), .val (.long p3), .second, .val (.long z), .second, .val (.int w)] [])) _
      refine XS.aloadN X0.here hx rfl (hb hby d1_88) rfl rfl ?_
      show Steps p.tables e below (T.setTop (mkF m 89 #[.val (.ref a1), .val (.int p2), .val (.long p3), .second, .val (.long z), .second, .val (.int w)] [(.ref a1)])) _
      refine XS.iload X0.here hx rfl (hb hby d1_89) rfl ?_
      show Steps p.tables e below (T.setTop (mkF m 91 #[.val (.ref a1), .val (.int p2), .val (.long p3), .second, .val (.long z), .second, .val (.int w)] [(.int w), (.ref a1)])) _
      refine XS.iinc X0.here hx rfl (hb hby d1_91) rfl (l' := #[.val (.ref a1), .val (.int p2), .val (.long p3), .second, .val (.long z), .second, .val (.int (w + (1 : Int32)))]) rfl ?_
      show Steps p.tables e below (T.setTop (mkF m 94 #[.val (.ref a1), .val (.int p2), .val (.long p3), .second, .val (.long z), .second, .val (.int (w + (1 : Int32)))] [(.int w), (.ref a1)])) _
      refine XS.lload X0.here hx rfl (hb hby d1_94) rfl ?_
      show Steps p.tables e below (T.setTop (mkF m 96 #[.val (.ref a1), .val (.int p2), .val (.long p3), .second, .val (.long z), .second, .val (.int (w + (1 : Int32)))] [(.long z), (.int w), (.ref a1)])) _
      refine X0.ldc2Long hx hown (mvT hZ (hw _ (List.mem_of_getElem? (i := 20) rfl))) (g := (mkF m 96 #[.val (.ref a1), .val (.int p2), .val (.long p3), .second, .val (.long z), .second, .val (.int (w + (1 : Int32)))] [(.long z), (.int w), (.ref a1)])) rfl (hb hby d1_96) _ ?_
      show Steps p.tables e below (T.setTop (mkF m 99 #[.val (.ref a1), .val (.int p2), .val (.long p3), .second, .val (.long z), .second, .val (.int (w + (1 : Int32)))] [(.long (127 : Int64)), (.long z), (.int w), (.ref a1)])) _
      refine XS.land X0.here hx rfl (hb hby d1_99) rfl ?_
      show Steps p.tables e below (T.setTop (mkF m 100 #[.val (.ref a1), .val (.int p2), .val (.long p3), .second, .val (.long z), .second, .val (.int (w + (1 : Int32)))] [(.long (z &&& (127 : Int64))), (.int w), (.ref a1)])) _
      refine X0.ldc2Long hx hown (mvT hZ (hw _ (List.mem_of_getElem? (i := 21) rfl))) (g := (mkF m 100 #[.val (.ref a1), .val (.int p2), .val (.long p3), .second, .val (.long z), .second, .val (.int (w + (1 : Int32)))] [(.long (z &&& (127 : Int64))), (.int w), (.ref a1)])) rfl (hb hby d1_100) _ ?_
      show Steps p.tables e below (T.setTop (mkF m 103 #[.val (.ref a1), .val (.int p2), .val (.long p3), .second, .val (.long z), .second, .val (.int (w + (1 : Int32)))] [(.long (128 : Int64)), (.long (z &&& (127 : Int64))), (.int w), (.ref a1)])) _
      refine XS.lor X0.here hx rfl (hb hby d1_103) rfl ?_
      show Steps p.tables e below (T.setTop (mkF m 104 #[.val (.ref a1), .val (.int p2), .val (.long p3), .second, .val (.long z), .second, .val (.int (w + (1 : Int32)))] [(.long ((z &&& (127 : Int64)) ||| (128 : Int64))), (.int w), (.ref a1)])) _
      refine XS.l2i X0.here hx rfl (hb hby d1_104) rfl ?_
      show Steps p.tables e below (T.setTop (mkF m 105 #[.val (.ref a1), .val (.int p2), .val (.long p3), .second, .val (.long z), .second, .val (.int (w + (1 : Int32)))] [(.int (((z &&& (127 : Int64)) ||| (128 : Int64)).toInt32)), (.int w), (.ref a1)])) _
      refine XS.i2b X0.here hx rfl (hb hby d1_105) rfl ?_
      exact k)
    obtain ⟨T2, h2, X2, e2, W2, st2⟩ := stB X0 hx hZ e0 Ar0 (j := w) (own_in S0 hwi (by omega)) (g := (mkF m 106 #[.val (.ref a1), .val (.int p2), .val (.long p3), .second, .val (.long z), .second, .val (.int (w + (1 : Int32)))] [(.int ((((z &&& (127 : Int64)) ||| (128 : Int64)).toInt32).toInt8.toInt32)), (.int w), (.ref a1)])) rfl rfl (hb hby d1_106)
    have C2 : Go p e below T2 (mkF m 107 #[.val (.ref a1), .val (.int p2), .val (.long p3), .second, .val (.long z), .second, .val (.int (w + (1 : Int32)))] []) T (mkF m 77 #[.val (.ref a1), .val (.int p2), .val (.long p3), .second, .val (.long z), .second, .val (.int w)] []) := fun t k => C1 t (st2 t k)
    have V2 := Arv.set Ar0 q0 S0 M0 H0 G0 (fits_nar_byte _) W2 (a + i) (own_idx hwi) (by rw [hP.1]; omega)
    have hy := own_byte2 z
    have P2 := own_P_set hP (nar .byte (((z &&& (127 : Int64)) ||| (128 : Int64)).toInt32.toInt8.toInt32)) (by rw [hy]; unfold own_W; rw [if_pos (by omega), ← hz]) (by omega)
    have C3 : Go p e below T2 (mkF m 77 #[.val (.ref a1), .val (.int p2), .val (.long p3), .second, .val (.long ((z.toUInt64 >>> ((7 : Int32) &&& 0x3f).toInt64.toUInt64).toInt64)), .second, .val (.int (w + (1 : Int32)))] []) T (mkF m 77 #[.val (.ref a1), .val (.int p2), .val (.long p3), .second, .val (.long z), .second, .val (.int w)] []) := fun t k => C2 t (by
      refine XS.lload X2.here hx rfl (hb hby d1_107) rfl ?_
      show Steps p.tables e below (T2.setTop (mkF m 109 #[.val (.ref a1), .val (.int p2), .val (.long p3), .second, .val (.long z), .second, .val (.int (w + (1 : Int32)))] [(.long z)])) _
      refine XS.bipush X2.here hx rfl (hb hby d1_109) ?_
      show Steps p.tables e below (T2.setTop (mkF m 111 #[.val (.ref a1), .val (.int p2), .val (.long p3), .second, .val (.long z), .second, .val (.int (w + (1 : Int32)))] [(.int (7 : Int32)), (.long z)])) _
      refine XS.lushr X2.here hx rfl (hb hby d1_111) rfl ?_
      show Steps p.tables e below (T2.setTop (mkF m 112 #[.val (.ref a1), .val (.int p2), .val (.long p3), .second, .val (.long z), .second, .val (.int (w + (1 : Int32)))] [(.long ((z.toUInt64 >>> ((7 : Int32) &&& 0x3f).toInt64.toUInt64).toInt64))])) _
      refine XS.lstore X2.here hx rfl (hb hby d1_112) rfl (l' := #[.val (.ref a1), .val (.int p2), .val (.long p3), .second, .val (.long ((z.toUInt64 >>> ((7 : Int32) &&& 0x3f).toInt64.toUInt64).toInt64)), .second, .val (.int (w + (1 : Int32)))]) rfl ?_
      show Steps p.tables e below (T2.setTop (mkF m 114 #[.val (.ref a1), .val (.int p2), .val (.long p3), .second, .val (.long ((z.toUInt64 >>> ((7 : Int32) &&& 0x3f).toInt64.toUInt64).toInt64)), .second, .val (.int (w + (1 : Int32)))] [])) _
      refine XS.goto X2.here hx rfl (pc0 := 114) (pc' := 77) rfl (hb hby d1_114) (by decide) (by decide) ?_
      exact k)
    obtain ⟨T', h', l', z', w', vs', X', e', N', hw', P', V', K', C'⟩ := ih (i + 1) _ _ _ _ _ _ (by omega) X2 e2 (Fr.snoc X2 N0 ga) ((own_shr7 z).trans (by rw [own_gs, hz])) (own_up (i := a + i) hwi (by omega)) P2 V2 hh (KK.wr W2 (Or.inl (List.mem_of_getElem? (i := 0) rfl)))
    exact ⟨T', h', l', z', w', vs', X', e', N', hw', P', V', K', fun t k => C3 t (C' t k)⟩
theorem pn_1 : plainName "com/example/tidelog/tidelog/Varints" = true := by first | (simp [plainName, overriddenIn]; done) | decide +kernel
theorem pd_1 : parseMethodDescriptor "([BIJ)I" = some ⟨[(.array .byte), .int, .long], some .int⟩ := by decide +kernel
theorem ef_1 (m : MethodId) (x0 : Addr) (x1 : Int32) (x2 : Int64) : entryFrame m #[(.ref x0), (.int x1), (.long x2)] 7 = mkF m 0 #[.val (.ref x0), .val (.int x1), .val (.long x2), .second, .unset, .unset, .unset] [] := by first | (simp [entryFrame, mkF, argsToLocals, Value.category]; done) | rfl
def Q1 (Z : State) (a1 : Addr) (p2 : Int32) (p3 : Int64) (k0 : ClassId) (s0 : Int32) (vs : List Value) (n a : Nat) (h0 : Heap) (n0 : Nat) (v : Option Value) (h : Heap) (L : List Loc) : Prop := ∃ (r : Int32) (vs' : List Value), v = some (.int r) ∧ Fr n0 L ∧ Keep h0 h [a1] ∧ r.toInt = (a + n : Nat) ∧ own_P s0 (own_u (own_zz p3)) n a n vs' ∧ Arv Z h a1 k0 .byte 12 vs' (.int 0)
set_option maxRecDepth 65536 in
set_option maxHeartbeats 40000000 in
theorem rm1 (l : Launch) (Z : State) (a0 : Array Value) (hw : ∀ d ∈ tables_1, d.before a0 Z = true) (ws : List Jvm.Cond) (a1 : Addr) (p2 : Int32) (p3 : Int64) (k0 : ClassId) (s0 : Int32) (vs : List Value) (n a : Nat) (h0 : Heap) (n0 : Nat) (Z0 : n0 ≤ h0.size) (V0 : Arv Z h0 a1 k0 .byte 12 vs (.int 0)) (ga : n0 ≤ a1) (hp : p2.toInt = a) (ha : a ≤ 2) (hn1 : 1 ≤ n) (hn10 : n ≤ 10) (hn : ∀ i, own_g (own_u (own_zz p3)) (i + 1) = 0 ↔ n ≤ i + 1) (hP : own_P s0 (own_u (own_zz p3)) n a 0 vs) :
    MetFree l (⟨"com/example/tidelog/tidelog/Varints", "putVarlong", "([BIJ)I"⟩ : MethodName) (head1 (Jvm.Cond.code (⟨"com/example/tidelog/tidelog/Varints", "putVarlong", "([BIJ)I"⟩ : MethodName) prog_41_method_5_code 7 (some .int) :: ws) ({ frames := 1, cells := 0, slots := 0, locals := 13 } : Room)) (fun a U => a = #[(.ref a1), (.int p2), (.long p3)] ∧ Z.Warmed39 U.vm ∧ U.heap = h0) (fun _ _ _ _ _ => True) (fun _ U o U' => ∃ v L, o = .returned v ∧ Q1 Z a1 p2 p3 k0 s0 vs n a h0 n0 v U'.heap L ∧ FrameEnd U o U' L ({ frames := 1, cells := 0, slots := 0, locals := 13 } : Room).cells ({ frames := 1, cells := 0, slots := 0, locals := 13 } : Room).slots) := by
  refine MetFree.of_bodySF (plainFor_of_name pn_1) hisR ?_
  intro p e s m args below meth c s₁ Bd hml0 hP hK
  obtain ⟨rfl, hZ, hh⟩ := hP
  have hx := Bd.exec
  have hby := Bd.bytes
  have hml : c.maxLocals = 7 := hml0
  have hown : s.vm.findClass "com/example/tidelog/tidelog/Varints" = some m.cls := findClass_of_methodNamed Bd.named
  have hnm := (name_of_methodNamed Bd.named Bd.method).1
  have X0 : Stand p l e ({ frames := 1, cells := 0, slots := 0, locals := 13 } : Room) s m #[(.ref a1), (.int p2), (.long p3)] below meth c s₁ [] 0 0 := Stand.of_body Bd
  have e0 : s₁.heap = h0 := by rw [← hh, Bd.state]; rfl
  have N0 := Fr.nil n0
  obtain ⟨F0, hF0⟩ : ∃ F0, F0 = entryFrame m #[(.ref a1), (.int p2), (.long p3)] 7 := ⟨_, rfl⟩
  have C0 : Go p e below s₁ (mkF m 0 #[.val (.ref a1), .val (.int p2), .val (.long p3), .second, .unset, .unset, .unset] []) s₁ F0 := fun t k => by rw [hF0]; exact castTop (ef_1 m a1 p2 p3) k
  have pre0 : ∀ t, Steps p.tables e below (s₁.setTop F0) t → Steps p.tables e below (s₁.setTop (entryFrame m #[(.ref a1), (.int p2), (.long p3)] 7)) t := fun t k => by rw [← hF0]; exact k
  have C1 : Go p e below s₁ (mkF m 1 #[.val (.ref a1), .val (.int p2), .val (.long p3), .second, .unset, .unset, .unset] [(.long p3)]) s₁ F0 := fun t k => C0 t (by
    refine XS.lloadN X0.here hx rfl (hb hby d1_0) rfl ?_
    exact k)
  obtain ⟨_, _, ⟨T2, L2, k2, n2⟩, -, X2, ⟨Lc2, hQ2, l2, y2, z2⟩, st2⟩ := Jvm.LawKit.callS X0 hx (y := (⟨"com/example/tidelog/tidelog/Varints", "zigZag", "(J)J"⟩ : MethodName)) hown (mvT hZ (hw _ (List.mem_of_getElem? (i := 6) rfl))) (mvT hZ (hw _ (List.mem_of_getElem? (i := 7) rfl))) (mvT hZ (hw _ (List.mem_of_getElem? (i := 4) rfl))) (mvT hZ (hw _ (List.mem_of_getElem? (i := 8) rfl))) (by decide) (backOf (W := 0) (rm2 l Z a0 hw [] p3 h0 n0 Z0) hZ (hw _ (List.mem_of_getElem? (i := 8) rfl)) (hw _ (List.mem_of_getElem? (i := 4) rfl)) (by decide) (by decide)) (g := (mkF m 1 #[.val (.ref a1), .val (.int p2), .val (.long p3), .second, .unset, .unset, .unset] [(.long p3)])) rfl (by rw [hml]; rfl) (argsL := [(.long p3)]) (rest := []) (lenOf pd_2 rfl) rfl (by show 2 * 0 + _ ≤ _; exact Nat.le_of_eq rfl) (hb hby d1_1) (fun _ _ => ⟨rfl, e0, (by decide : 0 + 0 ≤ _), (by decide : 0 + 0 ≤ _)⟩)
  dsimp only [Pt.U, Pt.locs, Pt.cells, Pt.slots] at X2 l2 y2 z2 st2 hQ2
  subst l2 y2 z2
  obtain ⟨rfl, N2q, eh2⟩ := hQ2
  have C2 : Go p e below T2 (mkF m 4 #[.val (.ref a1), .val (.int p2), .val (.long p3), .second, .unset, .unset, .unset] [(.long (own_zz p3))]) s₁ F0 := fun t k => C1 t (st2 t k)
  have N2 := Fr.app N0 N2q
  obtain ⟨z, hz⟩ : ∃ z, z = own_zz p3 := ⟨_, rfl⟩
  rw [← hz] at hn hP
  have C2z : Go p e below T2 (mkF m 4 #[.val (.ref a1), .val (.int p2), .val (.long p3), .second, .unset, .unset, .unset] [(.long z)]) s₁ F0 := by rw [hz]; exact C2
  have C3 : Go p e below T2 (mkF m 9 #[.val (.ref a1), .val (.int p2), .val (.long p3), .second, .val (.long z), .second, .val (.int p2)] []) s₁ F0 := fun t k => C2z t (by
    refine XS.lstore X2.here hx rfl (hb hby d1_4) rfl (l' := #[.val (.ref a1), .val (.int p2), .val (.long p3), .second, .val (.long z), .second, .unset]) rfl ?_
    show Steps p.tables e below (T2.setTop (mkF m 6 #[.val (.ref a1), .val (.int p2), .val (.long p3), .second, .val (.long z), .second, .unset] [])) _
    refine XS.iloadN X2.here hx rfl (hb hby d1_6) rfl ?_
    show Steps p.tables e below (T2.setTop (mkF m 7 #[.val (.ref a1), .val (.int p2), .val (.long p3), .second, .val (.long z), .second, .unset] [(.int p2)])) _
    refine XS.istore X2.here hx rfl (hb hby d1_7) rfl (l' := #[.val (.ref a1), .val (.int p2), .val (.long p3), .second, .val (.long z), .second, .val (.int p2)]) rfl ?_
    exact k)
  have LS0 : Stand p l e ({ frames := 1, cells := 0, slots := 0, locals := 13 } : Room) s m #[(.ref a1), (.int p2), (.long p3)] below meth c T2 _ 0 0 := X2
  obtain ⟨TJ, hJ, lJ, zJ, wJ, vJ, XJ, eJ, NJ, hwJ, PJ, VJ, KJ, CJ⟩ : ∃ (T' : State) (h' : Heap) (ls : List Loc) (z' : Int64) (w' : Int32) (vs' : List Value), Stand p l e ({ frames := 1, cells := 0, slots := 0, locals := 13 } : Room) s m #[(.ref a1), (.int p2), (.long p3)] below meth c T' ls 0 0 ∧ T'.heap = h' ∧ Fr n0 ls ∧ w'.toInt = (a + n : Nat) ∧ own_P s0 (own_u z) n a n vs' ∧ Arv Z h' a1 k0 .byte 12 vs' (.int 0) ∧ Keep h0 h' [a1] ∧ Go p e below T' (mkF m 128 #[.val (.ref a1), .val (.int p2), .val (.long p3), .second, .val (.long z'), .second, .val (.int w')] []) s₁ F0 := by
    have g0 := own_g0 (own_u z)
    have g1 := own_gs (own_u z) 0
    have g2 := own_gs (own_u z) 1
    by_cases c1 : own_u z < 128
    · have hn' : n = 1 := by
        have := (hn 0).mp (by rw [g1, g0]; omega)
        omega
      subst hn'
      obtain ⟨cl0, Ar0, q0, S0, M0, H0, G0⟩ := V0
      have C4 : Go p e below T2 (mkF m 30 #[.val (.ref a1), .val (.int p2), .val (.long p3), .second, .val (.long z), .second, .val (.int (p2 + (1 : Int32)))] [(.int ((z.toInt32).toInt8.toInt32)), (.int p2), (.ref a1)]) s₁ F0 := fun t k => C3 t (by
        refine XS.lload LS0.here hx rfl (hb hby d1_9) rfl ?_
        show Steps p.tables e below (T2.setTop (mkF m 11 #[.val (.ref a1), .val (.int p2), .val (.long p3), .second, .val (.long z), .second, .val (.int p2)] [(.long z)])) _
        refine LS0.ldc2Long hx hown (mvT hZ (hw _ (List.mem_of_getElem? (i := 9) rfl))) (g := (mkF m 11 #[.val (.ref a1), .val (.int p2), .val (.long p3), .second, .val (.long z), .second, .val (.int p2)] [(.long z)])) rfl (hb hby d1_11) _ ?_
        show Steps p.tables e below (T2.setTop (mkF m 14 #[.val (.ref a1), .val (.int p2), .val (.long p3), .second, .val (.long z), .second, .val (.int p2)] [(.long (-128 : Int64)), (.long z)])) _
        refine XS.land LS0.here hx rfl (hb hby d1_14) rfl ?_
        show Steps p.tables e below (T2.setTop (mkF m 15 #[.val (.ref a1), .val (.int p2), .val (.long p3), .second, .val (.long z), .second, .val (.int p2)] [(.long (z &&& (-128 : Int64)))])) _
        refine XS.lconst LS0.here hx rfl (hb hby d1_15) ?_
        show Steps p.tables e below (T2.setTop (mkF m 16 #[.val (.ref a1), .val (.int p2), .val (.long p3), .second, .val (.long z), .second, .val (.int p2)] [(.long (0 : Int64)), (.long (z &&& (-128 : Int64)))])) _
        refine XS.lcmp LS0.here hx rfl (hb hby d1_16) rfl ?_
        show Steps p.tables e below (T2.setTop (mkF m 17 #[.val (.ref a1), .val (.int p2), .val (.long p3), .second, .val (.long z), .second, .val (.int p2)] [(.int (lcmpW (z &&& (-128 : Int64)) (0 : Int64)))])) _
        refine XS.ifNo LS0.here hx rfl (hb hby d1_17) rfl ((if0 _ _).trans (teq ((lw_eq _ _).mpr ((own_m7 z).mpr c1))).2) ?_
        show Steps p.tables e below (T2.setTop (mkF m 20 #[.val (.ref a1), .val (.int p2), .val (.long p3), .second, .val (.long z), .second, .val (.int p2)] [])) _
        refine XS.aloadN LS0.here hx rfl (hb hby d1_20) rfl rfl ?_
        show Steps p.tables e below (T2.setTop (mkF m 21 #[.val (.ref a1), .val (.int p2), .val (.long p3), .second, .val (.long z), .second, .val (.int p2)] [(.ref a1)])) _
        refine XS.iload LS0.here hx rfl (hb hby d1_21) rfl ?_
        show Steps p.tables e below (T2.setTop (mkF m 23 #[.val (.ref a1), .val (.int p2), .val (.long p3), .second, .val (.long z), .second, .val (.int p2)] [(.int p2), (.ref a1)])) _
        refine XS.iinc LS0.here hx rfl (hb hby d1_23) rfl (l' := #[.val (.ref a1), .val (.int p2), .val (.long p3), .second, .val (.long z), .second, .val (.int (p2 + (1 : Int32)))]) rfl ?_
        show Steps p.tables e below (T2.setTop (mkF m 26 #[.val (.ref a1), .val (.int p2), .val (.long p3), .second, .val (.long z), .second, .val (.int (p2 + (1 : Int32)))] [(.int p2), (.ref a1)])) _
        refine XS.lload LS0.here hx rfl (hb hby d1_26) rfl ?_
        show Steps p.tables e below (T2.setTop (mkF m 28 #[.val (.ref a1), .val (.int p2), .val (.long p3), .second, .val (.long z), .second, .val (.int (p2 + (1 : Int32)))] [(.long z), (.int p2), (.ref a1)])) _
        refine XS.l2i LS0.here hx rfl (hb hby d1_28) rfl ?_
        show Steps p.tables e below (T2.setTop (mkF m 29 #[.val (.ref a1), .val (.int p2), .val (.long p3), .second, .val (.long z), .second, .val (.int (p2 + (1 : Int32)))] [(.int (z.toInt32)), (.int p2), (.ref a1)])) _
        refine XS.i2b LS0.here hx rfl (hb hby d1_29) rfl ?_
        exact k)
      obtain ⟨T5, h5, X5, e5, W5, st5⟩ := stB LS0 hx hZ eh2 Ar0 (j := p2) (own_in S0 hp (by omega)) (g := (mkF m 30 #[.val (.ref a1), .val (.int p2), .val (.long p3), .second, .val (.long z), .second, .val (.int (p2 + (1 : Int32)))] [(.int ((z.toInt32).toInt8.toInt32)), (.int p2), (.ref a1)])) rfl rfl (hb hby d1_30)
      have C5 : Go p e below T5 (mkF m 31 #[.val (.ref a1), .val (.int p2), .val (.long p3), .second, .val (.long z), .second, .val (.int (p2 + (1 : Int32)))] []) s₁ F0 := fun t k => C4 t (st5 t k)
      have V5 := Arv.set Ar0 q0 S0 M0 H0 G0 (fits_nar_byte _) W5 (a + 0) (own_idx hp) (by rw [hP.1]; omega)
      have hy := own_byte1 z
      have P5 := own_P_set hP (nar .byte (z.toInt32.toInt8.toInt32)) (by rw [hy]; unfold own_W; rw [if_neg (by omega), g0]; omega) (by omega)
      have C6 : Go p e below T5 (mkF m 128 #[.val (.ref a1), .val (.int p2), .val (.long p3), .second, .val (.long z), .second, .val (.int (p2 + (1 : Int32)))] []) s₁ F0 := fun t k => C5 t (by
        refine XS.goto X5.here hx rfl (pc0 := 31) (pc' := 128) rfl (hb hby d1_31) (by decide) (by decide) ?_
        exact k)
      exact ⟨_, _, _, _, _, _, X5, e5, Fr.snoc X5 N2 ga, own_up hp (by omega), P5, V5, (Keep.refl h0 [a1]).wr W5 (Or.inl (List.mem_of_getElem? (i := 0) rfl)), C6⟩
    · by_cases c2 : own_u z < 16384
      · have hn' : n = 2 := by
          have q1 := (hn 1).mp (by rw [g2, g1, g0]; omega)
          have q2 : ¬ n ≤ 0 + 1 := fun q => c1 (by have := (hn 0).mpr q; rw [g1, g0] at this; omega)
          omega
        subst hn'
        obtain ⟨cl0, Ar0, q0, S0, M0, H0, G0⟩ := V0
        have C7 : Go p e below T2 (mkF m 59 #[.val (.ref a1), .val (.int p2), .val (.long p3), .second, .val (.long z), .second, .val (.int (p2 + (1 : Int32)))] [(.int (((z ||| (128 : Int64)).toInt32).toInt8.toInt32)), (.int p2), (.ref a1)]) s₁ F0 := fun t k => C3 t (by
          refine XS.lload LS0.here hx rfl (hb hby d1_9) rfl ?_
          show Steps p.tables e below (T2.setTop (mkF m 11 #[.val (.ref a1), .val (.int p2), .val (.long p3), .second, .val (.long z), .second, .val (.int p2)] [(.long z)])) _
          refine LS0.ldc2Long hx hown (mvT hZ (hw _ (List.mem_of_getElem? (i := 9) rfl))) (g := (mkF m 11 #[.val (.ref a1), .val (.int p2), .val (.long p3), .second, .val (.long z), .second, .val (.int p2)] [(.long z)])) rfl (hb hby d1_11) _ ?_
          show Steps p.tables e below (T2.setTop (mkF m 14 #[.val (.ref a1), .val (.int p2), .val (.long p3), .second, .val (.long z), .second, .val (.int p2)] [(.long (-128 : Int64)), (.long z)])) _
          refine XS.land LS0.here hx rfl (hb hby d1_14) rfl ?_
          show Steps p.tables e below (T2.setTop (mkF m 15 #[.val (.ref a1), .val (.int p2), .val (.long p3), .second, .val (.long z), .second, .val (.int p2)] [(.long (z &&& (-128 : Int64)))])) _
          refine XS.lconst LS0.here hx rfl (hb hby d1_15) ?_
          show Steps p.tables e below (T2.setTop (mkF m 16 #[.val (.ref a1), .val (.int p2), .val (.long p3), .second, .val (.long z), .second, .val (.int p2)] [(.long (0 : Int64)), (.long (z &&& (-128 : Int64)))])) _
          refine XS.lcmp LS0.here hx rfl (hb hby d1_16) rfl ?_
          show Steps p.tables e below (T2.setTop (mkF m 17 #[.val (.ref a1), .val (.int p2), .val (.long p3), .second, .val (.long z), .second, .val (.int p2)] [(.int (lcmpW (z &&& (-128 : Int64)) (0 : Int64)))])) _
          refine XS.ifYes LS0.here hx rfl (pc0 := 17) (pc' := 34) rfl (hb hby d1_17) rfl ((if0 _ _).trans (feq (fun q => c1 ((own_m7 z).mp ((lw_eq _ _).mp q)))).2) (by decide) (by decide) ?_
          show Steps p.tables e below (T2.setTop (mkF m 34 #[.val (.ref a1), .val (.int p2), .val (.long p3), .second, .val (.long z), .second, .val (.int p2)] [])) _
          refine XS.lload LS0.here hx rfl (hb hby d1_34) rfl ?_
          show Steps p.tables e below (T2.setTop (mkF m 36 #[.val (.ref a1), .val (.int p2), .val (.long p3), .second, .val (.long z), .second, .val (.int p2)] [(.long z)])) _
          refine LS0.ldc2Long hx hown (mvT hZ (hw _ (List.mem_of_getElem? (i := 19) rfl))) (g := (mkF m 36 #[.val (.ref a1), .val (.int p2), .val (.long p3), .second, .val (.long z), .second, .val (.int p2)] [(.long z)])) rfl (hb hby d1_36) _ ?_
          show Steps p.tables e below (T2.setTop (mkF m 39 #[.val (.ref a1), .val (.int p2), .val (.long p3), .second, .val (.long z), .second, .val (.int p2)] [(.long (-16384 : Int64)), (.long z)])) _
          refine XS.land LS0.here hx rfl (hb hby d1_39) rfl ?_
          show Steps p.tables e below (T2.setTop (mkF m 40 #[.val (.ref a1), .val (.int p2), .val (.long p3), .second, .val (.long z), .second, .val (.int p2)] [(.long (z &&& (-16384 : Int64)))])) _
          refine XS.lconst LS0.here hx rfl (hb hby d1_40) ?_
          show Steps p.tables e below (T2.setTop (mkF m 41 #[.val (.ref a1), .val (.int p2), .val (.long p3), .second, .val (.long z), .second, .val (.int p2)] [(.long (0 : Int64)), (.long (z &&& (-16384 : Int64)))])) _
          refine XS.lcmp LS0.here hx rfl (hb hby d1_41) rfl ?_
          show Steps p.tables e below (T2.setTop (mkF m 42 #[.val (.ref a1), .val (.int p2), .val (.long p3), .second, .val (.long z), .second, .val (.int p2)] [(.int (lcmpW (z &&& (-16384 : Int64)) (0 : Int64)))])) _
          refine XS.ifNo LS0.here hx rfl (hb hby d1_42) rfl ((if0 _ _).trans (teq ((lw_eq _ _).mpr ((own_m14 z).mpr c2))).2) ?_
          show Steps p.tables e below (T2.setTop (mkF m 45 #[.val (.ref a1), .val (.int p2), .val (.long p3), .second, .val (.long z), .second, .val (.int p2)] [])) _
          refine XS.aloadN LS0.here hx rfl (hb hby d1_45) rfl rfl ?_
          show Steps p.tables e below (T2.setTop (mkF m 46 #[.val (.ref a1), .val (.int p2), .val (.long p3), .second, .val (.long z), .second, .val (.int p2)] [(.ref a1)])) _
          refine XS.iload LS0.here hx rfl (hb hby d1_46) rfl ?_
          show Steps p.tables e below (T2.setTop (mkF m 48 #[.val (.ref a1), .val (.int p2), .val (.long p3), .second, .val (.long z), .second, .val (.int p2)] [(.int p2), (.ref a1)])) _
          refine XS.iinc LS0.here hx rfl (hb hby d1_48) rfl (l' := #[.val (.ref a1), .val (.int p2), .val (.long p3), .second, .val (.long z), .second, .val (.int (p2 + (1 : Int32)))]) rfl ?_
          show Steps p.tables e below (T2.setTop (mkF m 51 #[.val (.ref a1), .val (.int p2), .val (.long p3), .second, .val (.long z), .second, .val (.int (p2 + (1 : Int32)))] [(.int p2), (.ref a1)])) _
          refine XS.lload LS0.here hx rfl (hb hby d1_51) rfl ?_
          show Steps p.tables e below (T2.setTop (mkF m 53 #[.val (.ref a1), .val (.int p2), .val (.long p3), .second, .val (.long z), .second, .val (.int (p2 + (1 : Int32)))] [(.long z), (.int p2), (.ref a1)])) _
          refine LS0.ldc2Long hx hown (mvT hZ (hw _ (List.mem_of_getElem? (i := 21) rfl))) (g := (mkF m 53 #[.val (.ref a1), .val (.int p2), .val (.long p3), .second, .val (.long z), .second, .val (.int (p2 + (1 : Int32)))] [(.long z), (.int p2), (.ref a1)])) rfl (hb hby d1_53) _ ?_
          show Steps p.tables e below (T2.setTop (mkF m 56 #[.val (.ref a1), .val (.int p2), .val (.long p3), .second, .val (.long z), .second, .val (.int (p2 + (1 : Int32)))] [(.long (128 : Int64)), (.long z), (.int p2), (.ref a1)])) _
          refine XS.lor LS0.here hx rfl (hb hby d1_56) rfl ?_
          show Steps p.tables e below (T2.setTop (mkF m 57 #[.val (.ref a1), .val (.int p2), .val (.long p3), .second, .val (.long z), .second, .val (.int (p2 + (1 : Int32)))] [(.long (z ||| (128 : Int64))), (.int p2), (.ref a1)])) _
          refine XS.l2i LS0.here hx rfl (hb hby d1_57) rfl ?_
          show Steps p.tables e below (T2.setTop (mkF m 58 #[.val (.ref a1), .val (.int p2), .val (.long p3), .second, .val (.long z), .second, .val (.int (p2 + (1 : Int32)))] [(.int ((z ||| (128 : Int64)).toInt32)), (.int p2), (.ref a1)])) _
          refine XS.i2b LS0.here hx rfl (hb hby d1_58) rfl ?_
          exact k)
        obtain ⟨T8, h8, X8, e8, W8, st8⟩ := stB LS0 hx hZ eh2 Ar0 (j := p2) (own_in S0 hp (by omega)) (g := (mkF m 59 #[.val (.ref a1), .val (.int p2), .val (.long p3), .second, .val (.long z), .second, .val (.int (p2 + (1 : Int32)))] [(.int (((z ||| (128 : Int64)).toInt32).toInt8.toInt32)), (.int p2), (.ref a1)])) rfl rfl (hb hby d1_59)
        have C8 : Go p e below T8 (mkF m 60 #[.val (.ref a1), .val (.int p2), .val (.long p3), .second, .val (.long z), .second, .val (.int (p2 + (1 : Int32)))] []) s₁ F0 := fun t k => C7 t (st8 t k)
        have V8 := Arv.set Ar0 q0 S0 M0 H0 G0 (fits_nar_byte _) W8 (a + 0) (own_idx hp) (by rw [hP.1]; omega)
        have hy := own_byte3 z
        have P8 := own_P_set hP (nar .byte ((z ||| (128 : Int64)).toInt32.toInt8.toInt32)) (by rw [hy]; unfold own_W; rw [if_pos (by omega), g0]) (by omega)
        obtain ⟨cl1, Ar1, q1, S1, M1, H1, G1⟩ := V8
        have hp1 := own_up hp (by omega)
        have KJ := (Keep.refl h0 [a1]).wr W8 (Or.inl (List.mem_of_getElem? (i := 0) rfl))
        have C9 : Go p e below T8 (mkF m 73 #[.val (.ref a1), .val (.int p2), .val (.long p3), .second, .val (.long z), .second, .val (.int ((p2 + (1 : Int32)) + (1 : Int32)))] [(.int ((((z.toUInt64 >>> ((7 : Int32) &&& 0x3f).toInt64.toUInt64).toInt64).toInt32).toInt8.toInt32)), (.int (p2 + (1 : Int32))), (.ref a1)]) s₁ F0 := fun t k => C8 t (by
          refine XS.aloadN X8.here hx rfl (hb hby d1_60) rfl rfl ?_
          show Steps p.tables e below (T8.setTop (mkF m 61 #[.val (.ref a1), .val (.int p2), .val (.long p3), .second, .val (.long z), .second, .val (.int (p2 + (1 : Int32)))] [(.ref a1)])) _
          refine XS.iload X8.here hx rfl (hb hby d1_61) rfl ?_
          show Steps p.tables e below (T8.setTop (mkF m 63 #[.val (.ref a1), .val (.int p2), .val (.long p3), .second, .val (.long z), .second, .val (.int (p2 + (1 : Int32)))] [(.int (p2 + (1 : Int32))), (.ref a1)])) _
          refine XS.iinc X8.here hx rfl (hb hby d1_63) rfl (l' := #[.val (.ref a1), .val (.int p2), .val (.long p3), .second, .val (.long z), .second, .val (.int ((p2 + (1 : Int32)) + (1 : Int32)))]) rfl ?_
          show Steps p.tables e below (T8.setTop (mkF m 66 #[.val (.ref a1), .val (.int p2), .val (.long p3), .second, .val (.long z), .second, .val (.int ((p2 + (1 : Int32)) + (1 : Int32)))] [(.int (p2 + (1 : Int32))), (.ref a1)])) _
          refine XS.lload X8.here hx rfl (hb hby d1_66) rfl ?_
          show Steps p.tables e below (T8.setTop (mkF m 68 #[.val (.ref a1), .val (.int p2), .val (.long p3), .second, .val (.long z), .second, .val (.int ((p2 + (1 : Int32)) + (1 : Int32)))] [(.long z), (.int (p2 + (1 : Int32))), (.ref a1)])) _
          refine XS.bipush X8.here hx rfl (hb hby d1_68) ?_
          show Steps p.tables e below (T8.setTop (mkF m 70 #[.val (.ref a1), .val (.int p2), .val (.long p3), .second, .val (.long z), .second, .val (.int ((p2 + (1 : Int32)) + (1 : Int32)))] [(.int (7 : Int32)), (.long z), (.int (p2 + (1 : Int32))), (.ref a1)])) _
          refine XS.lushr X8.here hx rfl (hb hby d1_70) rfl ?_
          show Steps p.tables e below (T8.setTop (mkF m 71 #[.val (.ref a1), .val (.int p2), .val (.long p3), .second, .val (.long z), .second, .val (.int ((p2 + (1 : Int32)) + (1 : Int32)))] [(.long ((z.toUInt64 >>> ((7 : Int32) &&& 0x3f).toInt64.toUInt64).toInt64)), (.int (p2 + (1 : Int32))), (.ref a1)])) _
          refine XS.l2i X8.here hx rfl (hb hby d1_71) rfl ?_
          show Steps p.tables e below (T8.setTop (mkF m 72 #[.val (.ref a1), .val (.int p2), .val (.long p3), .second, .val (.long z), .second, .val (.int ((p2 + (1 : Int32)) + (1 : Int32)))] [(.int (((z.toUInt64 >>> ((7 : Int32) &&& 0x3f).toInt64.toUInt64).toInt64).toInt32)), (.int (p2 + (1 : Int32))), (.ref a1)])) _
          refine XS.i2b X8.here hx rfl (hb hby d1_72) rfl ?_
          exact k)
        obtain ⟨T10, h10, X10, e10, W10, st10⟩ := stB X8 hx hZ e8 Ar1 (j := (p2 + (1 : Int32))) (own_in S1 hp1 (by omega)) (g := (mkF m 73 #[.val (.ref a1), .val (.int p2), .val (.long p3), .second, .val (.long z), .second, .val (.int ((p2 + (1 : Int32)) + (1 : Int32)))] [(.int ((((z.toUInt64 >>> ((7 : Int32) &&& 0x3f).toInt64.toUInt64).toInt64).toInt32).toInt8.toInt32)), (.int (p2 + (1 : Int32))), (.ref a1)])) rfl rfl (hb hby d1_73)
        have C10 : Go p e below T10 (mkF m 74 #[.val (.ref a1), .val (.int p2), .val (.long p3), .second, .val (.long z), .second, .val (.int ((p2 + (1 : Int32)) + (1 : Int32)))] []) s₁ F0 := fun t k => C9 t (st10 t k)
        have V10 := Arv.set Ar1 q1 S1 M1 H1 G1 (fits_nar_byte _) W10 (a + 1) (own_idx hp1) (by rw [List.length_set, hP.1]; omega)
        have hy2 := own_byte1 (own_shr z 7)
        have P10 := own_P_set P8 (nar .byte ((own_shr z 7).toInt32.toInt8.toInt32)) (by rw [hy2, own_shr7]; unfold own_W; rw [if_neg (by omega), g1, g0]; omega) (by omega)
        have C11 : Go p e below T10 (mkF m 128 #[.val (.ref a1), .val (.int p2), .val (.long p3), .second, .val (.long z), .second, .val (.int ((p2 + (1 : Int32)) + (1 : Int32)))] []) s₁ F0 := fun t k => C10 t (by
          refine XS.goto X10.here hx rfl (pc0 := 74) (pc' := 128) rfl (hb hby d1_74) (by decide) (by decide) ?_
          exact k)
        exact ⟨_, _, _, _, _, _, X10, e10, Fr.snoc X10 (Fr.snoc X8 N2 ga) ga, own_up (i := a + 1) hp1 (by omega), P10, V10, KJ.wr W10 (Or.inl (List.mem_of_getElem? (i := 0) rfl)), C11⟩
      · skip
        have C12 : Go p e below T2 (mkF m 77 #[.val (.ref a1), .val (.int p2), .val (.long p3), .second, .val (.long z), .second, .val (.int p2)] []) s₁ F0 := fun t k => C3 t (by
          refine XS.lload LS0.here hx rfl (hb hby d1_9) rfl ?_
          show Steps p.tables e below (T2.setTop (mkF m 11 #[.val (.ref a1), .val (.int p2), .val (.long p3), .second, .val (.long z), .second, .val (.int p2)] [(.long z)])) _
          refine LS0.ldc2Long hx hown (mvT hZ (hw _ (List.mem_of_getElem? (i := 9) rfl))) (g := (mkF m 11 #[.val (.ref a1), .val (.int p2), .val (.long p3), .second, .val (.long z), .second, .val (.int p2)] [(.long z)])) rfl (hb hby d1_11) _ ?_
          show Steps p.tables e below (T2.setTop (mkF m 14 #[.val (.ref a1), .val (.int p2), .val (.long p3), .second, .val (.long z), .second, .val (.int p2)] [(.long (-128 : Int64)), (.long z)])) _
          refine XS.land LS0.here hx rfl (hb hby d1_14) rfl ?_
          show Steps p.tables e below (T2.setTop (mkF m 15 #[.val (.ref a1), .val (.int p2), .val (.long p3), .second, .val (.long z), .second, .val (.int p2)] [(.long (z &&& (-128 : Int64)))])) _
          refine XS.lconst LS0.here hx rfl (hb hby d1_15) ?_
          show Steps p.tables e below (T2.setTop (mkF m 16 #[.val (.ref a1), .val (.int p2), .val (.long p3), .second, .val (.long z), .second, .val (.int p2)] [(.long (0 : Int64)), (.long (z &&& (-128 : Int64)))])) _
          refine XS.lcmp LS0.here hx rfl (hb hby d1_16) rfl ?_
          show Steps p.tables e below (T2.setTop (mkF m 17 #[.val (.ref a1), .val (.int p2), .val (.long p3), .second, .val (.long z), .second, .val (.int p2)] [(.int (lcmpW (z &&& (-128 : Int64)) (0 : Int64)))])) _
          refine XS.ifYes LS0.here hx rfl (pc0 := 17) (pc' := 34) rfl (hb hby d1_17) rfl ((if0 _ _).trans (feq (fun q => c1 ((own_m7 z).mp ((lw_eq _ _).mp q)))).2) (by decide) (by decide) ?_
          show Steps p.tables e below (T2.setTop (mkF m 34 #[.val (.ref a1), .val (.int p2), .val (.long p3), .second, .val (.long z), .second, .val (.int p2)] [])) _
          refine XS.lload LS0.here hx rfl (hb hby d1_34) rfl ?_
          show Steps p.tables e below (T2.setTop (mkF m 36 #[.val (.ref a1), .val (.int p2), .val (.long p3), .second, .val (.long z), .second, .val (.int p2)] [(.long z)])) _
          refine LS0.ldc2Long hx hown (mvT hZ (hw _ (List.mem_of_getElem? (i := 19) rfl))) (g := (mkF m 36 #[.val (.ref a1), .val (.int p2), .val (.long p3), .second, .val (.long z), .second, .val (.int p2)] [(.long z)])) rfl (hb hby d1_36) _ ?_
          show Steps p.tables e below (T2.setTop (mkF m 39 #[.val (.ref a1), .val (.int p2), .val (.long p3), .second, .val (.long z), .second, .val (.int p2)] [(.long (-16384 : Int64)), (.long z)])) _
          refine XS.land LS0.here hx rfl (hb hby d1_39) rfl ?_
          show Steps p.tables e below (T2.setTop (mkF m 40 #[.val (.ref a1), .val (.int p2), .val (.long p3), .second, .val (.long z), .second, .val (.int p2)] [(.long (z &&& (-16384 : Int64)))])) _
          refine XS.lconst LS0.here hx rfl (hb hby d1_40) ?_
          show Steps p.tables e below (T2.setTop (mkF m 41 #[.val (.ref a1), .val (.int p2), .val (.long p3), .second, .val (.long z), .second, .val (.int p2)] [(.long (0 : Int64)), (.long (z &&& (-16384 : Int64)))])) _
          refine XS.lcmp LS0.here hx rfl (hb hby d1_41) rfl ?_
          show Steps p.tables e below (T2.setTop (mkF m 42 #[.val (.ref a1), .val (.int p2), .val (.long p3), .second, .val (.long z), .second, .val (.int p2)] [(.int (lcmpW (z &&& (-16384 : Int64)) (0 : Int64)))])) _
          refine XS.ifYes LS0.here hx rfl (pc0 := 42) (pc' := 77) rfl (hb hby d1_42) rfl ((if0 _ _).trans (feq (fun q => c2 ((own_m14 z).mp ((lw_eq _ _).mp q)))).2) (by decide) (by decide) ?_
          exact k)
        obtain ⟨T', h', l', z', w', vs', X', e', N', hw', P', V', K', C'⟩ := loop1 hx hZ hw hby hml hown a1 p2 p3 k0 ga s0 (own_u z) n a ha hn10 hn (n - 1) 0 _ _ _ z p2 vs (by omega) LS0 eh2 N2 g0.symm hp hP V0 h0 (Keep.refl h0 [a1])
        exact ⟨T', h', l', z', w', vs', X', e', N', hw', P', V', K', fun t k => C12 t (C' t k)⟩
  have C13 : Go p e below TJ (mkF m 130 #[.val (.ref a1), .val (.int p2), .val (.long p3), .second, .val (.long zJ), .second, .val (.int wJ)] [(.int wJ)]) s₁ F0 := fun t k => CJ t (by
    refine XS.iload XJ.here hx rfl (hb hby d1_128) rfl ?_
    exact k)
  obtain ⟨fs, hr, hrun, hended, hW, hsame⟩ := XJ.leave (v := (some (.int wJ))) (fun h => by rw [Bd.returns] at h; cases h)
  refine ⟨_, _, pre0 _ (C13 _ ?_), hrun, hended, _, _, rfl, ?_, ⟨_, rfl⟩, hW, hsame.mono (by decide) (by decide)⟩
  · exact retI XJ hx Bd.returns (hb hby d1_130) hr
  · show Q1 Z a1 p2 p3 k0 s0 vs n a h0 n0 _ TJ.heap _
    rw [eJ]
    exact ⟨_, _, rfl, NJ, KJ, hwJ, hz ▸ PJ, VJ⟩
theorem pn_0 : plainName "com/example/tidelog/tidelog/VarintsPutVarlongPinLaw" = true := by first | (simp [plainName, overriddenIn]; done) | decide +kernel
theorem pd_0 : parseMethodDescriptor "(JIII)Z" = some ⟨[.long, .int, .int, .int], some .boolean⟩ := by decide +kernel
theorem ef_0 (m : MethodId) (x0 : Int64) (x1 : Int32) (x2 : Int32) (x3 : Int32) : entryFrame m #[(.long x0), (.int x1), (.int x2), (.int x3)] maxLocals = mkF m 0 #[.val (.long x0), .second, .val (.int x1), .val (.int x2), .val (.int x3), .unset, .unset, .unset, .unset, .unset, .unset, .unset, .unset, .unset] [] := by first | (simp [entryFrame, mkF, argsToLocals, Value.category, maxLocals]; done) | rfl
def Q0 (Z : State) (p1 : Int64) (p2 p3 p4 : Int32) (h0 : Heap) (n0 : Nat) (v : Option Value) (h : Heap) (L : List Loc) : Prop := v = some (.int 1) ∧ Fr n0 L
set_option maxRecDepth 65536 in
set_option maxHeartbeats 40000000 in
theorem rm0 (l : Launch) (Z : State) (a0 : Array Value) (hw : ∀ d ∈ tables_1, d.before a0 Z = true) (ws : List Jvm.Cond) (p1 : Int64) (p2 p3 p4 : Int32) (h0 : Heap) (n0 : Nat) (Z0 : n0 ≤ h0.size)  :
    MetFree l x (head1 (Jvm.Cond.code x code maxLocals ret :: ws) room_1) (fun a U => a = #[(.long p1), (.int p2), (.int p3), (.int p4)] ∧ Z.Warmed39 U.vm ∧ U.heap = h0) (fun _ _ _ _ _ => True) (fun _ U o U' => ∃ v L, o = .returned v ∧ Q0 Z p1 p2 p3 p4 h0 n0 v U'.heap L ∧ FrameEnd U o U' L room_1.cells room_1.slots) := by
  refine MetFree.of_bodySF (plainFor_of_name pn_0) hisR ?_
  intro p e s m args below meth c s₁ Bd hml0 hP hK
  obtain ⟨rfl, hZ, hh⟩ := hP
  have hx := Bd.exec
  have hby := Bd.bytes
  have hml : c.maxLocals = 14 := hml0
  have hown : s.vm.findClass "com/example/tidelog/tidelog/VarintsPutVarlongPinLaw" = some m.cls := findClass_of_methodNamed Bd.named
  have hnm := (name_of_methodNamed Bd.named Bd.method).1
  have X0 : Stand p l e room_1 s m #[(.long p1), (.int p2), (.int p3), (.int p4)] below meth c s₁ [] 0 0 := Stand.of_body Bd
  have e0 : s₁.heap = h0 := by rw [← hh, Bd.state]; rfl
  have N0 := Fr.nil n0
  obtain ⟨F0, hF0⟩ : ∃ F0, F0 = entryFrame m #[(.long p1), (.int p2), (.int p3), (.int p4)] maxLocals := ⟨_, rfl⟩
  have C0 : Go p e below s₁ (mkF m 0 #[.val (.long p1), .second, .val (.int p2), .val (.int p3), .val (.int p4), .unset, .unset, .unset, .unset, .unset, .unset, .unset, .unset, .unset] []) s₁ F0 := fun t k => by rw [hF0]; exact castTop (ef_0 m p1 p2 p3 p4) k
  have pre0 : ∀ t, Steps p.tables e below (s₁.setTop F0) t → Steps p.tables e below (s₁.setTop (entryFrame m #[(.long p1), (.int p2), (.int p3), (.int p4)] maxLocals)) t := fun t k => by rw [← hF0]; exact k
  have C1 : Go p e below s₁ (mkF m 21 #[.val (.long p1), .second, .val (.int p2), .val (.int p3), .val (.int p4), .val (.long (p1 >>> ((p2 &&& (63 : Int32)) &&& 0x3f).toInt64)), .second, .val (.int ((p3 &&& (2147483647 : Int32)) % (3 : Int32))), .val (.int (p4.toInt8.toInt32)), .unset, .unset, .unset, .unset, .unset] []) s₁ F0 := fun t k => C0 t (by
    refine XS.lloadN X0.here hx rfl (hb hby at_0) rfl ?_
    show Steps p.tables e below (s₁.setTop (mkF m 1 #[.val (.long p1), .second, .val (.int p2), .val (.int p3), .val (.int p4), .unset, .unset, .unset, .unset, .unset, .unset, .unset, .unset, .unset] [(.long p1)])) _
    refine XS.iloadN X0.here hx rfl (hb hby at_1) rfl ?_
    show Steps p.tables e below (s₁.setTop (mkF m 2 #[.val (.long p1), .second, .val (.int p2), .val (.int p3), .val (.int p4), .unset, .unset, .unset, .unset, .unset, .unset, .unset, .unset, .unset] [(.int p2), (.long p1)])) _
    refine XS.bipush X0.here hx rfl (hb hby at_2) ?_
    show Steps p.tables e below (s₁.setTop (mkF m 4 #[.val (.long p1), .second, .val (.int p2), .val (.int p3), .val (.int p4), .unset, .unset, .unset, .unset, .unset, .unset, .unset, .unset, .unset] [(.int (63 : Int32)), (.int p2), (.long p1)])) _
    refine XS.iand X0.here hx rfl (hb hby at_4) rfl ?_
    show Steps p.tables e below (s₁.setTop (mkF m 5 #[.val (.long p1), .second, .val (.int p2), .val (.int p3), .val (.int p4), .unset, .unset, .unset, .unset, .unset, .unset, .unset, .unset, .unset] [(.int (p2 &&& (63 : Int32))), (.long p1)])) _
    refine XS.lshr X0.here hx rfl (hb hby at_5) rfl ?_
    show Steps p.tables e below (s₁.setTop (mkF m 6 #[.val (.long p1), .second, .val (.int p2), .val (.int p3), .val (.int p4), .unset, .unset, .unset, .unset, .unset, .unset, .unset, .unset, .unset] [(.long (p1 >>> ((p2 &&& (63 : Int32)) &&& 0x3f).toInt64))])) _
    refine XS.lstore X0.here hx rfl (hb hby at_6) rfl (l' := #[.val (.long p1), .second, .val (.int p2), .val (.int p3), .val (.int p4), .val (.long (p1 >>> ((p2 &&& (63 : Int32)) &&& 0x3f).toInt64)), .second, .unset, .unset, .unset, .unset, .unset, .unset, .unset]) rfl ?_
    show Steps p.tables e below (s₁.setTop (mkF m 8 #[.val (.long p1), .second, .val (.int p2), .val (.int p3), .val (.int p4), .val (.long (p1 >>> ((p2 &&& (63 : Int32)) &&& 0x3f).toInt64)), .second, .unset, .unset, .unset, .unset, .unset, .unset, .unset] [])) _
    refine XS.iloadN X0.here hx rfl (hb hby at_8) rfl ?_
    show Steps p.tables e below (s₁.setTop (mkF m 9 #[.val (.long p1), .second, .val (.int p2), .val (.int p3), .val (.int p4), .val (.long (p1 >>> ((p2 &&& (63 : Int32)) &&& 0x3f).toInt64)), .second, .unset, .unset, .unset, .unset, .unset, .unset, .unset] [(.int p3)])) _
    refine X0.ldcInt hx hown (mvT hZ (hw _ (List.mem_of_getElem? (i := 0) rfl))) (g := (mkF m 9 #[.val (.long p1), .second, .val (.int p2), .val (.int p3), .val (.int p4), .val (.long (p1 >>> ((p2 &&& (63 : Int32)) &&& 0x3f).toInt64)), .second, .unset, .unset, .unset, .unset, .unset, .unset, .unset] [(.int p3)])) rfl (hb hby at_9) _ ?_
    show Steps p.tables e below (s₁.setTop (mkF m 11 #[.val (.long p1), .second, .val (.int p2), .val (.int p3), .val (.int p4), .val (.long (p1 >>> ((p2 &&& (63 : Int32)) &&& 0x3f).toInt64)), .second, .unset, .unset, .unset, .unset, .unset, .unset, .unset] [(.int (2147483647 : Int32)), (.int p3)])) _
    refine XS.iand X0.here hx rfl (hb hby at_11) rfl ?_
    show Steps p.tables e below (s₁.setTop (mkF m 12 #[.val (.long p1), .second, .val (.int p2), .val (.int p3), .val (.int p4), .val (.long (p1 >>> ((p2 &&& (63 : Int32)) &&& 0x3f).toInt64)), .second, .unset, .unset, .unset, .unset, .unset, .unset, .unset] [(.int (p3 &&& (2147483647 : Int32)))])) _
    refine XS.iconst X0.here hx rfl (hb hby at_12) ?_
    show Steps p.tables e below (s₁.setTop (mkF m 13 #[.val (.long p1), .second, .val (.int p2), .val (.int p3), .val (.int p4), .val (.long (p1 >>> ((p2 &&& (63 : Int32)) &&& 0x3f).toInt64)), .second, .unset, .unset, .unset, .unset, .unset, .unset, .unset] [(.int (3 : Int32)), (.int (p3 &&& (2147483647 : Int32)))])) _
    refine iremM (g := (mkF m 13 #[.val (.long p1), .second, .val (.int p2), .val (.int p3), .val (.int p4), .val (.long (p1 >>> ((p2 &&& (63 : Int32)) &&& 0x3f).toInt64)), .second, .unset, .unset, .unset, .unset, .unset, .unset, .unset] [(.int (3 : Int32)), (.int (p3 &&& (2147483647 : Int32)))])) X0 hx rfl (hb hby at_13) rfl (by decide) ?_
    show Steps p.tables e below (s₁.setTop (mkF m 14 #[.val (.long p1), .second, .val (.int p2), .val (.int p3), .val (.int p4), .val (.long (p1 >>> ((p2 &&& (63 : Int32)) &&& 0x3f).toInt64)), .second, .unset, .unset, .unset, .unset, .unset, .unset, .unset] [(.int ((p3 &&& (2147483647 : Int32)) % (3 : Int32)))])) _
    refine XS.istore X0.here hx rfl (hb hby at_14) rfl (l' := #[.val (.long p1), .second, .val (.int p2), .val (.int p3), .val (.int p4), .val (.long (p1 >>> ((p2 &&& (63 : Int32)) &&& 0x3f).toInt64)), .second, .val (.int ((p3 &&& (2147483647 : Int32)) % (3 : Int32))), .unset, .unset, .unset, .unset, .unset, .unset]) rfl ?_
    show Steps p.tables e below (s₁.setTop (mkF m 16 #[.val (.long p1), .second, .val (.int p2), .val (.int p3), .val (.int p4), .val (.long (p1 >>> ((p2 &&& (63 : Int32)) &&& 0x3f).toInt64)), .second, .val (.int ((p3 &&& (2147483647 : Int32)) % (3 : Int32))), .unset, .unset, .unset, .unset, .unset, .unset] [])) _
    refine XS.iload X0.here hx rfl (hb hby at_16) rfl ?_
    show Steps p.tables e below (s₁.setTop (mkF m 18 #[.val (.long p1), .second, .val (.int p2), .val (.int p3), .val (.int p4), .val (.long (p1 >>> ((p2 &&& (63 : Int32)) &&& 0x3f).toInt64)), .second, .val (.int ((p3 &&& (2147483647 : Int32)) % (3 : Int32))), .unset, .unset, .unset, .unset, .unset, .unset] [(.int p4)])) _
    refine XS.i2b X0.here hx rfl (hb hby at_18) rfl ?_
    show Steps p.tables e below (s₁.setTop (mkF m 19 #[.val (.long p1), .second, .val (.int p2), .val (.int p3), .val (.int p4), .val (.long (p1 >>> ((p2 &&& (63 : Int32)) &&& 0x3f).toInt64)), .second, .val (.int ((p3 &&& (2147483647 : Int32)) % (3 : Int32))), .unset, .unset, .unset, .unset, .unset, .unset] [(.int (p4.toInt8.toInt32))])) _
    refine XS.istore X0.here hx rfl (hb hby at_19) rfl (l' := #[.val (.long p1), .second, .val (.int p2), .val (.int p3), .val (.int p4), .val (.long (p1 >>> ((p2 &&& (63 : Int32)) &&& 0x3f).toInt64)), .second, .val (.int ((p3 &&& (2147483647 : Int32)) % (3 : Int32))), .val (.int (p4.toInt8.toInt32)), .unset, .unset, .unset, .unset, .unset]) rfl ?_
    exact k)
  obtain ⟨vv, at0, sb, a, hsb, hat0, ha, CJ⟩ : ∃ (vv : Int64) (at0 sb : Int32) (a : Nat), nar .byte sb = sb ∧ at0.toInt = a ∧ a ≤ 2 ∧ Go p e below s₁ (mkF m 21 #[.val (.long p1), .second, .val (.int p2), .val (.int p3), .val (.int p4), .val (.long vv), .second, .val (.int at0), .val (.int sb), .unset, .unset, .unset, .unset, .unset] []) s₁ F0 := by
    obtain ⟨a, h1, h2⟩ := own_at p3
    exact ⟨_, _, _, a, own_nar2 p4, h1, h2, C1⟩
  have C2 : Go p e below s₁ (mkF m 23 #[.val (.long p1), .second, .val (.int p2), .val (.int p3), .val (.int p4), .val (.long vv), .second, .val (.int at0), .val (.int sb), .unset, .unset, .unset, .unset, .unset] [(.int (12 : Int32))]) s₁ F0 := fun t k => CJ t (by
    refine XS.bipush X0.here hx rfl (hb hby at_21) ?_
    exact k)
  obtain ⟨T3, h3, k3, X3, e3, E3, A3, st3⟩ := newP X0 hx hZ (hw _ (List.mem_of_getElem? (i := 1) rfl)) e0 (g := (mkF m 23 #[.val (.long p1), .second, .val (.int p2), .val (.int p3), .val (.int p4), .val (.long vv), .second, .val (.int at0), .val (.int sb), .unset, .unset, .unset, .unset, .unset] [(.int (12 : Int32))])) rfl (hb hby at_23) rfl (by decide) (cap := 12) (by decide) (by decide) (by decide) (by decide)
  obtain ⟨b3, g3⟩ : ∃ z, z = h0.size := ⟨_, rfl⟩
  rw [← g3] at A3 st3
  have C3 : Go p e below T3 (mkF m 25 #[.val (.long p1), .second, .val (.int p2), .val (.int p3), .val (.int p4), .val (.long vv), .second, .val (.int at0), .val (.int sb), .unset, .unset, .unset, .unset, .unset] [(.ref b3)]) s₁ F0 := fun t k => C2 t (st3 t k)
  have V0 : Arv Z h3 b3 k3 .byte 12 [.int 0, .int 0, .int 0, .int 0, .int 0, .int 0, .int 0, .int 0, .int 0, .int 0, .int 0, .int 0] (.int 0) := (Arv.new (ty := .byte) A3 (by decide)).pad (pad_rep [] _ 12)
  have gb : n0 ≤ b3 := Nat.le_trans Z0 (Nat.le_of_eq g3.symm)
  have C4 : Go p e below T3 (mkF m 29 #[.val (.long p1), .second, .val (.int p2), .val (.int p3), .val (.int p4), .val (.long vv), .second, .val (.int at0), .val (.int sb), .unset, .unset, .unset, .unset, .unset] [(.int sb), (.int (0 : Int32)), (.ref b3), (.ref b3)]) s₁ F0 := fun t k => C3 t (by
    refine XS.dup X3.here hx rfl (hb hby at_25) rfl rfl ?_
    show Steps p.tables e below (T3.setTop (mkF m 26 #[.val (.long p1), .second, .val (.int p2), .val (.int p3), .val (.int p4), .val (.long vv), .second, .val (.int at0), .val (.int sb), .unset, .unset, .unset, .unset, .unset] [(.ref b3), (.ref b3)])) _
    refine XS.iconst X3.here hx rfl (hb hby at_26) ?_
    show Steps p.tables e below (T3.setTop (mkF m 27 #[.val (.long p1), .second, .val (.int p2), .val (.int p3), .val (.int p4), .val (.long vv), .second, .val (.int at0), .val (.int sb), .unset, .unset, .unset, .unset, .unset] [(.int (0 : Int32)), (.ref b3), (.ref b3)])) _
    refine XS.iload X3.here hx rfl (hb hby at_27) rfl ?_
    exact k)
  obtain ⟨cl0, Ar0, q0, S0, M0, H0, G0⟩ := V0
  obtain ⟨T5, h5, X5, e5, W5, st5⟩ := stB X3 hx hZ e3 Ar0 (j := (0 : Int32)) (own_in (i := 0) S0 rfl (by decide)) (g := (mkF m 29 #[.val (.long p1), .second, .val (.int p2), .val (.int p3), .val (.int p4), .val (.long vv), .second, .val (.int at0), .val (.int sb), .unset, .unset, .unset, .unset, .unset] [(.int sb), (.int (0 : Int32)), (.ref b3), (.ref b3)])) rfl rfl (hb hby at_29)
  have C5 : Go p e below T5 (mkF m 30 #[.val (.long p1), .second, .val (.int p2), .val (.int p3), .val (.int p4), .val (.long vv), .second, .val (.int at0), .val (.int sb), .unset, .unset, .unset, .unset, .unset] [(.ref b3)]) s₁ F0 := fun t k => C4 t (st5 t k)
  rw [hsb] at W5
  have V5 : Arv Z h5 b3 k3 .byte 12 [.int sb, .int 0, .int 0, .int 0, .int 0, .int 0, .int 0, .int 0, .int 0, .int 0, .int 0, .int 0] (.int 0) := Arv.set Ar0 q0 S0 M0 H0 G0 (by rw [← hsb]; exact fits_nar_byte _) W5 0 rfl (Nat.le_of_ble_eq_true rfl)
  have N5 := Fr.snoc X5 N0 gb
  have C6 : Go p e below T5 (mkF m 34 #[.val (.long p1), .second, .val (.int p2), .val (.int p3), .val (.int p4), .val (.long vv), .second, .val (.int at0), .val (.int sb), .unset, .unset, .unset, .unset, .unset] [(.int sb), (.int (1 : Int32)), (.ref b3), (.ref b3)]) s₁ F0 := fun t k => C5 t (by
    refine XS.dup X5.here hx rfl (hb hby at_30) rfl rfl ?_
    show Steps p.tables e below (T5.setTop (mkF m 31 #[.val (.long p1), .second, .val (.int p2), .val (.int p3), .val (.int p4), .val (.long vv), .second, .val (.int at0), .val (.int sb), .unset, .unset, .unset, .unset, .unset] [(.ref b3), (.ref b3)])) _
    refine XS.iconst X5.here hx rfl (hb hby at_31) ?_
    show Steps p.tables e below (T5.setTop (mkF m 32 #[.val (.long p1), .second, .val (.int p2), .val (.int p3), .val (.int p4), .val (.long vv), .second, .val (.int at0), .val (.int sb), .unset, .unset, .unset, .unset, .unset] [(.int (1 : Int32)), (.ref b3), (.ref b3)])) _
    refine XS.iload X5.here hx rfl (hb hby at_32) rfl ?_
    exact k)
  obtain ⟨cl1, Ar1, q1, S1, M1, H1, G1⟩ := V5
  obtain ⟨T7, h7, X7, e7, W7, st7⟩ := stB X5 hx hZ e5 Ar1 (j := (1 : Int32)) (own_in (i := 1) S1 rfl (by decide)) (g := (mkF m 34 #[.val (.long p1), .second, .val (.int p2), .val (.int p3), .val (.int p4), .val (.long vv), .second, .val (.int at0), .val (.int sb), .unset, .unset, .unset, .unset, .unset] [(.int sb), (.int (1 : Int32)), (.ref b3), (.ref b3)])) rfl rfl (hb hby at_34)
  have C7 : Go p e below T7 (mkF m 35 #[.val (.long p1), .second, .val (.int p2), .val (.int p3), .val (.int p4), .val (.long vv), .second, .val (.int at0), .val (.int sb), .unset, .unset, .unset, .unset, .unset] [(.ref b3)]) s₁ F0 := fun t k => C6 t (st7 t k)
  rw [hsb] at W7
  have V7 : Arv Z h7 b3 k3 .byte 12 [.int sb, .int sb, .int 0, .int 0, .int 0, .int 0, .int 0, .int 0, .int 0, .int 0, .int 0, .int 0] (.int 0) := Arv.set Ar1 q1 S1 M1 H1 G1 (by rw [← hsb]; exact fits_nar_byte _) W7 1 rfl (Nat.le_of_ble_eq_true rfl)
  have N7 := Fr.snoc X7 N5 gb
  have C8 : Go p e below T7 (mkF m 39 #[.val (.long p1), .second, .val (.int p2), .val (.int p3), .val (.int p4), .val (.long vv), .second, .val (.int at0), .val (.int sb), .unset, .unset, .unset, .unset, .unset] [(.int sb), (.int (2 : Int32)), (.ref b3), (.ref b3)]) s₁ F0 := fun t k => C7 t (by
    refine XS.dup X7.here hx rfl (hb hby at_35) rfl rfl ?_
    show Steps p.tables e below (T7.setTop (mkF m 36 #[.val (.long p1), .second, .val (.int p2), .val (.int p3), .val (.int p4), .val (.long vv), .second, .val (.int at0), .val (.int sb), .unset, .unset, .unset, .unset, .unset] [(.ref b3), (.ref b3)])) _
    refine XS.iconst X7.here hx rfl (hb hby at_36) ?_
    show Steps p.tables e below (T7.setTop (mkF m 37 #[.val (.long p1), .second, .val (.int p2), .val (.int p3), .val (.int p4), .val (.long vv), .second, .val (.int at0), .val (.int sb), .unset, .unset, .unset, .unset, .unset] [(.int (2 : Int32)), (.ref b3), (.ref b3)])) _
    refine XS.iload X7.here hx rfl (hb hby at_37) rfl ?_
    exact k)
  obtain ⟨cl2, Ar2, q2, S2, M2, H2, G2⟩ := V7
  obtain ⟨T9, h9, X9, e9, W9, st9⟩ := stB X7 hx hZ e7 Ar2 (j := (2 : Int32)) (own_in (i := 2) S2 rfl (by decide)) (g := (mkF m 39 #[.val (.long p1), .second, .val (.int p2), .val (.int p3), .val (.int p4), .val (.long vv), .second, .val (.int at0), .val (.int sb), .unset, .unset, .unset, .unset, .unset] [(.int sb), (.int (2 : Int32)), (.ref b3), (.ref b3)])) rfl rfl (hb hby at_39)
  have C9 : Go p e below T9 (mkF m 40 #[.val (.long p1), .second, .val (.int p2), .val (.int p3), .val (.int p4), .val (.long vv), .second, .val (.int at0), .val (.int sb), .unset, .unset, .unset, .unset, .unset] [(.ref b3)]) s₁ F0 := fun t k => C8 t (st9 t k)
  rw [hsb] at W9
  have V9 : Arv Z h9 b3 k3 .byte 12 [.int sb, .int sb, .int sb, .int 0, .int 0, .int 0, .int 0, .int 0, .int 0, .int 0, .int 0, .int 0] (.int 0) := Arv.set Ar2 q2 S2 M2 H2 G2 (by rw [← hsb]; exact fits_nar_byte _) W9 2 rfl (Nat.le_of_ble_eq_true rfl)
  have N9 := Fr.snoc X9 N7 gb
  have C10 : Go p e below T9 (mkF m 44 #[.val (.long p1), .second, .val (.int p2), .val (.int p3), .val (.int p4), .val (.long vv), .second, .val (.int at0), .val (.int sb), .unset, .unset, .unset, .unset, .unset] [(.int sb), (.int (3 : Int32)), (.ref b3), (.ref b3)]) s₁ F0 := fun t k => C9 t (by
    refine XS.dup X9.here hx rfl (hb hby at_40) rfl rfl ?_
    show Steps p.tables e below (T9.setTop (mkF m 41 #[.val (.long p1), .second, .val (.int p2), .val (.int p3), .val (.int p4), .val (.long vv), .second, .val (.int at0), .val (.int sb), .unset, .unset, .unset, .unset, .unset] [(.ref b3), (.ref b3)])) _
    refine XS.iconst X9.here hx rfl (hb hby at_41) ?_
    show Steps p.tables e below (T9.setTop (mkF m 42 #[.val (.long p1), .second, .val (.int p2), .val (.int p3), .val (.int p4), .val (.long vv), .second, .val (.int at0), .val (.int sb), .unset, .unset, .unset, .unset, .unset] [(.int (3 : Int32)), (.ref b3), (.ref b3)])) _
    refine XS.iload X9.here hx rfl (hb hby at_42) rfl ?_
    exact k)
  obtain ⟨cl3, Ar3, q3, S3, M3, H3, G3⟩ := V9
  obtain ⟨T11, h11, X11, e11, W11, st11⟩ := stB X9 hx hZ e9 Ar3 (j := (3 : Int32)) (own_in (i := 3) S3 rfl (by decide)) (g := (mkF m 44 #[.val (.long p1), .second, .val (.int p2), .val (.int p3), .val (.int p4), .val (.long vv), .second, .val (.int at0), .val (.int sb), .unset, .unset, .unset, .unset, .unset] [(.int sb), (.int (3 : Int32)), (.ref b3), (.ref b3)])) rfl rfl (hb hby at_44)
  have C11 : Go p e below T11 (mkF m 45 #[.val (.long p1), .second, .val (.int p2), .val (.int p3), .val (.int p4), .val (.long vv), .second, .val (.int at0), .val (.int sb), .unset, .unset, .unset, .unset, .unset] [(.ref b3)]) s₁ F0 := fun t k => C10 t (st11 t k)
  rw [hsb] at W11
  have V11 : Arv Z h11 b3 k3 .byte 12 [.int sb, .int sb, .int sb, .int sb, .int 0, .int 0, .int 0, .int 0, .int 0, .int 0, .int 0, .int 0] (.int 0) := Arv.set Ar3 q3 S3 M3 H3 G3 (by rw [← hsb]; exact fits_nar_byte _) W11 3 rfl (Nat.le_of_ble_eq_true rfl)
  have N11 := Fr.snoc X11 N9 gb
  have C12 : Go p e below T11 (mkF m 49 #[.val (.long p1), .second, .val (.int p2), .val (.int p3), .val (.int p4), .val (.long vv), .second, .val (.int at0), .val (.int sb), .unset, .unset, .unset, .unset, .unset] [(.int sb), (.int (4 : Int32)), (.ref b3), (.ref b3)]) s₁ F0 := fun t k => C11 t (by
    refine XS.dup X11.here hx rfl (hb hby at_45) rfl rfl ?_
    show Steps p.tables e below (T11.setTop (mkF m 46 #[.val (.long p1), .second, .val (.int p2), .val (.int p3), .val (.int p4), .val (.long vv), .second, .val (.int at0), .val (.int sb), .unset, .unset, .unset, .unset, .unset] [(.ref b3), (.ref b3)])) _
    refine XS.iconst X11.here hx rfl (hb hby at_46) ?_
    show Steps p.tables e below (T11.setTop (mkF m 47 #[.val (.long p1), .second, .val (.int p2), .val (.int p3), .val (.int p4), .val (.long vv), .second, .val (.int at0), .val (.int sb), .unset, .unset, .unset, .unset, .unset] [(.int (4 : Int32)), (.ref b3), (.ref b3)])) _
    refine XS.iload X11.here hx rfl (hb hby at_47) rfl ?_
    exact k)
  obtain ⟨cl4, Ar4, q4, S4, M4, H4, G4⟩ := V11
  obtain ⟨T13, h13, X13, e13, W13, st13⟩ := stB X11 hx hZ e11 Ar4 (j := (4 : Int32)) (own_in (i := 4) S4 rfl (by decide)) (g := (mkF m 49 #[.val (.long p1), .second, .val (.int p2), .val (.int p3), .val (.int p4), .val (.long vv), .second, .val (.int at0), .val (.int sb), .unset, .unset, .unset, .unset, .unset] [(.int sb), (.int (4 : Int32)), (.ref b3), (.ref b3)])) rfl rfl (hb hby at_49)
  have C13 : Go p e below T13 (mkF m 50 #[.val (.long p1), .second, .val (.int p2), .val (.int p3), .val (.int p4), .val (.long vv), .second, .val (.int at0), .val (.int sb), .unset, .unset, .unset, .unset, .unset] [(.ref b3)]) s₁ F0 := fun t k => C12 t (st13 t k)
  rw [hsb] at W13
  have V13 : Arv Z h13 b3 k3 .byte 12 [.int sb, .int sb, .int sb, .int sb, .int sb, .int 0, .int 0, .int 0, .int 0, .int 0, .int 0, .int 0] (.int 0) := Arv.set Ar4 q4 S4 M4 H4 G4 (by rw [← hsb]; exact fits_nar_byte _) W13 4 rfl (Nat.le_of_ble_eq_true rfl)
  have N13 := Fr.snoc X13 N11 gb
  have C14 : Go p e below T13 (mkF m 54 #[.val (.long p1), .second, .val (.int p2), .val (.int p3), .val (.int p4), .val (.long vv), .second, .val (.int at0), .val (.int sb), .unset, .unset, .unset, .unset, .unset] [(.int sb), (.int (5 : Int32)), (.ref b3), (.ref b3)]) s₁ F0 := fun t k => C13 t (by
    refine XS.dup X13.here hx rfl (hb hby at_50) rfl rfl ?_
    show Steps p.tables e below (T13.setTop (mkF m 51 #[.val (.long p1), .second, .val (.int p2), .val (.int p3), .val (.int p4), .val (.long vv), .second, .val (.int at0), .val (.int sb), .unset, .unset, .unset, .unset, .unset] [(.ref b3), (.ref b3)])) _
    refine XS.iconst X13.here hx rfl (hb hby at_51) ?_
    show Steps p.tables e below (T13.setTop (mkF m 52 #[.val (.long p1), .second, .val (.int p2), .val (.int p3), .val (.int p4), .val (.long vv), .second, .val (.int at0), .val (.int sb), .unset, .unset, .unset, .unset, .unset] [(.int (5 : Int32)), (.ref b3), (.ref b3)])) _
    refine XS.iload X13.here hx rfl (hb hby at_52) rfl ?_
    exact k)
  obtain ⟨cl5, Ar5, q5, S5, M5, H5, G5⟩ := V13
  obtain ⟨T15, h15, X15, e15, W15, st15⟩ := stB X13 hx hZ e13 Ar5 (j := (5 : Int32)) (own_in (i := 5) S5 rfl (by decide)) (g := (mkF m 54 #[.val (.long p1), .second, .val (.int p2), .val (.int p3), .val (.int p4), .val (.long vv), .second, .val (.int at0), .val (.int sb), .unset, .unset, .unset, .unset, .unset] [(.int sb), (.int (5 : Int32)), (.ref b3), (.ref b3)])) rfl rfl (hb hby at_54)
  have C15 : Go p e below T15 (mkF m 55 #[.val (.long p1), .second, .val (.int p2), .val (.int p3), .val (.int p4), .val (.long vv), .second, .val (.int at0), .val (.int sb), .unset, .unset, .unset, .unset, .unset] [(.ref b3)]) s₁ F0 := fun t k => C14 t (st15 t k)
  rw [hsb] at W15
  have V15 : Arv Z h15 b3 k3 .byte 12 [.int sb, .int sb, .int sb, .int sb, .int sb, .int sb, .int 0, .int 0, .int 0, .int 0, .int 0, .int 0] (.int 0) := Arv.set Ar5 q5 S5 M5 H5 G5 (by rw [← hsb]; exact fits_nar_byte _) W15 5 rfl (Nat.le_of_ble_eq_true rfl)
  have N15 := Fr.snoc X15 N13 gb
  have C16 : Go p e below T15 (mkF m 60 #[.val (.long p1), .second, .val (.int p2), .val (.int p3), .val (.int p4), .val (.long vv), .second, .val (.int at0), .val (.int sb), .unset, .unset, .unset, .unset, .unset] [(.int sb), (.int (6 : Int32)), (.ref b3), (.ref b3)]) s₁ F0 := fun t k => C15 t (by
    refine XS.dup X15.here hx rfl (hb hby at_55) rfl rfl ?_
    show Steps p.tables e below (T15.setTop (mkF m 56 #[.val (.long p1), .second, .val (.int p2), .val (.int p3), .val (.int p4), .val (.long vv), .second, .val (.int at0), .val (.int sb), .unset, .unset, .unset, .unset, .unset] [(.ref b3), (.ref b3)])) _
    refine XS.bipush X15.here hx rfl (hb hby at_56) ?_
    show Steps p.tables e below (T15.setTop (mkF m 58 #[.val (.long p1), .second, .val (.int p2), .val (.int p3), .val (.int p4), .val (.long vv), .second, .val (.int at0), .val (.int sb), .unset, .unset, .unset, .unset, .unset] [(.int (6 : Int32)), (.ref b3), (.ref b3)])) _
    refine XS.iload X15.here hx rfl (hb hby at_58) rfl ?_
    exact k)
  obtain ⟨cl6, Ar6, q6, S6, M6, H6, G6⟩ := V15
  obtain ⟨T17, h17, X17, e17, W17, st17⟩ := stB X15 hx hZ e15 Ar6 (j := (6 : Int32)) (own_in (i := 6) S6 rfl (by decide)) (g := (mkF m 60 #[.val (.long p1), .second, .val (.int p2), .val (.int p3), .val (.int p4), .val (.long vv), .second, .val (.int at0), .val (.int sb), .unset, .unset, .unset, .unset, .unset] [(.int sb), (.int (6 : Int32)), (.ref b3), (.ref b3)])) rfl rfl (hb hby at_60)
  have C17 : Go p e below T17 (mkF m 61 #[.val (.long p1), .second, .val (.int p2), .val (.int p3), .val (.int p4), .val (.long vv), .second, .val (.int at0), .val (.int sb), .unset, .unset, .unset, .unset, .unset] [(.ref b3)]) s₁ F0 := fun t k => C16 t (st17 t k)
  rw [hsb] at W17
  have V17 : Arv Z h17 b3 k3 .byte 12 [.int sb, .int sb, .int sb, .int sb, .int sb, .int sb, .int sb, .int 0, .int 0, .int 0, .int 0, .int 0] (.int 0) := Arv.set Ar6 q6 S6 M6 H6 G6 (by rw [← hsb]; exact fits_nar_byte _) W17 6 rfl (Nat.le_of_ble_eq_true rfl)
  have N17 := Fr.snoc X17 N15 gb
  have C18 : Go p e below T17 (mkF m 66 #[.val (.long p1), .second, .val (.int p2), .val (.int p3), .val (.int p4), .val (.long vv), .second, .val (.int at0), .val (.int sb), .unset, .unset, .unset, .unset, .unset] [(.int sb), (.int (7 : Int32)), (.ref b3), (.ref b3)]) s₁ F0 := fun t k => C17 t (by
    refine XS.dup X17.here hx rfl (hb hby at_61) rfl rfl ?_
    show Steps p.tables e below (T17.setTop (mkF m 62 #[.val (.long p1), .second, .val (.int p2), .val (.int p3), .val (.int p4), .val (.long vv), .second, .val (.int at0), .val (.int sb), .unset, .unset, .unset, .unset, .unset] [(.ref b3), (.ref b3)])) _
    refine XS.bipush X17.here hx rfl (hb hby at_62) ?_
    show Steps p.tables e below (T17.setTop (mkF m 64 #[.val (.long p1), .second, .val (.int p2), .val (.int p3), .val (.int p4), .val (.long vv), .second, .val (.int at0), .val (.int sb), .unset, .unset, .unset, .unset, .unset] [(.int (7 : Int32)), (.ref b3), (.ref b3)])) _
    refine XS.iload X17.here hx rfl (hb hby at_64) rfl ?_
    exact k)
  obtain ⟨cl7, Ar7, q7, S7, M7, H7, G7⟩ := V17
  obtain ⟨T19, h19, X19, e19, W19, st19⟩ := stB X17 hx hZ e17 Ar7 (j := (7 : Int32)) (own_in (i := 7) S7 rfl (by decide)) (g := (mkF m 66 #[.val (.long p1), .second, .val (.int p2), .val (.int p3), .val (.int p4), .val (.long vv), .second, .val (.int at0), .val (.int sb), .unset, .unset, .unset, .unset, .unset] [(.int sb), (.int (7 : Int32)), (.ref b3), (.ref b3)])) rfl rfl (hb hby at_66)
  have C19 : Go p e below T19 (mkF m 67 #[.val (.long p1), .second, .val (.int p2), .val (.int p3), .val (.int p4), .val (.long vv), .second, .val (.int at0), .val (.int sb), .unset, .unset, .unset, .unset, .unset] [(.ref b3)]) s₁ F0 := fun t k => C18 t (st19 t k)
  rw [hsb] at W19
  have V19 : Arv Z h19 b3 k3 .byte 12 [.int sb, .int sb, .int sb, .int sb, .int sb, .int sb, .int sb, .int sb, .int 0, .int 0, .int 0, .int 0] (.int 0) := Arv.set Ar7 q7 S7 M7 H7 G7 (by rw [← hsb]; exact fits_nar_byte _) W19 7 rfl (Nat.le_of_ble_eq_true rfl)
  have N19 := Fr.snoc X19 N17 gb
  have C20 : Go p e below T19 (mkF m 72 #[.val (.long p1), .second, .val (.int p2), .val (.int p3), .val (.int p4), .val (.long vv), .second, .val (.int at0), .val (.int sb), .unset, .unset, .unset, .unset, .unset] [(.int sb), (.int (8 : Int32)), (.ref b3), (.ref b3)]) s₁ F0 := fun t k => C19 t (by
    refine XS.dup X19.here hx rfl (hb hby at_67) rfl rfl ?_
    show Steps p.tables e below (T19.setTop (mkF m 68 #[.val (.long p1), .second, .val (.int p2), .val (.int p3), .val (.int p4), .val (.long vv), .second, .val (.int at0), .val (.int sb), .unset, .unset, .unset, .unset, .unset] [(.ref b3), (.ref b3)])) _
    refine XS.bipush X19.here hx rfl (hb hby at_68) ?_
    show Steps p.tables e below (T19.setTop (mkF m 70 #[.val (.long p1), .second, .val (.int p2), .val (.int p3), .val (.int p4), .val (.long vv), .second, .val (.int at0), .val (.int sb), .unset, .unset, .unset, .unset, .unset] [(.int (8 : Int32)), (.ref b3), (.ref b3)])) _
    refine XS.iload X19.here hx rfl (hb hby at_70) rfl ?_
    exact k)
  obtain ⟨cl8, Ar8, q8, S8, M8, H8, G8⟩ := V19
  obtain ⟨T21, h21, X21, e21, W21, st21⟩ := stB X19 hx hZ e19 Ar8 (j := (8 : Int32)) (own_in (i := 8) S8 rfl (by decide)) (g := (mkF m 72 #[.val (.long p1), .second, .val (.int p2), .val (.int p3), .val (.int p4), .val (.long vv), .second, .val (.int at0), .val (.int sb), .unset, .unset, .unset, .unset, .unset] [(.int sb), (.int (8 : Int32)), (.ref b3), (.ref b3)])) rfl rfl (hb hby at_72)
  have C21 : Go p e below T21 (mkF m 73 #[.val (.long p1), .second, .val (.int p2), .val (.int p3), .val (.int p4), .val (.long vv), .second, .val (.int at0), .val (.int sb), .unset, .unset, .unset, .unset, .unset] [(.ref b3)]) s₁ F0 := fun t k => C20 t (st21 t k)
  rw [hsb] at W21
  have V21 : Arv Z h21 b3 k3 .byte 12 [.int sb, .int sb, .int sb, .int sb, .int sb, .int sb, .int sb, .int sb, .int sb, .int 0, .int 0, .int 0] (.int 0) := Arv.set Ar8 q8 S8 M8 H8 G8 (by rw [← hsb]; exact fits_nar_byte _) W21 8 rfl (Nat.le_of_ble_eq_true rfl)
  have N21 := Fr.snoc X21 N19 gb
  have C22 : Go p e below T21 (mkF m 78 #[.val (.long p1), .second, .val (.int p2), .val (.int p3), .val (.int p4), .val (.long vv), .second, .val (.int at0), .val (.int sb), .unset, .unset, .unset, .unset, .unset] [(.int sb), (.int (9 : Int32)), (.ref b3), (.ref b3)]) s₁ F0 := fun t k => C21 t (by
    refine XS.dup X21.here hx rfl (hb hby at_73) rfl rfl ?_
    show Steps p.tables e below (T21.setTop (mkF m 74 #[.val (.long p1), .second, .val (.int p2), .val (.int p3), .val (.int p4), .val (.long vv), .second, .val (.int at0), .val (.int sb), .unset, .unset, .unset, .unset, .unset] [(.ref b3), (.ref b3)])) _
    refine XS.bipush X21.here hx rfl (hb hby at_74) ?_
    show Steps p.tables e below (T21.setTop (mkF m 76 #[.val (.long p1), .second, .val (.int p2), .val (.int p3), .val (.int p4), .val (.long vv), .second, .val (.int at0), .val (.int sb), .unset, .unset, .unset, .unset, .unset] [(.int (9 : Int32)), (.ref b3), (.ref b3)])) _
    refine XS.iload X21.here hx rfl (hb hby at_76) rfl ?_
    exact k)
  obtain ⟨cl9, Ar9, q9, S9, M9, H9, G9⟩ := V21
  obtain ⟨T23, h23, X23, e23, W23, st23⟩ := stB X21 hx hZ e21 Ar9 (j := (9 : Int32)) (own_in (i := 9) S9 rfl (by decide)) (g := (mkF m 78 #[.val (.long p1), .second, .val (.int p2), .val (.int p3), .val (.int p4), .val (.long vv), .second, .val (.int at0), .val (.int sb), .unset, .unset, .unset, .unset, .unset] [(.int sb), (.int (9 : Int32)), (.ref b3), (.ref b3)])) rfl rfl (hb hby at_78)
  have C23 : Go p e below T23 (mkF m 79 #[.val (.long p1), .second, .val (.int p2), .val (.int p3), .val (.int p4), .val (.long vv), .second, .val (.int at0), .val (.int sb), .unset, .unset, .unset, .unset, .unset] [(.ref b3)]) s₁ F0 := fun t k => C22 t (st23 t k)
  rw [hsb] at W23
  have V23 : Arv Z h23 b3 k3 .byte 12 [.int sb, .int sb, .int sb, .int sb, .int sb, .int sb, .int sb, .int sb, .int sb, .int sb, .int 0, .int 0] (.int 0) := Arv.set Ar9 q9 S9 M9 H9 G9 (by rw [← hsb]; exact fits_nar_byte _) W23 9 rfl (Nat.le_of_ble_eq_true rfl)
  have N23 := Fr.snoc X23 N21 gb
  have C24 : Go p e below T23 (mkF m 84 #[.val (.long p1), .second, .val (.int p2), .val (.int p3), .val (.int p4), .val (.long vv), .second, .val (.int at0), .val (.int sb), .unset, .unset, .unset, .unset, .unset] [(.int sb), (.int (10 : Int32)), (.ref b3), (.ref b3)]) s₁ F0 := fun t k => C23 t (by
    refine XS.dup X23.here hx rfl (hb hby at_79) rfl rfl ?_
    show Steps p.tables e below (T23.setTop (mkF m 80 #[.val (.long p1), .second, .val (.int p2), .val (.int p3), .val (.int p4), .val (.long vv), .second, .val (.int at0), .val (.int sb), .unset, .unset, .unset, .unset, .unset] [(.ref b3), (.ref b3)])) _
    refine XS.bipush X23.here hx rfl (hb hby at_80) ?_
    show Steps p.tables e below (T23.setTop (mkF m 82 #[.val (.long p1), .second, .val (.int p2), .val (.int p3), .val (.int p4), .val (.long vv), .second, .val (.int at0), .val (.int sb), .unset, .unset, .unset, .unset, .unset] [(.int (10 : Int32)), (.ref b3), (.ref b3)])) _
    refine XS.iload X23.here hx rfl (hb hby at_82) rfl ?_
    exact k)
  obtain ⟨cl10, Ar10, q10, S10, M10, H10, G10⟩ := V23
  obtain ⟨T25, h25, X25, e25, W25, st25⟩ := stB X23 hx hZ e23 Ar10 (j := (10 : Int32)) (own_in (i := 10) S10 rfl (by decide)) (g := (mkF m 84 #[.val (.long p1), .second, .val (.int p2), .val (.int p3), .val (.int p4), .val (.long vv), .second, .val (.int at0), .val (.int sb), .unset, .unset, .unset, .unset, .unset] [(.int sb), (.int (10 : Int32)), (.ref b3), (.ref b3)])) rfl rfl (hb hby at_84)
  have C25 : Go p e below T25 (mkF m 85 #[.val (.long p1), .second, .val (.int p2), .val (.int p3), .val (.int p4), .val (.long vv), .second, .val (.int at0), .val (.int sb), .unset, .unset, .unset, .unset, .unset] [(.ref b3)]) s₁ F0 := fun t k => C24 t (st25 t k)
  rw [hsb] at W25
  have V25 : Arv Z h25 b3 k3 .byte 12 [.int sb, .int sb, .int sb, .int sb, .int sb, .int sb, .int sb, .int sb, .int sb, .int sb, .int sb, .int 0] (.int 0) := Arv.set Ar10 q10 S10 M10 H10 G10 (by rw [← hsb]; exact fits_nar_byte _) W25 10 rfl (Nat.le_of_ble_eq_true rfl)
  have N25 := Fr.snoc X25 N23 gb
  have C26 : Go p e below T25 (mkF m 90 #[.val (.long p1), .second, .val (.int p2), .val (.int p3), .val (.int p4), .val (.long vv), .second, .val (.int at0), .val (.int sb), .unset, .unset, .unset, .unset, .unset] [(.int sb), (.int (11 : Int32)), (.ref b3), (.ref b3)]) s₁ F0 := fun t k => C25 t (by
    refine XS.dup X25.here hx rfl (hb hby at_85) rfl rfl ?_
    show Steps p.tables e below (T25.setTop (mkF m 86 #[.val (.long p1), .second, .val (.int p2), .val (.int p3), .val (.int p4), .val (.long vv), .second, .val (.int at0), .val (.int sb), .unset, .unset, .unset, .unset, .unset] [(.ref b3), (.ref b3)])) _
    refine XS.bipush X25.here hx rfl (hb hby at_86) ?_
    show Steps p.tables e below (T25.setTop (mkF m 88 #[.val (.long p1), .second, .val (.int p2), .val (.int p3), .val (.int p4), .val (.long vv), .second, .val (.int at0), .val (.int sb), .unset, .unset, .unset, .unset, .unset] [(.int (11 : Int32)), (.ref b3), (.ref b3)])) _
    refine XS.iload X25.here hx rfl (hb hby at_88) rfl ?_
    exact k)
  obtain ⟨cl11, Ar11, q11, S11, M11, H11, G11⟩ := V25
  obtain ⟨T27, h27, X27, e27, W27, st27⟩ := stB X25 hx hZ e25 Ar11 (j := (11 : Int32)) (own_in (i := 11) S11 rfl (by decide)) (g := (mkF m 90 #[.val (.long p1), .second, .val (.int p2), .val (.int p3), .val (.int p4), .val (.long vv), .second, .val (.int at0), .val (.int sb), .unset, .unset, .unset, .unset, .unset] [(.int sb), (.int (11 : Int32)), (.ref b3), (.ref b3)])) rfl rfl (hb hby at_90)
  have C27 : Go p e below T27 (mkF m 91 #[.val (.long p1), .second, .val (.int p2), .val (.int p3), .val (.int p4), .val (.long vv), .second, .val (.int at0), .val (.int sb), .unset, .unset, .unset, .unset, .unset] [(.ref b3)]) s₁ F0 := fun t k => C26 t (st27 t k)
  rw [hsb] at W27
  have V27 : Arv Z h27 b3 k3 .byte 12 [.int sb, .int sb, .int sb, .int sb, .int sb, .int sb, .int sb, .int sb, .int sb, .int sb, .int sb, .int sb] (.int 0) := Arv.set Ar11 q11 S11 M11 H11 G11 (by rw [← hsb]; exact fits_nar_byte _) W27 11 rfl (Nat.le_of_ble_eq_true rfl)
  have N27 := Fr.snoc X27 N25 gb
  have C28 : Go p e below T27 (mkF m 99 #[.val (.long p1), .second, .val (.int p2), .val (.int p3), .val (.int p4), .val (.long vv), .second, .val (.int at0), .val (.int sb), .val (.ref b3), .unset, .unset, .unset, .unset] [(.long vv), (.int at0), (.ref b3)]) s₁ F0 := fun t k => C27 t (by
    refine XS.astore X27.here hx rfl (hb hby at_91) rfl rfl (l' := #[.val (.long p1), .second, .val (.int p2), .val (.int p3), .val (.int p4), .val (.long vv), .second, .val (.int at0), .val (.int sb), .val (.ref b3), .unset, .unset, .unset, .unset]) rfl ?_
    show Steps p.tables e below (T27.setTop (mkF m 93 #[.val (.long p1), .second, .val (.int p2), .val (.int p3), .val (.int p4), .val (.long vv), .second, .val (.int at0), .val (.int sb), .val (.ref b3), .unset, .unset, .unset, .unset] [])) _
    refine XS.aload X27.here hx rfl (hb hby at_93) rfl rfl ?_
    show Steps p.tables e below (T27.setTop (mkF m 95 #[.val (.long p1), .second, .val (.int p2), .val (.int p3), .val (.int p4), .val (.long vv), .second, .val (.int at0), .val (.int sb), .val (.ref b3), .unset, .unset, .unset, .unset] [(.ref b3)])) _
    refine XS.iload X27.here hx rfl (hb hby at_95) rfl ?_
    show Steps p.tables e below (T27.setTop (mkF m 97 #[.val (.long p1), .second, .val (.int p2), .val (.int p3), .val (.int p4), .val (.long vv), .second, .val (.int at0), .val (.int sb), .val (.ref b3), .unset, .unset, .unset, .unset] [(.int at0), (.ref b3)])) _
    refine XS.lload X27.here hx rfl (hb hby at_97) rfl ?_
    exact k)
  obtain ⟨n, hn1, hn10, hn⟩ := own_len (own_u (own_zz vv)) (own_u_lt _)
  have hP0 : own_P sb (own_u (own_zz vv)) n a 0 [.int sb, .int sb, .int sb, .int sb, .int sb, .int sb, .int sb, .int sb, .int sb, .int sb, .int sb, .int sb] := by
    refine ⟨rfl, fun j hj => ⟨sb, ?_, fun z => absurd z.2 (by omega), fun _ => rfl⟩⟩
    rcases (by omega : j = 0 ∨ j = 1 ∨ j = 2 ∨ j = 3 ∨ j = 4 ∨ j = 5 ∨ j = 6 ∨ j = 7 ∨ j = 8 ∨ j = 9 ∨ j = 10 ∨ j = 11) with rfl | rfl | rfl | rfl | rfl | rfl | rfl | rfl | rfl | rfl | rfl | rfl <;> rfl
  have Zp : n0 ≤ h27.size := Nat.le_trans gb (Nat.le_of_lt V27.lt)
  obtain ⟨_, _, ⟨T29, L29, k29, n29⟩, -, X29, ⟨Lc29, hQ29, l29, y29, z29⟩, st29⟩ := Jvm.LawKit.callS X27 hx (y := (⟨"com/example/tidelog/tidelog/Varints", "putVarlong", "([BIJ)I"⟩ : MethodName)) hown (mvT hZ (hw _ (List.mem_of_getElem? (i := 2) rfl))) (mvT hZ (hw _ (List.mem_of_getElem? (i := 3) rfl))) (mvT hZ (hw _ (List.mem_of_getElem? (i := 4) rfl))) (mvT hZ (hw _ (List.mem_of_getElem? (i := 5) rfl))) (by decide) (backOf (W := 0) (rm1 l Z a0 hw [] b3 at0 vv k3 sb _ n a h27 n0 Zp V27 gb hat0 ha hn1 hn10 hn hP0) hZ (hw _ (List.mem_of_getElem? (i := 5) rfl)) (hw _ (List.mem_of_getElem? (i := 4) rfl)) (by decide) (by decide)) (g := (mkF m 99 #[.val (.long p1), .second, .val (.int p2), .val (.int p3), .val (.int p4), .val (.long vv), .second, .val (.int at0), .val (.int sb), .val (.ref b3), .unset, .unset, .unset, .unset] [(.long vv), (.int at0), (.ref b3)])) rfl (by rw [hml]; rfl) (argsL := [(.ref b3), (.int at0), (.long vv)]) (rest := []) (lenOf pd_1 rfl) rfl (by show 2 * 0 + _ ≤ _; exact Nat.le_of_eq rfl) (hb hby at_99) (fun _ _ => ⟨rfl, e27, (by decide : 1 + 0 ≤ _), (by decide : 12 + 0 ≤ _)⟩)
  dsimp only [Pt.U, Pt.locs, Pt.cells, Pt.slots] at X29 l29 y29 z29 st29 hQ29
  subst l29 y29 z29
  obtain ⟨r0, vsF, rfl, N29q, K29, hr0, PF, VF⟩ := hQ29
  have C29 : Go p e below T29 (mkF m 102 #[.val (.long p1), .second, .val (.int p2), .val (.int p3), .val (.int p4), .val (.long vv), .second, .val (.int at0), .val (.int sb), .val (.ref b3), .unset, .unset, .unset, .unset] [(.int r0)]) s₁ F0 := fun t k => C28 t (st29 t k)
  have N29 := Fr.app N27 N29q
  have C30 : Go p e below T29 (mkF m 104 #[.val (.long p1), .second, .val (.int p2), .val (.int p3), .val (.int p4), .val (.long vv), .second, .val (.int at0), .val (.int sb), .val (.ref b3), .val (.int r0), .unset, .unset, .unset] []) s₁ F0 := fun t k => C29 t (by
    refine XS.istore X29.here hx rfl (hb hby at_102) rfl (l' := #[.val (.long p1), .second, .val (.int p2), .val (.int p3), .val (.int p4), .val (.long vv), .second, .val (.int at0), .val (.int sb), .val (.ref b3), .val (.int r0), .unset, .unset, .unset]) rfl ?_
    exact k)
  have CZ : Go p e below T29 (mkF m 126 #[.val (.long p1), .second, .val (.int p2), .val (.int p3), .val (.int p4), .val (.long vv), .second, .val (.int at0), .val (.int sb), .val (.ref b3), .val (.int r0), .unset, .unset, .unset] [(.long (own_zz vv))]) s₁ F0 := by
    by_cases hc : vv < 0
    · have q := own_zz_neg vv hc
      have C31 : Go p e below T29 (mkF m 126 #[.val (.long p1), .second, .val (.int p2), .val (.int p3), .val (.int p4), .val (.long vv), .second, .val (.int at0), .val (.int sb), .val (.ref b3), .val (.int r0), .unset, .unset, .unset] [(.long ((vv <<< ((1 : Int32) &&& 0x3f).toInt64) ^^^ (-1 : Int64)))]) s₁ F0 := fun t k => C30 t (by
        refine XS.lload X29.here hx rfl (hb hby at_104) rfl ?_
        show Steps p.tables e below (T29.setTop (mkF m 106 #[.val (.long p1), .second, .val (.int p2), .val (.int p3), .val (.int p4), .val (.long vv), .second, .val (.int at0), .val (.int sb), .val (.ref b3), .val (.int r0), .unset, .unset, .unset] [(.long vv)])) _
        refine XS.lconst X29.here hx rfl (hb hby at_106) ?_
        show Steps p.tables e below (T29.setTop (mkF m 107 #[.val (.long p1), .second, .val (.int p2), .val (.int p3), .val (.int p4), .val (.long vv), .second, .val (.int at0), .val (.int sb), .val (.ref b3), .val (.int r0), .unset, .unset, .unset] [(.long (0 : Int64)), (.long vv)])) _
        refine XS.lcmp X29.here hx rfl (hb hby at_107) rfl ?_
        show Steps p.tables e below (T29.setTop (mkF m 108 #[.val (.long p1), .second, .val (.int p2), .val (.int p3), .val (.int p4), .val (.long vv), .second, .val (.int at0), .val (.int sb), .val (.ref b3), .val (.int r0), .unset, .unset, .unset] [(.int (lcmpW vv (0 : Int64)))])) _
        refine XS.ifYes X29.here hx rfl (pc0 := 108) (pc' := 118) rfl (hb hby at_108) rfl ((if0 _ _).trans (tlt ((lw_lt _ _).mpr hc)).1) (by decide) (by decide) ?_
        show Steps p.tables e below (T29.setTop (mkF m 118 #[.val (.long p1), .second, .val (.int p2), .val (.int p3), .val (.int p4), .val (.long vv), .second, .val (.int at0), .val (.int sb), .val (.ref b3), .val (.int r0), .unset, .unset, .unset] [])) _
        refine XS.lload X29.here hx rfl (hb hby at_118) rfl ?_
        show Steps p.tables e below (T29.setTop (mkF m 120 #[.val (.long p1), .second, .val (.int p2), .val (.int p3), .val (.int p4), .val (.long vv), .second, .val (.int at0), .val (.int sb), .val (.ref b3), .val (.int r0), .unset, .unset, .unset] [(.long vv)])) _
        refine XS.iconst X29.here hx rfl (hb hby at_120) ?_
        show Steps p.tables e below (T29.setTop (mkF m 121 #[.val (.long p1), .second, .val (.int p2), .val (.int p3), .val (.int p4), .val (.long vv), .second, .val (.int at0), .val (.int sb), .val (.ref b3), .val (.int r0), .unset, .unset, .unset] [(.int (1 : Int32)), (.long vv)])) _
        refine XS.lshl X29.here hx rfl (hb hby at_121) rfl ?_
        show Steps p.tables e below (T29.setTop (mkF m 122 #[.val (.long p1), .second, .val (.int p2), .val (.int p3), .val (.int p4), .val (.long vv), .second, .val (.int at0), .val (.int sb), .val (.ref b3), .val (.int r0), .unset, .unset, .unset] [(.long (vv <<< ((1 : Int32) &&& 0x3f).toInt64))])) _
        refine X29.ldc2Long hx hown (mvT hZ (hw _ (List.mem_of_getElem? (i := 18) rfl))) (g := (mkF m 122 #[.val (.long p1), .second, .val (.int p2), .val (.int p3), .val (.int p4), .val (.long vv), .second, .val (.int at0), .val (.int sb), .val (.ref b3), .val (.int r0), .unset, .unset, .unset] [(.long (vv <<< ((1 : Int32) &&& 0x3f).toInt64))])) rfl (hb hby at_122) _ ?_
        show Steps p.tables e below (T29.setTop (mkF m 125 #[.val (.long p1), .second, .val (.int p2), .val (.int p3), .val (.int p4), .val (.long vv), .second, .val (.int at0), .val (.int sb), .val (.ref b3), .val (.int r0), .unset, .unset, .unset] [(.long (-1 : Int64)), (.long (vv <<< ((1 : Int32) &&& 0x3f).toInt64))])) _
        refine XS.lxor X29.here hx rfl (hb hby at_125) rfl ?_
        exact k)
      rw [← q]
      exact C31
    · have q := own_zz_pos vv hc
      have C32 : Go p e below T29 (mkF m 126 #[.val (.long p1), .second, .val (.int p2), .val (.int p3), .val (.int p4), .val (.long vv), .second, .val (.int at0), .val (.int sb), .val (.ref b3), .val (.int r0), .unset, .unset, .unset] [(.long (vv <<< ((1 : Int32) &&& 0x3f).toInt64))]) s₁ F0 := fun t k => C30 t (by
        refine XS.lload X29.here hx rfl (hb hby at_104) rfl ?_
        show Steps p.tables e below (T29.setTop (mkF m 106 #[.val (.long p1), .second, .val (.int p2), .val (.int p3), .val (.int p4), .val (.long vv), .second, .val (.int at0), .val (.int sb), .val (.ref b3), .val (.int r0), .unset, .unset, .unset] [(.long vv)])) _
        refine XS.lconst X29.here hx rfl (hb hby at_106) ?_
        show Steps p.tables e below (T29.setTop (mkF m 107 #[.val (.long p1), .second, .val (.int p2), .val (.int p3), .val (.int p4), .val (.long vv), .second, .val (.int at0), .val (.int sb), .val (.ref b3), .val (.int r0), .unset, .unset, .unset] [(.long (0 : Int64)), (.long vv)])) _
        refine XS.lcmp X29.here hx rfl (hb hby at_107) rfl ?_
        show Steps p.tables e below (T29.setTop (mkF m 108 #[.val (.long p1), .second, .val (.int p2), .val (.int p3), .val (.int p4), .val (.long vv), .second, .val (.int at0), .val (.int sb), .val (.ref b3), .val (.int r0), .unset, .unset, .unset] [(.int (lcmpW vv (0 : Int64)))])) _
        refine XS.ifNo X29.here hx rfl (hb hby at_108) rfl ((if0 _ _).trans (flt (fun z => hc ((lw_lt _ _).mp z))).1) ?_
        show Steps p.tables e below (T29.setTop (mkF m 111 #[.val (.long p1), .second, .val (.int p2), .val (.int p3), .val (.int p4), .val (.long vv), .second, .val (.int at0), .val (.int sb), .val (.ref b3), .val (.int r0), .unset, .unset, .unset] [])) _
        refine XS.lload X29.here hx rfl (hb hby at_111) rfl ?_
        show Steps p.tables e below (T29.setTop (mkF m 113 #[.val (.long p1), .second, .val (.int p2), .val (.int p3), .val (.int p4), .val (.long vv), .second, .val (.int at0), .val (.int sb), .val (.ref b3), .val (.int r0), .unset, .unset, .unset] [(.long vv)])) _
        refine XS.iconst X29.here hx rfl (hb hby at_113) ?_
        show Steps p.tables e below (T29.setTop (mkF m 114 #[.val (.long p1), .second, .val (.int p2), .val (.int p3), .val (.int p4), .val (.long vv), .second, .val (.int at0), .val (.int sb), .val (.ref b3), .val (.int r0), .unset, .unset, .unset] [(.int (1 : Int32)), (.long vv)])) _
        refine XS.lshl X29.here hx rfl (hb hby at_114) rfl ?_
        show Steps p.tables e below (T29.setTop (mkF m 115 #[.val (.long p1), .second, .val (.int p2), .val (.int p3), .val (.int p4), .val (.long vv), .second, .val (.int at0), .val (.int sb), .val (.ref b3), .val (.int r0), .unset, .unset, .unset] [(.long (vv <<< ((1 : Int32) &&& 0x3f).toInt64))])) _
        refine XS.goto X29.here hx rfl (pc0 := 115) (pc' := 126) rfl (hb hby at_115) (by decide) (by decide) ?_
        exact k)
      rw [← q]
      exact C32
  obtain ⟨z, hz⟩ : ∃ z, z = own_zz vv := ⟨_, rfl⟩
  rw [← hz] at hn PF
  have CZ2 : Go p e below T29 (mkF m 126 #[.val (.long p1), .second, .val (.int p2), .val (.int p3), .val (.int p4), .val (.long vv), .second, .val (.int at0), .val (.int sb), .val (.ref b3), .val (.int r0), .unset, .unset, .unset] [(.long z)]) s₁ F0 := by rw [hz]; exact CZ
  obtain ⟨hF, eF⟩ : ∃ q, q = T29.heap := ⟨_, rfl⟩
  rw [← eF] at VF
  have eT : T29.heap = hF := eF.symm
  have ZF : n0 ≤ hF.size := Nat.le_trans gb (Nat.le_of_lt VF.lt)
  have C33 : Go p e below T29 (mkF m 133 #[.val (.long p1), .second, .val (.int p2), .val (.int p3), .val (.int p4), .val (.long vv), .second, .val (.int at0), .val (.int sb), .val (.ref b3), .val (.int r0), .val (.long z), .second, .unset] [(.int (7 : Int32)), (.long z), (.int (1 : Int32))]) s₁ F0 := fun t k => CZ2 t (by
    refine XS.lstore X29.here hx rfl (hb hby at_126) rfl (l' := #[.val (.long p1), .second, .val (.int p2), .val (.int p3), .val (.int p4), .val (.long vv), .second, .val (.int at0), .val (.int sb), .val (.ref b3), .val (.int r0), .val (.long z), .second, .unset]) rfl ?_
    show Steps p.tables e below (T29.setTop (mkF m 128 #[.val (.long p1), .second, .val (.int p2), .val (.int p3), .val (.int p4), .val (.long vv), .second, .val (.int at0), .val (.int sb), .val (.ref b3), .val (.int r0), .val (.long z), .second, .unset] [])) _
    refine XS.iconst X29.here hx rfl (hb hby at_128) ?_
    show Steps p.tables e below (T29.setTop (mkF m 129 #[.val (.long p1), .second, .val (.int p2), .val (.int p3), .val (.int p4), .val (.long vv), .second, .val (.int at0), .val (.int sb), .val (.ref b3), .val (.int r0), .val (.long z), .second, .unset] [(.int (1 : Int32))])) _
    refine XS.lload X29.here hx rfl (hb hby at_129) rfl ?_
    show Steps p.tables e below (T29.setTop (mkF m 131 #[.val (.long p1), .second, .val (.int p2), .val (.int p3), .val (.int p4), .val (.long vv), .second, .val (.int at0), .val (.int sb), .val (.ref b3), .val (.int r0), .val (.long z), .second, .unset] [(.long z), (.int (1 : Int32))])) _
    refine XS.bipush X29.here hx rfl (hb hby at_131) ?_
    exact k)
  obtain ⟨_, _, ⟨T34, L34, k34, n34⟩, -, X34, ⟨Lc34, hQ34, l34, y34, z34⟩, st34⟩ := Jvm.LawKit.callS X29 hx (y := (⟨"com/example/tidelog/tidelog/VarintsPutVarlongPinLaw", "more", "(JI)I"⟩ : MethodName)) hown (mvT hZ (hw _ (List.mem_of_getElem? (i := 10) rfl))) (mvT hZ (hw _ (List.mem_of_getElem? (i := 11) rfl))) (mvT hZ (hw _ (List.mem_of_getElem? (i := 12) rfl))) (mvT hZ (hw _ (List.mem_of_getElem? (i := 13) rfl))) (by decide) (backOf (W := 1) (rm3 l Z a0 hw [] z (7 : Int32) hF n0 ZF) hZ (hw _ (List.mem_of_getElem? (i := 13) rfl)) (hw _ (List.mem_of_getElem? (i := 12) rfl)) (by decide) (by decide)) (g := (mkF m 133 #[.val (.long p1), .second, .val (.int p2), .val (.int p3), .val (.int p4), .val (.long vv), .second, .val (.int at0), .val (.int sb), .val (.ref b3), .val (.int r0), .val (.long z), .second, .unset] [(.int (7 : Int32)), (.long z), (.int (1 : Int32))])) rfl (by rw [hml]; rfl) (argsL := [(.long z), (.int (7 : Int32))]) (rest := [(.int (1 : Int32))]) (lenOf pd_3 rfl) rfl (by show 2 * 0 + _ ≤ _; exact Nat.le_of_eq rfl) (hb hby at_133) (fun _ _ => ⟨rfl, eT, (by decide : 1 + 0 ≤ _), (by decide : 12 + 0 ≤ _)⟩)
  dsimp only [Pt.U, Pt.locs, Pt.cells, Pt.slots] at X34 l34 y34 z34 st34 hQ34
  obtain ⟨rfl, N34q, eh34⟩ := hQ34
  have C34 : Go p e below T34 (mkF m 136 #[.val (.long p1), .second, .val (.int p2), .val (.int p3), .val (.int p4), .val (.long vv), .second, .val (.int at0), .val (.int sb), .val (.ref b3), .val (.int r0), .val (.long z), .second, .unset] [(.int (own_more z (7 : Int32))), (.int (1 : Int32))]) s₁ F0 := fun t k => C33 t (st34 t k)
  have N34 : Fr n0 L34 := by rw [l34]; exact Fr.app N29 N34q
  have LS34 : Stand p l e room_1 s m #[(.long p1), (.int p2), (.int p3), (.int p4)] below meth c T34 L34 1 12 := by rw [y34, z34] at X34; exact X34
  have C35 : Go p e below T34 (mkF m 137 #[.val (.long p1), .second, .val (.int p2), .val (.int p3), .val (.int p4), .val (.long vv), .second, .val (.int at0), .val (.int sb), .val (.ref b3), .val (.int r0), .val (.long z), .second, .unset] [(.int ((1 : Int32) + (own_more z (7 : Int32))))]) s₁ F0 := fun t k => C34 t (by
    refine XS.iadd LS34.here hx rfl (hb hby at_136) rfl ?_
    exact k)
  obtain ⟨s34, hs34, Cs34⟩ : ∃ s34 : Int32, s34 = ((1 : Int32) + (own_more z (7 : Int32))) ∧ Go p e below T34 (mkF m 137 #[.val (.long p1), .second, .val (.int p2), .val (.int p3), .val (.int p4), .val (.long vv), .second, .val (.int at0), .val (.int sb), .val (.ref b3), .val (.int r0), .val (.long z), .second, .unset] [(.int s34)]) s₁ F0 := ⟨_, rfl, C35⟩
  have C36 : Go p e below T34 (mkF m 141 #[.val (.long p1), .second, .val (.int p2), .val (.int p3), .val (.int p4), .val (.long vv), .second, .val (.int at0), .val (.int sb), .val (.ref b3), .val (.int r0), .val (.long z), .second, .unset] [(.int (14 : Int32)), (.long z), (.int s34)]) s₁ F0 := fun t k => Cs34 t (by
    refine XS.lload LS34.here hx rfl (hb hby at_137) rfl ?_
    show Steps p.tables e below (T34.setTop (mkF m 139 #[.val (.long p1), .second, .val (.int p2), .val (.int p3), .val (.int p4), .val (.long vv), .second, .val (.int at0), .val (.int sb), .val (.ref b3), .val (.int r0), .val (.long z), .second, .unset] [(.long z), (.int s34)])) _
    refine XS.bipush LS34.here hx rfl (hb hby at_139) ?_
    exact k)
  obtain ⟨_, _, ⟨T37, L37, k37, n37⟩, -, X37, ⟨Lc37, hQ37, l37, y37, z37⟩, st37⟩ := Jvm.LawKit.callS LS34 hx (y := (⟨"com/example/tidelog/tidelog/VarintsPutVarlongPinLaw", "more", "(JI)I"⟩ : MethodName)) hown (mvT hZ (hw _ (List.mem_of_getElem? (i := 10) rfl))) (mvT hZ (hw _ (List.mem_of_getElem? (i := 11) rfl))) (mvT hZ (hw _ (List.mem_of_getElem? (i := 12) rfl))) (mvT hZ (hw _ (List.mem_of_getElem? (i := 13) rfl))) (by decide) (backOf (W := 1) (rm3 l Z a0 hw [] z (14 : Int32) hF n0 ZF) hZ (hw _ (List.mem_of_getElem? (i := 13) rfl)) (hw _ (List.mem_of_getElem? (i := 12) rfl)) (by decide) (by decide)) (g := (mkF m 141 #[.val (.long p1), .second, .val (.int p2), .val (.int p3), .val (.int p4), .val (.long vv), .second, .val (.int at0), .val (.int sb), .val (.ref b3), .val (.int r0), .val (.long z), .second, .unset] [(.int (14 : Int32)), (.long z), (.int s34)])) rfl (by rw [hml]; rfl) (argsL := [(.long z), (.int (14 : Int32))]) (rest := [(.int s34)]) (lenOf pd_3 rfl) rfl (by show 2 * 0 + _ ≤ _; exact Nat.le_of_eq rfl) (hb hby at_141) (fun _ _ => ⟨rfl, eh34, (by decide : 1 + 0 ≤ _), (by decide : 12 + 0 ≤ _)⟩)
  dsimp only [Pt.U, Pt.locs, Pt.cells, Pt.slots] at X37 l37 y37 z37 st37 hQ37
  obtain ⟨rfl, N37q, eh37⟩ := hQ37
  have C37 : Go p e below T37 (mkF m 144 #[.val (.long p1), .second, .val (.int p2), .val (.int p3), .val (.int p4), .val (.long vv), .second, .val (.int at0), .val (.int sb), .val (.ref b3), .val (.int r0), .val (.long z), .second, .unset] [(.int (own_more z (14 : Int32))), (.int s34)]) s₁ F0 := fun t k => C36 t (st37 t k)
  have N37 : Fr n0 L37 := by rw [l37]; exact Fr.app N34 N37q
  have LS37 : Stand p l e room_1 s m #[(.long p1), (.int p2), (.int p3), (.int p4)] below meth c T37 L37 1 12 := by rw [y37, z37] at X37; exact X37
  have C38 : Go p e below T37 (mkF m 145 #[.val (.long p1), .second, .val (.int p2), .val (.int p3), .val (.int p4), .val (.long vv), .second, .val (.int at0), .val (.int sb), .val (.ref b3), .val (.int r0), .val (.long z), .second, .unset] [(.int (s34 + (own_more z (14 : Int32))))]) s₁ F0 := fun t k => C37 t (by
    refine XS.iadd LS37.here hx rfl (hb hby at_144) rfl ?_
    exact k)
  obtain ⟨s37, hs37, Cs37⟩ : ∃ s37 : Int32, s37 = (s34 + (own_more z (14 : Int32))) ∧ Go p e below T37 (mkF m 145 #[.val (.long p1), .second, .val (.int p2), .val (.int p3), .val (.int p4), .val (.long vv), .second, .val (.int at0), .val (.int sb), .val (.ref b3), .val (.int r0), .val (.long z), .second, .unset] [(.int s37)]) s₁ F0 := ⟨_, rfl, C38⟩
  have C39 : Go p e below T37 (mkF m 149 #[.val (.long p1), .second, .val (.int p2), .val (.int p3), .val (.int p4), .val (.long vv), .second, .val (.int at0), .val (.int sb), .val (.ref b3), .val (.int r0), .val (.long z), .second, .unset] [(.int (21 : Int32)), (.long z), (.int s37)]) s₁ F0 := fun t k => Cs37 t (by
    refine XS.lload LS37.here hx rfl (hb hby at_145) rfl ?_
    show Steps p.tables e below (T37.setTop (mkF m 147 #[.val (.long p1), .second, .val (.int p2), .val (.int p3), .val (.int p4), .val (.long vv), .second, .val (.int at0), .val (.int sb), .val (.ref b3), .val (.int r0), .val (.long z), .second, .unset] [(.long z), (.int s37)])) _
    refine XS.bipush LS37.here hx rfl (hb hby at_147) ?_
    exact k)
  obtain ⟨_, _, ⟨T40, L40, k40, n40⟩, -, X40, ⟨Lc40, hQ40, l40, y40, z40⟩, st40⟩ := Jvm.LawKit.callS LS37 hx (y := (⟨"com/example/tidelog/tidelog/VarintsPutVarlongPinLaw", "more", "(JI)I"⟩ : MethodName)) hown (mvT hZ (hw _ (List.mem_of_getElem? (i := 10) rfl))) (mvT hZ (hw _ (List.mem_of_getElem? (i := 11) rfl))) (mvT hZ (hw _ (List.mem_of_getElem? (i := 12) rfl))) (mvT hZ (hw _ (List.mem_of_getElem? (i := 13) rfl))) (by decide) (backOf (W := 1) (rm3 l Z a0 hw [] z (21 : Int32) hF n0 ZF) hZ (hw _ (List.mem_of_getElem? (i := 13) rfl)) (hw _ (List.mem_of_getElem? (i := 12) rfl)) (by decide) (by decide)) (g := (mkF m 149 #[.val (.long p1), .second, .val (.int p2), .val (.int p3), .val (.int p4), .val (.long vv), .second, .val (.int at0), .val (.int sb), .val (.ref b3), .val (.int r0), .val (.long z), .second, .unset] [(.int (21 : Int32)), (.long z), (.int s37)])) rfl (by rw [hml]; rfl) (argsL := [(.long z), (.int (21 : Int32))]) (rest := [(.int s37)]) (lenOf pd_3 rfl) rfl (by show 2 * 0 + _ ≤ _; exact Nat.le_of_eq rfl) (hb hby at_149) (fun _ _ => ⟨rfl, eh37, (by decide : 1 + 0 ≤ _), (by decide : 12 + 0 ≤ _)⟩)
  dsimp only [Pt.U, Pt.locs, Pt.cells, Pt.slots] at X40 l40 y40 z40 st40 hQ40
  obtain ⟨rfl, N40q, eh40⟩ := hQ40
  have C40 : Go p e below T40 (mkF m 152 #[.val (.long p1), .second, .val (.int p2), .val (.int p3), .val (.int p4), .val (.long vv), .second, .val (.int at0), .val (.int sb), .val (.ref b3), .val (.int r0), .val (.long z), .second, .unset] [(.int (own_more z (21 : Int32))), (.int s37)]) s₁ F0 := fun t k => C39 t (st40 t k)
  have N40 : Fr n0 L40 := by rw [l40]; exact Fr.app N37 N40q
  have LS40 : Stand p l e room_1 s m #[(.long p1), (.int p2), (.int p3), (.int p4)] below meth c T40 L40 1 12 := by rw [y40, z40] at X40; exact X40
  have C41 : Go p e below T40 (mkF m 153 #[.val (.long p1), .second, .val (.int p2), .val (.int p3), .val (.int p4), .val (.long vv), .second, .val (.int at0), .val (.int sb), .val (.ref b3), .val (.int r0), .val (.long z), .second, .unset] [(.int (s37 + (own_more z (21 : Int32))))]) s₁ F0 := fun t k => C40 t (by
    refine XS.iadd LS40.here hx rfl (hb hby at_152) rfl ?_
    exact k)
  obtain ⟨s40, hs40, Cs40⟩ : ∃ s40 : Int32, s40 = (s37 + (own_more z (21 : Int32))) ∧ Go p e below T40 (mkF m 153 #[.val (.long p1), .second, .val (.int p2), .val (.int p3), .val (.int p4), .val (.long vv), .second, .val (.int at0), .val (.int sb), .val (.ref b3), .val (.int r0), .val (.long z), .second, .unset] [(.int s40)]) s₁ F0 := ⟨_, rfl, C41⟩
  have C42 : Go p e below T40 (mkF m 157 #[.val (.long p1), .second, .val (.int p2), .val (.int p3), .val (.int p4), .val (.long vv), .second, .val (.int at0), .val (.int sb), .val (.ref b3), .val (.int r0), .val (.long z), .second, .unset] [(.int (28 : Int32)), (.long z), (.int s40)]) s₁ F0 := fun t k => Cs40 t (by
    refine XS.lload LS40.here hx rfl (hb hby at_153) rfl ?_
    show Steps p.tables e below (T40.setTop (mkF m 155 #[.val (.long p1), .second, .val (.int p2), .val (.int p3), .val (.int p4), .val (.long vv), .second, .val (.int at0), .val (.int sb), .val (.ref b3), .val (.int r0), .val (.long z), .second, .unset] [(.long z), (.int s40)])) _
    refine XS.bipush LS40.here hx rfl (hb hby at_155) ?_
    exact k)
  obtain ⟨_, _, ⟨T43, L43, k43, n43⟩, -, X43, ⟨Lc43, hQ43, l43, y43, z43⟩, st43⟩ := Jvm.LawKit.callS LS40 hx (y := (⟨"com/example/tidelog/tidelog/VarintsPutVarlongPinLaw", "more", "(JI)I"⟩ : MethodName)) hown (mvT hZ (hw _ (List.mem_of_getElem? (i := 10) rfl))) (mvT hZ (hw _ (List.mem_of_getElem? (i := 11) rfl))) (mvT hZ (hw _ (List.mem_of_getElem? (i := 12) rfl))) (mvT hZ (hw _ (List.mem_of_getElem? (i := 13) rfl))) (by decide) (backOf (W := 1) (rm3 l Z a0 hw [] z (28 : Int32) hF n0 ZF) hZ (hw _ (List.mem_of_getElem? (i := 13) rfl)) (hw _ (List.mem_of_getElem? (i := 12) rfl)) (by decide) (by decide)) (g := (mkF m 157 #[.val (.long p1), .second, .val (.int p2), .val (.int p3), .val (.int p4), .val (.long vv), .second, .val (.int at0), .val (.int sb), .val (.ref b3), .val (.int r0), .val (.long z), .second, .unset] [(.int (28 : Int32)), (.long z), (.int s40)])) rfl (by rw [hml]; rfl) (argsL := [(.long z), (.int (28 : Int32))]) (rest := [(.int s40)]) (lenOf pd_3 rfl) rfl (by show 2 * 0 + _ ≤ _; exact Nat.le_of_eq rfl) (hb hby at_157) (fun _ _ => ⟨rfl, eh40, (by decide : 1 + 0 ≤ _), (by decide : 12 + 0 ≤ _)⟩)
  dsimp only [Pt.U, Pt.locs, Pt.cells, Pt.slots] at X43 l43 y43 z43 st43 hQ43
  obtain ⟨rfl, N43q, eh43⟩ := hQ43
  have C43 : Go p e below T43 (mkF m 160 #[.val (.long p1), .second, .val (.int p2), .val (.int p3), .val (.int p4), .val (.long vv), .second, .val (.int at0), .val (.int sb), .val (.ref b3), .val (.int r0), .val (.long z), .second, .unset] [(.int (own_more z (28 : Int32))), (.int s40)]) s₁ F0 := fun t k => C42 t (st43 t k)
  have N43 : Fr n0 L43 := by rw [l43]; exact Fr.app N40 N43q
  have LS43 : Stand p l e room_1 s m #[(.long p1), (.int p2), (.int p3), (.int p4)] below meth c T43 L43 1 12 := by rw [y43, z43] at X43; exact X43
  have C44 : Go p e below T43 (mkF m 161 #[.val (.long p1), .second, .val (.int p2), .val (.int p3), .val (.int p4), .val (.long vv), .second, .val (.int at0), .val (.int sb), .val (.ref b3), .val (.int r0), .val (.long z), .second, .unset] [(.int (s40 + (own_more z (28 : Int32))))]) s₁ F0 := fun t k => C43 t (by
    refine XS.iadd LS43.here hx rfl (hb hby at_160) rfl ?_
    exact k)
  obtain ⟨s43, hs43, Cs43⟩ : ∃ s43 : Int32, s43 = (s40 + (own_more z (28 : Int32))) ∧ Go p e below T43 (mkF m 161 #[.val (.long p1), .second, .val (.int p2), .val (.int p3), .val (.int p4), .val (.long vv), .second, .val (.int at0), .val (.int sb), .val (.ref b3), .val (.int r0), .val (.long z), .second, .unset] [(.int s43)]) s₁ F0 := ⟨_, rfl, C44⟩
  have C45 : Go p e below T43 (mkF m 165 #[.val (.long p1), .second, .val (.int p2), .val (.int p3), .val (.int p4), .val (.long vv), .second, .val (.int at0), .val (.int sb), .val (.ref b3), .val (.int r0), .val (.long z), .second, .unset] [(.int (35 : Int32)), (.long z), (.int s43)]) s₁ F0 := fun t k => Cs43 t (by
    refine XS.lload LS43.here hx rfl (hb hby at_161) rfl ?_
    show Steps p.tables e below (T43.setTop (mkF m 163 #[.val (.long p1), .second, .val (.int p2), .val (.int p3), .val (.int p4), .val (.long vv), .second, .val (.int at0), .val (.int sb), .val (.ref b3), .val (.int r0), .val (.long z), .second, .unset] [(.long z), (.int s43)])) _
    refine XS.bipush LS43.here hx rfl (hb hby at_163) ?_
    exact k)
  obtain ⟨_, _, ⟨T46, L46, k46, n46⟩, -, X46, ⟨Lc46, hQ46, l46, y46, z46⟩, st46⟩ := Jvm.LawKit.callS LS43 hx (y := (⟨"com/example/tidelog/tidelog/VarintsPutVarlongPinLaw", "more", "(JI)I"⟩ : MethodName)) hown (mvT hZ (hw _ (List.mem_of_getElem? (i := 10) rfl))) (mvT hZ (hw _ (List.mem_of_getElem? (i := 11) rfl))) (mvT hZ (hw _ (List.mem_of_getElem? (i := 12) rfl))) (mvT hZ (hw _ (List.mem_of_getElem? (i := 13) rfl))) (by decide) (backOf (W := 1) (rm3 l Z a0 hw [] z (35 : Int32) hF n0 ZF) hZ (hw _ (List.mem_of_getElem? (i := 13) rfl)) (hw _ (List.mem_of_getElem? (i := 12) rfl)) (by decide) (by decide)) (g := (mkF m 165 #[.val (.long p1), .second, .val (.int p2), .val (.int p3), .val (.int p4), .val (.long vv), .second, .val (.int at0), .val (.int sb), .val (.ref b3), .val (.int r0), .val (.long z), .second, .unset] [(.int (35 : Int32)), (.long z), (.int s43)])) rfl (by rw [hml]; rfl) (argsL := [(.long z), (.int (35 : Int32))]) (rest := [(.int s43)]) (lenOf pd_3 rfl) rfl (by show 2 * 0 + _ ≤ _; exact Nat.le_of_eq rfl) (hb hby at_165) (fun _ _ => ⟨rfl, eh43, (by decide : 1 + 0 ≤ _), (by decide : 12 + 0 ≤ _)⟩)
  dsimp only [Pt.U, Pt.locs, Pt.cells, Pt.slots] at X46 l46 y46 z46 st46 hQ46
  obtain ⟨rfl, N46q, eh46⟩ := hQ46
  have C46 : Go p e below T46 (mkF m 168 #[.val (.long p1), .second, .val (.int p2), .val (.int p3), .val (.int p4), .val (.long vv), .second, .val (.int at0), .val (.int sb), .val (.ref b3), .val (.int r0), .val (.long z), .second, .unset] [(.int (own_more z (35 : Int32))), (.int s43)]) s₁ F0 := fun t k => C45 t (st46 t k)
  have N46 : Fr n0 L46 := by rw [l46]; exact Fr.app N43 N46q
  have LS46 : Stand p l e room_1 s m #[(.long p1), (.int p2), (.int p3), (.int p4)] below meth c T46 L46 1 12 := by rw [y46, z46] at X46; exact X46
  have C47 : Go p e below T46 (mkF m 169 #[.val (.long p1), .second, .val (.int p2), .val (.int p3), .val (.int p4), .val (.long vv), .second, .val (.int at0), .val (.int sb), .val (.ref b3), .val (.int r0), .val (.long z), .second, .unset] [(.int (s43 + (own_more z (35 : Int32))))]) s₁ F0 := fun t k => C46 t (by
    refine XS.iadd LS46.here hx rfl (hb hby at_168) rfl ?_
    exact k)
  obtain ⟨s46, hs46, Cs46⟩ : ∃ s46 : Int32, s46 = (s43 + (own_more z (35 : Int32))) ∧ Go p e below T46 (mkF m 169 #[.val (.long p1), .second, .val (.int p2), .val (.int p3), .val (.int p4), .val (.long vv), .second, .val (.int at0), .val (.int sb), .val (.ref b3), .val (.int r0), .val (.long z), .second, .unset] [(.int s46)]) s₁ F0 := ⟨_, rfl, C47⟩
  have C48 : Go p e below T46 (mkF m 173 #[.val (.long p1), .second, .val (.int p2), .val (.int p3), .val (.int p4), .val (.long vv), .second, .val (.int at0), .val (.int sb), .val (.ref b3), .val (.int r0), .val (.long z), .second, .unset] [(.int (42 : Int32)), (.long z), (.int s46)]) s₁ F0 := fun t k => Cs46 t (by
    refine XS.lload LS46.here hx rfl (hb hby at_169) rfl ?_
    show Steps p.tables e below (T46.setTop (mkF m 171 #[.val (.long p1), .second, .val (.int p2), .val (.int p3), .val (.int p4), .val (.long vv), .second, .val (.int at0), .val (.int sb), .val (.ref b3), .val (.int r0), .val (.long z), .second, .unset] [(.long z), (.int s46)])) _
    refine XS.bipush LS46.here hx rfl (hb hby at_171) ?_
    exact k)
  obtain ⟨_, _, ⟨T49, L49, k49, n49⟩, -, X49, ⟨Lc49, hQ49, l49, y49, z49⟩, st49⟩ := Jvm.LawKit.callS LS46 hx (y := (⟨"com/example/tidelog/tidelog/VarintsPutVarlongPinLaw", "more", "(JI)I"⟩ : MethodName)) hown (mvT hZ (hw _ (List.mem_of_getElem? (i := 10) rfl))) (mvT hZ (hw _ (List.mem_of_getElem? (i := 11) rfl))) (mvT hZ (hw _ (List.mem_of_getElem? (i := 12) rfl))) (mvT hZ (hw _ (List.mem_of_getElem? (i := 13) rfl))) (by decide) (backOf (W := 1) (rm3 l Z a0 hw [] z (42 : Int32) hF n0 ZF) hZ (hw _ (List.mem_of_getElem? (i := 13) rfl)) (hw _ (List.mem_of_getElem? (i := 12) rfl)) (by decide) (by decide)) (g := (mkF m 173 #[.val (.long p1), .second, .val (.int p2), .val (.int p3), .val (.int p4), .val (.long vv), .second, .val (.int at0), .val (.int sb), .val (.ref b3), .val (.int r0), .val (.long z), .second, .unset] [(.int (42 : Int32)), (.long z), (.int s46)])) rfl (by rw [hml]; rfl) (argsL := [(.long z), (.int (42 : Int32))]) (rest := [(.int s46)]) (lenOf pd_3 rfl) rfl (by show 2 * 0 + _ ≤ _; exact Nat.le_of_eq rfl) (hb hby at_173) (fun _ _ => ⟨rfl, eh46, (by decide : 1 + 0 ≤ _), (by decide : 12 + 0 ≤ _)⟩)
  dsimp only [Pt.U, Pt.locs, Pt.cells, Pt.slots] at X49 l49 y49 z49 st49 hQ49
  obtain ⟨rfl, N49q, eh49⟩ := hQ49
  have C49 : Go p e below T49 (mkF m 176 #[.val (.long p1), .second, .val (.int p2), .val (.int p3), .val (.int p4), .val (.long vv), .second, .val (.int at0), .val (.int sb), .val (.ref b3), .val (.int r0), .val (.long z), .second, .unset] [(.int (own_more z (42 : Int32))), (.int s46)]) s₁ F0 := fun t k => C48 t (st49 t k)
  have N49 : Fr n0 L49 := by rw [l49]; exact Fr.app N46 N49q
  have LS49 : Stand p l e room_1 s m #[(.long p1), (.int p2), (.int p3), (.int p4)] below meth c T49 L49 1 12 := by rw [y49, z49] at X49; exact X49
  have C50 : Go p e below T49 (mkF m 177 #[.val (.long p1), .second, .val (.int p2), .val (.int p3), .val (.int p4), .val (.long vv), .second, .val (.int at0), .val (.int sb), .val (.ref b3), .val (.int r0), .val (.long z), .second, .unset] [(.int (s46 + (own_more z (42 : Int32))))]) s₁ F0 := fun t k => C49 t (by
    refine XS.iadd LS49.here hx rfl (hb hby at_176) rfl ?_
    exact k)
  obtain ⟨s49, hs49, Cs49⟩ : ∃ s49 : Int32, s49 = (s46 + (own_more z (42 : Int32))) ∧ Go p e below T49 (mkF m 177 #[.val (.long p1), .second, .val (.int p2), .val (.int p3), .val (.int p4), .val (.long vv), .second, .val (.int at0), .val (.int sb), .val (.ref b3), .val (.int r0), .val (.long z), .second, .unset] [(.int s49)]) s₁ F0 := ⟨_, rfl, C50⟩
  have C51 : Go p e below T49 (mkF m 181 #[.val (.long p1), .second, .val (.int p2), .val (.int p3), .val (.int p4), .val (.long vv), .second, .val (.int at0), .val (.int sb), .val (.ref b3), .val (.int r0), .val (.long z), .second, .unset] [(.int (49 : Int32)), (.long z), (.int s49)]) s₁ F0 := fun t k => Cs49 t (by
    refine XS.lload LS49.here hx rfl (hb hby at_177) rfl ?_
    show Steps p.tables e below (T49.setTop (mkF m 179 #[.val (.long p1), .second, .val (.int p2), .val (.int p3), .val (.int p4), .val (.long vv), .second, .val (.int at0), .val (.int sb), .val (.ref b3), .val (.int r0), .val (.long z), .second, .unset] [(.long z), (.int s49)])) _
    refine XS.bipush LS49.here hx rfl (hb hby at_179) ?_
    exact k)
  obtain ⟨_, _, ⟨T52, L52, k52, n52⟩, -, X52, ⟨Lc52, hQ52, l52, y52, z52⟩, st52⟩ := Jvm.LawKit.callS LS49 hx (y := (⟨"com/example/tidelog/tidelog/VarintsPutVarlongPinLaw", "more", "(JI)I"⟩ : MethodName)) hown (mvT hZ (hw _ (List.mem_of_getElem? (i := 10) rfl))) (mvT hZ (hw _ (List.mem_of_getElem? (i := 11) rfl))) (mvT hZ (hw _ (List.mem_of_getElem? (i := 12) rfl))) (mvT hZ (hw _ (List.mem_of_getElem? (i := 13) rfl))) (by decide) (backOf (W := 1) (rm3 l Z a0 hw [] z (49 : Int32) hF n0 ZF) hZ (hw _ (List.mem_of_getElem? (i := 13) rfl)) (hw _ (List.mem_of_getElem? (i := 12) rfl)) (by decide) (by decide)) (g := (mkF m 181 #[.val (.long p1), .second, .val (.int p2), .val (.int p3), .val (.int p4), .val (.long vv), .second, .val (.int at0), .val (.int sb), .val (.ref b3), .val (.int r0), .val (.long z), .second, .unset] [(.int (49 : Int32)), (.long z), (.int s49)])) rfl (by rw [hml]; rfl) (argsL := [(.long z), (.int (49 : Int32))]) (rest := [(.int s49)]) (lenOf pd_3 rfl) rfl (by show 2 * 0 + _ ≤ _; exact Nat.le_of_eq rfl) (hb hby at_181) (fun _ _ => ⟨rfl, eh49, (by decide : 1 + 0 ≤ _), (by decide : 12 + 0 ≤ _)⟩)
  dsimp only [Pt.U, Pt.locs, Pt.cells, Pt.slots] at X52 l52 y52 z52 st52 hQ52
  obtain ⟨rfl, N52q, eh52⟩ := hQ52
  have C52 : Go p e below T52 (mkF m 184 #[.val (.long p1), .second, .val (.int p2), .val (.int p3), .val (.int p4), .val (.long vv), .second, .val (.int at0), .val (.int sb), .val (.ref b3), .val (.int r0), .val (.long z), .second, .unset] [(.int (own_more z (49 : Int32))), (.int s49)]) s₁ F0 := fun t k => C51 t (st52 t k)
  have N52 : Fr n0 L52 := by rw [l52]; exact Fr.app N49 N52q
  have LS52 : Stand p l e room_1 s m #[(.long p1), (.int p2), (.int p3), (.int p4)] below meth c T52 L52 1 12 := by rw [y52, z52] at X52; exact X52
  have C53 : Go p e below T52 (mkF m 185 #[.val (.long p1), .second, .val (.int p2), .val (.int p3), .val (.int p4), .val (.long vv), .second, .val (.int at0), .val (.int sb), .val (.ref b3), .val (.int r0), .val (.long z), .second, .unset] [(.int (s49 + (own_more z (49 : Int32))))]) s₁ F0 := fun t k => C52 t (by
    refine XS.iadd LS52.here hx rfl (hb hby at_184) rfl ?_
    exact k)
  obtain ⟨s52, hs52, Cs52⟩ : ∃ s52 : Int32, s52 = (s49 + (own_more z (49 : Int32))) ∧ Go p e below T52 (mkF m 185 #[.val (.long p1), .second, .val (.int p2), .val (.int p3), .val (.int p4), .val (.long vv), .second, .val (.int at0), .val (.int sb), .val (.ref b3), .val (.int r0), .val (.long z), .second, .unset] [(.int s52)]) s₁ F0 := ⟨_, rfl, C53⟩
  have C54 : Go p e below T52 (mkF m 189 #[.val (.long p1), .second, .val (.int p2), .val (.int p3), .val (.int p4), .val (.long vv), .second, .val (.int at0), .val (.int sb), .val (.ref b3), .val (.int r0), .val (.long z), .second, .unset] [(.int (56 : Int32)), (.long z), (.int s52)]) s₁ F0 := fun t k => Cs52 t (by
    refine XS.lload LS52.here hx rfl (hb hby at_185) rfl ?_
    show Steps p.tables e below (T52.setTop (mkF m 187 #[.val (.long p1), .second, .val (.int p2), .val (.int p3), .val (.int p4), .val (.long vv), .second, .val (.int at0), .val (.int sb), .val (.ref b3), .val (.int r0), .val (.long z), .second, .unset] [(.long z), (.int s52)])) _
    refine XS.bipush LS52.here hx rfl (hb hby at_187) ?_
    exact k)
  obtain ⟨_, _, ⟨T55, L55, k55, n55⟩, -, X55, ⟨Lc55, hQ55, l55, y55, z55⟩, st55⟩ := Jvm.LawKit.callS LS52 hx (y := (⟨"com/example/tidelog/tidelog/VarintsPutVarlongPinLaw", "more", "(JI)I"⟩ : MethodName)) hown (mvT hZ (hw _ (List.mem_of_getElem? (i := 10) rfl))) (mvT hZ (hw _ (List.mem_of_getElem? (i := 11) rfl))) (mvT hZ (hw _ (List.mem_of_getElem? (i := 12) rfl))) (mvT hZ (hw _ (List.mem_of_getElem? (i := 13) rfl))) (by decide) (backOf (W := 1) (rm3 l Z a0 hw [] z (56 : Int32) hF n0 ZF) hZ (hw _ (List.mem_of_getElem? (i := 13) rfl)) (hw _ (List.mem_of_getElem? (i := 12) rfl)) (by decide) (by decide)) (g := (mkF m 189 #[.val (.long p1), .second, .val (.int p2), .val (.int p3), .val (.int p4), .val (.long vv), .second, .val (.int at0), .val (.int sb), .val (.ref b3), .val (.int r0), .val (.long z), .second, .unset] [(.int (56 : Int32)), (.long z), (.int s52)])) rfl (by rw [hml]; rfl) (argsL := [(.long z), (.int (56 : Int32))]) (rest := [(.int s52)]) (lenOf pd_3 rfl) rfl (by show 2 * 0 + _ ≤ _; exact Nat.le_of_eq rfl) (hb hby at_189) (fun _ _ => ⟨rfl, eh52, (by decide : 1 + 0 ≤ _), (by decide : 12 + 0 ≤ _)⟩)
  dsimp only [Pt.U, Pt.locs, Pt.cells, Pt.slots] at X55 l55 y55 z55 st55 hQ55
  obtain ⟨rfl, N55q, eh55⟩ := hQ55
  have C55 : Go p e below T55 (mkF m 192 #[.val (.long p1), .second, .val (.int p2), .val (.int p3), .val (.int p4), .val (.long vv), .second, .val (.int at0), .val (.int sb), .val (.ref b3), .val (.int r0), .val (.long z), .second, .unset] [(.int (own_more z (56 : Int32))), (.int s52)]) s₁ F0 := fun t k => C54 t (st55 t k)
  have N55 : Fr n0 L55 := by rw [l55]; exact Fr.app N52 N55q
  have LS55 : Stand p l e room_1 s m #[(.long p1), (.int p2), (.int p3), (.int p4)] below meth c T55 L55 1 12 := by rw [y55, z55] at X55; exact X55
  have C56 : Go p e below T55 (mkF m 193 #[.val (.long p1), .second, .val (.int p2), .val (.int p3), .val (.int p4), .val (.long vv), .second, .val (.int at0), .val (.int sb), .val (.ref b3), .val (.int r0), .val (.long z), .second, .unset] [(.int (s52 + (own_more z (56 : Int32))))]) s₁ F0 := fun t k => C55 t (by
    refine XS.iadd LS55.here hx rfl (hb hby at_192) rfl ?_
    exact k)
  obtain ⟨s55, hs55, Cs55⟩ : ∃ s55 : Int32, s55 = (s52 + (own_more z (56 : Int32))) ∧ Go p e below T55 (mkF m 193 #[.val (.long p1), .second, .val (.int p2), .val (.int p3), .val (.int p4), .val (.long vv), .second, .val (.int at0), .val (.int sb), .val (.ref b3), .val (.int r0), .val (.long z), .second, .unset] [(.int s55)]) s₁ F0 := ⟨_, rfl, C56⟩
  have C57 : Go p e below T55 (mkF m 197 #[.val (.long p1), .second, .val (.int p2), .val (.int p3), .val (.int p4), .val (.long vv), .second, .val (.int at0), .val (.int sb), .val (.ref b3), .val (.int r0), .val (.long z), .second, .unset] [(.int (63 : Int32)), (.long z), (.int s55)]) s₁ F0 := fun t k => Cs55 t (by
    refine XS.lload LS55.here hx rfl (hb hby at_193) rfl ?_
    show Steps p.tables e below (T55.setTop (mkF m 195 #[.val (.long p1), .second, .val (.int p2), .val (.int p3), .val (.int p4), .val (.long vv), .second, .val (.int at0), .val (.int sb), .val (.ref b3), .val (.int r0), .val (.long z), .second, .unset] [(.long z), (.int s55)])) _
    refine XS.bipush LS55.here hx rfl (hb hby at_195) ?_
    exact k)
  obtain ⟨_, _, ⟨T58, L58, k58, n58⟩, -, X58, ⟨Lc58, hQ58, l58, y58, z58⟩, st58⟩ := Jvm.LawKit.callS LS55 hx (y := (⟨"com/example/tidelog/tidelog/VarintsPutVarlongPinLaw", "more", "(JI)I"⟩ : MethodName)) hown (mvT hZ (hw _ (List.mem_of_getElem? (i := 10) rfl))) (mvT hZ (hw _ (List.mem_of_getElem? (i := 11) rfl))) (mvT hZ (hw _ (List.mem_of_getElem? (i := 12) rfl))) (mvT hZ (hw _ (List.mem_of_getElem? (i := 13) rfl))) (by decide) (backOf (W := 1) (rm3 l Z a0 hw [] z (63 : Int32) hF n0 ZF) hZ (hw _ (List.mem_of_getElem? (i := 13) rfl)) (hw _ (List.mem_of_getElem? (i := 12) rfl)) (by decide) (by decide)) (g := (mkF m 197 #[.val (.long p1), .second, .val (.int p2), .val (.int p3), .val (.int p4), .val (.long vv), .second, .val (.int at0), .val (.int sb), .val (.ref b3), .val (.int r0), .val (.long z), .second, .unset] [(.int (63 : Int32)), (.long z), (.int s55)])) rfl (by rw [hml]; rfl) (argsL := [(.long z), (.int (63 : Int32))]) (rest := [(.int s55)]) (lenOf pd_3 rfl) rfl (by show 2 * 0 + _ ≤ _; exact Nat.le_of_eq rfl) (hb hby at_197) (fun _ _ => ⟨rfl, eh55, (by decide : 1 + 0 ≤ _), (by decide : 12 + 0 ≤ _)⟩)
  dsimp only [Pt.U, Pt.locs, Pt.cells, Pt.slots] at X58 l58 y58 z58 st58 hQ58
  obtain ⟨rfl, N58q, eh58⟩ := hQ58
  have C58 : Go p e below T58 (mkF m 200 #[.val (.long p1), .second, .val (.int p2), .val (.int p3), .val (.int p4), .val (.long vv), .second, .val (.int at0), .val (.int sb), .val (.ref b3), .val (.int r0), .val (.long z), .second, .unset] [(.int (own_more z (63 : Int32))), (.int s55)]) s₁ F0 := fun t k => C57 t (st58 t k)
  have N58 : Fr n0 L58 := by rw [l58]; exact Fr.app N55 N58q
  have LS58 : Stand p l e room_1 s m #[(.long p1), (.int p2), (.int p3), (.int p4)] below meth c T58 L58 1 12 := by rw [y58, z58] at X58; exact X58
  have C59 : Go p e below T58 (mkF m 201 #[.val (.long p1), .second, .val (.int p2), .val (.int p3), .val (.int p4), .val (.long vv), .second, .val (.int at0), .val (.int sb), .val (.ref b3), .val (.int r0), .val (.long z), .second, .unset] [(.int (s55 + (own_more z (63 : Int32))))]) s₁ F0 := fun t k => C58 t (by
    refine XS.iadd LS58.here hx rfl (hb hby at_200) rfl ?_
    exact k)
  obtain ⟨s58, hs58, Cs58⟩ : ∃ s58 : Int32, s58 = (s55 + (own_more z (63 : Int32))) ∧ Go p e below T58 (mkF m 201 #[.val (.long p1), .second, .val (.int p2), .val (.int p3), .val (.int p4), .val (.long vv), .second, .val (.int at0), .val (.int sb), .val (.ref b3), .val (.int r0), .val (.long z), .second, .unset] [(.int s58)]) s₁ F0 := ⟨_, rfl, C59⟩
  have C60 : Go p e below T58 (mkF m 203 #[.val (.long p1), .second, .val (.int p2), .val (.int p3), .val (.int p4), .val (.long vv), .second, .val (.int at0), .val (.int sb), .val (.ref b3), .val (.int r0), .val (.long z), .second, .val (.int s58)] []) s₁ F0 := fun t k => Cs58 t (by
    refine XS.istore LS58.here hx rfl (hb hby at_201) rfl (l' := #[.val (.long p1), .second, .val (.int p2), .val (.int p3), .val (.int p4), .val (.long vv), .second, .val (.int at0), .val (.int sb), .val (.ref b3), .val (.int r0), .val (.long z), .second, .val (.int s58)]) rfl ?_
    exact k)
  have hnn : s58.toInt = n := by
    have hN : (own_N z).toInt = n := own_N_n z n hn1 hn10 hn
    rw [hs58, hs55, hs52, hs49, hs46, hs43, hs40, hs37, hs34]; exact hN
  have hrn : r0 = at0 + s58 := by
    have q := c_iadd at0 s58
    have r := rng32 (at0 + s58)
    apply Int32.toInt_inj.mp; omega
  have C61 : Go p e below T58 (mkF m 215 #[.val (.long p1), .second, .val (.int p2), .val (.int p3), .val (.int p4), .val (.long vv), .second, .val (.int at0), .val (.int sb), .val (.ref b3), .val (.int r0), .val (.long z), .second, .val (.int s58)] []) s₁ F0 := fun t k => C60 t (by
    refine XS.iload LS58.here hx rfl (hb hby at_203) rfl ?_
    show Steps p.tables e below (T58.setTop (mkF m 205 #[.val (.long p1), .second, .val (.int p2), .val (.int p3), .val (.int p4), .val (.long vv), .second, .val (.int at0), .val (.int sb), .val (.ref b3), .val (.int r0), .val (.long z), .second, .val (.int s58)] [(.int r0)])) _
    refine XS.iload LS58.here hx rfl (hb hby at_205) rfl ?_
    show Steps p.tables e below (T58.setTop (mkF m 207 #[.val (.long p1), .second, .val (.int p2), .val (.int p3), .val (.int p4), .val (.long vv), .second, .val (.int at0), .val (.int sb), .val (.ref b3), .val (.int r0), .val (.long z), .second, .val (.int s58)] [(.int at0), (.int r0)])) _
    refine XS.iload LS58.here hx rfl (hb hby at_207) rfl ?_
    show Steps p.tables e below (T58.setTop (mkF m 209 #[.val (.long p1), .second, .val (.int p2), .val (.int p3), .val (.int p4), .val (.long vv), .second, .val (.int at0), .val (.int sb), .val (.ref b3), .val (.int r0), .val (.long z), .second, .val (.int s58)] [(.int s58), (.int at0), (.int r0)])) _
    refine XS.iadd LS58.here hx rfl (hb hby at_209) rfl ?_
    show Steps p.tables e below (T58.setTop (mkF m 210 #[.val (.long p1), .second, .val (.int p2), .val (.int p3), .val (.int p4), .val (.long vv), .second, .val (.int at0), .val (.int sb), .val (.ref b3), .val (.int r0), .val (.long z), .second, .val (.int s58)] [(.int (at0 + s58)), (.int r0)])) _
    refine XS.icmpYes LS58.here hx rfl (pc0 := 210) (pc' := 215) rfl (hb hby at_210) rfl (teq hrn).1 (by decide) (by decide) ?_
    exact k)
  have C62 : Go p e below T58 (mkF m 226 #[.val (.long p1), .second, .val (.int p2), .val (.int p3), .val (.int p4), .val (.long vv), .second, .val (.int at0), .val (.int sb), .val (.ref b3), .val (.int r0), .val (.long z), .second, .val (.int s58)] [(.int sb), (.int s58), (.long z), (.int at0), (.int (0 : Int32)), (.ref b3)]) s₁ F0 := fun t k => C61 t (by
    refine XS.aload LS58.here hx rfl (hb hby at_215) rfl rfl ?_
    show Steps p.tables e below (T58.setTop (mkF m 217 #[.val (.long p1), .second, .val (.int p2), .val (.int p3), .val (.int p4), .val (.long vv), .second, .val (.int at0), .val (.int sb), .val (.ref b3), .val (.int r0), .val (.long z), .second, .val (.int s58)] [(.ref b3)])) _
    refine XS.iconst LS58.here hx rfl (hb hby at_217) ?_
    show Steps p.tables e below (T58.setTop (mkF m 218 #[.val (.long p1), .second, .val (.int p2), .val (.int p3), .val (.int p4), .val (.long vv), .second, .val (.int at0), .val (.int sb), .val (.ref b3), .val (.int r0), .val (.long z), .second, .val (.int s58)] [(.int (0 : Int32)), (.ref b3)])) _
    refine XS.iload LS58.here hx rfl (hb hby at_218) rfl ?_
    show Steps p.tables e below (T58.setTop (mkF m 220 #[.val (.long p1), .second, .val (.int p2), .val (.int p3), .val (.int p4), .val (.long vv), .second, .val (.int at0), .val (.int sb), .val (.ref b3), .val (.int r0), .val (.long z), .second, .val (.int s58)] [(.int at0), (.int (0 : Int32)), (.ref b3)])) _
    refine XS.lload LS58.here hx rfl (hb hby at_220) rfl ?_
    show Steps p.tables e below (T58.setTop (mkF m 222 #[.val (.long p1), .second, .val (.int p2), .val (.int p3), .val (.int p4), .val (.long vv), .second, .val (.int at0), .val (.int sb), .val (.ref b3), .val (.int r0), .val (.long z), .second, .val (.int s58)] [(.long z), (.int at0), (.int (0 : Int32)), (.ref b3)])) _
    refine XS.iload LS58.here hx rfl (hb hby at_222) rfl ?_
    show Steps p.tables e below (T58.setTop (mkF m 224 #[.val (.long p1), .second, .val (.int p2), .val (.int p3), .val (.int p4), .val (.long vv), .second, .val (.int at0), .val (.int sb), .val (.ref b3), .val (.int r0), .val (.long z), .second, .val (.int s58)] [(.int s58), (.long z), (.int at0), (.int (0 : Int32)), (.ref b3)])) _
    refine XS.iload LS58.here hx rfl (hb hby at_224) rfl ?_
    exact k)
  obtain ⟨y0, hy0, hi0, ho0⟩ := PF.2 0 (by decide)
  have oc0 := own_cell (J := (0 : Int32)) (j := 0) (s := sb) rfl hat0 hnn ha (by decide) hn10 hi0 ho0
  obtain ⟨_, _, ⟨T63, L63, k63, n63⟩, -, X63, ⟨Lc63, hQ63, l63, y63, z63⟩, st63⟩ := Jvm.LawKit.callS LS58 hx (y := (⟨"com/example/tidelog/tidelog/VarintsPutVarlongPinLaw", "cell", "([BIIJIB)Z"⟩ : MethodName)) hown (mvT hZ (hw _ (List.mem_of_getElem? (i := 14) rfl))) (mvT hZ (hw _ (List.mem_of_getElem? (i := 15) rfl))) (mvT hZ (hw _ (List.mem_of_getElem? (i := 12) rfl))) (mvT hZ (hw _ (List.mem_of_getElem? (i := 16) rfl))) (by decide) (backOf (W := 0) (rm4 l Z a0 hw [] b3 0 at0 z s58 sb k3 vsF 0 y0 hF n0 ZF VF rfl (by decide) hy0 oc0.1 oc0.2) hZ (hw _ (List.mem_of_getElem? (i := 16) rfl)) (hw _ (List.mem_of_getElem? (i := 12) rfl)) (by decide) (by decide)) (g := (mkF m 226 #[.val (.long p1), .second, .val (.int p2), .val (.int p3), .val (.int p4), .val (.long vv), .second, .val (.int at0), .val (.int sb), .val (.ref b3), .val (.int r0), .val (.long z), .second, .val (.int s58)] [(.int sb), (.int s58), (.long z), (.int at0), (.int (0 : Int32)), (.ref b3)])) rfl (by rw [hml]; rfl) (argsL := [(.ref b3), (.int (0 : Int32)), (.int at0), (.long z), (.int s58), (.int sb)]) (rest := []) (lenOf pd_4 rfl) rfl (by show 2 * 0 + _ ≤ _; exact Nat.le_of_eq rfl) (hb hby at_226) (fun _ _ => ⟨rfl, eh58, (by decide : 1 + 0 ≤ _), (by decide : 12 + 0 ≤ _)⟩)
  dsimp only [Pt.U, Pt.locs, Pt.cells, Pt.slots] at X63 l63 y63 z63 st63 hQ63
  obtain ⟨rfl, N63q, eh63⟩ := hQ63
  have C63 : Go p e below T63 (mkF m 229 #[.val (.long p1), .second, .val (.int p2), .val (.int p3), .val (.int p4), .val (.long vv), .second, .val (.int at0), .val (.int sb), .val (.ref b3), .val (.int r0), .val (.long z), .second, .val (.int s58)] [(.int (1 : Int32))]) s₁ F0 := fun t k => C62 t (st63 t k)
  have N63 : Fr n0 L63 := by rw [l63]; exact Fr.app N58 N63q
  have LS63 : Stand p l e room_1 s m #[(.long p1), (.int p2), (.int p3), (.int p4)] below meth c T63 L63 1 12 := by rw [y63, z63] at X63; exact X63
  have C64 : Go p e below T63 (mkF m 232 #[.val (.long p1), .second, .val (.int p2), .val (.int p3), .val (.int p4), .val (.long vv), .second, .val (.int at0), .val (.int sb), .val (.ref b3), .val (.int r0), .val (.long z), .second, .val (.int s58)] []) s₁ F0 := fun t k => C63 t (by
    refine XS.ifNo LS63.here hx rfl (hb hby at_229) rfl (by decide) ?_
    exact k)
  have C65 : Go p e below T63 (mkF m 243 #[.val (.long p1), .second, .val (.int p2), .val (.int p3), .val (.int p4), .val (.long vv), .second, .val (.int at0), .val (.int sb), .val (.ref b3), .val (.int r0), .val (.long z), .second, .val (.int s58)] [(.int sb), (.int s58), (.long z), (.int at0), (.int (1 : Int32)), (.ref b3)]) s₁ F0 := fun t k => C64 t (by
    refine XS.aload LS63.here hx rfl (hb hby at_232) rfl rfl ?_
    show Steps p.tables e below (T63.setTop (mkF m 234 #[.val (.long p1), .second, .val (.int p2), .val (.int p3), .val (.int p4), .val (.long vv), .second, .val (.int at0), .val (.int sb), .val (.ref b3), .val (.int r0), .val (.long z), .second, .val (.int s58)] [(.ref b3)])) _
    refine XS.iconst LS63.here hx rfl (hb hby at_234) ?_
    show Steps p.tables e below (T63.setTop (mkF m 235 #[.val (.long p1), .second, .val (.int p2), .val (.int p3), .val (.int p4), .val (.long vv), .second, .val (.int at0), .val (.int sb), .val (.ref b3), .val (.int r0), .val (.long z), .second, .val (.int s58)] [(.int (1 : Int32)), (.ref b3)])) _
    refine XS.iload LS63.here hx rfl (hb hby at_235) rfl ?_
    show Steps p.tables e below (T63.setTop (mkF m 237 #[.val (.long p1), .second, .val (.int p2), .val (.int p3), .val (.int p4), .val (.long vv), .second, .val (.int at0), .val (.int sb), .val (.ref b3), .val (.int r0), .val (.long z), .second, .val (.int s58)] [(.int at0), (.int (1 : Int32)), (.ref b3)])) _
    refine XS.lload LS63.here hx rfl (hb hby at_237) rfl ?_
    show Steps p.tables e below (T63.setTop (mkF m 239 #[.val (.long p1), .second, .val (.int p2), .val (.int p3), .val (.int p4), .val (.long vv), .second, .val (.int at0), .val (.int sb), .val (.ref b3), .val (.int r0), .val (.long z), .second, .val (.int s58)] [(.long z), (.int at0), (.int (1 : Int32)), (.ref b3)])) _
    refine XS.iload LS63.here hx rfl (hb hby at_239) rfl ?_
    show Steps p.tables e below (T63.setTop (mkF m 241 #[.val (.long p1), .second, .val (.int p2), .val (.int p3), .val (.int p4), .val (.long vv), .second, .val (.int at0), .val (.int sb), .val (.ref b3), .val (.int r0), .val (.long z), .second, .val (.int s58)] [(.int s58), (.long z), (.int at0), (.int (1 : Int32)), (.ref b3)])) _
    refine XS.iload LS63.here hx rfl (hb hby at_241) rfl ?_
    exact k)
  obtain ⟨y1, hy1, hi1, ho1⟩ := PF.2 1 (by decide)
  have oc1 := own_cell (J := (1 : Int32)) (j := 1) (s := sb) rfl hat0 hnn ha (by decide) hn10 hi1 ho1
  obtain ⟨_, _, ⟨T66, L66, k66, n66⟩, -, X66, ⟨Lc66, hQ66, l66, y66, z66⟩, st66⟩ := Jvm.LawKit.callS LS63 hx (y := (⟨"com/example/tidelog/tidelog/VarintsPutVarlongPinLaw", "cell", "([BIIJIB)Z"⟩ : MethodName)) hown (mvT hZ (hw _ (List.mem_of_getElem? (i := 14) rfl))) (mvT hZ (hw _ (List.mem_of_getElem? (i := 15) rfl))) (mvT hZ (hw _ (List.mem_of_getElem? (i := 12) rfl))) (mvT hZ (hw _ (List.mem_of_getElem? (i := 16) rfl))) (by decide) (backOf (W := 0) (rm4 l Z a0 hw [] b3 1 at0 z s58 sb k3 vsF 1 y1 hF n0 ZF VF rfl (by decide) hy1 oc1.1 oc1.2) hZ (hw _ (List.mem_of_getElem? (i := 16) rfl)) (hw _ (List.mem_of_getElem? (i := 12) rfl)) (by decide) (by decide)) (g := (mkF m 243 #[.val (.long p1), .second, .val (.int p2), .val (.int p3), .val (.int p4), .val (.long vv), .second, .val (.int at0), .val (.int sb), .val (.ref b3), .val (.int r0), .val (.long z), .second, .val (.int s58)] [(.int sb), (.int s58), (.long z), (.int at0), (.int (1 : Int32)), (.ref b3)])) rfl (by rw [hml]; rfl) (argsL := [(.ref b3), (.int (1 : Int32)), (.int at0), (.long z), (.int s58), (.int sb)]) (rest := []) (lenOf pd_4 rfl) rfl (by show 2 * 0 + _ ≤ _; exact Nat.le_of_eq rfl) (hb hby at_243) (fun _ _ => ⟨rfl, eh63, (by decide : 1 + 0 ≤ _), (by decide : 12 + 0 ≤ _)⟩)
  dsimp only [Pt.U, Pt.locs, Pt.cells, Pt.slots] at X66 l66 y66 z66 st66 hQ66
  obtain ⟨rfl, N66q, eh66⟩ := hQ66
  have C66 : Go p e below T66 (mkF m 246 #[.val (.long p1), .second, .val (.int p2), .val (.int p3), .val (.int p4), .val (.long vv), .second, .val (.int at0), .val (.int sb), .val (.ref b3), .val (.int r0), .val (.long z), .second, .val (.int s58)] [(.int (1 : Int32))]) s₁ F0 := fun t k => C65 t (st66 t k)
  have N66 : Fr n0 L66 := by rw [l66]; exact Fr.app N63 N66q
  have LS66 : Stand p l e room_1 s m #[(.long p1), (.int p2), (.int p3), (.int p4)] below meth c T66 L66 1 12 := by rw [y66, z66] at X66; exact X66
  have C67 : Go p e below T66 (mkF m 249 #[.val (.long p1), .second, .val (.int p2), .val (.int p3), .val (.int p4), .val (.long vv), .second, .val (.int at0), .val (.int sb), .val (.ref b3), .val (.int r0), .val (.long z), .second, .val (.int s58)] []) s₁ F0 := fun t k => C66 t (by
    refine XS.ifNo LS66.here hx rfl (hb hby at_246) rfl (by decide) ?_
    exact k)
  have C68 : Go p e below T66 (mkF m 260 #[.val (.long p1), .second, .val (.int p2), .val (.int p3), .val (.int p4), .val (.long vv), .second, .val (.int at0), .val (.int sb), .val (.ref b3), .val (.int r0), .val (.long z), .second, .val (.int s58)] [(.int sb), (.int s58), (.long z), (.int at0), (.int (2 : Int32)), (.ref b3)]) s₁ F0 := fun t k => C67 t (by
    refine XS.aload LS66.here hx rfl (hb hby at_249) rfl rfl ?_
    show Steps p.tables e below (T66.setTop (mkF m 251 #[.val (.long p1), .second, .val (.int p2), .val (.int p3), .val (.int p4), .val (.long vv), .second, .val (.int at0), .val (.int sb), .val (.ref b3), .val (.int r0), .val (.long z), .second, .val (.int s58)] [(.ref b3)])) _
    refine XS.iconst LS66.here hx rfl (hb hby at_251) ?_
    show Steps p.tables e below (T66.setTop (mkF m 252 #[.val (.long p1), .second, .val (.int p2), .val (.int p3), .val (.int p4), .val (.long vv), .second, .val (.int at0), .val (.int sb), .val (.ref b3), .val (.int r0), .val (.long z), .second, .val (.int s58)] [(.int (2 : Int32)), (.ref b3)])) _
    refine XS.iload LS66.here hx rfl (hb hby at_252) rfl ?_
    show Steps p.tables e below (T66.setTop (mkF m 254 #[.val (.long p1), .second, .val (.int p2), .val (.int p3), .val (.int p4), .val (.long vv), .second, .val (.int at0), .val (.int sb), .val (.ref b3), .val (.int r0), .val (.long z), .second, .val (.int s58)] [(.int at0), (.int (2 : Int32)), (.ref b3)])) _
    refine XS.lload LS66.here hx rfl (hb hby at_254) rfl ?_
    show Steps p.tables e below (T66.setTop (mkF m 256 #[.val (.long p1), .second, .val (.int p2), .val (.int p3), .val (.int p4), .val (.long vv), .second, .val (.int at0), .val (.int sb), .val (.ref b3), .val (.int r0), .val (.long z), .second, .val (.int s58)] [(.long z), (.int at0), (.int (2 : Int32)), (.ref b3)])) _
    refine XS.iload LS66.here hx rfl (hb hby at_256) rfl ?_
    show Steps p.tables e below (T66.setTop (mkF m 258 #[.val (.long p1), .second, .val (.int p2), .val (.int p3), .val (.int p4), .val (.long vv), .second, .val (.int at0), .val (.int sb), .val (.ref b3), .val (.int r0), .val (.long z), .second, .val (.int s58)] [(.int s58), (.long z), (.int at0), (.int (2 : Int32)), (.ref b3)])) _
    refine XS.iload LS66.here hx rfl (hb hby at_258) rfl ?_
    exact k)
  obtain ⟨y2, hy2, hi2, ho2⟩ := PF.2 2 (by decide)
  have oc2 := own_cell (J := (2 : Int32)) (j := 2) (s := sb) rfl hat0 hnn ha (by decide) hn10 hi2 ho2
  obtain ⟨_, _, ⟨T69, L69, k69, n69⟩, -, X69, ⟨Lc69, hQ69, l69, y69, z69⟩, st69⟩ := Jvm.LawKit.callS LS66 hx (y := (⟨"com/example/tidelog/tidelog/VarintsPutVarlongPinLaw", "cell", "([BIIJIB)Z"⟩ : MethodName)) hown (mvT hZ (hw _ (List.mem_of_getElem? (i := 14) rfl))) (mvT hZ (hw _ (List.mem_of_getElem? (i := 15) rfl))) (mvT hZ (hw _ (List.mem_of_getElem? (i := 12) rfl))) (mvT hZ (hw _ (List.mem_of_getElem? (i := 16) rfl))) (by decide) (backOf (W := 0) (rm4 l Z a0 hw [] b3 2 at0 z s58 sb k3 vsF 2 y2 hF n0 ZF VF rfl (by decide) hy2 oc2.1 oc2.2) hZ (hw _ (List.mem_of_getElem? (i := 16) rfl)) (hw _ (List.mem_of_getElem? (i := 12) rfl)) (by decide) (by decide)) (g := (mkF m 260 #[.val (.long p1), .second, .val (.int p2), .val (.int p3), .val (.int p4), .val (.long vv), .second, .val (.int at0), .val (.int sb), .val (.ref b3), .val (.int r0), .val (.long z), .second, .val (.int s58)] [(.int sb), (.int s58), (.long z), (.int at0), (.int (2 : Int32)), (.ref b3)])) rfl (by rw [hml]; rfl) (argsL := [(.ref b3), (.int (2 : Int32)), (.int at0), (.long z), (.int s58), (.int sb)]) (rest := []) (lenOf pd_4 rfl) rfl (by show 2 * 0 + _ ≤ _; exact Nat.le_of_eq rfl) (hb hby at_260) (fun _ _ => ⟨rfl, eh66, (by decide : 1 + 0 ≤ _), (by decide : 12 + 0 ≤ _)⟩)
  dsimp only [Pt.U, Pt.locs, Pt.cells, Pt.slots] at X69 l69 y69 z69 st69 hQ69
  obtain ⟨rfl, N69q, eh69⟩ := hQ69
  have C69 : Go p e below T69 (mkF m 263 #[.val (.long p1), .second, .val (.int p2), .val (.int p3), .val (.int p4), .val (.long vv), .second, .val (.int at0), .val (.int sb), .val (.ref b3), .val (.int r0), .val (.long z), .second, .val (.int s58)] [(.int (1 : Int32))]) s₁ F0 := fun t k => C68 t (st69 t k)
  have N69 : Fr n0 L69 := by rw [l69]; exact Fr.app N66 N69q
  have LS69 : Stand p l e room_1 s m #[(.long p1), (.int p2), (.int p3), (.int p4)] below meth c T69 L69 1 12 := by rw [y69, z69] at X69; exact X69
  have C70 : Go p e below T69 (mkF m 266 #[.val (.long p1), .second, .val (.int p2), .val (.int p3), .val (.int p4), .val (.long vv), .second, .val (.int at0), .val (.int sb), .val (.ref b3), .val (.int r0), .val (.long z), .second, .val (.int s58)] []) s₁ F0 := fun t k => C69 t (by
    refine XS.ifNo LS69.here hx rfl (hb hby at_263) rfl (by decide) ?_
    exact k)
  have C71 : Go p e below T69 (mkF m 277 #[.val (.long p1), .second, .val (.int p2), .val (.int p3), .val (.int p4), .val (.long vv), .second, .val (.int at0), .val (.int sb), .val (.ref b3), .val (.int r0), .val (.long z), .second, .val (.int s58)] [(.int sb), (.int s58), (.long z), (.int at0), (.int (3 : Int32)), (.ref b3)]) s₁ F0 := fun t k => C70 t (by
    refine XS.aload LS69.here hx rfl (hb hby at_266) rfl rfl ?_
    show Steps p.tables e below (T69.setTop (mkF m 268 #[.val (.long p1), .second, .val (.int p2), .val (.int p3), .val (.int p4), .val (.long vv), .second, .val (.int at0), .val (.int sb), .val (.ref b3), .val (.int r0), .val (.long z), .second, .val (.int s58)] [(.ref b3)])) _
    refine XS.iconst LS69.here hx rfl (hb hby at_268) ?_
    show Steps p.tables e below (T69.setTop (mkF m 269 #[.val (.long p1), .second, .val (.int p2), .val (.int p3), .val (.int p4), .val (.long vv), .second, .val (.int at0), .val (.int sb), .val (.ref b3), .val (.int r0), .val (.long z), .second, .val (.int s58)] [(.int (3 : Int32)), (.ref b3)])) _
    refine XS.iload LS69.here hx rfl (hb hby at_269) rfl ?_
    show Steps p.tables e below (T69.setTop (mkF m 271 #[.val (.long p1), .second, .val (.int p2), .val (.int p3), .val (.int p4), .val (.long vv), .second, .val (.int at0), .val (.int sb), .val (.ref b3), .val (.int r0), .val (.long z), .second, .val (.int s58)] [(.int at0), (.int (3 : Int32)), (.ref b3)])) _
    refine XS.lload LS69.here hx rfl (hb hby at_271) rfl ?_
    show Steps p.tables e below (T69.setTop (mkF m 273 #[.val (.long p1), .second, .val (.int p2), .val (.int p3), .val (.int p4), .val (.long vv), .second, .val (.int at0), .val (.int sb), .val (.ref b3), .val (.int r0), .val (.long z), .second, .val (.int s58)] [(.long z), (.int at0), (.int (3 : Int32)), (.ref b3)])) _
    refine XS.iload LS69.here hx rfl (hb hby at_273) rfl ?_
    show Steps p.tables e below (T69.setTop (mkF m 275 #[.val (.long p1), .second, .val (.int p2), .val (.int p3), .val (.int p4), .val (.long vv), .second, .val (.int at0), .val (.int sb), .val (.ref b3), .val (.int r0), .val (.long z), .second, .val (.int s58)] [(.int s58), (.long z), (.int at0), (.int (3 : Int32)), (.ref b3)])) _
    refine XS.iload LS69.here hx rfl (hb hby at_275) rfl ?_
    exact k)
  obtain ⟨y3, hy3, hi3, ho3⟩ := PF.2 3 (by decide)
  have oc3 := own_cell (J := (3 : Int32)) (j := 3) (s := sb) rfl hat0 hnn ha (by decide) hn10 hi3 ho3
  obtain ⟨_, _, ⟨T72, L72, k72, n72⟩, -, X72, ⟨Lc72, hQ72, l72, y72, z72⟩, st72⟩ := Jvm.LawKit.callS LS69 hx (y := (⟨"com/example/tidelog/tidelog/VarintsPutVarlongPinLaw", "cell", "([BIIJIB)Z"⟩ : MethodName)) hown (mvT hZ (hw _ (List.mem_of_getElem? (i := 14) rfl))) (mvT hZ (hw _ (List.mem_of_getElem? (i := 15) rfl))) (mvT hZ (hw _ (List.mem_of_getElem? (i := 12) rfl))) (mvT hZ (hw _ (List.mem_of_getElem? (i := 16) rfl))) (by decide) (backOf (W := 0) (rm4 l Z a0 hw [] b3 3 at0 z s58 sb k3 vsF 3 y3 hF n0 ZF VF rfl (by decide) hy3 oc3.1 oc3.2) hZ (hw _ (List.mem_of_getElem? (i := 16) rfl)) (hw _ (List.mem_of_getElem? (i := 12) rfl)) (by decide) (by decide)) (g := (mkF m 277 #[.val (.long p1), .second, .val (.int p2), .val (.int p3), .val (.int p4), .val (.long vv), .second, .val (.int at0), .val (.int sb), .val (.ref b3), .val (.int r0), .val (.long z), .second, .val (.int s58)] [(.int sb), (.int s58), (.long z), (.int at0), (.int (3 : Int32)), (.ref b3)])) rfl (by rw [hml]; rfl) (argsL := [(.ref b3), (.int (3 : Int32)), (.int at0), (.long z), (.int s58), (.int sb)]) (rest := []) (lenOf pd_4 rfl) rfl (by show 2 * 0 + _ ≤ _; exact Nat.le_of_eq rfl) (hb hby at_277) (fun _ _ => ⟨rfl, eh69, (by decide : 1 + 0 ≤ _), (by decide : 12 + 0 ≤ _)⟩)
  dsimp only [Pt.U, Pt.locs, Pt.cells, Pt.slots] at X72 l72 y72 z72 st72 hQ72
  obtain ⟨rfl, N72q, eh72⟩ := hQ72
  have C72 : Go p e below T72 (mkF m 280 #[.val (.long p1), .second, .val (.int p2), .val (.int p3), .val (.int p4), .val (.long vv), .second, .val (.int at0), .val (.int sb), .val (.ref b3), .val (.int r0), .val (.long z), .second, .val (.int s58)] [(.int (1 : Int32))]) s₁ F0 := fun t k => C71 t (st72 t k)
  have N72 : Fr n0 L72 := by rw [l72]; exact Fr.app N69 N72q
  have LS72 : Stand p l e room_1 s m #[(.long p1), (.int p2), (.int p3), (.int p4)] below meth c T72 L72 1 12 := by rw [y72, z72] at X72; exact X72
  have C73 : Go p e below T72 (mkF m 283 #[.val (.long p1), .second, .val (.int p2), .val (.int p3), .val (.int p4), .val (.long vv), .second, .val (.int at0), .val (.int sb), .val (.ref b3), .val (.int r0), .val (.long z), .second, .val (.int s58)] []) s₁ F0 := fun t k => C72 t (by
    refine XS.ifNo LS72.here hx rfl (hb hby at_280) rfl (by decide) ?_
    exact k)
  have C74 : Go p e below T72 (mkF m 294 #[.val (.long p1), .second, .val (.int p2), .val (.int p3), .val (.int p4), .val (.long vv), .second, .val (.int at0), .val (.int sb), .val (.ref b3), .val (.int r0), .val (.long z), .second, .val (.int s58)] [(.int sb), (.int s58), (.long z), (.int at0), (.int (4 : Int32)), (.ref b3)]) s₁ F0 := fun t k => C73 t (by
    refine XS.aload LS72.here hx rfl (hb hby at_283) rfl rfl ?_
    show Steps p.tables e below (T72.setTop (mkF m 285 #[.val (.long p1), .second, .val (.int p2), .val (.int p3), .val (.int p4), .val (.long vv), .second, .val (.int at0), .val (.int sb), .val (.ref b3), .val (.int r0), .val (.long z), .second, .val (.int s58)] [(.ref b3)])) _
    refine XS.iconst LS72.here hx rfl (hb hby at_285) ?_
    show Steps p.tables e below (T72.setTop (mkF m 286 #[.val (.long p1), .second, .val (.int p2), .val (.int p3), .val (.int p4), .val (.long vv), .second, .val (.int at0), .val (.int sb), .val (.ref b3), .val (.int r0), .val (.long z), .second, .val (.int s58)] [(.int (4 : Int32)), (.ref b3)])) _
    refine XS.iload LS72.here hx rfl (hb hby at_286) rfl ?_
    show Steps p.tables e below (T72.setTop (mkF m 288 #[.val (.long p1), .second, .val (.int p2), .val (.int p3), .val (.int p4), .val (.long vv), .second, .val (.int at0), .val (.int sb), .val (.ref b3), .val (.int r0), .val (.long z), .second, .val (.int s58)] [(.int at0), (.int (4 : Int32)), (.ref b3)])) _
    refine XS.lload LS72.here hx rfl (hb hby at_288) rfl ?_
    show Steps p.tables e below (T72.setTop (mkF m 290 #[.val (.long p1), .second, .val (.int p2), .val (.int p3), .val (.int p4), .val (.long vv), .second, .val (.int at0), .val (.int sb), .val (.ref b3), .val (.int r0), .val (.long z), .second, .val (.int s58)] [(.long z), (.int at0), (.int (4 : Int32)), (.ref b3)])) _
    refine XS.iload LS72.here hx rfl (hb hby at_290) rfl ?_
    show Steps p.tables e below (T72.setTop (mkF m 292 #[.val (.long p1), .second, .val (.int p2), .val (.int p3), .val (.int p4), .val (.long vv), .second, .val (.int at0), .val (.int sb), .val (.ref b3), .val (.int r0), .val (.long z), .second, .val (.int s58)] [(.int s58), (.long z), (.int at0), (.int (4 : Int32)), (.ref b3)])) _
    refine XS.iload LS72.here hx rfl (hb hby at_292) rfl ?_
    exact k)
  obtain ⟨y4, hy4, hi4, ho4⟩ := PF.2 4 (by decide)
  have oc4 := own_cell (J := (4 : Int32)) (j := 4) (s := sb) rfl hat0 hnn ha (by decide) hn10 hi4 ho4
  obtain ⟨_, _, ⟨T75, L75, k75, n75⟩, -, X75, ⟨Lc75, hQ75, l75, y75, z75⟩, st75⟩ := Jvm.LawKit.callS LS72 hx (y := (⟨"com/example/tidelog/tidelog/VarintsPutVarlongPinLaw", "cell", "([BIIJIB)Z"⟩ : MethodName)) hown (mvT hZ (hw _ (List.mem_of_getElem? (i := 14) rfl))) (mvT hZ (hw _ (List.mem_of_getElem? (i := 15) rfl))) (mvT hZ (hw _ (List.mem_of_getElem? (i := 12) rfl))) (mvT hZ (hw _ (List.mem_of_getElem? (i := 16) rfl))) (by decide) (backOf (W := 0) (rm4 l Z a0 hw [] b3 4 at0 z s58 sb k3 vsF 4 y4 hF n0 ZF VF rfl (by decide) hy4 oc4.1 oc4.2) hZ (hw _ (List.mem_of_getElem? (i := 16) rfl)) (hw _ (List.mem_of_getElem? (i := 12) rfl)) (by decide) (by decide)) (g := (mkF m 294 #[.val (.long p1), .second, .val (.int p2), .val (.int p3), .val (.int p4), .val (.long vv), .second, .val (.int at0), .val (.int sb), .val (.ref b3), .val (.int r0), .val (.long z), .second, .val (.int s58)] [(.int sb), (.int s58), (.long z), (.int at0), (.int (4 : Int32)), (.ref b3)])) rfl (by rw [hml]; rfl) (argsL := [(.ref b3), (.int (4 : Int32)), (.int at0), (.long z), (.int s58), (.int sb)]) (rest := []) (lenOf pd_4 rfl) rfl (by show 2 * 0 + _ ≤ _; exact Nat.le_of_eq rfl) (hb hby at_294) (fun _ _ => ⟨rfl, eh72, (by decide : 1 + 0 ≤ _), (by decide : 12 + 0 ≤ _)⟩)
  dsimp only [Pt.U, Pt.locs, Pt.cells, Pt.slots] at X75 l75 y75 z75 st75 hQ75
  obtain ⟨rfl, N75q, eh75⟩ := hQ75
  have C75 : Go p e below T75 (mkF m 297 #[.val (.long p1), .second, .val (.int p2), .val (.int p3), .val (.int p4), .val (.long vv), .second, .val (.int at0), .val (.int sb), .val (.ref b3), .val (.int r0), .val (.long z), .second, .val (.int s58)] [(.int (1 : Int32))]) s₁ F0 := fun t k => C74 t (st75 t k)
  have N75 : Fr n0 L75 := by rw [l75]; exact Fr.app N72 N75q
  have LS75 : Stand p l e room_1 s m #[(.long p1), (.int p2), (.int p3), (.int p4)] below meth c T75 L75 1 12 := by rw [y75, z75] at X75; exact X75
  have C76 : Go p e below T75 (mkF m 300 #[.val (.long p1), .second, .val (.int p2), .val (.int p3), .val (.int p4), .val (.long vv), .second, .val (.int at0), .val (.int sb), .val (.ref b3), .val (.int r0), .val (.long z), .second, .val (.int s58)] []) s₁ F0 := fun t k => C75 t (by
    refine XS.ifNo LS75.here hx rfl (hb hby at_297) rfl (by decide) ?_
    exact k)
  have C77 : Go p e below T75 (mkF m 311 #[.val (.long p1), .second, .val (.int p2), .val (.int p3), .val (.int p4), .val (.long vv), .second, .val (.int at0), .val (.int sb), .val (.ref b3), .val (.int r0), .val (.long z), .second, .val (.int s58)] [(.int sb), (.int s58), (.long z), (.int at0), (.int (5 : Int32)), (.ref b3)]) s₁ F0 := fun t k => C76 t (by
    refine XS.aload LS75.here hx rfl (hb hby at_300) rfl rfl ?_
    show Steps p.tables e below (T75.setTop (mkF m 302 #[.val (.long p1), .second, .val (.int p2), .val (.int p3), .val (.int p4), .val (.long vv), .second, .val (.int at0), .val (.int sb), .val (.ref b3), .val (.int r0), .val (.long z), .second, .val (.int s58)] [(.ref b3)])) _
    refine XS.iconst LS75.here hx rfl (hb hby at_302) ?_
    show Steps p.tables e below (T75.setTop (mkF m 303 #[.val (.long p1), .second, .val (.int p2), .val (.int p3), .val (.int p4), .val (.long vv), .second, .val (.int at0), .val (.int sb), .val (.ref b3), .val (.int r0), .val (.long z), .second, .val (.int s58)] [(.int (5 : Int32)), (.ref b3)])) _
    refine XS.iload LS75.here hx rfl (hb hby at_303) rfl ?_
    show Steps p.tables e below (T75.setTop (mkF m 305 #[.val (.long p1), .second, .val (.int p2), .val (.int p3), .val (.int p4), .val (.long vv), .second, .val (.int at0), .val (.int sb), .val (.ref b3), .val (.int r0), .val (.long z), .second, .val (.int s58)] [(.int at0), (.int (5 : Int32)), (.ref b3)])) _
    refine XS.lload LS75.here hx rfl (hb hby at_305) rfl ?_
    show Steps p.tables e below (T75.setTop (mkF m 307 #[.val (.long p1), .second, .val (.int p2), .val (.int p3), .val (.int p4), .val (.long vv), .second, .val (.int at0), .val (.int sb), .val (.ref b3), .val (.int r0), .val (.long z), .second, .val (.int s58)] [(.long z), (.int at0), (.int (5 : Int32)), (.ref b3)])) _
    refine XS.iload LS75.here hx rfl (hb hby at_307) rfl ?_
    show Steps p.tables e below (T75.setTop (mkF m 309 #[.val (.long p1), .second, .val (.int p2), .val (.int p3), .val (.int p4), .val (.long vv), .second, .val (.int at0), .val (.int sb), .val (.ref b3), .val (.int r0), .val (.long z), .second, .val (.int s58)] [(.int s58), (.long z), (.int at0), (.int (5 : Int32)), (.ref b3)])) _
    refine XS.iload LS75.here hx rfl (hb hby at_309) rfl ?_
    exact k)
  obtain ⟨y5, hy5, hi5, ho5⟩ := PF.2 5 (by decide)
  have oc5 := own_cell (J := (5 : Int32)) (j := 5) (s := sb) rfl hat0 hnn ha (by decide) hn10 hi5 ho5
  obtain ⟨_, _, ⟨T78, L78, k78, n78⟩, -, X78, ⟨Lc78, hQ78, l78, y78, z78⟩, st78⟩ := Jvm.LawKit.callS LS75 hx (y := (⟨"com/example/tidelog/tidelog/VarintsPutVarlongPinLaw", "cell", "([BIIJIB)Z"⟩ : MethodName)) hown (mvT hZ (hw _ (List.mem_of_getElem? (i := 14) rfl))) (mvT hZ (hw _ (List.mem_of_getElem? (i := 15) rfl))) (mvT hZ (hw _ (List.mem_of_getElem? (i := 12) rfl))) (mvT hZ (hw _ (List.mem_of_getElem? (i := 16) rfl))) (by decide) (backOf (W := 0) (rm4 l Z a0 hw [] b3 5 at0 z s58 sb k3 vsF 5 y5 hF n0 ZF VF rfl (by decide) hy5 oc5.1 oc5.2) hZ (hw _ (List.mem_of_getElem? (i := 16) rfl)) (hw _ (List.mem_of_getElem? (i := 12) rfl)) (by decide) (by decide)) (g := (mkF m 311 #[.val (.long p1), .second, .val (.int p2), .val (.int p3), .val (.int p4), .val (.long vv), .second, .val (.int at0), .val (.int sb), .val (.ref b3), .val (.int r0), .val (.long z), .second, .val (.int s58)] [(.int sb), (.int s58), (.long z), (.int at0), (.int (5 : Int32)), (.ref b3)])) rfl (by rw [hml]; rfl) (argsL := [(.ref b3), (.int (5 : Int32)), (.int at0), (.long z), (.int s58), (.int sb)]) (rest := []) (lenOf pd_4 rfl) rfl (by show 2 * 0 + _ ≤ _; exact Nat.le_of_eq rfl) (hb hby at_311) (fun _ _ => ⟨rfl, eh75, (by decide : 1 + 0 ≤ _), (by decide : 12 + 0 ≤ _)⟩)
  dsimp only [Pt.U, Pt.locs, Pt.cells, Pt.slots] at X78 l78 y78 z78 st78 hQ78
  obtain ⟨rfl, N78q, eh78⟩ := hQ78
  have C78 : Go p e below T78 (mkF m 314 #[.val (.long p1), .second, .val (.int p2), .val (.int p3), .val (.int p4), .val (.long vv), .second, .val (.int at0), .val (.int sb), .val (.ref b3), .val (.int r0), .val (.long z), .second, .val (.int s58)] [(.int (1 : Int32))]) s₁ F0 := fun t k => C77 t (st78 t k)
  have N78 : Fr n0 L78 := by rw [l78]; exact Fr.app N75 N78q
  have LS78 : Stand p l e room_1 s m #[(.long p1), (.int p2), (.int p3), (.int p4)] below meth c T78 L78 1 12 := by rw [y78, z78] at X78; exact X78
  have C79 : Go p e below T78 (mkF m 317 #[.val (.long p1), .second, .val (.int p2), .val (.int p3), .val (.int p4), .val (.long vv), .second, .val (.int at0), .val (.int sb), .val (.ref b3), .val (.int r0), .val (.long z), .second, .val (.int s58)] []) s₁ F0 := fun t k => C78 t (by
    refine XS.ifNo LS78.here hx rfl (hb hby at_314) rfl (by decide) ?_
    exact k)
  have C80 : Go p e below T78 (mkF m 329 #[.val (.long p1), .second, .val (.int p2), .val (.int p3), .val (.int p4), .val (.long vv), .second, .val (.int at0), .val (.int sb), .val (.ref b3), .val (.int r0), .val (.long z), .second, .val (.int s58)] [(.int sb), (.int s58), (.long z), (.int at0), (.int (6 : Int32)), (.ref b3)]) s₁ F0 := fun t k => C79 t (by
    refine XS.aload LS78.here hx rfl (hb hby at_317) rfl rfl ?_
    show Steps p.tables e below (T78.setTop (mkF m 319 #[.val (.long p1), .second, .val (.int p2), .val (.int p3), .val (.int p4), .val (.long vv), .second, .val (.int at0), .val (.int sb), .val (.ref b3), .val (.int r0), .val (.long z), .second, .val (.int s58)] [(.ref b3)])) _
    refine XS.bipush LS78.here hx rfl (hb hby at_319) ?_
    show Steps p.tables e below (T78.setTop (mkF m 321 #[.val (.long p1), .second, .val (.int p2), .val (.int p3), .val (.int p4), .val (.long vv), .second, .val (.int at0), .val (.int sb), .val (.ref b3), .val (.int r0), .val (.long z), .second, .val (.int s58)] [(.int (6 : Int32)), (.ref b3)])) _
    refine XS.iload LS78.here hx rfl (hb hby at_321) rfl ?_
    show Steps p.tables e below (T78.setTop (mkF m 323 #[.val (.long p1), .second, .val (.int p2), .val (.int p3), .val (.int p4), .val (.long vv), .second, .val (.int at0), .val (.int sb), .val (.ref b3), .val (.int r0), .val (.long z), .second, .val (.int s58)] [(.int at0), (.int (6 : Int32)), (.ref b3)])) _
    refine XS.lload LS78.here hx rfl (hb hby at_323) rfl ?_
    show Steps p.tables e below (T78.setTop (mkF m 325 #[.val (.long p1), .second, .val (.int p2), .val (.int p3), .val (.int p4), .val (.long vv), .second, .val (.int at0), .val (.int sb), .val (.ref b3), .val (.int r0), .val (.long z), .second, .val (.int s58)] [(.long z), (.int at0), (.int (6 : Int32)), (.ref b3)])) _
    refine XS.iload LS78.here hx rfl (hb hby at_325) rfl ?_
    show Steps p.tables e below (T78.setTop (mkF m 327 #[.val (.long p1), .second, .val (.int p2), .val (.int p3), .val (.int p4), .val (.long vv), .second, .val (.int at0), .val (.int sb), .val (.ref b3), .val (.int r0), .val (.long z), .second, .val (.int s58)] [(.int s58), (.long z), (.int at0), (.int (6 : Int32)), (.ref b3)])) _
    refine XS.iload LS78.here hx rfl (hb hby at_327) rfl ?_
    exact k)
  obtain ⟨y6, hy6, hi6, ho6⟩ := PF.2 6 (by decide)
  have oc6 := own_cell (J := (6 : Int32)) (j := 6) (s := sb) rfl hat0 hnn ha (by decide) hn10 hi6 ho6
  obtain ⟨_, _, ⟨T81, L81, k81, n81⟩, -, X81, ⟨Lc81, hQ81, l81, y81, z81⟩, st81⟩ := Jvm.LawKit.callS LS78 hx (y := (⟨"com/example/tidelog/tidelog/VarintsPutVarlongPinLaw", "cell", "([BIIJIB)Z"⟩ : MethodName)) hown (mvT hZ (hw _ (List.mem_of_getElem? (i := 14) rfl))) (mvT hZ (hw _ (List.mem_of_getElem? (i := 15) rfl))) (mvT hZ (hw _ (List.mem_of_getElem? (i := 12) rfl))) (mvT hZ (hw _ (List.mem_of_getElem? (i := 16) rfl))) (by decide) (backOf (W := 0) (rm4 l Z a0 hw [] b3 6 at0 z s58 sb k3 vsF 6 y6 hF n0 ZF VF rfl (by decide) hy6 oc6.1 oc6.2) hZ (hw _ (List.mem_of_getElem? (i := 16) rfl)) (hw _ (List.mem_of_getElem? (i := 12) rfl)) (by decide) (by decide)) (g := (mkF m 329 #[.val (.long p1), .second, .val (.int p2), .val (.int p3), .val (.int p4), .val (.long vv), .second, .val (.int at0), .val (.int sb), .val (.ref b3), .val (.int r0), .val (.long z), .second, .val (.int s58)] [(.int sb), (.int s58), (.long z), (.int at0), (.int (6 : Int32)), (.ref b3)])) rfl (by rw [hml]; rfl) (argsL := [(.ref b3), (.int (6 : Int32)), (.int at0), (.long z), (.int s58), (.int sb)]) (rest := []) (lenOf pd_4 rfl) rfl (by show 2 * 0 + _ ≤ _; exact Nat.le_of_eq rfl) (hb hby at_329) (fun _ _ => ⟨rfl, eh78, (by decide : 1 + 0 ≤ _), (by decide : 12 + 0 ≤ _)⟩)
  dsimp only [Pt.U, Pt.locs, Pt.cells, Pt.slots] at X81 l81 y81 z81 st81 hQ81
  obtain ⟨rfl, N81q, eh81⟩ := hQ81
  have C81 : Go p e below T81 (mkF m 332 #[.val (.long p1), .second, .val (.int p2), .val (.int p3), .val (.int p4), .val (.long vv), .second, .val (.int at0), .val (.int sb), .val (.ref b3), .val (.int r0), .val (.long z), .second, .val (.int s58)] [(.int (1 : Int32))]) s₁ F0 := fun t k => C80 t (st81 t k)
  have N81 : Fr n0 L81 := by rw [l81]; exact Fr.app N78 N81q
  have LS81 : Stand p l e room_1 s m #[(.long p1), (.int p2), (.int p3), (.int p4)] below meth c T81 L81 1 12 := by rw [y81, z81] at X81; exact X81
  have C82 : Go p e below T81 (mkF m 335 #[.val (.long p1), .second, .val (.int p2), .val (.int p3), .val (.int p4), .val (.long vv), .second, .val (.int at0), .val (.int sb), .val (.ref b3), .val (.int r0), .val (.long z), .second, .val (.int s58)] []) s₁ F0 := fun t k => C81 t (by
    refine XS.ifNo LS81.here hx rfl (hb hby at_332) rfl (by decide) ?_
    exact k)
  have C83 : Go p e below T81 (mkF m 347 #[.val (.long p1), .second, .val (.int p2), .val (.int p3), .val (.int p4), .val (.long vv), .second, .val (.int at0), .val (.int sb), .val (.ref b3), .val (.int r0), .val (.long z), .second, .val (.int s58)] [(.int sb), (.int s58), (.long z), (.int at0), (.int (7 : Int32)), (.ref b3)]) s₁ F0 := fun t k => C82 t (by
    refine XS.aload LS81.here hx rfl (hb hby at_335) rfl rfl ?_
    show Steps p.tables e below (T81.setTop (mkF m 337 #[.val (.long p1), .second, .val (.int p2), .val (.int p3), .val (.int p4), .val (.long vv), .second, .val (.int at0), .val (.int sb), .val (.ref b3), .val (.int r0), .val (.long z), .second, .val (.int s58)] [(.ref b3)])) _
    refine XS.bipush LS81.here hx rfl (hb hby at_337) ?_
    show Steps p.tables e below (T81.setTop (mkF m 339 #[.val (.long p1), .second, .val (.int p2), .val (.int p3), .val (.int p4), .val (.long vv), .second, .val (.int at0), .val (.int sb), .val (.ref b3), .val (.int r0), .val (.long z), .second, .val (.int s58)] [(.int (7 : Int32)), (.ref b3)])) _
    refine XS.iload LS81.here hx rfl (hb hby at_339) rfl ?_
    show Steps p.tables e below (T81.setTop (mkF m 341 #[.val (.long p1), .second, .val (.int p2), .val (.int p3), .val (.int p4), .val (.long vv), .second, .val (.int at0), .val (.int sb), .val (.ref b3), .val (.int r0), .val (.long z), .second, .val (.int s58)] [(.int at0), (.int (7 : Int32)), (.ref b3)])) _
    refine XS.lload LS81.here hx rfl (hb hby at_341) rfl ?_
    show Steps p.tables e below (T81.setTop (mkF m 343 #[.val (.long p1), .second, .val (.int p2), .val (.int p3), .val (.int p4), .val (.long vv), .second, .val (.int at0), .val (.int sb), .val (.ref b3), .val (.int r0), .val (.long z), .second, .val (.int s58)] [(.long z), (.int at0), (.int (7 : Int32)), (.ref b3)])) _
    refine XS.iload LS81.here hx rfl (hb hby at_343) rfl ?_
    show Steps p.tables e below (T81.setTop (mkF m 345 #[.val (.long p1), .second, .val (.int p2), .val (.int p3), .val (.int p4), .val (.long vv), .second, .val (.int at0), .val (.int sb), .val (.ref b3), .val (.int r0), .val (.long z), .second, .val (.int s58)] [(.int s58), (.long z), (.int at0), (.int (7 : Int32)), (.ref b3)])) _
    refine XS.iload LS81.here hx rfl (hb hby at_345) rfl ?_
    exact k)
  obtain ⟨y7, hy7, hi7, ho7⟩ := PF.2 7 (by decide)
  have oc7 := own_cell (J := (7 : Int32)) (j := 7) (s := sb) rfl hat0 hnn ha (by decide) hn10 hi7 ho7
  obtain ⟨_, _, ⟨T84, L84, k84, n84⟩, -, X84, ⟨Lc84, hQ84, l84, y84, z84⟩, st84⟩ := Jvm.LawKit.callS LS81 hx (y := (⟨"com/example/tidelog/tidelog/VarintsPutVarlongPinLaw", "cell", "([BIIJIB)Z"⟩ : MethodName)) hown (mvT hZ (hw _ (List.mem_of_getElem? (i := 14) rfl))) (mvT hZ (hw _ (List.mem_of_getElem? (i := 15) rfl))) (mvT hZ (hw _ (List.mem_of_getElem? (i := 12) rfl))) (mvT hZ (hw _ (List.mem_of_getElem? (i := 16) rfl))) (by decide) (backOf (W := 0) (rm4 l Z a0 hw [] b3 7 at0 z s58 sb k3 vsF 7 y7 hF n0 ZF VF rfl (by decide) hy7 oc7.1 oc7.2) hZ (hw _ (List.mem_of_getElem? (i := 16) rfl)) (hw _ (List.mem_of_getElem? (i := 12) rfl)) (by decide) (by decide)) (g := (mkF m 347 #[.val (.long p1), .second, .val (.int p2), .val (.int p3), .val (.int p4), .val (.long vv), .second, .val (.int at0), .val (.int sb), .val (.ref b3), .val (.int r0), .val (.long z), .second, .val (.int s58)] [(.int sb), (.int s58), (.long z), (.int at0), (.int (7 : Int32)), (.ref b3)])) rfl (by rw [hml]; rfl) (argsL := [(.ref b3), (.int (7 : Int32)), (.int at0), (.long z), (.int s58), (.int sb)]) (rest := []) (lenOf pd_4 rfl) rfl (by show 2 * 0 + _ ≤ _; exact Nat.le_of_eq rfl) (hb hby at_347) (fun _ _ => ⟨rfl, eh81, (by decide : 1 + 0 ≤ _), (by decide : 12 + 0 ≤ _)⟩)
  dsimp only [Pt.U, Pt.locs, Pt.cells, Pt.slots] at X84 l84 y84 z84 st84 hQ84
  obtain ⟨rfl, N84q, eh84⟩ := hQ84
  have C84 : Go p e below T84 (mkF m 350 #[.val (.long p1), .second, .val (.int p2), .val (.int p3), .val (.int p4), .val (.long vv), .second, .val (.int at0), .val (.int sb), .val (.ref b3), .val (.int r0), .val (.long z), .second, .val (.int s58)] [(.int (1 : Int32))]) s₁ F0 := fun t k => C83 t (st84 t k)
  have N84 : Fr n0 L84 := by rw [l84]; exact Fr.app N81 N84q
  have LS84 : Stand p l e room_1 s m #[(.long p1), (.int p2), (.int p3), (.int p4)] below meth c T84 L84 1 12 := by rw [y84, z84] at X84; exact X84
  have C85 : Go p e below T84 (mkF m 353 #[.val (.long p1), .second, .val (.int p2), .val (.int p3), .val (.int p4), .val (.long vv), .second, .val (.int at0), .val (.int sb), .val (.ref b3), .val (.int r0), .val (.long z), .second, .val (.int s58)] []) s₁ F0 := fun t k => C84 t (by
    refine XS.ifNo LS84.here hx rfl (hb hby at_350) rfl (by decide) ?_
    exact k)
  have C86 : Go p e below T84 (mkF m 365 #[.val (.long p1), .second, .val (.int p2), .val (.int p3), .val (.int p4), .val (.long vv), .second, .val (.int at0), .val (.int sb), .val (.ref b3), .val (.int r0), .val (.long z), .second, .val (.int s58)] [(.int sb), (.int s58), (.long z), (.int at0), (.int (8 : Int32)), (.ref b3)]) s₁ F0 := fun t k => C85 t (by
    refine XS.aload LS84.here hx rfl (hb hby at_353) rfl rfl ?_
    show Steps p.tables e below (T84.setTop (mkF m 355 #[.val (.long p1), .second, .val (.int p2), .val (.int p3), .val (.int p4), .val (.long vv), .second, .val (.int at0), .val (.int sb), .val (.ref b3), .val (.int r0), .val (.long z), .second, .val (.int s58)] [(.ref b3)])) _
    refine XS.bipush LS84.here hx rfl (hb hby at_355) ?_
    show Steps p.tables e below (T84.setTop (mkF m 357 #[.val (.long p1), .second, .val (.int p2), .val (.int p3), .val (.int p4), .val (.long vv), .second, .val (.int at0), .val (.int sb), .val (.ref b3), .val (.int r0), .val (.long z), .second, .val (.int s58)] [(.int (8 : Int32)), (.ref b3)])) _
    refine XS.iload LS84.here hx rfl (hb hby at_357) rfl ?_
    show Steps p.tables e below (T84.setTop (mkF m 359 #[.val (.long p1), .second, .val (.int p2), .val (.int p3), .val (.int p4), .val (.long vv), .second, .val (.int at0), .val (.int sb), .val (.ref b3), .val (.int r0), .val (.long z), .second, .val (.int s58)] [(.int at0), (.int (8 : Int32)), (.ref b3)])) _
    refine XS.lload LS84.here hx rfl (hb hby at_359) rfl ?_
    show Steps p.tables e below (T84.setTop (mkF m 361 #[.val (.long p1), .second, .val (.int p2), .val (.int p3), .val (.int p4), .val (.long vv), .second, .val (.int at0), .val (.int sb), .val (.ref b3), .val (.int r0), .val (.long z), .second, .val (.int s58)] [(.long z), (.int at0), (.int (8 : Int32)), (.ref b3)])) _
    refine XS.iload LS84.here hx rfl (hb hby at_361) rfl ?_
    show Steps p.tables e below (T84.setTop (mkF m 363 #[.val (.long p1), .second, .val (.int p2), .val (.int p3), .val (.int p4), .val (.long vv), .second, .val (.int at0), .val (.int sb), .val (.ref b3), .val (.int r0), .val (.long z), .second, .val (.int s58)] [(.int s58), (.long z), (.int at0), (.int (8 : Int32)), (.ref b3)])) _
    refine XS.iload LS84.here hx rfl (hb hby at_363) rfl ?_
    exact k)
  obtain ⟨y8, hy8, hi8, ho8⟩ := PF.2 8 (by decide)
  have oc8 := own_cell (J := (8 : Int32)) (j := 8) (s := sb) rfl hat0 hnn ha (by decide) hn10 hi8 ho8
  obtain ⟨_, _, ⟨T87, L87, k87, n87⟩, -, X87, ⟨Lc87, hQ87, l87, y87, z87⟩, st87⟩ := Jvm.LawKit.callS LS84 hx (y := (⟨"com/example/tidelog/tidelog/VarintsPutVarlongPinLaw", "cell", "([BIIJIB)Z"⟩ : MethodName)) hown (mvT hZ (hw _ (List.mem_of_getElem? (i := 14) rfl))) (mvT hZ (hw _ (List.mem_of_getElem? (i := 15) rfl))) (mvT hZ (hw _ (List.mem_of_getElem? (i := 12) rfl))) (mvT hZ (hw _ (List.mem_of_getElem? (i := 16) rfl))) (by decide) (backOf (W := 0) (rm4 l Z a0 hw [] b3 8 at0 z s58 sb k3 vsF 8 y8 hF n0 ZF VF rfl (by decide) hy8 oc8.1 oc8.2) hZ (hw _ (List.mem_of_getElem? (i := 16) rfl)) (hw _ (List.mem_of_getElem? (i := 12) rfl)) (by decide) (by decide)) (g := (mkF m 365 #[.val (.long p1), .second, .val (.int p2), .val (.int p3), .val (.int p4), .val (.long vv), .second, .val (.int at0), .val (.int sb), .val (.ref b3), .val (.int r0), .val (.long z), .second, .val (.int s58)] [(.int sb), (.int s58), (.long z), (.int at0), (.int (8 : Int32)), (.ref b3)])) rfl (by rw [hml]; rfl) (argsL := [(.ref b3), (.int (8 : Int32)), (.int at0), (.long z), (.int s58), (.int sb)]) (rest := []) (lenOf pd_4 rfl) rfl (by show 2 * 0 + _ ≤ _; exact Nat.le_of_eq rfl) (hb hby at_365) (fun _ _ => ⟨rfl, eh84, (by decide : 1 + 0 ≤ _), (by decide : 12 + 0 ≤ _)⟩)
  dsimp only [Pt.U, Pt.locs, Pt.cells, Pt.slots] at X87 l87 y87 z87 st87 hQ87
  obtain ⟨rfl, N87q, eh87⟩ := hQ87
  have C87 : Go p e below T87 (mkF m 368 #[.val (.long p1), .second, .val (.int p2), .val (.int p3), .val (.int p4), .val (.long vv), .second, .val (.int at0), .val (.int sb), .val (.ref b3), .val (.int r0), .val (.long z), .second, .val (.int s58)] [(.int (1 : Int32))]) s₁ F0 := fun t k => C86 t (st87 t k)
  have N87 : Fr n0 L87 := by rw [l87]; exact Fr.app N84 N87q
  have LS87 : Stand p l e room_1 s m #[(.long p1), (.int p2), (.int p3), (.int p4)] below meth c T87 L87 1 12 := by rw [y87, z87] at X87; exact X87
  have C88 : Go p e below T87 (mkF m 371 #[.val (.long p1), .second, .val (.int p2), .val (.int p3), .val (.int p4), .val (.long vv), .second, .val (.int at0), .val (.int sb), .val (.ref b3), .val (.int r0), .val (.long z), .second, .val (.int s58)] []) s₁ F0 := fun t k => C87 t (by
    refine XS.ifNo LS87.here hx rfl (hb hby at_368) rfl (by decide) ?_
    exact k)
  have C89 : Go p e below T87 (mkF m 383 #[.val (.long p1), .second, .val (.int p2), .val (.int p3), .val (.int p4), .val (.long vv), .second, .val (.int at0), .val (.int sb), .val (.ref b3), .val (.int r0), .val (.long z), .second, .val (.int s58)] [(.int sb), (.int s58), (.long z), (.int at0), (.int (9 : Int32)), (.ref b3)]) s₁ F0 := fun t k => C88 t (by
    refine XS.aload LS87.here hx rfl (hb hby at_371) rfl rfl ?_
    show Steps p.tables e below (T87.setTop (mkF m 373 #[.val (.long p1), .second, .val (.int p2), .val (.int p3), .val (.int p4), .val (.long vv), .second, .val (.int at0), .val (.int sb), .val (.ref b3), .val (.int r0), .val (.long z), .second, .val (.int s58)] [(.ref b3)])) _
    refine XS.bipush LS87.here hx rfl (hb hby at_373) ?_
    show Steps p.tables e below (T87.setTop (mkF m 375 #[.val (.long p1), .second, .val (.int p2), .val (.int p3), .val (.int p4), .val (.long vv), .second, .val (.int at0), .val (.int sb), .val (.ref b3), .val (.int r0), .val (.long z), .second, .val (.int s58)] [(.int (9 : Int32)), (.ref b3)])) _
    refine XS.iload LS87.here hx rfl (hb hby at_375) rfl ?_
    show Steps p.tables e below (T87.setTop (mkF m 377 #[.val (.long p1), .second, .val (.int p2), .val (.int p3), .val (.int p4), .val (.long vv), .second, .val (.int at0), .val (.int sb), .val (.ref b3), .val (.int r0), .val (.long z), .second, .val (.int s58)] [(.int at0), (.int (9 : Int32)), (.ref b3)])) _
    refine XS.lload LS87.here hx rfl (hb hby at_377) rfl ?_
    show Steps p.tables e below (T87.setTop (mkF m 379 #[.val (.long p1), .second, .val (.int p2), .val (.int p3), .val (.int p4), .val (.long vv), .second, .val (.int at0), .val (.int sb), .val (.ref b3), .val (.int r0), .val (.long z), .second, .val (.int s58)] [(.long z), (.int at0), (.int (9 : Int32)), (.ref b3)])) _
    refine XS.iload LS87.here hx rfl (hb hby at_379) rfl ?_
    show Steps p.tables e below (T87.setTop (mkF m 381 #[.val (.long p1), .second, .val (.int p2), .val (.int p3), .val (.int p4), .val (.long vv), .second, .val (.int at0), .val (.int sb), .val (.ref b3), .val (.int r0), .val (.long z), .second, .val (.int s58)] [(.int s58), (.long z), (.int at0), (.int (9 : Int32)), (.ref b3)])) _
    refine XS.iload LS87.here hx rfl (hb hby at_381) rfl ?_
    exact k)
  obtain ⟨y9, hy9, hi9, ho9⟩ := PF.2 9 (by decide)
  have oc9 := own_cell (J := (9 : Int32)) (j := 9) (s := sb) rfl hat0 hnn ha (by decide) hn10 hi9 ho9
  obtain ⟨_, _, ⟨T90, L90, k90, n90⟩, -, X90, ⟨Lc90, hQ90, l90, y90, z90⟩, st90⟩ := Jvm.LawKit.callS LS87 hx (y := (⟨"com/example/tidelog/tidelog/VarintsPutVarlongPinLaw", "cell", "([BIIJIB)Z"⟩ : MethodName)) hown (mvT hZ (hw _ (List.mem_of_getElem? (i := 14) rfl))) (mvT hZ (hw _ (List.mem_of_getElem? (i := 15) rfl))) (mvT hZ (hw _ (List.mem_of_getElem? (i := 12) rfl))) (mvT hZ (hw _ (List.mem_of_getElem? (i := 16) rfl))) (by decide) (backOf (W := 0) (rm4 l Z a0 hw [] b3 9 at0 z s58 sb k3 vsF 9 y9 hF n0 ZF VF rfl (by decide) hy9 oc9.1 oc9.2) hZ (hw _ (List.mem_of_getElem? (i := 16) rfl)) (hw _ (List.mem_of_getElem? (i := 12) rfl)) (by decide) (by decide)) (g := (mkF m 383 #[.val (.long p1), .second, .val (.int p2), .val (.int p3), .val (.int p4), .val (.long vv), .second, .val (.int at0), .val (.int sb), .val (.ref b3), .val (.int r0), .val (.long z), .second, .val (.int s58)] [(.int sb), (.int s58), (.long z), (.int at0), (.int (9 : Int32)), (.ref b3)])) rfl (by rw [hml]; rfl) (argsL := [(.ref b3), (.int (9 : Int32)), (.int at0), (.long z), (.int s58), (.int sb)]) (rest := []) (lenOf pd_4 rfl) rfl (by show 2 * 0 + _ ≤ _; exact Nat.le_of_eq rfl) (hb hby at_383) (fun _ _ => ⟨rfl, eh87, (by decide : 1 + 0 ≤ _), (by decide : 12 + 0 ≤ _)⟩)
  dsimp only [Pt.U, Pt.locs, Pt.cells, Pt.slots] at X90 l90 y90 z90 st90 hQ90
  obtain ⟨rfl, N90q, eh90⟩ := hQ90
  have C90 : Go p e below T90 (mkF m 386 #[.val (.long p1), .second, .val (.int p2), .val (.int p3), .val (.int p4), .val (.long vv), .second, .val (.int at0), .val (.int sb), .val (.ref b3), .val (.int r0), .val (.long z), .second, .val (.int s58)] [(.int (1 : Int32))]) s₁ F0 := fun t k => C89 t (st90 t k)
  have N90 : Fr n0 L90 := by rw [l90]; exact Fr.app N87 N90q
  have LS90 : Stand p l e room_1 s m #[(.long p1), (.int p2), (.int p3), (.int p4)] below meth c T90 L90 1 12 := by rw [y90, z90] at X90; exact X90
  have C91 : Go p e below T90 (mkF m 389 #[.val (.long p1), .second, .val (.int p2), .val (.int p3), .val (.int p4), .val (.long vv), .second, .val (.int at0), .val (.int sb), .val (.ref b3), .val (.int r0), .val (.long z), .second, .val (.int s58)] []) s₁ F0 := fun t k => C90 t (by
    refine XS.ifNo LS90.here hx rfl (hb hby at_386) rfl (by decide) ?_
    exact k)
  have C92 : Go p e below T90 (mkF m 401 #[.val (.long p1), .second, .val (.int p2), .val (.int p3), .val (.int p4), .val (.long vv), .second, .val (.int at0), .val (.int sb), .val (.ref b3), .val (.int r0), .val (.long z), .second, .val (.int s58)] [(.int sb), (.int s58), (.long z), (.int at0), (.int (10 : Int32)), (.ref b3)]) s₁ F0 := fun t k => C91 t (by
    refine XS.aload LS90.here hx rfl (hb hby at_389) rfl rfl ?_
    show Steps p.tables e below (T90.setTop (mkF m 391 #[.val (.long p1), .second, .val (.int p2), .val (.int p3), .val (.int p4), .val (.long vv), .second, .val (.int at0), .val (.int sb), .val (.ref b3), .val (.int r0), .val (.long z), .second, .val (.int s58)] [(.ref b3)])) _
    refine XS.bipush LS90.here hx rfl (hb hby at_391) ?_
    show Steps p.tables e below (T90.setTop (mkF m 393 #[.val (.long p1), .second, .val (.int p2), .val (.int p3), .val (.int p4), .val (.long vv), .second, .val (.int at0), .val (.int sb), .val (.ref b3), .val (.int r0), .val (.long z), .second, .val (.int s58)] [(.int (10 : Int32)), (.ref b3)])) _
    refine XS.iload LS90.here hx rfl (hb hby at_393) rfl ?_
    show Steps p.tables e below (T90.setTop (mkF m 395 #[.val (.long p1), .second, .val (.int p2), .val (.int p3), .val (.int p4), .val (.long vv), .second, .val (.int at0), .val (.int sb), .val (.ref b3), .val (.int r0), .val (.long z), .second, .val (.int s58)] [(.int at0), (.int (10 : Int32)), (.ref b3)])) _
    refine XS.lload LS90.here hx rfl (hb hby at_395) rfl ?_
    show Steps p.tables e below (T90.setTop (mkF m 397 #[.val (.long p1), .second, .val (.int p2), .val (.int p3), .val (.int p4), .val (.long vv), .second, .val (.int at0), .val (.int sb), .val (.ref b3), .val (.int r0), .val (.long z), .second, .val (.int s58)] [(.long z), (.int at0), (.int (10 : Int32)), (.ref b3)])) _
    refine XS.iload LS90.here hx rfl (hb hby at_397) rfl ?_
    show Steps p.tables e below (T90.setTop (mkF m 399 #[.val (.long p1), .second, .val (.int p2), .val (.int p3), .val (.int p4), .val (.long vv), .second, .val (.int at0), .val (.int sb), .val (.ref b3), .val (.int r0), .val (.long z), .second, .val (.int s58)] [(.int s58), (.long z), (.int at0), (.int (10 : Int32)), (.ref b3)])) _
    refine XS.iload LS90.here hx rfl (hb hby at_399) rfl ?_
    exact k)
  obtain ⟨y10, hy10, hi10, ho10⟩ := PF.2 10 (by decide)
  have oc10 := own_cell (J := (10 : Int32)) (j := 10) (s := sb) rfl hat0 hnn ha (by decide) hn10 hi10 ho10
  obtain ⟨_, _, ⟨T93, L93, k93, n93⟩, -, X93, ⟨Lc93, hQ93, l93, y93, z93⟩, st93⟩ := Jvm.LawKit.callS LS90 hx (y := (⟨"com/example/tidelog/tidelog/VarintsPutVarlongPinLaw", "cell", "([BIIJIB)Z"⟩ : MethodName)) hown (mvT hZ (hw _ (List.mem_of_getElem? (i := 14) rfl))) (mvT hZ (hw _ (List.mem_of_getElem? (i := 15) rfl))) (mvT hZ (hw _ (List.mem_of_getElem? (i := 12) rfl))) (mvT hZ (hw _ (List.mem_of_getElem? (i := 16) rfl))) (by decide) (backOf (W := 0) (rm4 l Z a0 hw [] b3 10 at0 z s58 sb k3 vsF 10 y10 hF n0 ZF VF rfl (by decide) hy10 oc10.1 oc10.2) hZ (hw _ (List.mem_of_getElem? (i := 16) rfl)) (hw _ (List.mem_of_getElem? (i := 12) rfl)) (by decide) (by decide)) (g := (mkF m 401 #[.val (.long p1), .second, .val (.int p2), .val (.int p3), .val (.int p4), .val (.long vv), .second, .val (.int at0), .val (.int sb), .val (.ref b3), .val (.int r0), .val (.long z), .second, .val (.int s58)] [(.int sb), (.int s58), (.long z), (.int at0), (.int (10 : Int32)), (.ref b3)])) rfl (by rw [hml]; rfl) (argsL := [(.ref b3), (.int (10 : Int32)), (.int at0), (.long z), (.int s58), (.int sb)]) (rest := []) (lenOf pd_4 rfl) rfl (by show 2 * 0 + _ ≤ _; exact Nat.le_of_eq rfl) (hb hby at_401) (fun _ _ => ⟨rfl, eh90, (by decide : 1 + 0 ≤ _), (by decide : 12 + 0 ≤ _)⟩)
  dsimp only [Pt.U, Pt.locs, Pt.cells, Pt.slots] at X93 l93 y93 z93 st93 hQ93
  obtain ⟨rfl, N93q, eh93⟩ := hQ93
  have C93 : Go p e below T93 (mkF m 404 #[.val (.long p1), .second, .val (.int p2), .val (.int p3), .val (.int p4), .val (.long vv), .second, .val (.int at0), .val (.int sb), .val (.ref b3), .val (.int r0), .val (.long z), .second, .val (.int s58)] [(.int (1 : Int32))]) s₁ F0 := fun t k => C92 t (st93 t k)
  have N93 : Fr n0 L93 := by rw [l93]; exact Fr.app N90 N93q
  have LS93 : Stand p l e room_1 s m #[(.long p1), (.int p2), (.int p3), (.int p4)] below meth c T93 L93 1 12 := by rw [y93, z93] at X93; exact X93
  have C94 : Go p e below T93 (mkF m 407 #[.val (.long p1), .second, .val (.int p2), .val (.int p3), .val (.int p4), .val (.long vv), .second, .val (.int at0), .val (.int sb), .val (.ref b3), .val (.int r0), .val (.long z), .second, .val (.int s58)] []) s₁ F0 := fun t k => C93 t (by
    refine XS.ifNo LS93.here hx rfl (hb hby at_404) rfl (by decide) ?_
    exact k)
  have C95 : Go p e below T93 (mkF m 419 #[.val (.long p1), .second, .val (.int p2), .val (.int p3), .val (.int p4), .val (.long vv), .second, .val (.int at0), .val (.int sb), .val (.ref b3), .val (.int r0), .val (.long z), .second, .val (.int s58)] [(.int sb), (.int s58), (.long z), (.int at0), (.int (11 : Int32)), (.ref b3)]) s₁ F0 := fun t k => C94 t (by
    refine XS.aload LS93.here hx rfl (hb hby at_407) rfl rfl ?_
    show Steps p.tables e below (T93.setTop (mkF m 409 #[.val (.long p1), .second, .val (.int p2), .val (.int p3), .val (.int p4), .val (.long vv), .second, .val (.int at0), .val (.int sb), .val (.ref b3), .val (.int r0), .val (.long z), .second, .val (.int s58)] [(.ref b3)])) _
    refine XS.bipush LS93.here hx rfl (hb hby at_409) ?_
    show Steps p.tables e below (T93.setTop (mkF m 411 #[.val (.long p1), .second, .val (.int p2), .val (.int p3), .val (.int p4), .val (.long vv), .second, .val (.int at0), .val (.int sb), .val (.ref b3), .val (.int r0), .val (.long z), .second, .val (.int s58)] [(.int (11 : Int32)), (.ref b3)])) _
    refine XS.iload LS93.here hx rfl (hb hby at_411) rfl ?_
    show Steps p.tables e below (T93.setTop (mkF m 413 #[.val (.long p1), .second, .val (.int p2), .val (.int p3), .val (.int p4), .val (.long vv), .second, .val (.int at0), .val (.int sb), .val (.ref b3), .val (.int r0), .val (.long z), .second, .val (.int s58)] [(.int at0), (.int (11 : Int32)), (.ref b3)])) _
    refine XS.lload LS93.here hx rfl (hb hby at_413) rfl ?_
    show Steps p.tables e below (T93.setTop (mkF m 415 #[.val (.long p1), .second, .val (.int p2), .val (.int p3), .val (.int p4), .val (.long vv), .second, .val (.int at0), .val (.int sb), .val (.ref b3), .val (.int r0), .val (.long z), .second, .val (.int s58)] [(.long z), (.int at0), (.int (11 : Int32)), (.ref b3)])) _
    refine XS.iload LS93.here hx rfl (hb hby at_415) rfl ?_
    show Steps p.tables e below (T93.setTop (mkF m 417 #[.val (.long p1), .second, .val (.int p2), .val (.int p3), .val (.int p4), .val (.long vv), .second, .val (.int at0), .val (.int sb), .val (.ref b3), .val (.int r0), .val (.long z), .second, .val (.int s58)] [(.int s58), (.long z), (.int at0), (.int (11 : Int32)), (.ref b3)])) _
    refine XS.iload LS93.here hx rfl (hb hby at_417) rfl ?_
    exact k)
  obtain ⟨y11, hy11, hi11, ho11⟩ := PF.2 11 (by decide)
  have oc11 := own_cell (J := (11 : Int32)) (j := 11) (s := sb) rfl hat0 hnn ha (by decide) hn10 hi11 ho11
  obtain ⟨_, _, ⟨T96, L96, k96, n96⟩, -, X96, ⟨Lc96, hQ96, l96, y96, z96⟩, st96⟩ := Jvm.LawKit.callS LS93 hx (y := (⟨"com/example/tidelog/tidelog/VarintsPutVarlongPinLaw", "cell", "([BIIJIB)Z"⟩ : MethodName)) hown (mvT hZ (hw _ (List.mem_of_getElem? (i := 14) rfl))) (mvT hZ (hw _ (List.mem_of_getElem? (i := 15) rfl))) (mvT hZ (hw _ (List.mem_of_getElem? (i := 12) rfl))) (mvT hZ (hw _ (List.mem_of_getElem? (i := 16) rfl))) (by decide) (backOf (W := 0) (rm4 l Z a0 hw [] b3 11 at0 z s58 sb k3 vsF 11 y11 hF n0 ZF VF rfl (by decide) hy11 oc11.1 oc11.2) hZ (hw _ (List.mem_of_getElem? (i := 16) rfl)) (hw _ (List.mem_of_getElem? (i := 12) rfl)) (by decide) (by decide)) (g := (mkF m 419 #[.val (.long p1), .second, .val (.int p2), .val (.int p3), .val (.int p4), .val (.long vv), .second, .val (.int at0), .val (.int sb), .val (.ref b3), .val (.int r0), .val (.long z), .second, .val (.int s58)] [(.int sb), (.int s58), (.long z), (.int at0), (.int (11 : Int32)), (.ref b3)])) rfl (by rw [hml]; rfl) (argsL := [(.ref b3), (.int (11 : Int32)), (.int at0), (.long z), (.int s58), (.int sb)]) (rest := []) (lenOf pd_4 rfl) rfl (by show 2 * 0 + _ ≤ _; exact Nat.le_of_eq rfl) (hb hby at_419) (fun _ _ => ⟨rfl, eh93, (by decide : 1 + 0 ≤ _), (by decide : 12 + 0 ≤ _)⟩)
  dsimp only [Pt.U, Pt.locs, Pt.cells, Pt.slots] at X96 l96 y96 z96 st96 hQ96
  obtain ⟨rfl, N96q, eh96⟩ := hQ96
  have C96 : Go p e below T96 (mkF m 422 #[.val (.long p1), .second, .val (.int p2), .val (.int p3), .val (.int p4), .val (.long vv), .second, .val (.int at0), .val (.int sb), .val (.ref b3), .val (.int r0), .val (.long z), .second, .val (.int s58)] [(.int (1 : Int32))]) s₁ F0 := fun t k => C95 t (st96 t k)
  have N96 : Fr n0 L96 := by rw [l96]; exact Fr.app N93 N96q
  have LS96 : Stand p l e room_1 s m #[(.long p1), (.int p2), (.int p3), (.int p4)] below meth c T96 L96 1 12 := by rw [y96, z96] at X96; exact X96
  have C97 : Go p e below T96 (mkF m 425 #[.val (.long p1), .second, .val (.int p2), .val (.int p3), .val (.int p4), .val (.long vv), .second, .val (.int at0), .val (.int sb), .val (.ref b3), .val (.int r0), .val (.long z), .second, .val (.int s58)] []) s₁ F0 := fun t k => C96 t (by
    refine XS.ifNo LS96.here hx rfl (hb hby at_422) rfl (by decide) ?_
    exact k)
  have C98 : Go p e below T96 (mkF m 430 #[.val (.long p1), .second, .val (.int p2), .val (.int p3), .val (.int p4), .val (.long vv), .second, .val (.int at0), .val (.int sb), .val (.ref b3), .val (.int r0), .val (.long z), .second, .val (.int s58)] [(.int (1 : Int32))]) s₁ F0 := fun t k => C97 t (by
    refine XS.iconst LS96.here hx rfl (hb hby at_425) ?_
    show Steps p.tables e below (T96.setTop (mkF m 426 #[.val (.long p1), .second, .val (.int p2), .val (.int p3), .val (.int p4), .val (.long vv), .second, .val (.int at0), .val (.int sb), .val (.ref b3), .val (.int r0), .val (.long z), .second, .val (.int s58)] [(.int (1 : Int32))])) _
    refine XS.goto LS96.here hx rfl (pc0 := 426) (pc' := 430) rfl (hb hby at_426) (by decide) (by decide) ?_
    exact k)
  obtain ⟨fs, hr, hrun, hended, hW, hsame⟩ := LS96.leave (v := (some (.int (nar .boolean (1 : Int32))))) (fun h => by rw [Bd.returns] at h; cases h)
  refine ⟨_, _, pre0 _ (C98 _ ?_), hrun, hended, _, _, rfl, ?_, ⟨_, rfl⟩, hW, hsame.mono (by decide) (by decide)⟩
  · exact retN LS96 hx (t := .boolean) Bd.returns (by simp) (hb hby at_430) hr
  · show Q0 Z p1 p2 p3 p4 h0 n0 _ T96.heap _
    exact ⟨rfl, N96⟩
set_option maxRecDepth 65536 in
set_option maxHeartbeats 40000000 in
theorem comes_1 {Post : Tables → Env → Array Value → State → Outcome → State → Prop} (hpost : ∀ tb e args s v u, (limb_1_1.after args s (.returned v) u = true ∧ limb_1_2.after args s (.returned v) u = true ∧ True) → FrameEnd s (.returned v) u (Jvm.fieldLocs frame_1_writes args s ++ Jvm.arrayLocs frame_1_arrays args s ++ Jvm.staticLocs frame_1_statics s) 16 128 → Post tb e args s (.returned v) u) :
    ArmFor flags0 classFile x code maxLocals ret World_1 tables_1 room_1 Calls_1 rest_1 Pre_1 Post := by
  intro l hfl _ _ p e ha hc hk s m args below hf hA hF happ hP
  obtain ⟨hcalls, hrest, hpre⟩ := hP
  obtain ⟨-, -, -, hnamed, -, -, -, hat⟩ := (Spec.applies_iff hf).mp happ
  obtain ⟨hg, hn⟩ := and_e (Cond.before_iff.mp (show (Jvm.Cond.and given_1 narrow_1).before args s = true from hpre))
  obtain ⟨h1, j0⟩ := and_e hg
  obtain ⟨i0, j1⟩ := and_e j0
  obtain ⟨i1, j2⟩ := and_e j1
  obtain ⟨i2, j3⟩ := and_e j2
  have i3 := j3
  obtain ⟨w0, w1, w2, w3, rfl⟩ : ∃ w0 w1 w2 w3 : Value, args = #[w0, w1, w2, w3] := by
    have hs : args.size = 4 := by simpa [Cond.value, given_1] using h1
    obtain ⟨L⟩ := args
    match L, hs with
    | [w0, w1, w2, w3], _ => exact ⟨w0, w1, w2, w3, rfl⟩
  have hw := fun d (hd : d ∈ tables_1) => atoms_spec (ws := Jvm.Cond.code x code maxLocals ret :: tables_1) hat d (List.mem_cons_of_mem _ hd)
  obtain ⟨v0, e0⟩ := isL_v i0
  obtain rfl : w0 = (.long v0) := Option.some.inj e0
  obtain ⟨v1, e1⟩ := is_v i1
  obtain rfl : w1 = (.int v1) := Option.some.inj e1
  obtain ⟨v2, e2⟩ := is_v i2
  obtain rfl : w2 = (.int v2) := Option.some.inj e2
  obtain ⟨v3, e3⟩ := is_v i3
  obtain rfl : w3 = (.int v3) := Option.some.inj e3
  obtain ⟨n, o, h1, h2, h3, _, L, rfl, ⟨rfl, N⟩, hq⟩ := rm0 l s _ hw tables_1 v0 v1 v2 v3 s.heap s.heap.size (Nat.le_refl _) p e ha hc hk s m _ below hf ((Spec.applies_iff_loose hf).mp happ).1 ⟨rfl, State.Warmed39.refl s, rfl⟩ trivial
  refine ⟨n, _, h1, h2, h3, hpost _ _ _ _ _ _ ⟨Cond.after_iff.mpr rfl, Cond.after_iff.mpr (eq_i res_at (Term.int_eval (1)) rfl), trivial⟩ ⟨hq.1, hq.2.1, (hq.2.2.sift fun y hy => Or.inr (N y hy)).mono (by decide) (by decide)⟩⟩
theorem main_1_1 : Claimed_1_1 := comes_1 fun _ _ _ _ _ _ h hF => ⟨h.1, hF⟩
theorem main_1_2 : Claimed_1_2 := comes_1 fun _ _ _ _ _ _ h hF => ⟨h.2.1, hF⟩
end Jvm.Pilot.@@N@@
namespace Jvm.Pilot.@@N@@
open Jvm Jvm.ClassFile Sem Op Lib Jvm.Free Jvm.Stand Jvm.Pilot.@@N@@.Jvm.D
/-! MADE BY PROGRAM (witnessworld.py) out of the Statement's table words and the real class files: 9 classes; the members and pool entries that the words name. The judged class is class 1, her method 3. -/
namespace start1
open Jvm.ClassFile
def u (s : String) : CpInfo := .utf8 (stringToUtf16 s)
/-- a pool by its gaps: so many unusable entries, then the entry; so many at the end -/
def gap : Nat → List CpInfo → List CpInfo
  | 0, r => r
  | n + 1, r => .unusable :: gap n r
def poolList (es : List (Nat × CpInfo)) (last : Nat) : List CpInfo := es.foldr (fun e r => gap e.1 (e.2 :: r)) (gap last [])
def pool (es : List (Nat × CpInfo)) (last : Nat) : Array CpInfo := ⟨poolList es last⟩
def fileOf (pool : Array CpInfo) (this : Nat) (attrs : Array Attribute := #[]) (ms : Array MethodInfo := #[]) (fl : Nat := 33) (sup : Nat := 0) (ifs : Array Nat := #[]) (fds : Array FieldInfo := #[]) : ClassFile where
  minorVersion := 0
  majorVersion := 65
  constantPool := pool
  accessFlags := fl
  thisClass := this
  superClass := sup
  interfaces := ifs
  fields := fds
  methods := ms
  attributes := attrs
def plain (name : String) (sup : Option ClassId) : Class where
  name := name
  kind := .ordinary
  loader := none
  accessFlags := 33
  super := sup
  interfaces := #[]
  cf := none
  fields := #[]
  methods := #[]
  instanceTypes := #[]
  staticTypes := #[]
  resolved := #[]
  callSites := []
  init := .initialized
  statics := none
  mirror := none

def pool0 : Array CpInfo := pool [(5, u "<init>"), (0, u "()V"), (1, .class_ 10), (1, u "java/lang/Object")] 113

def k0m0 : Method := { name := "<init>", desc := "()V", sig := { parameters := [], returnType := none }, accessFlags := 1, code := none }
/-- java/lang/Object -/
def k0 : Class := { plain "java/lang/Object" none with
  accessFlags := 33
  interfaces := #[]
  cf := some (fileOf pool0 8 #[] #[{ accessFlags := 1, nameIndex := 5, descriptorIndex := 6, attributes := #[] }] 33 0 #[] #[])
  fields := #[]
  methods := #[k0m0]
  instanceTypes := #[]
  staticTypes := #[]
  resolved := Array.replicate 124 none
  statics := none }

def pool1 : Array CpInfo := pool [(2, .class_ 4), (1, u "java/lang/Object"), (0, u "<init>"), (0, u "()V"), (0, .long 127), (1, .integer 2147483647), (0, .methodref 11 12), (0, .class_ 13), (0, .nameAndType 14 15), (0, u "com/example/tidelog/tidelog/Varints"), (0, u "putVarlong"), (0, u "([BIJ)I"), (0, .long 18446744073709551615), (1, .methodref 19 20), (0, .class_ 21), (0, .nameAndType 22 23), (0, u "com/example/tidelog/tidelog/VarintsPutVarlongPinLaw"), (0, u "more"), (0, u "(JI)I"), (0, .methodref 19 25), (0, .nameAndType 26 27), (0, u "cell"), (0, u "([BIIJIB)Z"), (5, u "law"), (0, u "(JIII)Z")] 2

def k1m0 : Method := { name := "<init>", desc := "()V", sig := { parameters := [], returnType := none }, accessFlags := 2, code := none }
def k1c1 : Code := { maxStack := 4, maxLocals := 3, code := method_2_code, exceptionTable := #[], attributes := #[] }
def k1m1 : Method := { name := "more", desc := "(JI)I", sig := { parameters := [.long, .int], returnType := some .int }, accessFlags := 10, code := some k1c1 }
def k1c2 : Code := { maxStack := 4, maxLocals := 9, code := method_3_code, exceptionTable := #[], attributes := #[] }
def k1m2 : Method := { name := "cell", desc := "([BIIJIB)Z", sig := { parameters := [(.array .byte), .int, .int, .long, .int, .byte], returnType := some .boolean }, accessFlags := 10, code := some k1c2 }
def k1c3 : Code := { maxStack := 7, maxLocals := 14, code := code, exceptionTable := #[], attributes := #[] }
def k1m3 : Method := { name := "law", desc := "(JIII)Z", sig := { parameters := [.long, .int, .int, .int], returnType := some .boolean }, accessFlags := 9, code := some k1c3 }
/-- com/example/tidelog/tidelog/VarintsPutVarlongPinLaw -/
def k1 : Class := { plain "com/example/tidelog/tidelog/VarintsPutVarlongPinLaw" (some 0) with
  accessFlags := 49
  interfaces := #[]
  cf := some (fileOf pool1 19 #[] #[{ accessFlags := 2, nameIndex := 5, descriptorIndex := 6, attributes := #[] }, { accessFlags := 10, nameIndex := 22, descriptorIndex := 23, attributes := #[] }, { accessFlags := 10, nameIndex := 26, descriptorIndex := 27, attributes := #[] }, { accessFlags := 9, nameIndex := 33, descriptorIndex := 34, attributes := #[] }] 49 2 #[] #[])
  fields := #[]
  methods := #[k1m0, k1m1, k1m2, k1m3]
  instanceTypes := #[]
  staticTypes := #[]
  resolved := Array.replicate 37 none
  statics := none }

def pool2 : Array CpInfo := pool [(2, .class_ 4), (1, u "java/lang/Object"), (0, u "<init>"), (0, u "()V"), (1, .class_ 10), (1, u "com/example/tidelog/tidelog/Varints"), (2, .methodref 8 14), (0, .nameAndType 15 16), (0, u "zigZag"), (0, u "(J)J"), (0, .long 18446744073709551488), (3, u "putVarlong"), (0, u "([BIJ)I"), (0, .long 18446744073709535232), (1, .long 128), (1, .long 127), (20, u "MAX_VARINT_BYTES"), (0, u "I"), (2, u "MAX_VARLONG_BYTES")] 32

def k2m0 : Method := { name := "<init>", desc := "()V", sig := { parameters := [], returnType := none }, accessFlags := 2, code := none }
def k2c1 : Code := { maxStack := 6, maxLocals := 7, code := prog_41_method_5_code, exceptionTable := #[], attributes := #[] }
def k2m1 : Method := { name := "putVarlong", desc := "([BIJ)I", sig := { parameters := [(.array .byte), .int, .long], returnType := some .int }, accessFlags := 8, code := some k2c1 }
def k2c2 : Code := { maxStack := 5, maxLocals := 2, code := prog_41_method_9_code, exceptionTable := #[], attributes := #[] }
def k2m2 : Method := { name := "zigZag", desc := "(J)J", sig := { parameters := [.long], returnType := some .long }, accessFlags := 10, code := some k2c2 }
/-- com/example/tidelog/tidelog/Varints -/
def k2 : Class := { plain "com/example/tidelog/tidelog/Varints" (some 0) with
  accessFlags := 48
  interfaces := #[]
  cf := some (fileOf pool2 8 #[] #[{ accessFlags := 2, nameIndex := 5, descriptorIndex := 6, attributes := #[] }, { accessFlags := 8, nameIndex := 21, descriptorIndex := 22, attributes := #[] }, { accessFlags := 10, nameIndex := 15, descriptorIndex := 16, attributes := #[] }] 48 2 #[] #[{ accessFlags := 26, nameIndex := 48, descriptorIndex := 49, attributes := #[] }, { accessFlags := 26, nameIndex := 52, descriptorIndex := 49, attributes := #[] }])
  fields := #[{ name := "MAX_VARINT_BYTES", type := .int, accessFlags := 26, slot := 0, constantValue := 0 }, { name := "MAX_VARLONG_BYTES", type := .int, accessFlags := 26, slot := 1, constantValue := 0 }]
  methods := #[k2m0, k2m1, k2m2]
  instanceTypes := #[]
  staticTypes := #[.int, .int]
  resolved := Array.replicate 85 none
  statics := none }

def pool3 : Array CpInfo := pool [(1, u "java/lang/Cloneable"), (0, .class_ 1), (0, u "java/lang/Object"), (0, .class_ 3)] 3

/-- java/lang/Cloneable -/
def k3 : Class := { plain "java/lang/Cloneable" (some 0) with
  accessFlags := 1537
  interfaces := #[]
  cf := some (fileOf pool3 2 #[] #[] 1537 4 #[] #[])
  fields := #[]
  methods := #[]
  instanceTypes := #[]
  staticTypes := #[]
  resolved := Array.replicate 8 none
  statics := none }

def pool4 : Array CpInfo := pool [(1, u "java/io/Serializable"), (0, .class_ 1), (0, u "java/lang/Object"), (0, .class_ 3)] 3

/-- java/io/Serializable -/
def k4 : Class := { plain "java/io/Serializable" (some 0) with
  accessFlags := 1537
  interfaces := #[]
  cf := some (fileOf pool4 2 #[] #[] 1537 4 #[] #[])
  fields := #[]
  methods := #[]
  instanceTypes := #[]
  staticTypes := #[]
  resolved := Array.replicate 8 none
  statics := none }

/-- the primitive byte -/
def k5 : Class := { plain "byte" none with kind := .primitive 'B', accessFlags := 0x411 }
/-- [B -/
def k6 : Class := { plain "[B" (some 0) with kind := .array 5 .byte, interfaces := #[3, 4], accessFlags := 1041 }

/-- the primitive int -/
def k7 : Class := { plain "int" none with kind := .primitive 'I', accessFlags := 0x411 }
/-- [I -/
def k8 : Class := { plain "[I" (some 0) with kind := .array 7 .int, interfaces := #[3, 4], accessFlags := 1041 }

def heap : Heap := #[]
def classes : Array Class := #[k0, k1, k2, k3, k4, k5, k6, k7, k8]
def interned : List (Array UInt16 × Addr) := []
def slotsUsed : Nat := 0
def theMethod : MethodId := ⟨1, 3⟩
def args0 : Array Value := #[.long 300, .int 0, .int 1, .int 7]
def aboutOver (below : List Frame) : State where
  vm := { classes := classes, interned := interned.toArray }
  heap := heap
  slotsUsed := slotsUsed
  threads := #[{ frames := .invoking theMethod args0 :: below }]
def below0 : List Frame := [.native { method := ⟨0, 0⟩, args := #[] }]
def about1 : State := aboutOver below0
def p0 : Program := .bare "" "" ""
def e0 : Env := launch0.env 0 0 0
theorem w_frames : about1.frames = Frame.invoking theMethod args0 :: below0 := rfl
set_option maxRecDepth 65536 in
theorem w_args : argsFit about1.vm theMethod args0 = true := by decide +kernel
set_option maxRecDepth 65536 in
theorem w_heap : heapFits about1 = true := by decide +kernel
set_option maxRecDepth 65536 in
theorem w_runnable : about1.curStatus? = some .runnable := by decide +kernel
set_option maxRecDepth 65536 in
theorem w_alone : about1.alone = true := by decide +kernel
set_option maxRecDepth 65536 in
theorem w_named : about1.methodNamed? x = some theMethod := by decide +kernel
set_option maxRecDepth 65536 in
theorem w_hears : about1.hears theMethod below0 = true := by decide +kernel
set_option maxRecDepth 65536 in
theorem w_ripe : about1.ripe theMethod args0 below0 = true := by decide +kernel
theorem w_running : about1.status = .running := rfl
set_option maxRecDepth 65536 in
theorem w_room : about1.hasRoom e0.platform room_1 = true :=
  launch0.hasRoom_least _ room_1 (by decide +kernel) (by decide +kernel) (by decide +kernel) (by decide +kernel) (by decide +kernel) (by decide +kernel)
theorem allAtoms_all (ts : List Jvm.Cond) (a : Array Jvm.Value) (st : Jvm.State) : (allAtoms ts).before a st = ts.all (fun c => c.before a st) := by
  induction ts with
  | nil => rfl
  | cons c t ih =>
    show (Jvm.Cond.and c (allAtoms t)).before a st = _
    rw [Jvm.Cond.before_and, ih, List.all_cons]
def words1 : List Jvm.Cond := Jvm.Cond.code x code maxLocals ret :: tables_1
/-- a 'code' word, met by the world's own term for the bytes: nothing is compared byte by byte -/
theorem code_word {y : MethodName} {bytes : ByteArray} {mx : Nat} {rt : Option FieldType} {a : Array Value} {s : State} {m : MethodId} {meth : Method} {c : Code} (h1 : s.methodNamed? y = some m) (h2 : s.vm.method? m = some meth) (h3 : meth.code = some c) (h4 : c.code = bytes)
    (h5 : (c.maxLocals == mx && c.exceptionTable.isEmpty && decide (c.maxStack ≤ mostOperands) && decide (meth.sig.returnType = rt) && !meth.locks && decide (parseMethodDescriptor y.desc = some meth.sig)) = true) : (Jvm.Cond.code y bytes mx rt).before a s = true := by
  simp only [Bool.and_eq_true, beq_iff_eq, Bool.not_eq_true', decide_eq_true_eq] at h5
  obtain ⟨⟨⟨⟨⟨g1, g2⟩, g3⟩, g4⟩, g5⟩, g6⟩ := h5
  simp [Cond.before, Cond.holds, Cond.value, h1, h2, h3, h4, g1, g2, g3, g4, g5, g6]
def isCode : Jvm.Cond → Bool
  | .code _ _ _ _ => true
  | _ => false
theorem all_split {L : List Jvm.Cond} {P : Jvm.Cond → Bool} (h1 : L.all (fun c => isCode c || P c) = true) (h2 : ∀ c ∈ L.filter isCode, P c = true) : L.all P = true := by
  refine List.all_eq_true.mpr fun c hc => ?_
  have h := List.all_eq_true.mp h1 c hc
  rcases Bool.eq_false_or_eq_true (isCode c) with hi | hi
  · exact h2 c (List.mem_filter.mpr ⟨hc, hi⟩)
  · simpa [hi] using h
set_option maxRecDepth 65536 in
theorem w_c0 : (Jvm.Cond.code x code maxLocals ret).before args0 about1 = true := code_word (m := ⟨1, 3⟩) (meth := k1m3) (c := k1c3) (by decide +kernel) rfl rfl rfl (by decide +kernel)
set_option maxRecDepth 65536 in
theorem w_c1 : (Jvm.Cond.code ({ cls := "com/example/tidelog/tidelog/Varints", name := "putVarlong", desc := "([BIJ)I" } : Jvm.MethodName) prog_41_method_5_code (7 : Nat) (Option.some Jvm.ClassFile.FieldType.int)).before args0 about1 = true := code_word (m := ⟨2, 1⟩) (meth := k2m1) (c := k2c1) (by decide +kernel) rfl rfl rfl (by decide +kernel)
set_option maxRecDepth 65536 in
theorem w_c2 : (Jvm.Cond.code ({ cls := "com/example/tidelog/tidelog/Varints", name := "zigZag", desc := "(J)J" } : Jvm.MethodName) prog_41_method_9_code (2 : Nat) (Option.some Jvm.ClassFile.FieldType.long)).before args0 about1 = true := code_word (m := ⟨2, 2⟩) (meth := k2m2) (c := k2c2) (by decide +kernel) rfl rfl rfl (by decide +kernel)
set_option maxRecDepth 65536 in
theorem w_c3 : (Jvm.Cond.code ({ cls := "com/example/tidelog/tidelog/VarintsPutVarlongPinLaw", name := "more", desc := "(JI)I" } : Jvm.MethodName) method_2_code (3 : Nat) (Option.some Jvm.ClassFile.FieldType.int)).before args0 about1 = true := code_word (m := ⟨1, 1⟩) (meth := k1m1) (c := k1c1) (by decide +kernel) rfl rfl rfl (by decide +kernel)
set_option maxRecDepth 65536 in
theorem w_c4 : (Jvm.Cond.code ({ cls := "com/example/tidelog/tidelog/VarintsPutVarlongPinLaw", name := "cell", desc := "([BIIJIB)Z" } : Jvm.MethodName) method_3_code (9 : Nat) (Option.some Jvm.ClassFile.FieldType.boolean)).before args0 about1 = true := code_word (m := ⟨1, 2⟩) (meth := k1m2) (c := k1c2) (by decide +kernel) rfl rfl rfl (by decide +kernel)
def codes1 : List Jvm.Cond := [Jvm.Cond.code x code maxLocals ret, Jvm.Cond.code ({ cls := "com/example/tidelog/tidelog/Varints", name := "putVarlong", desc := "([BIJ)I" } : Jvm.MethodName) prog_41_method_5_code (7 : Nat) (Option.some Jvm.ClassFile.FieldType.int), Jvm.Cond.code ({ cls := "com/example/tidelog/tidelog/Varints", name := "zigZag", desc := "(J)J" } : Jvm.MethodName) prog_41_method_9_code (2 : Nat) (Option.some Jvm.ClassFile.FieldType.long), Jvm.Cond.code ({ cls := "com/example/tidelog/tidelog/VarintsPutVarlongPinLaw", name := "more", desc := "(JI)I" } : Jvm.MethodName) method_2_code (3 : Nat) (Option.some Jvm.ClassFile.FieldType.int), Jvm.Cond.code ({ cls := "com/example/tidelog/tidelog/VarintsPutVarlongPinLaw", name := "cell", desc := "([BIIJIB)Z" } : Jvm.MethodName) method_3_code (9 : Nat) (Option.some Jvm.ClassFile.FieldType.boolean)]
set_option maxRecDepth 65536 in
theorem codes_eq : words1.filter isCode = codes1 := rfl
theorem w_codes : ∀ c ∈ words1.filter isCode, c.before args0 about1 = true := by
  rw [codes_eq]
  intro c hc
  simp only [codes1, List.mem_cons, List.not_mem_nil, or_false] at hc
  rcases hc with rfl | rfl | rfl | rfl | rfl
  · exact w_c0
  · exact w_c1
  · exact w_c2
  · exact w_c3
  · exact w_c4
set_option maxRecDepth 65536 in
theorem w_t1 : words1.all (fun c => isCode c || c.before args0 about1) = true := by decide +kernel
theorem w_tables : (allAtoms (Jvm.Cond.code x code maxLocals ret :: tables_1)).before args0 about1 = true := by
  rw [allAtoms_all]
  show words1.all (fun c => c.before args0 about1) = true
  refine all_split ?_ w_codes
  rw [w_t1]
set_option maxRecDepth 65536 in
theorem w_case : (Jvm.Cond.and given_1 narrow_1).before args0 about1 = true := by decide +kernel
theorem w_applies : (headSpec (Jvm.Cond.code x code maxLocals ret :: tables_1) room_1).applies x e0.platform about1 = true :=
  (Spec.applies_iff w_frames).mpr ⟨w_running, w_runnable, w_alone, w_named, w_hears, w_ripe, w_room, w_tables⟩
theorem atStart : AtStart classFile x code maxLocals ret World_1 tables_1 room_1 Calls_1 rest_1 Pre_1 launch0 p0 e0 about1 theMethod args0 below0 :=
  ⟨lists_1, trivial, launch0.admits_env _ _ _, launch0.least_env, fairChoices_fair.cas, fairChoices_fair.clock, w_frames, w_args, w_heap, w_applies, trivial, trivial, w_case⟩
end start1
theorem witness_1 : WitnessClaimed_1 := ⟨start1.p0, start1.e0, start1.about1, start1.theMethod, start1.args0, start1.below0, start1.atStart⟩
end Jvm.Pilot.@@N@@
