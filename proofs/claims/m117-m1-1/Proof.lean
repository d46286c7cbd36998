import JvmDerived
import JvmDerived.Pilot.@@N@@Statement
import JvmDerived.Pilot.@@N@@Code
set_option linter.unusedVariables false
set_option linter.unusedSimpArgs false
namespace Jvm.Pilot.@@N@@
open Jvm Jvm.ClassFile Sem Op Lib Jvm.Free Jvm.Stand Jvm.LawKit Jvm.RoadKit Bundle Jvm.Pilot.@@N@@.Jvm.D
theorem own_wrap {A : Prop} (h : ∀ GL : Prop, (A → GL) → GL) : A := h A id
abbrev own_us (x : Int64) (k : Int32) : Int64 := (x.toUInt64 >>> (k &&& 0x3f).toInt64.toUInt64).toInt64
def own_mean (a b c d : Int64) : Int64 :=
  ((own_us (((((a &&& (71777214294589695 : Int64)) + (b &&& (71777214294589695 : Int64))) + (c &&& (71777214294589695 : Int64))) + (d &&& (71777214294589695 : Int64))) + (562958543486978 : Int64)) (2 : Int32)) &&& (71777214294589695 : Int64)) |||
    (((own_us ((((((own_us a (8 : Int32)) &&& (71777214294589695 : Int64)) + ((own_us b (8 : Int32)) &&& (71777214294589695 : Int64))) + ((own_us c (8 : Int32)) &&& (71777214294589695 : Int64))) + ((own_us d (8 : Int32)) &&& (71777214294589695 : Int64))) + (562958543486978 : Int64)) (2 : Int32)) &&& (71777214294589695 : Int64)) <<< ((8 : Int32) &&& 0x3f).toInt64)
def own_smp (a : Int64) (s : Int32) : Int64 := (own_us a s) &&& (255 : Int64)
def own_lane (a b c d : Int64) (s : Int32) : Int64 := ((((((own_smp a s) + (own_smp b s)) + (own_smp c s)) + (own_smp d s)) + (2 : Int64)) >>> ((2 : Int32) &&& 0x3f).toInt64) <<< (s &&& 0x3f).toInt64
theorem own_t_and (q r q' r' : Nat) (h : r < 256) (h' : r' < 256) : (256 * q + r) &&& (256 * q' + r') = 256 * (q &&& q') + (r &&& r') := by
  apply Nat.eq_of_testBit_eq
  intro j
  have e : (256 : Nat) = 2 ^ 8 := by decide
  have hr : r &&& r' < 2 ^ 8 := Nat.and_lt_two_pow _ (by omega)
  rw [e] at h h' ⊢
  rw [Nat.testBit_and, Nat.testBit_two_pow_mul_add _ h, Nat.testBit_two_pow_mul_add _ h', Nat.testBit_two_pow_mul_add _ hr]
  split <;> simp [Nat.testBit_and]
theorem own_t_or (q r q' r' : Nat) (h : r < 256) (h' : r' < 256) : (256 * q + r) ||| (256 * q' + r') = 256 * (q ||| q') + (r ||| r') := by
  apply Nat.eq_of_testBit_eq
  intro j
  have e : (256 : Nat) = 2 ^ 8 := by decide
  rw [e] at h h' ⊢
  have hr : r ||| r' < 2 ^ 8 := Nat.or_lt_two_pow h h'
  rw [Nat.testBit_or, Nat.testBit_two_pow_mul_add _ h, Nat.testBit_two_pow_mul_add _ h', Nat.testBit_two_pow_mul_add _ hr]
  split <;> simp [Nat.testBit_or]
theorem own_t_xor (q r q' r' : Nat) (h : r < 256) (h' : r' < 256) : (256 * q + r) ^^^ (256 * q' + r') = 256 * (q ^^^ q') + (r ^^^ r') := by
  apply Nat.eq_of_testBit_eq
  intro j
  have e : (256 : Nat) = 2 ^ 8 := by decide
  rw [e] at h h' ⊢
  have hr : r ^^^ r' < 2 ^ 8 := Nat.xor_lt_two_pow h h'
  rw [Nat.testBit_xor, Nat.testBit_two_pow_mul_add _ h, Nat.testBit_two_pow_mul_add _ h', Nat.testBit_two_pow_mul_add _ hr]
  split <;> simp [Nat.testBit_xor]
abbrev own_nv (x : Int64) : Nat := x.toBitVec.toNat
theorem own_nv_and (x y : Int64) : own_nv (x &&& y) = own_nv x &&& own_nv y := by simp [own_nv]
theorem own_nv_or (x y : Int64) : own_nv (x ||| y) = own_nv x ||| own_nv y := by simp [own_nv]
theorem own_nv_xor (x y : Int64) : own_nv (x ^^^ y) = own_nv x ^^^ own_nv y := by simp [own_nv]
theorem own_nv_add (x y : Int64) : own_nv (x + y) = (own_nv x + own_nv y) % 18446744073709551616 := by simp [own_nv]
theorem own_nv_sub (x y : Int64) : own_nv (x - y) = (18446744073709551616 - own_nv y + own_nv x) % 18446744073709551616 := by simp [own_nv, BitVec.toNat_sub]
theorem own_nv_mul (x y : Int64) : own_nv (x * y) = (own_nv x * own_nv y) % 18446744073709551616 := by simp [own_nv]
theorem own_nv_lt (x : Int64) : own_nv x < 18446744073709551616 := x.toBitVec.isLt
theorem own_nv_inj {x y : Int64} (h : own_nv x = own_nv y) : x = y := Int64.toBitVec_inj.mp (BitVec.eq_of_toNat_eq h)
theorem own_nv_us (x : Int64) (k : Int32) (n : Nat) (hk : ((k &&& 0x3f).toInt64.toUInt64.toBitVec % 64).toNat = n) : own_nv (own_us x k) = own_nv x / 2 ^ n := by
  show ((x.toUInt64 >>> (k &&& 0x3f).toInt64.toUInt64).toBitVec).toNat = _
  rw [UInt64.toBitVec_shiftRight]
  rw [BitVec.ushiftRight_eq', BitVec.toNat_ushiftRight, hk, Nat.shiftRight_eq_div_pow]
  rfl
theorem own_nv_shl (x : Int64) (k : Int32) (n : Nat) (hk : ((k &&& 0x3f).toInt64.toBitVec.smod 64).toNat = n) : own_nv (x <<< (k &&& 0x3f).toInt64) = own_nv x * 2 ^ n % 18446744073709551616 := by
  show ((x <<< (k &&& 0x3f).toInt64).toBitVec).toNat = _
  rw [Int64.toBitVec_shiftLeft, BitVec.shiftLeft_eq', BitVec.toNat_shiftLeft, hk, Nat.shiftLeft_eq]
theorem own_nv_bytes (x : Int64) : ∃ a0 a1 a2 a3 a4 a5 a6 a7 : Nat, a0 < 256 ∧ a1 < 256 ∧ a2 < 256 ∧ a3 < 256 ∧ a4 < 256 ∧ a5 < 256 ∧ a6 < 256 ∧ a7 < 256 ∧ own_nv x = 256 * (256 * (256 * (256 * (256 * (256 * (256 * a7 + a6) + a5) + a4) + a3) + a2) + a1) + a0 := by
  have h := own_nv_lt x
  generalize own_nv x = n at *
  refine ⟨n % 256, n / 256 % 256, n / 256 / 256 % 256, n / 256 / 256 / 256 % 256, n / 256 / 256 / 256 / 256 % 256, n / 256 / 256 / 256 / 256 / 256 % 256, n / 256 / 256 / 256 / 256 / 256 / 256 % 256, n / 256 / 256 / 256 / 256 / 256 / 256 / 256, ?_⟩
  omega

abbrev own_pk (a0 a1 a2 a3 a4 a5 a6 a7 : Nat) : Nat := 256 * (256 * (256 * (256 * (256 * (256 * (256 * a7 + a6) + a5) + a4) + a3) + a2) + a1) + a0
theorem own_pk_and {a0 a1 a2 a3 a4 a5 a6 a7 b0 b1 b2 b3 b4 b5 b6 b7 : Nat} (h0 : a0 < 256) (h1 : a1 < 256) (h2 : a2 < 256) (h3 : a3 < 256) (h4 : a4 < 256) (h5 : a5 < 256) (h6 : a6 < 256) (g0 : b0 < 256) (g1 : b1 < 256) (g2 : b2 < 256) (g3 : b3 < 256) (g4 : b4 < 256) (g5 : b5 < 256) (g6 : b6 < 256) :
    own_pk a0 a1 a2 a3 a4 a5 a6 a7 &&& own_pk b0 b1 b2 b3 b4 b5 b6 b7 = own_pk (a0 &&& b0) (a1 &&& b1) (a2 &&& b2) (a3 &&& b3) (a4 &&& b4) (a5 &&& b5) (a6 &&& b6) (a7 &&& b7) := by
  unfold own_pk
  rw [own_t_and _ _ _ _ h0 g0, own_t_and _ _ _ _ h1 g1, own_t_and _ _ _ _ h2 g2, own_t_and _ _ _ _ h3 g3, own_t_and _ _ _ _ h4 g4, own_t_and _ _ _ _ h5 g5, own_t_and _ _ _ _ h6 g6]
theorem own_pk_or {a0 a1 a2 a3 a4 a5 a6 a7 b0 b1 b2 b3 b4 b5 b6 b7 : Nat} (h0 : a0 < 256) (h1 : a1 < 256) (h2 : a2 < 256) (h3 : a3 < 256) (h4 : a4 < 256) (h5 : a5 < 256) (h6 : a6 < 256) (g0 : b0 < 256) (g1 : b1 < 256) (g2 : b2 < 256) (g3 : b3 < 256) (g4 : b4 < 256) (g5 : b5 < 256) (g6 : b6 < 256) :
    own_pk a0 a1 a2 a3 a4 a5 a6 a7 ||| own_pk b0 b1 b2 b3 b4 b5 b6 b7 = own_pk (a0 ||| b0) (a1 ||| b1) (a2 ||| b2) (a3 ||| b3) (a4 ||| b4) (a5 ||| b5) (a6 ||| b6) (a7 ||| b7) := by
  unfold own_pk
  rw [own_t_or _ _ _ _ h0 g0, own_t_or _ _ _ _ h1 g1, own_t_or _ _ _ _ h2 g2, own_t_or _ _ _ _ h3 g3, own_t_or _ _ _ _ h4 g4, own_t_or _ _ _ _ h5 g5, own_t_or _ _ _ _ h6 g6]
theorem own_pk_xor {a0 a1 a2 a3 a4 a5 a6 a7 b0 b1 b2 b3 b4 b5 b6 b7 : Nat} (h0 : a0 < 256) (h1 : a1 < 256) (h2 : a2 < 256) (h3 : a3 < 256) (h4 : a4 < 256) (h5 : a5 < 256) (h6 : a6 < 256) (g0 : b0 < 256) (g1 : b1 < 256) (g2 : b2 < 256) (g3 : b3 < 256) (g4 : b4 < 256) (g5 : b5 < 256) (g6 : b6 < 256) :
    own_pk a0 a1 a2 a3 a4 a5 a6 a7 ^^^ own_pk b0 b1 b2 b3 b4 b5 b6 b7 = own_pk (a0 ^^^ b0) (a1 ^^^ b1) (a2 ^^^ b2) (a3 ^^^ b3) (a4 ^^^ b4) (a5 ^^^ b5) (a6 ^^^ b6) (a7 ^^^ b7) := by
  unfold own_pk
  rw [own_t_xor _ _ _ _ h0 g0, own_t_xor _ _ _ _ h1 g1, own_t_xor _ _ _ _ h2 g2, own_t_xor _ _ _ _ h3 g3, own_t_xor _ _ _ _ h4 g4, own_t_xor _ _ _ _ h5 g5, own_t_xor _ _ _ _ h6 g6]
theorem own_m255 {a : Nat} (h : a < 256) : a &&& 255 = a := Nat.and_two_pow_sub_one_of_lt_two_pow (n := 8) h
theorem own_kM : own_nv (71777214294589695 : Int64) = own_pk 255 0 255 0 255 0 255 0 := by decide
theorem own_k2 : own_nv (562958543486978 : Int64) = own_pk 2 0 2 0 2 0 2 0 := by decide
theorem own_k255 : own_nv (255 : Int64) = own_pk 255 0 0 0 0 0 0 0 := by decide
theorem own_mM {a0 a1 a2 a3 a4 a5 a6 a7 : Nat} (h0 : a0 < 256) (h1 : a1 < 256) (h2 : a2 < 256) (h3 : a3 < 256) (h4 : a4 < 256) (h5 : a5 < 256) (h6 : a6 < 256) :
    own_pk a0 a1 a2 a3 a4 a5 a6 a7 &&& own_pk 255 0 255 0 255 0 255 0 = own_pk a0 0 a2 0 a4 0 a6 0 := by
  rw [own_pk_and h0 h1 h2 h3 h4 h5 h6 (by decide) (by decide) (by decide) (by decide) (by decide) (by decide) (by decide), own_m255 h0, own_m255 h2, own_m255 h4, own_m255 h6]
  simp

theorem own_sr1 {a0 a1 a2 a3 a4 a5 a6 a7 : Nat} (ha0 : a0 < 256) (ha1 : a1 < 256) (ha2 : a2 < 256) (ha3 : a3 < 256) (ha4 : a4 < 256) (ha5 : a5 < 256) (ha6 : a6 < 256) (ha7 : a7 < 256) : own_pk a0 a1 a2 a3 a4 a5 a6 a7 / 2 ^ 8 = own_pk a1 a2 a3 a4 a5 a6 a7 0 := by
  unfold own_pk; omega
theorem own_sr2 {a0 a1 a2 a3 a4 a5 a6 a7 : Nat} (ha0 : a0 < 256) (ha1 : a1 < 256) (ha2 : a2 < 256) (ha3 : a3 < 256) (ha4 : a4 < 256) (ha5 : a5 < 256) (ha6 : a6 < 256) (ha7 : a7 < 256) : own_pk a0 a1 a2 a3 a4 a5 a6 a7 / 2 ^ 16 = own_pk a2 a3 a4 a5 a6 a7 0 0 := by
  unfold own_pk; omega
theorem own_sr3 {a0 a1 a2 a3 a4 a5 a6 a7 : Nat} (ha0 : a0 < 256) (ha1 : a1 < 256) (ha2 : a2 < 256) (ha3 : a3 < 256) (ha4 : a4 < 256) (ha5 : a5 < 256) (ha6 : a6 < 256) (ha7 : a7 < 256) : own_pk a0 a1 a2 a3 a4 a5 a6 a7 / 2 ^ 24 = own_pk a3 a4 a5 a6 a7 0 0 0 := by
  unfold own_pk; omega
theorem own_sr4 {a0 a1 a2 a3 a4 a5 a6 a7 : Nat} (ha0 : a0 < 256) (ha1 : a1 < 256) (ha2 : a2 < 256) (ha3 : a3 < 256) (ha4 : a4 < 256) (ha5 : a5 < 256) (ha6 : a6 < 256) (ha7 : a7 < 256) : own_pk a0 a1 a2 a3 a4 a5 a6 a7 / 2 ^ 32 = own_pk a4 a5 a6 a7 0 0 0 0 := by
  unfold own_pk; omega
theorem own_sr5 {a0 a1 a2 a3 a4 a5 a6 a7 : Nat} (ha0 : a0 < 256) (ha1 : a1 < 256) (ha2 : a2 < 256) (ha3 : a3 < 256) (ha4 : a4 < 256) (ha5 : a5 < 256) (ha6 : a6 < 256) (ha7 : a7 < 256) : own_pk a0 a1 a2 a3 a4 a5 a6 a7 / 2 ^ 40 = own_pk a5 a6 a7 0 0 0 0 0 := by
  unfold own_pk; omega
theorem own_sr6 {a0 a1 a2 a3 a4 a5 a6 a7 : Nat} (ha0 : a0 < 256) (ha1 : a1 < 256) (ha2 : a2 < 256) (ha3 : a3 < 256) (ha4 : a4 < 256) (ha5 : a5 < 256) (ha6 : a6 < 256) (ha7 : a7 < 256) : own_pk a0 a1 a2 a3 a4 a5 a6 a7 / 2 ^ 48 = own_pk a6 a7 0 0 0 0 0 0 := by
  unfold own_pk; omega
theorem own_sr7 {a0 a1 a2 a3 a4 a5 a6 a7 : Nat} (ha0 : a0 < 256) (ha1 : a1 < 256) (ha2 : a2 < 256) (ha3 : a3 < 256) (ha4 : a4 < 256) (ha5 : a5 < 256) (ha6 : a6 < 256) (ha7 : a7 < 256) : own_pk a0 a1 a2 a3 a4 a5 a6 a7 / 2 ^ 56 = own_pk a7 0 0 0 0 0 0 0 := by
  unfold own_pk; omega
theorem own_sh2 {x : Int64} (h : own_nv x < 2000) : own_nv (x >>> ((2 : Int32) &&& 0x3f).toInt64) = own_nv x / 4 := by
  have h1 := c_lshr x 2 2 (by decide)
  have t1 : x.toInt = (own_nv x : Int) := by
    show x.toBitVec.toInt = _
    rw [BitVec.toInt_eq_toNat_of_lt]
    show 2 * own_nv x < _
    omega
  rw [t1] at h1
  generalize x >>> ((2 : Int32) &&& 0x3f).toInt64 = y at *
  have t2 : y.toInt = y.toBitVec.toInt := rfl
  rw [t2, BitVec.toInt_eq_toNat_cond] at h1
  have h3 := own_nv_lt y
  show y.toBitVec.toNat = _
  change y.toBitVec.toNat < _ at h3
  split at h1 <;> omega
theorem own_s0 {x : Int64} {a0 a1 a2 a3 a4 a5 a6 a7 : Nat} (ha0 : a0 < 256) (ha1 : a1 < 256) (ha2 : a2 < 256) (ha3 : a3 < 256) (ha4 : a4 < 256) (ha5 : a5 < 256) (ha6 : a6 < 256) (ha7 : a7 < 256) (e : own_nv x = own_pk a0 a1 a2 a3 a4 a5 a6 a7) : own_nv (own_smp x (0 : Int32)) = a0 := by
  unfold own_smp
  rw [own_nv_and, own_nv_us x 0 0 (by decide), e, own_k255, Nat.pow_zero, Nat.div_one, own_pk_and ha0 ha1 ha2 ha3 ha4 ha5 ha6 (by decide) (by decide) (by decide) (by decide) (by decide) (by decide) (by decide), own_m255 ha0]
  simp
theorem own_ln0 {x y u v : Int64} {A B C D : Nat} (hA : A < 256) (hB : B < 256) (hC : C < 256) (hD : D < 256) (ea : own_nv (own_smp x (0 : Int32)) = A) (eb : own_nv (own_smp y (0 : Int32)) = B) (ec : own_nv (own_smp u (0 : Int32)) = C) (ed : own_nv (own_smp v (0 : Int32)) = D) : own_nv (own_lane x y u v (0 : Int32)) = own_pk ((A + B + C + D + 2) / 4) 0 0 0 0 0 0 0 := by
  unfold own_lane
  have k : own_nv (2 : Int64) = 2 := by decide
  have e1 : own_nv ((((own_smp x (0 : Int32) + own_smp y (0 : Int32)) + own_smp u (0 : Int32)) + own_smp v (0 : Int32)) + (2 : Int64)) = A + B + C + D + 2 := by
    rw [own_nv_add, own_nv_add, own_nv_add, own_nv_add, ea, eb, ec, ed, k]; omega
  rw [own_nv_shl _ 0 0 (by decide), own_sh2 (by omega), e1]
  unfold own_pk
  omega
theorem own_s1 {x : Int64} {a0 a1 a2 a3 a4 a5 a6 a7 : Nat} (ha0 : a0 < 256) (ha1 : a1 < 256) (ha2 : a2 < 256) (ha3 : a3 < 256) (ha4 : a4 < 256) (ha5 : a5 < 256) (ha6 : a6 < 256) (ha7 : a7 < 256) (e : own_nv x = own_pk a0 a1 a2 a3 a4 a5 a6 a7) : own_nv (own_smp x (8 : Int32)) = a1 := by
  unfold own_smp
  rw [own_nv_and, own_nv_us x 8 8 (by decide), e, own_k255, own_sr1 ha0 ha1 ha2 ha3 ha4 ha5 ha6 ha7, own_pk_and ha1 ha2 ha3 ha4 ha5 ha6 ha7 (by decide) (by decide) (by decide) (by decide) (by decide) (by decide) (by decide), own_m255 ha1]
  simp
theorem own_ln1 {x y u v : Int64} {A B C D : Nat} (hA : A < 256) (hB : B < 256) (hC : C < 256) (hD : D < 256) (ea : own_nv (own_smp x (8 : Int32)) = A) (eb : own_nv (own_smp y (8 : Int32)) = B) (ec : own_nv (own_smp u (8 : Int32)) = C) (ed : own_nv (own_smp v (8 : Int32)) = D) : own_nv (own_lane x y u v (8 : Int32)) = own_pk 0 ((A + B + C + D + 2) / 4) 0 0 0 0 0 0 := by
  unfold own_lane
  have k : own_nv (2 : Int64) = 2 := by decide
  have e1 : own_nv ((((own_smp x (8 : Int32) + own_smp y (8 : Int32)) + own_smp u (8 : Int32)) + own_smp v (8 : Int32)) + (2 : Int64)) = A + B + C + D + 2 := by
    rw [own_nv_add, own_nv_add, own_nv_add, own_nv_add, ea, eb, ec, ed, k]; omega
  rw [own_nv_shl _ 8 8 (by decide), own_sh2 (by omega), e1]
  unfold own_pk
  omega
theorem own_s2 {x : Int64} {a0 a1 a2 a3 a4 a5 a6 a7 : Nat} (ha0 : a0 < 256) (ha1 : a1 < 256) (ha2 : a2 < 256) (ha3 : a3 < 256) (ha4 : a4 < 256) (ha5 : a5 < 256) (ha6 : a6 < 256) (ha7 : a7 < 256) (e : own_nv x = own_pk a0 a1 a2 a3 a4 a5 a6 a7) : own_nv (own_smp x (16 : Int32)) = a2 := by
  unfold own_smp
  rw [own_nv_and, own_nv_us x 16 16 (by decide), e, own_k255, own_sr2 ha0 ha1 ha2 ha3 ha4 ha5 ha6 ha7, own_pk_and ha2 ha3 ha4 ha5 ha6 ha7 (by decide) (by decide) (by decide) (by decide) (by decide) (by decide) (by decide) (by decide), own_m255 ha2]
  simp
theorem own_ln2 {x y u v : Int64} {A B C D : Nat} (hA : A < 256) (hB : B < 256) (hC : C < 256) (hD : D < 256) (ea : own_nv (own_smp x (16 : Int32)) = A) (eb : own_nv (own_smp y (16 : Int32)) = B) (ec : own_nv (own_smp u (16 : Int32)) = C) (ed : own_nv (own_smp v (16 : Int32)) = D) : own_nv (own_lane x y u v (16 : Int32)) = own_pk 0 0 ((A + B + C + D + 2) / 4) 0 0 0 0 0 := by
  unfold own_lane
  have k : own_nv (2 : Int64) = 2 := by decide
  have e1 : own_nv ((((own_smp x (16 : Int32) + own_smp y (16 : Int32)) + own_smp u (16 : Int32)) + own_smp v (16 : Int32)) + (2 : Int64)) = A + B + C + D + 2 := by
    rw [own_nv_add, own_nv_add, own_nv_add, own_nv_add, ea, eb, ec, ed, k]; omega
  rw [own_nv_shl _ 16 16 (by decide), own_sh2 (by omega), e1]
  unfold own_pk
  omega
theorem own_s3 {x : Int64} {a0 a1 a2 a3 a4 a5 a6 a7 : Nat} (ha0 : a0 < 256) (ha1 : a1 < 256) (ha2 : a2 < 256) (ha3 : a3 < 256) (ha4 : a4 < 256) (ha5 : a5 < 256) (ha6 : a6 < 256) (ha7 : a7 < 256) (e : own_nv x = own_pk a0 a1 a2 a3 a4 a5 a6 a7) : own_nv (own_smp x (24 : Int32)) = a3 := by
  unfold own_smp
  rw [own_nv_and, own_nv_us x 24 24 (by decide), e, own_k255, own_sr3 ha0 ha1 ha2 ha3 ha4 ha5 ha6 ha7, own_pk_and ha3 ha4 ha5 ha6 ha7 (by decide) (by decide) (by decide) (by decide) (by decide) (by decide) (by decide) (by decide) (by decide), own_m255 ha3]
  simp
theorem own_ln3 {x y u v : Int64} {A B C D : Nat} (hA : A < 256) (hB : B < 256) (hC : C < 256) (hD : D < 256) (ea : own_nv (own_smp x (24 : Int32)) = A) (eb : own_nv (own_smp y (24 : Int32)) = B) (ec : own_nv (own_smp u (24 : Int32)) = C) (ed : own_nv (own_smp v (24 : Int32)) = D) : own_nv (own_lane x y u v (24 : Int32)) = own_pk 0 0 0 ((A + B + C + D + 2) / 4) 0 0 0 0 := by
  unfold own_lane
  have k : own_nv (2 : Int64) = 2 := by decide
  have e1 : own_nv ((((own_smp x (24 : Int32) + own_smp y (24 : Int32)) + own_smp u (24 : Int32)) + own_smp v (24 : Int32)) + (2 : Int64)) = A + B + C + D + 2 := by
    rw [own_nv_add, own_nv_add, own_nv_add, own_nv_add, ea, eb, ec, ed, k]; omega
  rw [own_nv_shl _ 24 24 (by decide), own_sh2 (by omega), e1]
  unfold own_pk
  omega
theorem own_s4 {x : Int64} {a0 a1 a2 a3 a4 a5 a6 a7 : Nat} (ha0 : a0 < 256) (ha1 : a1 < 256) (ha2 : a2 < 256) (ha3 : a3 < 256) (ha4 : a4 < 256) (ha5 : a5 < 256) (ha6 : a6 < 256) (ha7 : a7 < 256) (e : own_nv x = own_pk a0 a1 a2 a3 a4 a5 a6 a7) : own_nv (own_smp x (32 : Int32)) = a4 := by
  unfold own_smp
  rw [own_nv_and, own_nv_us x 32 32 (by decide), e, own_k255, own_sr4 ha0 ha1 ha2 ha3 ha4 ha5 ha6 ha7, own_pk_and ha4 ha5 ha6 ha7 (by decide) (by decide) (by decide) (by decide) (by decide) (by decide) (by decide) (by decide) (by decide) (by decide), own_m255 ha4]
  simp
theorem own_ln4 {x y u v : Int64} {A B C D : Nat} (hA : A < 256) (hB : B < 256) (hC : C < 256) (hD : D < 256) (ea : own_nv (own_smp x (32 : Int32)) = A) (eb : own_nv (own_smp y (32 : Int32)) = B) (ec : own_nv (own_smp u (32 : Int32)) = C) (ed : own_nv (own_smp v (32 : Int32)) = D) : own_nv (own_lane x y u v (32 : Int32)) = own_pk 0 0 0 0 ((A + B + C + D + 2) / 4) 0 0 0 := by
  unfold own_lane
  have k : own_nv (2 : Int64) = 2 := by decide
  have e1 : own_nv ((((own_smp x (32 : Int32) + own_smp y (32 : Int32)) + own_smp u (32 : Int32)) + own_smp v (32 : Int32)) + (2 : Int64)) = A + B + C + D + 2 := by
    rw [own_nv_add, own_nv_add, own_nv_add, own_nv_add, ea, eb, ec, ed, k]; omega
  rw [own_nv_shl _ 32 32 (by decide), own_sh2 (by omega), e1]
  unfold own_pk
  omega
theorem own_s5 {x : Int64} {a0 a1 a2 a3 a4 a5 a6 a7 : Nat} (ha0 : a0 < 256) (ha1 : a1 < 256) (ha2 : a2 < 256) (ha3 : a3 < 256) (ha4 : a4 < 256) (ha5 : a5 < 256) (ha6 : a6 < 256) (ha7 : a7 < 256) (e : own_nv x = own_pk a0 a1 a2 a3 a4 a5 a6 a7) : own_nv (own_smp x (40 : Int32)) = a5 := by
  unfold own_smp
  rw [own_nv_and, own_nv_us x 40 40 (by decide), e, own_k255, own_sr5 ha0 ha1 ha2 ha3 ha4 ha5 ha6 ha7, own_pk_and ha5 ha6 ha7 (by decide) (by decide) (by decide) (by decide) (by decide) (by decide) (by decide) (by decide) (by decide) (by decide) (by decide), own_m255 ha5]
  simp
theorem own_ln5 {x y u v : Int64} {A B C D : Nat} (hA : A < 256) (hB : B < 256) (hC : C < 256) (hD : D < 256) (ea : own_nv (own_smp x (40 : Int32)) = A) (eb : own_nv (own_smp y (40 : Int32)) = B) (ec : own_nv (own_smp u (40 : Int32)) = C) (ed : own_nv (own_smp v (40 : Int32)) = D) : own_nv (own_lane x y u v (40 : Int32)) = own_pk 0 0 0 0 0 ((A + B + C + D + 2) / 4) 0 0 := by
  unfold own_lane
  have k : own_nv (2 : Int64) = 2 := by decide
  have e1 : own_nv ((((own_smp x (40 : Int32) + own_smp y (40 : Int32)) + own_smp u (40 : Int32)) + own_smp v (40 : Int32)) + (2 : Int64)) = A + B + C + D + 2 := by
    rw [own_nv_add, own_nv_add, own_nv_add, own_nv_add, ea, eb, ec, ed, k]; omega
  rw [own_nv_shl _ 40 40 (by decide), own_sh2 (by omega), e1]
  unfold own_pk
  omega
theorem own_s6 {x : Int64} {a0 a1 a2 a3 a4 a5 a6 a7 : Nat} (ha0 : a0 < 256) (ha1 : a1 < 256) (ha2 : a2 < 256) (ha3 : a3 < 256) (ha4 : a4 < 256) (ha5 : a5 < 256) (ha6 : a6 < 256) (ha7 : a7 < 256) (e : own_nv x = own_pk a0 a1 a2 a3 a4 a5 a6 a7) : own_nv (own_smp x (48 : Int32)) = a6 := by
  unfold own_smp
  rw [own_nv_and, own_nv_us x 48 48 (by decide), e, own_k255, own_sr6 ha0 ha1 ha2 ha3 ha4 ha5 ha6 ha7, own_pk_and ha6 ha7 (by decide) (by decide) (by decide) (by decide) (by decide) (by decide) (by decide) (by decide) (by decide) (by decide) (by decide) (by decide), own_m255 ha6]
  simp
theorem own_ln6 {x y u v : Int64} {A B C D : Nat} (hA : A < 256) (hB : B < 256) (hC : C < 256) (hD : D < 256) (ea : own_nv (own_smp x (48 : Int32)) = A) (eb : own_nv (own_smp y (48 : Int32)) = B) (ec : own_nv (own_smp u (48 : Int32)) = C) (ed : own_nv (own_smp v (48 : Int32)) = D) : own_nv (own_lane x y u v (48 : Int32)) = own_pk 0 0 0 0 0 0 ((A + B + C + D + 2) / 4) 0 := by
  unfold own_lane
  have k : own_nv (2 : Int64) = 2 := by decide
  have e1 : own_nv ((((own_smp x (48 : Int32) + own_smp y (48 : Int32)) + own_smp u (48 : Int32)) + own_smp v (48 : Int32)) + (2 : Int64)) = A + B + C + D + 2 := by
    rw [own_nv_add, own_nv_add, own_nv_add, own_nv_add, ea, eb, ec, ed, k]; omega
  rw [own_nv_shl _ 48 48 (by decide), own_sh2 (by omega), e1]
  unfold own_pk
  omega
theorem own_s7 {x : Int64} {a0 a1 a2 a3 a4 a5 a6 a7 : Nat} (ha0 : a0 < 256) (ha1 : a1 < 256) (ha2 : a2 < 256) (ha3 : a3 < 256) (ha4 : a4 < 256) (ha5 : a5 < 256) (ha6 : a6 < 256) (ha7 : a7 < 256) (e : own_nv x = own_pk a0 a1 a2 a3 a4 a5 a6 a7) : own_nv (own_smp x (56 : Int32)) = a7 := by
  unfold own_smp
  rw [own_nv_and, own_nv_us x 56 56 (by decide), e, own_k255, own_sr7 ha0 ha1 ha2 ha3 ha4 ha5 ha6 ha7, own_pk_and ha7 (by decide) (by decide) (by decide) (by decide) (by decide) (by decide) (by decide) (by decide) (by decide) (by decide) (by decide) (by decide) (by decide), own_m255 ha7]
  simp
theorem own_ln7 {x y u v : Int64} {A B C D : Nat} (hA : A < 256) (hB : B < 256) (hC : C < 256) (hD : D < 256) (ea : own_nv (own_smp x (56 : Int32)) = A) (eb : own_nv (own_smp y (56 : Int32)) = B) (ec : own_nv (own_smp u (56 : Int32)) = C) (ed : own_nv (own_smp v (56 : Int32)) = D) : own_nv (own_lane x y u v (56 : Int32)) = own_pk 0 0 0 0 0 0 0 ((A + B + C + D + 2) / 4) := by
  unfold own_lane
  have k : own_nv (2 : Int64) = 2 := by decide
  have e1 : own_nv ((((own_smp x (56 : Int32) + own_smp y (56 : Int32)) + own_smp u (56 : Int32)) + own_smp v (56 : Int32)) + (2 : Int64)) = A + B + C + D + 2 := by
    rw [own_nv_add, own_nv_add, own_nv_add, own_nv_add, ea, eb, ec, ed, k]; omega
  rw [own_nv_shl _ 56 56 (by decide), own_sh2 (by omega), e1]
  unfold own_pk
  omega
theorem own_sum {x y u v : Int64} {a0 a2 a4 a6 b0 b2 b4 b6 c0 c2 c4 c6 d0 d2 d4 d6 : Nat} (ha0 : a0 < 256) (ha2 : a2 < 256) (ha4 : a4 < 256) (ha6 : a6 < 256) (hb0 : b0 < 256) (hb2 : b2 < 256) (hb4 : b4 < 256) (hb6 : b6 < 256) (hc0 : c0 < 256) (hc2 : c2 < 256) (hc4 : c4 < 256) (hc6 : c6 < 256) (hd0 : d0 < 256) (hd2 : d2 < 256) (hd4 : d4 < 256) (hd6 : d6 < 256)
    (ea : own_nv x = own_pk a0 0 a2 0 a4 0 a6 0) (eb : own_nv y = own_pk b0 0 b2 0 b4 0 b6 0) (ec : own_nv u = own_pk c0 0 c2 0 c4 0 c6 0) (ed : own_nv v = own_pk d0 0 d2 0 d4 0 d6 0) :
    own_nv ((own_us ((((x + y) + u) + v) + (562958543486978 : Int64)) (2 : Int32)) &&& (71777214294589695 : Int64)) = own_pk ((a0 + b0 + c0 + d0 + 2) / 4) 0 ((a2 + b2 + c2 + d2 + 2) / 4) 0 ((a4 + b4 + c4 + d4 + 2) / 4) 0 ((a6 + b6 + c6 + d6 + 2) / 4) 0 := by
  have e1 : own_nv (x + y) = own_pk (a0 + b0) 0 (a2 + b2) 0 (a4 + b4) 0 (a6 + b6) 0 := by
    rw [own_nv_add, ea, eb]; unfold own_pk; omega
  have e2 : own_nv ((x + y) + u) = own_pk (a0 + b0 + c0) 0 (a2 + b2 + c2) 0 (a4 + b4 + c4) 0 (a6 + b6 + c6) 0 := by
    rw [own_nv_add, e1, ec]; unfold own_pk; omega
  have e3 : own_nv (((x + y) + u) + v) = own_pk (a0 + b0 + c0 + d0) 0 (a2 + b2 + c2 + d2) 0 (a4 + b4 + c4 + d4) 0 (a6 + b6 + c6 + d6) 0 := by
    rw [own_nv_add, e2, ed]; unfold own_pk; omega
  have f0 : a0 + b0 + c0 + d0 + 2 < 1024 := by omega
  have f2 : a2 + b2 + c2 + d2 + 2 < 1024 := by omega
  have f4 : a4 + b4 + c4 + d4 + 2 < 1024 := by omega
  have f6 : a6 + b6 + c6 + d6 + 2 < 1024 := by omega
  have e4 : own_nv ((((x + y) + u) + v) + (562958543486978 : Int64)) = own_pk (a0 + b0 + c0 + d0 + 2) 0 (a2 + b2 + c2 + d2 + 2) 0 (a4 + b4 + c4 + d4 + 2) 0 (a6 + b6 + c6 + d6 + 2) 0 := by
    rw [own_nv_add, e3, own_k2]; unfold own_pk; omega
  rw [own_nv_and, own_nv_us _ 2 2 (by decide), e4, own_kM]
  generalize a0 + b0 + c0 + d0 + 2 = p0 at *
  generalize a2 + b2 + c2 + d2 + 2 = p2 at *
  generalize a4 + b4 + c4 + d4 + 2 = p4 at *
  generalize a6 + b6 + c6 + d6 + 2 = p6 at *
  have e5 : own_pk p0 0 p2 0 p4 0 p6 0 / 2 ^ 2 = own_pk (p0 / 4) (64 * (p2 % 4)) (p2 / 4) (64 * (p4 % 4)) (p4 / 4) (64 * (p6 % 4)) (p6 / 4) 0 := by
    unfold own_pk; omega
  rw [e5]
  exact own_mM (by omega) (by omega) (by omega) (by omega) (by omega) (by omega) (by omega)
theorem own_q {A B C D : Nat} (hA : A < 256) (hB : B < 256) (hC : C < 256) (hD : D < 256) : (A + B + C + D + 2) / 4 < 256 := by omega
theorem own_j1 {g0 g1 g2 g3 g4 g5 g6 g7 : Nat} (q0 : g0 < 256) (q1 : g1 < 256) (q2 : g2 < 256) (q3 : g3 < 256) (q4 : g4 < 256) (q5 : g5 < 256) (q6 : g6 < 256) (q7 : g7 < 256) : own_pk g0 0 g2 0 g4 0 g6 0 ||| own_pk g1 0 g3 0 g5 0 g7 0 * 2 ^ 8 % 18446744073709551616 = own_pk g0 g1 g2 g3 g4 g5 g6 g7 := by
  have e8 : own_pk g1 0 g3 0 g5 0 g7 0 * 2 ^ 8 % 18446744073709551616 = own_pk 0 g1 0 g3 0 g5 0 g7 := by unfold own_pk; omega
  rw [e8, own_pk_or q0 (by decide) q2 (by decide) q4 (by decide) q6 (by decide) q1 (by decide) q3 (by decide) q5 (by decide)]
  simp only [Nat.or_zero, Nat.zero_or]
theorem own_j2 {g0 g1 g2 g3 g4 g5 g6 g7 : Nat} (q0 : g0 < 256) (q1 : g1 < 256) (q2 : g2 < 256) (q3 : g3 < 256) (q4 : g4 < 256) (q5 : g5 < 256) (q6 : g6 < 256) (q7 : g7 < 256) : (((((((own_pk g0 0 0 0 0 0 0 0 ||| own_pk 0 g1 0 0 0 0 0 0) ||| own_pk 0 0 g2 0 0 0 0 0) ||| own_pk 0 0 0 g3 0 0 0 0) ||| own_pk 0 0 0 0 g4 0 0 0) ||| own_pk 0 0 0 0 0 g5 0 0) ||| own_pk 0 0 0 0 0 0 g6 0) ||| own_pk 0 0 0 0 0 0 0 g7) = own_pk g0 g1 g2 g3 g4 g5 g6 g7 := by
  rw [own_pk_or q0 (by decide) (by decide) (by decide) (by decide) (by decide) (by decide) (by decide) q1 (by decide) (by decide) (by decide) (by decide) (by decide)]
  simp only [Nat.or_zero, Nat.zero_or]
  rw [own_pk_or q0 q1 (by decide) (by decide) (by decide) (by decide) (by decide) (by decide) (by decide) q2 (by decide) (by decide) (by decide) (by decide)]
  simp only [Nat.or_zero, Nat.zero_or]
  rw [own_pk_or q0 q1 q2 (by decide) (by decide) (by decide) (by decide) (by decide) (by decide) (by decide) q3 (by decide) (by decide) (by decide)]
  simp only [Nat.or_zero, Nat.zero_or]
  rw [own_pk_or q0 q1 q2 q3 (by decide) (by decide) (by decide) (by decide) (by decide) (by decide) (by decide) q4 (by decide) (by decide)]
  simp only [Nat.or_zero, Nat.zero_or]
  rw [own_pk_or q0 q1 q2 q3 q4 (by decide) (by decide) (by decide) (by decide) (by decide) (by decide) (by decide) q5 (by decide)]
  simp only [Nat.or_zero, Nat.zero_or]
  rw [own_pk_or q0 q1 q2 q3 q4 q5 (by decide) (by decide) (by decide) (by decide) (by decide) (by decide) (by decide) q6]
  simp only [Nat.or_zero, Nat.zero_or]
  rw [own_pk_or q0 q1 q2 q3 q4 q5 q6 (by decide) (by decide) (by decide) (by decide) (by decide) (by decide) (by decide)]
  simp only [Nat.or_zero, Nat.zero_or]
theorem own_law (a b c d : Int64) : own_mean a b c d = ((((((((own_lane a b c d (0 : Int32)) ||| (own_lane a b c d (8 : Int32))) ||| (own_lane a b c d (16 : Int32))) ||| (own_lane a b c d (24 : Int32))) ||| (own_lane a b c d (32 : Int32))) ||| (own_lane a b c d (40 : Int32))) ||| (own_lane a b c d (48 : Int32))) ||| (own_lane a b c d (56 : Int32))) := by
  obtain ⟨a0, a1, a2, a3, a4, a5, a6, a7, ha0, ha1, ha2, ha3, ha4, ha5, ha6, ha7, ea⟩ := own_nv_bytes a
  obtain ⟨b0, b1, b2, b3, b4, b5, b6, b7, hb0, hb1, hb2, hb3, hb4, hb5, hb6, hb7, eb⟩ := own_nv_bytes b
  obtain ⟨c0, c1, c2, c3, c4, c5, c6, c7, hc0, hc1, hc2, hc3, hc4, hc5, hc6, hc7, ec⟩ := own_nv_bytes c
  obtain ⟨d0, d1, d2, d3, d4, d5, d6, d7, hd0, hd1, hd2, hd3, hd4, hd5, hd6, hd7, ed⟩ := own_nv_bytes d
  apply own_nv_inj
  have ma : own_nv (a &&& (71777214294589695 : Int64)) = own_pk a0 0 a2 0 a4 0 a6 0 := by rw [own_nv_and, ea, own_kM]; exact own_mM ha0 ha1 ha2 ha3 ha4 ha5 ha6
  have oa : own_nv (own_us a (8 : Int32) &&& (71777214294589695 : Int64)) = own_pk a1 0 a3 0 a5 0 a7 0 := by rw [own_nv_and, own_nv_us a 8 8 (by decide), ea, own_sr1 ha0 ha1 ha2 ha3 ha4 ha5 ha6 ha7, own_kM]; exact own_mM ha1 ha2 ha3 ha4 ha5 ha6 ha7
  have mb : own_nv (b &&& (71777214294589695 : Int64)) = own_pk b0 0 b2 0 b4 0 b6 0 := by rw [own_nv_and, eb, own_kM]; exact own_mM hb0 hb1 hb2 hb3 hb4 hb5 hb6
  have ob : own_nv (own_us b (8 : Int32) &&& (71777214294589695 : Int64)) = own_pk b1 0 b3 0 b5 0 b7 0 := by rw [own_nv_and, own_nv_us b 8 8 (by decide), eb, own_sr1 hb0 hb1 hb2 hb3 hb4 hb5 hb6 hb7, own_kM]; exact own_mM hb1 hb2 hb3 hb4 hb5 hb6 hb7
  have mc : own_nv (c &&& (71777214294589695 : Int64)) = own_pk c0 0 c2 0 c4 0 c6 0 := by rw [own_nv_and, ec, own_kM]; exact own_mM hc0 hc1 hc2 hc3 hc4 hc5 hc6
  have oc : own_nv (own_us c (8 : Int32) &&& (71777214294589695 : Int64)) = own_pk c1 0 c3 0 c5 0 c7 0 := by rw [own_nv_and, own_nv_us c 8 8 (by decide), ec, own_sr1 hc0 hc1 hc2 hc3 hc4 hc5 hc6 hc7, own_kM]; exact own_mM hc1 hc2 hc3 hc4 hc5 hc6 hc7
  have md : own_nv (d &&& (71777214294589695 : Int64)) = own_pk d0 0 d2 0 d4 0 d6 0 := by rw [own_nv_and, ed, own_kM]; exact own_mM hd0 hd1 hd2 hd3 hd4 hd5 hd6
  have od : own_nv (own_us d (8 : Int32) &&& (71777214294589695 : Int64)) = own_pk d1 0 d3 0 d5 0 d7 0 := by rw [own_nv_and, own_nv_us d 8 8 (by decide), ed, own_sr1 hd0 hd1 hd2 hd3 hd4 hd5 hd6 hd7, own_kM]; exact own_mM hd1 hd2 hd3 hd4 hd5 hd6 hd7
  have E := own_sum ha0 ha2 ha4 ha6 hb0 hb2 hb4 hb6 hc0 hc2 hc4 hc6 hd0 hd2 hd4 hd6 ma mb mc md
  have O := own_sum ha1 ha3 ha5 ha7 hb1 hb3 hb5 hb7 hc1 hc3 hc5 hc7 hd1 hd3 hd5 hd7 oa ob oc od
  have l0 := own_ln0 ha0 hb0 hc0 hd0 (own_s0 ha0 ha1 ha2 ha3 ha4 ha5 ha6 ha7 ea) (own_s0 hb0 hb1 hb2 hb3 hb4 hb5 hb6 hb7 eb) (own_s0 hc0 hc1 hc2 hc3 hc4 hc5 hc6 hc7 ec) (own_s0 hd0 hd1 hd2 hd3 hd4 hd5 hd6 hd7 ed)
  have l1 := own_ln1 ha1 hb1 hc1 hd1 (own_s1 ha0 ha1 ha2 ha3 ha4 ha5 ha6 ha7 ea) (own_s1 hb0 hb1 hb2 hb3 hb4 hb5 hb6 hb7 eb) (own_s1 hc0 hc1 hc2 hc3 hc4 hc5 hc6 hc7 ec) (own_s1 hd0 hd1 hd2 hd3 hd4 hd5 hd6 hd7 ed)
  have l2 := own_ln2 ha2 hb2 hc2 hd2 (own_s2 ha0 ha1 ha2 ha3 ha4 ha5 ha6 ha7 ea) (own_s2 hb0 hb1 hb2 hb3 hb4 hb5 hb6 hb7 eb) (own_s2 hc0 hc1 hc2 hc3 hc4 hc5 hc6 hc7 ec) (own_s2 hd0 hd1 hd2 hd3 hd4 hd5 hd6 hd7 ed)
  have l3 := own_ln3 ha3 hb3 hc3 hd3 (own_s3 ha0 ha1 ha2 ha3 ha4 ha5 ha6 ha7 ea) (own_s3 hb0 hb1 hb2 hb3 hb4 hb5 hb6 hb7 eb) (own_s3 hc0 hc1 hc2 hc3 hc4 hc5 hc6 hc7 ec) (own_s3 hd0 hd1 hd2 hd3 hd4 hd5 hd6 hd7 ed)
  have l4 := own_ln4 ha4 hb4 hc4 hd4 (own_s4 ha0 ha1 ha2 ha3 ha4 ha5 ha6 ha7 ea) (own_s4 hb0 hb1 hb2 hb3 hb4 hb5 hb6 hb7 eb) (own_s4 hc0 hc1 hc2 hc3 hc4 hc5 hc6 hc7 ec) (own_s4 hd0 hd1 hd2 hd3 hd4 hd5 hd6 hd7 ed)
  have l5 := own_ln5 ha5 hb5 hc5 hd5 (own_s5 ha0 ha1 ha2 ha3 ha4 ha5 ha6 ha7 ea) (own_s5 hb0 hb1 hb2 hb3 hb4 hb5 hb6 hb7 eb) (own_s5 hc0 hc1 hc2 hc3 hc4 hc5 hc6 hc7 ec) (own_s5 hd0 hd1 hd2 hd3 hd4 hd5 hd6 hd7 ed)
  have l6 := own_ln6 ha6 hb6 hc6 hd6 (own_s6 ha0 ha1 ha2 ha3 ha4 ha5 ha6 ha7 ea) (own_s6 hb0 hb1 hb2 hb3 hb4 hb5 hb6 hb7 eb) (own_s6 hc0 hc1 hc2 hc3 hc4 hc5 hc6 hc7 ec) (own_s6 hd0 hd1 hd2 hd3 hd4 hd5 hd6 hd7 ed)
  have l7 := own_ln7 ha7 hb7 hc7 hd7 (own_s7 ha0 ha1 ha2 ha3 ha4 ha5 ha6 ha7 ea) (own_s7 hb0 hb1 hb2 hb3 hb4 hb5 hb6 hb7 eb) (own_s7 hc0 hc1 hc2 hc3 hc4 hc5 hc6 hc7 ec) (own_s7 hd0 hd1 hd2 hd3 hd4 hd5 hd6 hd7 ed)
  unfold own_mean
  rw [own_nv_or, own_nv_or, own_nv_or, own_nv_or, own_nv_or, own_nv_or, own_nv_or, own_nv_or, own_nv_shl _ 8 8 (by decide), E, O, l0, l1, l2, l3, l4, l5, l6, l7]
  exact (own_j1 (own_q ha0 hb0 hc0 hd0) (own_q ha1 hb1 hc1 hd1) (own_q ha2 hb2 hc2 hd2) (own_q ha3 hb3 hc3 hd3) (own_q ha4 hb4 hc4 hd4) (own_q ha5 hb5 hc5 hd5) (own_q ha6 hb6 hc6 hd6) (own_q ha7 hb7 hc7 hd7)).trans (own_j2 (own_q ha0 hb0 hc0 hd0) (own_q ha1 hb1 hc1 hd1) (own_q ha2 hb2 hc2 hd2) (own_q ha3 hb3 hc3 hd3) (own_q ha4 hb4 hc4 hd4) (own_q ha5 hb5 hc5 hd5) (own_q ha6 hb6 hc6 hd6) (own_q ha7 hb7 hc7 hd7)).symm
theorem pn_0 : plainName "com/example/block_motion_coder/blockmotioncoder/mpeg2/PackedSamples" = true := by first | (simp [plainName, overriddenIn]; done) | decide +kernel
theorem d1_0 : decode prog_82_method_8_code 0 = .ok (.lload_n 0, 1) := by decide +kernel
theorem d1_1 : decode prog_82_method_8_code 1 = .ok (.ldc2_w 42, 3) := by decide +kernel
theorem d1_4 : decode prog_82_method_8_code 4 = .ok (.land, 1) := by decide +kernel
theorem d1_5 : decode prog_82_method_8_code 5 = .ok (.lload_n 2, 1) := by decide +kernel
theorem d1_6 : decode prog_82_method_8_code 6 = .ok (.ldc2_w 42, 3) := by decide +kernel
theorem d1_9 : decode prog_82_method_8_code 9 = .ok (.land, 1) := by decide +kernel
theorem d1_10 : decode prog_82_method_8_code 10 = .ok (.ladd, 1) := by decide +kernel
theorem d1_11 : decode prog_82_method_8_code 11 = .ok (.lload 4, 2) := by decide +kernel
theorem d1_13 : decode prog_82_method_8_code 13 = .ok (.ldc2_w 42, 3) := by decide +kernel
theorem d1_16 : decode prog_82_method_8_code 16 = .ok (.land, 1) := by decide +kernel
theorem d1_17 : decode prog_82_method_8_code 17 = .ok (.ladd, 1) := by decide +kernel
theorem d1_18 : decode prog_82_method_8_code 18 = .ok (.lload 6, 2) := by decide +kernel
theorem d1_20 : decode prog_82_method_8_code 20 = .ok (.ldc2_w 42, 3) := by decide +kernel
theorem d1_23 : decode prog_82_method_8_code 23 = .ok (.land, 1) := by decide +kernel
theorem d1_24 : decode prog_82_method_8_code 24 = .ok (.ladd, 1) := by decide +kernel
theorem d1_25 : decode prog_82_method_8_code 25 = .ok (.lstore 8, 2) := by decide +kernel
theorem d1_27 : decode prog_82_method_8_code 27 = .ok (.lload_n 0, 1) := by decide +kernel
theorem d1_28 : decode prog_82_method_8_code 28 = .ok (.bipush 8, 2) := by decide +kernel
theorem d1_30 : decode prog_82_method_8_code 30 = .ok (.lushr, 1) := by decide +kernel
theorem d1_31 : decode prog_82_method_8_code 31 = .ok (.ldc2_w 42, 3) := by decide +kernel
theorem d1_34 : decode prog_82_method_8_code 34 = .ok (.land, 1) := by decide +kernel
theorem d1_35 : decode prog_82_method_8_code 35 = .ok (.lload_n 2, 1) := by decide +kernel
theorem d1_36 : decode prog_82_method_8_code 36 = .ok (.bipush 8, 2) := by decide +kernel
theorem d1_38 : decode prog_82_method_8_code 38 = .ok (.lushr, 1) := by decide +kernel
theorem d1_39 : decode prog_82_method_8_code 39 = .ok (.ldc2_w 42, 3) := by decide +kernel
theorem d1_42 : decode prog_82_method_8_code 42 = .ok (.land, 1) := by decide +kernel
theorem d1_43 : decode prog_82_method_8_code 43 = .ok (.ladd, 1) := by decide +kernel
theorem d1_44 : decode prog_82_method_8_code 44 = .ok (.lload 4, 2) := by decide +kernel
theorem d1_46 : decode prog_82_method_8_code 46 = .ok (.bipush 8, 2) := by decide +kernel
theorem d1_48 : decode prog_82_method_8_code 48 = .ok (.lushr, 1) := by decide +kernel
theorem d1_49 : decode prog_82_method_8_code 49 = .ok (.ldc2_w 42, 3) := by decide +kernel
theorem d1_52 : decode prog_82_method_8_code 52 = .ok (.land, 1) := by decide +kernel
theorem d1_53 : decode prog_82_method_8_code 53 = .ok (.ladd, 1) := by decide +kernel
theorem d1_54 : decode prog_82_method_8_code 54 = .ok (.lload 6, 2) := by decide +kernel
theorem d1_56 : decode prog_82_method_8_code 56 = .ok (.bipush 8, 2) := by decide +kernel
theorem d1_58 : decode prog_82_method_8_code 58 = .ok (.lushr, 1) := by decide +kernel
theorem d1_59 : decode prog_82_method_8_code 59 = .ok (.ldc2_w 42, 3) := by decide +kernel
theorem d1_62 : decode prog_82_method_8_code 62 = .ok (.land, 1) := by decide +kernel
theorem d1_63 : decode prog_82_method_8_code 63 = .ok (.ladd, 1) := by decide +kernel
theorem d1_64 : decode prog_82_method_8_code 64 = .ok (.lstore 10, 2) := by decide +kernel
theorem d1_66 : decode prog_82_method_8_code 66 = .ok (.lload 8, 2) := by decide +kernel
theorem d1_68 : decode prog_82_method_8_code 68 = .ok (.ldc2_w 44, 3) := by decide +kernel
theorem d1_71 : decode prog_82_method_8_code 71 = .ok (.ladd, 1) := by decide +kernel
theorem d1_72 : decode prog_82_method_8_code 72 = .ok (.iconst 2, 1) := by decide +kernel
theorem d1_73 : decode prog_82_method_8_code 73 = .ok (.lushr, 1) := by decide +kernel
theorem d1_74 : decode prog_82_method_8_code 74 = .ok (.ldc2_w 42, 3) := by decide +kernel
theorem d1_77 : decode prog_82_method_8_code 77 = .ok (.land, 1) := by decide +kernel
theorem d1_78 : decode prog_82_method_8_code 78 = .ok (.lload 10, 2) := by decide +kernel
theorem d1_80 : decode prog_82_method_8_code 80 = .ok (.ldc2_w 44, 3) := by decide +kernel
theorem d1_83 : decode prog_82_method_8_code 83 = .ok (.ladd, 1) := by decide +kernel
theorem d1_84 : decode prog_82_method_8_code 84 = .ok (.iconst 2, 1) := by decide +kernel
theorem d1_85 : decode prog_82_method_8_code 85 = .ok (.lushr, 1) := by decide +kernel
theorem d1_86 : decode prog_82_method_8_code 86 = .ok (.ldc2_w 42, 3) := by decide +kernel
theorem d1_89 : decode prog_82_method_8_code 89 = .ok (.land, 1) := by decide +kernel
theorem d1_90 : decode prog_82_method_8_code 90 = .ok (.bipush 8, 2) := by decide +kernel
theorem d1_92 : decode prog_82_method_8_code 92 = .ok (.lshl, 1) := by decide +kernel
theorem d1_93 : decode prog_82_method_8_code 93 = .ok (.lor, 1) := by decide +kernel
theorem d1_94 : decode prog_82_method_8_code 94 = .ok (.lreturn, 1) := by decide +kernel
theorem ef_1 (m : MethodId) (x0 : Int64) (x1 : Int64) (x2 : Int64) (x3 : Int64) : entryFrame m #[(.long x0), (.long x1), (.long x2), (.long x3)] 12 = mkF m 0 #[.val (.long x0), .second, .val (.long x1), .second, .val (.long x2), .second, .val (.long x3), .second, .unset, .unset, .unset, .unset] [] := by first | (simp [entryFrame, mkF, argsToLocals, Value.category]; done) | rfl
def Q1 (Z : State) (a : Int64) (b : Int64) (c0 : Int64) (d : Int64) (h0 : Heap) (n0 : Nat) (vα : Option Value) (hα : Heap) (Lα : List Loc) : Prop := vα = some (.long (own_mean a b c0 d)) ∧ Fr n0 Lα ∧ hα = h0
set_option maxRecDepth 65536 in
set_option maxHeartbeats 40000000 in
theorem rm1 (l : Launch) (Z : State) (a0 : Array Value) (hw : ∀ d ∈ tables_1, d.before a0 Z = true) (ws : List Jvm.Cond) (a : Int64) (b : Int64) (c0 : Int64) (d : Int64) (h0 : Heap) (n0 : Nat) (Z0 : n0 ≤ h0.size) :
    MetFree l (⟨"com/example/block_motion_coder/blockmotioncoder/mpeg2/PackedSamples", "mean", "(JJJJ)J"⟩ : MethodName) (head1 (Jvm.Cond.code (⟨"com/example/block_motion_coder/blockmotioncoder/mpeg2/PackedSamples", "mean", "(JJJJ)J"⟩ : MethodName) prog_82_method_8_code 12 (some .long) :: ws) ({ frames := 0, cells := 0, slots := 0, locals := 0 } : Room)) (fun aα U => aα = #[(.long a), (.long b), (.long c0), (.long d)] ∧ Z.Warmed39 U.vm ∧ U.heap = h0) (fun _ _ _ _ _ => True) (fun _ U oα U' => ∃ vα Lα, oα = .returned vα ∧ Q1 Z a b c0 d h0 n0 vα U'.heap Lα ∧ FrameEnd U oα U' Lα ({ frames := 0, cells := 0, slots := 0, locals := 0 } : Room).cells ({ frames := 0, cells := 0, slots := 0, locals := 0 } : Room).slots) := by
  refine MetFree.of_bodySF (plainFor_of_name pn_0) hisR ?_
  intro p e s m args below meth c s₁ Bd hml0 hP hK
  refine own_wrap ?_
  intro GL hGL
  obtain ⟨rfl, hZ, hh⟩ := hP
  have hx := Bd.exec
  have hby := Bd.bytes
  have hml : c.maxLocals = 12 := hml0
  have hown : s.vm.findClass "com/example/block_motion_coder/blockmotioncoder/mpeg2/PackedSamples" = some m.cls := findClass_of_methodNamed Bd.named
  have hnm := (name_of_methodNamed Bd.named Bd.method).1
  have X0 : Stand p l e ({ frames := 0, cells := 0, slots := 0, locals := 0 } : Room) s m #[(.long a), (.long b), (.long c0), (.long d)] below meth c s₁ [] 0 0 := Stand.of_body Bd
  have e0 : s₁.heap = h0 := by rw [← hh, Bd.state]; rfl
  have N0 := Fr.nil n0
  have pre0 : ∀ τ, Steps p.tables e below (s₁.setTop (mkF m 0 #[.val (.long a), .second, .val (.long b), .second, .val (.long c0), .second, .val (.long d), .second, .unset, .unset, .unset, .unset] [])) τ → Steps p.tables e below (s₁.setTop (entryFrame m #[(.long a), (.long b), (.long c0), (.long d)] 12)) τ := fun τ κ => castTop (ef_1 m a b c0 d) κ
  obtain ⟨G, hG, pre⟩ : ∃ G : State → Prop, (∀ τ, G τ → Steps p.tables e below (s₁.setTop (entryFrame m #[(.long a), (.long b), (.long c0), (.long d)] 12)) τ) ∧ ∀ τ, Steps p.tables e below (s₁.setTop (mkF m 0 #[.val (.long a), .second, .val (.long b), .second, .val (.long c0), .second, .val (.long d), .second, .unset, .unset, .unset, .unset] [])) τ → G τ := ⟨_, pre0, fun _ k => k⟩
  have K : Keep h0 h0 [] := Keep.refl h0 _
  have Zn := Z0
  have pre : ∀ τ, Steps p.tables e below (s₁.setTop (mkF m 94 #[.val (.long a), .second, .val (.long b), .second, .val (.long c0), .second, .val (.long d), .second, .val (.long ((((a &&& (71777214294589695 : Int64)) + (b &&& (71777214294589695 : Int64))) + (c0 &&& (71777214294589695 : Int64))) + (d &&& (71777214294589695 : Int64)))), .second, .val (.long ((((((a.toUInt64 >>> ((8 : Int32) &&& 0x3f).toInt64.toUInt64).toInt64) &&& (71777214294589695 : Int64)) + (((b.toUInt64 >>> ((8 : Int32) &&& 0x3f).toInt64.toUInt64).toInt64) &&& (71777214294589695 : Int64))) + (((c0.toUInt64 >>> ((8 : Int32) &&& 0x3f).toInt64.toUInt64).toInt64) &&& (71777214294589695 : Int64))) + (((d.toUInt64 >>> ((8 : Int32) &&& 0x3f).toInt64.toUInt64).toInt64) &&& (71777214294589695 : Int64)))), .second] [(.long (((((((((a &&& (71777214294589695 : Int64)) + (b &&& (71777214294589695 : Int64))) + (c0 &&& (71777214294589695 : Int64))) + (d &&& (71777214294589695 : Int64))) + (562958543486978 : Int64)).toUInt64 >>> ((2 : Int32) &&& 0x3f).toInt64.toUInt64).toInt64) &&& (71777214294589695 : Int64)) ||| (((((((((((a.toUInt64 >>> ((8 : Int32) &&& 0x3f).toInt64.toUInt64).toInt64) &&& (71777214294589695 : Int64)) + (((b.toUInt64 >>> ((8 : Int32) &&& 0x3f).toInt64.toUInt64).toInt64) &&& (71777214294589695 : Int64))) + (((c0.toUInt64 >>> ((8 : Int32) &&& 0x3f).toInt64.toUInt64).toInt64) &&& (71777214294589695 : Int64))) + (((d.toUInt64 >>> ((8 : Int32) &&& 0x3f).toInt64.toUInt64).toInt64) &&& (71777214294589695 : Int64))) + (562958543486978 : Int64)).toUInt64 >>> ((2 : Int32) &&& 0x3f).toInt64.toUInt64).toInt64) &&& (71777214294589695 : Int64)) <<< ((8 : Int32) &&& 0x3f).toInt64)))])) τ → G τ := fun τ κ => pre τ (by
    refine XS.lloadN X0.here hx rfl (hb hby d1_0) rfl ?_
    show Steps p.tables e below (s₁.setTop (mkF m 1 #[.val (.long a), .second, .val (.long b), .second, .val (.long c0), .second, .val (.long d), .second, .unset, .unset, .unset, .unset] [(.long a)])) τ
    refine X0.ldc2Long hx hown (mvT hZ (hw _ (List.mem_of_getElem? (i := 4) rfl))) (g := (mkF m 1 #[.val (.long a), .second, .val (.long b), .second, .val (.long c0), .second, .val (.long d), .second, .unset, .unset, .unset, .unset] [(.long a)])) rfl (hb hby d1_1) _ ?_
    show Steps p.tables e below (s₁.setTop (mkF m 4 #[.val (.long a), .second, .val (.long b), .second, .val (.long c0), .second, .val (.long d), .second, .unset, .unset, .unset, .unset] [(.long (71777214294589695 : Int64)), (.long a)])) τ
    refine XS.land X0.here hx rfl (hb hby d1_4) rfl ?_
    show Steps p.tables e below (s₁.setTop (mkF m 5 #[.val (.long a), .second, .val (.long b), .second, .val (.long c0), .second, .val (.long d), .second, .unset, .unset, .unset, .unset] [(.long (a &&& (71777214294589695 : Int64)))])) τ
    refine XS.lloadN X0.here hx rfl (hb hby d1_5) rfl ?_
    show Steps p.tables e below (s₁.setTop (mkF m 6 #[.val (.long a), .second, .val (.long b), .second, .val (.long c0), .second, .val (.long d), .second, .unset, .unset, .unset, .unset] [(.long b), (.long (a &&& (71777214294589695 : Int64)))])) τ
    refine X0.ldc2Long hx hown (mvT hZ (hw _ (List.mem_of_getElem? (i := 4) rfl))) (g := (mkF m 6 #[.val (.long a), .second, .val (.long b), .second, .val (.long c0), .second, .val (.long d), .second, .unset, .unset, .unset, .unset] [(.long b), (.long (a &&& (71777214294589695 : Int64)))])) rfl (hb hby d1_6) _ ?_
    show Steps p.tables e below (s₁.setTop (mkF m 9 #[.val (.long a), .second, .val (.long b), .second, .val (.long c0), .second, .val (.long d), .second, .unset, .unset, .unset, .unset] [(.long (71777214294589695 : Int64)), (.long b), (.long (a &&& (71777214294589695 : Int64)))])) τ
    refine XS.land X0.here hx rfl (hb hby d1_9) rfl ?_
    show Steps p.tables e below (s₁.setTop (mkF m 10 #[.val (.long a), .second, .val (.long b), .second, .val (.long c0), .second, .val (.long d), .second, .unset, .unset, .unset, .unset] [(.long (b &&& (71777214294589695 : Int64))), (.long (a &&& (71777214294589695 : Int64)))])) τ
    refine XS.ladd X0.here hx rfl (hb hby d1_10) rfl ?_
    show Steps p.tables e below (s₁.setTop (mkF m 11 #[.val (.long a), .second, .val (.long b), .second, .val (.long c0), .second, .val (.long d), .second, .unset, .unset, .unset, .unset] [(.long ((a &&& (71777214294589695 : Int64)) + (b &&& (71777214294589695 : Int64))))])) τ
    refine XS.lload X0.here hx rfl (hb hby d1_11) rfl ?_
    show Steps p.tables e below (s₁.setTop (mkF m 13 #[.val (.long a), .second, .val (.long b), .second, .val (.long c0), .second, .val (.long d), .second, .unset, .unset, .unset, .unset] [(.long c0), (.long ((a &&& (71777214294589695 : Int64)) + (b &&& (71777214294589695 : Int64))))])) τ
    refine X0.ldc2Long hx hown (mvT hZ (hw _ (List.mem_of_getElem? (i := 4) rfl))) (g := (mkF m 13 #[.val (.long a), .second, .val (.long b), .second, .val (.long c0), .second, .val (.long d), .second, .unset, .unset, .unset, .unset] [(.long c0), (.long ((a &&& (71777214294589695 : Int64)) + (b &&& (71777214294589695 : Int64))))])) rfl (hb hby d1_13) _ ?_
    show Steps p.tables e below (s₁.setTop (mkF m 16 #[.val (.long a), .second, .val (.long b), .second, .val (.long c0), .second, .val (.long d), .second, .unset, .unset, .unset, .unset] [(.long (71777214294589695 : Int64)), (.long c0), (.long ((a &&& (71777214294589695 : Int64)) + (b &&& (71777214294589695 : Int64))))])) τ
    refine XS.land X0.here hx rfl (hb hby d1_16) rfl ?_
    show Steps p.tables e below (s₁.setTop (mkF m 17 #[.val (.long a), .second, .val (.long b), .second, .val (.long c0), .second, .val (.long d), .second, .unset, .unset, .unset, .unset] [(.long (c0 &&& (71777214294589695 : Int64))), (.long ((a &&& (71777214294589695 : Int64)) + (b &&& (71777214294589695 : Int64))))])) τ
    refine XS.ladd X0.here hx rfl (hb hby d1_17) rfl ?_
    show Steps p.tables e below (s₁.setTop (mkF m 18 #[.val (.long a), .second, .val (.long b), .second, .val (.long c0), .second, .val (.long d), .second, .unset, .unset, .unset, .unset] [(.long (((a &&& (71777214294589695 : Int64)) + (b &&& (71777214294589695 : Int64))) + (c0 &&& (71777214294589695 : Int64))))])) τ
    refine XS.lload X0.here hx rfl (hb hby d1_18) rfl ?_
    show Steps p.tables e below (s₁.setTop (mkF m 20 #[.val (.long a), .second, .val (.long b), .second, .val (.long c0), .second, .val (.long d), .second, .unset, .unset, .unset, .unset] [(.long d), (.long (((a &&& (71777214294589695 : Int64)) + (b &&& (71777214294589695 : Int64))) + (c0 &&& (71777214294589695 : Int64))))])) τ
    refine X0.ldc2Long hx hown (mvT hZ (hw _ (List.mem_of_getElem? (i := 4) rfl))) (g := (mkF m 20 #[.val (.long a), .second, .val (.long b), .second, .val (.long c0), .second, .val (.long d), .second, .unset, .unset, .unset, .unset] [(.long d), (.long (((a &&& (71777214294589695 : Int64)) + (b &&& (71777214294589695 : Int64))) + (c0 &&& (71777214294589695 : Int64))))])) rfl (hb hby d1_20) _ ?_
    show Steps p.tables e below (s₁.setTop (mkF m 23 #[.val (.long a), .second, .val (.long b), .second, .val (.long c0), .second, .val (.long d), .second, .unset, .unset, .unset, .unset] [(.long (71777214294589695 : Int64)), (.long d), (.long (((a &&& (71777214294589695 : Int64)) + (b &&& (71777214294589695 : Int64))) + (c0 &&& (71777214294589695 : Int64))))])) τ
    refine XS.land X0.here hx rfl (hb hby d1_23) rfl ?_
    show Steps p.tables e below (s₁.setTop (mkF m 24 #[.val (.long a), .second, .val (.long b), .second, .val (.long c0), .second, .val (.long d), .second, .unset, .unset, .unset, .unset] [(.long (d &&& (71777214294589695 : Int64))), (.long (((a &&& (71777214294589695 : Int64)) + (b &&& (71777214294589695 : Int64))) + (c0 &&& (71777214294589695 : Int64))))])) τ
    refine XS.ladd X0.here hx rfl (hb hby d1_24) rfl ?_
    show Steps p.tables e below (s₁.setTop (mkF m 25 #[.val (.long a), .second, .val (.long b), .second, .val (.long c0), .second, .val (.long d), .second, .unset, .unset, .unset, .unset] [(.long ((((a &&& (71777214294589695 : Int64)) + (b &&& (71777214294589695 : Int64))) + (c0 &&& (71777214294589695 : Int64))) + (d &&& (71777214294589695 : Int64))))])) τ
    refine XS.lstore X0.here hx rfl (hb hby d1_25) rfl (l' := #[.val (.long a), .second, .val (.long b), .second, .val (.long c0), .second, .val (.long d), .second, .val (.long ((((a &&& (71777214294589695 : Int64)) + (b &&& (71777214294589695 : Int64))) + (c0 &&& (71777214294589695 : Int64))) + (d &&& (71777214294589695 : Int64)))), .second, .unset, .unset]) rfl ?_
    show Steps p.tables e below (s₁.setTop (mkF m 27 #[.val (.long a), .second, .val (.long b), .second, .val (.long c0), .second, .val (.long d), .second, .val (.long ((((a &&& (71777214294589695 : Int64)) + (b &&& (71777214294589695 : Int64))) + (c0 &&& (71777214294589695 : Int64))) + (d &&& (71777214294589695 : Int64)))), .second, .unset, .unset] [])) τ
    refine XS.lloadN X0.here hx rfl (hb hby d1_27) rfl ?_
    show Steps p.tables e below (s₁.setTop (mkF m 28 #[.val (.long a), .second, .val (.long b), .second, .val (.long c0), .second, .val (.long d), .second, .val (.long ((((a &&& (71777214294589695 : Int64)) + (b &&& (71777214294589695 : Int64))) + (c0 &&& (71777214294589695 : Int64))) + (d &&& (71777214294589695 : Int64)))), .second, .unset, .unset] [(.long a)])) τ
    refine XS.bipush X0.here hx rfl (hb hby d1_28) ?_
    show Steps p.tables e below (s₁.setTop (mkF m 30 #[.val (.long a), .second, .val (.long b), .second, .val (.long c0), .second, .val (.long d), .second, .val (.long ((((a &&& (71777214294589695 : Int64)) + (b &&& (71777214294589695 : Int64))) + (c0 &&& (71777214294589695 : Int64))) + (d &&& (71777214294589695 : Int64)))), .second, .unset, .unset] [(.int (8 : Int32)), (.long a)])) τ
    refine XS.lushr X0.here hx rfl (hb hby d1_30) rfl ?_
    show Steps p.tables e below (s₁.setTop (mkF m 31 #[.val (.long a), .second, .val (.long b), .second, .val (.long c0), .second, .val (.long d), .second, .val (.long ((((a &&& (71777214294589695 : Int64)) + (b &&& (71777214294589695 : Int64))) + (c0 &&& (71777214294589695 : Int64))) + (d &&& (71777214294589695 : Int64)))), .second, .unset, .unset] [(.long ((a.toUInt64 >>> ((8 : Int32) &&& 0x3f).toInt64.toUInt64).toInt64))])) τ
    refine X0.ldc2Long hx hown (mvT hZ (hw _ (List.mem_of_getElem? (i := 4) rfl))) (g := (mkF m 31 #[.val (.long a), .second, .val (.long b), .second, .val (.long c0), .second, .val (.long d), .second, .val (.long ((((a &&& (71777214294589695 : Int64)) + (b &&& (71777214294589695 : Int64))) + (c0 &&& (71777214294589695 : Int64))) + (d &&& (71777214294589695 : Int64)))), .second, .unset, .unset] [(.long ((a.toUInt64 >>> ((8 : Int32) &&& 0x3f).toInt64.toUInt64).toInt64))])) rfl (hb hby d1_31) _ ?_
    show Steps p.tables e below (s₁.setTop (mkF m 34 #[.val (.long a), .second, .val (.long b), .second, .val (.long c0), .second, .val (.long d), .second, .val (.long ((((a &&& (71777214294589695 : Int64)) + (b &&& (71777214294589695 : Int64))) + (c0 &&& (71777214294589695 : Int64))) + (d &&& (71777214294589695 : Int64)))), .second, .unset, .unset] [(.long (71777214294589695 : Int64)), (.long ((a.toUInt64 >>> ((8 : Int32) &&& 0x3f).toInt64.toUInt64).toInt64))])) τ
    refine XS.land X0.here hx rfl (hb hby d1_34) rfl ?_
    show Steps p.tables e below (s₁.setTop (mkF m 35 #[.val (.long a), .second, .val (.long b), .second, .val (.long c0), .second, .val (.long d), .second, .val (.long ((((a &&& (71777214294589695 : Int64)) + (b &&& (71777214294589695 : Int64))) + (c0 &&& (71777214294589695 : Int64))) + (d &&& (71777214294589695 : Int64)))), .second, .unset, .unset] [(.long (((a.toUInt64 >>> ((8 : Int32) &&& 0x3f).toInt64.toUInt64).toInt64) &&& (71777214294589695 : Int64)))])) τ
    refine XS.lloadN X0.here hx rfl (hb hby d1_35) rfl ?_
    show Steps p.tables e below (s₁.setTop (mkF m 36 #[.val (.long a), .second, .val (.long b), .second, .val (.long c0), .second, .val (.long d), .second, .val (.long ((((a &&& (71777214294589695 : Int64)) + (b &&& (71777214294589695 : Int64))) + (c0 &&& (71777214294589695 : Int64))) + (d &&& (71777214294589695 : Int64)))), .second, .unset, .unset] [(.long b), (.long (((a.toUInt64 >>> ((8 : Int32) &&& 0x3f).toInt64.toUInt64).toInt64) &&& (71777214294589695 : Int64)))])) τ
    refine XS.bipush X0.here hx rfl (hb hby d1_36) ?_
    show Steps p.tables e below (s₁.setTop (mkF m 38 #[.val (.long a), .second, .val (.long b), .second, .val (.long c0), .second, .val (.long d), .second, .val (.long ((((a &&& (71777214294589695 : Int64)) + (b &&& (71777214294589695 : Int64))) + (c0 &&& (71777214294589695 : Int64))) + (d &&& (71777214294589695 : Int64)))), .second, .unset, .unset] [(.int (8 : Int32)), (.long b), (.long (((a.toUInt64 >>> ((8 : Int32) &&& 0x3f).toInt64.toUInt64).toInt64) &&& (71777214294589695 : Int64)))])) τ
    refine XS.lushr X0.here hx rfl (hb hby d1_38) rfl ?_
    show Steps p.tables e below (s₁.setTop (mkF m 39 #[.val (.long a), .second, .val (.long b), .second, .val (.long c0), .second, .val (.long d), .second, .val (.long ((((a &&& (71777214294589695 : Int64)) + (b &&& (71777214294589695 : Int64))) + (c0 &&& (71777214294589695 : Int64))) + (d &&& (71777214294589695 : Int64)))), .second, .unset, .unset] [(.long ((b.toUInt64 >>> ((8 : Int32) &&& 0x3f).toInt64.toUInt64).toInt64)), (.long (((a.toUInt64 >>> ((8 : Int32) &&& 0x3f).toInt64.toUInt64).toInt64) &&& (71777214294589695 : Int64)))])) τ
    refine X0.ldc2Long hx hown (mvT hZ (hw _ (List.mem_of_getElem? (i := 4) rfl))) (g := (mkF m 39 #[.val (.long a), .second, .val (.long b), .second, .val (.long c0), .second, .val (.long d), .second, .val (.long ((((a &&& (71777214294589695 : Int64)) + (b &&& (71777214294589695 : Int64))) + (c0 &&& (71777214294589695 : Int64))) + (d &&& (71777214294589695 : Int64)))), .second, .unset, .unset] [(.long ((b.toUInt64 >>> ((8 : Int32) &&& 0x3f).toInt64.toUInt64).toInt64)), (.long (((a.toUInt64 >>> ((8 : Int32) &&& 0x3f).toInt64.toUInt64).toInt64) &&& (71777214294589695 : Int64)))])) rfl (hb hby d1_39) _ ?_
    show Steps p.tables e below (s₁.setTop (mkF m 42 #[.val (.long a), .second, .val (.long b), .second, .val (.long c0), .second, .val (.long d), .second, .val (.long ((((a &&& (71777214294589695 : Int64)) + (b &&& (71777214294589695 : Int64))) + (c0 &&& (71777214294589695 : Int64))) + (d &&& (71777214294589695 : Int64)))), .second, .unset, .unset] [(.long (71777214294589695 : Int64)), (.long ((b.toUInt64 >>> ((8 : Int32) &&& 0x3f).toInt64.toUInt64).toInt64)), (.long (((a.toUInt64 >>> ((8 : Int32) &&& 0x3f).toInt64.toUInt64).toInt64) &&& (71777214294589695 : Int64)))])) τ
    refine XS.land X0.here hx rfl (hb hby d1_42) rfl ?_
    show Steps p.tables e below (s₁.setTop (mkF m 43 #[.val (.long a), .second, .val (.long b), .second, .val (.long c0), .second, .val (.long d), .second, .val (.long ((((a &&& (71777214294589695 : Int64)) + (b &&& (71777214294589695 : Int64))) + (c0 &&& (71777214294589695 : Int64))) + (d &&& (71777214294589695 : Int64)))), .second, .unset, .unset] [(.long (((b.toUInt64 >>> ((8 : Int32) &&& 0x3f).toInt64.toUInt64).toInt64) &&& (71777214294589695 : Int64))), (.long (((a.toUInt64 >>> ((8 : Int32) &&& 0x3f).toInt64.toUInt64).toInt64) &&& (71777214294589695 : Int64)))])) τ
    refine XS.ladd X0.here hx rfl (hb hby d1_43) rfl ?_
    show Steps p.tables e below (s₁.setTop (mkF m 44 #[.val (.long a), .second, .val (.long b), .second, .val (.long c0), .second, .val (.long d), .second, .val (.long ((((a &&& (71777214294589695 : Int64)) + (b &&& (71777214294589695 : Int64))) + (c0 &&& (71777214294589695 : Int64))) + (d &&& (71777214294589695 : Int64)))), .second, .unset, .unset] [(.long ((((a.toUInt64 >>> ((8 : Int32) &&& 0x3f).toInt64.toUInt64).toInt64) &&& (71777214294589695 : Int64)) + (((b.toUInt64 >>> ((8 : Int32) &&& 0x3f).toInt64.toUInt64).toInt64) &&& (71777214294589695 : Int64))))])) τ
    refine XS.lload X0.here hx rfl (hb hby d1_44) rfl ?_
    show Steps p.tables e below (s₁.setTop (mkF m 46 #[.val (.long a), .second, .val (.long b), .second, .val (.long c0), .second, .val (.long d), .second, .val (.long ((((a &&& (71777214294589695 : Int64)) + (b &&& (71777214294589695 : Int64))) + (c0 &&& (71777214294589695 : Int64))) + (d &&& (71777214294589695 : Int64)))), .second, .unset, .unset] [(.long c0), (.long ((((a.toUInt64 >>> ((8 : Int32) &&& 0x3f).toInt64.toUInt64).toInt64) &&& (71777214294589695 : Int64)) + (((b.toUInt64 >>> ((8 : Int32) &&& 0x3f).toInt64.toUInt64).toInt64) &&& (71777214294589695 : Int64))))])) τ
    refine XS.bipush X0.here hx rfl (hb hby d1_46) ?_
    show Steps p.tables e below (s₁.setTop (mkF m 48 #[.val (.long a), .second, .val (.long b), .second, .val (.long c0), .second, .val (.long d), .second, .val (.long ((((a &&& (71777214294589695 : Int64)) + (b &&& (71777214294589695 : Int64))) + (c0 &&& (71777214294589695 : Int64))) + (d &&& (71777214294589695 : Int64)))), .second, .unset, .unset] [(.int (8 : Int32)), (.long c0), (.long ((((a.toUInt64 >>> ((8 : Int32) &&& 0x3f).toInt64.toUInt64).toInt64) &&& (71777214294589695 : Int64)) + (((b.toUInt64 >>> ((8 : Int32) &&& 0x3f).toInt64.toUInt64).toInt64) &&& (71777214294589695 : Int64))))])) τ
    refine XS.lushr X0.here hx rfl (hb hby d1_48) rfl ?_
    show Steps p.tables e below (s₁.setTop (mkF m 49 #[.val (.long a), .second, .val (.long b), .second, .val (.long c0), .second, .val (.long d), .second, .val (.long ((((a &&& (71777214294589695 : Int64)) + (b &&& (71777214294589695 : Int64))) + (c0 &&& (71777214294589695 : Int64))) + (d &&& (71777214294589695 : Int64)))), .second, .unset, .unset] [(.long ((c0.toUInt64 >>> ((8 : Int32) &&& 0x3f).toInt64.toUInt64).toInt64)), (.long ((((a.toUInt64 >>> ((8 : Int32) &&& 0x3f).toInt64.toUInt64).toInt64) &&& (71777214294589695 : Int64)) + (((b.toUInt64 >>> ((8 : Int32) &&& 0x3f).toInt64.toUInt64).toInt64) &&& (71777214294589695 : Int64))))])) τ
    refine X0.ldc2Long hx hown (mvT hZ (hw _ (List.mem_of_getElem? (i := 4) rfl))) (g := (mkF m 49 #[.val (.long a), .second, .val (.long b), .second, .val (.long c0), .second, .val (.long d), .second, .val (.long ((((a &&& (71777214294589695 : Int64)) + (b &&& (71777214294589695 : Int64))) + (c0 &&& (71777214294589695 : Int64))) + (d &&& (71777214294589695 : Int64)))), .second, .unset, .unset] [(.long ((c0.toUInt64 >>> ((8 : Int32) &&& 0x3f).toInt64.toUInt64).toInt64)), (.long ((((a.toUInt64 >>> ((8 : Int32) &&& 0x3f).toInt64.toUInt64).toInt64) &&& (71777214294589695 : Int64)) + (((b.toUInt64 >>> ((8 : Int32) &&& 0x3f).toInt64.toUInt64).toInt64) &&& (71777214294589695 : Int64))))])) rfl (hb hby d1_49) _ ?_
    show Steps p.tables e below (s₁.setTop (mkF m 52 #[.val (.long a), .second, .val (.long b), .second, .val (.long c0), .second, .val (.long d), .second, .val (.long ((((a &&& (71777214294589695 : Int64)) + (b &&& (71777214294589695 : Int64))) + (c0 &&& (71777214294589695 : Int64))) + (d &&& (71777214294589695 : Int64)))), .second, .unset, .unset] [(.long (71777214294589695 : Int64)), (.long ((c0.toUInt64 >>> ((8 : Int32) &&& 0x3f).toInt64.toUInt64).toInt64)), (.long ((((a.toUInt64 >>> ((8 : Int32) &&& 0x3f).toInt64.toUInt64).toInt64) &&& (71777214294589695 : Int64)) + (((b.toUInt64 >>> ((8 : Int32) &&& 0x3f).toInt64.toUInt64).toInt64) &&& (71777214294589695 : Int64))))])) τ
    refine XS.land X0.here hx rfl (hb hby d1_52) rfl ?_
    show Steps p.tables e below (s₁.setTop (mkF m 53 #[.val (.long a), .second, .val (.long b), .second, .val (.long c0), .second, .val (.long d), .second, .val (.long ((((a &&& (71777214294589695 : Int64)) + (b &&& (71777214294589695 : Int64))) + (c0 &&& (71777214294589695 : Int64))) + (d &&& (71777214294589695 : Int64)))), .second, .unset, .unset] [(.long (((c0.toUInt64 >>> ((8 : Int32) &&& 0x3f).toInt64.toUInt64).toInt64) &&& (71777214294589695 : Int64))), (.long ((((a.toUInt64 >>> ((8 : Int32) &&& 0x3f).toInt64.toUInt64).toInt64) &&& (71777214294589695 : Int64)) + (((b.toUInt64 >>> ((8 : Int32) &&& 0x3f).toInt64.toUInt64).toInt64) &&& (71777214294589695 : Int64))))])) τ
    refine XS.ladd X0.here hx rfl (hb hby d1_53) rfl ?_
    show Steps p.tables e below (s₁.setTop (mkF m 54 #[.val (.long a), .second, .val (.long b), .second, .val (.long c0), .second, .val (.long d), .second, .val (.long ((((a &&& (71777214294589695 : Int64)) + (b &&& (71777214294589695 : Int64))) + (c0 &&& (71777214294589695 : Int64))) + (d &&& (71777214294589695 : Int64)))), .second, .unset, .unset] [(.long (((((a.toUInt64 >>> ((8 : Int32) &&& 0x3f).toInt64.toUInt64).toInt64) &&& (71777214294589695 : Int64)) + (((b.toUInt64 >>> ((8 : Int32) &&& 0x3f).toInt64.toUInt64).toInt64) &&& (71777214294589695 : Int64))) + (((c0.toUInt64 >>> ((8 : Int32) &&& 0x3f).toInt64.toUInt64).toInt64) &&& (71777214294589695 : Int64))))])) τ
    refine XS.lload X0.here hx rfl (hb hby d1_54) rfl ?_
    show Steps p.tables e below (s₁.setTop (mkF m 56 #[.val (.long a), .second, .val (.long b), .second, .val (.long c0), .second, .val (.long d), .second, .val (.long ((((a &&& (71777214294589695 : Int64)) + (b &&& (71777214294589695 : Int64))) + (c0 &&& (71777214294589695 : Int64))) + (d &&& (71777214294589695 : Int64)))), .second, .unset, .unset] [(.long d), (.long (((((a.toUInt64 >>> ((8 : Int32) &&& 0x3f).toInt64.toUInt64).toInt64) &&& (71777214294589695 : Int64)) + (((b.toUInt64 >>> ((8 : Int32) &&& 0x3f).toInt64.toUInt64).toInt64) &&& (71777214294589695 : Int64))) + (((c0.toUInt64 >>> ((8 : Int32) &&& 0x3f).toInt64.toUInt64).toInt64) &&& (71777214294589695 : Int64))))])) τ
    refine XS.bipush X0.here hx rfl (hb hby d1_56) ?_
    show Steps p.tables e below (s₁.setTop (mkF m 58 #[.val (.long a), .second, .val (.long b), .second, .val (.long c0), .second, .val (.long d), .second, .val (.long ((((a &&& (71777214294589695 : Int64)) + (b &&& (71777214294589695 : Int64))) + (c0 &&& (71777214294589695 : Int64))) + (d &&& (71777214294589695 : Int64)))), .second, .unset, .unset] [(.int (8 : Int32)), (.long d), (.long (((((a.toUInt64 >>> ((8 : Int32) &&& 0x3f).toInt64.toUInt64).toInt64) &&& (71777214294589695 : Int64)) + (((b.toUInt64 >>> ((8 : Int32) &&& 0x3f).toInt64.toUInt64).toInt64) &&& (71777214294589695 : Int64))) + (((c0.toUInt64 >>> ((8 : Int32) &&& 0x3f).toInt64.toUInt64).toInt64) &&& (71777214294589695 : Int64))))])) τ
    refine XS.lushr X0.here hx rfl (hb hby d1_58) rfl ?_
    show Steps p.tables e below (s₁.setTop (mkF m 59 #[.val (.long a), .second, .val (.long b), .second, .val (.long c0), .second, .val (.long d), .second, .val (.long ((((a &&& (71777214294589695 : Int64)) + (b &&& (71777214294589695 : Int64))) + (c0 &&& (71777214294589695 : Int64))) + (d &&& (71777214294589695 : Int64)))), .second, .unset, .unset] [(.long ((d.toUInt64 >>> ((8 : Int32) &&& 0x3f).toInt64.toUInt64).toInt64)), (.long (((((a.toUInt64 >>> ((8 : Int32) &&& 0x3f).toInt64.toUInt64).toInt64) &&& (71777214294589695 : Int64)) + (((b.toUInt64 >>> ((8 : Int32) &&& 0x3f).toInt64.toUInt64).toInt64) &&& (71777214294589695 : Int64))) + (((c0.toUInt64 >>> ((8 : Int32) &&& 0x3f).toInt64.toUInt64).toInt64) &&& (71777214294589695 : Int64))))])) τ
    refine X0.ldc2Long hx hown (mvT hZ (hw _ (List.mem_of_getElem? (i := 4) rfl))) (g := (mkF m 59 #[.val (.long a), .second, .val (.long b), .second, .val (.long c0), .second, .val (.long d), .second, .val (.long ((((a &&& (71777214294589695 : Int64)) + (b &&& (71777214294589695 : Int64))) + (c0 &&& (71777214294589695 : Int64))) + (d &&& (71777214294589695 : Int64)))), .second, .unset, .unset] [(.long ((d.toUInt64 >>> ((8 : Int32) &&& 0x3f).toInt64.toUInt64).toInt64)), (.long (((((a.toUInt64 >>> ((8 : Int32) &&& 0x3f).toInt64.toUInt64).toInt64) &&& (71777214294589695 : Int64)) + (((b.toUInt64 >>> ((8 : Int32) &&& 0x3f).toInt64.toUInt64).toInt64) &&& (71777214294589695 : Int64))) + (((c0.toUInt64 >>> ((8 : Int32) &&& 0x3f).toInt64.toUInt64).toInt64) &&& (71777214294589695 : Int64))))])) rfl (hb hby d1_59) _ ?_
    show Steps p.tables e below (s₁.setTop (mkF m 62 #[.val (.long a), .second, .val (.long b), .second, .val (.long c0), .second, .val (.long d), .second, .val (.long ((((a &&& (71777214294589695 : Int64)) + (b &&& (71777214294589695 : Int64))) + (c0 &&& (71777214294589695 : Int64))) + (d &&& (71777214294589695 : Int64)))), .second, .unset, .unset] [(.long (71777214294589695 : Int64)), (.long ((d.toUInt64 >>> ((8 : Int32) &&& 0x3f).toInt64.toUInt64).toInt64)), (.long (((((a.toUInt64 >>> ((8 : Int32) &&& 0x3f).toInt64.toUInt64).toInt64) &&& (71777214294589695 : Int64)) + (((b.toUInt64 >>> ((8 : Int32) &&& 0x3f).toInt64.toUInt64).toInt64) &&& (71777214294589695 : Int64))) + (((c0.toUInt64 >>> ((8 : Int32) &&& 0x3f).toInt64.toUInt64).toInt64) &&& (71777214294589695 : Int64))))])) τ
    refine XS.land X0.here hx rfl (hb hby d1_62) rfl ?_
    show Steps p.tables e below (s₁.setTop (mkF m 63 #[.val (.long a), .second, .val (.long b), .second, .val (.long c0), .second, .val (.long d), .second, .val (.long ((((a &&& (71777214294589695 : Int64)) + (b &&& (71777214294589695 : Int64))) + (c0 &&& (71777214294589695 : Int64))) + (d &&& (71777214294589695 : Int64)))), .second, .unset, .unset] [(.long (((d.toUInt64 >>> ((8 : Int32) &&& 0x3f).toInt64.toUInt64).toInt64) &&& (71777214294589695 : Int64))), (.long (((((a.toUInt64 >>> ((8 : Int32) &&& 0x3f).toInt64.toUInt64).toInt64) &&& (71777214294589695 : Int64)) + (((b.toUInt64 >>> ((8 : Int32) &&& 0x3f).toInt64.toUInt64).toInt64) &&& (71777214294589695 : Int64))) + (((c0.toUInt64 >>> ((8 : Int32) &&& 0x3f).toInt64.toUInt64).toInt64) &&& (71777214294589695 : Int64))))])) τ
    refine XS.ladd X0.here hx rfl (hb hby d1_63) rfl ?_
    show Steps p.tables e below (s₁.setTop (mkF m 64 #[.val (.long a), .second, .val (.long b), .second, .val (.long c0), .second, .val (.long d), .second, .val (.long ((((a &&& (71777214294589695 : Int64)) + (b &&& (71777214294589695 : Int64))) + (c0 &&& (71777214294589695 : Int64))) + (d &&& (71777214294589695 : Int64)))), .second, .unset, .unset] [(.long ((((((a.toUInt64 >>> ((8 : Int32) &&& 0x3f).toInt64.toUInt64).toInt64) &&& (71777214294589695 : Int64)) + (((b.toUInt64 >>> ((8 : Int32) &&& 0x3f).toInt64.toUInt64).toInt64) &&& (71777214294589695 : Int64))) + (((c0.toUInt64 >>> ((8 : Int32) &&& 0x3f).toInt64.toUInt64).toInt64) &&& (71777214294589695 : Int64))) + (((d.toUInt64 >>> ((8 : Int32) &&& 0x3f).toInt64.toUInt64).toInt64) &&& (71777214294589695 : Int64))))])) τ
    refine XS.lstore X0.here hx rfl (hb hby d1_64) rfl (l' := #[.val (.long a), .second, .val (.long b), .second, .val (.long c0), .second, .val (.long d), .second, .val (.long ((((a &&& (71777214294589695 : Int64)) + (b &&& (71777214294589695 : Int64))) + (c0 &&& (71777214294589695 : Int64))) + (d &&& (71777214294589695 : Int64)))), .second, .val (.long ((((((a.toUInt64 >>> ((8 : Int32) &&& 0x3f).toInt64.toUInt64).toInt64) &&& (71777214294589695 : Int64)) + (((b.toUInt64 >>> ((8 : Int32) &&& 0x3f).toInt64.toUInt64).toInt64) &&& (71777214294589695 : Int64))) + (((c0.toUInt64 >>> ((8 : Int32) &&& 0x3f).toInt64.toUInt64).toInt64) &&& (71777214294589695 : Int64))) + (((d.toUInt64 >>> ((8 : Int32) &&& 0x3f).toInt64.toUInt64).toInt64) &&& (71777214294589695 : Int64)))), .second]) rfl ?_
    show Steps p.tables e below (s₁.setTop (mkF m 66 #[.val (.long a), .second, .val (.long b), .second, .val (.long c0), .second, .val (.long d), .second, .val (.long ((((a &&& (71777214294589695 : Int64)) + (b &&& (71777214294589695 : Int64))) + (c0 &&& (71777214294589695 : Int64))) + (d &&& (71777214294589695 : Int64)))), .second, .val (.long ((((((a.toUInt64 >>> ((8 : Int32) &&& 0x3f).toInt64.toUInt64).toInt64) &&& (71777214294589695 : Int64)) + (((b.toUInt64 >>> ((8 : Int32) &&& 0x3f).toInt64.toUInt64).toInt64) &&& (71777214294589695 : Int64))) + (((c0.toUInt64 >>> ((8 : Int32) &&& 0x3f).toInt64.toUInt64).toInt64) &&& (71777214294589695 : Int64))) + (((d.toUInt64 >>> ((8 : Int32) &&& 0x3f).toInt64.toUInt64).toInt64) &&& (71777214294589695 : Int64)))), .second] [])) τ
    refine XS.lload X0.here hx rfl (hb hby d1_66) rfl ?_
    show Steps p.tables e below (s₁.setTop (mkF m 68 #[.val (.long a), .second, .val (.long b), .second, .val (.long c0), .second, .val (.long d), .second, .val (.long ((((a &&& (71777214294589695 : Int64)) + (b &&& (71777214294589695 : Int64))) + (c0 &&& (71777214294589695 : Int64))) + (d &&& (71777214294589695 : Int64)))), .second, .val (.long ((((((a.toUInt64 >>> ((8 : Int32) &&& 0x3f).toInt64.toUInt64).toInt64) &&& (71777214294589695 : Int64)) + (((b.toUInt64 >>> ((8 : Int32) &&& 0x3f).toInt64.toUInt64).toInt64) &&& (71777214294589695 : Int64))) + (((c0.toUInt64 >>> ((8 : Int32) &&& 0x3f).toInt64.toUInt64).toInt64) &&& (71777214294589695 : Int64))) + (((d.toUInt64 >>> ((8 : Int32) &&& 0x3f).toInt64.toUInt64).toInt64) &&& (71777214294589695 : Int64)))), .second] [(.long ((((a &&& (71777214294589695 : Int64)) + (b &&& (71777214294589695 : Int64))) + (c0 &&& (71777214294589695 : Int64))) + (d &&& (71777214294589695 : Int64))))])) τ
    refine X0.ldc2Long hx hown (mvT hZ (hw _ (List.mem_of_getElem? (i := 5) rfl))) (g := (mkF m 68 #[.val (.long a), .second, .val (.long b), .second, .val (.long c0), .second, .val (.long d), .second, .val (.long ((((a &&& (71777214294589695 : Int64)) + (b &&& (71777214294589695 : Int64))) + (c0 &&& (71777214294589695 : Int64))) + (d &&& (71777214294589695 : Int64)))), .second, .val (.long ((((((a.toUInt64 >>> ((8 : Int32) &&& 0x3f).toInt64.toUInt64).toInt64) &&& (71777214294589695 : Int64)) + (((b.toUInt64 >>> ((8 : Int32) &&& 0x3f).toInt64.toUInt64).toInt64) &&& (71777214294589695 : Int64))) + (((c0.toUInt64 >>> ((8 : Int32) &&& 0x3f).toInt64.toUInt64).toInt64) &&& (71777214294589695 : Int64))) + (((d.toUInt64 >>> ((8 : Int32) &&& 0x3f).toInt64.toUInt64).toInt64) &&& (71777214294589695 : Int64)))), .second] [(.long ((((a &&& (71777214294589695 : Int64)) + (b &&& (71777214294589695 : Int64))) + (c0 &&& (71777214294589695 : Int64))) + (d &&& (71777214294589695 : Int64))))])) rfl (hb hby d1_68) _ ?_
    show Steps p.tables e below (s₁.setTop (mkF m 71 #[.val (.long a), .second, .val (.long b), .second, .val (.long c0), .second, .val (.long d), .second, .val (.long ((((a &&& (71777214294589695 : Int64)) + (b &&& (71777214294589695 : Int64))) + (c0 &&& (71777214294589695 : Int64))) + (d &&& (71777214294589695 : Int64)))), .second, .val (.long ((((((a.toUInt64 >>> ((8 : Int32) &&& 0x3f).toInt64.toUInt64).toInt64) &&& (71777214294589695 : Int64)) + (((b.toUInt64 >>> ((8 : Int32) &&& 0x3f).toInt64.toUInt64).toInt64) &&& (71777214294589695 : Int64))) + (((c0.toUInt64 >>> ((8 : Int32) &&& 0x3f).toInt64.toUInt64).toInt64) &&& (71777214294589695 : Int64))) + (((d.toUInt64 >>> ((8 : Int32) &&& 0x3f).toInt64.toUInt64).toInt64) &&& (71777214294589695 : Int64)))), .second] [(.long (562958543486978 : Int64)), (.long ((((a &&& (71777214294589695 : Int64)) + (b &&& (71777214294589695 : Int64))) + (c0 &&& (71777214294589695 : Int64))) + (d &&& (71777214294589695 : Int64))))])) τ
    refine XS.ladd X0.here hx rfl (hb hby d1_71) rfl ?_
    show Steps p.tables e below (s₁.setTop (mkF m 72 #[.val (.long a), .second, .val (.long b), .second, .val (.long c0), .second, .val (.long d), .second, .val (.long ((((a &&& (71777214294589695 : Int64)) + (b &&& (71777214294589695 : Int64))) + (c0 &&& (71777214294589695 : Int64))) + (d &&& (71777214294589695 : Int64)))), .second, .val (.long ((((((a.toUInt64 >>> ((8 : Int32) &&& 0x3f).toInt64.toUInt64).toInt64) &&& (71777214294589695 : Int64)) + (((b.toUInt64 >>> ((8 : Int32) &&& 0x3f).toInt64.toUInt64).toInt64) &&& (71777214294589695 : Int64))) + (((c0.toUInt64 >>> ((8 : Int32) &&& 0x3f).toInt64.toUInt64).toInt64) &&& (71777214294589695 : Int64))) + (((d.toUInt64 >>> ((8 : Int32) &&& 0x3f).toInt64.toUInt64).toInt64) &&& (71777214294589695 : Int64)))), .second] [(.long (((((a &&& (71777214294589695 : Int64)) + (b &&& (71777214294589695 : Int64))) + (c0 &&& (71777214294589695 : Int64))) + (d &&& (71777214294589695 : Int64))) + (562958543486978 : Int64)))])) τ
    refine XS.iconst X0.here hx rfl (hb hby d1_72) ?_
    show Steps p.tables e below (s₁.setTop (mkF m 73 #[.val (.long a), .second, .val (.long b), .second, .val (.long c0), .second, .val (.long d), .second, .val (.long ((((a &&& (71777214294589695 : Int64)) + (b &&& (71777214294589695 : Int64))) + (c0 &&& (71777214294589695 : Int64))) + (d &&& (71777214294589695 : Int64)))), .second, .val (.long ((((((a.toUInt64 >>> ((8 : Int32) &&& 0x3f).toInt64.toUInt64).toInt64) &&& (71777214294589695 : Int64)) + (((b.toUInt64 >>> ((8 : Int32) &&& 0x3f).toInt64.toUInt64).toInt64) &&& (71777214294589695 : Int64))) + (((c0.toUInt64 >>> ((8 : Int32) &&& 0x3f).toInt64.toUInt64).toInt64) &&& (71777214294589695 : Int64))) + (((d.toUInt64 >>> ((8 : Int32) &&& 0x3f).toInt64.toUInt64).toInt64) &&& (71777214294589695 : Int64)))), .second] [(.int (2 : Int32)), (.long (((((a &&& (71777214294589695 : Int64)) + (b &&& (71777214294589695 : Int64))) + (c0 &&& (71777214294589695 : Int64))) + (d &&& (71777214294589695 : Int64))) + (562958543486978 : Int64)))])) τ
    refine XS.lushr X0.here hx rfl (hb hby d1_73) rfl ?_
    show Steps p.tables e below (s₁.setTop (mkF m 74 #[.val (.long a), .second, .val (.long b), .second, .val (.long c0), .second, .val (.long d), .second, .val (.long ((((a &&& (71777214294589695 : Int64)) + (b &&& (71777214294589695 : Int64))) + (c0 &&& (71777214294589695 : Int64))) + (d &&& (71777214294589695 : Int64)))), .second, .val (.long ((((((a.toUInt64 >>> ((8 : Int32) &&& 0x3f).toInt64.toUInt64).toInt64) &&& (71777214294589695 : Int64)) + (((b.toUInt64 >>> ((8 : Int32) &&& 0x3f).toInt64.toUInt64).toInt64) &&& (71777214294589695 : Int64))) + (((c0.toUInt64 >>> ((8 : Int32) &&& 0x3f).toInt64.toUInt64).toInt64) &&& (71777214294589695 : Int64))) + (((d.toUInt64 >>> ((8 : Int32) &&& 0x3f).toInt64.toUInt64).toInt64) &&& (71777214294589695 : Int64)))), .second] [(.long (((((((a &&& (71777214294589695 : Int64)) + (b &&& (71777214294589695 : Int64))) + (c0 &&& (71777214294589695 : Int64))) + (d &&& (71777214294589695 : Int64))) + (562958543486978 : Int64)).toUInt64 >>> ((2 : Int32) &&& 0x3f).toInt64.toUInt64).toInt64))])) τ
    refine X0.ldc2Long hx hown (mvT hZ (hw _ (List.mem_of_getElem? (i := 4) rfl))) (g := (mkF m 74 #[.val (.long a), .second, .val (.long b), .second, .val (.long c0), .second, .val (.long d), .second, .val (.long ((((a &&& (71777214294589695 : Int64)) + (b &&& (71777214294589695 : Int64))) + (c0 &&& (71777214294589695 : Int64))) + (d &&& (71777214294589695 : Int64)))), .second, .val (.long ((((((a.toUInt64 >>> ((8 : Int32) &&& 0x3f).toInt64.toUInt64).toInt64) &&& (71777214294589695 : Int64)) + (((b.toUInt64 >>> ((8 : Int32) &&& 0x3f).toInt64.toUInt64).toInt64) &&& (71777214294589695 : Int64))) + (((c0.toUInt64 >>> ((8 : Int32) &&& 0x3f).toInt64.toUInt64).toInt64) &&& (71777214294589695 : Int64))) + (((d.toUInt64 >>> ((8 : Int32) &&& 0x3f).toInt64.toUInt64).toInt64) &&& (71777214294589695 : Int64)))), .second] [(.long (((((((a &&& (71777214294589695 : Int64)) + (b &&& (71777214294589695 : Int64))) + (c0 &&& (71777214294589695 : Int64))) + (d &&& (71777214294589695 : Int64))) + (562958543486978 : Int64)).toUInt64 >>> ((2 : Int32) &&& 0x3f).toInt64.toUInt64).toInt64))])) rfl (hb hby d1_74) _ ?_
    show Steps p.tables e below (s₁.setTop (mkF m 77 #[.val (.long a), .second, .val (.long b), .second, .val (.long c0), .second, .val (.long d), .second, .val (.long ((((a &&& (71777214294589695 : Int64)) + (b &&& (71777214294589695 : Int64))) + (c0 &&& (71777214294589695 : Int64))) + (d &&& (71777214294589695 : Int64)))), .second, .val (.long ((((((a.toUInt64 >>> ((8 : Int32) &&& 0x3f).toInt64.toUInt64).toInt64) &&& (71777214294589695 : Int64)) + (((b.toUInt64 >>> ((8 : Int32) &&& 0x3f).toInt64.toUInt64).toInt64) &&& (71777214294589695 : Int64))) + (((c0.toUInt64 >>> ((8 : Int32) &&& 0x3f).toInt64.toUInt64).toInt64) &&& (71777214294589695 : Int64))) + (((d.toUInt64 >>> ((8 : Int32) &&& 0x3f).toInt64.toUInt64).toInt64) &&& (71777214294589695 : Int64)))), .second] [(.long (71777214294589695 : Int64)), (.long (((((((a &&& (71777214294589695 : Int64)) + (b &&& (71777214294589695 : Int64))) + (c0 &&& (71777214294589695 : Int64))) + (d &&& (71777214294589695 : Int64))) + (562958543486978 : Int64)).toUInt64 >>> ((2 : Int32) &&& 0x3f).toInt64.toUInt64).toInt64))])) τ
    refine XS.land X0.here hx rfl (hb hby d1_77) rfl ?_
    show Steps p.tables e below (s₁.setTop (mkF m 78 #[.val (.long a), .second, .val (.long b), .second, .val (.long c0), .second, .val (.long d), .second, .val (.long ((((a &&& (71777214294589695 : Int64)) + (b &&& (71777214294589695 : Int64))) + (c0 &&& (71777214294589695 : Int64))) + (d &&& (71777214294589695 : Int64)))), .second, .val (.long ((((((a.toUInt64 >>> ((8 : Int32) &&& 0x3f).toInt64.toUInt64).toInt64) &&& (71777214294589695 : Int64)) + (((b.toUInt64 >>> ((8 : Int32) &&& 0x3f).toInt64.toUInt64).toInt64) &&& (71777214294589695 : Int64))) + (((c0.toUInt64 >>> ((8 : Int32) &&& 0x3f).toInt64.toUInt64).toInt64) &&& (71777214294589695 : Int64))) + (((d.toUInt64 >>> ((8 : Int32) &&& 0x3f).toInt64.toUInt64).toInt64) &&& (71777214294589695 : Int64)))), .second] [(.long ((((((((a &&& (71777214294589695 : Int64)) + (b &&& (71777214294589695 : Int64))) + (c0 &&& (71777214294589695 : Int64))) + (d &&& (71777214294589695 : Int64))) + (562958543486978 : Int64)).toUInt64 >>> ((2 : Int32) &&& 0x3f).toInt64.toUInt64).toInt64) &&& (71777214294589695 : Int64)))])) τ
    refine XS.lload X0.here hx rfl (hb hby d1_78) rfl ?_
    show Steps p.tables e below (s₁.setTop (mkF m 80 #[.val (.long a), .second, .val (.long b), .second, .val (.long c0), .second, .val (.long d), .second, .val (.long ((((a &&& (71777214294589695 : Int64)) + (b &&& (71777214294589695 : Int64))) + (c0 &&& (71777214294589695 : Int64))) + (d &&& (71777214294589695 : Int64)))), .second, .val (.long ((((((a.toUInt64 >>> ((8 : Int32) &&& 0x3f).toInt64.toUInt64).toInt64) &&& (71777214294589695 : Int64)) + (((b.toUInt64 >>> ((8 : Int32) &&& 0x3f).toInt64.toUInt64).toInt64) &&& (71777214294589695 : Int64))) + (((c0.toUInt64 >>> ((8 : Int32) &&& 0x3f).toInt64.toUInt64).toInt64) &&& (71777214294589695 : Int64))) + (((d.toUInt64 >>> ((8 : Int32) &&& 0x3f).toInt64.toUInt64).toInt64) &&& (71777214294589695 : Int64)))), .second] [(.long ((((((a.toUInt64 >>> ((8 : Int32) &&& 0x3f).toInt64.toUInt64).toInt64) &&& (71777214294589695 : Int64)) + (((b.toUInt64 >>> ((8 : Int32) &&& 0x3f).toInt64.toUInt64).toInt64) &&& (71777214294589695 : Int64))) + (((c0.toUInt64 >>> ((8 : Int32) &&& 0x3f).toInt64.toUInt64).toInt64) &&& (71777214294589695 : Int64))) + (((d.toUInt64 >>> ((8 : Int32) &&& 0x3f).toInt64.toUInt64).toInt64) &&& (71777214294589695 : Int64)))), (.long ((((((((a &&& (71777214294589695 : Int64)) + (b &&& (71777214294589695 : Int64))) + (c0 &&& (71777214294589695 : Int64))) + (d &&& (71777214294589695 : Int64))) + (562958543486978 : Int64)).toUInt64 >>> ((2 : Int32) &&& 0x3f).toInt64.toUInt64).toInt64) &&& (71777214294589695 : Int64)))])) τ
    refine X0.ldc2Long hx hown (mvT hZ (hw _ (List.mem_of_getElem? (i := 5) rfl))) (g := (mkF m 80 #[.val (.long a), .second, .val (.long b), .second, .val (.long c0), .second, .val (.long d), .second, .val (.long ((((a &&& (71777214294589695 : Int64)) + (b &&& (71777214294589695 : Int64))) + (c0 &&& (71777214294589695 : Int64))) + (d &&& (71777214294589695 : Int64)))), .second, .val (.long ((((((a.toUInt64 >>> ((8 : Int32) &&& 0x3f).toInt64.toUInt64).toInt64) &&& (71777214294589695 : Int64)) + (((b.toUInt64 >>> ((8 : Int32) &&& 0x3f).toInt64.toUInt64).toInt64) &&& (71777214294589695 : Int64))) + (((c0.toUInt64 >>> ((8 : Int32) &&& 0x3f).toInt64.toUInt64).toInt64) &&& (71777214294589695 : Int64))) + (((d.toUInt64 >>> ((8 : Int32) &&& 0x3f).toInt64.toUInt64).toInt64) &&& (71777214294589695 : Int64)))), .second] [(.long ((((((a.toUInt64 >>> ((8 : Int32) &&& 0x3f).toInt64.toUInt64).toInt64) &&& (71777214294589695 : Int64)) + (((b.toUInt64 >>> ((8 : Int32) &&& 0x3f).toInt64.toUInt64).toInt64) &&& (71777214294589695 : Int64))) + (((c0.toUInt64 >>> ((8 : Int32) &&& 0x3f).toInt64.toUInt64).toInt64) &&& (71777214294589695 : Int64))) + (((d.toUInt64 >>> ((8 : Int32) &&& 0x3f).toInt64.toUInt64).toInt64) &&& (71777214294589695 : Int64)))), (.long ((((((((a &&& (71777214294589695 : Int64)) + (b &&& (71777214294589695 : Int64))) + (c0 &&& (71777214294589695 : Int64))) + (d &&& (71777214294589695 : Int64))) + (562958543486978 : Int64)).toUInt64 >>> ((2 : Int32) &&& 0x3f).toInt64.toUInt64).toInt64) &&& (71777214294589695 : Int64)))])) rfl (hb hby d1_80) _ ?_
    show Steps p.tables e below (s₁.setTop (mkF m 83 #[.val (.long a), .second, .val (.long b), .second, .val (.long c0), .second, .val (.long d), .second, .val (.long ((((a &&& (71777214294589695 : Int64)) + (b &&& (71777214294589695 : Int64))) + (c0 &&& (71777214294589695 : Int64))) + (d &&& (71777214294589695 : Int64)))), .second, .val (.long ((((((a.toUInt64 >>> ((8 : Int32) &&& 0x3f).toInt64.toUInt64).toInt64) &&& (71777214294589695 : Int64)) + (((b.toUInt64 >>> ((8 : Int32) &&& 0x3f).toInt64.toUInt64).toInt64) &&& (71777214294589695 : Int64))) + (((c0.toUInt64 >>> ((8 : Int32) &&& 0x3f).toInt64.toUInt64).toInt64) &&& (71777214294589695 : Int64))) + (((d.toUInt64 >>> ((8 : Int32) &&& 0x3f).toInt64.toUInt64).toInt64) &&& (71777214294589695 : Int64)))), .second] [(.long (562958543486978 : Int64)), (.long ((((((a.toUInt64 >>> ((8 : Int32) &&& 0x3f).toInt64.toUInt64).toInt64) &&& (71777214294589695 : Int64)) + (((b.toUInt64 >>> ((8 : Int32) &&& 0x3f).toInt64.toUInt64).toInt64) &&& (71777214294589695 : Int64))) + (((c0.toUInt64 >>> ((8 : Int32) &&& 0x3f).toInt64.toUInt64).toInt64) &&& (71777214294589695 : Int64))) + (((d.toUInt64 >>> ((8 : Int32) &&& 0x3f).toInt64.toUInt64).toInt64) &&& (71777214294589695 : Int64)))), (.long ((((((((a &&& (71777214294589695 : Int64)) + (b &&& (71777214294589695 : Int64))) + (c0 &&& (71777214294589695 : Int64))) + (d &&& (71777214294589695 : Int64))) + (562958543486978 : Int64)).toUInt64 >>> ((2 : Int32) &&& 0x3f).toInt64.toUInt64).toInt64) &&& (71777214294589695 : Int64)))])) τ
    refine XS.ladd X0.here hx rfl (hb hby d1_83) rfl ?_
    show Steps p.tables e below (s₁.setTop (mkF m 84 #[.val (.long a), .second, .val (.long b), .second, .val (.long c0), .second, .val (.long d), .second, .val (.long ((((a &&& (71777214294589695 : Int64)) + (b &&& (71777214294589695 : Int64))) + (c0 &&& (71777214294589695 : Int64))) + (d &&& (71777214294589695 : Int64)))), .second, .val (.long ((((((a.toUInt64 >>> ((8 : Int32) &&& 0x3f).toInt64.toUInt64).toInt64) &&& (71777214294589695 : Int64)) + (((b.toUInt64 >>> ((8 : Int32) &&& 0x3f).toInt64.toUInt64).toInt64) &&& (71777214294589695 : Int64))) + (((c0.toUInt64 >>> ((8 : Int32) &&& 0x3f).toInt64.toUInt64).toInt64) &&& (71777214294589695 : Int64))) + (((d.toUInt64 >>> ((8 : Int32) &&& 0x3f).toInt64.toUInt64).toInt64) &&& (71777214294589695 : Int64)))), .second] [(.long (((((((a.toUInt64 >>> ((8 : Int32) &&& 0x3f).toInt64.toUInt64).toInt64) &&& (71777214294589695 : Int64)) + (((b.toUInt64 >>> ((8 : Int32) &&& 0x3f).toInt64.toUInt64).toInt64) &&& (71777214294589695 : Int64))) + (((c0.toUInt64 >>> ((8 : Int32) &&& 0x3f).toInt64.toUInt64).toInt64) &&& (71777214294589695 : Int64))) + (((d.toUInt64 >>> ((8 : Int32) &&& 0x3f).toInt64.toUInt64).toInt64) &&& (71777214294589695 : Int64))) + (562958543486978 : Int64))), (.long ((((((((a &&& (71777214294589695 : Int64)) + (b &&& (71777214294589695 : Int64))) + (c0 &&& (71777214294589695 : Int64))) + (d &&& (71777214294589695 : Int64))) + (562958543486978 : Int64)).toUInt64 >>> ((2 : Int32) &&& 0x3f).toInt64.toUInt64).toInt64) &&& (71777214294589695 : Int64)))])) τ
    refine XS.iconst X0.here hx rfl (hb hby d1_84) ?_
    show Steps p.tables e below (s₁.setTop (mkF m 85 #[.val (.long a), .second, .val (.long b), .second, .val (.long c0), .second, .val (.long d), .second, .val (.long ((((a &&& (71777214294589695 : Int64)) + (b &&& (71777214294589695 : Int64))) + (c0 &&& (71777214294589695 : Int64))) + (d &&& (71777214294589695 : Int64)))), .second, .val (.long ((((((a.toUInt64 >>> ((8 : Int32) &&& 0x3f).toInt64.toUInt64).toInt64) &&& (71777214294589695 : Int64)) + (((b.toUInt64 >>> ((8 : Int32) &&& 0x3f).toInt64.toUInt64).toInt64) &&& (71777214294589695 : Int64))) + (((c0.toUInt64 >>> ((8 : Int32) &&& 0x3f).toInt64.toUInt64).toInt64) &&& (71777214294589695 : Int64))) + (((d.toUInt64 >>> ((8 : Int32) &&& 0x3f).toInt64.toUInt64).toInt64) &&& (71777214294589695 : Int64)))), .second] [(.int (2 : Int32)), (.long (((((((a.toUInt64 >>> ((8 : Int32) &&& 0x3f).toInt64.toUInt64).toInt64) &&& (71777214294589695 : Int64)) + (((b.toUInt64 >>> ((8 : Int32) &&& 0x3f).toInt64.toUInt64).toInt64) &&& (71777214294589695 : Int64))) + (((c0.toUInt64 >>> ((8 : Int32) &&& 0x3f).toInt64.toUInt64).toInt64) &&& (71777214294589695 : Int64))) + (((d.toUInt64 >>> ((8 : Int32) &&& 0x3f).toInt64.toUInt64).toInt64) &&& (71777214294589695 : Int64))) + (562958543486978 : Int64))), (.long ((((((((a &&& (71777214294589695 : Int64)) + (b &&& (71777214294589695 : Int64))) + (c0 &&& (71777214294589695 : Int64))) + (d &&& (71777214294589695 : Int64))) + (562958543486978 : Int64)).toUInt64 >>> ((2 : Int32) &&& 0x3f).toInt64.toUInt64).toInt64) &&& (71777214294589695 : Int64)))])) τ
    refine XS.lushr X0.here hx rfl (hb hby d1_85) rfl ?_
    show Steps p.tables e below (s₁.setTop (mkF m 86 #[.val (.long a), .second, .val (.long b), .second, .val (.long c0), .second, .val (.long d), .second, .val (.long ((((a &&& (71777214294589695 : Int64)) + (b &&& (71777214294589695 : Int64))) + (c0 &&& (71777214294589695 : Int64))) + (d &&& (71777214294589695 : Int64)))), .second, .val (.long ((((((a.toUInt64 >>> ((8 : Int32) &&& 0x3f).toInt64.toUInt64).toInt64) &&& (71777214294589695 : Int64)) + (((b.toUInt64 >>> ((8 : Int32) &&& 0x3f).toInt64.toUInt64).toInt64) &&& (71777214294589695 : Int64))) + (((c0.toUInt64 >>> ((8 : Int32) &&& 0x3f).toInt64.toUInt64).toInt64) &&& (71777214294589695 : Int64))) + (((d.toUInt64 >>> ((8 : Int32) &&& 0x3f).toInt64.toUInt64).toInt64) &&& (71777214294589695 : Int64)))), .second] [(.long (((((((((a.toUInt64 >>> ((8 : Int32) &&& 0x3f).toInt64.toUInt64).toInt64) &&& (71777214294589695 : Int64)) + (((b.toUInt64 >>> ((8 : Int32) &&& 0x3f).toInt64.toUInt64).toInt64) &&& (71777214294589695 : Int64))) + (((c0.toUInt64 >>> ((8 : Int32) &&& 0x3f).toInt64.toUInt64).toInt64) &&& (71777214294589695 : Int64))) + (((d.toUInt64 >>> ((8 : Int32) &&& 0x3f).toInt64.toUInt64).toInt64) &&& (71777214294589695 : Int64))) + (562958543486978 : Int64)).toUInt64 >>> ((2 : Int32) &&& 0x3f).toInt64.toUInt64).toInt64)), (.long ((((((((a &&& (71777214294589695 : Int64)) + (b &&& (71777214294589695 : Int64))) + (c0 &&& (71777214294589695 : Int64))) + (d &&& (71777214294589695 : Int64))) + (562958543486978 : Int64)).toUInt64 >>> ((2 : Int32) &&& 0x3f).toInt64.toUInt64).toInt64) &&& (71777214294589695 : Int64)))])) τ
    refine X0.ldc2Long hx hown (mvT hZ (hw _ (List.mem_of_getElem? (i := 4) rfl))) (g := (mkF m 86 #[.val (.long a), .second, .val (.long b), .second, .val (.long c0), .second, .val (.long d), .second, .val (.long ((((a &&& (71777214294589695 : Int64)) + (b &&& (71777214294589695 : Int64))) + (c0 &&& (71777214294589695 : Int64))) + (d &&& (71777214294589695 : Int64)))), .second, .val (.long ((((((a.toUInt64 >>> ((8 : Int32) &&& 0x3f).toInt64.toUInt64).toInt64) &&& (71777214294589695 : Int64)) + (((b.toUInt64 >>> ((8 : Int32) &&& 0x3f).toInt64.toUInt64).toInt64) &&& (71777214294589695 : Int64))) + (((c0.toUInt64 >>> ((8 : Int32) &&& 0x3f).toInt64.toUInt64).toInt64) &&& (71777214294589695 : Int64))) + (((d.toUInt64 >>> ((8 : Int32) &&& 0x3f).toInt64.toUInt64).toInt64) &&& (71777214294589695 : Int64)))), .second] [(.long (((((((((a.toUInt64 >>> ((8 : Int32) &&& 0x3f).toInt64.toUInt64).toInt64) &&& (71777214294589695 : Int64)) + (((b.toUInt64 >>> ((8 : Int32) &&& 0x3f).toInt64.toUInt64).toInt64) &&& (71777214294589695 : Int64))) + (((c0.toUInt64 >>> ((8 : Int32) &&& 0x3f).toInt64.toUInt64).toInt64) &&& (71777214294589695 : Int64))) + (((d.toUInt64 >>> ((8 : Int32) &&& 0x3f).toInt64.toUInt64).toInt64) &&& (71777214294589695 : Int64))) + (562958543486978 : Int64)).toUInt64 >>> ((2 : Int32) &&& 0x3f).toInt64.toUInt64).toInt64)), (.long ((((((((a &&& (71777214294589695 : Int64)) + (b &&& (71777214294589695 : Int64))) + (c0 &&& (71777214294589695 : Int64))) + (d &&& (71777214294589695 : Int64))) + (562958543486978 : Int64)).toUInt64 >>> ((2 : Int32) &&& 0x3f).toInt64.toUInt64).toInt64) &&& (71777214294589695 : Int64)))])) rfl (hb hby d1_86) _ ?_
    show Steps p.tables e below (s₁.setTop (mkF m 89 #[.val (.long a), .second, .val (.long b), .second, .val (.long c0), .second, .val (.long d), .second, .val (.long ((((a &&& (71777214294589695 : Int64)) + (b &&& (71777214294589695 : Int64))) + (c0 &&& (71777214294589695 : Int64))) + (d &&& (71777214294589695 : Int64)))), .second, .val (.long ((((((a.toUInt64 >>> ((8 : Int32) &&& 0x3f).toInt64.toUInt64).toInt64) &&& (71777214294589695 : Int64)) + (((b.toUInt64 >>> ((8 : Int32) &&& 0x3f).toInt64.toUInt64).toInt64) &&& (71777214294589695 : Int64))) + (((c0.toUInt64 >>> ((8 : Int32) &&& 0x3f).toInt64.toUInt64).toInt64) &&& (71777214294589695 : Int64))) + (((d.toUInt64 >>> ((8 : Int32) &&& 0x3f).toInt64.toUInt64).toInt64) &&& (71777214294589695 : Int64)))), .second] [(.long (71777214294589695 : Int64)), (.long (((((((((a.toUInt64 >>> ((8 : Int32) &&& 0x3f).toInt64.toUInt64).toInt64) &&& (71777214294589695 : Int64)) + (((b.toUInt64 >>> ((8 : Int32) &&& 0x3f).toInt64.toUInt64).toInt64) &&& (71777214294589695 : Int64))) + (((c0.toUInt64 >>> ((8 : Int32) &&& 0x3f).toInt64.toUInt64).toInt64) &&& (71777214294589695 : Int64))) + (((d.toUInt64 >>> ((8 : Int32) &&& 0x3f).toInt64.toUInt64).toInt64) &&& (71777214294589695 : Int64))) + (562958543486978 : Int64)).toUInt64 >>> ((2 : Int32) &&& 0x3f).toInt64.toUInt64).toInt64)), (.long ((((((((a &&& (71777214294589695 : Int64)) + (b &&& (71777214294589695 : Int64))) + (c0 &&& (71777214294589695 : Int64))) + (d &&& (71777214294589695 : Int64))) + (562958543486978 : Int64)).toUInt64 >>> ((2 : Int32) &&& 0x3f).toInt64.toUInt64).toInt64) &&& (71777214294589695 : Int64)))])) τ
    refine XS.land X0.here hx rfl (hb hby d1_89) rfl ?_
    show Steps p.tables e below (s₁.setTop (mkF m 90 #[.val (.long a), .second, .val (.long b), .second, .val (.long c0), .second, .val (.long d), .second, .val (.long ((((a &&& (71777214294589695 : Int64)) + (b &&& (71777214294589695 : Int64))) + (c0 &&& (71777214294589695 : Int64))) + (d &&& (71777214294589695 : Int64)))), .second, .val (.long ((((((a.toUInt64 >>> ((8 : Int32) &&& 0x3f).toInt64.toUInt64).toInt64) &&& (71777214294589695 : Int64)) + (((b.toUInt64 >>> ((8 : Int32) &&& 0x3f).toInt64.toUInt64).toInt64) &&& (71777214294589695 : Int64))) + (((c0.toUInt64 >>> ((8 : Int32) &&& 0x3f).toInt64.toUInt64).toInt64) &&& (71777214294589695 : Int64))) + (((d.toUInt64 >>> ((8 : Int32) &&& 0x3f).toInt64.toUInt64).toInt64) &&& (71777214294589695 : Int64)))), .second] [(.long ((((((((((a.toUInt64 >>> ((8 : Int32) &&& 0x3f).toInt64.toUInt64).toInt64) &&& (71777214294589695 : Int64)) + (((b.toUInt64 >>> ((8 : Int32) &&& 0x3f).toInt64.toUInt64).toInt64) &&& (71777214294589695 : Int64))) + (((c0.toUInt64 >>> ((8 : Int32) &&& 0x3f).toInt64.toUInt64).toInt64) &&& (71777214294589695 : Int64))) + (((d.toUInt64 >>> ((8 : Int32) &&& 0x3f).toInt64.toUInt64).toInt64) &&& (71777214294589695 : Int64))) + (562958543486978 : Int64)).toUInt64 >>> ((2 : Int32) &&& 0x3f).toInt64.toUInt64).toInt64) &&& (71777214294589695 : Int64))), (.long ((((((((a &&& (71777214294589695 : Int64)) + (b &&& (71777214294589695 : Int64))) + (c0 &&& (71777214294589695 : Int64))) + (d &&& (71777214294589695 : Int64))) + (562958543486978 : Int64)).toUInt64 >>> ((2 : Int32) &&& 0x3f).toInt64.toUInt64).toInt64) &&& (71777214294589695 : Int64)))])) τ
    refine XS.bipush X0.here hx rfl (hb hby d1_90) ?_
    show Steps p.tables e below (s₁.setTop (mkF m 92 #[.val (.long a), .second, .val (.long b), .second, .val (.long c0), .second, .val (.long d), .second, .val (.long ((((a &&& (71777214294589695 : Int64)) + (b &&& (71777214294589695 : Int64))) + (c0 &&& (71777214294589695 : Int64))) + (d &&& (71777214294589695 : Int64)))), .second, .val (.long ((((((a.toUInt64 >>> ((8 : Int32) &&& 0x3f).toInt64.toUInt64).toInt64) &&& (71777214294589695 : Int64)) + (((b.toUInt64 >>> ((8 : Int32) &&& 0x3f).toInt64.toUInt64).toInt64) &&& (71777214294589695 : Int64))) + (((c0.toUInt64 >>> ((8 : Int32) &&& 0x3f).toInt64.toUInt64).toInt64) &&& (71777214294589695 : Int64))) + (((d.toUInt64 >>> ((8 : Int32) &&& 0x3f).toInt64.toUInt64).toInt64) &&& (71777214294589695 : Int64)))), .second] [(.int (8 : Int32)), (.long ((((((((((a.toUInt64 >>> ((8 : Int32) &&& 0x3f).toInt64.toUInt64).toInt64) &&& (71777214294589695 : Int64)) + (((b.toUInt64 >>> ((8 : Int32) &&& 0x3f).toInt64.toUInt64).toInt64) &&& (71777214294589695 : Int64))) + (((c0.toUInt64 >>> ((8 : Int32) &&& 0x3f).toInt64.toUInt64).toInt64) &&& (71777214294589695 : Int64))) + (((d.toUInt64 >>> ((8 : Int32) &&& 0x3f).toInt64.toUInt64).toInt64) &&& (71777214294589695 : Int64))) + (562958543486978 : Int64)).toUInt64 >>> ((2 : Int32) &&& 0x3f).toInt64.toUInt64).toInt64) &&& (71777214294589695 : Int64))), (.long ((((((((a &&& (71777214294589695 : Int64)) + (b &&& (71777214294589695 : Int64))) + (c0 &&& (71777214294589695 : Int64))) + (d &&& (71777214294589695 : Int64))) + (562958543486978 : Int64)).toUInt64 >>> ((2 : Int32) &&& 0x3f).toInt64.toUInt64).toInt64) &&& (71777214294589695 : Int64)))])) τ
    refine XS.lshl X0.here hx rfl (hb hby d1_92) rfl ?_
    show Steps p.tables e below (s₁.setTop (mkF m 93 #[.val (.long a), .second, .val (.long b), .second, .val (.long c0), .second, .val (.long d), .second, .val (.long ((((a &&& (71777214294589695 : Int64)) + (b &&& (71777214294589695 : Int64))) + (c0 &&& (71777214294589695 : Int64))) + (d &&& (71777214294589695 : Int64)))), .second, .val (.long ((((((a.toUInt64 >>> ((8 : Int32) &&& 0x3f).toInt64.toUInt64).toInt64) &&& (71777214294589695 : Int64)) + (((b.toUInt64 >>> ((8 : Int32) &&& 0x3f).toInt64.toUInt64).toInt64) &&& (71777214294589695 : Int64))) + (((c0.toUInt64 >>> ((8 : Int32) &&& 0x3f).toInt64.toUInt64).toInt64) &&& (71777214294589695 : Int64))) + (((d.toUInt64 >>> ((8 : Int32) &&& 0x3f).toInt64.toUInt64).toInt64) &&& (71777214294589695 : Int64)))), .second] [(.long (((((((((((a.toUInt64 >>> ((8 : Int32) &&& 0x3f).toInt64.toUInt64).toInt64) &&& (71777214294589695 : Int64)) + (((b.toUInt64 >>> ((8 : Int32) &&& 0x3f).toInt64.toUInt64).toInt64) &&& (71777214294589695 : Int64))) + (((c0.toUInt64 >>> ((8 : Int32) &&& 0x3f).toInt64.toUInt64).toInt64) &&& (71777214294589695 : Int64))) + (((d.toUInt64 >>> ((8 : Int32) &&& 0x3f).toInt64.toUInt64).toInt64) &&& (71777214294589695 : Int64))) + (562958543486978 : Int64)).toUInt64 >>> ((2 : Int32) &&& 0x3f).toInt64.toUInt64).toInt64) &&& (71777214294589695 : Int64)) <<< ((8 : Int32) &&& 0x3f).toInt64)), (.long ((((((((a &&& (71777214294589695 : Int64)) + (b &&& (71777214294589695 : Int64))) + (c0 &&& (71777214294589695 : Int64))) + (d &&& (71777214294589695 : Int64))) + (562958543486978 : Int64)).toUInt64 >>> ((2 : Int32) &&& 0x3f).toInt64.toUInt64).toInt64) &&& (71777214294589695 : Int64)))])) τ
    refine XS.lor X0.here hx rfl (hb hby d1_93) rfl ?_
    show Steps p.tables e below (s₁.setTop (mkF m 94 #[.val (.long a), .second, .val (.long b), .second, .val (.long c0), .second, .val (.long d), .second, .val (.long ((((a &&& (71777214294589695 : Int64)) + (b &&& (71777214294589695 : Int64))) + (c0 &&& (71777214294589695 : Int64))) + (d &&& (71777214294589695 : Int64)))), .second, .val (.long ((((((a.toUInt64 >>> ((8 : Int32) &&& 0x3f).toInt64.toUInt64).toInt64) &&& (71777214294589695 : Int64)) + (((b.toUInt64 >>> ((8 : Int32) &&& 0x3f).toInt64.toUInt64).toInt64) &&& (71777214294589695 : Int64))) + (((c0.toUInt64 >>> ((8 : Int32) &&& 0x3f).toInt64.toUInt64).toInt64) &&& (71777214294589695 : Int64))) + (((d.toUInt64 >>> ((8 : Int32) &&& 0x3f).toInt64.toUInt64).toInt64) &&& (71777214294589695 : Int64)))), .second] [(.long (((((((((a &&& (71777214294589695 : Int64)) + (b &&& (71777214294589695 : Int64))) + (c0 &&& (71777214294589695 : Int64))) + (d &&& (71777214294589695 : Int64))) + (562958543486978 : Int64)).toUInt64 >>> ((2 : Int32) &&& 0x3f).toInt64.toUInt64).toInt64) &&& (71777214294589695 : Int64)) ||| (((((((((((a.toUInt64 >>> ((8 : Int32) &&& 0x3f).toInt64.toUInt64).toInt64) &&& (71777214294589695 : Int64)) + (((b.toUInt64 >>> ((8 : Int32) &&& 0x3f).toInt64.toUInt64).toInt64) &&& (71777214294589695 : Int64))) + (((c0.toUInt64 >>> ((8 : Int32) &&& 0x3f).toInt64.toUInt64).toInt64) &&& (71777214294589695 : Int64))) + (((d.toUInt64 >>> ((8 : Int32) &&& 0x3f).toInt64.toUInt64).toInt64) &&& (71777214294589695 : Int64))) + (562958543486978 : Int64)).toUInt64 >>> ((2 : Int32) &&& 0x3f).toInt64.toUInt64).toInt64) &&& (71777214294589695 : Int64)) <<< ((8 : Int32) &&& 0x3f).toInt64)))])) τ
    exact κ)
  obtain ⟨fsα, hr, hrun, hended, hW, hsame⟩ := X0.leave (v := some (.long (((((((((a &&& (71777214294589695 : Int64)) + (b &&& (71777214294589695 : Int64))) + (c0 &&& (71777214294589695 : Int64))) + (d &&& (71777214294589695 : Int64))) + (562958543486978 : Int64)).toUInt64 >>> ((2 : Int32) &&& 0x3f).toInt64.toUInt64).toInt64) &&& (71777214294589695 : Int64)) ||| (((((((((((a.toUInt64 >>> ((8 : Int32) &&& 0x3f).toInt64.toUInt64).toInt64) &&& (71777214294589695 : Int64)) + (((b.toUInt64 >>> ((8 : Int32) &&& 0x3f).toInt64.toUInt64).toInt64) &&& (71777214294589695 : Int64))) + (((c0.toUInt64 >>> ((8 : Int32) &&& 0x3f).toInt64.toUInt64).toInt64) &&& (71777214294589695 : Int64))) + (((d.toUInt64 >>> ((8 : Int32) &&& 0x3f).toInt64.toUInt64).toInt64) &&& (71777214294589695 : Int64))) + (562958543486978 : Int64)).toUInt64 >>> ((2 : Int32) &&& 0x3f).toInt64.toUInt64).toInt64) &&& (71777214294589695 : Int64)) <<< ((8 : Int32) &&& 0x3f).toInt64)))) (fun h => by rw [Bd.returns] at h; cases h)
  refine hGL ⟨_, _, hG _ (pre _ ?_), hrun, hended, _, _, rfl, ?_, ⟨_, rfl⟩, hW, hsame.mono (by decide) (by decide)⟩
  · exact retOut X0 hx Bd.returns rfl (Or.inr (Or.inl ⟨rfl, rfl, _, rfl⟩)) (hb hby d1_94) hr
  · show Q1 Z a b c0 d h0 n0 _ s₁.heap _
    rw [e0]
    refine ⟨?_, N0, rfl⟩
    unfold own_mean
    rfl
theorem pn_1 : plainName "com/example/block_motion_coder/blockmotioncoder/mpeg2/PackedSamplesMeanPinLaw" = true := by first | (simp [plainName, overriddenIn]; done) | decide +kernel
theorem d3_0 : decode method_2_code 0 = .ok (.lload_n 0, 1) := by decide +kernel
theorem d3_1 : decode method_2_code 1 = .ok (.iload_n 2, 1) := by decide +kernel
theorem d3_2 : decode method_2_code 2 = .ok (.lushr, 1) := by decide +kernel
theorem d3_3 : decode method_2_code 3 = .ok (.ldc2_w 7, 3) := by decide +kernel
theorem d3_6 : decode method_2_code 6 = .ok (.land, 1) := by decide +kernel
theorem d3_7 : decode method_2_code 7 = .ok (.lreturn, 1) := by decide +kernel
theorem ef_3 (m : MethodId) (x0 : Int64) (x1 : Int32) : entryFrame m #[(.long x0), (.int x1)] 3 = mkF m 0 #[.val (.long x0), .second, .val (.int x1)] [] := by first | (simp [entryFrame, mkF, argsToLocals, Value.category]; done) | rfl
def Q3 (Z : State) (a : Int64) (s0 : Int32) (h0 : Heap) (n0 : Nat) (vα : Option Value) (hα : Heap) (Lα : List Loc) : Prop := vα = some (.long (own_smp a s0)) ∧ Fr n0 Lα ∧ hα = h0
set_option maxRecDepth 65536 in
set_option maxHeartbeats 40000000 in
theorem rm3 (l : Launch) (Z : State) (a0 : Array Value) (hw : ∀ d ∈ tables_1, d.before a0 Z = true) (ws : List Jvm.Cond) (a : Int64) (s0 : Int32) (h0 : Heap) (n0 : Nat) (Z0 : n0 ≤ h0.size) :
    MetFree l (⟨"com/example/block_motion_coder/blockmotioncoder/mpeg2/PackedSamplesMeanPinLaw", "sample", "(JI)J"⟩ : MethodName) (head1 (Jvm.Cond.code (⟨"com/example/block_motion_coder/blockmotioncoder/mpeg2/PackedSamplesMeanPinLaw", "sample", "(JI)J"⟩ : MethodName) method_2_code 3 (some .long) :: ws) ({ frames := 0, cells := 0, slots := 0, locals := 0 } : Room)) (fun aα U => aα = #[(.long a), (.int s0)] ∧ Z.Warmed39 U.vm ∧ U.heap = h0) (fun _ _ _ _ _ => True) (fun _ U oα U' => ∃ vα Lα, oα = .returned vα ∧ Q3 Z a s0 h0 n0 vα U'.heap Lα ∧ FrameEnd U oα U' Lα ({ frames := 0, cells := 0, slots := 0, locals := 0 } : Room).cells ({ frames := 0, cells := 0, slots := 0, locals := 0 } : Room).slots) := by
  refine MetFree.of_bodySF (plainFor_of_name pn_1) hisR ?_
  intro p e s m args below meth c s₁ Bd hml0 hP hK
  refine own_wrap ?_
  intro GL hGL
  obtain ⟨rfl, hZ, hh⟩ := hP
  have hx := Bd.exec
  have hby := Bd.bytes
  have hml : c.maxLocals = 3 := hml0
  have hown : s.vm.findClass "com/example/block_motion_coder/blockmotioncoder/mpeg2/PackedSamplesMeanPinLaw" = some m.cls := findClass_of_methodNamed Bd.named
  have hnm := (name_of_methodNamed Bd.named Bd.method).1
  have X0 : Stand p l e ({ frames := 0, cells := 0, slots := 0, locals := 0 } : Room) s m #[(.long a), (.int s0)] below meth c s₁ [] 0 0 := Stand.of_body Bd
  have e0 : s₁.heap = h0 := by rw [← hh, Bd.state]; rfl
  have N0 := Fr.nil n0
  have pre0 : ∀ τ, Steps p.tables e below (s₁.setTop (mkF m 0 #[.val (.long a), .second, .val (.int s0)] [])) τ → Steps p.tables e below (s₁.setTop (entryFrame m #[(.long a), (.int s0)] 3)) τ := fun τ κ => castTop (ef_3 m a s0) κ
  obtain ⟨G, hG, pre⟩ : ∃ G : State → Prop, (∀ τ, G τ → Steps p.tables e below (s₁.setTop (entryFrame m #[(.long a), (.int s0)] 3)) τ) ∧ ∀ τ, Steps p.tables e below (s₁.setTop (mkF m 0 #[.val (.long a), .second, .val (.int s0)] [])) τ → G τ := ⟨_, pre0, fun _ k => k⟩
  have K : Keep h0 h0 [] := Keep.refl h0 _
  have Zn := Z0
  have pre : ∀ τ, Steps p.tables e below (s₁.setTop (mkF m 7 #[.val (.long a), .second, .val (.int s0)] [(.long (((a.toUInt64 >>> (s0 &&& 0x3f).toInt64.toUInt64).toInt64) &&& (255 : Int64)))])) τ → G τ := fun τ κ => pre τ (by
    refine XS.lloadN X0.here hx rfl (hb hby d3_0) rfl ?_
    show Steps p.tables e below (s₁.setTop (mkF m 1 #[.val (.long a), .second, .val (.int s0)] [(.long a)])) τ
    refine XS.iloadN X0.here hx rfl (hb hby d3_1) rfl ?_
    show Steps p.tables e below (s₁.setTop (mkF m 2 #[.val (.long a), .second, .val (.int s0)] [(.int s0), (.long a)])) τ
    refine XS.lushr X0.here hx rfl (hb hby d3_2) rfl ?_
    show Steps p.tables e below (s₁.setTop (mkF m 3 #[.val (.long a), .second, .val (.int s0)] [(.long ((a.toUInt64 >>> (s0 &&& 0x3f).toInt64.toUInt64).toInt64))])) τ
    refine X0.ldc2Long hx hown (mvT hZ (hw _ (List.mem_of_getElem? (i := 13) rfl))) (g := (mkF m 3 #[.val (.long a), .second, .val (.int s0)] [(.long ((a.toUInt64 >>> (s0 &&& 0x3f).toInt64.toUInt64).toInt64))])) rfl (hb hby d3_3) _ ?_
    show Steps p.tables e below (s₁.setTop (mkF m 6 #[.val (.long a), .second, .val (.int s0)] [(.long (255 : Int64)), (.long ((a.toUInt64 >>> (s0 &&& 0x3f).toInt64.toUInt64).toInt64))])) τ
    refine XS.land X0.here hx rfl (hb hby d3_6) rfl ?_
    show Steps p.tables e below (s₁.setTop (mkF m 7 #[.val (.long a), .second, .val (.int s0)] [(.long (((a.toUInt64 >>> (s0 &&& 0x3f).toInt64.toUInt64).toInt64) &&& (255 : Int64)))])) τ
    exact κ)
  obtain ⟨fsα, hr, hrun, hended, hW, hsame⟩ := X0.leave (v := some (.long (((a.toUInt64 >>> (s0 &&& 0x3f).toInt64.toUInt64).toInt64) &&& (255 : Int64)))) (fun h => by rw [Bd.returns] at h; cases h)
  refine hGL ⟨_, _, hG _ (pre _ ?_), hrun, hended, _, _, rfl, ?_, ⟨_, rfl⟩, hW, hsame.mono (by decide) (by decide)⟩
  · exact retOut X0 hx Bd.returns rfl (Or.inr (Or.inl ⟨rfl, rfl, _, rfl⟩)) (hb hby d3_7) hr
  · show Q3 Z a s0 h0 n0 _ s₁.heap _
    rw [e0]
    refine ⟨?_, N0, rfl⟩
    unfold own_smp
    rfl
theorem d2_0 : decode method_3_code 0 = .ok (.lload_n 0, 1) := by decide +kernel
theorem d2_1 : decode method_3_code 1 = .ok (.iload 8, 2) := by decide +kernel
theorem d2_3 : decode method_3_code 3 = .ok (.invokestatic 9, 3) := by decide +kernel
theorem pd_0 : parseMethodDescriptor "(JI)J" = some ⟨[.long, .int], some .long⟩ := by decide +kernel
theorem d2_6 : decode method_3_code 6 = .ok (.lload_n 2, 1) := by decide +kernel
theorem d2_7 : decode method_3_code 7 = .ok (.iload 8, 2) := by decide +kernel
theorem d2_9 : decode method_3_code 9 = .ok (.invokestatic 9, 3) := by decide +kernel
theorem d2_12 : decode method_3_code 12 = .ok (.ladd, 1) := by decide +kernel
theorem d2_13 : decode method_3_code 13 = .ok (.lload 4, 2) := by decide +kernel
theorem d2_15 : decode method_3_code 15 = .ok (.iload 8, 2) := by decide +kernel
theorem d2_17 : decode method_3_code 17 = .ok (.invokestatic 9, 3) := by decide +kernel
theorem d2_20 : decode method_3_code 20 = .ok (.ladd, 1) := by decide +kernel
theorem d2_21 : decode method_3_code 21 = .ok (.lload 6, 2) := by decide +kernel
theorem d2_23 : decode method_3_code 23 = .ok (.iload 8, 2) := by decide +kernel
theorem d2_25 : decode method_3_code 25 = .ok (.invokestatic 9, 3) := by decide +kernel
theorem d2_28 : decode method_3_code 28 = .ok (.ladd, 1) := by decide +kernel
theorem d2_29 : decode method_3_code 29 = .ok (.ldc2_w 15, 3) := by decide +kernel
theorem d2_32 : decode method_3_code 32 = .ok (.ladd, 1) := by decide +kernel
theorem d2_33 : decode method_3_code 33 = .ok (.iconst 2, 1) := by decide +kernel
theorem d2_34 : decode method_3_code 34 = .ok (.lshr, 1) := by decide +kernel
theorem d2_35 : decode method_3_code 35 = .ok (.lstore 9, 2) := by decide +kernel
theorem d2_37 : decode method_3_code 37 = .ok (.lload 9, 2) := by decide +kernel
theorem d2_39 : decode method_3_code 39 = .ok (.iload 8, 2) := by decide +kernel
theorem d2_41 : decode method_3_code 41 = .ok (.lshl, 1) := by decide +kernel
theorem d2_42 : decode method_3_code 42 = .ok (.lreturn, 1) := by decide +kernel
theorem ef_2 (m : MethodId) (x0 : Int64) (x1 : Int64) (x2 : Int64) (x3 : Int64) (x4 : Int32) : entryFrame m #[(.long x0), (.long x1), (.long x2), (.long x3), (.int x4)] 11 = mkF m 0 #[.val (.long x0), .second, .val (.long x1), .second, .val (.long x2), .second, .val (.long x3), .second, .val (.int x4), .unset, .unset] [] := by first | (simp [entryFrame, mkF, argsToLocals, Value.category]; done) | rfl
def Q2 (Z : State) (a : Int64) (b : Int64) (c0 : Int64) (d : Int64) (s0 : Int32) (h0 : Heap) (n0 : Nat) (vα : Option Value) (hα : Heap) (Lα : List Loc) : Prop := vα = some (.long (own_lane a b c0 d s0)) ∧ Fr n0 Lα ∧ hα = h0
set_option maxRecDepth 65536 in
set_option maxHeartbeats 40000000 in
theorem rm2 (l : Launch) (Z : State) (a0 : Array Value) (hw : ∀ d ∈ tables_1, d.before a0 Z = true) (ws : List Jvm.Cond) (a : Int64) (b : Int64) (c0 : Int64) (d : Int64) (s0 : Int32) (h0 : Heap) (n0 : Nat) (Z0 : n0 ≤ h0.size) :
    MetFree l (⟨"com/example/block_motion_coder/blockmotioncoder/mpeg2/PackedSamplesMeanPinLaw", "lane", "(JJJJI)J"⟩ : MethodName) (head1 (Jvm.Cond.code (⟨"com/example/block_motion_coder/blockmotioncoder/mpeg2/PackedSamplesMeanPinLaw", "lane", "(JJJJI)J"⟩ : MethodName) method_3_code 11 (some .long) :: ws) ({ frames := 1, cells := 0, slots := 0, locals := 16 } : Room)) (fun aα U => aα = #[(.long a), (.long b), (.long c0), (.long d), (.int s0)] ∧ Z.Warmed39 U.vm ∧ U.heap = h0) (fun _ _ _ _ _ => True) (fun _ U oα U' => ∃ vα Lα, oα = .returned vα ∧ Q2 Z a b c0 d s0 h0 n0 vα U'.heap Lα ∧ FrameEnd U oα U' Lα ({ frames := 1, cells := 0, slots := 0, locals := 16 } : Room).cells ({ frames := 1, cells := 0, slots := 0, locals := 16 } : Room).slots) := by
  refine MetFree.of_bodySF (plainFor_of_name pn_1) hisR ?_
  intro p e s m args below meth c s₁ Bd hml0 hP hK
  refine own_wrap ?_
  intro GL hGL
  obtain ⟨rfl, hZ, hh⟩ := hP
  have hx := Bd.exec
  have hby := Bd.bytes
  have hml : c.maxLocals = 11 := hml0
  have hown : s.vm.findClass "com/example/block_motion_coder/blockmotioncoder/mpeg2/PackedSamplesMeanPinLaw" = some m.cls := findClass_of_methodNamed Bd.named
  have hnm := (name_of_methodNamed Bd.named Bd.method).1
  have X0 : Stand p l e ({ frames := 1, cells := 0, slots := 0, locals := 16 } : Room) s m #[(.long a), (.long b), (.long c0), (.long d), (.int s0)] below meth c s₁ [] 0 0 := Stand.of_body Bd
  have e0 : s₁.heap = h0 := by rw [← hh, Bd.state]; rfl
  have N0 := Fr.nil n0
  have pre0 : ∀ τ, Steps p.tables e below (s₁.setTop (mkF m 0 #[.val (.long a), .second, .val (.long b), .second, .val (.long c0), .second, .val (.long d), .second, .val (.int s0), .unset, .unset] [])) τ → Steps p.tables e below (s₁.setTop (entryFrame m #[(.long a), (.long b), (.long c0), (.long d), (.int s0)] 11)) τ := fun τ κ => castTop (ef_2 m a b c0 d s0) κ
  obtain ⟨G, hG, pre⟩ : ∃ G : State → Prop, (∀ τ, G τ → Steps p.tables e below (s₁.setTop (entryFrame m #[(.long a), (.long b), (.long c0), (.long d), (.int s0)] 11)) τ) ∧ ∀ τ, Steps p.tables e below (s₁.setTop (mkF m 0 #[.val (.long a), .second, .val (.long b), .second, .val (.long c0), .second, .val (.long d), .second, .val (.int s0), .unset, .unset] [])) τ → G τ := ⟨_, pre0, fun _ k => k⟩
  have K : Keep h0 h0 [] := Keep.refl h0 _
  have Zn := Z0
  have pre : ∀ τ, Steps p.tables e below (s₁.setTop (mkF m 3 #[.val (.long a), .second, .val (.long b), .second, .val (.long c0), .second, .val (.long d), .second, .val (.int s0), .unset, .unset] [(.int s0), (.long a)])) τ → G τ := fun τ κ => pre τ (by
    refine XS.lloadN X0.here hx rfl (hb hby d2_0) rfl ?_
    show Steps p.tables e below (s₁.setTop (mkF m 1 #[.val (.long a), .second, .val (.long b), .second, .val (.long c0), .second, .val (.long d), .second, .val (.int s0), .unset, .unset] [(.long a)])) τ
    refine XS.iload X0.here hx rfl (hb hby d2_1) rfl ?_
    show Steps p.tables e below (s₁.setTop (mkF m 3 #[.val (.long a), .second, .val (.long b), .second, .val (.long c0), .second, .val (.long d), .second, .val (.int s0), .unset, .unset] [(.int s0), (.long a)])) τ
    exact κ)
  obtain ⟨_, _, ⟨T1, Lx1, kx1, nx1⟩, -, X1, ⟨Lc1, hQ1, l1, y1, z1⟩, st1⟩ := Jvm.LawKit.callS X0 hx (y := (⟨"com/example/block_motion_coder/blockmotioncoder/mpeg2/PackedSamplesMeanPinLaw", "sample", "(JI)J"⟩ : MethodName)) hown (mvT hZ (hw _ (List.mem_of_getElem? (i := 10) rfl))) (mvT hZ (hw _ (List.mem_of_getElem? (i := 11) rfl))) (mvT hZ (hw _ (List.mem_of_getElem? (i := 8) rfl))) (mvT hZ (hw _ (List.mem_of_getElem? (i := 12) rfl))) (by decide) (backOf (W := 0) (rm3 l Z a0 hw [] a s0 h0 n0 Zn) hZ (hw _ (List.mem_of_getElem? (i := 12) rfl)) (hw _ (List.mem_of_getElem? (i := 8) rfl)) (by decide) (by decide)) (g := (mkF m 3 #[.val (.long a), .second, .val (.long b), .second, .val (.long c0), .second, .val (.long d), .second, .val (.int s0), .unset, .unset] [(.int s0), (.long a)])) rfl (by rw [hml]; rfl) (argsL := [(.long a), (.int s0)]) (rest := []) (lenOf pd_0 rfl) rfl (by show 2 * 0 + _ ≤ _; exact Nat.le_of_eq rfl) (hb hby d2_3) (fun _ _ => ⟨rfl, e0, (by decide : 0 + 0 ≤ _), (by decide : 0 + 0 ≤ _)⟩)
  dsimp only [Pt.U, Pt.locs, Pt.cells, Pt.slots] at X1 l1 y1 z1 st1 hQ1
  subst l1 y1 z1
  obtain ⟨rfl, Nq1, hs1⟩ := hQ1
  have NN := Fr.app N0 Nq1
  have pre : ∀ τ, Steps p.tables e below (T1.setTop (mkF m 6 #[.val (.long a), .second, .val (.long b), .second, .val (.long c0), .second, .val (.long d), .second, .val (.int s0), .unset, .unset] [(.long (own_smp a s0))])) τ → G τ := fun τ κ => pre τ (st1 τ κ)
  have pre : ∀ τ, Steps p.tables e below (T1.setTop (mkF m 9 #[.val (.long a), .second, .val (.long b), .second, .val (.long c0), .second, .val (.long d), .second, .val (.int s0), .unset, .unset] [(.int s0), (.long b), (.long (own_smp a s0))])) τ → G τ := fun τ κ => pre τ (by
    refine XS.lloadN X1.here hx rfl (hb hby d2_6) rfl ?_
    show Steps p.tables e below (T1.setTop (mkF m 7 #[.val (.long a), .second, .val (.long b), .second, .val (.long c0), .second, .val (.long d), .second, .val (.int s0), .unset, .unset] [(.long b), (.long (own_smp a s0))])) τ
    refine XS.iload X1.here hx rfl (hb hby d2_7) rfl ?_
    show Steps p.tables e below (T1.setTop (mkF m 9 #[.val (.long a), .second, .val (.long b), .second, .val (.long c0), .second, .val (.long d), .second, .val (.int s0), .unset, .unset] [(.int s0), (.long b), (.long (own_smp a s0))])) τ
    exact κ)
  obtain ⟨_, _, ⟨T2, Lx2, kx2, nx2⟩, -, X2, ⟨Lc2, hQ2, l2, y2, z2⟩, st2⟩ := Jvm.LawKit.callS X1 hx (y := (⟨"com/example/block_motion_coder/blockmotioncoder/mpeg2/PackedSamplesMeanPinLaw", "sample", "(JI)J"⟩ : MethodName)) hown (mvT hZ (hw _ (List.mem_of_getElem? (i := 10) rfl))) (mvT hZ (hw _ (List.mem_of_getElem? (i := 11) rfl))) (mvT hZ (hw _ (List.mem_of_getElem? (i := 8) rfl))) (mvT hZ (hw _ (List.mem_of_getElem? (i := 12) rfl))) (by decide) (backOf (W := 2) (rm3 l Z a0 hw [] b s0 h0 n0 Zn) hZ (hw _ (List.mem_of_getElem? (i := 12) rfl)) (hw _ (List.mem_of_getElem? (i := 8) rfl)) (by decide) (by decide)) (g := (mkF m 9 #[.val (.long a), .second, .val (.long b), .second, .val (.long c0), .second, .val (.long d), .second, .val (.int s0), .unset, .unset] [(.int s0), (.long b), (.long (own_smp a s0))])) rfl (by rw [hml]; rfl) (argsL := [(.long b), (.int s0)]) (rest := [(.long (own_smp a s0))]) (lenOf pd_0 rfl) rfl (by show 2 * 0 + _ ≤ _; exact Nat.le_of_eq rfl) (hb hby d2_9) (fun _ _ => ⟨rfl, hs1, (by decide : 0 + 0 ≤ _), (by decide : 0 + 0 ≤ _)⟩)
  dsimp only [Pt.U, Pt.locs, Pt.cells, Pt.slots] at X2 l2 y2 z2 st2 hQ2
  subst l2 y2 z2
  obtain ⟨rfl, Nq2, hs2⟩ := hQ2
  have NN := Fr.app NN Nq2
  have pre : ∀ τ, Steps p.tables e below (T2.setTop (mkF m 12 #[.val (.long a), .second, .val (.long b), .second, .val (.long c0), .second, .val (.long d), .second, .val (.int s0), .unset, .unset] [(.long (own_smp b s0)), (.long (own_smp a s0))])) τ → G τ := fun τ κ => pre τ (st2 τ κ)
  have pre : ∀ τ, Steps p.tables e below (T2.setTop (mkF m 17 #[.val (.long a), .second, .val (.long b), .second, .val (.long c0), .second, .val (.long d), .second, .val (.int s0), .unset, .unset] [(.int s0), (.long c0), (.long ((own_smp a s0) + (own_smp b s0)))])) τ → G τ := fun τ κ => pre τ (by
    refine XS.ladd X2.here hx rfl (hb hby d2_12) rfl ?_
    show Steps p.tables e below (T2.setTop (mkF m 13 #[.val (.long a), .second, .val (.long b), .second, .val (.long c0), .second, .val (.long d), .second, .val (.int s0), .unset, .unset] [(.long ((own_smp a s0) + (own_smp b s0)))])) τ
    refine XS.lload X2.here hx rfl (hb hby d2_13) rfl ?_
    show Steps p.tables e below (T2.setTop (mkF m 15 #[.val (.long a), .second, .val (.long b), .second, .val (.long c0), .second, .val (.long d), .second, .val (.int s0), .unset, .unset] [(.long c0), (.long ((own_smp a s0) + (own_smp b s0)))])) τ
    refine XS.iload X2.here hx rfl (hb hby d2_15) rfl ?_
    show Steps p.tables e below (T2.setTop (mkF m 17 #[.val (.long a), .second, .val (.long b), .second, .val (.long c0), .second, .val (.long d), .second, .val (.int s0), .unset, .unset] [(.int s0), (.long c0), (.long ((own_smp a s0) + (own_smp b s0)))])) τ
    exact κ)
  obtain ⟨_, _, ⟨T3, Lx3, kx3, nx3⟩, -, X3, ⟨Lc3, hQ3, l3, y3, z3⟩, st3⟩ := Jvm.LawKit.callS X2 hx (y := (⟨"com/example/block_motion_coder/blockmotioncoder/mpeg2/PackedSamplesMeanPinLaw", "sample", "(JI)J"⟩ : MethodName)) hown (mvT hZ (hw _ (List.mem_of_getElem? (i := 10) rfl))) (mvT hZ (hw _ (List.mem_of_getElem? (i := 11) rfl))) (mvT hZ (hw _ (List.mem_of_getElem? (i := 8) rfl))) (mvT hZ (hw _ (List.mem_of_getElem? (i := 12) rfl))) (by decide) (backOf (W := 2) (rm3 l Z a0 hw [] c0 s0 h0 n0 Zn) hZ (hw _ (List.mem_of_getElem? (i := 12) rfl)) (hw _ (List.mem_of_getElem? (i := 8) rfl)) (by decide) (by decide)) (g := (mkF m 17 #[.val (.long a), .second, .val (.long b), .second, .val (.long c0), .second, .val (.long d), .second, .val (.int s0), .unset, .unset] [(.int s0), (.long c0), (.long ((own_smp a s0) + (own_smp b s0)))])) rfl (by rw [hml]; rfl) (argsL := [(.long c0), (.int s0)]) (rest := [(.long ((own_smp a s0) + (own_smp b s0)))]) (lenOf pd_0 rfl) rfl (by show 2 * 0 + _ ≤ _; exact Nat.le_of_eq rfl) (hb hby d2_17) (fun _ _ => ⟨rfl, hs2, (by decide : 0 + 0 ≤ _), (by decide : 0 + 0 ≤ _)⟩)
  dsimp only [Pt.U, Pt.locs, Pt.cells, Pt.slots] at X3 l3 y3 z3 st3 hQ3
  subst l3 y3 z3
  obtain ⟨rfl, Nq3, hs3⟩ := hQ3
  have NN := Fr.app NN Nq3
  have pre : ∀ τ, Steps p.tables e below (T3.setTop (mkF m 20 #[.val (.long a), .second, .val (.long b), .second, .val (.long c0), .second, .val (.long d), .second, .val (.int s0), .unset, .unset] [(.long (own_smp c0 s0)), (.long ((own_smp a s0) + (own_smp b s0)))])) τ → G τ := fun τ κ => pre τ (st3 τ κ)
  have pre : ∀ τ, Steps p.tables e below (T3.setTop (mkF m 25 #[.val (.long a), .second, .val (.long b), .second, .val (.long c0), .second, .val (.long d), .second, .val (.int s0), .unset, .unset] [(.int s0), (.long d), (.long (((own_smp a s0) + (own_smp b s0)) + (own_smp c0 s0)))])) τ → G τ := fun τ κ => pre τ (by
    refine XS.ladd X3.here hx rfl (hb hby d2_20) rfl ?_
    show Steps p.tables e below (T3.setTop (mkF m 21 #[.val (.long a), .second, .val (.long b), .second, .val (.long c0), .second, .val (.long d), .second, .val (.int s0), .unset, .unset] [(.long (((own_smp a s0) + (own_smp b s0)) + (own_smp c0 s0)))])) τ
    refine XS.lload X3.here hx rfl (hb hby d2_21) rfl ?_
    show Steps p.tables e below (T3.setTop (mkF m 23 #[.val (.long a), .second, .val (.long b), .second, .val (.long c0), .second, .val (.long d), .second, .val (.int s0), .unset, .unset] [(.long d), (.long (((own_smp a s0) + (own_smp b s0)) + (own_smp c0 s0)))])) τ
    refine XS.iload X3.here hx rfl (hb hby d2_23) rfl ?_
    show Steps p.tables e below (T3.setTop (mkF m 25 #[.val (.long a), .second, .val (.long b), .second, .val (.long c0), .second, .val (.long d), .second, .val (.int s0), .unset, .unset] [(.int s0), (.long d), (.long (((own_smp a s0) + (own_smp b s0)) + (own_smp c0 s0)))])) τ
    exact κ)
  obtain ⟨_, _, ⟨T4, Lx4, kx4, nx4⟩, -, X4, ⟨Lc4, hQ4, l4, y4, z4⟩, st4⟩ := Jvm.LawKit.callS X3 hx (y := (⟨"com/example/block_motion_coder/blockmotioncoder/mpeg2/PackedSamplesMeanPinLaw", "sample", "(JI)J"⟩ : MethodName)) hown (mvT hZ (hw _ (List.mem_of_getElem? (i := 10) rfl))) (mvT hZ (hw _ (List.mem_of_getElem? (i := 11) rfl))) (mvT hZ (hw _ (List.mem_of_getElem? (i := 8) rfl))) (mvT hZ (hw _ (List.mem_of_getElem? (i := 12) rfl))) (by decide) (backOf (W := 2) (rm3 l Z a0 hw [] d s0 h0 n0 Zn) hZ (hw _ (List.mem_of_getElem? (i := 12) rfl)) (hw _ (List.mem_of_getElem? (i := 8) rfl)) (by decide) (by decide)) (g := (mkF m 25 #[.val (.long a), .second, .val (.long b), .second, .val (.long c0), .second, .val (.long d), .second, .val (.int s0), .unset, .unset] [(.int s0), (.long d), (.long (((own_smp a s0) + (own_smp b s0)) + (own_smp c0 s0)))])) rfl (by rw [hml]; rfl) (argsL := [(.long d), (.int s0)]) (rest := [(.long (((own_smp a s0) + (own_smp b s0)) + (own_smp c0 s0)))]) (lenOf pd_0 rfl) rfl (by show 2 * 0 + _ ≤ _; exact Nat.le_of_eq rfl) (hb hby d2_25) (fun _ _ => ⟨rfl, hs3, (by decide : 0 + 0 ≤ _), (by decide : 0 + 0 ≤ _)⟩)
  dsimp only [Pt.U, Pt.locs, Pt.cells, Pt.slots] at X4 l4 y4 z4 st4 hQ4
  subst l4 y4 z4
  obtain ⟨rfl, Nq4, hs4⟩ := hQ4
  have NN := Fr.app NN Nq4
  have pre : ∀ τ, Steps p.tables e below (T4.setTop (mkF m 28 #[.val (.long a), .second, .val (.long b), .second, .val (.long c0), .second, .val (.long d), .second, .val (.int s0), .unset, .unset] [(.long (own_smp d s0)), (.long (((own_smp a s0) + (own_smp b s0)) + (own_smp c0 s0)))])) τ → G τ := fun τ κ => pre τ (st4 τ κ)
  have pre : ∀ τ, Steps p.tables e below (T4.setTop (mkF m 42 #[.val (.long a), .second, .val (.long b), .second, .val (.long c0), .second, .val (.long d), .second, .val (.int s0), .val (.long ((((((own_smp a s0) + (own_smp b s0)) + (own_smp c0 s0)) + (own_smp d s0)) + (2 : Int64)) >>> ((2 : Int32) &&& 0x3f).toInt64)), .second] [(.long (((((((own_smp a s0) + (own_smp b s0)) + (own_smp c0 s0)) + (own_smp d s0)) + (2 : Int64)) >>> ((2 : Int32) &&& 0x3f).toInt64) <<< (s0 &&& 0x3f).toInt64))])) τ → G τ := fun τ κ => pre τ (by
    refine XS.ladd X4.here hx rfl (hb hby d2_28) rfl ?_
    show Steps p.tables e below (T4.setTop (mkF m 29 #[.val (.long a), .second, .val (.long b), .second, .val (.long c0), .second, .val (.long d), .second, .val (.int s0), .unset, .unset] [(.long ((((own_smp a s0) + (own_smp b s0)) + (own_smp c0 s0)) + (own_smp d s0)))])) τ
    refine X4.ldc2Long hx hown (mvT hZ (hw _ (List.mem_of_getElem? (i := 14) rfl))) (g := (mkF m 29 #[.val (.long a), .second, .val (.long b), .second, .val (.long c0), .second, .val (.long d), .second, .val (.int s0), .unset, .unset] [(.long ((((own_smp a s0) + (own_smp b s0)) + (own_smp c0 s0)) + (own_smp d s0)))])) rfl (hb hby d2_29) _ ?_
    show Steps p.tables e below (T4.setTop (mkF m 32 #[.val (.long a), .second, .val (.long b), .second, .val (.long c0), .second, .val (.long d), .second, .val (.int s0), .unset, .unset] [(.long (2 : Int64)), (.long ((((own_smp a s0) + (own_smp b s0)) + (own_smp c0 s0)) + (own_smp d s0)))])) τ
    refine XS.ladd X4.here hx rfl (hb hby d2_32) rfl ?_
    show Steps p.tables e below (T4.setTop (mkF m 33 #[.val (.long a), .second, .val (.long b), .second, .val (.long c0), .second, .val (.long d), .second, .val (.int s0), .unset, .unset] [(.long (((((own_smp a s0) + (own_smp b s0)) + (own_smp c0 s0)) + (own_smp d s0)) + (2 : Int64)))])) τ
    refine XS.iconst X4.here hx rfl (hb hby d2_33) ?_
    show Steps p.tables e below (T4.setTop (mkF m 34 #[.val (.long a), .second, .val (.long b), .second, .val (.long c0), .second, .val (.long d), .second, .val (.int s0), .unset, .unset] [(.int (2 : Int32)), (.long (((((own_smp a s0) + (own_smp b s0)) + (own_smp c0 s0)) + (own_smp d s0)) + (2 : Int64)))])) τ
    refine XS.lshr X4.here hx rfl (hb hby d2_34) rfl ?_
    show Steps p.tables e below (T4.setTop (mkF m 35 #[.val (.long a), .second, .val (.long b), .second, .val (.long c0), .second, .val (.long d), .second, .val (.int s0), .unset, .unset] [(.long ((((((own_smp a s0) + (own_smp b s0)) + (own_smp c0 s0)) + (own_smp d s0)) + (2 : Int64)) >>> ((2 : Int32) &&& 0x3f).toInt64))])) τ
    refine XS.lstore X4.here hx rfl (hb hby d2_35) rfl (l' := #[.val (.long a), .second, .val (.long b), .second, .val (.long c0), .second, .val (.long d), .second, .val (.int s0), .val (.long ((((((own_smp a s0) + (own_smp b s0)) + (own_smp c0 s0)) + (own_smp d s0)) + (2 : Int64)) >>> ((2 : Int32) &&& 0x3f).toInt64)), .second]) rfl ?_
    show Steps p.tables e below (T4.setTop (mkF m 37 #[.val (.long a), .second, .val (.long b), .second, .val (.long c0), .second, .val (.long d), .second, .val (.int s0), .val (.long ((((((own_smp a s0) + (own_smp b s0)) + (own_smp c0 s0)) + (own_smp d s0)) + (2 : Int64)) >>> ((2 : Int32) &&& 0x3f).toInt64)), .second] [])) τ
    refine XS.lload X4.here hx rfl (hb hby d2_37) rfl ?_
    show Steps p.tables e below (T4.setTop (mkF m 39 #[.val (.long a), .second, .val (.long b), .second, .val (.long c0), .second, .val (.long d), .second, .val (.int s0), .val (.long ((((((own_smp a s0) + (own_smp b s0)) + (own_smp c0 s0)) + (own_smp d s0)) + (2 : Int64)) >>> ((2 : Int32) &&& 0x3f).toInt64)), .second] [(.long ((((((own_smp a s0) + (own_smp b s0)) + (own_smp c0 s0)) + (own_smp d s0)) + (2 : Int64)) >>> ((2 : Int32) &&& 0x3f).toInt64))])) τ
    refine XS.iload X4.here hx rfl (hb hby d2_39) rfl ?_
    show Steps p.tables e below (T4.setTop (mkF m 41 #[.val (.long a), .second, .val (.long b), .second, .val (.long c0), .second, .val (.long d), .second, .val (.int s0), .val (.long ((((((own_smp a s0) + (own_smp b s0)) + (own_smp c0 s0)) + (own_smp d s0)) + (2 : Int64)) >>> ((2 : Int32) &&& 0x3f).toInt64)), .second] [(.int s0), (.long ((((((own_smp a s0) + (own_smp b s0)) + (own_smp c0 s0)) + (own_smp d s0)) + (2 : Int64)) >>> ((2 : Int32) &&& 0x3f).toInt64))])) τ
    refine XS.lshl X4.here hx rfl (hb hby d2_41) rfl ?_
    show Steps p.tables e below (T4.setTop (mkF m 42 #[.val (.long a), .second, .val (.long b), .second, .val (.long c0), .second, .val (.long d), .second, .val (.int s0), .val (.long ((((((own_smp a s0) + (own_smp b s0)) + (own_smp c0 s0)) + (own_smp d s0)) + (2 : Int64)) >>> ((2 : Int32) &&& 0x3f).toInt64)), .second] [(.long (((((((own_smp a s0) + (own_smp b s0)) + (own_smp c0 s0)) + (own_smp d s0)) + (2 : Int64)) >>> ((2 : Int32) &&& 0x3f).toInt64) <<< (s0 &&& 0x3f).toInt64))])) τ
    exact κ)
  obtain ⟨fsα, hr, hrun, hended, hW, hsame⟩ := X4.leave (v := some (.long (((((((own_smp a s0) + (own_smp b s0)) + (own_smp c0 s0)) + (own_smp d s0)) + (2 : Int64)) >>> ((2 : Int32) &&& 0x3f).toInt64) <<< (s0 &&& 0x3f).toInt64))) (fun h => by rw [Bd.returns] at h; cases h)
  refine hGL ⟨_, _, hG _ (pre _ ?_), hrun, hended, _, _, rfl, ?_, ⟨_, rfl⟩, hW, hsame.mono (by decide) (by decide)⟩
  · exact retOut X4 hx Bd.returns rfl (Or.inr (Or.inl ⟨rfl, rfl, _, rfl⟩)) (hb hby d2_42) hr
  · show Q2 Z a b c0 d s0 h0 n0 _ T4.heap _
    rw [hs4]
    refine ⟨?_, NN, rfl⟩
    unfold own_lane
    rfl
theorem pd_1 : parseMethodDescriptor "(JJJJ)J" = some ⟨[.long, .long, .long, .long], some .long⟩ := by decide +kernel
theorem pd_2 : parseMethodDescriptor "(JJJJI)J" = some ⟨[.long, .long, .long, .long, .int], some .long⟩ := by decide +kernel
theorem ef_0 (m : MethodId) (x0 : Int64) (x1 : Int64) (x2 : Int64) (x3 : Int64) : entryFrame m #[(.long x0), (.long x1), (.long x2), (.long x3)] maxLocals = mkF m 0 #[.val (.long x0), .second, .val (.long x1), .second, .val (.long x2), .second, .val (.long x3), .second, .unset, .unset, .unset, .unset] [] := by first | (simp [entryFrame, mkF, argsToLocals, Value.category, maxLocals]; done) | rfl
def Q0 (Z : State) (a : Int64) (b : Int64) (c0 : Int64) (d : Int64) (h0 : Heap) (n0 : Nat) (vα : Option Value) (hα : Heap) (Lα : List Loc) : Prop := vα = some (.int (1 : Int32)) ∧ Fr n0 Lα
set_option maxRecDepth 65536 in
set_option maxHeartbeats 40000000 in
theorem rm0 (l : Launch) (Z : State) (a0 : Array Value) (hw : ∀ d ∈ tables_1, d.before a0 Z = true) (ws : List Jvm.Cond) (a : Int64) (b : Int64) (c0 : Int64) (d : Int64) (h0 : Heap) (n0 : Nat) (Z0 : n0 ≤ h0.size) :
    MetFree l x (head1 (Jvm.Cond.code x code maxLocals ret :: ws) room_1) (fun aα U => aα = #[(.long a), (.long b), (.long c0), (.long d)] ∧ Z.Warmed39 U.vm ∧ U.heap = h0) (fun _ _ _ _ _ => True) (fun _ U oα U' => ∃ vα Lα, oα = .returned vα ∧ Q0 Z a b c0 d h0 n0 vα U'.heap Lα ∧ FrameEnd U oα U' Lα room_1.cells room_1.slots) := by
  refine MetFree.of_bodySF (plainFor_of_name pn_1) hisR ?_
  intro p e s m args below meth c s₁ Bd hml0 hP hK
  refine own_wrap ?_
  intro GL hGL
  obtain ⟨rfl, hZ, hh⟩ := hP
  have hx := Bd.exec
  have hby := Bd.bytes
  have hml : c.maxLocals = 12 := hml0
  have hown : s.vm.findClass "com/example/block_motion_coder/blockmotioncoder/mpeg2/PackedSamplesMeanPinLaw" = some m.cls := findClass_of_methodNamed Bd.named
  have hnm := (name_of_methodNamed Bd.named Bd.method).1
  have X0 : Stand p l e room_1 s m #[(.long a), (.long b), (.long c0), (.long d)] below meth c s₁ [] 0 0 := Stand.of_body Bd
  have e0 : s₁.heap = h0 := by rw [← hh, Bd.state]; rfl
  have N0 := Fr.nil n0
  have pre0 : ∀ τ, Steps p.tables e below (s₁.setTop (mkF m 0 #[.val (.long a), .second, .val (.long b), .second, .val (.long c0), .second, .val (.long d), .second, .unset, .unset, .unset, .unset] [])) τ → Steps p.tables e below (s₁.setTop (entryFrame m #[(.long a), (.long b), (.long c0), (.long d)] maxLocals)) τ := fun τ κ => castTop (ef_0 m a b c0 d) κ
  obtain ⟨G, hG, pre⟩ : ∃ G : State → Prop, (∀ τ, G τ → Steps p.tables e below (s₁.setTop (entryFrame m #[(.long a), (.long b), (.long c0), (.long d)] maxLocals)) τ) ∧ ∀ τ, Steps p.tables e below (s₁.setTop (mkF m 0 #[.val (.long a), .second, .val (.long b), .second, .val (.long c0), .second, .val (.long d), .second, .unset, .unset, .unset, .unset] [])) τ → G τ := ⟨_, pre0, fun _ k => k⟩
  have Zn := Z0
  have pre : ∀ τ, Steps p.tables e below (s₁.setTop (mkF m 6 #[.val (.long a), .second, .val (.long b), .second, .val (.long c0), .second, .val (.long d), .second, .unset, .unset, .unset, .unset] [(.long d), (.long c0), (.long b), (.long a)])) τ → G τ := fun τ κ => pre τ (by
    refine XS.lloadN X0.here hx rfl (hb hby at_0) rfl ?_
    show Steps p.tables e below (s₁.setTop (mkF m 1 #[.val (.long a), .second, .val (.long b), .second, .val (.long c0), .second, .val (.long d), .second, .unset, .unset, .unset, .unset] [(.long a)])) τ
    refine XS.lloadN X0.here hx rfl (hb hby at_1) rfl ?_
    show Steps p.tables e below (s₁.setTop (mkF m 2 #[.val (.long a), .second, .val (.long b), .second, .val (.long c0), .second, .val (.long d), .second, .unset, .unset, .unset, .unset] [(.long b), (.long a)])) τ
    refine XS.lload X0.here hx rfl (hb hby at_2) rfl ?_
    show Steps p.tables e below (s₁.setTop (mkF m 4 #[.val (.long a), .second, .val (.long b), .second, .val (.long c0), .second, .val (.long d), .second, .unset, .unset, .unset, .unset] [(.long c0), (.long b), (.long a)])) τ
    refine XS.lload X0.here hx rfl (hb hby at_4) rfl ?_
    show Steps p.tables e below (s₁.setTop (mkF m 6 #[.val (.long a), .second, .val (.long b), .second, .val (.long c0), .second, .val (.long d), .second, .unset, .unset, .unset, .unset] [(.long d), (.long c0), (.long b), (.long a)])) τ
    exact κ)
  obtain ⟨_, _, ⟨T1, Lx1, kx1, nx1⟩, -, X1, ⟨Lc1, hQ1, l1, y1, z1⟩, st1⟩ := Jvm.LawKit.callS X0 hx (y := (⟨"com/example/block_motion_coder/blockmotioncoder/mpeg2/PackedSamples", "mean", "(JJJJ)J"⟩ : MethodName)) hown (mvT hZ (hw _ (List.mem_of_getElem? (i := 0) rfl))) (mvT hZ (hw _ (List.mem_of_getElem? (i := 1) rfl))) (mvT hZ (hw _ (List.mem_of_getElem? (i := 2) rfl))) (mvT hZ (hw _ (List.mem_of_getElem? (i := 3) rfl))) (by decide) (backOf (W := 0) (rm1 l Z a0 hw [] a b c0 d h0 n0 Zn) hZ (hw _ (List.mem_of_getElem? (i := 3) rfl)) (hw _ (List.mem_of_getElem? (i := 2) rfl)) (by decide) (by decide)) (g := (mkF m 6 #[.val (.long a), .second, .val (.long b), .second, .val (.long c0), .second, .val (.long d), .second, .unset, .unset, .unset, .unset] [(.long d), (.long c0), (.long b), (.long a)])) rfl (by rw [hml]; rfl) (argsL := [(.long a), (.long b), (.long c0), (.long d)]) (rest := []) (lenOf pd_1 rfl) rfl (by show 2 * 0 + _ ≤ _; exact Nat.le_of_eq rfl) (hb hby at_6) (fun _ _ => ⟨rfl, e0, (by decide : 0 + 0 ≤ _), (by decide : 0 + 0 ≤ _)⟩)
  dsimp only [Pt.U, Pt.locs, Pt.cells, Pt.slots] at X1 l1 y1 z1 st1 hQ1
  subst l1 y1 z1
  obtain ⟨rfl, Nq1, hs1⟩ := hQ1
  have NN := Fr.app N0 Nq1
  have pre : ∀ τ, Steps p.tables e below (T1.setTop (mkF m 9 #[.val (.long a), .second, .val (.long b), .second, .val (.long c0), .second, .val (.long d), .second, .unset, .unset, .unset, .unset] [(.long (own_mean a b c0 d))])) τ → G τ := fun τ κ => pre τ (st1 τ κ)
  have pre : ∀ τ, Steps p.tables e below (T1.setTop (mkF m 18 #[.val (.long a), .second, .val (.long b), .second, .val (.long c0), .second, .val (.long d), .second, .val (.long (own_mean a b c0 d)), .second, .unset, .unset] [(.int (0 : Int32)), (.long d), (.long c0), (.long b), (.long a)])) τ → G τ := fun τ κ => pre τ (by
    refine XS.lstore X1.here hx rfl (hb hby at_9) rfl (l' := #[.val (.long a), .second, .val (.long b), .second, .val (.long c0), .second, .val (.long d), .second, .val (.long (own_mean a b c0 d)), .second, .unset, .unset]) rfl ?_
    show Steps p.tables e below (T1.setTop (mkF m 11 #[.val (.long a), .second, .val (.long b), .second, .val (.long c0), .second, .val (.long d), .second, .val (.long (own_mean a b c0 d)), .second, .unset, .unset] [])) τ
    refine XS.lloadN X1.here hx rfl (hb hby at_11) rfl ?_
    show Steps p.tables e below (T1.setTop (mkF m 12 #[.val (.long a), .second, .val (.long b), .second, .val (.long c0), .second, .val (.long d), .second, .val (.long (own_mean a b c0 d)), .second, .unset, .unset] [(.long a)])) τ
    refine XS.lloadN X1.here hx rfl (hb hby at_12) rfl ?_
    show Steps p.tables e below (T1.setTop (mkF m 13 #[.val (.long a), .second, .val (.long b), .second, .val (.long c0), .second, .val (.long d), .second, .val (.long (own_mean a b c0 d)), .second, .unset, .unset] [(.long b), (.long a)])) τ
    refine XS.lload X1.here hx rfl (hb hby at_13) rfl ?_
    show Steps p.tables e below (T1.setTop (mkF m 15 #[.val (.long a), .second, .val (.long b), .second, .val (.long c0), .second, .val (.long d), .second, .val (.long (own_mean a b c0 d)), .second, .unset, .unset] [(.long c0), (.long b), (.long a)])) τ
    refine XS.lload X1.here hx rfl (hb hby at_15) rfl ?_
    show Steps p.tables e below (T1.setTop (mkF m 17 #[.val (.long a), .second, .val (.long b), .second, .val (.long c0), .second, .val (.long d), .second, .val (.long (own_mean a b c0 d)), .second, .unset, .unset] [(.long d), (.long c0), (.long b), (.long a)])) τ
    refine XS.iconst X1.here hx rfl (hb hby at_17) ?_
    show Steps p.tables e below (T1.setTop (mkF m 18 #[.val (.long a), .second, .val (.long b), .second, .val (.long c0), .second, .val (.long d), .second, .val (.long (own_mean a b c0 d)), .second, .unset, .unset] [(.int (0 : Int32)), (.long d), (.long c0), (.long b), (.long a)])) τ
    exact κ)
  obtain ⟨_, _, ⟨T2, Lx2, kx2, nx2⟩, -, X2, ⟨Lc2, hQ2, l2, y2, z2⟩, st2⟩ := Jvm.LawKit.callS X1 hx (y := (⟨"com/example/block_motion_coder/blockmotioncoder/mpeg2/PackedSamplesMeanPinLaw", "lane", "(JJJJI)J"⟩ : MethodName)) hown (mvT hZ (hw _ (List.mem_of_getElem? (i := 6) rfl))) (mvT hZ (hw _ (List.mem_of_getElem? (i := 7) rfl))) (mvT hZ (hw _ (List.mem_of_getElem? (i := 8) rfl))) (mvT hZ (hw _ (List.mem_of_getElem? (i := 9) rfl))) (by decide) (backOf (W := 0) (rm2 l Z a0 hw [] a b c0 d (0 : Int32) h0 n0 Zn) hZ (hw _ (List.mem_of_getElem? (i := 9) rfl)) (hw _ (List.mem_of_getElem? (i := 8) rfl)) (by decide) (by decide)) (g := (mkF m 18 #[.val (.long a), .second, .val (.long b), .second, .val (.long c0), .second, .val (.long d), .second, .val (.long (own_mean a b c0 d)), .second, .unset, .unset] [(.int (0 : Int32)), (.long d), (.long c0), (.long b), (.long a)])) rfl (by rw [hml]; rfl) (argsL := [(.long a), (.long b), (.long c0), (.long d), (.int (0 : Int32))]) (rest := []) (lenOf pd_2 rfl) rfl (by show 2 * 0 + _ ≤ _; exact Nat.le_of_eq rfl) (hb hby at_18) (fun _ _ => ⟨rfl, hs1, (by decide : 0 + 0 ≤ _), (by decide : 0 + 0 ≤ _)⟩)
  dsimp only [Pt.U, Pt.locs, Pt.cells, Pt.slots] at X2 l2 y2 z2 st2 hQ2
  subst l2 y2 z2
  obtain ⟨rfl, Nq2, hs2⟩ := hQ2
  have NN := Fr.app NN Nq2
  have pre : ∀ τ, Steps p.tables e below (T2.setTop (mkF m 21 #[.val (.long a), .second, .val (.long b), .second, .val (.long c0), .second, .val (.long d), .second, .val (.long (own_mean a b c0 d)), .second, .unset, .unset] [(.long (own_lane a b c0 d (0 : Int32)))])) τ → G τ := fun τ κ => pre τ (st2 τ κ)
  have pre : ∀ τ, Steps p.tables e below (T2.setTop (mkF m 29 #[.val (.long a), .second, .val (.long b), .second, .val (.long c0), .second, .val (.long d), .second, .val (.long (own_mean a b c0 d)), .second, .unset, .unset] [(.int (8 : Int32)), (.long d), (.long c0), (.long b), (.long a), (.long (own_lane a b c0 d (0 : Int32)))])) τ → G τ := fun τ κ => pre τ (by
    refine XS.lloadN X2.here hx rfl (hb hby at_21) rfl ?_
    show Steps p.tables e below (T2.setTop (mkF m 22 #[.val (.long a), .second, .val (.long b), .second, .val (.long c0), .second, .val (.long d), .second, .val (.long (own_mean a b c0 d)), .second, .unset, .unset] [(.long a), (.long (own_lane a b c0 d (0 : Int32)))])) τ
    refine XS.lloadN X2.here hx rfl (hb hby at_22) rfl ?_
    show Steps p.tables e below (T2.setTop (mkF m 23 #[.val (.long a), .second, .val (.long b), .second, .val (.long c0), .second, .val (.long d), .second, .val (.long (own_mean a b c0 d)), .second, .unset, .unset] [(.long b), (.long a), (.long (own_lane a b c0 d (0 : Int32)))])) τ
    refine XS.lload X2.here hx rfl (hb hby at_23) rfl ?_
    show Steps p.tables e below (T2.setTop (mkF m 25 #[.val (.long a), .second, .val (.long b), .second, .val (.long c0), .second, .val (.long d), .second, .val (.long (own_mean a b c0 d)), .second, .unset, .unset] [(.long c0), (.long b), (.long a), (.long (own_lane a b c0 d (0 : Int32)))])) τ
    refine XS.lload X2.here hx rfl (hb hby at_25) rfl ?_
    show Steps p.tables e below (T2.setTop (mkF m 27 #[.val (.long a), .second, .val (.long b), .second, .val (.long c0), .second, .val (.long d), .second, .val (.long (own_mean a b c0 d)), .second, .unset, .unset] [(.long d), (.long c0), (.long b), (.long a), (.long (own_lane a b c0 d (0 : Int32)))])) τ
    refine XS.bipush X2.here hx rfl (hb hby at_27) ?_
    show Steps p.tables e below (T2.setTop (mkF m 29 #[.val (.long a), .second, .val (.long b), .second, .val (.long c0), .second, .val (.long d), .second, .val (.long (own_mean a b c0 d)), .second, .unset, .unset] [(.int (8 : Int32)), (.long d), (.long c0), (.long b), (.long a), (.long (own_lane a b c0 d (0 : Int32)))])) τ
    exact κ)
  obtain ⟨_, _, ⟨T3, Lx3, kx3, nx3⟩, -, X3, ⟨Lc3, hQ3, l3, y3, z3⟩, st3⟩ := Jvm.LawKit.callS X2 hx (y := (⟨"com/example/block_motion_coder/blockmotioncoder/mpeg2/PackedSamplesMeanPinLaw", "lane", "(JJJJI)J"⟩ : MethodName)) hown (mvT hZ (hw _ (List.mem_of_getElem? (i := 6) rfl))) (mvT hZ (hw _ (List.mem_of_getElem? (i := 7) rfl))) (mvT hZ (hw _ (List.mem_of_getElem? (i := 8) rfl))) (mvT hZ (hw _ (List.mem_of_getElem? (i := 9) rfl))) (by decide) (backOf (W := 2) (rm2 l Z a0 hw [] a b c0 d (8 : Int32) h0 n0 Zn) hZ (hw _ (List.mem_of_getElem? (i := 9) rfl)) (hw _ (List.mem_of_getElem? (i := 8) rfl)) (by decide) (by decide)) (g := (mkF m 29 #[.val (.long a), .second, .val (.long b), .second, .val (.long c0), .second, .val (.long d), .second, .val (.long (own_mean a b c0 d)), .second, .unset, .unset] [(.int (8 : Int32)), (.long d), (.long c0), (.long b), (.long a), (.long (own_lane a b c0 d (0 : Int32)))])) rfl (by rw [hml]; rfl) (argsL := [(.long a), (.long b), (.long c0), (.long d), (.int (8 : Int32))]) (rest := [(.long (own_lane a b c0 d (0 : Int32)))]) (lenOf pd_2 rfl) rfl (by show 2 * 0 + _ ≤ _; exact Nat.le_of_eq rfl) (hb hby at_29) (fun _ _ => ⟨rfl, hs2, (by decide : 0 + 0 ≤ _), (by decide : 0 + 0 ≤ _)⟩)
  dsimp only [Pt.U, Pt.locs, Pt.cells, Pt.slots] at X3 l3 y3 z3 st3 hQ3
  subst l3 y3 z3
  obtain ⟨rfl, Nq3, hs3⟩ := hQ3
  have NN := Fr.app NN Nq3
  have pre : ∀ τ, Steps p.tables e below (T3.setTop (mkF m 32 #[.val (.long a), .second, .val (.long b), .second, .val (.long c0), .second, .val (.long d), .second, .val (.long (own_mean a b c0 d)), .second, .unset, .unset] [(.long (own_lane a b c0 d (8 : Int32))), (.long (own_lane a b c0 d (0 : Int32)))])) τ → G τ := fun τ κ => pre τ (st3 τ κ)
  have pre : ∀ τ, Steps p.tables e below (T3.setTop (mkF m 41 #[.val (.long a), .second, .val (.long b), .second, .val (.long c0), .second, .val (.long d), .second, .val (.long (own_mean a b c0 d)), .second, .unset, .unset] [(.int (16 : Int32)), (.long d), (.long c0), (.long b), (.long a), (.long ((own_lane a b c0 d (0 : Int32)) ||| (own_lane a b c0 d (8 : Int32))))])) τ → G τ := fun τ κ => pre τ (by
    refine XS.lor X3.here hx rfl (hb hby at_32) rfl ?_
    show Steps p.tables e below (T3.setTop (mkF m 33 #[.val (.long a), .second, .val (.long b), .second, .val (.long c0), .second, .val (.long d), .second, .val (.long (own_mean a b c0 d)), .second, .unset, .unset] [(.long ((own_lane a b c0 d (0 : Int32)) ||| (own_lane a b c0 d (8 : Int32))))])) τ
    refine XS.lloadN X3.here hx rfl (hb hby at_33) rfl ?_
    show Steps p.tables e below (T3.setTop (mkF m 34 #[.val (.long a), .second, .val (.long b), .second, .val (.long c0), .second, .val (.long d), .second, .val (.long (own_mean a b c0 d)), .second, .unset, .unset] [(.long a), (.long ((own_lane a b c0 d (0 : Int32)) ||| (own_lane a b c0 d (8 : Int32))))])) τ
    refine XS.lloadN X3.here hx rfl (hb hby at_34) rfl ?_
    show Steps p.tables e below (T3.setTop (mkF m 35 #[.val (.long a), .second, .val (.long b), .second, .val (.long c0), .second, .val (.long d), .second, .val (.long (own_mean a b c0 d)), .second, .unset, .unset] [(.long b), (.long a), (.long ((own_lane a b c0 d (0 : Int32)) ||| (own_lane a b c0 d (8 : Int32))))])) τ
    refine XS.lload X3.here hx rfl (hb hby at_35) rfl ?_
    show Steps p.tables e below (T3.setTop (mkF m 37 #[.val (.long a), .second, .val (.long b), .second, .val (.long c0), .second, .val (.long d), .second, .val (.long (own_mean a b c0 d)), .second, .unset, .unset] [(.long c0), (.long b), (.long a), (.long ((own_lane a b c0 d (0 : Int32)) ||| (own_lane a b c0 d (8 : Int32))))])) τ
    refine XS.lload X3.here hx rfl (hb hby at_37) rfl ?_
    show Steps p.tables e below (T3.setTop (mkF m 39 #[.val (.long a), .second, .val (.long b), .second, .val (.long c0), .second, .val (.long d), .second, .val (.long (own_mean a b c0 d)), .second, .unset, .unset] [(.long d), (.long c0), (.long b), (.long a), (.long ((own_lane a b c0 d (0 : Int32)) ||| (own_lane a b c0 d (8 : Int32))))])) τ
    refine XS.bipush X3.here hx rfl (hb hby at_39) ?_
    show Steps p.tables e below (T3.setTop (mkF m 41 #[.val (.long a), .second, .val (.long b), .second, .val (.long c0), .second, .val (.long d), .second, .val (.long (own_mean a b c0 d)), .second, .unset, .unset] [(.int (16 : Int32)), (.long d), (.long c0), (.long b), (.long a), (.long ((own_lane a b c0 d (0 : Int32)) ||| (own_lane a b c0 d (8 : Int32))))])) τ
    exact κ)
  obtain ⟨_, _, ⟨T4, Lx4, kx4, nx4⟩, -, X4, ⟨Lc4, hQ4, l4, y4, z4⟩, st4⟩ := Jvm.LawKit.callS X3 hx (y := (⟨"com/example/block_motion_coder/blockmotioncoder/mpeg2/PackedSamplesMeanPinLaw", "lane", "(JJJJI)J"⟩ : MethodName)) hown (mvT hZ (hw _ (List.mem_of_getElem? (i := 6) rfl))) (mvT hZ (hw _ (List.mem_of_getElem? (i := 7) rfl))) (mvT hZ (hw _ (List.mem_of_getElem? (i := 8) rfl))) (mvT hZ (hw _ (List.mem_of_getElem? (i := 9) rfl))) (by decide) (backOf (W := 2) (rm2 l Z a0 hw [] a b c0 d (16 : Int32) h0 n0 Zn) hZ (hw _ (List.mem_of_getElem? (i := 9) rfl)) (hw _ (List.mem_of_getElem? (i := 8) rfl)) (by decide) (by decide)) (g := (mkF m 41 #[.val (.long a), .second, .val (.long b), .second, .val (.long c0), .second, .val (.long d), .second, .val (.long (own_mean a b c0 d)), .second, .unset, .unset] [(.int (16 : Int32)), (.long d), (.long c0), (.long b), (.long a), (.long ((own_lane a b c0 d (0 : Int32)) ||| (own_lane a b c0 d (8 : Int32))))])) rfl (by rw [hml]; rfl) (argsL := [(.long a), (.long b), (.long c0), (.long d), (.int (16 : Int32))]) (rest := [(.long ((own_lane a b c0 d (0 : Int32)) ||| (own_lane a b c0 d (8 : Int32))))]) (lenOf pd_2 rfl) rfl (by show 2 * 0 + _ ≤ _; exact Nat.le_of_eq rfl) (hb hby at_41) (fun _ _ => ⟨rfl, hs3, (by decide : 0 + 0 ≤ _), (by decide : 0 + 0 ≤ _)⟩)
  dsimp only [Pt.U, Pt.locs, Pt.cells, Pt.slots] at X4 l4 y4 z4 st4 hQ4
  subst l4 y4 z4
  obtain ⟨rfl, Nq4, hs4⟩ := hQ4
  have NN := Fr.app NN Nq4
  have pre : ∀ τ, Steps p.tables e below (T4.setTop (mkF m 44 #[.val (.long a), .second, .val (.long b), .second, .val (.long c0), .second, .val (.long d), .second, .val (.long (own_mean a b c0 d)), .second, .unset, .unset] [(.long (own_lane a b c0 d (16 : Int32))), (.long ((own_lane a b c0 d (0 : Int32)) ||| (own_lane a b c0 d (8 : Int32))))])) τ → G τ := fun τ κ => pre τ (st4 τ κ)
  have pre : ∀ τ, Steps p.tables e below (T4.setTop (mkF m 53 #[.val (.long a), .second, .val (.long b), .second, .val (.long c0), .second, .val (.long d), .second, .val (.long (own_mean a b c0 d)), .second, .unset, .unset] [(.int (24 : Int32)), (.long d), (.long c0), (.long b), (.long a), (.long (((own_lane a b c0 d (0 : Int32)) ||| (own_lane a b c0 d (8 : Int32))) ||| (own_lane a b c0 d (16 : Int32))))])) τ → G τ := fun τ κ => pre τ (by
    refine XS.lor X4.here hx rfl (hb hby at_44) rfl ?_
    show Steps p.tables e below (T4.setTop (mkF m 45 #[.val (.long a), .second, .val (.long b), .second, .val (.long c0), .second, .val (.long d), .second, .val (.long (own_mean a b c0 d)), .second, .unset, .unset] [(.long (((own_lane a b c0 d (0 : Int32)) ||| (own_lane a b c0 d (8 : Int32))) ||| (own_lane a b c0 d (16 : Int32))))])) τ
    refine XS.lloadN X4.here hx rfl (hb hby at_45) rfl ?_
    show Steps p.tables e below (T4.setTop (mkF m 46 #[.val (.long a), .second, .val (.long b), .second, .val (.long c0), .second, .val (.long d), .second, .val (.long (own_mean a b c0 d)), .second, .unset, .unset] [(.long a), (.long (((own_lane a b c0 d (0 : Int32)) ||| (own_lane a b c0 d (8 : Int32))) ||| (own_lane a b c0 d (16 : Int32))))])) τ
    refine XS.lloadN X4.here hx rfl (hb hby at_46) rfl ?_
    show Steps p.tables e below (T4.setTop (mkF m 47 #[.val (.long a), .second, .val (.long b), .second, .val (.long c0), .second, .val (.long d), .second, .val (.long (own_mean a b c0 d)), .second, .unset, .unset] [(.long b), (.long a), (.long (((own_lane a b c0 d (0 : Int32)) ||| (own_lane a b c0 d (8 : Int32))) ||| (own_lane a b c0 d (16 : Int32))))])) τ
    refine XS.lload X4.here hx rfl (hb hby at_47) rfl ?_
    show Steps p.tables e below (T4.setTop (mkF m 49 #[.val (.long a), .second, .val (.long b), .second, .val (.long c0), .second, .val (.long d), .second, .val (.long (own_mean a b c0 d)), .second, .unset, .unset] [(.long c0), (.long b), (.long a), (.long (((own_lane a b c0 d (0 : Int32)) ||| (own_lane a b c0 d (8 : Int32))) ||| (own_lane a b c0 d (16 : Int32))))])) τ
    refine XS.lload X4.here hx rfl (hb hby at_49) rfl ?_
    show Steps p.tables e below (T4.setTop (mkF m 51 #[.val (.long a), .second, .val (.long b), .second, .val (.long c0), .second, .val (.long d), .second, .val (.long (own_mean a b c0 d)), .second, .unset, .unset] [(.long d), (.long c0), (.long b), (.long a), (.long (((own_lane a b c0 d (0 : Int32)) ||| (own_lane a b c0 d (8 : Int32))) ||| (own_lane a b c0 d (16 : Int32))))])) τ
    refine XS.bipush X4.here hx rfl (hb hby at_51) ?_
    show Steps p.tables e below (T4.setTop (mkF m 53 #[.val (.long a), .second, .val (.long b), .second, .val (.long c0), .second, .val (.long d), .second, .val (.long (own_mean a b c0 d)), .second, .unset, .unset] [(.int (24 : Int32)), (.long d), (.long c0), (.long b), (.long a), (.long (((own_lane a b c0 d (0 : Int32)) ||| (own_lane a b c0 d (8 : Int32))) ||| (own_lane a b c0 d (16 : Int32))))])) τ
    exact κ)
  obtain ⟨_, _, ⟨T5, Lx5, kx5, nx5⟩, -, X5, ⟨Lc5, hQ5, l5, y5, z5⟩, st5⟩ := Jvm.LawKit.callS X4 hx (y := (⟨"com/example/block_motion_coder/blockmotioncoder/mpeg2/PackedSamplesMeanPinLaw", "lane", "(JJJJI)J"⟩ : MethodName)) hown (mvT hZ (hw _ (List.mem_of_getElem? (i := 6) rfl))) (mvT hZ (hw _ (List.mem_of_getElem? (i := 7) rfl))) (mvT hZ (hw _ (List.mem_of_getElem? (i := 8) rfl))) (mvT hZ (hw _ (List.mem_of_getElem? (i := 9) rfl))) (by decide) (backOf (W := 2) (rm2 l Z a0 hw [] a b c0 d (24 : Int32) h0 n0 Zn) hZ (hw _ (List.mem_of_getElem? (i := 9) rfl)) (hw _ (List.mem_of_getElem? (i := 8) rfl)) (by decide) (by decide)) (g := (mkF m 53 #[.val (.long a), .second, .val (.long b), .second, .val (.long c0), .second, .val (.long d), .second, .val (.long (own_mean a b c0 d)), .second, .unset, .unset] [(.int (24 : Int32)), (.long d), (.long c0), (.long b), (.long a), (.long (((own_lane a b c0 d (0 : Int32)) ||| (own_lane a b c0 d (8 : Int32))) ||| (own_lane a b c0 d (16 : Int32))))])) rfl (by rw [hml]; rfl) (argsL := [(.long a), (.long b), (.long c0), (.long d), (.int (24 : Int32))]) (rest := [(.long (((own_lane a b c0 d (0 : Int32)) ||| (own_lane a b c0 d (8 : Int32))) ||| (own_lane a b c0 d (16 : Int32))))]) (lenOf pd_2 rfl) rfl (by show 2 * 0 + _ ≤ _; exact Nat.le_of_eq rfl) (hb hby at_53) (fun _ _ => ⟨rfl, hs4, (by decide : 0 + 0 ≤ _), (by decide : 0 + 0 ≤ _)⟩)
  dsimp only [Pt.U, Pt.locs, Pt.cells, Pt.slots] at X5 l5 y5 z5 st5 hQ5
  subst l5 y5 z5
  obtain ⟨rfl, Nq5, hs5⟩ := hQ5
  have NN := Fr.app NN Nq5
  have pre : ∀ τ, Steps p.tables e below (T5.setTop (mkF m 56 #[.val (.long a), .second, .val (.long b), .second, .val (.long c0), .second, .val (.long d), .second, .val (.long (own_mean a b c0 d)), .second, .unset, .unset] [(.long (own_lane a b c0 d (24 : Int32))), (.long (((own_lane a b c0 d (0 : Int32)) ||| (own_lane a b c0 d (8 : Int32))) ||| (own_lane a b c0 d (16 : Int32))))])) τ → G τ := fun τ κ => pre τ (st5 τ κ)
  have pre : ∀ τ, Steps p.tables e below (T5.setTop (mkF m 65 #[.val (.long a), .second, .val (.long b), .second, .val (.long c0), .second, .val (.long d), .second, .val (.long (own_mean a b c0 d)), .second, .unset, .unset] [(.int (32 : Int32)), (.long d), (.long c0), (.long b), (.long a), (.long ((((own_lane a b c0 d (0 : Int32)) ||| (own_lane a b c0 d (8 : Int32))) ||| (own_lane a b c0 d (16 : Int32))) ||| (own_lane a b c0 d (24 : Int32))))])) τ → G τ := fun τ κ => pre τ (by
    refine XS.lor X5.here hx rfl (hb hby at_56) rfl ?_
    show Steps p.tables e below (T5.setTop (mkF m 57 #[.val (.long a), .second, .val (.long b), .second, .val (.long c0), .second, .val (.long d), .second, .val (.long (own_mean a b c0 d)), .second, .unset, .unset] [(.long ((((own_lane a b c0 d (0 : Int32)) ||| (own_lane a b c0 d (8 : Int32))) ||| (own_lane a b c0 d (16 : Int32))) ||| (own_lane a b c0 d (24 : Int32))))])) τ
    refine XS.lloadN X5.here hx rfl (hb hby at_57) rfl ?_
    show Steps p.tables e below (T5.setTop (mkF m 58 #[.val (.long a), .second, .val (.long b), .second, .val (.long c0), .second, .val (.long d), .second, .val (.long (own_mean a b c0 d)), .second, .unset, .unset] [(.long a), (.long ((((own_lane a b c0 d (0 : Int32)) ||| (own_lane a b c0 d (8 : Int32))) ||| (own_lane a b c0 d (16 : Int32))) ||| (own_lane a b c0 d (24 : Int32))))])) τ
    refine XS.lloadN X5.here hx rfl (hb hby at_58) rfl ?_
    show Steps p.tables e below (T5.setTop (mkF m 59 #[.val (.long a), .second, .val (.long b), .second, .val (.long c0), .second, .val (.long d), .second, .val (.long (own_mean a b c0 d)), .second, .unset, .unset] [(.long b), (.long a), (.long ((((own_lane a b c0 d (0 : Int32)) ||| (own_lane a b c0 d (8 : Int32))) ||| (own_lane a b c0 d (16 : Int32))) ||| (own_lane a b c0 d (24 : Int32))))])) τ
    refine XS.lload X5.here hx rfl (hb hby at_59) rfl ?_
    show Steps p.tables e below (T5.setTop (mkF m 61 #[.val (.long a), .second, .val (.long b), .second, .val (.long c0), .second, .val (.long d), .second, .val (.long (own_mean a b c0 d)), .second, .unset, .unset] [(.long c0), (.long b), (.long a), (.long ((((own_lane a b c0 d (0 : Int32)) ||| (own_lane a b c0 d (8 : Int32))) ||| (own_lane a b c0 d (16 : Int32))) ||| (own_lane a b c0 d (24 : Int32))))])) τ
    refine XS.lload X5.here hx rfl (hb hby at_61) rfl ?_
    show Steps p.tables e below (T5.setTop (mkF m 63 #[.val (.long a), .second, .val (.long b), .second, .val (.long c0), .second, .val (.long d), .second, .val (.long (own_mean a b c0 d)), .second, .unset, .unset] [(.long d), (.long c0), (.long b), (.long a), (.long ((((own_lane a b c0 d (0 : Int32)) ||| (own_lane a b c0 d (8 : Int32))) ||| (own_lane a b c0 d (16 : Int32))) ||| (own_lane a b c0 d (24 : Int32))))])) τ
    refine XS.bipush X5.here hx rfl (hb hby at_63) ?_
    show Steps p.tables e below (T5.setTop (mkF m 65 #[.val (.long a), .second, .val (.long b), .second, .val (.long c0), .second, .val (.long d), .second, .val (.long (own_mean a b c0 d)), .second, .unset, .unset] [(.int (32 : Int32)), (.long d), (.long c0), (.long b), (.long a), (.long ((((own_lane a b c0 d (0 : Int32)) ||| (own_lane a b c0 d (8 : Int32))) ||| (own_lane a b c0 d (16 : Int32))) ||| (own_lane a b c0 d (24 : Int32))))])) τ
    exact κ)
  obtain ⟨_, _, ⟨T6, Lx6, kx6, nx6⟩, -, X6, ⟨Lc6, hQ6, l6, y6, z6⟩, st6⟩ := Jvm.LawKit.callS X5 hx (y := (⟨"com/example/block_motion_coder/blockmotioncoder/mpeg2/PackedSamplesMeanPinLaw", "lane", "(JJJJI)J"⟩ : MethodName)) hown (mvT hZ (hw _ (List.mem_of_getElem? (i := 6) rfl))) (mvT hZ (hw _ (List.mem_of_getElem? (i := 7) rfl))) (mvT hZ (hw _ (List.mem_of_getElem? (i := 8) rfl))) (mvT hZ (hw _ (List.mem_of_getElem? (i := 9) rfl))) (by decide) (backOf (W := 2) (rm2 l Z a0 hw [] a b c0 d (32 : Int32) h0 n0 Zn) hZ (hw _ (List.mem_of_getElem? (i := 9) rfl)) (hw _ (List.mem_of_getElem? (i := 8) rfl)) (by decide) (by decide)) (g := (mkF m 65 #[.val (.long a), .second, .val (.long b), .second, .val (.long c0), .second, .val (.long d), .second, .val (.long (own_mean a b c0 d)), .second, .unset, .unset] [(.int (32 : Int32)), (.long d), (.long c0), (.long b), (.long a), (.long ((((own_lane a b c0 d (0 : Int32)) ||| (own_lane a b c0 d (8 : Int32))) ||| (own_lane a b c0 d (16 : Int32))) ||| (own_lane a b c0 d (24 : Int32))))])) rfl (by rw [hml]; rfl) (argsL := [(.long a), (.long b), (.long c0), (.long d), (.int (32 : Int32))]) (rest := [(.long ((((own_lane a b c0 d (0 : Int32)) ||| (own_lane a b c0 d (8 : Int32))) ||| (own_lane a b c0 d (16 : Int32))) ||| (own_lane a b c0 d (24 : Int32))))]) (lenOf pd_2 rfl) rfl (by show 2 * 0 + _ ≤ _; exact Nat.le_of_eq rfl) (hb hby at_65) (fun _ _ => ⟨rfl, hs5, (by decide : 0 + 0 ≤ _), (by decide : 0 + 0 ≤ _)⟩)
  dsimp only [Pt.U, Pt.locs, Pt.cells, Pt.slots] at X6 l6 y6 z6 st6 hQ6
  subst l6 y6 z6
  obtain ⟨rfl, Nq6, hs6⟩ := hQ6
  have NN := Fr.app NN Nq6
  have pre : ∀ τ, Steps p.tables e below (T6.setTop (mkF m 68 #[.val (.long a), .second, .val (.long b), .second, .val (.long c0), .second, .val (.long d), .second, .val (.long (own_mean a b c0 d)), .second, .unset, .unset] [(.long (own_lane a b c0 d (32 : Int32))), (.long ((((own_lane a b c0 d (0 : Int32)) ||| (own_lane a b c0 d (8 : Int32))) ||| (own_lane a b c0 d (16 : Int32))) ||| (own_lane a b c0 d (24 : Int32))))])) τ → G τ := fun τ κ => pre τ (st6 τ κ)
  have pre : ∀ τ, Steps p.tables e below (T6.setTop (mkF m 77 #[.val (.long a), .second, .val (.long b), .second, .val (.long c0), .second, .val (.long d), .second, .val (.long (own_mean a b c0 d)), .second, .unset, .unset] [(.int (40 : Int32)), (.long d), (.long c0), (.long b), (.long a), (.long (((((own_lane a b c0 d (0 : Int32)) ||| (own_lane a b c0 d (8 : Int32))) ||| (own_lane a b c0 d (16 : Int32))) ||| (own_lane a b c0 d (24 : Int32))) ||| (own_lane a b c0 d (32 : Int32))))])) τ → G τ := fun τ κ => pre τ (by
    refine XS.lor X6.here hx rfl (hb hby at_68) rfl ?_
    show Steps p.tables e below (T6.setTop (mkF m 69 #[.val (.long a), .second, .val (.long b), .second, .val (.long c0), .second, .val (.long d), .second, .val (.long (own_mean a b c0 d)), .second, .unset, .unset] [(.long (((((own_lane a b c0 d (0 : Int32)) ||| (own_lane a b c0 d (8 : Int32))) ||| (own_lane a b c0 d (16 : Int32))) ||| (own_lane a b c0 d (24 : Int32))) ||| (own_lane a b c0 d (32 : Int32))))])) τ
    refine XS.lloadN X6.here hx rfl (hb hby at_69) rfl ?_
    show Steps p.tables e below (T6.setTop (mkF m 70 #[.val (.long a), .second, .val (.long b), .second, .val (.long c0), .second, .val (.long d), .second, .val (.long (own_mean a b c0 d)), .second, .unset, .unset] [(.long a), (.long (((((own_lane a b c0 d (0 : Int32)) ||| (own_lane a b c0 d (8 : Int32))) ||| (own_lane a b c0 d (16 : Int32))) ||| (own_lane a b c0 d (24 : Int32))) ||| (own_lane a b c0 d (32 : Int32))))])) τ
    refine XS.lloadN X6.here hx rfl (hb hby at_70) rfl ?_
    show Steps p.tables e below (T6.setTop (mkF m 71 #[.val (.long a), .second, .val (.long b), .second, .val (.long c0), .second, .val (.long d), .second, .val (.long (own_mean a b c0 d)), .second, .unset, .unset] [(.long b), (.long a), (.long (((((own_lane a b c0 d (0 : Int32)) ||| (own_lane a b c0 d (8 : Int32))) ||| (own_lane a b c0 d (16 : Int32))) ||| (own_lane a b c0 d (24 : Int32))) ||| (own_lane a b c0 d (32 : Int32))))])) τ
    refine XS.lload X6.here hx rfl (hb hby at_71) rfl ?_
    show Steps p.tables e below (T6.setTop (mkF m 73 #[.val (.long a), .second, .val (.long b), .second, .val (.long c0), .second, .val (.long d), .second, .val (.long (own_mean a b c0 d)), .second, .unset, .unset] [(.long c0), (.long b), (.long a), (.long (((((own_lane a b c0 d (0 : Int32)) ||| (own_lane a b c0 d (8 : Int32))) ||| (own_lane a b c0 d (16 : Int32))) ||| (own_lane a b c0 d (24 : Int32))) ||| (own_lane a b c0 d (32 : Int32))))])) τ
    refine XS.lload X6.here hx rfl (hb hby at_73) rfl ?_
    show Steps p.tables e below (T6.setTop (mkF m 75 #[.val (.long a), .second, .val (.long b), .second, .val (.long c0), .second, .val (.long d), .second, .val (.long (own_mean a b c0 d)), .second, .unset, .unset] [(.long d), (.long c0), (.long b), (.long a), (.long (((((own_lane a b c0 d (0 : Int32)) ||| (own_lane a b c0 d (8 : Int32))) ||| (own_lane a b c0 d (16 : Int32))) ||| (own_lane a b c0 d (24 : Int32))) ||| (own_lane a b c0 d (32 : Int32))))])) τ
    refine XS.bipush X6.here hx rfl (hb hby at_75) ?_
    show Steps p.tables e below (T6.setTop (mkF m 77 #[.val (.long a), .second, .val (.long b), .second, .val (.long c0), .second, .val (.long d), .second, .val (.long (own_mean a b c0 d)), .second, .unset, .unset] [(.int (40 : Int32)), (.long d), (.long c0), (.long b), (.long a), (.long (((((own_lane a b c0 d (0 : Int32)) ||| (own_lane a b c0 d (8 : Int32))) ||| (own_lane a b c0 d (16 : Int32))) ||| (own_lane a b c0 d (24 : Int32))) ||| (own_lane a b c0 d (32 : Int32))))])) τ
    exact κ)
  obtain ⟨_, _, ⟨T7, Lx7, kx7, nx7⟩, -, X7, ⟨Lc7, hQ7, l7, y7, z7⟩, st7⟩ := Jvm.LawKit.callS X6 hx (y := (⟨"com/example/block_motion_coder/blockmotioncoder/mpeg2/PackedSamplesMeanPinLaw", "lane", "(JJJJI)J"⟩ : MethodName)) hown (mvT hZ (hw _ (List.mem_of_getElem? (i := 6) rfl))) (mvT hZ (hw _ (List.mem_of_getElem? (i := 7) rfl))) (mvT hZ (hw _ (List.mem_of_getElem? (i := 8) rfl))) (mvT hZ (hw _ (List.mem_of_getElem? (i := 9) rfl))) (by decide) (backOf (W := 2) (rm2 l Z a0 hw [] a b c0 d (40 : Int32) h0 n0 Zn) hZ (hw _ (List.mem_of_getElem? (i := 9) rfl)) (hw _ (List.mem_of_getElem? (i := 8) rfl)) (by decide) (by decide)) (g := (mkF m 77 #[.val (.long a), .second, .val (.long b), .second, .val (.long c0), .second, .val (.long d), .second, .val (.long (own_mean a b c0 d)), .second, .unset, .unset] [(.int (40 : Int32)), (.long d), (.long c0), (.long b), (.long a), (.long (((((own_lane a b c0 d (0 : Int32)) ||| (own_lane a b c0 d (8 : Int32))) ||| (own_lane a b c0 d (16 : Int32))) ||| (own_lane a b c0 d (24 : Int32))) ||| (own_lane a b c0 d (32 : Int32))))])) rfl (by rw [hml]; rfl) (argsL := [(.long a), (.long b), (.long c0), (.long d), (.int (40 : Int32))]) (rest := [(.long (((((own_lane a b c0 d (0 : Int32)) ||| (own_lane a b c0 d (8 : Int32))) ||| (own_lane a b c0 d (16 : Int32))) ||| (own_lane a b c0 d (24 : Int32))) ||| (own_lane a b c0 d (32 : Int32))))]) (lenOf pd_2 rfl) rfl (by show 2 * 0 + _ ≤ _; exact Nat.le_of_eq rfl) (hb hby at_77) (fun _ _ => ⟨rfl, hs6, (by decide : 0 + 0 ≤ _), (by decide : 0 + 0 ≤ _)⟩)
  dsimp only [Pt.U, Pt.locs, Pt.cells, Pt.slots] at X7 l7 y7 z7 st7 hQ7
  subst l7 y7 z7
  obtain ⟨rfl, Nq7, hs7⟩ := hQ7
  have NN := Fr.app NN Nq7
  have pre : ∀ τ, Steps p.tables e below (T7.setTop (mkF m 80 #[.val (.long a), .second, .val (.long b), .second, .val (.long c0), .second, .val (.long d), .second, .val (.long (own_mean a b c0 d)), .second, .unset, .unset] [(.long (own_lane a b c0 d (40 : Int32))), (.long (((((own_lane a b c0 d (0 : Int32)) ||| (own_lane a b c0 d (8 : Int32))) ||| (own_lane a b c0 d (16 : Int32))) ||| (own_lane a b c0 d (24 : Int32))) ||| (own_lane a b c0 d (32 : Int32))))])) τ → G τ := fun τ κ => pre τ (st7 τ κ)
  have pre : ∀ τ, Steps p.tables e below (T7.setTop (mkF m 89 #[.val (.long a), .second, .val (.long b), .second, .val (.long c0), .second, .val (.long d), .second, .val (.long (own_mean a b c0 d)), .second, .unset, .unset] [(.int (48 : Int32)), (.long d), (.long c0), (.long b), (.long a), (.long ((((((own_lane a b c0 d (0 : Int32)) ||| (own_lane a b c0 d (8 : Int32))) ||| (own_lane a b c0 d (16 : Int32))) ||| (own_lane a b c0 d (24 : Int32))) ||| (own_lane a b c0 d (32 : Int32))) ||| (own_lane a b c0 d (40 : Int32))))])) τ → G τ := fun τ κ => pre τ (by
    refine XS.lor X7.here hx rfl (hb hby at_80) rfl ?_
    show Steps p.tables e below (T7.setTop (mkF m 81 #[.val (.long a), .second, .val (.long b), .second, .val (.long c0), .second, .val (.long d), .second, .val (.long (own_mean a b c0 d)), .second, .unset, .unset] [(.long ((((((own_lane a b c0 d (0 : Int32)) ||| (own_lane a b c0 d (8 : Int32))) ||| (own_lane a b c0 d (16 : Int32))) ||| (own_lane a b c0 d (24 : Int32))) ||| (own_lane a b c0 d (32 : Int32))) ||| (own_lane a b c0 d (40 : Int32))))])) τ
    refine XS.lloadN X7.here hx rfl (hb hby at_81) rfl ?_
    show Steps p.tables e below (T7.setTop (mkF m 82 #[.val (.long a), .second, .val (.long b), .second, .val (.long c0), .second, .val (.long d), .second, .val (.long (own_mean a b c0 d)), .second, .unset, .unset] [(.long a), (.long ((((((own_lane a b c0 d (0 : Int32)) ||| (own_lane a b c0 d (8 : Int32))) ||| (own_lane a b c0 d (16 : Int32))) ||| (own_lane a b c0 d (24 : Int32))) ||| (own_lane a b c0 d (32 : Int32))) ||| (own_lane a b c0 d (40 : Int32))))])) τ
    refine XS.lloadN X7.here hx rfl (hb hby at_82) rfl ?_
    show Steps p.tables e below (T7.setTop (mkF m 83 #[.val (.long a), .second, .val (.long b), .second, .val (.long c0), .second, .val (.long d), .second, .val (.long (own_mean a b c0 d)), .second, .unset, .unset] [(.long b), (.long a), (.long ((((((own_lane a b c0 d (0 : Int32)) ||| (own_lane a b c0 d (8 : Int32))) ||| (own_lane a b c0 d (16 : Int32))) ||| (own_lane a b c0 d (24 : Int32))) ||| (own_lane a b c0 d (32 : Int32))) ||| (own_lane a b c0 d (40 : Int32))))])) τ
    refine XS.lload X7.here hx rfl (hb hby at_83) rfl ?_
    show Steps p.tables e below (T7.setTop (mkF m 85 #[.val (.long a), .second, .val (.long b), .second, .val (.long c0), .second, .val (.long d), .second, .val (.long (own_mean a b c0 d)), .second, .unset, .unset] [(.long c0), (.long b), (.long a), (.long ((((((own_lane a b c0 d (0 : Int32)) ||| (own_lane a b c0 d (8 : Int32))) ||| (own_lane a b c0 d (16 : Int32))) ||| (own_lane a b c0 d (24 : Int32))) ||| (own_lane a b c0 d (32 : Int32))) ||| (own_lane a b c0 d (40 : Int32))))])) τ
    refine XS.lload X7.here hx rfl (hb hby at_85) rfl ?_
    show Steps p.tables e below (T7.setTop (mkF m 87 #[.val (.long a), .second, .val (.long b), .second, .val (.long c0), .second, .val (.long d), .second, .val (.long (own_mean a b c0 d)), .second, .unset, .unset] [(.long d), (.long c0), (.long b), (.long a), (.long ((((((own_lane a b c0 d (0 : Int32)) ||| (own_lane a b c0 d (8 : Int32))) ||| (own_lane a b c0 d (16 : Int32))) ||| (own_lane a b c0 d (24 : Int32))) ||| (own_lane a b c0 d (32 : Int32))) ||| (own_lane a b c0 d (40 : Int32))))])) τ
    refine XS.bipush X7.here hx rfl (hb hby at_87) ?_
    show Steps p.tables e below (T7.setTop (mkF m 89 #[.val (.long a), .second, .val (.long b), .second, .val (.long c0), .second, .val (.long d), .second, .val (.long (own_mean a b c0 d)), .second, .unset, .unset] [(.int (48 : Int32)), (.long d), (.long c0), (.long b), (.long a), (.long ((((((own_lane a b c0 d (0 : Int32)) ||| (own_lane a b c0 d (8 : Int32))) ||| (own_lane a b c0 d (16 : Int32))) ||| (own_lane a b c0 d (24 : Int32))) ||| (own_lane a b c0 d (32 : Int32))) ||| (own_lane a b c0 d (40 : Int32))))])) τ
    exact κ)
  obtain ⟨_, _, ⟨T8, Lx8, kx8, nx8⟩, -, X8, ⟨Lc8, hQ8, l8, y8, z8⟩, st8⟩ := Jvm.LawKit.callS X7 hx (y := (⟨"com/example/block_motion_coder/blockmotioncoder/mpeg2/PackedSamplesMeanPinLaw", "lane", "(JJJJI)J"⟩ : MethodName)) hown (mvT hZ (hw _ (List.mem_of_getElem? (i := 6) rfl))) (mvT hZ (hw _ (List.mem_of_getElem? (i := 7) rfl))) (mvT hZ (hw _ (List.mem_of_getElem? (i := 8) rfl))) (mvT hZ (hw _ (List.mem_of_getElem? (i := 9) rfl))) (by decide) (backOf (W := 2) (rm2 l Z a0 hw [] a b c0 d (48 : Int32) h0 n0 Zn) hZ (hw _ (List.mem_of_getElem? (i := 9) rfl)) (hw _ (List.mem_of_getElem? (i := 8) rfl)) (by decide) (by decide)) (g := (mkF m 89 #[.val (.long a), .second, .val (.long b), .second, .val (.long c0), .second, .val (.long d), .second, .val (.long (own_mean a b c0 d)), .second, .unset, .unset] [(.int (48 : Int32)), (.long d), (.long c0), (.long b), (.long a), (.long ((((((own_lane a b c0 d (0 : Int32)) ||| (own_lane a b c0 d (8 : Int32))) ||| (own_lane a b c0 d (16 : Int32))) ||| (own_lane a b c0 d (24 : Int32))) ||| (own_lane a b c0 d (32 : Int32))) ||| (own_lane a b c0 d (40 : Int32))))])) rfl (by rw [hml]; rfl) (argsL := [(.long a), (.long b), (.long c0), (.long d), (.int (48 : Int32))]) (rest := [(.long ((((((own_lane a b c0 d (0 : Int32)) ||| (own_lane a b c0 d (8 : Int32))) ||| (own_lane a b c0 d (16 : Int32))) ||| (own_lane a b c0 d (24 : Int32))) ||| (own_lane a b c0 d (32 : Int32))) ||| (own_lane a b c0 d (40 : Int32))))]) (lenOf pd_2 rfl) rfl (by show 2 * 0 + _ ≤ _; exact Nat.le_of_eq rfl) (hb hby at_89) (fun _ _ => ⟨rfl, hs7, (by decide : 0 + 0 ≤ _), (by decide : 0 + 0 ≤ _)⟩)
  dsimp only [Pt.U, Pt.locs, Pt.cells, Pt.slots] at X8 l8 y8 z8 st8 hQ8
  subst l8 y8 z8
  obtain ⟨rfl, Nq8, hs8⟩ := hQ8
  have NN := Fr.app NN Nq8
  have pre : ∀ τ, Steps p.tables e below (T8.setTop (mkF m 92 #[.val (.long a), .second, .val (.long b), .second, .val (.long c0), .second, .val (.long d), .second, .val (.long (own_mean a b c0 d)), .second, .unset, .unset] [(.long (own_lane a b c0 d (48 : Int32))), (.long ((((((own_lane a b c0 d (0 : Int32)) ||| (own_lane a b c0 d (8 : Int32))) ||| (own_lane a b c0 d (16 : Int32))) ||| (own_lane a b c0 d (24 : Int32))) ||| (own_lane a b c0 d (32 : Int32))) ||| (own_lane a b c0 d (40 : Int32))))])) τ → G τ := fun τ κ => pre τ (st8 τ κ)
  have pre : ∀ τ, Steps p.tables e below (T8.setTop (mkF m 101 #[.val (.long a), .second, .val (.long b), .second, .val (.long c0), .second, .val (.long d), .second, .val (.long (own_mean a b c0 d)), .second, .unset, .unset] [(.int (56 : Int32)), (.long d), (.long c0), (.long b), (.long a), (.long (((((((own_lane a b c0 d (0 : Int32)) ||| (own_lane a b c0 d (8 : Int32))) ||| (own_lane a b c0 d (16 : Int32))) ||| (own_lane a b c0 d (24 : Int32))) ||| (own_lane a b c0 d (32 : Int32))) ||| (own_lane a b c0 d (40 : Int32))) ||| (own_lane a b c0 d (48 : Int32))))])) τ → G τ := fun τ κ => pre τ (by
    refine XS.lor X8.here hx rfl (hb hby at_92) rfl ?_
    show Steps p.tables e below (T8.setTop (mkF m 93 #[.val (.long a), .second, .val (.long b), .second, .val (.long c0), .second, .val (.long d), .second, .val (.long (own_mean a b c0 d)), .second, .unset, .unset] [(.long (((((((own_lane a b c0 d (0 : Int32)) ||| (own_lane a b c0 d (8 : Int32))) ||| (own_lane a b c0 d (16 : Int32))) ||| (own_lane a b c0 d (24 : Int32))) ||| (own_lane a b c0 d (32 : Int32))) ||| (own_lane a b c0 d (40 : Int32))) ||| (own_lane a b c0 d (48 : Int32))))])) τ
    refine XS.lloadN X8.here hx rfl (hb hby at_93) rfl ?_
    show Steps p.tables e below (T8.setTop (mkF m 94 #[.val (.long a), .second, .val (.long b), .second, .val (.long c0), .second, .val (.long d), .second, .val (.long (own_mean a b c0 d)), .second, .unset, .unset] [(.long a), (.long (((((((own_lane a b c0 d (0 : Int32)) ||| (own_lane a b c0 d (8 : Int32))) ||| (own_lane a b c0 d (16 : Int32))) ||| (own_lane a b c0 d (24 : Int32))) ||| (own_lane a b c0 d (32 : Int32))) ||| (own_lane a b c0 d (40 : Int32))) ||| (own_lane a b c0 d (48 : Int32))))])) τ
    refine XS.lloadN X8.here hx rfl (hb hby at_94) rfl ?_
    show Steps p.tables e below (T8.setTop (mkF m 95 #[.val (.long a), .second, .val (.long b), .second, .val (.long c0), .second, .val (.long d), .second, .val (.long (own_mean a b c0 d)), .second, .unset, .unset] [(.long b), (.long a), (.long (((((((own_lane a b c0 d (0 : Int32)) ||| (own_lane a b c0 d (8 : Int32))) ||| (own_lane a b c0 d (16 : Int32))) ||| (own_lane a b c0 d (24 : Int32))) ||| (own_lane a b c0 d (32 : Int32))) ||| (own_lane a b c0 d (40 : Int32))) ||| (own_lane a b c0 d (48 : Int32))))])) τ
    refine XS.lload X8.here hx rfl (hb hby at_95) rfl ?_
    show Steps p.tables e below (T8.setTop (mkF m 97 #[.val (.long a), .second, .val (.long b), .second, .val (.long c0), .second, .val (.long d), .second, .val (.long (own_mean a b c0 d)), .second, .unset, .unset] [(.long c0), (.long b), (.long a), (.long (((((((own_lane a b c0 d (0 : Int32)) ||| (own_lane a b c0 d (8 : Int32))) ||| (own_lane a b c0 d (16 : Int32))) ||| (own_lane a b c0 d (24 : Int32))) ||| (own_lane a b c0 d (32 : Int32))) ||| (own_lane a b c0 d (40 : Int32))) ||| (own_lane a b c0 d (48 : Int32))))])) τ
    refine XS.lload X8.here hx rfl (hb hby at_97) rfl ?_
    show Steps p.tables e below (T8.setTop (mkF m 99 #[.val (.long a), .second, .val (.long b), .second, .val (.long c0), .second, .val (.long d), .second, .val (.long (own_mean a b c0 d)), .second, .unset, .unset] [(.long d), (.long c0), (.long b), (.long a), (.long (((((((own_lane a b c0 d (0 : Int32)) ||| (own_lane a b c0 d (8 : Int32))) ||| (own_lane a b c0 d (16 : Int32))) ||| (own_lane a b c0 d (24 : Int32))) ||| (own_lane a b c0 d (32 : Int32))) ||| (own_lane a b c0 d (40 : Int32))) ||| (own_lane a b c0 d (48 : Int32))))])) τ
    refine XS.bipush X8.here hx rfl (hb hby at_99) ?_
    show Steps p.tables e below (T8.setTop (mkF m 101 #[.val (.long a), .second, .val (.long b), .second, .val (.long c0), .second, .val (.long d), .second, .val (.long (own_mean a b c0 d)), .second, .unset, .unset] [(.int (56 : Int32)), (.long d), (.long c0), (.long b), (.long a), (.long (((((((own_lane a b c0 d (0 : Int32)) ||| (own_lane a b c0 d (8 : Int32))) ||| (own_lane a b c0 d (16 : Int32))) ||| (own_lane a b c0 d (24 : Int32))) ||| (own_lane a b c0 d (32 : Int32))) ||| (own_lane a b c0 d (40 : Int32))) ||| (own_lane a b c0 d (48 : Int32))))])) τ
    exact κ)
  obtain ⟨_, _, ⟨T9, Lx9, kx9, nx9⟩, -, X9, ⟨Lc9, hQ9, l9, y9, z9⟩, st9⟩ := Jvm.LawKit.callS X8 hx (y := (⟨"com/example/block_motion_coder/blockmotioncoder/mpeg2/PackedSamplesMeanPinLaw", "lane", "(JJJJI)J"⟩ : MethodName)) hown (mvT hZ (hw _ (List.mem_of_getElem? (i := 6) rfl))) (mvT hZ (hw _ (List.mem_of_getElem? (i := 7) rfl))) (mvT hZ (hw _ (List.mem_of_getElem? (i := 8) rfl))) (mvT hZ (hw _ (List.mem_of_getElem? (i := 9) rfl))) (by decide) (backOf (W := 2) (rm2 l Z a0 hw [] a b c0 d (56 : Int32) h0 n0 Zn) hZ (hw _ (List.mem_of_getElem? (i := 9) rfl)) (hw _ (List.mem_of_getElem? (i := 8) rfl)) (by decide) (by decide)) (g := (mkF m 101 #[.val (.long a), .second, .val (.long b), .second, .val (.long c0), .second, .val (.long d), .second, .val (.long (own_mean a b c0 d)), .second, .unset, .unset] [(.int (56 : Int32)), (.long d), (.long c0), (.long b), (.long a), (.long (((((((own_lane a b c0 d (0 : Int32)) ||| (own_lane a b c0 d (8 : Int32))) ||| (own_lane a b c0 d (16 : Int32))) ||| (own_lane a b c0 d (24 : Int32))) ||| (own_lane a b c0 d (32 : Int32))) ||| (own_lane a b c0 d (40 : Int32))) ||| (own_lane a b c0 d (48 : Int32))))])) rfl (by rw [hml]; rfl) (argsL := [(.long a), (.long b), (.long c0), (.long d), (.int (56 : Int32))]) (rest := [(.long (((((((own_lane a b c0 d (0 : Int32)) ||| (own_lane a b c0 d (8 : Int32))) ||| (own_lane a b c0 d (16 : Int32))) ||| (own_lane a b c0 d (24 : Int32))) ||| (own_lane a b c0 d (32 : Int32))) ||| (own_lane a b c0 d (40 : Int32))) ||| (own_lane a b c0 d (48 : Int32))))]) (lenOf pd_2 rfl) rfl (by show 2 * 0 + _ ≤ _; exact Nat.le_of_eq rfl) (hb hby at_101) (fun _ _ => ⟨rfl, hs8, (by decide : 0 + 0 ≤ _), (by decide : 0 + 0 ≤ _)⟩)
  dsimp only [Pt.U, Pt.locs, Pt.cells, Pt.slots] at X9 l9 y9 z9 st9 hQ9
  subst l9 y9 z9
  obtain ⟨rfl, Nq9, hs9⟩ := hQ9
  have NN := Fr.app NN Nq9
  have pre : ∀ τ, Steps p.tables e below (T9.setTop (mkF m 104 #[.val (.long a), .second, .val (.long b), .second, .val (.long c0), .second, .val (.long d), .second, .val (.long (own_mean a b c0 d)), .second, .unset, .unset] [(.long (own_lane a b c0 d (56 : Int32))), (.long (((((((own_lane a b c0 d (0 : Int32)) ||| (own_lane a b c0 d (8 : Int32))) ||| (own_lane a b c0 d (16 : Int32))) ||| (own_lane a b c0 d (24 : Int32))) ||| (own_lane a b c0 d (32 : Int32))) ||| (own_lane a b c0 d (40 : Int32))) ||| (own_lane a b c0 d (48 : Int32))))])) τ → G τ := fun τ κ => pre τ (st9 τ κ)
  have pre : ∀ τ, Steps p.tables e below (T9.setTop (mkF m 112 #[.val (.long a), .second, .val (.long b), .second, .val (.long c0), .second, .val (.long d), .second, .val (.long (own_mean a b c0 d)), .second, .val (.long ((((((((own_lane a b c0 d (0 : Int32)) ||| (own_lane a b c0 d (8 : Int32))) ||| (own_lane a b c0 d (16 : Int32))) ||| (own_lane a b c0 d (24 : Int32))) ||| (own_lane a b c0 d (32 : Int32))) ||| (own_lane a b c0 d (40 : Int32))) ||| (own_lane a b c0 d (48 : Int32))) ||| (own_lane a b c0 d (56 : Int32)))), .second] [(.int (lcmpW (own_mean a b c0 d) ((((((((own_lane a b c0 d (0 : Int32)) ||| (own_lane a b c0 d (8 : Int32))) ||| (own_lane a b c0 d (16 : Int32))) ||| (own_lane a b c0 d (24 : Int32))) ||| (own_lane a b c0 d (32 : Int32))) ||| (own_lane a b c0 d (40 : Int32))) ||| (own_lane a b c0 d (48 : Int32))) ||| (own_lane a b c0 d (56 : Int32)))))])) τ → G τ := fun τ κ => pre τ (by
    refine XS.lor X9.here hx rfl (hb hby at_104) rfl ?_
    show Steps p.tables e below (T9.setTop (mkF m 105 #[.val (.long a), .second, .val (.long b), .second, .val (.long c0), .second, .val (.long d), .second, .val (.long (own_mean a b c0 d)), .second, .unset, .unset] [(.long ((((((((own_lane a b c0 d (0 : Int32)) ||| (own_lane a b c0 d (8 : Int32))) ||| (own_lane a b c0 d (16 : Int32))) ||| (own_lane a b c0 d (24 : Int32))) ||| (own_lane a b c0 d (32 : Int32))) ||| (own_lane a b c0 d (40 : Int32))) ||| (own_lane a b c0 d (48 : Int32))) ||| (own_lane a b c0 d (56 : Int32))))])) τ
    refine XS.lstore X9.here hx rfl (hb hby at_105) rfl (l' := #[.val (.long a), .second, .val (.long b), .second, .val (.long c0), .second, .val (.long d), .second, .val (.long (own_mean a b c0 d)), .second, .val (.long ((((((((own_lane a b c0 d (0 : Int32)) ||| (own_lane a b c0 d (8 : Int32))) ||| (own_lane a b c0 d (16 : Int32))) ||| (own_lane a b c0 d (24 : Int32))) ||| (own_lane a b c0 d (32 : Int32))) ||| (own_lane a b c0 d (40 : Int32))) ||| (own_lane a b c0 d (48 : Int32))) ||| (own_lane a b c0 d (56 : Int32)))), .second]) rfl ?_
    show Steps p.tables e below (T9.setTop (mkF m 107 #[.val (.long a), .second, .val (.long b), .second, .val (.long c0), .second, .val (.long d), .second, .val (.long (own_mean a b c0 d)), .second, .val (.long ((((((((own_lane a b c0 d (0 : Int32)) ||| (own_lane a b c0 d (8 : Int32))) ||| (own_lane a b c0 d (16 : Int32))) ||| (own_lane a b c0 d (24 : Int32))) ||| (own_lane a b c0 d (32 : Int32))) ||| (own_lane a b c0 d (40 : Int32))) ||| (own_lane a b c0 d (48 : Int32))) ||| (own_lane a b c0 d (56 : Int32)))), .second] [])) τ
    refine XS.lload X9.here hx rfl (hb hby at_107) rfl ?_
    show Steps p.tables e below (T9.setTop (mkF m 109 #[.val (.long a), .second, .val (.long b), .second, .val (.long c0), .second, .val (.long d), .second, .val (.long (own_mean a b c0 d)), .second, .val (.long ((((((((own_lane a b c0 d (0 : Int32)) ||| (own_lane a b c0 d (8 : Int32))) ||| (own_lane a b c0 d (16 : Int32))) ||| (own_lane a b c0 d (24 : Int32))) ||| (own_lane a b c0 d (32 : Int32))) ||| (own_lane a b c0 d (40 : Int32))) ||| (own_lane a b c0 d (48 : Int32))) ||| (own_lane a b c0 d (56 : Int32)))), .second] [(.long (own_mean a b c0 d))])) τ
    refine XS.lload X9.here hx rfl (hb hby at_109) rfl ?_
    show Steps p.tables e below (T9.setTop (mkF m 111 #[.val (.long a), .second, .val (.long b), .second, .val (.long c0), .second, .val (.long d), .second, .val (.long (own_mean a b c0 d)), .second, .val (.long ((((((((own_lane a b c0 d (0 : Int32)) ||| (own_lane a b c0 d (8 : Int32))) ||| (own_lane a b c0 d (16 : Int32))) ||| (own_lane a b c0 d (24 : Int32))) ||| (own_lane a b c0 d (32 : Int32))) ||| (own_lane a b c0 d (40 : Int32))) ||| (own_lane a b c0 d (48 : Int32))) ||| (own_lane a b c0 d (56 : Int32)))), .second] [(.long ((((((((own_lane a b c0 d (0 : Int32)) ||| (own_lane a b c0 d (8 : Int32))) ||| (own_lane a b c0 d (16 : Int32))) ||| (own_lane a b c0 d (24 : Int32))) ||| (own_lane a b c0 d (32 : Int32))) ||| (own_lane a b c0 d (40 : Int32))) ||| (own_lane a b c0 d (48 : Int32))) ||| (own_lane a b c0 d (56 : Int32)))), (.long (own_mean a b c0 d))])) τ
    refine XS.lcmp X9.here hx rfl (hb hby at_111) rfl ?_
    show Steps p.tables e below (T9.setTop (mkF m 112 #[.val (.long a), .second, .val (.long b), .second, .val (.long c0), .second, .val (.long d), .second, .val (.long (own_mean a b c0 d)), .second, .val (.long ((((((((own_lane a b c0 d (0 : Int32)) ||| (own_lane a b c0 d (8 : Int32))) ||| (own_lane a b c0 d (16 : Int32))) ||| (own_lane a b c0 d (24 : Int32))) ||| (own_lane a b c0 d (32 : Int32))) ||| (own_lane a b c0 d (40 : Int32))) ||| (own_lane a b c0 d (48 : Int32))) ||| (own_lane a b c0 d (56 : Int32)))), .second] [(.int (lcmpW (own_mean a b c0 d) ((((((((own_lane a b c0 d (0 : Int32)) ||| (own_lane a b c0 d (8 : Int32))) ||| (own_lane a b c0 d (16 : Int32))) ||| (own_lane a b c0 d (24 : Int32))) ||| (own_lane a b c0 d (32 : Int32))) ||| (own_lane a b c0 d (40 : Int32))) ||| (own_lane a b c0 d (48 : Int32))) ||| (own_lane a b c0 d (56 : Int32)))))])) τ
    exact κ)
  have hc10 : (own_mean a b c0 d) = ((((((((own_lane a b c0 d (0 : Int32)) ||| (own_lane a b c0 d (8 : Int32))) ||| (own_lane a b c0 d (16 : Int32))) ||| (own_lane a b c0 d (24 : Int32))) ||| (own_lane a b c0 d (32 : Int32))) ||| (own_lane a b c0 d (40 : Int32))) ||| (own_lane a b c0 d (48 : Int32))) ||| (own_lane a b c0 d (56 : Int32))) := own_law _ _ _ _
  have pre : ∀ τ, Steps p.tables e below (T9.setTop (mkF m 120 #[.val (.long a), .second, .val (.long b), .second, .val (.long c0), .second, .val (.long d), .second, .val (.long (own_mean a b c0 d)), .second, .val (.long ((((((((own_lane a b c0 d (0 : Int32)) ||| (own_lane a b c0 d (8 : Int32))) ||| (own_lane a b c0 d (16 : Int32))) ||| (own_lane a b c0 d (24 : Int32))) ||| (own_lane a b c0 d (32 : Int32))) ||| (own_lane a b c0 d (40 : Int32))) ||| (own_lane a b c0 d (48 : Int32))) ||| (own_lane a b c0 d (56 : Int32)))), .second] [(.int (1 : Int32))])) τ → G τ := fun τ κ => pre τ (by
    refine XS.ifNo X9.here hx rfl (hb hby at_112) rfl ((if0 _ _).trans (teq ((lw_eq _ _).mpr hc10)).2) ?_
    show Steps p.tables e below (T9.setTop (mkF m 115 #[.val (.long a), .second, .val (.long b), .second, .val (.long c0), .second, .val (.long d), .second, .val (.long (own_mean a b c0 d)), .second, .val (.long ((((((((own_lane a b c0 d (0 : Int32)) ||| (own_lane a b c0 d (8 : Int32))) ||| (own_lane a b c0 d (16 : Int32))) ||| (own_lane a b c0 d (24 : Int32))) ||| (own_lane a b c0 d (32 : Int32))) ||| (own_lane a b c0 d (40 : Int32))) ||| (own_lane a b c0 d (48 : Int32))) ||| (own_lane a b c0 d (56 : Int32)))), .second] [])) τ
    refine XS.iconst X9.here hx rfl (hb hby at_115) ?_
    show Steps p.tables e below (T9.setTop (mkF m 116 #[.val (.long a), .second, .val (.long b), .second, .val (.long c0), .second, .val (.long d), .second, .val (.long (own_mean a b c0 d)), .second, .val (.long ((((((((own_lane a b c0 d (0 : Int32)) ||| (own_lane a b c0 d (8 : Int32))) ||| (own_lane a b c0 d (16 : Int32))) ||| (own_lane a b c0 d (24 : Int32))) ||| (own_lane a b c0 d (32 : Int32))) ||| (own_lane a b c0 d (40 : Int32))) ||| (own_lane a b c0 d (48 : Int32))) ||| (own_lane a b c0 d (56 : Int32)))), .second] [(.int (1 : Int32))])) τ
    refine XS.goto X9.here hx rfl (pc0 := 116) (pc' := 120) rfl (hb hby at_116) (by decide) (by decide) ?_
    show Steps p.tables e below (T9.setTop (mkF m 120 #[.val (.long a), .second, .val (.long b), .second, .val (.long c0), .second, .val (.long d), .second, .val (.long (own_mean a b c0 d)), .second, .val (.long ((((((((own_lane a b c0 d (0 : Int32)) ||| (own_lane a b c0 d (8 : Int32))) ||| (own_lane a b c0 d (16 : Int32))) ||| (own_lane a b c0 d (24 : Int32))) ||| (own_lane a b c0 d (32 : Int32))) ||| (own_lane a b c0 d (40 : Int32))) ||| (own_lane a b c0 d (48 : Int32))) ||| (own_lane a b c0 d (56 : Int32)))), .second] [(.int (1 : Int32))])) τ
    exact κ)
  obtain ⟨fsα, hr, hrun, hended, hW, hsame⟩ := X9.leave (v := some (.int (1 : Int32))) (fun h => by rw [Bd.returns] at h; cases h)
  refine hGL ⟨_, _, hG _ (pre _ ?_), hrun, hended, _, _, rfl, ?_, ⟨_, rfl⟩, hW, hsame.mono (by decide) (by decide)⟩
  · exact retN X9 hx (t := .boolean) Bd.returns (by simp) (hb hby at_120) hr
  · show Q0 Z a b c0 d h0 n0 _ T9.heap _
    rw [hs9]
    exact ⟨rfl, NN⟩
set_option maxRecDepth 65536 in
set_option maxHeartbeats 40000000 in
theorem comes_1 {Post : Tables → Env → Array Value → State → Outcome → State → Prop} (hpost : ∀ tb e args s v u, (limb_1_1.after args s (.returned v) u = true ∧ limb_1_2.after args s (.returned v) u = true ∧ True) → FrameEnd s (.returned v) u (Jvm.fieldLocs frame_1_writes args s ++ Jvm.arrayLocs frame_1_arrays args s ++ Jvm.staticLocs frame_1_statics s) 0 0 → Post tb e args s (.returned v) u) :
    ArmFor flags0 classFile x code maxLocals ret World_1 tables_1 room_1 Calls_1 rest_1 Pre_1 Post := by
  intro l hfl _ _ p e ha hc hk s m args below hf hA hF happ hP
  obtain ⟨hcalls, hrest, hpre⟩ := hP
  obtain ⟨-, -, -, hnamed, -, -, -, hat⟩ := (Spec.applies_iff hf).mp happ
  obtain ⟨hg, hn⟩ := and_e (Cond.before_iff.mp (show (Jvm.Cond.and given_1 narrow_1).before args s = true from hpre))
  obtain ⟨gv1, gv2⟩ := and_e hg
  obtain ⟨gv3, gv4⟩ := and_e gv2
  obtain ⟨gv5, gv6⟩ := and_e gv4
  obtain ⟨gv7, gv8⟩ := and_e gv6
  obtain ⟨w0, w1, w2, w3, rfl⟩ : ∃ w0 w1 w2 w3 : Value, args = #[w0, w1, w2, w3] := by
    have hs : args.size = 4 := by simpa [Cond.value, given_1] using gv1
    obtain ⟨L⟩ := args
    match L, hs with
    | [w0, w1, w2, w3], _ => exact ⟨w0, w1, w2, w3, rfl⟩
  have hw := fun d (hd : d ∈ tables_1) => atoms_spec (ws := Jvm.Cond.code x code maxLocals ret :: tables_1) hat d (List.mem_cons_of_mem _ hd)
  have hfit : Fit s := fun {y c} hc i hi => by
    obtain ⟨ha, rfl⟩ := Array.getElem?_eq_some_iff.mp hc
    have q := List.all_eq_true.mp ((Array.all_eq_true_iff_forall_mem.mp hF) _ (Array.getElem_mem ha)) i (List.mem_range.mpr hi)
    simpa [Array.getElem?_eq_getElem hi] using q
  obtain ⟨i0, ei0⟩ := isL_v gv3
  obtain rfl : w0 = (.long i0) := Option.some.inj ei0
  obtain ⟨i1, ei1⟩ := isL_v gv5
  obtain rfl : w1 = (.long i1) := Option.some.inj ei1
  obtain ⟨i2, ei2⟩ := isL_v gv7
  obtain rfl : w2 = (.long i2) := Option.some.inj ei2
  obtain ⟨i3, ei3⟩ := isL_v gv8
  obtain rfl : w3 = (.long i3) := Option.some.inj ei3
  obtain ⟨n, o, h1, h2, h3, _, L, rfl, ⟨rfl, N⟩, hq⟩ := rm0 l s _ hw tables_1 i0 i1 i2 i3  s.heap s.heap.size (Nat.le_refl _)  p e ha hc hk s m _ below hf ((Spec.applies_iff_loose hf).mp happ).1 ⟨rfl, State.Warmed39.refl s, rfl⟩ trivial
  refine ⟨n, _, h1, h2, h3, hpost _ _ _ _ _ _ ⟨Cond.after_iff.mpr rfl, Cond.after_iff.mpr (eq_i res_at (Term.int_eval (1)) rfl), trivial⟩ ⟨hq.1, hq.2.1, (hq.2.2.sift fun y hy => Or.inr (N y hy)).mono (by decide) (by decide)⟩⟩
theorem main_1_1 : Claimed_1_1 := comes_1 fun _ _ _ _ _ _ h hF => ⟨h.1, hF⟩
theorem main_1_2 : Claimed_1_2 := comes_1 fun _ _ _ _ _ _ h hF => ⟨h.2.1, hF⟩
end Jvm.Pilot.@@N@@
namespace Jvm.Pilot.@@N@@
open Jvm Jvm.ClassFile Sem Op Lib Jvm.Free Jvm.Stand Jvm.Pilot.@@N@@.Jvm.D
/-! MADE BY PROGRAM (witnessworld.py) out of the Statement's table words and the real class files: 9 classes; the members and pool entries that the words name. The judged class is class 1, her method 3. -/
namespace start1
open Jvm.ClassFile
def u (s : String) : CpInfo := .utf8 (stringToUtf16 s)
/-- a pool by its gaps: so many unusable entries, then the entry; so many at the end -/
def gap : Nat → List CpInfo → List CpInfo
  | 0, r => r
  | n + 1, r => .unusable :: gap n r
def poolList (es : List (Nat × CpInfo)) (last : Nat) : List CpInfo := es.foldr (fun e r => gap e.1 (e.2 :: r)) (gap last [])
def pool (es : List (Nat × CpInfo)) (last : Nat) : Array CpInfo := ⟨poolList es last⟩
def fileOf (pool : Array CpInfo) (this : Nat) (attrs : Array Attribute := #[]) (ms : Array MethodInfo := #[]) (fl : Nat := 33) (sup : Nat := 0) (ifs : Array Nat := #[]) (fds : Array FieldInfo := #[]) : ClassFile where
  minorVersion := 0
  majorVersion := 65
  constantPool := pool
  accessFlags := fl
  thisClass := this
  superClass := sup
  interfaces := ifs
  fields := fds
  methods := ms
  attributes := attrs
def plain (name : String) (sup : Option ClassId) : Class where
  name := name
  kind := .ordinary
  loader := none
  accessFlags := 33
  super := sup
  interfaces := #[]
  cf := none
  fields := #[]
  methods := #[]
  instanceTypes := #[]
  staticTypes := #[]
  resolved := #[]
  callSites := []
  init := .initialized
  statics := none
  mirror := none

def pool0 : Array CpInfo := pool [(5, u "<init>"), (0, u "()V"), (1, .class_ 10), (1, u "java/lang/Object")] 113

def k0m0 : Method := { name := "<init>", desc := "()V", sig := { parameters := [], returnType := none }, accessFlags := 1, code := none }
/-- java/lang/Object -/
def k0 : Class := { plain "java/lang/Object" none with
  accessFlags := 33
  interfaces := #[]
  cf := some (fileOf pool0 8 #[] #[{ accessFlags := 1, nameIndex := 5, descriptorIndex := 6, attributes := #[] }] 33 0 #[] #[])
  fields := #[]
  methods := #[k0m0]
  instanceTypes := #[]
  staticTypes := #[]
  resolved := Array.replicate 124 none
  statics := none }

def pool1 : Array CpInfo := pool [(2, .class_ 4), (1, u "java/lang/Object"), (0, u "<init>"), (0, u "()V"), (0, .long 255), (1, .methodref 10 11), (0, .class_ 12), (0, .nameAndType 13 14), (0, u "com/example/block_motion_coder/blockmotioncoder/mpeg2/PackedSamplesMeanPinLaw"), (0, u "sample"), (0, u "(JI)J"), (0, .long 2), (1, .methodref 18 19), (0, .class_ 20), (0, .nameAndType 21 22), (0, u "com/example/block_motion_coder/blockmotioncoder/mpeg2/PackedSamples"), (0, u "mean"), (0, u "(JJJJ)J"), (0, .methodref 10 24), (0, .nameAndType 25 26), (0, u "lane"), (0, u "(JJJJI)J"), (2, u "law"), (0, u "(JJJJ)Z")] 3

def k1m0 : Method := { name := "<init>", desc := "()V", sig := { parameters := [], returnType := none }, accessFlags := 2, code := none }
def k1c1 : Code := { maxStack := 4, maxLocals := 3, code := method_2_code, exceptionTable := #[], attributes := #[] }
def k1m1 : Method := { name := "sample", desc := "(JI)J", sig := { parameters := [.long, .int], returnType := some .long }, accessFlags := 10, code := some k1c1 }
def k1c2 : Code := { maxStack := 5, maxLocals := 11, code := method_3_code, exceptionTable := #[], attributes := #[] }
def k1m2 : Method := { name := "lane", desc := "(JJJJI)J", sig := { parameters := [.long, .long, .long, .long, .int], returnType := some .long }, accessFlags := 10, code := some k1c2 }
def k1c3 : Code := { maxStack := 11, maxLocals := 12, code := code, exceptionTable := #[], attributes := #[] }
def k1m3 : Method := { name := "law", desc := "(JJJJ)Z", sig := { parameters := [.long, .long, .long, .long], returnType := some .boolean }, accessFlags := 9, code := some k1c3 }
/-- com/example/block_motion_coder/blockmotioncoder/mpeg2/PackedSamplesMeanPinLaw -/
def k1 : Class := { plain "com/example/block_motion_coder/blockmotioncoder/mpeg2/PackedSamplesMeanPinLaw" (some 0) with
  accessFlags := 49
  interfaces := #[]
  cf := some (fileOf pool1 10 #[] #[{ accessFlags := 2, nameIndex := 5, descriptorIndex := 6, attributes := #[] }, { accessFlags := 10, nameIndex := 13, descriptorIndex := 14, attributes := #[] }, { accessFlags := 10, nameIndex := 25, descriptorIndex := 26, attributes := #[] }, { accessFlags := 9, nameIndex := 29, descriptorIndex := 30, attributes := #[] }] 49 2 #[] #[])
  fields := #[]
  methods := #[k1m0, k1m1, k1m2, k1m3]
  instanceTypes := #[]
  staticTypes := #[]
  resolved := Array.replicate 34 none
  statics := none }

def pool2 : Array CpInfo := pool [(2, .class_ 4), (1, u "java/lang/Object"), (0, u "<init>"), (0, u "()V"), (1, .class_ 10), (1, u "com/example/block_motion_coder/blockmotioncoder/mpeg2/PackedSamples"), (0, u "LONGS"), (0, u "Ljava/lang/invoke/VarHandle;"), (12, u "INTS"), (16, .long 71777214294589695), (1, .long 562958543486978), (48, u "HIGH_BITS"), (0, u "J"), (1, u "EVEN_BYTES"), (0, u "LANE_ONES"), (0, u "LOW_SEVEN_BITS"), (4, u "mean"), (0, u "(JJJJ)J")] 8

def k2m0 : Method := { name := "<init>", desc := "()V", sig := { parameters := [], returnType := none }, accessFlags := 2, code := none }
def k2c1 : Code := { maxStack := 6, maxLocals := 12, code := prog_82_method_8_code, exceptionTable := #[], attributes := #[] }
def k2m1 : Method := { name := "mean", desc := "(JJJJ)J", sig := { parameters := [.long, .long, .long, .long], returnType := some .long }, accessFlags := 8, code := some k2c1 }
/-- com/example/block_motion_coder/blockmotioncoder/mpeg2/PackedSamples -/
def k2 : Class := { plain "com/example/block_motion_coder/blockmotioncoder/mpeg2/PackedSamples" (some 0) with
  accessFlags := 32
  interfaces := #[]
  cf := some (fileOf pool2 8 #[] #[{ accessFlags := 2, nameIndex := 5, descriptorIndex := 6, attributes := #[] }, { accessFlags := 8, nameIndex := 103, descriptorIndex := 104, attributes := #[] }] 32 2 #[] #[{ accessFlags := 26, nameIndex := 11, descriptorIndex := 12, attributes := #[] }, { accessFlags := 26, nameIndex := 25, descriptorIndex := 12, attributes := #[] }, { accessFlags := 26, nameIndex := 93, descriptorIndex := 94, attributes := #[] }, { accessFlags := 26, nameIndex := 96, descriptorIndex := 94, attributes := #[] }, { accessFlags := 26, nameIndex := 97, descriptorIndex := 94, attributes := #[] }, { accessFlags := 26, nameIndex := 98, descriptorIndex := 94, attributes := #[] }])
  fields := #[{ name := "LONGS", type := (.object "java/lang/invoke/VarHandle"), accessFlags := 26, slot := 0, constantValue := 0 }, { name := "INTS", type := (.object "java/lang/invoke/VarHandle"), accessFlags := 26, slot := 1, constantValue := 0 }, { name := "HIGH_BITS", type := .long, accessFlags := 26, slot := 2, constantValue := 0 }, { name := "EVEN_BYTES", type := .long, accessFlags := 26, slot := 3, constantValue := 0 }, { name := "LANE_ONES", type := .long, accessFlags := 26, slot := 4, constantValue := 0 }, { name := "LOW_SEVEN_BITS", type := .long, accessFlags := 26, slot := 5, constantValue := 0 }]
  methods := #[k2m0, k2m1]
  instanceTypes := #[]
  staticTypes := #[(.object "java/lang/invoke/VarHandle"), (.object "java/lang/invoke/VarHandle"), .long, .long, .long, .long]
  resolved := Array.replicate 113 none
  statics := none }

def pool3 : Array CpInfo := pool [(1, u "java/lang/Cloneable"), (0, .class_ 1), (0, u "java/lang/Object"), (0, .class_ 3)] 3

/-- java/lang/Cloneable -/
def k3 : Class := { plain "java/lang/Cloneable" (some 0) with
  accessFlags := 1537
  interfaces := #[]
  cf := some (fileOf pool3 2 #[] #[] 1537 4 #[] #[])
  fields := #[]
  methods := #[]
  instanceTypes := #[]
  staticTypes := #[]
  resolved := Array.replicate 8 none
  statics := none }

def pool4 : Array CpInfo := pool [(1, u "java/io/Serializable"), (0, .class_ 1), (0, u "java/lang/Object"), (0, .class_ 3)] 3

/-- java/io/Serializable -/
def k4 : Class := { plain "java/io/Serializable" (some 0) with
  accessFlags := 1537
  interfaces := #[]
  cf := some (fileOf pool4 2 #[] #[] 1537 4 #[] #[])
  fields := #[]
  methods := #[]
  instanceTypes := #[]
  staticTypes := #[]
  resolved := Array.replicate 8 none
  statics := none }

/-- the primitive byte -/
def k5 : Class := { plain "byte" none with kind := .primitive 'B', accessFlags := 0x411 }
/-- [B -/
def k6 : Class := { plain "[B" (some 0) with kind := .array 5 .byte, interfaces := #[3, 4], accessFlags := 1041 }

/-- the primitive int -/
def k7 : Class := { plain "int" none with kind := .primitive 'I', accessFlags := 0x411 }
/-- [I -/
def k8 : Class := { plain "[I" (some 0) with kind := .array 7 .int, interfaces := #[3, 4], accessFlags := 1041 }

def heap : Heap := #[]
def classes : Array Class := #[k0, k1, k2, k3, k4, k5, k6, k7, k8]
def interned : List (Array UInt16 × Addr) := []
def slotsUsed : Nat := 0
def theMethod : MethodId := ⟨1, 3⟩
def args0 : Array Value := #[.long 1, .long 5, .long 9, .long 77]
def aboutOver (below : List Frame) : State where
  vm := { classes := classes, interned := interned.toArray }
  heap := heap
  slotsUsed := slotsUsed
  threads := #[{ frames := .invoking theMethod args0 :: below }]
def below0 : List Frame := [.native { method := ⟨0, 0⟩, args := #[] }]
def about1 : State := aboutOver below0
def p0 : Program := .bare "" "" ""
def e0 : Env := launch0.env 0 0 0
theorem w_frames : about1.frames = Frame.invoking theMethod args0 :: below0 := rfl
set_option maxRecDepth 65536 in
theorem w_args : argsFit about1.vm theMethod args0 = true := by decide +kernel
set_option maxRecDepth 65536 in
theorem w_heap : heapFits about1 = true := by decide +kernel
set_option maxRecDepth 65536 in
theorem w_runnable : about1.curStatus? = some .runnable := by decide +kernel
set_option maxRecDepth 65536 in
theorem w_alone : about1.alone = true := by decide +kernel
set_option maxRecDepth 65536 in
theorem w_named : about1.methodNamed? x = some theMethod := by decide +kernel
set_option maxRecDepth 65536 in
theorem w_hears : about1.hears theMethod below0 = true := by decide +kernel
set_option maxRecDepth 65536 in
theorem w_ripe : about1.ripe theMethod args0 below0 = true := by decide +kernel
theorem w_running : about1.status = .running := rfl
set_option maxRecDepth 65536 in
theorem w_room : about1.hasRoom e0.platform room_1 = true :=
  launch0.hasRoom_least _ room_1 (by decide +kernel) (by decide +kernel) (by decide +kernel) (by decide +kernel) (by decide +kernel) (by decide +kernel)
theorem allAtoms_all (ts : List Jvm.Cond) (a : Array Jvm.Value) (st : Jvm.State) : (allAtoms ts).before a st = ts.all (fun c => c.before a st) := by
  induction ts with
  | nil => rfl
  | cons c t ih =>
    show (Jvm.Cond.and c (allAtoms t)).before a st = _
    rw [Jvm.Cond.before_and, ih, List.all_cons]
def words1 : List Jvm.Cond := Jvm.Cond.code x code maxLocals ret :: tables_1
/-- a 'code' word, met by the world's own term for the bytes: nothing is compared byte by byte -/
theorem code_word {y : MethodName} {bytes : ByteArray} {mx : Nat} {rt : Option FieldType} {a : Array Value} {s : State} {m : MethodId} {meth : Method} {c : Code} (h1 : s.methodNamed? y = some m) (h2 : s.vm.method? m = some meth) (h3 : meth.code = some c) (h4 : c.code = bytes)
    (h5 : (c.maxLocals == mx && c.exceptionTable.isEmpty && decide (c.maxStack ≤ mostOperands) && decide (meth.sig.returnType = rt) && !meth.locks && decide (parseMethodDescriptor y.desc = some meth.sig)) = true) : (Jvm.Cond.code y bytes mx rt).before a s = true := by
  simp only [Bool.and_eq_true, beq_iff_eq, Bool.not_eq_true', decide_eq_true_eq] at h5
  obtain ⟨⟨⟨⟨⟨g1, g2⟩, g3⟩, g4⟩, g5⟩, g6⟩ := h5
  simp [Cond.before, Cond.holds, Cond.value, h1, h2, h3, h4, g1, g2, g3, g4, g5, g6]
def isCode : Jvm.Cond → Bool
  | .code _ _ _ _ => true
  | _ => false
theorem all_split {L : List Jvm.Cond} {P : Jvm.Cond → Bool} (h1 : L.all (fun c => isCode c || P c) = true) (h2 : ∀ c ∈ L.filter isCode, P c = true) : L.all P = true := by
  refine List.all_eq_true.mpr fun c hc => ?_
  have h := List.all_eq_true.mp h1 c hc
  rcases Bool.eq_false_or_eq_true (isCode c) with hi | hi
  · exact h2 c (List.mem_filter.mpr ⟨hc, hi⟩)
  · simpa [hi] using h
set_option maxRecDepth 65536 in
theorem w_c0 : (Jvm.Cond.code x code maxLocals ret).before args0 about1 = true := code_word (m := ⟨1, 3⟩) (meth := k1m3) (c := k1c3) (by decide +kernel) rfl rfl rfl (by decide +kernel)
set_option maxRecDepth 65536 in
theorem w_c1 : (Jvm.Cond.code ({ cls := "com/example/block_motion_coder/blockmotioncoder/mpeg2/PackedSamples", name := "mean", desc := "(JJJJ)J" } : Jvm.MethodName) prog_82_method_8_code (12 : Nat) (Option.some Jvm.ClassFile.FieldType.long)).before args0 about1 = true := code_word (m := ⟨2, 1⟩) (meth := k2m1) (c := k2c1) (by decide +kernel) rfl rfl rfl (by decide +kernel)
set_option maxRecDepth 65536 in
theorem w_c2 : (Jvm.Cond.code ({ cls := "com/example/block_motion_coder/blockmotioncoder/mpeg2/PackedSamplesMeanPinLaw", name := "lane", desc := "(JJJJI)J" } : Jvm.MethodName) method_3_code (11 : Nat) (Option.some Jvm.ClassFile.FieldType.long)).before args0 about1 = true := code_word (m := ⟨1, 2⟩) (meth := k1m2) (c := k1c2) (by decide +kernel) rfl rfl rfl (by decide +kernel)
set_option maxRecDepth 65536 in
theorem w_c3 : (Jvm.Cond.code ({ cls := "com/example/block_motion_coder/blockmotioncoder/mpeg2/PackedSamplesMeanPinLaw", name := "sample", desc := "(JI)J" } : Jvm.MethodName) method_2_code (3 : Nat) (Option.some Jvm.ClassFile.FieldType.long)).before args0 about1 = true := code_word (m := ⟨1, 1⟩) (meth := k1m1) (c := k1c1) (by decide +kernel) rfl rfl rfl (by decide +kernel)
def codes1 : List Jvm.Cond := [Jvm.Cond.code x code maxLocals ret, Jvm.Cond.code ({ cls := "com/example/block_motion_coder/blockmotioncoder/mpeg2/PackedSamples", name := "mean", desc := "(JJJJ)J" } : Jvm.MethodName) prog_82_method_8_code (12 : Nat) (Option.some Jvm.ClassFile.FieldType.long), Jvm.Cond.code ({ cls := "com/example/block_motion_coder/blockmotioncoder/mpeg2/PackedSamplesMeanPinLaw", name := "lane", desc := "(JJJJI)J" } : Jvm.MethodName) method_3_code (11 : Nat) (Option.some Jvm.ClassFile.FieldType.long), Jvm.Cond.code ({ cls := "com/example/block_motion_coder/blockmotioncoder/mpeg2/PackedSamplesMeanPinLaw", name := "sample", desc := "(JI)J" } : Jvm.MethodName) method_2_code (3 : Nat) (Option.some Jvm.ClassFile.FieldType.long)]
set_option maxRecDepth 65536 in
theorem codes_eq : words1.filter isCode = codes1 := rfl
theorem w_codes : ∀ c ∈ words1.filter isCode, c.before args0 about1 = true := by
  rw [codes_eq]
  intro c hc
  simp only [codes1, List.mem_cons, List.not_mem_nil, or_false] at hc
  rcases hc with rfl | rfl | rfl | rfl
  · exact w_c0
  · exact w_c1
  · exact w_c2
  · exact w_c3
set_option maxRecDepth 65536 in
theorem w_t1 : words1.all (fun c => isCode c || c.before args0 about1) = true := by decide +kernel
theorem w_tables : (allAtoms (Jvm.Cond.code x code maxLocals ret :: tables_1)).before args0 about1 = true := by
  rw [allAtoms_all]
  show words1.all (fun c => c.before args0 about1) = true
  refine all_split ?_ w_codes
  rw [w_t1]
set_option maxRecDepth 65536 in
theorem w_case : (Jvm.Cond.and given_1 narrow_1).before args0 about1 = true := by decide +kernel
theorem w_applies : (headSpec (Jvm.Cond.code x code maxLocals ret :: tables_1) room_1).applies x e0.platform about1 = true :=
  (Spec.applies_iff w_frames).mpr ⟨w_running, w_runnable, w_alone, w_named, w_hears, w_ripe, w_room, w_tables⟩
theorem atStart : AtStart classFile x code maxLocals ret World_1 tables_1 room_1 Calls_1 rest_1 Pre_1 launch0 p0 e0 about1 theMethod args0 below0 :=
  ⟨lists_1, trivial, launch0.admits_env _ _ _, launch0.least_env, fairChoices_fair.cas, fairChoices_fair.clock, w_frames, w_args, w_heap, w_applies, trivial, trivial, w_case⟩
end start1
theorem witness_1 : WitnessClaimed_1 := ⟨start1.p0, start1.e0, start1.about1, start1.theMethod, start1.args0, start1.below0, start1.atStart⟩
end Jvm.Pilot.@@N@@
