import JvmDerived
import JvmDerived.Pilot.@@N@@Statement
import JvmDerived.Pilot.@@N@@Code
set_option linter.unusedVariables false
set_option linter.unusedSimpArgs false
namespace Jvm.Pilot.@@N@@
open Jvm Jvm.ClassFile Sem Op Lib Jvm.Free Jvm.Stand Jvm.LawKit Jvm.RoadKit Bundle Jvm.Pilot.@@N@@.Jvm.D
theorem own_wrap {A : Prop} (h : ∀ GL : Prop, (A → GL) → GL) : A := h A id
abbrev own_us (x : Int64) (k : Int32) : Int64 := (x.toUInt64 >>> (k &&& 0x3f).toInt64.toUInt64).toInt64
def own_df (a b : Int64) : Int64 := (((a ||| (-9187201950435737472 : Int64)) - (b &&& (9187201950435737471 : Int64))) ^^^ ((a ^^^ (b ^^^ (-1 : Int64))) &&& (-9187201950435737472 : Int64)))
def own_on (a b : Int64) : Int64 := own_us (((((a ^^^ (-1 : Int64)) &&& b) ||| (((a ^^^ b) ^^^ (-1 : Int64)) &&& own_df a b)) &&& (-9187201950435737472 : Int64))) (7 : Int32)
def own_ad (a b : Int64) : Int64 := (own_df a b ^^^ (own_on a b * (255 : Int64))) + own_on a b
def own_abs (x : Int32) : Int32 := if x < 0 then -x else x
def own_by (x : Int64) (s : Int32) : Int32 := ((own_us x s) &&& (255 : Int64)).toInt32
def own_lane (a b r : Int64) (s : Int32) : Int32 := if own_by r s = own_abs (own_by a s - own_by b s) then 1 else 0
theorem own_t_and (q r q' r' : Nat) (h : r < 256) (h' : r' < 256) : (256 * q + r) &&& (256 * q' + r') = 256 * (q &&& q') + (r &&& r') := by
  apply Nat.eq_of_testBit_eq
  intro j
  have e : (256 : Nat) = 2 ^ 8 := by decide
  have hr : r &&& r' < 2 ^ 8 := Nat.and_lt_two_pow _ (by omega)
  rw [e] at h h' ⊢
  rw [Nat.testBit_and, Nat.testBit_two_pow_mul_add _ h, Nat.testBit_two_pow_mul_add _ h', Nat.testBit_two_pow_mul_add _ hr]
  split <;> simp [Nat.testBit_and]
theorem own_t_or (q r q' r' : Nat) (h : r < 256) (h' : r' < 256) : (256 * q + r) ||| (256 * q' + r') = 256 * (q ||| q') + (r ||| r') := by
  apply Nat.eq_of_testBit_eq
  intro j
  have e : (256 : Nat) = 2 ^ 8 := by decide
  rw [e] at h h' ⊢
  have hr : r ||| r' < 2 ^ 8 := Nat.or_lt_two_pow h h'
  rw [Nat.testBit_or, Nat.testBit_two_pow_mul_add _ h, Nat.testBit_two_pow_mul_add _ h', Nat.testBit_two_pow_mul_add _ hr]
  split <;> simp [Nat.testBit_or]
theorem own_t_xor (q r q' r' : Nat) (h : r < 256) (h' : r' < 256) : (256 * q + r) ^^^ (256 * q' + r') = 256 * (q ^^^ q') + (r ^^^ r') := by
  apply Nat.eq_of_testBit_eq
  intro j
  have e : (256 : Nat) = 2 ^ 8 := by decide
  rw [e] at h h' ⊢
  have hr : r ^^^ r' < 2 ^ 8 := Nat.xor_lt_two_pow h h'
  rw [Nat.testBit_xor, Nat.testBit_two_pow_mul_add _ h, Nat.testBit_two_pow_mul_add _ h', Nat.testBit_two_pow_mul_add _ hr]
  split <;> simp [Nat.testBit_xor]
abbrev own_nv (x : Int64) : Nat := x.toBitVec.toNat
theorem own_nv_and (x y : Int64) : own_nv (x &&& y) = own_nv x &&& own_nv y := by simp [own_nv]
theorem own_nv_or (x y : Int64) : own_nv (x ||| y) = own_nv x ||| own_nv y := by simp [own_nv]
theorem own_nv_xor (x y : Int64) : own_nv (x ^^^ y) = own_nv x ^^^ own_nv y := by simp [own_nv]
theorem own_nv_add (x y : Int64) : own_nv (x + y) = (own_nv x + own_nv y) % 18446744073709551616 := by simp [own_nv]
theorem own_nv_sub (x y : Int64) : own_nv (x - y) = (18446744073709551616 - own_nv y + own_nv x) % 18446744073709551616 := by simp [own_nv, BitVec.toNat_sub]
theorem own_nv_mul (x y : Int64) : own_nv (x * y) = (own_nv x * own_nv y) % 18446744073709551616 := by simp [own_nv]
theorem own_nv_lt (x : Int64) : own_nv x < 18446744073709551616 := x.toBitVec.isLt
theorem own_nv_inj {x y : Int64} (h : own_nv x = own_nv y) : x = y := Int64.toBitVec_inj.mp (BitVec.eq_of_toNat_eq h)
theorem own_nv_us (x : Int64) (k : Int32) (n : Nat) (hk : ((k &&& 0x3f).toInt64.toUInt64.toBitVec % 64).toNat = n) : own_nv (own_us x k) = own_nv x / 2 ^ n := by
  show ((x.toUInt64 >>> (k &&& 0x3f).toInt64.toUInt64).toBitVec).toNat = _
  rw [UInt64.toBitVec_shiftRight]
  rw [BitVec.ushiftRight_eq', BitVec.toNat_ushiftRight, hk, Nat.shiftRight_eq_div_pow]
  rfl
theorem own_nv_shl (x : Int64) (k : Int32) (n : Nat) (hk : ((k &&& 0x3f).toInt64.toBitVec.smod 64).toNat = n) : own_nv (x <<< (k &&& 0x3f).toInt64) = own_nv x * 2 ^ n % 18446744073709551616 := by
  show ((x <<< (k &&& 0x3f).toInt64).toBitVec).toNat = _
  rw [Int64.toBitVec_shiftLeft, BitVec.shiftLeft_eq', BitVec.toNat_shiftLeft, hk, Nat.shiftLeft_eq]
theorem own_nv_bytes (x : Int64) : ∃ a0 a1 a2 a3 a4 a5 a6 a7 : Nat, a0 < 256 ∧ a1 < 256 ∧ a2 < 256 ∧ a3 < 256 ∧ a4 < 256 ∧ a5 < 256 ∧ a6 < 256 ∧ a7 < 256 ∧ own_nv x = 256 * (256 * (256 * (256 * (256 * (256 * (256 * a7 + a6) + a5) + a4) + a3) + a2) + a1) + a0 := by
  have h := own_nv_lt x
  generalize own_nv x = n at *
  refine ⟨n % 256, n / 256 % 256, n / 256 / 256 % 256, n / 256 / 256 / 256 % 256, n / 256 / 256 / 256 / 256 % 256, n / 256 / 256 / 256 / 256 / 256 % 256, n / 256 / 256 / 256 / 256 / 256 / 256 % 256, n / 256 / 256 / 256 / 256 / 256 / 256 / 256, ?_⟩
  omega

abbrev own_pk (a0 a1 a2 a3 a4 a5 a6 a7 : Nat) : Nat := 256 * (256 * (256 * (256 * (256 * (256 * (256 * a7 + a6) + a5) + a4) + a3) + a2) + a1) + a0
theorem own_pk_and {a0 a1 a2 a3 a4 a5 a6 a7 b0 b1 b2 b3 b4 b5 b6 b7 : Nat} (h0 : a0 < 256) (h1 : a1 < 256) (h2 : a2 < 256) (h3 : a3 < 256) (h4 : a4 < 256) (h5 : a5 < 256) (h6 : a6 < 256) (g0 : b0 < 256) (g1 : b1 < 256) (g2 : b2 < 256) (g3 : b3 < 256) (g4 : b4 < 256) (g5 : b5 < 256) (g6 : b6 < 256) :
    own_pk a0 a1 a2 a3 a4 a5 a6 a7 &&& own_pk b0 b1 b2 b3 b4 b5 b6 b7 = own_pk (a0 &&& b0) (a1 &&& b1) (a2 &&& b2) (a3 &&& b3) (a4 &&& b4) (a5 &&& b5) (a6 &&& b6) (a7 &&& b7) := by
  unfold own_pk
  rw [own_t_and _ _ _ _ h0 g0, own_t_and _ _ _ _ h1 g1, own_t_and _ _ _ _ h2 g2, own_t_and _ _ _ _ h3 g3, own_t_and _ _ _ _ h4 g4, own_t_and _ _ _ _ h5 g5, own_t_and _ _ _ _ h6 g6]
theorem own_pk_or {a0 a1 a2 a3 a4 a5 a6 a7 b0 b1 b2 b3 b4 b5 b6 b7 : Nat} (h0 : a0 < 256) (h1 : a1 < 256) (h2 : a2 < 256) (h3 : a3 < 256) (h4 : a4 < 256) (h5 : a5 < 256) (h6 : a6 < 256) (g0 : b0 < 256) (g1 : b1 < 256) (g2 : b2 < 256) (g3 : b3 < 256) (g4 : b4 < 256) (g5 : b5 < 256) (g6 : b6 < 256) :
    own_pk a0 a1 a2 a3 a4 a5 a6 a7 ||| own_pk b0 b1 b2 b3 b4 b5 b6 b7 = own_pk (a0 ||| b0) (a1 ||| b1) (a2 ||| b2) (a3 ||| b3) (a4 ||| b4) (a5 ||| b5) (a6 ||| b6) (a7 ||| b7) := by
  unfold own_pk
  rw [own_t_or _ _ _ _ h0 g0, own_t_or _ _ _ _ h1 g1, own_t_or _ _ _ _ h2 g2, own_t_or _ _ _ _ h3 g3, own_t_or _ _ _ _ h4 g4, own_t_or _ _ _ _ h5 g5, own_t_or _ _ _ _ h6 g6]
theorem own_pk_xor {a0 a1 a2 a3 a4 a5 a6 a7 b0 b1 b2 b3 b4 b5 b6 b7 : Nat} (h0 : a0 < 256) (h1 : a1 < 256) (h2 : a2 < 256) (h3 : a3 < 256) (h4 : a4 < 256) (h5 : a5 < 256) (h6 : a6 < 256) (g0 : b0 < 256) (g1 : b1 < 256) (g2 : b2 < 256) (g3 : b3 < 256) (g4 : b4 < 256) (g5 : b5 < 256) (g6 : b6 < 256) :
    own_pk a0 a1 a2 a3 a4 a5 a6 a7 ^^^ own_pk b0 b1 b2 b3 b4 b5 b6 b7 = own_pk (a0 ^^^ b0) (a1 ^^^ b1) (a2 ^^^ b2) (a3 ^^^ b3) (a4 ^^^ b4) (a5 ^^^ b5) (a6 ^^^ b6) (a7 ^^^ b7) := by
  unfold own_pk
  rw [own_t_xor _ _ _ _ h0 g0, own_t_xor _ _ _ _ h1 g1, own_t_xor _ _ _ _ h2 g2, own_t_xor _ _ _ _ h3 g3, own_t_xor _ _ _ _ h4 g4, own_t_xor _ _ _ _ h5 g5, own_t_xor _ _ _ _ h6 g6]
theorem own_m255 {a : Nat} (h : a < 256) : a &&& 255 = a := Nat.and_two_pow_sub_one_of_lt_two_pow (n := 8) h
theorem own_k255 : own_nv (255 : Int64) = own_pk 255 0 0 0 0 0 0 0 := by decide

theorem own_sr1 {a0 a1 a2 a3 a4 a5 a6 a7 : Nat} (ha0 : a0 < 256) (ha1 : a1 < 256) (ha2 : a2 < 256) (ha3 : a3 < 256) (ha4 : a4 < 256) (ha5 : a5 < 256) (ha6 : a6 < 256) (ha7 : a7 < 256) : own_pk a0 a1 a2 a3 a4 a5 a6 a7 / 2 ^ 8 = own_pk a1 a2 a3 a4 a5 a6 a7 0 := by
  unfold own_pk; omega
theorem own_sr2 {a0 a1 a2 a3 a4 a5 a6 a7 : Nat} (ha0 : a0 < 256) (ha1 : a1 < 256) (ha2 : a2 < 256) (ha3 : a3 < 256) (ha4 : a4 < 256) (ha5 : a5 < 256) (ha6 : a6 < 256) (ha7 : a7 < 256) : own_pk a0 a1 a2 a3 a4 a5 a6 a7 / 2 ^ 16 = own_pk a2 a3 a4 a5 a6 a7 0 0 := by
  unfold own_pk; omega
theorem own_sr3 {a0 a1 a2 a3 a4 a5 a6 a7 : Nat} (ha0 : a0 < 256) (ha1 : a1 < 256) (ha2 : a2 < 256) (ha3 : a3 < 256) (ha4 : a4 < 256) (ha5 : a5 < 256) (ha6 : a6 < 256) (ha7 : a7 < 256) : own_pk a0 a1 a2 a3 a4 a5 a6 a7 / 2 ^ 24 = own_pk a3 a4 a5 a6 a7 0 0 0 := by
  unfold own_pk; omega
theorem own_sr4 {a0 a1 a2 a3 a4 a5 a6 a7 : Nat} (ha0 : a0 < 256) (ha1 : a1 < 256) (ha2 : a2 < 256) (ha3 : a3 < 256) (ha4 : a4 < 256) (ha5 : a5 < 256) (ha6 : a6 < 256) (ha7 : a7 < 256) : own_pk a0 a1 a2 a3 a4 a5 a6 a7 / 2 ^ 32 = own_pk a4 a5 a6 a7 0 0 0 0 := by
  unfold own_pk; omega
theorem own_sr5 {a0 a1 a2 a3 a4 a5 a6 a7 : Nat} (ha0 : a0 < 256) (ha1 : a1 < 256) (ha2 : a2 < 256) (ha3 : a3 < 256) (ha4 : a4 < 256) (ha5 : a5 < 256) (ha6 : a6 < 256) (ha7 : a7 < 256) : own_pk a0 a1 a2 a3 a4 a5 a6 a7 / 2 ^ 40 = own_pk a5 a6 a7 0 0 0 0 0 := by
  unfold own_pk; omega
theorem own_sr6 {a0 a1 a2 a3 a4 a5 a6 a7 : Nat} (ha0 : a0 < 256) (ha1 : a1 < 256) (ha2 : a2 < 256) (ha3 : a3 < 256) (ha4 : a4 < 256) (ha5 : a5 < 256) (ha6 : a6 < 256) (ha7 : a7 < 256) : own_pk a0 a1 a2 a3 a4 a5 a6 a7 / 2 ^ 48 = own_pk a6 a7 0 0 0 0 0 0 := by
  unfold own_pk; omega
theorem own_sr7 {a0 a1 a2 a3 a4 a5 a6 a7 : Nat} (ha0 : a0 < 256) (ha1 : a1 < 256) (ha2 : a2 < 256) (ha3 : a3 < 256) (ha4 : a4 < 256) (ha5 : a5 < 256) (ha6 : a6 < 256) (ha7 : a7 < 256) : own_pk a0 a1 a2 a3 a4 a5 a6 a7 / 2 ^ 56 = own_pk a7 0 0 0 0 0 0 0 := by
  unfold own_pk; omega
def own_dfb (a b : Nat) : Nat := ((a ||| 128) - (b &&& 127)) ^^^ ((a ^^^ (b ^^^ 255)) &&& 128)
def own_hib (a b : Nat) : Nat := ((((a ^^^ 255) &&& b) ||| (((a ^^^ b) ^^^ 255) &&& own_dfb a b)) &&& 128)
def own_onb (a b : Nat) : Nat := own_hib a b / 128
def own_chk (a b : Nat) : Bool := decide (own_dfb a b < 256) && decide (own_hib a b = 128 * own_onb a b) && decide (own_onb a b ≤ 1) && decide ((own_dfb a b ^^^ (255 * own_onb a b)) + own_onb a b = (a - b) + (b - a)) && decide (128 ≤ a ||| 128) && decide (a ||| 128 < 256) && decide (b &&& 127 < 128)
set_option maxRecDepth 100000 in
theorem own_all : ((List.range 256).all fun a => (List.range 256).all fun b => own_chk a b) = true := by decide +kernel
theorem own_ch {a b : Nat} (ha : a < 256) (hb : b < 256) : own_dfb a b < 256 ∧ own_hib a b = 128 * own_onb a b ∧ own_onb a b ≤ 1 ∧ (own_dfb a b ^^^ (255 * own_onb a b)) + own_onb a b = (a - b) + (b - a) ∧ 128 ≤ a ||| 128 ∧ a ||| 128 < 256 ∧ b &&& 127 < 128 := by
  have h := List.all_eq_true.mp (List.all_eq_true.mp own_all a (List.mem_range.mpr ha)) b (List.mem_range.mpr hb)
  simp only [own_chk, Bool.and_eq_true, decide_eq_true_eq] at h
  obtain ⟨⟨⟨⟨⟨⟨h1, h2⟩, h3⟩, h4⟩, h5⟩, h6⟩, h7⟩ := h
  exact ⟨h1, h2, h3, h4, h5, h6, h7⟩
theorem own_kH : own_nv (-9187201950435737472 : Int64) = own_pk 128 128 128 128 128 128 128 128 := by decide
theorem own_kL : own_nv (9187201950435737471 : Int64) = own_pk 127 127 127 127 127 127 127 127 := by decide
theorem own_kF : own_nv (-1 : Int64) = own_pk 255 255 255 255 255 255 255 255 := by decide
theorem own_x8 {a b : Nat} (ha : a < 256) (hb : b < 256) : a ^^^ b < 256 := Nat.xor_lt_two_pow (n := 8) ha hb
theorem own_a8 {a b : Nat} (hb : b < 256) : a &&& b < 256 := Nat.and_lt_two_pow (n := 8) a hb
theorem own_o8 {a b : Nat} (ha : a < 256) (hb : b < 256) : a ||| b < 256 := Nat.or_lt_two_pow (n := 8) ha hb
theorem own_psub0 {r0 r1 r2 r3 r4 r5 r6 r7 d0 d1 d2 d3 d4 d5 d6 d7 : Nat} (l0 : r0 + d0 < 256) (l1 : r1 + d1 < 256) (l2 : r2 + d2 < 256) (l3 : r3 + d3 < 256) (l4 : r4 + d4 < 256) (l5 : r5 + d5 < 256) (l6 : r6 + d6 < 256) (l7 : r7 + d7 < 256) : (18446744073709551616 - own_pk r0 r1 r2 r3 r4 r5 r6 r7 + own_pk (r0 + d0) (r1 + d1) (r2 + d2) (r3 + d3) (r4 + d4) (r5 + d5) (r6 + d6) (r7 + d7)) % 18446744073709551616 = own_pk d0 d1 d2 d3 d4 d5 d6 d7 := by
  unfold own_pk; omega
theorem own_ps1 {p r : Nat} (hr : r < 128) (l : 128 ≤ p) : r + (p - r) = p := by omega
theorem own_psub {p0 p1 p2 p3 p4 p5 p6 p7 r0 r1 r2 r3 r4 r5 r6 r7 : Nat} (hp0 : p0 < 256) (hp1 : p1 < 256) (hp2 : p2 < 256) (hp3 : p3 < 256) (hp4 : p4 < 256) (hp5 : p5 < 256) (hp6 : p6 < 256) (hp7 : p7 < 256) (hr0 : r0 < 128) (hr1 : r1 < 128) (hr2 : r2 < 128) (hr3 : r3 < 128) (hr4 : r4 < 128) (hr5 : r5 < 128) (hr6 : r6 < 128) (hr7 : r7 < 128) (l0 : 128 ≤ p0) (l1 : 128 ≤ p1) (l2 : 128 ≤ p2) (l3 : 128 ≤ p3) (l4 : 128 ≤ p4) (l5 : 128 ≤ p5) (l6 : 128 ≤ p6) (l7 : 128 ≤ p7) : (18446744073709551616 - own_pk r0 r1 r2 r3 r4 r5 r6 r7 + own_pk p0 p1 p2 p3 p4 p5 p6 p7) % 18446744073709551616 = own_pk (p0 - r0) (p1 - r1) (p2 - r2) (p3 - r3) (p4 - r4) (p5 - r5) (p6 - r6) (p7 - r7) := by
  have h := own_psub0 (r0 := r0) (d0 := p0 - r0) (r1 := r1) (d1 := p1 - r1) (r2 := r2) (d2 := p2 - r2) (r3 := r3) (d3 := p3 - r3) (r4 := r4) (d4 := p4 - r4) (r5 := r5) (d5 := p5 - r5) (r6 := r6) (d6 := p6 - r6) (r7 := r7) (d7 := p7 - r7) (by rw [own_ps1 hr0 l0]; exact hp0) (by rw [own_ps1 hr1 l1]; exact hp1) (by rw [own_ps1 hr2 l2]; exact hp2) (by rw [own_ps1 hr3 l3]; exact hp3) (by rw [own_ps1 hr4 l4]; exact hp4) (by rw [own_ps1 hr5 l5]; exact hp5) (by rw [own_ps1 hr6 l6]; exact hp6) (by rw [own_ps1 hr7 l7]; exact hp7)
  rw [own_ps1 hr0 l0, own_ps1 hr1 l1, own_ps1 hr2 l2, own_ps1 hr3 l3, own_ps1 hr4 l4, own_ps1 hr5 l5, own_ps1 hr6 l6, own_ps1 hr7 l7] at h
  exact h
theorem own_p7 {t0 t1 t2 t3 t4 t5 t6 t7 : Nat} (ht0 : t0 < 2) (ht1 : t1 < 2) (ht2 : t2 < 2) (ht3 : t3 < 2) (ht4 : t4 < 2) (ht5 : t5 < 2) (ht6 : t6 < 2) (ht7 : t7 < 2) : own_pk (128 * t0) (128 * t1) (128 * t2) (128 * t3) (128 * t4) (128 * t5) (128 * t6) (128 * t7) / 2 ^ 7 = own_pk t0 t1 t2 t3 t4 t5 t6 t7 := by
  unfold own_pk; omega
theorem own_pm {t0 t1 t2 t3 t4 t5 t6 t7 : Nat} (ht0 : t0 < 2) (ht1 : t1 < 2) (ht2 : t2 < 2) (ht3 : t3 < 2) (ht4 : t4 < 2) (ht5 : t5 < 2) (ht6 : t6 < 2) (ht7 : t7 < 2) : own_pk t0 t1 t2 t3 t4 t5 t6 t7 * 255 % 18446744073709551616 = own_pk (255 * t0) (255 * t1) (255 * t2) (255 * t3) (255 * t4) (255 * t5) (255 * t6) (255 * t7) := by
  unfold own_pk; omega
theorem own_pa {u0 u1 u2 u3 u4 u5 u6 u7 t0 t1 t2 t3 t4 t5 t6 t7 : Nat} (l0 : u0 + t0 < 256) (l1 : u1 + t1 < 256) (l2 : u2 + t2 < 256) (l3 : u3 + t3 < 256) (l4 : u4 + t4 < 256) (l5 : u5 + t5 < 256) (l6 : u6 + t6 < 256) (l7 : u7 + t7 < 256) : (own_pk u0 u1 u2 u3 u4 u5 u6 u7 + own_pk t0 t1 t2 t3 t4 t5 t6 t7) % 18446744073709551616 = own_pk (u0 + t0) (u1 + t1) (u2 + t2) (u3 + t3) (u4 + t4) (u5 + t5) (u6 + t6) (u7 + t7) := by
  unfold own_pk; omega
theorem own_dfe {a b : Int64} {a0 a1 a2 a3 a4 a5 a6 a7 b0 b1 b2 b3 b4 b5 b6 b7 : Nat} (ha0 : a0 < 256) (ha1 : a1 < 256) (ha2 : a2 < 256) (ha3 : a3 < 256) (ha4 : a4 < 256) (ha5 : a5 < 256) (ha6 : a6 < 256) (ha7 : a7 < 256) (hb0 : b0 < 256) (hb1 : b1 < 256) (hb2 : b2 < 256) (hb3 : b3 < 256) (hb4 : b4 < 256) (hb5 : b5 < 256) (hb6 : b6 < 256) (hb7 : b7 < 256) (ea : own_nv a = own_pk a0 a1 a2 a3 a4 a5 a6 a7) (eb : own_nv b = own_pk b0 b1 b2 b3 b4 b5 b6 b7) : own_nv (own_df a b) = own_pk (own_dfb a0 b0) (own_dfb a1 b1) (own_dfb a2 b2) (own_dfb a3 b3) (own_dfb a4 b4) (own_dfb a5 b5) (own_dfb a6 b6) (own_dfb a7 b7) := by
  unfold own_df
  rw [own_nv_xor, own_nv_sub, own_nv_or, own_nv_and, own_nv_and, own_nv_xor, own_nv_xor, ea, eb, own_kH, own_kL, own_kF]
  rw [own_pk_or ha0 ha1 ha2 ha3 ha4 ha5 ha6 (by decide) (by decide) (by decide) (by decide) (by decide) (by decide) (by decide), own_pk_and hb0 hb1 hb2 hb3 hb4 hb5 hb6 (by decide) (by decide) (by decide) (by decide) (by decide) (by decide) (by decide), own_pk_xor hb0 hb1 hb2 hb3 hb4 hb5 hb6 (by decide) (by decide) (by decide) (by decide) (by decide) (by decide) (by decide), own_pk_xor ha0 ha1 ha2 ha3 ha4 ha5 ha6 (own_x8 hb0 (by decide)) (own_x8 hb1 (by decide)) (own_x8 hb2 (by decide)) (own_x8 hb3 (by decide)) (own_x8 hb4 (by decide)) (own_x8 hb5 (by decide)) (own_x8 hb6 (by decide)), own_pk_and (own_x8 ha0 (own_x8 hb0 (by decide))) (own_x8 ha1 (own_x8 hb1 (by decide))) (own_x8 ha2 (own_x8 hb2 (by decide))) (own_x8 ha3 (own_x8 hb3 (by decide))) (own_x8 ha4 (own_x8 hb4 (by decide))) (own_x8 ha5 (own_x8 hb5 (by decide))) (own_x8 ha6 (own_x8 hb6 (by decide))) (by decide) (by decide) (by decide) (by decide) (by decide) (by decide) (by decide)]
  rw [own_psub ((own_ch ha0 hb0).2.2.2.2.2.1) ((own_ch ha1 hb1).2.2.2.2.2.1) ((own_ch ha2 hb2).2.2.2.2.2.1) ((own_ch ha3 hb3).2.2.2.2.2.1) ((own_ch ha4 hb4).2.2.2.2.2.1) ((own_ch ha5 hb5).2.2.2.2.2.1) ((own_ch ha6 hb6).2.2.2.2.2.1) ((own_ch ha7 hb7).2.2.2.2.2.1) ((own_ch ha0 hb0).2.2.2.2.2.2) ((own_ch ha1 hb1).2.2.2.2.2.2) ((own_ch ha2 hb2).2.2.2.2.2.2) ((own_ch ha3 hb3).2.2.2.2.2.2) ((own_ch ha4 hb4).2.2.2.2.2.2) ((own_ch ha5 hb5).2.2.2.2.2.2) ((own_ch ha6 hb6).2.2.2.2.2.2) ((own_ch ha7 hb7).2.2.2.2.2.2) ((own_ch ha0 hb0).2.2.2.2.1) ((own_ch ha1 hb1).2.2.2.2.1) ((own_ch ha2 hb2).2.2.2.2.1) ((own_ch ha3 hb3).2.2.2.2.1) ((own_ch ha4 hb4).2.2.2.2.1) ((own_ch ha5 hb5).2.2.2.2.1) ((own_ch ha6 hb6).2.2.2.2.1) ((own_ch ha7 hb7).2.2.2.2.1), own_pk_xor (Nat.lt_of_le_of_lt (Nat.sub_le _ _) (own_ch ha0 hb0).2.2.2.2.2.1) (Nat.lt_of_le_of_lt (Nat.sub_le _ _) (own_ch ha1 hb1).2.2.2.2.2.1) (Nat.lt_of_le_of_lt (Nat.sub_le _ _) (own_ch ha2 hb2).2.2.2.2.2.1) (Nat.lt_of_le_of_lt (Nat.sub_le _ _) (own_ch ha3 hb3).2.2.2.2.2.1) (Nat.lt_of_le_of_lt (Nat.sub_le _ _) (own_ch ha4 hb4).2.2.2.2.2.1) (Nat.lt_of_le_of_lt (Nat.sub_le _ _) (own_ch ha5 hb5).2.2.2.2.2.1) (Nat.lt_of_le_of_lt (Nat.sub_le _ _) (own_ch ha6 hb6).2.2.2.2.2.1) (own_a8 (by decide)) (own_a8 (by decide)) (own_a8 (by decide)) (own_a8 (by decide)) (own_a8 (by decide)) (own_a8 (by decide)) (own_a8 (by decide))]
  rfl
theorem own_one {a b : Int64} {a0 a1 a2 a3 a4 a5 a6 a7 b0 b1 b2 b3 b4 b5 b6 b7 : Nat} (ha0 : a0 < 256) (ha1 : a1 < 256) (ha2 : a2 < 256) (ha3 : a3 < 256) (ha4 : a4 < 256) (ha5 : a5 < 256) (ha6 : a6 < 256) (ha7 : a7 < 256) (hb0 : b0 < 256) (hb1 : b1 < 256) (hb2 : b2 < 256) (hb3 : b3 < 256) (hb4 : b4 < 256) (hb5 : b5 < 256) (hb6 : b6 < 256) (hb7 : b7 < 256) (ea : own_nv a = own_pk a0 a1 a2 a3 a4 a5 a6 a7) (eb : own_nv b = own_pk b0 b1 b2 b3 b4 b5 b6 b7) : own_nv (own_on a b) = own_pk (own_onb a0 b0) (own_onb a1 b1) (own_onb a2 b2) (own_onb a3 b3) (own_onb a4 b4) (own_onb a5 b5) (own_onb a6 b6) (own_onb a7 b7) := by
  unfold own_on
  rw [own_nv_us _ 7 7 (by decide), own_nv_and, own_nv_or, own_nv_and, own_nv_and, own_nv_xor, own_nv_xor, own_nv_xor, own_dfe ha0 ha1 ha2 ha3 ha4 ha5 ha6 ha7 hb0 hb1 hb2 hb3 hb4 hb5 hb6 hb7 ea eb, ea, eb, own_kH, own_kF]
  rw [own_pk_xor ha0 ha1 ha2 ha3 ha4 ha5 ha6 (by decide) (by decide) (by decide) (by decide) (by decide) (by decide) (by decide), own_pk_and (own_x8 ha0 (by decide)) (own_x8 ha1 (by decide)) (own_x8 ha2 (by decide)) (own_x8 ha3 (by decide)) (own_x8 ha4 (by decide)) (own_x8 ha5 (by decide)) (own_x8 ha6 (by decide)) hb0 hb1 hb2 hb3 hb4 hb5 hb6, own_pk_xor ha0 ha1 ha2 ha3 ha4 ha5 ha6 hb0 hb1 hb2 hb3 hb4 hb5 hb6, own_pk_xor (own_x8 ha0 hb0) (own_x8 ha1 hb1) (own_x8 ha2 hb2) (own_x8 ha3 hb3) (own_x8 ha4 hb4) (own_x8 ha5 hb5) (own_x8 ha6 hb6) (by decide) (by decide) (by decide) (by decide) (by decide) (by decide) (by decide), own_pk_and (own_x8 (own_x8 ha0 hb0) (by decide)) (own_x8 (own_x8 ha1 hb1) (by decide)) (own_x8 (own_x8 ha2 hb2) (by decide)) (own_x8 (own_x8 ha3 hb3) (by decide)) (own_x8 (own_x8 ha4 hb4) (by decide)) (own_x8 (own_x8 ha5 hb5) (by decide)) (own_x8 (own_x8 ha6 hb6) (by decide)) ((own_ch ha0 hb0).1) ((own_ch ha1 hb1).1) ((own_ch ha2 hb2).1) ((own_ch ha3 hb3).1) ((own_ch ha4 hb4).1) ((own_ch ha5 hb5).1) ((own_ch ha6 hb6).1), own_pk_or (own_a8 hb0) (own_a8 hb1) (own_a8 hb2) (own_a8 hb3) (own_a8 hb4) (own_a8 hb5) (own_a8 hb6) (own_a8 (own_ch ha0 hb0).1) (own_a8 (own_ch ha1 hb1).1) (own_a8 (own_ch ha2 hb2).1) (own_a8 (own_ch ha3 hb3).1) (own_a8 (own_ch ha4 hb4).1) (own_a8 (own_ch ha5 hb5).1) (own_a8 (own_ch ha6 hb6).1), own_pk_and (own_o8 (own_a8 hb0) (own_a8 (own_ch ha0 hb0).1)) (own_o8 (own_a8 hb1) (own_a8 (own_ch ha1 hb1).1)) (own_o8 (own_a8 hb2) (own_a8 (own_ch ha2 hb2).1)) (own_o8 (own_a8 hb3) (own_a8 (own_ch ha3 hb3).1)) (own_o8 (own_a8 hb4) (own_a8 (own_ch ha4 hb4).1)) (own_o8 (own_a8 hb5) (own_a8 (own_ch ha5 hb5).1)) (own_o8 (own_a8 hb6) (own_a8 (own_ch ha6 hb6).1)) (by decide) (by decide) (by decide) (by decide) (by decide) (by decide) (by decide)]
  have q : own_pk (own_hib a0 b0) (own_hib a1 b1) (own_hib a2 b2) (own_hib a3 b3) (own_hib a4 b4) (own_hib a5 b5) (own_hib a6 b6) (own_hib a7 b7) = own_pk (128 * own_onb a0 b0) (128 * own_onb a1 b1) (128 * own_onb a2 b2) (128 * own_onb a3 b3) (128 * own_onb a4 b4) (128 * own_onb a5 b5) (128 * own_onb a6 b6) (128 * own_onb a7 b7) := by rw [(own_ch ha0 hb0).2.1, (own_ch ha1 hb1).2.1, (own_ch ha2 hb2).2.1, (own_ch ha3 hb3).2.1, (own_ch ha4 hb4).2.1, (own_ch ha5 hb5).2.1, (own_ch ha6 hb6).2.1, (own_ch ha7 hb7).2.1]
  exact (congrArg (· / 2 ^ 7) q).trans (own_p7 (Nat.lt_succ_of_le (own_ch ha0 hb0).2.2.1) (Nat.lt_succ_of_le (own_ch ha1 hb1).2.2.1) (Nat.lt_succ_of_le (own_ch ha2 hb2).2.2.1) (Nat.lt_succ_of_le (own_ch ha3 hb3).2.2.1) (Nat.lt_succ_of_le (own_ch ha4 hb4).2.2.1) (Nat.lt_succ_of_le (own_ch ha5 hb5).2.2.1) (Nat.lt_succ_of_le (own_ch ha6 hb6).2.2.1) (Nat.lt_succ_of_le (own_ch ha7 hb7).2.2.1))
theorem own_d8 {a b : Nat} (ha : a < 256) (hb : b < 256) : (a - b) + (b - a) < 256 := by omega
theorem own_ade {a b : Int64} {a0 a1 a2 a3 a4 a5 a6 a7 b0 b1 b2 b3 b4 b5 b6 b7 : Nat} (ha0 : a0 < 256) (ha1 : a1 < 256) (ha2 : a2 < 256) (ha3 : a3 < 256) (ha4 : a4 < 256) (ha5 : a5 < 256) (ha6 : a6 < 256) (ha7 : a7 < 256) (hb0 : b0 < 256) (hb1 : b1 < 256) (hb2 : b2 < 256) (hb3 : b3 < 256) (hb4 : b4 < 256) (hb5 : b5 < 256) (hb6 : b6 < 256) (hb7 : b7 < 256) (ea : own_nv a = own_pk a0 a1 a2 a3 a4 a5 a6 a7) (eb : own_nv b = own_pk b0 b1 b2 b3 b4 b5 b6 b7) : own_nv (own_ad a b) = own_pk ((a0 - b0) + (b0 - a0)) ((a1 - b1) + (b1 - a1)) ((a2 - b2) + (b2 - a2)) ((a3 - b3) + (b3 - a3)) ((a4 - b4) + (b4 - a4)) ((a5 - b5) + (b5 - a5)) ((a6 - b6) + (b6 - a6)) ((a7 - b7) + (b7 - a7)) := by
  have k : own_nv (255 : Int64) = 255 := by decide
  unfold own_ad
  rw [own_nv_add, own_nv_xor, own_nv_mul, own_one ha0 ha1 ha2 ha3 ha4 ha5 ha6 ha7 hb0 hb1 hb2 hb3 hb4 hb5 hb6 hb7 ea eb, own_dfe ha0 ha1 ha2 ha3 ha4 ha5 ha6 ha7 hb0 hb1 hb2 hb3 hb4 hb5 hb6 hb7 ea eb, k, own_pm (Nat.lt_succ_of_le (own_ch ha0 hb0).2.2.1) (Nat.lt_succ_of_le (own_ch ha1 hb1).2.2.1) (Nat.lt_succ_of_le (own_ch ha2 hb2).2.2.1) (Nat.lt_succ_of_le (own_ch ha3 hb3).2.2.1) (Nat.lt_succ_of_le (own_ch ha4 hb4).2.2.1) (Nat.lt_succ_of_le (own_ch ha5 hb5).2.2.1) (Nat.lt_succ_of_le (own_ch ha6 hb6).2.2.1) (Nat.lt_succ_of_le (own_ch ha7 hb7).2.2.1)]
  rw [own_pk_xor ((own_ch ha0 hb0).1) ((own_ch ha1 hb1).1) ((own_ch ha2 hb2).1) ((own_ch ha3 hb3).1) ((own_ch ha4 hb4).1) ((own_ch ha5 hb5).1) ((own_ch ha6 hb6).1) (Nat.lt_of_le_of_lt (Nat.mul_le_mul_left 255 (own_ch ha0 hb0).2.2.1) (by decide)) (Nat.lt_of_le_of_lt (Nat.mul_le_mul_left 255 (own_ch ha1 hb1).2.2.1) (by decide)) (Nat.lt_of_le_of_lt (Nat.mul_le_mul_left 255 (own_ch ha2 hb2).2.2.1) (by decide)) (Nat.lt_of_le_of_lt (Nat.mul_le_mul_left 255 (own_ch ha3 hb3).2.2.1) (by decide)) (Nat.lt_of_le_of_lt (Nat.mul_le_mul_left 255 (own_ch ha4 hb4).2.2.1) (by decide)) (Nat.lt_of_le_of_lt (Nat.mul_le_mul_left 255 (own_ch ha5 hb5).2.2.1) (by decide)) (Nat.lt_of_le_of_lt (Nat.mul_le_mul_left 255 (own_ch ha6 hb6).2.2.1) (by decide)), own_pa (by rw [(own_ch ha0 hb0).2.2.2.1]; exact own_d8 ha0 hb0) (by rw [(own_ch ha1 hb1).2.2.2.1]; exact own_d8 ha1 hb1) (by rw [(own_ch ha2 hb2).2.2.2.1]; exact own_d8 ha2 hb2) (by rw [(own_ch ha3 hb3).2.2.2.1]; exact own_d8 ha3 hb3) (by rw [(own_ch ha4 hb4).2.2.2.1]; exact own_d8 ha4 hb4) (by rw [(own_ch ha5 hb5).2.2.2.1]; exact own_d8 ha5 hb5) (by rw [(own_ch ha6 hb6).2.2.2.1]; exact own_d8 ha6 hb6) (by rw [(own_ch ha7 hb7).2.2.2.1]; exact own_d8 ha7 hb7), (own_ch ha0 hb0).2.2.2.1, (own_ch ha1 hb1).2.2.2.1, (own_ch ha2 hb2).2.2.2.1, (own_ch ha3 hb3).2.2.2.1, (own_ch ha4 hb4).2.2.2.1, (own_ch ha5 hb5).2.2.2.1, (own_ch ha6 hb6).2.2.2.1, (own_ch ha7 hb7).2.2.2.1]
theorem own_small {y : Int64} {n : Nat} (hn : n < 256) (h : own_nv y = n) : y.toInt32.toInt = (n : Int) := by
  have t2 : y.toInt = y.toBitVec.toInt := rfl
  have t1 : y.toInt = (n : Int) := by
    rw [t2, BitVec.toInt_eq_toNat_of_lt]
    · show ((own_nv y : Nat) : Int) = _
      rw [h]
    · show 2 * own_nv y < _
      rw [h]; omega
  have h2 := c_l2i y
  have r := rng32 y.toInt32
  omega
theorem own_key {x y z : Int32} {A B : Nat} (hA : A < 256) (hB : B < 256) (hx : x.toInt = (A : Int)) (hy : y.toInt = (B : Int)) (hz : z.toInt = (((A - B) + (B - A) : Nat) : Int)) : z = own_abs (x - y) := by
  apply Int32.toInt_inj.mp
  have h1 := c_isub x y
  have r := rng32 (x - y)
  have e : (x - y).toInt = (A : Int) - (B : Int) := by omega
  have k : (0 : Int32).toInt = 0 := by decide
  unfold own_abs
  split
  · rename_i q; rw [Int32.lt_iff_toInt_lt] at q
    have h2 := c_ineg (x - y); have r2 := rng32 (-(x - y))
    omega
  · rename_i q; rw [Int32.lt_iff_toInt_lt] at q
    omega
theorem own_by0 {x : Int64} {a0 a1 a2 a3 a4 a5 a6 a7 : Nat} (ha0 : a0 < 256) (ha1 : a1 < 256) (ha2 : a2 < 256) (ha3 : a3 < 256) (ha4 : a4 < 256) (ha5 : a5 < 256) (ha6 : a6 < 256) (ha7 : a7 < 256) (e : own_nv x = own_pk a0 a1 a2 a3 a4 a5 a6 a7) : (own_by x (0 : Int32)).toInt = (a0 : Int) := by
  refine own_small ha0 ?_
  rw [own_nv_and, own_nv_us x 0 0 (by decide), e, own_k255, Nat.pow_zero, Nat.div_one, own_pk_and ha0 ha1 ha2 ha3 ha4 ha5 ha6 (by decide) (by decide) (by decide) (by decide) (by decide) (by decide) (by decide), own_m255 ha0]
  simp
theorem own_law0 (a b : Int64) : ¬ own_lane a b (own_ad a b) (0 : Int32) = (0 : Int32) := by
  obtain ⟨a0, a1, a2, a3, a4, a5, a6, a7, ha0, ha1, ha2, ha3, ha4, ha5, ha6, ha7, ea⟩ := own_nv_bytes a
  obtain ⟨b0, b1, b2, b3, b4, b5, b6, b7, hb0, hb1, hb2, hb3, hb4, hb5, hb6, hb7, eb⟩ := own_nv_bytes b
  have er := own_ade ha0 ha1 ha2 ha3 ha4 ha5 ha6 ha7 hb0 hb1 hb2 hb3 hb4 hb5 hb6 hb7 ea eb
  unfold own_lane
  rw [if_pos (own_key ha0 hb0 (own_by0 ha0 ha1 ha2 ha3 ha4 ha5 ha6 ha7 ea) (own_by0 hb0 hb1 hb2 hb3 hb4 hb5 hb6 hb7 eb) (own_by0 (own_d8 ha0 hb0) (own_d8 ha1 hb1) (own_d8 ha2 hb2) (own_d8 ha3 hb3) (own_d8 ha4 hb4) (own_d8 ha5 hb5) (own_d8 ha6 hb6) (own_d8 ha7 hb7) er))]
  decide
theorem own_by1 {x : Int64} {a0 a1 a2 a3 a4 a5 a6 a7 : Nat} (ha0 : a0 < 256) (ha1 : a1 < 256) (ha2 : a2 < 256) (ha3 : a3 < 256) (ha4 : a4 < 256) (ha5 : a5 < 256) (ha6 : a6 < 256) (ha7 : a7 < 256) (e : own_nv x = own_pk a0 a1 a2 a3 a4 a5 a6 a7) : (own_by x (8 : Int32)).toInt = (a1 : Int) := by
  refine own_small ha1 ?_
  rw [own_nv_and, own_nv_us x 8 8 (by decide), e, own_k255, own_sr1 ha0 ha1 ha2 ha3 ha4 ha5 ha6 ha7, own_pk_and ha1 ha2 ha3 ha4 ha5 ha6 ha7 (by decide) (by decide) (by decide) (by decide) (by decide) (by decide) (by decide), own_m255 ha1]
  simp
theorem own_law1 (a b : Int64) : ¬ own_lane a b (own_ad a b) (8 : Int32) = (0 : Int32) := by
  obtain ⟨a0, a1, a2, a3, a4, a5, a6, a7, ha0, ha1, ha2, ha3, ha4, ha5, ha6, ha7, ea⟩ := own_nv_bytes a
  obtain ⟨b0, b1, b2, b3, b4, b5, b6, b7, hb0, hb1, hb2, hb3, hb4, hb5, hb6, hb7, eb⟩ := own_nv_bytes b
  have er := own_ade ha0 ha1 ha2 ha3 ha4 ha5 ha6 ha7 hb0 hb1 hb2 hb3 hb4 hb5 hb6 hb7 ea eb
  unfold own_lane
  rw [if_pos (own_key ha1 hb1 (own_by1 ha0 ha1 ha2 ha3 ha4 ha5 ha6 ha7 ea) (own_by1 hb0 hb1 hb2 hb3 hb4 hb5 hb6 hb7 eb) (own_by1 (own_d8 ha0 hb0) (own_d8 ha1 hb1) (own_d8 ha2 hb2) (own_d8 ha3 hb3) (own_d8 ha4 hb4) (own_d8 ha5 hb5) (own_d8 ha6 hb6) (own_d8 ha7 hb7) er))]
  decide
theorem own_by2 {x : Int64} {a0 a1 a2 a3 a4 a5 a6 a7 : Nat} (ha0 : a0 < 256) (ha1 : a1 < 256) (ha2 : a2 < 256) (ha3 : a3 < 256) (ha4 : a4 < 256) (ha5 : a5 < 256) (ha6 : a6 < 256) (ha7 : a7 < 256) (e : own_nv x = own_pk a0 a1 a2 a3 a4 a5 a6 a7) : (own_by x (16 : Int32)).toInt = (a2 : Int) := by
  refine own_small ha2 ?_
  rw [own_nv_and, own_nv_us x 16 16 (by decide), e, own_k255, own_sr2 ha0 ha1 ha2 ha3 ha4 ha5 ha6 ha7, own_pk_and ha2 ha3 ha4 ha5 ha6 ha7 (by decide) (by decide) (by decide) (by decide) (by decide) (by decide) (by decide) (by decide), own_m255 ha2]
  simp
theorem own_law2 (a b : Int64) : ¬ own_lane a b (own_ad a b) (16 : Int32) = (0 : Int32) := by
  obtain ⟨a0, a1, a2, a3, a4, a5, a6, a7, ha0, ha1, ha2, ha3, ha4, ha5, ha6, ha7, ea⟩ := own_nv_bytes a
  obtain ⟨b0, b1, b2, b3, b4, b5, b6, b7, hb0, hb1, hb2, hb3, hb4, hb5, hb6, hb7, eb⟩ := own_nv_bytes b
  have er := own_ade ha0 ha1 ha2 ha3 ha4 ha5 ha6 ha7 hb0 hb1 hb2 hb3 hb4 hb5 hb6 hb7 ea eb
  unfold own_lane
  rw [if_pos (own_key ha2 hb2 (own_by2 ha0 ha1 ha2 ha3 ha4 ha5 ha6 ha7 ea) (own_by2 hb0 hb1 hb2 hb3 hb4 hb5 hb6 hb7 eb) (own_by2 (own_d8 ha0 hb0) (own_d8 ha1 hb1) (own_d8 ha2 hb2) (own_d8 ha3 hb3) (own_d8 ha4 hb4) (own_d8 ha5 hb5) (own_d8 ha6 hb6) (own_d8 ha7 hb7) er))]
  decide
theorem own_by3 {x : Int64} {a0 a1 a2 a3 a4 a5 a6 a7 : Nat} (ha0 : a0 < 256) (ha1 : a1 < 256) (ha2 : a2 < 256) (ha3 : a3 < 256) (ha4 : a4 < 256) (ha5 : a5 < 256) (ha6 : a6 < 256) (ha7 : a7 < 256) (e : own_nv x = own_pk a0 a1 a2 a3 a4 a5 a6 a7) : (own_by x (24 : Int32)).toInt = (a3 : Int) := by
  refine own_small ha3 ?_
  rw [own_nv_and, own_nv_us x 24 24 (by decide), e, own_k255, own_sr3 ha0 ha1 ha2 ha3 ha4 ha5 ha6 ha7, own_pk_and ha3 ha4 ha5 ha6 ha7 (by decide) (by decide) (by decide) (by decide) (by decide) (by decide) (by decide) (by decide) (by decide), own_m255 ha3]
  simp
theorem own_law3 (a b : Int64) : ¬ own_lane a b (own_ad a b) (24 : Int32) = (0 : Int32) := by
  obtain ⟨a0, a1, a2, a3, a4, a5, a6, a7, ha0, ha1, ha2, ha3, ha4, ha5, ha6, ha7, ea⟩ := own_nv_bytes a
  obtain ⟨b0, b1, b2, b3, b4, b5, b6, b7, hb0, hb1, hb2, hb3, hb4, hb5, hb6, hb7, eb⟩ := own_nv_bytes b
  have er := own_ade ha0 ha1 ha2 ha3 ha4 ha5 ha6 ha7 hb0 hb1 hb2 hb3 hb4 hb5 hb6 hb7 ea eb
  unfold own_lane
  rw [if_pos (own_key ha3 hb3 (own_by3 ha0 ha1 ha2 ha3 ha4 ha5 ha6 ha7 ea) (own_by3 hb0 hb1 hb2 hb3 hb4 hb5 hb6 hb7 eb) (own_by3 (own_d8 ha0 hb0) (own_d8 ha1 hb1) (own_d8 ha2 hb2) (own_d8 ha3 hb3) (own_d8 ha4 hb4) (own_d8 ha5 hb5) (own_d8 ha6 hb6) (own_d8 ha7 hb7) er))]
  decide
theorem own_by4 {x : Int64} {a0 a1 a2 a3 a4 a5 a6 a7 : Nat} (ha0 : a0 < 256) (ha1 : a1 < 256) (ha2 : a2 < 256) (ha3 : a3 < 256) (ha4 : a4 < 256) (ha5 : a5 < 256) (ha6 : a6 < 256) (ha7 : a7 < 256) (e : own_nv x = own_pk a0 a1 a2 a3 a4 a5 a6 a7) : (own_by x (32 : Int32)).toInt = (a4 : Int) := by
  refine own_small ha4 ?_
  rw [own_nv_and, own_nv_us x 32 32 (by decide), e, own_k255, own_sr4 ha0 ha1 ha2 ha3 ha4 ha5 ha6 ha7, own_pk_and ha4 ha5 ha6 ha7 (by decide) (by decide) (by decide) (by decide) (by decide) (by decide) (by decide) (by decide) (by decide) (by decide), own_m255 ha4]
  simp
theorem own_law4 (a b : Int64) : ¬ own_lane a b (own_ad a b) (32 : Int32) = (0 : Int32) := by
  obtain ⟨a0, a1, a2, a3, a4, a5, a6, a7, ha0, ha1, ha2, ha3, ha4, ha5, ha6, ha7, ea⟩ := own_nv_bytes a
  obtain ⟨b0, b1, b2, b3, b4, b5, b6, b7, hb0, hb1, hb2, hb3, hb4, hb5, hb6, hb7, eb⟩ := own_nv_bytes b
  have er := own_ade ha0 ha1 ha2 ha3 ha4 ha5 ha6 ha7 hb0 hb1 hb2 hb3 hb4 hb5 hb6 hb7 ea eb
  unfold own_lane
  rw [if_pos (own_key ha4 hb4 (own_by4 ha0 ha1 ha2 ha3 ha4 ha5 ha6 ha7 ea) (own_by4 hb0 hb1 hb2 hb3 hb4 hb5 hb6 hb7 eb) (own_by4 (own_d8 ha0 hb0) (own_d8 ha1 hb1) (own_d8 ha2 hb2) (own_d8 ha3 hb3) (own_d8 ha4 hb4) (own_d8 ha5 hb5) (own_d8 ha6 hb6) (own_d8 ha7 hb7) er))]
  decide
theorem own_by5 {x : Int64} {a0 a1 a2 a3 a4 a5 a6 a7 : Nat} (ha0 : a0 < 256) (ha1 : a1 < 256) (ha2 : a2 < 256) (ha3 : a3 < 256) (ha4 : a4 < 256) (ha5 : a5 < 256) (ha6 : a6 < 256) (ha7 : a7 < 256) (e : own_nv x = own_pk a0 a1 a2 a3 a4 a5 a6 a7) : (own_by x (40 : Int32)).toInt = (a5 : Int) := by
  refine own_small ha5 ?_
  rw [own_nv_and, own_nv_us x 40 40 (by decide), e, own_k255, own_sr5 ha0 ha1 ha2 ha3 ha4 ha5 ha6 ha7, own_pk_and ha5 ha6 ha7 (by decide) (by decide) (by decide) (by decide) (by decide) (by decide) (by decide) (by decide) (by decide) (by decide) (by decide), own_m255 ha5]
  simp
theorem own_law5 (a b : Int64) : ¬ own_lane a b (own_ad a b) (40 : Int32) = (0 : Int32) := by
  obtain ⟨a0, a1, a2, a3, a4, a5, a6, a7, ha0, ha1, ha2, ha3, ha4, ha5, ha6, ha7, ea⟩ := own_nv_bytes a
  obtain ⟨b0, b1, b2, b3, b4, b5, b6, b7, hb0, hb1, hb2, hb3, hb4, hb5, hb6, hb7, eb⟩ := own_nv_bytes b
  have er := own_ade ha0 ha1 ha2 ha3 ha4 ha5 ha6 ha7 hb0 hb1 hb2 hb3 hb4 hb5 hb6 hb7 ea eb
  unfold own_lane
  rw [if_pos (own_key ha5 hb5 (own_by5 ha0 ha1 ha2 ha3 ha4 ha5 ha6 ha7 ea) (own_by5 hb0 hb1 hb2 hb3 hb4 hb5 hb6 hb7 eb) (own_by5 (own_d8 ha0 hb0) (own_d8 ha1 hb1) (own_d8 ha2 hb2) (own_d8 ha3 hb3) (own_d8 ha4 hb4) (own_d8 ha5 hb5) (own_d8 ha6 hb6) (own_d8 ha7 hb7) er))]
  decide
theorem own_by6 {x : Int64} {a0 a1 a2 a3 a4 a5 a6 a7 : Nat} (ha0 : a0 < 256) (ha1 : a1 < 256) (ha2 : a2 < 256) (ha3 : a3 < 256) (ha4 : a4 < 256) (ha5 : a5 < 256) (ha6 : a6 < 256) (ha7 : a7 < 256) (e : own_nv x = own_pk a0 a1 a2 a3 a4 a5 a6 a7) : (own_by x (48 : Int32)).toInt = (a6 : Int) := by
  refine own_small ha6 ?_
  rw [own_nv_and, own_nv_us x 48 48 (by decide), e, own_k255, own_sr6 ha0 ha1 ha2 ha3 ha4 ha5 ha6 ha7, own_pk_and ha6 ha7 (by decide) (by decide) (by decide) (by decide) (by decide) (by decide) (by decide) (by decide) (by decide) (by decide) (by decide) (by decide), own_m255 ha6]
  simp
theorem own_law6 (a b : Int64) : ¬ own_lane a b (own_ad a b) (48 : Int32) = (0 : Int32) := by
  obtain ⟨a0, a1, a2, a3, a4, a5, a6, a7, ha0, ha1, ha2, ha3, ha4, ha5, ha6, ha7, ea⟩ := own_nv_bytes a
  obtain ⟨b0, b1, b2, b3, b4, b5, b6, b7, hb0, hb1, hb2, hb3, hb4, hb5, hb6, hb7, eb⟩ := own_nv_bytes b
  have er := own_ade ha0 ha1 ha2 ha3 ha4 ha5 ha6 ha7 hb0 hb1 hb2 hb3 hb4 hb5 hb6 hb7 ea eb
  unfold own_lane
  rw [if_pos (own_key ha6 hb6 (own_by6 ha0 ha1 ha2 ha3 ha4 ha5 ha6 ha7 ea) (own_by6 hb0 hb1 hb2 hb3 hb4 hb5 hb6 hb7 eb) (own_by6 (own_d8 ha0 hb0) (own_d8 ha1 hb1) (own_d8 ha2 hb2) (own_d8 ha3 hb3) (own_d8 ha4 hb4) (own_d8 ha5 hb5) (own_d8 ha6 hb6) (own_d8 ha7 hb7) er))]
  decide
theorem own_by7 {x : Int64} {a0 a1 a2 a3 a4 a5 a6 a7 : Nat} (ha0 : a0 < 256) (ha1 : a1 < 256) (ha2 : a2 < 256) (ha3 : a3 < 256) (ha4 : a4 < 256) (ha5 : a5 < 256) (ha6 : a6 < 256) (ha7 : a7 < 256) (e : own_nv x = own_pk a0 a1 a2 a3 a4 a5 a6 a7) : (own_by x (56 : Int32)).toInt = (a7 : Int) := by
  refine own_small ha7 ?_
  rw [own_nv_and, own_nv_us x 56 56 (by decide), e, own_k255, own_sr7 ha0 ha1 ha2 ha3 ha4 ha5 ha6 ha7, own_pk_and ha7 (by decide) (by decide) (by decide) (by decide) (by decide) (by decide) (by decide) (by decide) (by decide) (by decide) (by decide) (by decide) (by decide), own_m255 ha7]
  simp
theorem own_law7 (a b : Int64) : ¬ own_lane a b (own_ad a b) (56 : Int32) = (0 : Int32) := by
  obtain ⟨a0, a1, a2, a3, a4, a5, a6, a7, ha0, ha1, ha2, ha3, ha4, ha5, ha6, ha7, ea⟩ := own_nv_bytes a
  obtain ⟨b0, b1, b2, b3, b4, b5, b6, b7, hb0, hb1, hb2, hb3, hb4, hb5, hb6, hb7, eb⟩ := own_nv_bytes b
  have er := own_ade ha0 ha1 ha2 ha3 ha4 ha5 ha6 ha7 hb0 hb1 hb2 hb3 hb4 hb5 hb6 hb7 ea eb
  unfold own_lane
  rw [if_pos (own_key ha7 hb7 (own_by7 ha0 ha1 ha2 ha3 ha4 ha5 ha6 ha7 ea) (own_by7 hb0 hb1 hb2 hb3 hb4 hb5 hb6 hb7 eb) (own_by7 (own_d8 ha0 hb0) (own_d8 ha1 hb1) (own_d8 ha2 hb2) (own_d8 ha3 hb3) (own_d8 ha4 hb4) (own_d8 ha5 hb5) (own_d8 ha6 hb6) (own_d8 ha7 hb7) er))]
  decide
theorem pn_0 : plainName "com/example/block_motion_coder/blockmotioncoder/mpeg2/PackedSamples" = true := by first | (simp [plainName, overriddenIn]; done) | decide +kernel
theorem d1_0 : decode prog_82_method_6_code 0 = .ok (.lload_n 0, 1) := by decide +kernel
theorem d1_1 : decode prog_82_method_6_code 1 = .ok (.ldc2_w 34, 3) := by decide +kernel
theorem d1_4 : decode prog_82_method_6_code 4 = .ok (.lor, 1) := by decide +kernel
theorem d1_5 : decode prog_82_method_6_code 5 = .ok (.lload_n 2, 1) := by decide +kernel
theorem d1_6 : decode prog_82_method_6_code 6 = .ok (.ldc2_w 36, 3) := by decide +kernel
theorem d1_9 : decode prog_82_method_6_code 9 = .ok (.land, 1) := by decide +kernel
theorem d1_10 : decode prog_82_method_6_code 10 = .ok (.lsub, 1) := by decide +kernel
theorem d1_11 : decode prog_82_method_6_code 11 = .ok (.lload_n 0, 1) := by decide +kernel
theorem d1_12 : decode prog_82_method_6_code 12 = .ok (.lload_n 2, 1) := by decide +kernel
theorem d1_13 : decode prog_82_method_6_code 13 = .ok (.ldc2_w 38, 3) := by decide +kernel
theorem d1_16 : decode prog_82_method_6_code 16 = .ok (.lxor, 1) := by decide +kernel
theorem d1_17 : decode prog_82_method_6_code 17 = .ok (.lxor, 1) := by decide +kernel
theorem d1_18 : decode prog_82_method_6_code 18 = .ok (.ldc2_w 34, 3) := by decide +kernel
theorem d1_21 : decode prog_82_method_6_code 21 = .ok (.land, 1) := by decide +kernel
theorem d1_22 : decode prog_82_method_6_code 22 = .ok (.lxor, 1) := by decide +kernel
theorem d1_23 : decode prog_82_method_6_code 23 = .ok (.lstore 4, 2) := by decide +kernel
theorem d1_25 : decode prog_82_method_6_code 25 = .ok (.lload_n 0, 1) := by decide +kernel
theorem d1_26 : decode prog_82_method_6_code 26 = .ok (.ldc2_w 38, 3) := by decide +kernel
theorem d1_29 : decode prog_82_method_6_code 29 = .ok (.lxor, 1) := by decide +kernel
theorem d1_30 : decode prog_82_method_6_code 30 = .ok (.lload_n 2, 1) := by decide +kernel
theorem d1_31 : decode prog_82_method_6_code 31 = .ok (.land, 1) := by decide +kernel
theorem d1_32 : decode prog_82_method_6_code 32 = .ok (.lload_n 0, 1) := by decide +kernel
theorem d1_33 : decode prog_82_method_6_code 33 = .ok (.lload_n 2, 1) := by decide +kernel
theorem d1_34 : decode prog_82_method_6_code 34 = .ok (.lxor, 1) := by decide +kernel
theorem d1_35 : decode prog_82_method_6_code 35 = .ok (.ldc2_w 38, 3) := by decide +kernel
theorem d1_38 : decode prog_82_method_6_code 38 = .ok (.lxor, 1) := by decide +kernel
theorem d1_39 : decode prog_82_method_6_code 39 = .ok (.lload 4, 2) := by decide +kernel
theorem d1_41 : decode prog_82_method_6_code 41 = .ok (.land, 1) := by decide +kernel
theorem d1_42 : decode prog_82_method_6_code 42 = .ok (.lor, 1) := by decide +kernel
theorem d1_43 : decode prog_82_method_6_code 43 = .ok (.ldc2_w 34, 3) := by decide +kernel
theorem d1_46 : decode prog_82_method_6_code 46 = .ok (.land, 1) := by decide +kernel
theorem d1_47 : decode prog_82_method_6_code 47 = .ok (.lstore 6, 2) := by decide +kernel
theorem d1_49 : decode prog_82_method_6_code 49 = .ok (.lload 6, 2) := by decide +kernel
theorem d1_51 : decode prog_82_method_6_code 51 = .ok (.bipush 7, 2) := by decide +kernel
theorem d1_53 : decode prog_82_method_6_code 53 = .ok (.lushr, 1) := by decide +kernel
theorem d1_54 : decode prog_82_method_6_code 54 = .ok (.lstore 8, 2) := by decide +kernel
theorem d1_56 : decode prog_82_method_6_code 56 = .ok (.lload 4, 2) := by decide +kernel
theorem d1_58 : decode prog_82_method_6_code 58 = .ok (.lload 8, 2) := by decide +kernel
theorem d1_60 : decode prog_82_method_6_code 60 = .ok (.ldc2_w 40, 3) := by decide +kernel
theorem d1_63 : decode prog_82_method_6_code 63 = .ok (.lmul, 1) := by decide +kernel
theorem d1_64 : decode prog_82_method_6_code 64 = .ok (.lxor, 1) := by decide +kernel
theorem d1_65 : decode prog_82_method_6_code 65 = .ok (.lload 8, 2) := by decide +kernel
theorem d1_67 : decode prog_82_method_6_code 67 = .ok (.ladd, 1) := by decide +kernel
theorem d1_68 : decode prog_82_method_6_code 68 = .ok (.lreturn, 1) := by decide +kernel
theorem ef_1 (m : MethodId) (x0 : Int64) (x1 : Int64) : entryFrame m #[(.long x0), (.long x1)] 10 = mkF m 0 #[.val (.long x0), .second, .val (.long x1), .second, .unset, .unset, .unset, .unset, .unset, .unset] [] := by first | (simp [entryFrame, mkF, argsToLocals, Value.category]; done) | rfl
def Q1 (Z : State) (a : Int64) (b : Int64) (h0 : Heap) (n0 : Nat) (vα : Option Value) (hα : Heap) (Lα : List Loc) : Prop := vα = some (.long (own_ad a b)) ∧ Fr n0 Lα ∧ hα = h0
set_option maxRecDepth 65536 in
set_option maxHeartbeats 40000000 in
theorem rm1 (l : Launch) (Z : State) (a0 : Array Value) (hw : ∀ d ∈ tables_1, d.before a0 Z = true) (ws : List Jvm.Cond) (a : Int64) (b : Int64) (h0 : Heap) (n0 : Nat) (Z0 : n0 ≤ h0.size) :
    MetFree l (⟨"com/example/block_motion_coder/blockmotioncoder/mpeg2/PackedSamples", "absoluteDifferences", "(JJ)J"⟩ : MethodName) (head1 (Jvm.Cond.code (⟨"com/example/block_motion_coder/blockmotioncoder/mpeg2/PackedSamples", "absoluteDifferences", "(JJ)J"⟩ : MethodName) prog_82_method_6_code 10 (some .long) :: ws) ({ frames := 0, cells := 0, slots := 0, locals := 0 } : Room)) (fun aα U => aα = #[(.long a), (.long b)] ∧ Z.Warmed39 U.vm ∧ U.heap = h0) (fun _ _ _ _ _ => True) (fun _ U oα U' => ∃ vα Lα, oα = .returned vα ∧ Q1 Z a b h0 n0 vα U'.heap Lα ∧ FrameEnd U oα U' Lα ({ frames := 0, cells := 0, slots := 0, locals := 0 } : Room).cells ({ frames := 0, cells := 0, slots := 0, locals := 0 } : Room).slots) := by
  refine MetFree.of_bodySF (plainFor_of_name pn_0) hisR ?_
  intro p e s m args below meth c s₁ Bd hml0 hP hK
  refine own_wrap ?_
  intro GL hGL
  obtain ⟨rfl, hZ, hh⟩ := hP
  have hx := Bd.exec
  have hby := Bd.bytes
  have hml : c.maxLocals = 10 := hml0
  have hown : s.vm.findClass "com/example/block_motion_coder/blockmotioncoder/mpeg2/PackedSamples" = some m.cls := findClass_of_methodNamed Bd.named
  have hnm := (name_of_methodNamed Bd.named Bd.method).1
  have X0 : Stand p l e ({ frames := 0, cells := 0, slots := 0, locals := 0 } : Room) s m #[(.long a), (.long b)] below meth c s₁ [] 0 0 := Stand.of_body Bd
  have e0 : s₁.heap = h0 := by rw [← hh, Bd.state]; rfl
  have N0 := Fr.nil n0
  have pre0 : ∀ τ, Steps p.tables e below (s₁.setTop (mkF m 0 #[.val (.long a), .second, .val (.long b), .second, .unset, .unset, .unset, .unset, .unset, .unset] [])) τ → Steps p.tables e below (s₁.setTop (entryFrame m #[(.long a), (.long b)] 10)) τ := fun τ κ => castTop (ef_1 m a b) κ
  obtain ⟨G, hG, pre⟩ : ∃ G : State → Prop, (∀ τ, G τ → Steps p.tables e below (s₁.setTop (entryFrame m #[(.long a), (.long b)] 10)) τ) ∧ ∀ τ, Steps p.tables e below (s₁.setTop (mkF m 0 #[.val (.long a), .second, .val (.long b), .second, .unset, .unset, .unset, .unset, .unset, .unset] [])) τ → G τ := ⟨_, pre0, fun _ k => k⟩
  have K : Keep h0 h0 [] := Keep.refl h0 _
  have Zn := Z0
  have pre : ∀ τ, Steps p.tables e below (s₁.setTop (mkF m 68 #[.val (.long a), .second, .val (.long b), .second, .val (.long (((a ||| (-9187201950435737472 : Int64)) - (b &&& (9187201950435737471 : Int64))) ^^^ ((a ^^^ (b ^^^ (-1 : Int64))) &&& (-9187201950435737472 : Int64)))), .second, .val (.long ((((a ^^^ (-1 : Int64)) &&& b) ||| (((a ^^^ b) ^^^ (-1 : Int64)) &&& (((a ||| (-9187201950435737472 : Int64)) - (b &&& (9187201950435737471 : Int64))) ^^^ ((a ^^^ (b ^^^ (-1 : Int64))) &&& (-9187201950435737472 : Int64))))) &&& (-9187201950435737472 : Int64))), .second, .val (.long ((((((a ^^^ (-1 : Int64)) &&& b) ||| (((a ^^^ b) ^^^ (-1 : Int64)) &&& (((a ||| (-9187201950435737472 : Int64)) - (b &&& (9187201950435737471 : Int64))) ^^^ ((a ^^^ (b ^^^ (-1 : Int64))) &&& (-9187201950435737472 : Int64))))) &&& (-9187201950435737472 : Int64)).toUInt64 >>> ((7 : Int32) &&& 0x3f).toInt64.toUInt64).toInt64)), .second] [(.long (((((a ||| (-9187201950435737472 : Int64)) - (b &&& (9187201950435737471 : Int64))) ^^^ ((a ^^^ (b ^^^ (-1 : Int64))) &&& (-9187201950435737472 : Int64))) ^^^ (((((((a ^^^ (-1 : Int64)) &&& b) ||| (((a ^^^ b) ^^^ (-1 : Int64)) &&& (((a ||| (-9187201950435737472 : Int64)) - (b &&& (9187201950435737471 : Int64))) ^^^ ((a ^^^ (b ^^^ (-1 : Int64))) &&& (-9187201950435737472 : Int64))))) &&& (-9187201950435737472 : Int64)).toUInt64 >>> ((7 : Int32) &&& 0x3f).toInt64.toUInt64).toInt64) * (255 : Int64))) + ((((((a ^^^ (-1 : Int64)) &&& b) ||| (((a ^^^ b) ^^^ (-1 : Int64)) &&& (((a ||| (-9187201950435737472 : Int64)) - (b &&& (9187201950435737471 : Int64))) ^^^ ((a ^^^ (b ^^^ (-1 : Int64))) &&& (-9187201950435737472 : Int64))))) &&& (-9187201950435737472 : Int64)).toUInt64 >>> ((7 : Int32) &&& 0x3f).toInt64.toUInt64).toInt64)))])) τ → G τ := fun τ κ => pre τ (by
    refine XS.lloadN X0.here hx rfl (hb hby d1_0) rfl ?_
    show Steps p.tables e below (s₁.setTop (mkF m 1 #[.val (.long a), .second, .val (.long b), .second, .unset, .unset, .unset, .unset, .unset, .unset] [(.long a)])) τ
    refine X0.ldc2Long hx hown (mvT hZ (hw _ (List.mem_of_getElem? (i := 5) rfl))) (g := (mkF m 1 #[.val (.long a), .second, .val (.long b), .second, .unset, .unset, .unset, .unset, .unset, .unset] [(.long a)])) rfl (hb hby d1_1) _ ?_
    show Steps p.tables e below (s₁.setTop (mkF m 4 #[.val (.long a), .second, .val (.long b), .second, .unset, .unset, .unset, .unset, .unset, .unset] [(.long (-9187201950435737472 : Int64)), (.long a)])) τ
    refine XS.lor X0.here hx rfl (hb hby d1_4) rfl ?_
    show Steps p.tables e below (s₁.setTop (mkF m 5 #[.val (.long a), .second, .val (.long b), .second, .unset, .unset, .unset, .unset, .unset, .unset] [(.long (a ||| (-9187201950435737472 : Int64)))])) τ
    refine XS.lloadN X0.here hx rfl (hb hby d1_5) rfl ?_
    show Steps p.tables e below (s₁.setTop (mkF m 6 #[.val (.long a), .second, .val (.long b), .second, .unset, .unset, .unset, .unset, .unset, .unset] [(.long b), (.long (a ||| (-9187201950435737472 : Int64)))])) τ
    refine X0.ldc2Long hx hown (mvT hZ (hw _ (List.mem_of_getElem? (i := 6) rfl))) (g := (mkF m 6 #[.val (.long a), .second, .val (.long b), .second, .unset, .unset, .unset, .unset, .unset, .unset] [(.long b), (.long (a ||| (-9187201950435737472 : Int64)))])) rfl (hb hby d1_6) _ ?_
    show Steps p.tables e below (s₁.setTop (mkF m 9 #[.val (.long a), .second, .val (.long b), .second, .unset, .unset, .unset, .unset, .unset, .unset] [(.long (9187201950435737471 : Int64)), (.long b), (.long (a ||| (-9187201950435737472 : Int64)))])) τ
    refine XS.land X0.here hx rfl (hb hby d1_9) rfl ?_
    show Steps p.tables e below (s₁.setTop (mkF m 10 #[.val (.long a), .second, .val (.long b), .second, .unset, .unset, .unset, .unset, .unset, .unset] [(.long (b &&& (9187201950435737471 : Int64))), (.long (a ||| (-9187201950435737472 : Int64)))])) τ
    refine XS.lsub X0.here hx rfl (hb hby d1_10) rfl ?_
    show Steps p.tables e below (s₁.setTop (mkF m 11 #[.val (.long a), .second, .val (.long b), .second, .unset, .unset, .unset, .unset, .unset, .unset] [(.long ((a ||| (-9187201950435737472 : Int64)) - (b &&& (9187201950435737471 : Int64))))])) τ
    refine XS.lloadN X0.here hx rfl (hb hby d1_11) rfl ?_
    show Steps p.tables e below (s₁.setTop (mkF m 12 #[.val (.long a), .second, .val (.long b), .second, .unset, .unset, .unset, .unset, .unset, .unset] [(.long a), (.long ((a ||| (-9187201950435737472 : Int64)) - (b &&& (9187201950435737471 : Int64))))])) τ
    refine XS.lloadN X0.here hx rfl (hb hby d1_12) rfl ?_
    show Steps p.tables e below (s₁.setTop (mkF m 13 #[.val (.long a), .second, .val (.long b), .second, .unset, .unset, .unset, .unset, .unset, .unset] [(.long b), (.long a), (.long ((a ||| (-9187201950435737472 : Int64)) - (b &&& (9187201950435737471 : Int64))))])) τ
    refine X0.ldc2Long hx hown (mvT hZ (hw _ (List.mem_of_getElem? (i := 7) rfl))) (g := (mkF m 13 #[.val (.long a), .second, .val (.long b), .second, .unset, .unset, .unset, .unset, .unset, .unset] [(.long b), (.long a), (.long ((a ||| (-9187201950435737472 : Int64)) - (b &&& (9187201950435737471 : Int64))))])) rfl (hb hby d1_13) _ ?_
    show Steps p.tables e below (s₁.setTop (mkF m 16 #[.val (.long a), .second, .val (.long b), .second, .unset, .unset, .unset, .unset, .unset, .unset] [(.long (-1 : Int64)), (.long b), (.long a), (.long ((a ||| (-9187201950435737472 : Int64)) - (b &&& (9187201950435737471 : Int64))))])) τ
    refine XS.lxor X0.here hx rfl (hb hby d1_16) rfl ?_
    show Steps p.tables e below (s₁.setTop (mkF m 17 #[.val (.long a), .second, .val (.long b), .second, .unset, .unset, .unset, .unset, .unset, .unset] [(.long (b ^^^ (-1 : Int64))), (.long a), (.long ((a ||| (-9187201950435737472 : Int64)) - (b &&& (9187201950435737471 : Int64))))])) τ
    refine XS.lxor X0.here hx rfl (hb hby d1_17) rfl ?_
    show Steps p.tables e below (s₁.setTop (mkF m 18 #[.val (.long a), .second, .val (.long b), .second, .unset, .unset, .unset, .unset, .unset, .unset] [(.long (a ^^^ (b ^^^ (-1 : Int64)))), (.long ((a ||| (-9187201950435737472 : Int64)) - (b &&& (9187201950435737471 : Int64))))])) τ
    refine X0.ldc2Long hx hown (mvT hZ (hw _ (List.mem_of_getElem? (i := 5) rfl))) (g := (mkF m 18 #[.val (.long a), .second, .val (.long b), .second, .unset, .unset, .unset, .unset, .unset, .unset] [(.long (a ^^^ (b ^^^ (-1 : Int64)))), (.long ((a ||| (-9187201950435737472 : Int64)) - (b &&& (9187201950435737471 : Int64))))])) rfl (hb hby d1_18) _ ?_
    show Steps p.tables e below (s₁.setTop (mkF m 21 #[.val (.long a), .second, .val (.long b), .second, .unset, .unset, .unset, .unset, .unset, .unset] [(.long (-9187201950435737472 : Int64)), (.long (a ^^^ (b ^^^ (-1 : Int64)))), (.long ((a ||| (-9187201950435737472 : Int64)) - (b &&& (9187201950435737471 : Int64))))])) τ
    refine XS.land X0.here hx rfl (hb hby d1_21) rfl ?_
    show Steps p.tables e below (s₁.setTop (mkF m 22 #[.val (.long a), .second, .val (.long b), .second, .unset, .unset, .unset, .unset, .unset, .unset] [(.long ((a ^^^ (b ^^^ (-1 : Int64))) &&& (-9187201950435737472 : Int64))), (.long ((a ||| (-9187201950435737472 : Int64)) - (b &&& (9187201950435737471 : Int64))))])) τ
    refine XS.lxor X0.here hx rfl (hb hby d1_22) rfl ?_
    show Steps p.tables e below (s₁.setTop (mkF m 23 #[.val (.long a), .second, .val (.long b), .second, .unset, .unset, .unset, .unset, .unset, .unset] [(.long (((a ||| (-9187201950435737472 : Int64)) - (b &&& (9187201950435737471 : Int64))) ^^^ ((a ^^^ (b ^^^ (-1 : Int64))) &&& (-9187201950435737472 : Int64))))])) τ
    refine XS.lstore X0.here hx rfl (hb hby d1_23) rfl (l' := #[.val (.long a), .second, .val (.long b), .second, .val (.long (((a ||| (-9187201950435737472 : Int64)) - (b &&& (9187201950435737471 : Int64))) ^^^ ((a ^^^ (b ^^^ (-1 : Int64))) &&& (-9187201950435737472 : Int64)))), .second, .unset, .unset, .unset, .unset]) rfl ?_
    show Steps p.tables e below (s₁.setTop (mkF m 25 #[.val (.long a), .second, .val (.long b), .second, .val (.long (((a ||| (-9187201950435737472 : Int64)) - (b &&& (9187201950435737471 : Int64))) ^^^ ((a ^^^ (b ^^^ (-1 : Int64))) &&& (-9187201950435737472 : Int64)))), .second, .unset, .unset, .unset, .unset] [])) τ
    refine XS.lloadN X0.here hx rfl (hb hby d1_25) rfl ?_
    show Steps p.tables e below (s₁.setTop (mkF m 26 #[.val (.long a), .second, .val (.long b), .second, .val (.long (((a ||| (-9187201950435737472 : Int64)) - (b &&& (9187201950435737471 : Int64))) ^^^ ((a ^^^ (b ^^^ (-1 : Int64))) &&& (-9187201950435737472 : Int64)))), .second, .unset, .unset, .unset, .unset] [(.long a)])) τ
    refine X0.ldc2Long hx hown (mvT hZ (hw _ (List.mem_of_getElem? (i := 7) rfl))) (g := (mkF m 26 #[.val (.long a), .second, .val (.long b), .second, .val (.long (((a ||| (-9187201950435737472 : Int64)) - (b &&& (9187201950435737471 : Int64))) ^^^ ((a ^^^ (b ^^^ (-1 : Int64))) &&& (-9187201950435737472 : Int64)))), .second, .unset, .unset, .unset, .unset] [(.long a)])) rfl (hb hby d1_26) _ ?_
    show Steps p.tables e below (s₁.setTop (mkF m 29 #[.val (.long a), .second, .val (.long b), .second, .val (.long (((a ||| (-9187201950435737472 : Int64)) - (b &&& (9187201950435737471 : Int64))) ^^^ ((a ^^^ (b ^^^ (-1 : Int64))) &&& (-9187201950435737472 : Int64)))), .second, .unset, .unset, .unset, .unset] [(.long (-1 : Int64)), (.long a)])) τ
    refine XS.lxor X0.here hx rfl (hb hby d1_29) rfl ?_
    show Steps p.tables e below (s₁.setTop (mkF m 30 #[.val (.long a), .second, .val (.long b), .second, .val (.long (((a ||| (-9187201950435737472 : Int64)) - (b &&& (9187201950435737471 : Int64))) ^^^ ((a ^^^ (b ^^^ (-1 : Int64))) &&& (-9187201950435737472 : Int64)))), .second, .unset, .unset, .unset, .unset] [(.long (a ^^^ (-1 : Int64)))])) τ
    refine XS.lloadN X0.here hx rfl (hb hby d1_30) rfl ?_
    show Steps p.tables e below (s₁.setTop (mkF m 31 #[.val (.long a), .second, .val (.long b), .second, .val (.long (((a ||| (-9187201950435737472 : Int64)) - (b &&& (9187201950435737471 : Int64))) ^^^ ((a ^^^ (b ^^^ (-1 : Int64))) &&& (-9187201950435737472 : Int64)))), .second, .unset, .unset, .unset, .unset] [(.long b), (.long (a ^^^ (-1 : Int64)))])) τ
    refine XS.land X0.here hx rfl (hb hby d1_31) rfl ?_
    show Steps p.tables e below (s₁.setTop (mkF m 32 #[.val (.long a), .second, .val (.long b), .second, .val (.long (((a ||| (-9187201950435737472 : Int64)) - (b &&& (9187201950435737471 : Int64))) ^^^ ((a ^^^ (b ^^^ (-1 : Int64))) &&& (-9187201950435737472 : Int64)))), .second, .unset, .unset, .unset, .unset] [(.long ((a ^^^ (-1 : Int64)) &&& b))])) τ
    refine XS.lloadN X0.here hx rfl (hb hby d1_32) rfl ?_
    show Steps p.tables e below (s₁.setTop (mkF m 33 #[.val (.long a), .second, .val (.long b), .second, .val (.long (((a ||| (-9187201950435737472 : Int64)) - (b &&& (9187201950435737471 : Int64))) ^^^ ((a ^^^ (b ^^^ (-1 : Int64))) &&& (-9187201950435737472 : Int64)))), .second, .unset, .unset, .unset, .unset] [(.long a), (.long ((a ^^^ (-1 : Int64)) &&& b))])) τ
    refine XS.lloadN X0.here hx rfl (hb hby d1_33) rfl ?_
    show Steps p.tables e below (s₁.setTop (mkF m 34 #[.val (.long a), .second, .val (.long b), .second, .val (.long (((a ||| (-9187201950435737472 : Int64)) - (b &&& (9187201950435737471 : Int64))) ^^^ ((a ^^^ (b ^^^ (-1 : Int64))) &&& (-9187201950435737472 : Int64)))), .second, .unset, .unset, .unset, .unset] [(.long b), (.long a), (.long ((a ^^^ (-1 : Int64)) &&& b))])) τ
    refine XS.lxor X0.here hx rfl (hb hby d1_34) rfl ?_
    show Steps p.tables e below (s₁.setTop (mkF m 35 #[.val (.long a), .second, .val (.long b), .second, .val (.long (((a ||| (-9187201950435737472 : Int64)) - (b &&& (9187201950435737471 : Int64))) ^^^ ((a ^^^ (b ^^^ (-1 : Int64))) &&& (-9187201950435737472 : Int64)))), .second, .unset, .unset, .unset, .unset] [(.long (a ^^^ b)), (.long ((a ^^^ (-1 : Int64)) &&& b))])) τ
    refine X0.ldc2Long hx hown (mvT hZ (hw _ (List.mem_of_getElem? (i := 7) rfl))) (g := (mkF m 35 #[.val (.long a), .second, .val (.long b), .second, .val (.long (((a ||| (-9187201950435737472 : Int64)) - (b &&& (9187201950435737471 : Int64))) ^^^ ((a ^^^ (b ^^^ (-1 : Int64))) &&& (-9187201950435737472 : Int64)))), .second, .unset, .unset, .unset, .unset] [(.long (a ^^^ b)), (.long ((a ^^^ (-1 : Int64)) &&& b))])) rfl (hb hby d1_35) _ ?_
    show Steps p.tables e below (s₁.setTop (mkF m 38 #[.val (.long a), .second, .val (.long b), .second, .val (.long (((a ||| (-9187201950435737472 : Int64)) - (b &&& (9187201950435737471 : Int64))) ^^^ ((a ^^^ (b ^^^ (-1 : Int64))) &&& (-9187201950435737472 : Int64)))), .second, .unset, .unset, .unset, .unset] [(.long (-1 : Int64)), (.long (a ^^^ b)), (.long ((a ^^^ (-1 : Int64)) &&& b))])) τ
    refine XS.lxor X0.here hx rfl (hb hby d1_38) rfl ?_
    show Steps p.tables e below (s₁.setTop (mkF m 39 #[.val (.long a), .second, .val (.long b), .second, .val (.long (((a ||| (-9187201950435737472 : Int64)) - (b &&& (9187201950435737471 : Int64))) ^^^ ((a ^^^ (b ^^^ (-1 : Int64))) &&& (-9187201950435737472 : Int64)))), .second, .unset, .unset, .unset, .unset] [(.long ((a ^^^ b) ^^^ (-1 : Int64))), (.long ((a ^^^ (-1 : Int64)) &&& b))])) τ
    refine XS.lload X0.here hx rfl (hb hby d1_39) rfl ?_
    show Steps p.tables e below (s₁.setTop (mkF m 41 #[.val (.long a), .second, .val (.long b), .second, .val (.long (((a ||| (-9187201950435737472 : Int64)) - (b &&& (9187201950435737471 : Int64))) ^^^ ((a ^^^ (b ^^^ (-1 : Int64))) &&& (-9187201950435737472 : Int64)))), .second, .unset, .unset, .unset, .unset] [(.long (((a ||| (-9187201950435737472 : Int64)) - (b &&& (9187201950435737471 : Int64))) ^^^ ((a ^^^ (b ^^^ (-1 : Int64))) &&& (-9187201950435737472 : Int64)))), (.long ((a ^^^ b) ^^^ (-1 : Int64))), (.long ((a ^^^ (-1 : Int64)) &&& b))])) τ
    refine XS.land X0.here hx rfl (hb hby d1_41) rfl ?_
    show Steps p.tables e below (s₁.setTop (mkF m 42 #[.val (.long a), .second, .val (.long b), .second, .val (.long (((a ||| (-9187201950435737472 : Int64)) - (b &&& (9187201950435737471 : Int64))) ^^^ ((a ^^^ (b ^^^ (-1 : Int64))) &&& (-9187201950435737472 : Int64)))), .second, .unset, .unset, .unset, .unset] [(.long (((a ^^^ b) ^^^ (-1 : Int64)) &&& (((a ||| (-9187201950435737472 : Int64)) - (b &&& (9187201950435737471 : Int64))) ^^^ ((a ^^^ (b ^^^ (-1 : Int64))) &&& (-9187201950435737472 : Int64))))), (.long ((a ^^^ (-1 : Int64)) &&& b))])) τ
    refine XS.lor X0.here hx rfl (hb hby d1_42) rfl ?_
    show Steps p.tables e below (s₁.setTop (mkF m 43 #[.val (.long a), .second, .val (.long b), .second, .val (.long (((a ||| (-9187201950435737472 : Int64)) - (b &&& (9187201950435737471 : Int64))) ^^^ ((a ^^^ (b ^^^ (-1 : Int64))) &&& (-9187201950435737472 : Int64)))), .second, .unset, .unset, .unset, .unset] [(.long (((a ^^^ (-1 : Int64)) &&& b) ||| (((a ^^^ b) ^^^ (-1 : Int64)) &&& (((a ||| (-9187201950435737472 : Int64)) - (b &&& (9187201950435737471 : Int64))) ^^^ ((a ^^^ (b ^^^ (-1 : Int64))) &&& (-9187201950435737472 : Int64))))))])) τ
    refine X0.ldc2Long hx hown (mvT hZ (hw _ (List.mem_of_getElem? (i := 5) rfl))) (g := (mkF m 43 #[.val (.long a), .second, .val (.long b), .second, .val (.long (((a ||| (-9187201950435737472 : Int64)) - (b &&& (9187201950435737471 : Int64))) ^^^ ((a ^^^ (b ^^^ (-1 : Int64))) &&& (-9187201950435737472 : Int64)))), .second, .unset, .unset, .unset, .unset] [(.long (((a ^^^ (-1 : Int64)) &&& b) ||| (((a ^^^ b) ^^^ (-1 : Int64)) &&& (((a ||| (-9187201950435737472 : Int64)) - (b &&& (9187201950435737471 : Int64))) ^^^ ((a ^^^ (b ^^^ (-1 : Int64))) &&& (-9187201950435737472 : Int64))))))])) rfl (hb hby d1_43) _ ?_
    show Steps p.tables e below (s₁.setTop (mkF m 46 #[.val (.long a), .second, .val (.long b), .second, .val (.long (((a ||| (-9187201950435737472 : Int64)) - (b &&& (9187201950435737471 : Int64))) ^^^ ((a ^^^ (b ^^^ (-1 : Int64))) &&& (-9187201950435737472 : Int64)))), .second, .unset, .unset, .unset, .unset] [(.long (-9187201950435737472 : Int64)), (.long (((a ^^^ (-1 : Int64)) &&& b) ||| (((a ^^^ b) ^^^ (-1 : Int64)) &&& (((a ||| (-9187201950435737472 : Int64)) - (b &&& (9187201950435737471 : Int64))) ^^^ ((a ^^^ (b ^^^ (-1 : Int64))) &&& (-9187201950435737472 : Int64))))))])) τ
    refine XS.land X0.here hx rfl (hb hby d1_46) rfl ?_
    show Steps p.tables e below (s₁.setTop (mkF m 47 #[.val (.long a), .second, .val (.long b), .second, .val (.long (((a ||| (-9187201950435737472 : Int64)) - (b &&& (9187201950435737471 : Int64))) ^^^ ((a ^^^ (b ^^^ (-1 : Int64))) &&& (-9187201950435737472 : Int64)))), .second, .unset, .unset, .unset, .unset] [(.long ((((a ^^^ (-1 : Int64)) &&& b) ||| (((a ^^^ b) ^^^ (-1 : Int64)) &&& (((a ||| (-9187201950435737472 : Int64)) - (b &&& (9187201950435737471 : Int64))) ^^^ ((a ^^^ (b ^^^ (-1 : Int64))) &&& (-9187201950435737472 : Int64))))) &&& (-9187201950435737472 : Int64)))])) τ
    refine XS.lstore X0.here hx rfl (hb hby d1_47) rfl (l' := #[.val (.long a), .second, .val (.long b), .second, .val (.long (((a ||| (-9187201950435737472 : Int64)) - (b &&& (9187201950435737471 : Int64))) ^^^ ((a ^^^ (b ^^^ (-1 : Int64))) &&& (-9187201950435737472 : Int64)))), .second, .val (.long ((((a ^^^ (-1 : Int64)) &&& b) ||| (((a ^^^ b) ^^^ (-1 : Int64)) &&& (((a ||| (-9187201950435737472 : Int64)) - (b &&& (9187201950435737471 : Int64))) ^^^ ((a ^^^ (b ^^^ (-1 : Int64))) &&& (-9187201950435737472 : Int64))))) &&& (-9187201950435737472 : Int64))), .second, .unset, .unset]) rfl ?_
    show Steps p.tables e below (s₁.setTop (mkF m 49 #[.val (.long a), .second, .val (.long b), .second, .val (.long (((a ||| (-9187201950435737472 : Int64)) - (b &&& (9187201950435737471 : Int64))) ^^^ ((a ^^^ (b ^^^ (-1 : Int64))) &&& (-9187201950435737472 : Int64)))), .second, .val (.long ((((a ^^^ (-1 : Int64)) &&& b) ||| (((a ^^^ b) ^^^ (-1 : Int64)) &&& (((a ||| (-9187201950435737472 : Int64)) - (b &&& (9187201950435737471 : Int64))) ^^^ ((a ^^^ (b ^^^ (-1 : Int64))) &&& (-9187201950435737472 : Int64))))) &&& (-9187201950435737472 : Int64))), .second, .unset, .unset] [])) τ
    refine XS.lload X0.here hx rfl (hb hby d1_49) rfl ?_
    show Steps p.tables e below (s₁.setTop (mkF m 51 #[.val (.long a), .second, .val (.long b), .second, .val (.long (((a ||| (-9187201950435737472 : Int64)) - (b &&& (9187201950435737471 : Int64))) ^^^ ((a ^^^ (b ^^^ (-1 : Int64))) &&& (-9187201950435737472 : Int64)))), .second, .val (.long ((((a ^^^ (-1 : Int64)) &&& b) ||| (((a ^^^ b) ^^^ (-1 : Int64)) &&& (((a ||| (-9187201950435737472 : Int64)) - (b &&& (9187201950435737471 : Int64))) ^^^ ((a ^^^ (b ^^^ (-1 : Int64))) &&& (-9187201950435737472 : Int64))))) &&& (-9187201950435737472 : Int64))), .second, .unset, .unset] [(.long ((((a ^^^ (-1 : Int64)) &&& b) ||| (((a ^^^ b) ^^^ (-1 : Int64)) &&& (((a ||| (-9187201950435737472 : Int64)) - (b &&& (9187201950435737471 : Int64))) ^^^ ((a ^^^ (b ^^^ (-1 : Int64))) &&& (-9187201950435737472 : Int64))))) &&& (-9187201950435737472 : Int64)))])) τ
    refine XS.bipush X0.here hx rfl (hb hby d1_51) ?_
    show Steps p.tables e below (s₁.setTop (mkF m 53 #[.val (.long a), .second, .val (.long b), .second, .val (.long (((a ||| (-9187201950435737472 : Int64)) - (b &&& (9187201950435737471 : Int64))) ^^^ ((a ^^^ (b ^^^ (-1 : Int64))) &&& (-9187201950435737472 : Int64)))), .second, .val (.long ((((a ^^^ (-1 : Int64)) &&& b) ||| (((a ^^^ b) ^^^ (-1 : Int64)) &&& (((a ||| (-9187201950435737472 : Int64)) - (b &&& (9187201950435737471 : Int64))) ^^^ ((a ^^^ (b ^^^ (-1 : Int64))) &&& (-9187201950435737472 : Int64))))) &&& (-9187201950435737472 : Int64))), .second, .unset, .unset] [(.int (7 : Int32)), (.long ((((a ^^^ (-1 : Int64)) &&& b) ||| (((a ^^^ b) ^^^ (-1 : Int64)) &&& (((a ||| (-9187201950435737472 : Int64)) - (b &&& (9187201950435737471 : Int64))) ^^^ ((a ^^^ (b ^^^ (-1 : Int64))) &&& (-9187201950435737472 : Int64))))) &&& (-9187201950435737472 : Int64)))])) τ
    refine XS.lushr X0.here hx rfl (hb hby d1_53) rfl ?_
    show Steps p.tables e below (s₁.setTop (mkF m 54 #[.val (.long a), .second, .val (.long b), .second, .val (.long (((a ||| (-9187201950435737472 : Int64)) - (b &&& (9187201950435737471 : Int64))) ^^^ ((a ^^^ (b ^^^ (-1 : Int64))) &&& (-9187201950435737472 : Int64)))), .second, .val (.long ((((a ^^^ (-1 : Int64)) &&& b) ||| (((a ^^^ b) ^^^ (-1 : Int64)) &&& (((a ||| (-9187201950435737472 : Int64)) - (b &&& (9187201950435737471 : Int64))) ^^^ ((a ^^^ (b ^^^ (-1 : Int64))) &&& (-9187201950435737472 : Int64))))) &&& (-9187201950435737472 : Int64))), .second, .unset, .unset] [(.long ((((((a ^^^ (-1 : Int64)) &&& b) ||| (((a ^^^ b) ^^^ (-1 : Int64)) &&& (((a ||| (-9187201950435737472 : Int64)) - (b &&& (9187201950435737471 : Int64))) ^^^ ((a ^^^ (b ^^^ (-1 : Int64))) &&& (-9187201950435737472 : Int64))))) &&& (-9187201950435737472 : Int64)).toUInt64 >>> ((7 : Int32) &&& 0x3f).toInt64.toUInt64).toInt64))])) τ
    refine XS.lstore X0.here hx rfl (hb hby d1_54) rfl (l' := #[.val (.long a), .second, .val (.long b), .second, .val (.long (((a ||| (-9187201950435737472 : Int64)) - (b &&& (9187201950435737471 : Int64))) ^^^ ((a ^^^ (b ^^^ (-1 : Int64))) &&& (-9187201950435737472 : Int64)))), .second, .val (.long ((((a ^^^ (-1 : Int64)) &&& b) ||| (((a ^^^ b) ^^^ (-1 : Int64)) &&& (((a ||| (-9187201950435737472 : Int64)) - (b &&& (9187201950435737471 : Int64))) ^^^ ((a ^^^ (b ^^^ (-1 : Int64))) &&& (-9187201950435737472 : Int64))))) &&& (-9187201950435737472 : Int64))), .second, .val (.long ((((((a ^^^ (-1 : Int64)) &&& b) ||| (((a ^^^ b) ^^^ (-1 : Int64)) &&& (((a ||| (-9187201950435737472 : Int64)) - (b &&& (9187201950435737471 : Int64))) ^^^ ((a ^^^ (b ^^^ (-1 : Int64))) &&& (-9187201950435737472 : Int64))))) &&& (-9187201950435737472 : Int64)).toUInt64 >>> ((7 : Int32) &&& 0x3f).toInt64.toUInt64).toInt64)), .second]) rfl ?_
    show Steps p.tables e below (s₁.setTop (mkF m 56 #[.val (.long a), .second, .val (.long b), .second, .val (.long (((a ||| (-9187201950435737472 : Int64)) - (b &&& (9187201950435737471 : Int64))) ^^^ ((a ^^^ (b ^^^ (-1 : Int64))) &&& (-9187201950435737472 : Int64)))), .second, .val (.long ((((a ^^^ (-1 : Int64)) &&& b) ||| (((a ^^^ b) ^^^ (-1 : Int64)) &&& (((a ||| (-9187201950435737472 : Int64)) - (b &&& (9187201950435737471 : Int64))) ^^^ ((a ^^^ (b ^^^ (-1 : Int64))) &&& (-9187201950435737472 : Int64))))) &&& (-9187201950435737472 : Int64))), .second, .val (.long ((((((a ^^^ (-1 : Int64)) &&& b) ||| (((a ^^^ b) ^^^ (-1 : Int64)) &&& (((a ||| (-9187201950435737472 : Int64)) - (b &&& (9187201950435737471 : Int64))) ^^^ ((a ^^^ (b ^^^ (-1 : Int64))) &&& (-9187201950435737472 : Int64))))) &&& (-9187201950435737472 : Int64)).toUInt64 >>> ((7 : Int32) &&& 0x3f).toInt64.toUInt64).toInt64)), .second] [])) τ
    refine XS.lload X0.here hx rfl (hb hby d1_56) rfl ?_
    show Steps p.tables e below (s₁.setTop (mkF m 58 #[.val (.long a), .second, .val (.long b), .second, .val (.long (((a ||| (-9187201950435737472 : Int64)) - (b &&& (9187201950435737471 : Int64))) ^^^ ((a ^^^ (b ^^^ (-1 : Int64))) &&& (-9187201950435737472 : Int64)))), .second, .val (.long ((((a ^^^ (-1 : Int64)) &&& b) ||| (((a ^^^ b) ^^^ (-1 : Int64)) &&& (((a ||| (-9187201950435737472 : Int64)) - (b &&& (9187201950435737471 : Int64))) ^^^ ((a ^^^ (b ^^^ (-1 : Int64))) &&& (-9187201950435737472 : Int64))))) &&& (-9187201950435737472 : Int64))), .second, .val (.long ((((((a ^^^ (-1 : Int64)) &&& b) ||| (((a ^^^ b) ^^^ (-1 : Int64)) &&& (((a ||| (-9187201950435737472 : Int64)) - (b &&& (9187201950435737471 : Int64))) ^^^ ((a ^^^ (b ^^^ (-1 : Int64))) &&& (-9187201950435737472 : Int64))))) &&& (-9187201950435737472 : Int64)).toUInt64 >>> ((7 : Int32) &&& 0x3f).toInt64.toUInt64).toInt64)), .second] [(.long (((a ||| (-9187201950435737472 : Int64)) - (b &&& (9187201950435737471 : Int64))) ^^^ ((a ^^^ (b ^^^ (-1 : Int64))) &&& (-9187201950435737472 : Int64))))])) τ
    refine XS.lload X0.here hx rfl (hb hby d1_58) rfl ?_
    show Steps p.tables e below (s₁.setTop (mkF m 60 #[.val (.long a), .second, .val (.long b), .second, .val (.long (((a ||| (-9187201950435737472 : Int64)) - (b &&& (9187201950435737471 : Int64))) ^^^ ((a ^^^ (b ^^^ (-1 : Int64))) &&& (-9187201950435737472 : Int64)))), .second, .val (.long ((((a ^^^ (-1 : Int64)) &&& b) ||| (((a ^^^ b) ^^^ (-1 : Int64)) &&& (((a ||| (-9187201950435737472 : Int64)) - (b &&& (9187201950435737471 : Int64))) ^^^ ((a ^^^ (b ^^^ (-1 : Int64))) &&& (-9187201950435737472 : Int64))))) &&& (-9187201950435737472 : Int64))), .second, .val (.long ((((((a ^^^ (-1 : Int64)) &&& b) ||| (((a ^^^ b) ^^^ (-1 : Int64)) &&& (((a ||| (-9187201950435737472 : Int64)) - (b &&& (9187201950435737471 : Int64))) ^^^ ((a ^^^ (b ^^^ (-1 : Int64))) &&& (-9187201950435737472 : Int64))))) &&& (-9187201950435737472 : Int64)).toUInt64 >>> ((7 : Int32) &&& 0x3f).toInt64.toUInt64).toInt64)), .second] [(.long ((((((a ^^^ (-1 : Int64)) &&& b) ||| (((a ^^^ b) ^^^ (-1 : Int64)) &&& (((a ||| (-9187201950435737472 : Int64)) - (b &&& (9187201950435737471 : Int64))) ^^^ ((a ^^^ (b ^^^ (-1 : Int64))) &&& (-9187201950435737472 : Int64))))) &&& (-9187201950435737472 : Int64)).toUInt64 >>> ((7 : Int32) &&& 0x3f).toInt64.toUInt64).toInt64)), (.long (((a ||| (-9187201950435737472 : Int64)) - (b &&& (9187201950435737471 : Int64))) ^^^ ((a ^^^ (b ^^^ (-1 : Int64))) &&& (-9187201950435737472 : Int64))))])) τ
    refine X0.ldc2Long hx hown (mvT hZ (hw _ (List.mem_of_getElem? (i := 8) rfl))) (g := (mkF m 60 #[.val (.long a), .second, .val (.long b), .second, .val (.long (((a ||| (-9187201950435737472 : Int64)) - (b &&& (9187201950435737471 : Int64))) ^^^ ((a ^^^ (b ^^^ (-1 : Int64))) &&& (-9187201950435737472 : Int64)))), .second, .val (.long ((((a ^^^ (-1 : Int64)) &&& b) ||| (((a ^^^ b) ^^^ (-1 : Int64)) &&& (((a ||| (-9187201950435737472 : Int64)) - (b &&& (9187201950435737471 : Int64))) ^^^ ((a ^^^ (b ^^^ (-1 : Int64))) &&& (-9187201950435737472 : Int64))))) &&& (-9187201950435737472 : Int64))), .second, .val (.long ((((((a ^^^ (-1 : Int64)) &&& b) ||| (((a ^^^ b) ^^^ (-1 : Int64)) &&& (((a ||| (-9187201950435737472 : Int64)) - (b &&& (9187201950435737471 : Int64))) ^^^ ((a ^^^ (b ^^^ (-1 : Int64))) &&& (-9187201950435737472 : Int64))))) &&& (-9187201950435737472 : Int64)).toUInt64 >>> ((7 : Int32) &&& 0x3f).toInt64.toUInt64).toInt64)), .second] [(.long ((((((a ^^^ (-1 : Int64)) &&& b) ||| (((a ^^^ b) ^^^ (-1 : Int64)) &&& (((a ||| (-9187201950435737472 : Int64)) - (b &&& (9187201950435737471 : Int64))) ^^^ ((a ^^^ (b ^^^ (-1 : Int64))) &&& (-9187201950435737472 : Int64))))) &&& (-9187201950435737472 : Int64)).toUInt64 >>> ((7 : Int32) &&& 0x3f).toInt64.toUInt64).toInt64)), (.long (((a ||| (-9187201950435737472 : Int64)) - (b &&& (9187201950435737471 : Int64))) ^^^ ((a ^^^ (b ^^^ (-1 : Int64))) &&& (-9187201950435737472 : Int64))))])) rfl (hb hby d1_60) _ ?_
    show Steps p.tables e below (s₁.setTop (mkF m 63 #[.val (.long a), .second, .val (.long b), .second, .val (.long (((a ||| (-9187201950435737472 : Int64)) - (b &&& (9187201950435737471 : Int64))) ^^^ ((a ^^^ (b ^^^ (-1 : Int64))) &&& (-9187201950435737472 : Int64)))), .second, .val (.long ((((a ^^^ (-1 : Int64)) &&& b) ||| (((a ^^^ b) ^^^ (-1 : Int64)) &&& (((a ||| (-9187201950435737472 : Int64)) - (b &&& (9187201950435737471 : Int64))) ^^^ ((a ^^^ (b ^^^ (-1 : Int64))) &&& (-9187201950435737472 : Int64))))) &&& (-9187201950435737472 : Int64))), .second, .val (.long ((((((a ^^^ (-1 : Int64)) &&& b) ||| (((a ^^^ b) ^^^ (-1 : Int64)) &&& (((a ||| (-9187201950435737472 : Int64)) - (b &&& (9187201950435737471 : Int64))) ^^^ ((a ^^^ (b ^^^ (-1 : Int64))) &&& (-9187201950435737472 : Int64))))) &&& (-9187201950435737472 : Int64)).toUInt64 >>> ((7 : Int32) &&& 0x3f).toInt64.toUInt64).toInt64)), .second] [(.long (255 : Int64)), (.long ((((((a ^^^ (-1 : Int64)) &&& b) ||| (((a ^^^ b) ^^^ (-1 : Int64)) &&& (((a ||| (-9187201950435737472 : Int64)) - (b &&& (9187201950435737471 : Int64))) ^^^ ((a ^^^ (b ^^^ (-1 : Int64))) &&& (-9187201950435737472 : Int64))))) &&& (-9187201950435737472 : Int64)).toUInt64 >>> ((7 : Int32) &&& 0x3f).toInt64.toUInt64).toInt64)), (.long (((a ||| (-9187201950435737472 : Int64)) - (b &&& (9187201950435737471 : Int64))) ^^^ ((a ^^^ (b ^^^ (-1 : Int64))) &&& (-9187201950435737472 : Int64))))])) τ
    refine XS.lmul X0.here hx rfl (hb hby d1_63) rfl ?_
    show Steps p.tables e below (s₁.setTop (mkF m 64 #[.val (.long a), .second, .val (.long b), .second, .val (.long (((a ||| (-9187201950435737472 : Int64)) - (b &&& (9187201950435737471 : Int64))) ^^^ ((a ^^^ (b ^^^ (-1 : Int64))) &&& (-9187201950435737472 : Int64)))), .second, .val (.long ((((a ^^^ (-1 : Int64)) &&& b) ||| (((a ^^^ b) ^^^ (-1 : Int64)) &&& (((a ||| (-9187201950435737472 : Int64)) - (b &&& (9187201950435737471 : Int64))) ^^^ ((a ^^^ (b ^^^ (-1 : Int64))) &&& (-9187201950435737472 : Int64))))) &&& (-9187201950435737472 : Int64))), .second, .val (.long ((((((a ^^^ (-1 : Int64)) &&& b) ||| (((a ^^^ b) ^^^ (-1 : Int64)) &&& (((a ||| (-9187201950435737472 : Int64)) - (b &&& (9187201950435737471 : Int64))) ^^^ ((a ^^^ (b ^^^ (-1 : Int64))) &&& (-9187201950435737472 : Int64))))) &&& (-9187201950435737472 : Int64)).toUInt64 >>> ((7 : Int32) &&& 0x3f).toInt64.toUInt64).toInt64)), .second] [(.long (((((((a ^^^ (-1 : Int64)) &&& b) ||| (((a ^^^ b) ^^^ (-1 : Int64)) &&& (((a ||| (-9187201950435737472 : Int64)) - (b &&& (9187201950435737471 : Int64))) ^^^ ((a ^^^ (b ^^^ (-1 : Int64))) &&& (-9187201950435737472 : Int64))))) &&& (-9187201950435737472 : Int64)).toUInt64 >>> ((7 : Int32) &&& 0x3f).toInt64.toUInt64).toInt64) * (255 : Int64))), (.long (((a ||| (-9187201950435737472 : Int64)) - (b &&& (9187201950435737471 : Int64))) ^^^ ((a ^^^ (b ^^^ (-1 : Int64))) &&& (-9187201950435737472 : Int64))))])) τ
    refine XS.lxor X0.here hx rfl (hb hby d1_64) rfl ?_
    show Steps p.tables e below (s₁.setTop (mkF m 65 #[.val (.long a), .second, .val (.long b), .second, .val (.long (((a ||| (-9187201950435737472 : Int64)) - (b &&& (9187201950435737471 : Int64))) ^^^ ((a ^^^ (b ^^^ (-1 : Int64))) &&& (-9187201950435737472 : Int64)))), .second, .val (.long ((((a ^^^ (-1 : Int64)) &&& b) ||| (((a ^^^ b) ^^^ (-1 : Int64)) &&& (((a ||| (-9187201950435737472 : Int64)) - (b &&& (9187201950435737471 : Int64))) ^^^ ((a ^^^ (b ^^^ (-1 : Int64))) &&& (-9187201950435737472 : Int64))))) &&& (-9187201950435737472 : Int64))), .second, .val (.long ((((((a ^^^ (-1 : Int64)) &&& b) ||| (((a ^^^ b) ^^^ (-1 : Int64)) &&& (((a ||| (-9187201950435737472 : Int64)) - (b &&& (9187201950435737471 : Int64))) ^^^ ((a ^^^ (b ^^^ (-1 : Int64))) &&& (-9187201950435737472 : Int64))))) &&& (-9187201950435737472 : Int64)).toUInt64 >>> ((7 : Int32) &&& 0x3f).toInt64.toUInt64).toInt64)), .second] [(.long ((((a ||| (-9187201950435737472 : Int64)) - (b &&& (9187201950435737471 : Int64))) ^^^ ((a ^^^ (b ^^^ (-1 : Int64))) &&& (-9187201950435737472 : Int64))) ^^^ (((((((a ^^^ (-1 : Int64)) &&& b) ||| (((a ^^^ b) ^^^ (-1 : Int64)) &&& (((a ||| (-9187201950435737472 : Int64)) - (b &&& (9187201950435737471 : Int64))) ^^^ ((a ^^^ (b ^^^ (-1 : Int64))) &&& (-9187201950435737472 : Int64))))) &&& (-9187201950435737472 : Int64)).toUInt64 >>> ((7 : Int32) &&& 0x3f).toInt64.toUInt64).toInt64) * (255 : Int64))))])) τ
    refine XS.lload X0.here hx rfl (hb hby d1_65) rfl ?_
    show Steps p.tables e below (s₁.setTop (mkF m 67 #[.val (.long a), .second, .val (.long b), .second, .val (.long (((a ||| (-9187201950435737472 : Int64)) - (b &&& (9187201950435737471 : Int64))) ^^^ ((a ^^^ (b ^^^ (-1 : Int64))) &&& (-9187201950435737472 : Int64)))), .second, .val (.long ((((a ^^^ (-1 : Int64)) &&& b) ||| (((a ^^^ b) ^^^ (-1 : Int64)) &&& (((a ||| (-9187201950435737472 : Int64)) - (b &&& (9187201950435737471 : Int64))) ^^^ ((a ^^^ (b ^^^ (-1 : Int64))) &&& (-9187201950435737472 : Int64))))) &&& (-9187201950435737472 : Int64))), .second, .val (.long ((((((a ^^^ (-1 : Int64)) &&& b) ||| (((a ^^^ b) ^^^ (-1 : Int64)) &&& (((a ||| (-9187201950435737472 : Int64)) - (b &&& (9187201950435737471 : Int64))) ^^^ ((a ^^^ (b ^^^ (-1 : Int64))) &&& (-9187201950435737472 : Int64))))) &&& (-9187201950435737472 : Int64)).toUInt64 >>> ((7 : Int32) &&& 0x3f).toInt64.toUInt64).toInt64)), .second] [(.long ((((((a ^^^ (-1 : Int64)) &&& b) ||| (((a ^^^ b) ^^^ (-1 : Int64)) &&& (((a ||| (-9187201950435737472 : Int64)) - (b &&& (9187201950435737471 : Int64))) ^^^ ((a ^^^ (b ^^^ (-1 : Int64))) &&& (-9187201950435737472 : Int64))))) &&& (-9187201950435737472 : Int64)).toUInt64 >>> ((7 : Int32) &&& 0x3f).toInt64.toUInt64).toInt64)), (.long ((((a ||| (-9187201950435737472 : Int64)) - (b &&& (9187201950435737471 : Int64))) ^^^ ((a ^^^ (b ^^^ (-1 : Int64))) &&& (-9187201950435737472 : Int64))) ^^^ (((((((a ^^^ (-1 : Int64)) &&& b) ||| (((a ^^^ b) ^^^ (-1 : Int64)) &&& (((a ||| (-9187201950435737472 : Int64)) - (b &&& (9187201950435737471 : Int64))) ^^^ ((a ^^^ (b ^^^ (-1 : Int64))) &&& (-9187201950435737472 : Int64))))) &&& (-9187201950435737472 : Int64)).toUInt64 >>> ((7 : Int32) &&& 0x3f).toInt64.toUInt64).toInt64) * (255 : Int64))))])) τ
    refine XS.ladd X0.here hx rfl (hb hby d1_67) rfl ?_
    show Steps p.tables e below (s₁.setTop (mkF m 68 #[.val (.long a), .second, .val (.long b), .second, .val (.long (((a ||| (-9187201950435737472 : Int64)) - (b &&& (9187201950435737471 : Int64))) ^^^ ((a ^^^ (b ^^^ (-1 : Int64))) &&& (-9187201950435737472 : Int64)))), .second, .val (.long ((((a ^^^ (-1 : Int64)) &&& b) ||| (((a ^^^ b) ^^^ (-1 : Int64)) &&& (((a ||| (-9187201950435737472 : Int64)) - (b &&& (9187201950435737471 : Int64))) ^^^ ((a ^^^ (b ^^^ (-1 : Int64))) &&& (-9187201950435737472 : Int64))))) &&& (-9187201950435737472 : Int64))), .second, .val (.long ((((((a ^^^ (-1 : Int64)) &&& b) ||| (((a ^^^ b) ^^^ (-1 : Int64)) &&& (((a ||| (-9187201950435737472 : Int64)) - (b &&& (9187201950435737471 : Int64))) ^^^ ((a ^^^ (b ^^^ (-1 : Int64))) &&& (-9187201950435737472 : Int64))))) &&& (-9187201950435737472 : Int64)).toUInt64 >>> ((7 : Int32) &&& 0x3f).toInt64.toUInt64).toInt64)), .second] [(.long (((((a ||| (-9187201950435737472 : Int64)) - (b &&& (9187201950435737471 : Int64))) ^^^ ((a ^^^ (b ^^^ (-1 : Int64))) &&& (-9187201950435737472 : Int64))) ^^^ (((((((a ^^^ (-1 : Int64)) &&& b) ||| (((a ^^^ b) ^^^ (-1 : Int64)) &&& (((a ||| (-9187201950435737472 : Int64)) - (b &&& (9187201950435737471 : Int64))) ^^^ ((a ^^^ (b ^^^ (-1 : Int64))) &&& (-9187201950435737472 : Int64))))) &&& (-9187201950435737472 : Int64)).toUInt64 >>> ((7 : Int32) &&& 0x3f).toInt64.toUInt64).toInt64) * (255 : Int64))) + ((((((a ^^^ (-1 : Int64)) &&& b) ||| (((a ^^^ b) ^^^ (-1 : Int64)) &&& (((a ||| (-9187201950435737472 : Int64)) - (b &&& (9187201950435737471 : Int64))) ^^^ ((a ^^^ (b ^^^ (-1 : Int64))) &&& (-9187201950435737472 : Int64))))) &&& (-9187201950435737472 : Int64)).toUInt64 >>> ((7 : Int32) &&& 0x3f).toInt64.toUInt64).toInt64)))])) τ
    exact κ)
  obtain ⟨fsα, hr, hrun, hended, hW, hsame⟩ := X0.leave (v := some (.long (((((a ||| (-9187201950435737472 : Int64)) - (b &&& (9187201950435737471 : Int64))) ^^^ ((a ^^^ (b ^^^ (-1 : Int64))) &&& (-9187201950435737472 : Int64))) ^^^ (((((((a ^^^ (-1 : Int64)) &&& b) ||| (((a ^^^ b) ^^^ (-1 : Int64)) &&& (((a ||| (-9187201950435737472 : Int64)) - (b &&& (9187201950435737471 : Int64))) ^^^ ((a ^^^ (b ^^^ (-1 : Int64))) &&& (-9187201950435737472 : Int64))))) &&& (-9187201950435737472 : Int64)).toUInt64 >>> ((7 : Int32) &&& 0x3f).toInt64.toUInt64).toInt64) * (255 : Int64))) + ((((((a ^^^ (-1 : Int64)) &&& b) ||| (((a ^^^ b) ^^^ (-1 : Int64)) &&& (((a ||| (-9187201950435737472 : Int64)) - (b &&& (9187201950435737471 : Int64))) ^^^ ((a ^^^ (b ^^^ (-1 : Int64))) &&& (-9187201950435737472 : Int64))))) &&& (-9187201950435737472 : Int64)).toUInt64 >>> ((7 : Int32) &&& 0x3f).toInt64.toUInt64).toInt64)))) (fun h => by rw [Bd.returns] at h; cases h)
  refine hGL ⟨_, _, hG _ (pre _ ?_), hrun, hended, _, _, rfl, ?_, ⟨_, rfl⟩, hW, hsame.mono (by decide) (by decide)⟩
  · exact retOut X0 hx Bd.returns rfl (Or.inr (Or.inl ⟨rfl, rfl, _, rfl⟩)) (hb hby d1_68) hr
  · show Q1 Z a b h0 n0 _ s₁.heap _
    rw [e0]
    refine ⟨?_, N0, rfl⟩
    unfold own_ad own_on own_df
    rfl
theorem d3_0 : decode jdk_29_method_59_code 0 = .ok (.iload_n 0, 1) := by decide +kernel
theorem d3_1 : decode jdk_29_method_59_code 1 = .ok (.ifCond .ge 8, 3) := by decide +kernel
theorem d3_4 : decode jdk_29_method_59_code 4 = .ok (.iload_n 0, 1) := by decide +kernel
theorem d3_5 : decode jdk_29_method_59_code 5 = .ok (.ineg, 1) := by decide +kernel
theorem d3_6 : decode jdk_29_method_59_code 6 = .ok (.goto 4, 3) := by decide +kernel
theorem d3_10 : decode jdk_29_method_59_code 10 = .ok (.ireturn, 1) := by decide +kernel
theorem d3_9 : decode jdk_29_method_59_code 9 = .ok (.iload_n 0, 1) := by decide +kernel
theorem ef_3 (m : MethodId) (x0 : Int32) : entryFrame m #[(.int x0)] 1 = mkF m 0 #[.val (.int x0)] [] := by first | (simp [entryFrame, mkF, argsToLocals, Value.category]; done) | rfl
def Q3 (Z : State) (x : Int32) (h0 : Heap) (n0 : Nat) (vα : Option Value) (hα : Heap) (Lα : List Loc) : Prop := vα = some (.int (own_abs x)) ∧ Fr n0 Lα ∧ hα = h0
set_option maxRecDepth 65536 in
set_option maxHeartbeats 40000000 in
theorem rm3 (l : Launch) (Z : State) (a0 : Array Value) (hw : ∀ d ∈ tables_1, d.before a0 Z = true) (ws : List Jvm.Cond) (x : Int32) (h0 : Heap) (n0 : Nat) (Z0 : n0 ≤ h0.size) :
    MetFree l (⟨"java/lang/Math", "abs", "(I)I"⟩ : MethodName) (head1 (Jvm.Cond.code (⟨"java/lang/Math", "abs", "(I)I"⟩ : MethodName) jdk_29_method_59_code 1 (some .int) :: ws) ({ frames := 0, cells := 0, slots := 0, locals := 0 } : Room)) (fun aα U => aα = #[(.int x)] ∧ Z.Warmed39 U.vm ∧ U.heap = h0) (fun _ _ _ _ _ => True) (fun _ U oα U' => ∃ vα Lα, oα = .returned vα ∧ Q3 Z x h0 n0 vα U'.heap Lα ∧ FrameEnd U oα U' Lα ({ frames := 0, cells := 0, slots := 0, locals := 0 } : Room).cells ({ frames := 0, cells := 0, slots := 0, locals := 0 } : Room).slots) := by
  refine MetFree.of_bodySF (Jvm.Free.JP.mathPlain rfl (by decide +kernel)) hisR ?_
  intro p e s m args below meth c s₁ Bd hml0 hP hK
  refine own_wrap ?_
  intro GL hGL
  obtain ⟨rfl, hZ, hh⟩ := hP
  have hx := Bd.exec
  have hby := Bd.bytes
  have hml : c.maxLocals = 1 := hml0
  have hown : s.vm.findClass "java/lang/Math" = some m.cls := findClass_of_methodNamed Bd.named
  have hnm := (name_of_methodNamed Bd.named Bd.method).1
  have X0 : Stand p l e ({ frames := 0, cells := 0, slots := 0, locals := 0 } : Room) s m #[(.int x)] below meth c s₁ [] 0 0 := Stand.of_body Bd
  have e0 : s₁.heap = h0 := by rw [← hh, Bd.state]; rfl
  have N0 := Fr.nil n0
  have pre0 : ∀ τ, Steps p.tables e below (s₁.setTop (mkF m 0 #[.val (.int x)] [])) τ → Steps p.tables e below (s₁.setTop (entryFrame m #[(.int x)] 1)) τ := fun τ κ => castTop (ef_3 m x) κ
  obtain ⟨G, hG, pre⟩ : ∃ G : State → Prop, (∀ τ, G τ → Steps p.tables e below (s₁.setTop (entryFrame m #[(.int x)] 1)) τ) ∧ ∀ τ, Steps p.tables e below (s₁.setTop (mkF m 0 #[.val (.int x)] [])) τ → G τ := ⟨_, pre0, fun _ k => k⟩
  have K : Keep h0 h0 [] := Keep.refl h0 _
  have Zn := Z0
  have pre : ∀ τ, Steps p.tables e below (s₁.setTop (mkF m 1 #[.val (.int x)] [(.int x)])) τ → G τ := fun τ κ => pre τ (by
    refine XS.iloadN X0.here hx rfl (hb hby d3_0) rfl ?_
    show Steps p.tables e below (s₁.setTop (mkF m 1 #[.val (.int x)] [(.int x)])) τ
    exact κ)
  rcases Classical.em (x < (0 : Int32)) with hc1_1 | hc1_1
  ·
    have pre : ∀ τ, Steps p.tables e below (s₁.setTop (mkF m 10 #[.val (.int x)] [(.int (-x))])) τ → G τ := fun τ κ => pre τ (by
      refine XS.ifNo X0.here hx rfl (hb hby d3_1) rfl ((if0 _ _).trans (tlt hc1_1).2.1) ?_
      show Steps p.tables e below (s₁.setTop (mkF m 4 #[.val (.int x)] [])) τ
      refine XS.iloadN X0.here hx rfl (hb hby d3_4) rfl ?_
      show Steps p.tables e below (s₁.setTop (mkF m 5 #[.val (.int x)] [(.int x)])) τ
      refine XS.ineg X0.here hx rfl (hb hby d3_5) rfl ?_
      show Steps p.tables e below (s₁.setTop (mkF m 6 #[.val (.int x)] [(.int (-x))])) τ
      refine XS.goto X0.here hx rfl (pc0 := 6) (pc' := 10) rfl (hb hby d3_6) (by decide) (by decide) ?_
      show Steps p.tables e below (s₁.setTop (mkF m 10 #[.val (.int x)] [(.int (-x))])) τ
      exact κ)
    obtain ⟨fsα, hr, hrun, hended, hW, hsame⟩ := X0.leave (v := some (.int (-x))) (fun h => by rw [Bd.returns] at h; cases h)
    refine hGL ⟨_, _, hG _ (pre _ ?_), hrun, hended, _, _, rfl, ?_, ⟨_, rfl⟩, hW, hsame.mono (by decide) (by decide)⟩
    · exact retOut X0 hx Bd.returns rfl (Or.inl ⟨rfl, Or.inl rfl, _, rfl⟩) (hb hby d3_10) hr
    · show Q3 Z x h0 n0 _ s₁.heap _
      rw [e0]
      refine ⟨?_, N0, rfl⟩
      simp [own_abs, hc1_1]
  ·
    have pre : ∀ τ, Steps p.tables e below (s₁.setTop (mkF m 10 #[.val (.int x)] [(.int x)])) τ → G τ := fun τ κ => pre τ (by
      refine XS.ifYes X0.here hx rfl (pc0 := 1) (pc' := 9) rfl (hb hby d3_1) rfl ((if0 _ _).trans (flt hc1_1).2.1) (by decide) (by decide) ?_
      show Steps p.tables e below (s₁.setTop (mkF m 9 #[.val (.int x)] [])) τ
      refine XS.iloadN X0.here hx rfl (hb hby d3_9) rfl ?_
      show Steps p.tables e below (s₁.setTop (mkF m 10 #[.val (.int x)] [(.int x)])) τ
      exact κ)
    obtain ⟨fsα, hr, hrun, hended, hW, hsame⟩ := X0.leave (v := some (.int x)) (fun h => by rw [Bd.returns] at h; cases h)
    refine hGL ⟨_, _, hG _ (pre _ ?_), hrun, hended, _, _, rfl, ?_, ⟨_, rfl⟩, hW, hsame.mono (by decide) (by decide)⟩
    · exact retOut X0 hx Bd.returns rfl (Or.inl ⟨rfl, Or.inl rfl, _, rfl⟩) (hb hby d3_10) hr
    · show Q3 Z x h0 n0 _ s₁.heap _
      rw [e0]
      refine ⟨?_, N0, rfl⟩
      simp [own_abs, hc1_1]
theorem pn_1 : plainName "com/example/block_motion_coder/blockmotioncoder/mpeg2/PackedSamplesAbsoluteDifferencesPinLaw" = true := by first | (simp [plainName, overriddenIn]; done) | decide +kernel
theorem d2_0 : decode method_2_code 0 = .ok (.lload_n 0, 1) := by decide +kernel
theorem d2_1 : decode method_2_code 1 = .ok (.iload 6, 2) := by decide +kernel
theorem d2_3 : decode method_2_code 3 = .ok (.lushr, 1) := by decide +kernel
theorem d2_4 : decode method_2_code 4 = .ok (.ldc2_w 7, 3) := by decide +kernel
theorem d2_7 : decode method_2_code 7 = .ok (.land, 1) := by decide +kernel
theorem d2_8 : decode method_2_code 8 = .ok (.l2i, 1) := by decide +kernel
theorem d2_9 : decode method_2_code 9 = .ok (.istore 7, 2) := by decide +kernel
theorem d2_11 : decode method_2_code 11 = .ok (.lload_n 2, 1) := by decide +kernel
theorem d2_12 : decode method_2_code 12 = .ok (.iload 6, 2) := by decide +kernel
theorem d2_14 : decode method_2_code 14 = .ok (.lushr, 1) := by decide +kernel
theorem d2_15 : decode method_2_code 15 = .ok (.ldc2_w 7, 3) := by decide +kernel
theorem d2_18 : decode method_2_code 18 = .ok (.land, 1) := by decide +kernel
theorem d2_19 : decode method_2_code 19 = .ok (.l2i, 1) := by decide +kernel
theorem d2_20 : decode method_2_code 20 = .ok (.istore 8, 2) := by decide +kernel
theorem d2_22 : decode method_2_code 22 = .ok (.lload 4, 2) := by decide +kernel
theorem d2_24 : decode method_2_code 24 = .ok (.iload 6, 2) := by decide +kernel
theorem d2_26 : decode method_2_code 26 = .ok (.lushr, 1) := by decide +kernel
theorem d2_27 : decode method_2_code 27 = .ok (.ldc2_w 7, 3) := by decide +kernel
theorem d2_30 : decode method_2_code 30 = .ok (.land, 1) := by decide +kernel
theorem d2_31 : decode method_2_code 31 = .ok (.l2i, 1) := by decide +kernel
theorem d2_32 : decode method_2_code 32 = .ok (.istore 9, 2) := by decide +kernel
theorem d2_34 : decode method_2_code 34 = .ok (.iload 9, 2) := by decide +kernel
theorem d2_36 : decode method_2_code 36 = .ok (.iload 7, 2) := by decide +kernel
theorem d2_38 : decode method_2_code 38 = .ok (.iload 8, 2) := by decide +kernel
theorem d2_40 : decode method_2_code 40 = .ok (.isub, 1) := by decide +kernel
theorem d2_41 : decode method_2_code 41 = .ok (.invokestatic 9, 3) := by decide +kernel
theorem pd_0 : parseMethodDescriptor "(I)I" = some ⟨[.int], some .int⟩ := by decide +kernel
theorem d2_44 : decode method_2_code 44 = .ok (.if_icmp .ne 7, 3) := by decide +kernel
theorem d2_47 : decode method_2_code 47 = .ok (.iconst 1, 1) := by decide +kernel
theorem d2_48 : decode method_2_code 48 = .ok (.goto 4, 3) := by decide +kernel
theorem d2_52 : decode method_2_code 52 = .ok (.ireturn, 1) := by decide +kernel
theorem d2_51 : decode method_2_code 51 = .ok (.iconst 0, 1) := by decide +kernel
theorem ef_2 (m : MethodId) (x0 : Int64) (x1 : Int64) (x2 : Int64) (x3 : Int32) : entryFrame m #[(.long x0), (.long x1), (.long x2), (.int x3)] 10 = mkF m 0 #[.val (.long x0), .second, .val (.long x1), .second, .val (.long x2), .second, .val (.int x3), .unset, .unset, .unset] [] := by first | (simp [entryFrame, mkF, argsToLocals, Value.category]; done) | rfl
def Q2 (Z : State) (a : Int64) (b : Int64) (r : Int64) (s0 : Int32) (h0 : Heap) (n0 : Nat) (vα : Option Value) (hα : Heap) (Lα : List Loc) : Prop := vα = some (.int (own_lane a b r s0)) ∧ Fr n0 Lα ∧ hα = h0
set_option maxRecDepth 65536 in
set_option maxHeartbeats 40000000 in
theorem rm2 (l : Launch) (Z : State) (a0 : Array Value) (hw : ∀ d ∈ tables_1, d.before a0 Z = true) (ws : List Jvm.Cond) (a : Int64) (b : Int64) (r : Int64) (s0 : Int32) (h0 : Heap) (n0 : Nat) (Z0 : n0 ≤ h0.size) :
    MetFree l (⟨"com/example/block_motion_coder/blockmotioncoder/mpeg2/PackedSamplesAbsoluteDifferencesPinLaw", "lane", "(JJJI)Z"⟩ : MethodName) (head1 (Jvm.Cond.code (⟨"com/example/block_motion_coder/blockmotioncoder/mpeg2/PackedSamplesAbsoluteDifferencesPinLaw", "lane", "(JJJI)Z"⟩ : MethodName) method_2_code 10 (some .boolean) :: ws) ({ frames := 1, cells := 0, slots := 0, locals := 13 } : Room)) (fun aα U => aα = #[(.long a), (.long b), (.long r), (.int s0)] ∧ Z.Warmed39 U.vm ∧ U.heap = h0) (fun _ _ _ _ _ => True) (fun _ U oα U' => ∃ vα Lα, oα = .returned vα ∧ Q2 Z a b r s0 h0 n0 vα U'.heap Lα ∧ FrameEnd U oα U' Lα ({ frames := 1, cells := 0, slots := 0, locals := 13 } : Room).cells ({ frames := 1, cells := 0, slots := 0, locals := 13 } : Room).slots) := by
  refine MetFree.of_bodySF (plainFor_of_name pn_1) hisR ?_
  intro p e s m args below meth c s₁ Bd hml0 hP hK
  refine own_wrap ?_
  intro GL hGL
  obtain ⟨rfl, hZ, hh⟩ := hP
  have hx := Bd.exec
  have hby := Bd.bytes
  have hml : c.maxLocals = 10 := hml0
  have hown : s.vm.findClass "com/example/block_motion_coder/blockmotioncoder/mpeg2/PackedSamplesAbsoluteDifferencesPinLaw" = some m.cls := findClass_of_methodNamed Bd.named
  have hnm := (name_of_methodNamed Bd.named Bd.method).1
  have X0 : Stand p l e ({ frames := 1, cells := 0, slots := 0, locals := 13 } : Room) s m #[(.long a), (.long b), (.long r), (.int s0)] below meth c s₁ [] 0 0 := Stand.of_body Bd
  have e0 : s₁.heap = h0 := by rw [← hh, Bd.state]; rfl
  have N0 := Fr.nil n0
  have pre0 : ∀ τ, Steps p.tables e below (s₁.setTop (mkF m 0 #[.val (.long a), .second, .val (.long b), .second, .val (.long r), .second, .val (.int s0), .unset, .unset, .unset] [])) τ → Steps p.tables e below (s₁.setTop (entryFrame m #[(.long a), (.long b), (.long r), (.int s0)] 10)) τ := fun τ κ => castTop (ef_2 m a b r s0) κ
  obtain ⟨G, hG, pre⟩ : ∃ G : State → Prop, (∀ τ, G τ → Steps p.tables e below (s₁.setTop (entryFrame m #[(.long a), (.long b), (.long r), (.int s0)] 10)) τ) ∧ ∀ τ, Steps p.tables e below (s₁.setTop (mkF m 0 #[.val (.long a), .second, .val (.long b), .second, .val (.long r), .second, .val (.int s0), .unset, .unset, .unset] [])) τ → G τ := ⟨_, pre0, fun _ k => k⟩
  have K : Keep h0 h0 [] := Keep.refl h0 _
  have Zn := Z0
  have pre : ∀ τ, Steps p.tables e below (s₁.setTop (mkF m 41 #[.val (.long a), .second, .val (.long b), .second, .val (.long r), .second, .val (.int s0), .val (.int ((((a.toUInt64 >>> (s0 &&& 0x3f).toInt64.toUInt64).toInt64) &&& (255 : Int64)).toInt32)), .val (.int ((((b.toUInt64 >>> (s0 &&& 0x3f).toInt64.toUInt64).toInt64) &&& (255 : Int64)).toInt32)), .val (.int ((((r.toUInt64 >>> (s0 &&& 0x3f).toInt64.toUInt64).toInt64) &&& (255 : Int64)).toInt32))] [(.int (((((a.toUInt64 >>> (s0 &&& 0x3f).toInt64.toUInt64).toInt64) &&& (255 : Int64)).toInt32) - ((((b.toUInt64 >>> (s0 &&& 0x3f).toInt64.toUInt64).toInt64) &&& (255 : Int64)).toInt32))), (.int ((((r.toUInt64 >>> (s0 &&& 0x3f).toInt64.toUInt64).toInt64) &&& (255 : Int64)).toInt32))])) τ → G τ := fun τ κ => pre τ (by
    refine XS.lloadN X0.here hx rfl (hb hby d2_0) rfl ?_
    show Steps p.tables e below (s₁.setTop (mkF m 1 #[.val (.long a), .second, .val (.long b), .second, .val (.long r), .second, .val (.int s0), .unset, .unset, .unset] [(.long a)])) τ
    refine XS.iload X0.here hx rfl (hb hby d2_1) rfl ?_
    show Steps p.tables e below (s₁.setTop (mkF m 3 #[.val (.long a), .second, .val (.long b), .second, .val (.long r), .second, .val (.int s0), .unset, .unset, .unset] [(.int s0), (.long a)])) τ
    refine XS.lushr X0.here hx rfl (hb hby d2_3) rfl ?_
    show Steps p.tables e below (s₁.setTop (mkF m 4 #[.val (.long a), .second, .val (.long b), .second, .val (.long r), .second, .val (.int s0), .unset, .unset, .unset] [(.long ((a.toUInt64 >>> (s0 &&& 0x3f).toInt64.toUInt64).toInt64))])) τ
    refine X0.ldc2Long hx hown (mvT hZ (hw _ (List.mem_of_getElem? (i := 13) rfl))) (g := (mkF m 4 #[.val (.long a), .second, .val (.long b), .second, .val (.long r), .second, .val (.int s0), .unset, .unset, .unset] [(.long ((a.toUInt64 >>> (s0 &&& 0x3f).toInt64.toUInt64).toInt64))])) rfl (hb hby d2_4) _ ?_
    show Steps p.tables e below (s₁.setTop (mkF m 7 #[.val (.long a), .second, .val (.long b), .second, .val (.long r), .second, .val (.int s0), .unset, .unset, .unset] [(.long (255 : Int64)), (.long ((a.toUInt64 >>> (s0 &&& 0x3f).toInt64.toUInt64).toInt64))])) τ
    refine XS.land X0.here hx rfl (hb hby d2_7) rfl ?_
    show Steps p.tables e below (s₁.setTop (mkF m 8 #[.val (.long a), .second, .val (.long b), .second, .val (.long r), .second, .val (.int s0), .unset, .unset, .unset] [(.long (((a.toUInt64 >>> (s0 &&& 0x3f).toInt64.toUInt64).toInt64) &&& (255 : Int64)))])) τ
    refine XS.l2i X0.here hx rfl (hb hby d2_8) rfl ?_
    show Steps p.tables e below (s₁.setTop (mkF m 9 #[.val (.long a), .second, .val (.long b), .second, .val (.long r), .second, .val (.int s0), .unset, .unset, .unset] [(.int ((((a.toUInt64 >>> (s0 &&& 0x3f).toInt64.toUInt64).toInt64) &&& (255 : Int64)).toInt32))])) τ
    refine XS.istore X0.here hx rfl (hb hby d2_9) rfl (l' := #[.val (.long a), .second, .val (.long b), .second, .val (.long r), .second, .val (.int s0), .val (.int ((((a.toUInt64 >>> (s0 &&& 0x3f).toInt64.toUInt64).toInt64) &&& (255 : Int64)).toInt32)), .unset, .unset]) rfl ?_
    show Steps p.tables e below (s₁.setTop (mkF m 11 #[.val (.long a), .second, .val (.long b), .second, .val (.long r), .second, .val (.int s0), .val (.int ((((a.toUInt64 >>> (s0 &&& 0x3f).toInt64.toUInt64).toInt64) &&& (255 : Int64)).toInt32)), .unset, .unset] [])) τ
    refine XS.lloadN X0.here hx rfl (hb hby d2_11) rfl ?_
    show Steps p.tables e below (s₁.setTop (mkF m 12 #[.val (.long a), .second, .val (.long b), .second, .val (.long r), .second, .val (.int s0), .val (.int ((((a.toUInt64 >>> (s0 &&& 0x3f).toInt64.toUInt64).toInt64) &&& (255 : Int64)).toInt32)), .unset, .unset] [(.long b)])) τ
    refine XS.iload X0.here hx rfl (hb hby d2_12) rfl ?_
    show Steps p.tables e below (s₁.setTop (mkF m 14 #[.val (.long a), .second, .val (.long b), .second, .val (.long r), .second, .val (.int s0), .val (.int ((((a.toUInt64 >>> (s0 &&& 0x3f).toInt64.toUInt64).toInt64) &&& (255 : Int64)).toInt32)), .unset, .unset] [(.int s0), (.long b)])) τ
    refine XS.lushr X0.here hx rfl (hb hby d2_14) rfl ?_
    show Steps p.tables e below (s₁.setTop (mkF m 15 #[.val (.long a), .second, .val (.long b), .second, .val (.long r), .second, .val (.int s0), .val (.int ((((a.toUInt64 >>> (s0 &&& 0x3f).toInt64.toUInt64).toInt64) &&& (255 : Int64)).toInt32)), .unset, .unset] [(.long ((b.toUInt64 >>> (s0 &&& 0x3f).toInt64.toUInt64).toInt64))])) τ
    refine X0.ldc2Long hx hown (mvT hZ (hw _ (List.mem_of_getElem? (i := 13) rfl))) (g := (mkF m 15 #[.val (.long a), .second, .val (.long b), .second, .val (.long r), .second, .val (.int s0), .val (.int ((((a.toUInt64 >>> (s0 &&& 0x3f).toInt64.toUInt64).toInt64) &&& (255 : Int64)).toInt32)), .unset, .unset] [(.long ((b.toUInt64 >>> (s0 &&& 0x3f).toInt64.toUInt64).toInt64))])) rfl (hb hby d2_15) _ ?_
    show Steps p.tables e below (s₁.setTop (mkF m 18 #[.val (.long a), .second, .val (.long b), .second, .val (.long r), .second, .val (.int s0), .val (.int ((((a.toUInt64 >>> (s0 &&& 0x3f).toInt64.toUInt64).toInt64) &&& (255 : Int64)).toInt32)), .unset, .unset] [(.long (255 : Int64)), (.long ((b.toUInt64 >>> (s0 &&& 0x3f).toInt64.toUInt64).toInt64))])) τ
    refine XS.land X0.here hx rfl (hb hby d2_18) rfl ?_
    show Steps p.tables e below (s₁.setTop (mkF m 19 #[.val (.long a), .second, .val (.long b), .second, .val (.long r), .second, .val (.int s0), .val (.int ((((a.toUInt64 >>> (s0 &&& 0x3f).toInt64.toUInt64).toInt64) &&& (255 : Int64)).toInt32)), .unset, .unset] [(.long (((b.toUInt64 >>> (s0 &&& 0x3f).toInt64.toUInt64).toInt64) &&& (255 : Int64)))])) τ
    refine XS.l2i X0.here hx rfl (hb hby d2_19) rfl ?_
    show Steps p.tables e below (s₁.setTop (mkF m 20 #[.val (.long a), .second, .val (.long b), .second, .val (.long r), .second, .val (.int s0), .val (.int ((((a.toUInt64 >>> (s0 &&& 0x3f).toInt64.toUInt64).toInt64) &&& (255 : Int64)).toInt32)), .unset, .unset] [(.int ((((b.toUInt64 >>> (s0 &&& 0x3f).toInt64.toUInt64).toInt64) &&& (255 : Int64)).toInt32))])) τ
    refine XS.istore X0.here hx rfl (hb hby d2_20) rfl (l' := #[.val (.long a), .second, .val (.long b), .second, .val (.long r), .second, .val (.int s0), .val (.int ((((a.toUInt64 >>> (s0 &&& 0x3f).toInt64.toUInt64).toInt64) &&& (255 : Int64)).toInt32)), .val (.int ((((b.toUInt64 >>> (s0 &&& 0x3f).toInt64.toUInt64).toInt64) &&& (255 : Int64)).toInt32)), .unset]) rfl ?_
    show Steps p.tables e below (s₁.setTop (mkF m 22 #[.val (.long a), .second, .val (.long b), .second, .val (.long r), .second, .val (.int s0), .val (.int ((((a.toUInt64 >>> (s0 &&& 0x3f).toInt64.toUInt64).toInt64) &&& (255 : Int64)).toInt32)), .val (.int ((((b.toUInt64 >>> (s0 &&& 0x3f).toInt64.toUInt64).toInt64) &&& (255 : Int64)).toInt32)), .unset] [])) τ
    refine XS.lload X0.here hx rfl (hb hby d2_22) rfl ?_
    show Steps p.tables e below (s₁.setTop (mkF m 24 #[.val (.long a), .second, .val (.long b), .second, .val (.long r), .second, .val (.int s0), .val (.int ((((a.toUInt64 >>> (s0 &&& 0x3f).toInt64.toUInt64).toInt64) &&& (255 : Int64)).toInt32)), .val (.int ((((b.toUInt64 >>> (s0 &&& 0x3f).toInt64.toUInt64).toInt64) &&& (255 : Int64)).toInt32)), .unset] [(.long r)])) τ
    refine XS.iload X0.here hx rfl (hb hby d2_24) rfl ?_
    show Steps p.tables e below (s₁.setTop (mkF m 26 #[.val (.long a), .second, .val (.long b), .second, .val (.long r), .second, .val (.int s0), .val (.int ((((a.toUInt64 >>> (s0 &&& 0x3f).toInt64.toUInt64).toInt64) &&& (255 : Int64)).toInt32)), .val (.int ((((b.toUInt64 >>> (s0 &&& 0x3f).toInt64.toUInt64).toInt64) &&& (255 : Int64)).toInt32)), .unset] [(.int s0), (.long r)])) τ
    refine XS.lushr X0.here hx rfl (hb hby d2_26) rfl ?_
    show Steps p.tables e below (s₁.setTop (mkF m 27 #[.val (.long a), .second, .val (.long b), .second, .val (.long r), .second, .val (.int s0), .val (.int ((((a.toUInt64 >>> (s0 &&& 0x3f).toInt64.toUInt64).toInt64) &&& (255 : Int64)).toInt32)), .val (.int ((((b.toUInt64 >>> (s0 &&& 0x3f).toInt64.toUInt64).toInt64) &&& (255 : Int64)).toInt32)), .unset] [(.long ((r.toUInt64 >>> (s0 &&& 0x3f).toInt64.toUInt64).toInt64))])) τ
    refine X0.ldc2Long hx hown (mvT hZ (hw _ (List.mem_of_getElem? (i := 13) rfl))) (g := (mkF m 27 #[.val (.long a), .second, .val (.long b), .second, .val (.long r), .second, .val (.int s0), .val (.int ((((a.toUInt64 >>> (s0 &&& 0x3f).toInt64.toUInt64).toInt64) &&& (255 : Int64)).toInt32)), .val (.int ((((b.toUInt64 >>> (s0 &&& 0x3f).toInt64.toUInt64).toInt64) &&& (255 : Int64)).toInt32)), .unset] [(.long ((r.toUInt64 >>> (s0 &&& 0x3f).toInt64.toUInt64).toInt64))])) rfl (hb hby d2_27) _ ?_
    show Steps p.tables e below (s₁.setTop (mkF m 30 #[.val (.long a), .second, .val (.long b), .second, .val (.long r), .second, .val (.int s0), .val (.int ((((a.toUInt64 >>> (s0 &&& 0x3f).toInt64.toUInt64).toInt64) &&& (255 : Int64)).toInt32)), .val (.int ((((b.toUInt64 >>> (s0 &&& 0x3f).toInt64.toUInt64).toInt64) &&& (255 : Int64)).toInt32)), .unset] [(.long (255 : Int64)), (.long ((r.toUInt64 >>> (s0 &&& 0x3f).toInt64.toUInt64).toInt64))])) τ
    refine XS.land X0.here hx rfl (hb hby d2_30) rfl ?_
    show Steps p.tables e below (s₁.setTop (mkF m 31 #[.val (.long a), .second, .val (.long b), .second, .val (.long r), .second, .val (.int s0), .val (.int ((((a.toUInt64 >>> (s0 &&& 0x3f).toInt64.toUInt64).toInt64) &&& (255 : Int64)).toInt32)), .val (.int ((((b.toUInt64 >>> (s0 &&& 0x3f).toInt64.toUInt64).toInt64) &&& (255 : Int64)).toInt32)), .unset] [(.long (((r.toUInt64 >>> (s0 &&& 0x3f).toInt64.toUInt64).toInt64) &&& (255 : Int64)))])) τ
    refine XS.l2i X0.here hx rfl (hb hby d2_31) rfl ?_
    show Steps p.tables e below (s₁.setTop (mkF m 32 #[.val (.long a), .second, .val (.long b), .second, .val (.long r), .second, .val (.int s0), .val (.int ((((a.toUInt64 >>> (s0 &&& 0x3f).toInt64.toUInt64).toInt64) &&& (255 : Int64)).toInt32)), .val (.int ((((b.toUInt64 >>> (s0 &&& 0x3f).toInt64.toUInt64).toInt64) &&& (255 : Int64)).toInt32)), .unset] [(.int ((((r.toUInt64 >>> (s0 &&& 0x3f).toInt64.toUInt64).toInt64) &&& (255 : Int64)).toInt32))])) τ
    refine XS.istore X0.here hx rfl (hb hby d2_32) rfl (l' := #[.val (.long a), .second, .val (.long b), .second, .val (.long r), .second, .val (.int s0), .val (.int ((((a.toUInt64 >>> (s0 &&& 0x3f).toInt64.toUInt64).toInt64) &&& (255 : Int64)).toInt32)), .val (.int ((((b.toUInt64 >>> (s0 &&& 0x3f).toInt64.toUInt64).toInt64) &&& (255 : Int64)).toInt32)), .val (.int ((((r.toUInt64 >>> (s0 &&& 0x3f).toInt64.toUInt64).toInt64) &&& (255 : Int64)).toInt32))]) rfl ?_
    show Steps p.tables e below (s₁.setTop (mkF m 34 #[.val (.long a), .second, .val (.long b), .second, .val (.long r), .second, .val (.int s0), .val (.int ((((a.toUInt64 >>> (s0 &&& 0x3f).toInt64.toUInt64).toInt64) &&& (255 : Int64)).toInt32)), .val (.int ((((b.toUInt64 >>> (s0 &&& 0x3f).toInt64.toUInt64).toInt64) &&& (255 : Int64)).toInt32)), .val (.int ((((r.toUInt64 >>> (s0 &&& 0x3f).toInt64.toUInt64).toInt64) &&& (255 : Int64)).toInt32))] [])) τ
    refine XS.iload X0.here hx rfl (hb hby d2_34) rfl ?_
    show Steps p.tables e below (s₁.setTop (mkF m 36 #[.val (.long a), .second, .val (.long b), .second, .val (.long r), .second, .val (.int s0), .val (.int ((((a.toUInt64 >>> (s0 &&& 0x3f).toInt64.toUInt64).toInt64) &&& (255 : Int64)).toInt32)), .val (.int ((((b.toUInt64 >>> (s0 &&& 0x3f).toInt64.toUInt64).toInt64) &&& (255 : Int64)).toInt32)), .val (.int ((((r.toUInt64 >>> (s0 &&& 0x3f).toInt64.toUInt64).toInt64) &&& (255 : Int64)).toInt32))] [(.int ((((r.toUInt64 >>> (s0 &&& 0x3f).toInt64.toUInt64).toInt64) &&& (255 : Int64)).toInt32))])) τ
    refine XS.iload X0.here hx rfl (hb hby d2_36) rfl ?_
    show Steps p.tables e below (s₁.setTop (mkF m 38 #[.val (.long a), .second, .val (.long b), .second, .val (.long r), .second, .val (.int s0), .val (.int ((((a.toUInt64 >>> (s0 &&& 0x3f).toInt64.toUInt64).toInt64) &&& (255 : Int64)).toInt32)), .val (.int ((((b.toUInt64 >>> (s0 &&& 0x3f).toInt64.toUInt64).toInt64) &&& (255 : Int64)).toInt32)), .val (.int ((((r.toUInt64 >>> (s0 &&& 0x3f).toInt64.toUInt64).toInt64) &&& (255 : Int64)).toInt32))] [(.int ((((a.toUInt64 >>> (s0 &&& 0x3f).toInt64.toUInt64).toInt64) &&& (255 : Int64)).toInt32)), (.int ((((r.toUInt64 >>> (s0 &&& 0x3f).toInt64.toUInt64).toInt64) &&& (255 : Int64)).toInt32))])) τ
    refine XS.iload X0.here hx rfl (hb hby d2_38) rfl ?_
    show Steps p.tables e below (s₁.setTop (mkF m 40 #[.val (.long a), .second, .val (.long b), .second, .val (.long r), .second, .val (.int s0), .val (.int ((((a.toUInt64 >>> (s0 &&& 0x3f).toInt64.toUInt64).toInt64) &&& (255 : Int64)).toInt32)), .val (.int ((((b.toUInt64 >>> (s0 &&& 0x3f).toInt64.toUInt64).toInt64) &&& (255 : Int64)).toInt32)), .val (.int ((((r.toUInt64 >>> (s0 &&& 0x3f).toInt64.toUInt64).toInt64) &&& (255 : Int64)).toInt32))] [(.int ((((b.toUInt64 >>> (s0 &&& 0x3f).toInt64.toUInt64).toInt64) &&& (255 : Int64)).toInt32)), (.int ((((a.toUInt64 >>> (s0 &&& 0x3f).toInt64.toUInt64).toInt64) &&& (255 : Int64)).toInt32)), (.int ((((r.toUInt64 >>> (s0 &&& 0x3f).toInt64.toUInt64).toInt64) &&& (255 : Int64)).toInt32))])) τ
    refine XS.isub X0.here hx rfl (hb hby d2_40) rfl ?_
    show Steps p.tables e below (s₁.setTop (mkF m 41 #[.val (.long a), .second, .val (.long b), .second, .val (.long r), .second, .val (.int s0), .val (.int ((((a.toUInt64 >>> (s0 &&& 0x3f).toInt64.toUInt64).toInt64) &&& (255 : Int64)).toInt32)), .val (.int ((((b.toUInt64 >>> (s0 &&& 0x3f).toInt64.toUInt64).toInt64) &&& (255 : Int64)).toInt32)), .val (.int ((((r.toUInt64 >>> (s0 &&& 0x3f).toInt64.toUInt64).toInt64) &&& (255 : Int64)).toInt32))] [(.int (((((a.toUInt64 >>> (s0 &&& 0x3f).toInt64.toUInt64).toInt64) &&& (255 : Int64)).toInt32) - ((((b.toUInt64 >>> (s0 &&& 0x3f).toInt64.toUInt64).toInt64) &&& (255 : Int64)).toInt32))), (.int ((((r.toUInt64 >>> (s0 &&& 0x3f).toInt64.toUInt64).toInt64) &&& (255 : Int64)).toInt32))])) τ
    exact κ)
  obtain ⟨_, _, ⟨T1, Lx1, kx1, nx1⟩, -, X1, ⟨Lc1, hQ1, l1, y1, z1⟩, st1⟩ := Jvm.LawKit.callS X0 hx (y := (⟨"java/lang/Math", "abs", "(I)I"⟩ : MethodName)) hown (mvT hZ (hw _ (List.mem_of_getElem? (i := 14) rfl))) (mvT hZ (hw _ (List.mem_of_getElem? (i := 15) rfl))) (mvT hZ (hw _ (List.mem_of_getElem? (i := 16) rfl))) (mvT hZ (hw _ (List.mem_of_getElem? (i := 17) rfl))) (by decide) (backOf (W := 1) (rm3 l Z a0 hw [] (((((a.toUInt64 >>> (s0 &&& 0x3f).toInt64.toUInt64).toInt64) &&& (255 : Int64)).toInt32) - ((((b.toUInt64 >>> (s0 &&& 0x3f).toInt64.toUInt64).toInt64) &&& (255 : Int64)).toInt32)) h0 n0 Zn) hZ (hw _ (List.mem_of_getElem? (i := 17) rfl)) (hw _ (List.mem_of_getElem? (i := 16) rfl)) (by decide) (by decide)) (g := (mkF m 41 #[.val (.long a), .second, .val (.long b), .second, .val (.long r), .second, .val (.int s0), .val (.int ((((a.toUInt64 >>> (s0 &&& 0x3f).toInt64.toUInt64).toInt64) &&& (255 : Int64)).toInt32)), .val (.int ((((b.toUInt64 >>> (s0 &&& 0x3f).toInt64.toUInt64).toInt64) &&& (255 : Int64)).toInt32)), .val (.int ((((r.toUInt64 >>> (s0 &&& 0x3f).toInt64.toUInt64).toInt64) &&& (255 : Int64)).toInt32))] [(.int (((((a.toUInt64 >>> (s0 &&& 0x3f).toInt64.toUInt64).toInt64) &&& (255 : Int64)).toInt32) - ((((b.toUInt64 >>> (s0 &&& 0x3f).toInt64.toUInt64).toInt64) &&& (255 : Int64)).toInt32))), (.int ((((r.toUInt64 >>> (s0 &&& 0x3f).toInt64.toUInt64).toInt64) &&& (255 : Int64)).toInt32))])) rfl (by rw [hml]; rfl) (argsL := [(.int (((((a.toUInt64 >>> (s0 &&& 0x3f).toInt64.toUInt64).toInt64) &&& (255 : Int64)).toInt32) - ((((b.toUInt64 >>> (s0 &&& 0x3f).toInt64.toUInt64).toInt64) &&& (255 : Int64)).toInt32)))]) (rest := [(.int ((((r.toUInt64 >>> (s0 &&& 0x3f).toInt64.toUInt64).toInt64) &&& (255 : Int64)).toInt32))]) (lenOf pd_0 rfl) rfl (by show 2 * 0 + _ ≤ _; exact Nat.le_of_eq rfl) (hb hby d2_41) (fun _ _ => ⟨rfl, e0, (by decide : 0 + 0 ≤ _), (by decide : 0 + 0 ≤ _)⟩)
  dsimp only [Pt.U, Pt.locs, Pt.cells, Pt.slots] at X1 l1 y1 z1 st1 hQ1
  subst l1 y1 z1
  obtain ⟨rfl, Nq1, hs1⟩ := hQ1
  have NN := Fr.app N0 Nq1
  have pre : ∀ τ, Steps p.tables e below (T1.setTop (mkF m 44 #[.val (.long a), .second, .val (.long b), .second, .val (.long r), .second, .val (.int s0), .val (.int ((((a.toUInt64 >>> (s0 &&& 0x3f).toInt64.toUInt64).toInt64) &&& (255 : Int64)).toInt32)), .val (.int ((((b.toUInt64 >>> (s0 &&& 0x3f).toInt64.toUInt64).toInt64) &&& (255 : Int64)).toInt32)), .val (.int ((((r.toUInt64 >>> (s0 &&& 0x3f).toInt64.toUInt64).toInt64) &&& (255 : Int64)).toInt32))] [(.int (own_abs (((((a.toUInt64 >>> (s0 &&& 0x3f).toInt64.toUInt64).toInt64) &&& (255 : Int64)).toInt32) - ((((b.toUInt64 >>> (s0 &&& 0x3f).toInt64.toUInt64).toInt64) &&& (255 : Int64)).toInt32)))), (.int ((((r.toUInt64 >>> (s0 &&& 0x3f).toInt64.toUInt64).toInt64) &&& (255 : Int64)).toInt32))])) τ → G τ := fun τ κ => pre τ (st1 τ κ)
  rcases Classical.em (((((r.toUInt64 >>> (s0 &&& 0x3f).toInt64.toUInt64).toInt64) &&& (255 : Int64)).toInt32) = (own_abs (((((a.toUInt64 >>> (s0 &&& 0x3f).toInt64.toUInt64).toInt64) &&& (255 : Int64)).toInt32) - ((((b.toUInt64 >>> (s0 &&& 0x3f).toInt64.toUInt64).toInt64) &&& (255 : Int64)).toInt32)))) with hc44_2 | hc44_2
  ·
    have pre : ∀ τ, Steps p.tables e below (T1.setTop (mkF m 52 #[.val (.long a), .second, .val (.long b), .second, .val (.long r), .second, .val (.int s0), .val (.int ((((a.toUInt64 >>> (s0 &&& 0x3f).toInt64.toUInt64).toInt64) &&& (255 : Int64)).toInt32)), .val (.int ((((b.toUInt64 >>> (s0 &&& 0x3f).toInt64.toUInt64).toInt64) &&& (255 : Int64)).toInt32)), .val (.int ((((r.toUInt64 >>> (s0 &&& 0x3f).toInt64.toUInt64).toInt64) &&& (255 : Int64)).toInt32))] [(.int (1 : Int32))])) τ → G τ := fun τ κ => pre τ (by
      refine XS.icmpNo X1.here hx rfl (hb hby d2_44) rfl (teq hc44_2).2 ?_
      show Steps p.tables e below (T1.setTop (mkF m 47 #[.val (.long a), .second, .val (.long b), .second, .val (.long r), .second, .val (.int s0), .val (.int ((((a.toUInt64 >>> (s0 &&& 0x3f).toInt64.toUInt64).toInt64) &&& (255 : Int64)).toInt32)), .val (.int ((((b.toUInt64 >>> (s0 &&& 0x3f).toInt64.toUInt64).toInt64) &&& (255 : Int64)).toInt32)), .val (.int ((((r.toUInt64 >>> (s0 &&& 0x3f).toInt64.toUInt64).toInt64) &&& (255 : Int64)).toInt32))] [])) τ
      refine XS.iconst X1.here hx rfl (hb hby d2_47) ?_
      show Steps p.tables e below (T1.setTop (mkF m 48 #[.val (.long a), .second, .val (.long b), .second, .val (.long r), .second, .val (.int s0), .val (.int ((((a.toUInt64 >>> (s0 &&& 0x3f).toInt64.toUInt64).toInt64) &&& (255 : Int64)).toInt32)), .val (.int ((((b.toUInt64 >>> (s0 &&& 0x3f).toInt64.toUInt64).toInt64) &&& (255 : Int64)).toInt32)), .val (.int ((((r.toUInt64 >>> (s0 &&& 0x3f).toInt64.toUInt64).toInt64) &&& (255 : Int64)).toInt32))] [(.int (1 : Int32))])) τ
      refine XS.goto X1.here hx rfl (pc0 := 48) (pc' := 52) rfl (hb hby d2_48) (by decide) (by decide) ?_
      show Steps p.tables e below (T1.setTop (mkF m 52 #[.val (.long a), .second, .val (.long b), .second, .val (.long r), .second, .val (.int s0), .val (.int ((((a.toUInt64 >>> (s0 &&& 0x3f).toInt64.toUInt64).toInt64) &&& (255 : Int64)).toInt32)), .val (.int ((((b.toUInt64 >>> (s0 &&& 0x3f).toInt64.toUInt64).toInt64) &&& (255 : Int64)).toInt32)), .val (.int ((((r.toUInt64 >>> (s0 &&& 0x3f).toInt64.toUInt64).toInt64) &&& (255 : Int64)).toInt32))] [(.int (1 : Int32))])) τ
      exact κ)
    obtain ⟨fsα, hr, hrun, hended, hW, hsame⟩ := X1.leave (v := some (.int (1 : Int32))) (fun h => by rw [Bd.returns] at h; cases h)
    refine hGL ⟨_, _, hG _ (pre _ ?_), hrun, hended, _, _, rfl, ?_, ⟨_, rfl⟩, hW, hsame.mono (by decide) (by decide)⟩
    · exact retN X1 hx (t := .boolean) Bd.returns (by simp) (hb hby d2_52) hr
    · show Q2 Z a b r s0 h0 n0 _ T1.heap _
      rw [hs1]
      refine ⟨?_, NN, rfl⟩
      unfold own_lane own_by
      rw [if_pos hc44_2]
  ·
    have pre : ∀ τ, Steps p.tables e below (T1.setTop (mkF m 52 #[.val (.long a), .second, .val (.long b), .second, .val (.long r), .second, .val (.int s0), .val (.int ((((a.toUInt64 >>> (s0 &&& 0x3f).toInt64.toUInt64).toInt64) &&& (255 : Int64)).toInt32)), .val (.int ((((b.toUInt64 >>> (s0 &&& 0x3f).toInt64.toUInt64).toInt64) &&& (255 : Int64)).toInt32)), .val (.int ((((r.toUInt64 >>> (s0 &&& 0x3f).toInt64.toUInt64).toInt64) &&& (255 : Int64)).toInt32))] [(.int (0 : Int32))])) τ → G τ := fun τ κ => pre τ (by
      refine XS.icmpYes X1.here hx rfl (pc0 := 44) (pc' := 51) rfl (hb hby d2_44) rfl (feq hc44_2).2 (by decide) (by decide) ?_
      show Steps p.tables e below (T1.setTop (mkF m 51 #[.val (.long a), .second, .val (.long b), .second, .val (.long r), .second, .val (.int s0), .val (.int ((((a.toUInt64 >>> (s0 &&& 0x3f).toInt64.toUInt64).toInt64) &&& (255 : Int64)).toInt32)), .val (.int ((((b.toUInt64 >>> (s0 &&& 0x3f).toInt64.toUInt64).toInt64) &&& (255 : Int64)).toInt32)), .val (.int ((((r.toUInt64 >>> (s0 &&& 0x3f).toInt64.toUInt64).toInt64) &&& (255 : Int64)).toInt32))] [])) τ
      refine XS.iconst X1.here hx rfl (hb hby d2_51) ?_
      show Steps p.tables e below (T1.setTop (mkF m 52 #[.val (.long a), .second, .val (.long b), .second, .val (.long r), .second, .val (.int s0), .val (.int ((((a.toUInt64 >>> (s0 &&& 0x3f).toInt64.toUInt64).toInt64) &&& (255 : Int64)).toInt32)), .val (.int ((((b.toUInt64 >>> (s0 &&& 0x3f).toInt64.toUInt64).toInt64) &&& (255 : Int64)).toInt32)), .val (.int ((((r.toUInt64 >>> (s0 &&& 0x3f).toInt64.toUInt64).toInt64) &&& (255 : Int64)).toInt32))] [(.int (0 : Int32))])) τ
      exact κ)
    obtain ⟨fsα, hr, hrun, hended, hW, hsame⟩ := X1.leave (v := some (.int (0 : Int32))) (fun h => by rw [Bd.returns] at h; cases h)
    refine hGL ⟨_, _, hG _ (pre _ ?_), hrun, hended, _, _, rfl, ?_, ⟨_, rfl⟩, hW, hsame.mono (by decide) (by decide)⟩
    · exact retN X1 hx (t := .boolean) Bd.returns (by simp) (hb hby d2_52) hr
    · show Q2 Z a b r s0 h0 n0 _ T1.heap _
      rw [hs1]
      refine ⟨?_, NN, rfl⟩
      unfold own_lane own_by
      rw [if_neg hc44_2]
theorem pd_1 : parseMethodDescriptor "(JJ)J" = some ⟨[.long, .long], some .long⟩ := by decide +kernel
theorem pd_2 : parseMethodDescriptor "(JJJI)Z" = some ⟨[.long, .long, .long, .int], some .boolean⟩ := by decide +kernel
theorem ef_0 (m : MethodId) (x0 : Int64) (x1 : Int64) (x2 : Int64) : entryFrame m #[(.long x0), (.long x1), (.long x2)] maxLocals = mkF m 0 #[.val (.long x0), .second, .val (.long x1), .second, .val (.long x2), .second, .unset, .unset, .unset, .unset] [] := by first | (simp [entryFrame, mkF, argsToLocals, Value.category, maxLocals]; done) | rfl
def Q0 (Z : State) (a : Int64) (b : Int64) (sm : Int64) (h0 : Heap) (n0 : Nat) (vα : Option Value) (hα : Heap) (Lα : List Loc) : Prop := vα = some (.int (1 : Int32)) ∧ Fr n0 Lα
set_option maxRecDepth 65536 in
set_option maxHeartbeats 40000000 in
theorem rm0 (l : Launch) (Z : State) (a0 : Array Value) (hw : ∀ d ∈ tables_1, d.before a0 Z = true) (ws : List Jvm.Cond) (a : Int64) (b : Int64) (sm : Int64) (h0 : Heap) (n0 : Nat) (Z0 : n0 ≤ h0.size) :
    MetFree l x (head1 (Jvm.Cond.code x code maxLocals ret :: ws) room_1) (fun aα U => aα = #[(.long a), (.long b), (.long sm)] ∧ Z.Warmed39 U.vm ∧ U.heap = h0) (fun _ _ _ _ _ => True) (fun _ U oα U' => ∃ vα Lα, oα = .returned vα ∧ Q0 Z a b sm h0 n0 vα U'.heap Lα ∧ FrameEnd U oα U' Lα room_1.cells room_1.slots) := by
  refine MetFree.of_bodySF (plainFor_of_name pn_1) hisR ?_
  intro p e s m args below meth c s₁ Bd hml0 hP hK
  refine own_wrap ?_
  intro GL hGL
  obtain ⟨rfl, hZ, hh⟩ := hP
  have hx := Bd.exec
  have hby := Bd.bytes
  have hml : c.maxLocals = 10 := hml0
  have hown : s.vm.findClass "com/example/block_motion_coder/blockmotioncoder/mpeg2/PackedSamplesAbsoluteDifferencesPinLaw" = some m.cls := findClass_of_methodNamed Bd.named
  have hnm := (name_of_methodNamed Bd.named Bd.method).1
  have X0 : Stand p l e room_1 s m #[(.long a), (.long b), (.long sm)] below meth c s₁ [] 0 0 := Stand.of_body Bd
  have e0 : s₁.heap = h0 := by rw [← hh, Bd.state]; rfl
  have N0 := Fr.nil n0
  have pre0 : ∀ τ, Steps p.tables e below (s₁.setTop (mkF m 0 #[.val (.long a), .second, .val (.long b), .second, .val (.long sm), .second, .unset, .unset, .unset, .unset] [])) τ → Steps p.tables e below (s₁.setTop (entryFrame m #[(.long a), (.long b), (.long sm)] maxLocals)) τ := fun τ κ => castTop (ef_0 m a b sm) κ
  obtain ⟨G, hG, pre⟩ : ∃ G : State → Prop, (∀ τ, G τ → Steps p.tables e below (s₁.setTop (entryFrame m #[(.long a), (.long b), (.long sm)] maxLocals)) τ) ∧ ∀ τ, Steps p.tables e below (s₁.setTop (mkF m 0 #[.val (.long a), .second, .val (.long b), .second, .val (.long sm), .second, .unset, .unset, .unset, .unset] [])) τ → G τ := ⟨_, pre0, fun _ k => k⟩
  have Zn := Z0
  have pre : ∀ τ, Steps p.tables e below (s₁.setTop (mkF m 15 #[.val (.long a), .second, .val (.long b), .second, .val (.long sm), .second, .val (.long ((b &&& (sm ^^^ (-1 : Int64))) ||| (a &&& sm))), .second, .unset, .unset] [])) τ → G τ := fun τ κ => pre τ (by
    refine XS.lloadN X0.here hx rfl (hb hby at_0) rfl ?_
    show Steps p.tables e below (s₁.setTop (mkF m 1 #[.val (.long a), .second, .val (.long b), .second, .val (.long sm), .second, .unset, .unset, .unset, .unset] [(.long b)])) τ
    refine XS.lload X0.here hx rfl (hb hby at_1) rfl ?_
    show Steps p.tables e below (s₁.setTop (mkF m 3 #[.val (.long a), .second, .val (.long b), .second, .val (.long sm), .second, .unset, .unset, .unset, .unset] [(.long sm), (.long b)])) τ
    refine X0.ldc2Long hx hown (mvT hZ (hw _ (List.mem_of_getElem? (i := 0) rfl))) (g := (mkF m 3 #[.val (.long a), .second, .val (.long b), .second, .val (.long sm), .second, .unset, .unset, .unset, .unset] [(.long sm), (.long b)])) rfl (hb hby at_3) _ ?_
    show Steps p.tables e below (s₁.setTop (mkF m 6 #[.val (.long a), .second, .val (.long b), .second, .val (.long sm), .second, .unset, .unset, .unset, .unset] [(.long (-1 : Int64)), (.long sm), (.long b)])) τ
    refine XS.lxor X0.here hx rfl (hb hby at_6) rfl ?_
    show Steps p.tables e below (s₁.setTop (mkF m 7 #[.val (.long a), .second, .val (.long b), .second, .val (.long sm), .second, .unset, .unset, .unset, .unset] [(.long (sm ^^^ (-1 : Int64))), (.long b)])) τ
    refine XS.land X0.here hx rfl (hb hby at_7) rfl ?_
    show Steps p.tables e below (s₁.setTop (mkF m 8 #[.val (.long a), .second, .val (.long b), .second, .val (.long sm), .second, .unset, .unset, .unset, .unset] [(.long (b &&& (sm ^^^ (-1 : Int64))))])) τ
    refine XS.lloadN X0.here hx rfl (hb hby at_8) rfl ?_
    show Steps p.tables e below (s₁.setTop (mkF m 9 #[.val (.long a), .second, .val (.long b), .second, .val (.long sm), .second, .unset, .unset, .unset, .unset] [(.long a), (.long (b &&& (sm ^^^ (-1 : Int64))))])) τ
    refine XS.lload X0.here hx rfl (hb hby at_9) rfl ?_
    show Steps p.tables e below (s₁.setTop (mkF m 11 #[.val (.long a), .second, .val (.long b), .second, .val (.long sm), .second, .unset, .unset, .unset, .unset] [(.long sm), (.long a), (.long (b &&& (sm ^^^ (-1 : Int64))))])) τ
    refine XS.land X0.here hx rfl (hb hby at_11) rfl ?_
    show Steps p.tables e below (s₁.setTop (mkF m 12 #[.val (.long a), .second, .val (.long b), .second, .val (.long sm), .second, .unset, .unset, .unset, .unset] [(.long (a &&& sm)), (.long (b &&& (sm ^^^ (-1 : Int64))))])) τ
    refine XS.lor X0.here hx rfl (hb hby at_12) rfl ?_
    show Steps p.tables e below (s₁.setTop (mkF m 13 #[.val (.long a), .second, .val (.long b), .second, .val (.long sm), .second, .unset, .unset, .unset, .unset] [(.long ((b &&& (sm ^^^ (-1 : Int64))) ||| (a &&& sm)))])) τ
    refine XS.lstore X0.here hx rfl (hb hby at_13) rfl (l' := #[.val (.long a), .second, .val (.long b), .second, .val (.long sm), .second, .val (.long ((b &&& (sm ^^^ (-1 : Int64))) ||| (a &&& sm))), .second, .unset, .unset]) rfl ?_
    show Steps p.tables e below (s₁.setTop (mkF m 15 #[.val (.long a), .second, .val (.long b), .second, .val (.long sm), .second, .val (.long ((b &&& (sm ^^^ (-1 : Int64))) ||| (a &&& sm))), .second, .unset, .unset] [])) τ
    exact κ)
  obtain ⟨ot, hot⟩ : ∃ z : Int64, z = ((b &&& (sm ^^^ (-1 : Int64))) ||| (a &&& sm)) := ⟨_, rfl⟩
  have pre : ∀ τ, Steps p.tables e below (s₁.setTop (mkF m 15 #[.val (.long a), .second, .val (.long b), .second, .val (.long sm), .second, .val (.long ot), .second, .unset, .unset] [])) τ → G τ := by subst hot; exact pre
  have pre : ∀ τ, Steps p.tables e below (s₁.setTop (mkF m 18 #[.val (.long a), .second, .val (.long b), .second, .val (.long sm), .second, .val (.long ot), .second, .unset, .unset] [(.long ot), (.long a)])) τ → G τ := fun τ κ => pre τ (by
    refine XS.lloadN X0.here hx rfl (hb hby at_15) rfl ?_
    show Steps p.tables e below (s₁.setTop (mkF m 16 #[.val (.long a), .second, .val (.long b), .second, .val (.long sm), .second, .val (.long ot), .second, .unset, .unset] [(.long a)])) τ
    refine XS.lload X0.here hx rfl (hb hby at_16) rfl ?_
    show Steps p.tables e below (s₁.setTop (mkF m 18 #[.val (.long a), .second, .val (.long b), .second, .val (.long sm), .second, .val (.long ot), .second, .unset, .unset] [(.long ot), (.long a)])) τ
    exact κ)
  obtain ⟨_, _, ⟨T1, Lx1, kx1, nx1⟩, -, X1, ⟨Lc1, hQ1, l1, y1, z1⟩, st1⟩ := Jvm.LawKit.callS X0 hx (y := (⟨"com/example/block_motion_coder/blockmotioncoder/mpeg2/PackedSamples", "absoluteDifferences", "(JJ)J"⟩ : MethodName)) hown (mvT hZ (hw _ (List.mem_of_getElem? (i := 1) rfl))) (mvT hZ (hw _ (List.mem_of_getElem? (i := 2) rfl))) (mvT hZ (hw _ (List.mem_of_getElem? (i := 3) rfl))) (mvT hZ (hw _ (List.mem_of_getElem? (i := 4) rfl))) (by decide) (backOf (W := 0) (rm1 l Z a0 hw [] a ot h0 n0 Zn) hZ (hw _ (List.mem_of_getElem? (i := 4) rfl)) (hw _ (List.mem_of_getElem? (i := 3) rfl)) (by decide) (by decide)) (g := (mkF m 18 #[.val (.long a), .second, .val (.long b), .second, .val (.long sm), .second, .val (.long ot), .second, .unset, .unset] [(.long ot), (.long a)])) rfl (by rw [hml]; rfl) (argsL := [(.long a), (.long ot)]) (rest := []) (lenOf pd_1 rfl) rfl (by show 2 * 0 + _ ≤ _; exact Nat.le_of_eq rfl) (hb hby at_18) (fun _ _ => ⟨rfl, e0, (by decide : 0 + 0 ≤ _), (by decide : 0 + 0 ≤ _)⟩)
  dsimp only [Pt.U, Pt.locs, Pt.cells, Pt.slots] at X1 l1 y1 z1 st1 hQ1
  subst l1 y1 z1
  obtain ⟨rfl, Nq1, hs1⟩ := hQ1
  have NN := Fr.app N0 Nq1
  have pre : ∀ τ, Steps p.tables e below (T1.setTop (mkF m 21 #[.val (.long a), .second, .val (.long b), .second, .val (.long sm), .second, .val (.long ot), .second, .unset, .unset] [(.long (own_ad a ot))])) τ → G τ := fun τ κ => pre τ (st1 τ κ)
  have pre : ∀ τ, Steps p.tables e below (T1.setTop (mkF m 29 #[.val (.long a), .second, .val (.long b), .second, .val (.long sm), .second, .val (.long ot), .second, .val (.long (own_ad a ot)), .second] [(.int (0 : Int32)), (.long (own_ad a ot)), (.long ot), (.long a)])) τ → G τ := fun τ κ => pre τ (by
    refine XS.lstore X1.here hx rfl (hb hby at_21) rfl (l' := #[.val (.long a), .second, .val (.long b), .second, .val (.long sm), .second, .val (.long ot), .second, .val (.long (own_ad a ot)), .second]) rfl ?_
    show Steps p.tables e below (T1.setTop (mkF m 23 #[.val (.long a), .second, .val (.long b), .second, .val (.long sm), .second, .val (.long ot), .second, .val (.long (own_ad a ot)), .second] [])) τ
    refine XS.lloadN X1.here hx rfl (hb hby at_23) rfl ?_
    show Steps p.tables e below (T1.setTop (mkF m 24 #[.val (.long a), .second, .val (.long b), .second, .val (.long sm), .second, .val (.long ot), .second, .val (.long (own_ad a ot)), .second] [(.long a)])) τ
    refine XS.lload X1.here hx rfl (hb hby at_24) rfl ?_
    show Steps p.tables e below (T1.setTop (mkF m 26 #[.val (.long a), .second, .val (.long b), .second, .val (.long sm), .second, .val (.long ot), .second, .val (.long (own_ad a ot)), .second] [(.long ot), (.long a)])) τ
    refine XS.lload X1.here hx rfl (hb hby at_26) rfl ?_
    show Steps p.tables e below (T1.setTop (mkF m 28 #[.val (.long a), .second, .val (.long b), .second, .val (.long sm), .second, .val (.long ot), .second, .val (.long (own_ad a ot)), .second] [(.long (own_ad a ot)), (.long ot), (.long a)])) τ
    refine XS.iconst X1.here hx rfl (hb hby at_28) ?_
    show Steps p.tables e below (T1.setTop (mkF m 29 #[.val (.long a), .second, .val (.long b), .second, .val (.long sm), .second, .val (.long ot), .second, .val (.long (own_ad a ot)), .second] [(.int (0 : Int32)), (.long (own_ad a ot)), (.long ot), (.long a)])) τ
    exact κ)
  obtain ⟨_, _, ⟨T2, Lx2, kx2, nx2⟩, -, X2, ⟨Lc2, hQ2, l2, y2, z2⟩, st2⟩ := Jvm.LawKit.callS X1 hx (y := (⟨"com/example/block_motion_coder/blockmotioncoder/mpeg2/PackedSamplesAbsoluteDifferencesPinLaw", "lane", "(JJJI)Z"⟩ : MethodName)) hown (mvT hZ (hw _ (List.mem_of_getElem? (i := 9) rfl))) (mvT hZ (hw _ (List.mem_of_getElem? (i := 10) rfl))) (mvT hZ (hw _ (List.mem_of_getElem? (i := 11) rfl))) (mvT hZ (hw _ (List.mem_of_getElem? (i := 12) rfl))) (by decide) (backOf (W := 0) (rm2 l Z a0 hw [] a ot (own_ad a ot) (0 : Int32) h0 n0 Zn) hZ (hw _ (List.mem_of_getElem? (i := 12) rfl)) (hw _ (List.mem_of_getElem? (i := 11) rfl)) (by decide) (by decide)) (g := (mkF m 29 #[.val (.long a), .second, .val (.long b), .second, .val (.long sm), .second, .val (.long ot), .second, .val (.long (own_ad a ot)), .second] [(.int (0 : Int32)), (.long (own_ad a ot)), (.long ot), (.long a)])) rfl (by rw [hml]; rfl) (argsL := [(.long a), (.long ot), (.long (own_ad a ot)), (.int (0 : Int32))]) (rest := []) (lenOf pd_2 rfl) rfl (by show 2 * 0 + _ ≤ _; exact Nat.le_of_eq rfl) (hb hby at_29) (fun _ _ => ⟨rfl, hs1, (by decide : 0 + 0 ≤ _), (by decide : 0 + 0 ≤ _)⟩)
  dsimp only [Pt.U, Pt.locs, Pt.cells, Pt.slots] at X2 l2 y2 z2 st2 hQ2
  subst l2 y2 z2
  obtain ⟨rfl, Nq2, hs2⟩ := hQ2
  have NN := Fr.app NN Nq2
  have pre : ∀ τ, Steps p.tables e below (T2.setTop (mkF m 32 #[.val (.long a), .second, .val (.long b), .second, .val (.long sm), .second, .val (.long ot), .second, .val (.long (own_ad a ot)), .second] [(.int (own_lane a ot (own_ad a ot) (0 : Int32)))])) τ → G τ := fun τ κ => pre τ (st2 τ κ)
  have hc3 : ¬ ((own_lane a ot (own_ad a ot) (0 : Int32)) = (0 : Int32)) := own_law0 _ _
  have pre : ∀ τ, Steps p.tables e below (T2.setTop (mkF m 42 #[.val (.long a), .second, .val (.long b), .second, .val (.long sm), .second, .val (.long ot), .second, .val (.long (own_ad a ot)), .second] [(.int (8 : Int32)), (.long (own_ad a ot)), (.long ot), (.long a)])) τ → G τ := fun τ κ => pre τ (by
    refine XS.ifNo X2.here hx rfl (hb hby at_32) rfl ((if0 _ _).trans (feq hc3).1) ?_
    show Steps p.tables e below (T2.setTop (mkF m 35 #[.val (.long a), .second, .val (.long b), .second, .val (.long sm), .second, .val (.long ot), .second, .val (.long (own_ad a ot)), .second] [])) τ
    refine XS.lloadN X2.here hx rfl (hb hby at_35) rfl ?_
    show Steps p.tables e below (T2.setTop (mkF m 36 #[.val (.long a), .second, .val (.long b), .second, .val (.long sm), .second, .val (.long ot), .second, .val (.long (own_ad a ot)), .second] [(.long a)])) τ
    refine XS.lload X2.here hx rfl (hb hby at_36) rfl ?_
    show Steps p.tables e below (T2.setTop (mkF m 38 #[.val (.long a), .second, .val (.long b), .second, .val (.long sm), .second, .val (.long ot), .second, .val (.long (own_ad a ot)), .second] [(.long ot), (.long a)])) τ
    refine XS.lload X2.here hx rfl (hb hby at_38) rfl ?_
    show Steps p.tables e below (T2.setTop (mkF m 40 #[.val (.long a), .second, .val (.long b), .second, .val (.long sm), .second, .val (.long ot), .second, .val (.long (own_ad a ot)), .second] [(.long (own_ad a ot)), (.long ot), (.long a)])) τ
    refine XS.bipush X2.here hx rfl (hb hby at_40) ?_
    show Steps p.tables e below (T2.setTop (mkF m 42 #[.val (.long a), .second, .val (.long b), .second, .val (.long sm), .second, .val (.long ot), .second, .val (.long (own_ad a ot)), .second] [(.int (8 : Int32)), (.long (own_ad a ot)), (.long ot), (.long a)])) τ
    exact κ)
  obtain ⟨_, _, ⟨T4, Lx4, kx4, nx4⟩, -, X4, ⟨Lc4, hQ4, l4, y4, z4⟩, st4⟩ := Jvm.LawKit.callS X2 hx (y := (⟨"com/example/block_motion_coder/blockmotioncoder/mpeg2/PackedSamplesAbsoluteDifferencesPinLaw", "lane", "(JJJI)Z"⟩ : MethodName)) hown (mvT hZ (hw _ (List.mem_of_getElem? (i := 9) rfl))) (mvT hZ (hw _ (List.mem_of_getElem? (i := 10) rfl))) (mvT hZ (hw _ (List.mem_of_getElem? (i := 11) rfl))) (mvT hZ (hw _ (List.mem_of_getElem? (i := 12) rfl))) (by decide) (backOf (W := 0) (rm2 l Z a0 hw [] a ot (own_ad a ot) (8 : Int32) h0 n0 Zn) hZ (hw _ (List.mem_of_getElem? (i := 12) rfl)) (hw _ (List.mem_of_getElem? (i := 11) rfl)) (by decide) (by decide)) (g := (mkF m 42 #[.val (.long a), .second, .val (.long b), .second, .val (.long sm), .second, .val (.long ot), .second, .val (.long (own_ad a ot)), .second] [(.int (8 : Int32)), (.long (own_ad a ot)), (.long ot), (.long a)])) rfl (by rw [hml]; rfl) (argsL := [(.long a), (.long ot), (.long (own_ad a ot)), (.int (8 : Int32))]) (rest := []) (lenOf pd_2 rfl) rfl (by show 2 * 0 + _ ≤ _; exact Nat.le_of_eq rfl) (hb hby at_42) (fun _ _ => ⟨rfl, hs2, (by decide : 0 + 0 ≤ _), (by decide : 0 + 0 ≤ _)⟩)
  dsimp only [Pt.U, Pt.locs, Pt.cells, Pt.slots] at X4 l4 y4 z4 st4 hQ4
  subst l4 y4 z4
  obtain ⟨rfl, Nq4, hs4⟩ := hQ4
  have NN := Fr.app NN Nq4
  have pre : ∀ τ, Steps p.tables e below (T4.setTop (mkF m 45 #[.val (.long a), .second, .val (.long b), .second, .val (.long sm), .second, .val (.long ot), .second, .val (.long (own_ad a ot)), .second] [(.int (own_lane a ot (own_ad a ot) (8 : Int32)))])) τ → G τ := fun τ κ => pre τ (st4 τ κ)
  have hc5 : ¬ ((own_lane a ot (own_ad a ot) (8 : Int32)) = (0 : Int32)) := own_law1 _ _
  have pre : ∀ τ, Steps p.tables e below (T4.setTop (mkF m 55 #[.val (.long a), .second, .val (.long b), .second, .val (.long sm), .second, .val (.long ot), .second, .val (.long (own_ad a ot)), .second] [(.int (16 : Int32)), (.long (own_ad a ot)), (.long ot), (.long a)])) τ → G τ := fun τ κ => pre τ (by
    refine XS.ifNo X4.here hx rfl (hb hby at_45) rfl ((if0 _ _).trans (feq hc5).1) ?_
    show Steps p.tables e below (T4.setTop (mkF m 48 #[.val (.long a), .second, .val (.long b), .second, .val (.long sm), .second, .val (.long ot), .second, .val (.long (own_ad a ot)), .second] [])) τ
    refine XS.lloadN X4.here hx rfl (hb hby at_48) rfl ?_
    show Steps p.tables e below (T4.setTop (mkF m 49 #[.val (.long a), .second, .val (.long b), .second, .val (.long sm), .second, .val (.long ot), .second, .val (.long (own_ad a ot)), .second] [(.long a)])) τ
    refine XS.lload X4.here hx rfl (hb hby at_49) rfl ?_
    show Steps p.tables e below (T4.setTop (mkF m 51 #[.val (.long a), .second, .val (.long b), .second, .val (.long sm), .second, .val (.long ot), .second, .val (.long (own_ad a ot)), .second] [(.long ot), (.long a)])) τ
    refine XS.lload X4.here hx rfl (hb hby at_51) rfl ?_
    show Steps p.tables e below (T4.setTop (mkF m 53 #[.val (.long a), .second, .val (.long b), .second, .val (.long sm), .second, .val (.long ot), .second, .val (.long (own_ad a ot)), .second] [(.long (own_ad a ot)), (.long ot), (.long a)])) τ
    refine XS.bipush X4.here hx rfl (hb hby at_53) ?_
    show Steps p.tables e below (T4.setTop (mkF m 55 #[.val (.long a), .second, .val (.long b), .second, .val (.long sm), .second, .val (.long ot), .second, .val (.long (own_ad a ot)), .second] [(.int (16 : Int32)), (.long (own_ad a ot)), (.long ot), (.long a)])) τ
    exact κ)
  obtain ⟨_, _, ⟨T6, Lx6, kx6, nx6⟩, -, X6, ⟨Lc6, hQ6, l6, y6, z6⟩, st6⟩ := Jvm.LawKit.callS X4 hx (y := (⟨"com/example/block_motion_coder/blockmotioncoder/mpeg2/PackedSamplesAbsoluteDifferencesPinLaw", "lane", "(JJJI)Z"⟩ : MethodName)) hown (mvT hZ (hw _ (List.mem_of_getElem? (i := 9) rfl))) (mvT hZ (hw _ (List.mem_of_getElem? (i := 10) rfl))) (mvT hZ (hw _ (List.mem_of_getElem? (i := 11) rfl))) (mvT hZ (hw _ (List.mem_of_getElem? (i := 12) rfl))) (by decide) (backOf (W := 0) (rm2 l Z a0 hw [] a ot (own_ad a ot) (16 : Int32) h0 n0 Zn) hZ (hw _ (List.mem_of_getElem? (i := 12) rfl)) (hw _ (List.mem_of_getElem? (i := 11) rfl)) (by decide) (by decide)) (g := (mkF m 55 #[.val (.long a), .second, .val (.long b), .second, .val (.long sm), .second, .val (.long ot), .second, .val (.long (own_ad a ot)), .second] [(.int (16 : Int32)), (.long (own_ad a ot)), (.long ot), (.long a)])) rfl (by rw [hml]; rfl) (argsL := [(.long a), (.long ot), (.long (own_ad a ot)), (.int (16 : Int32))]) (rest := []) (lenOf pd_2 rfl) rfl (by show 2 * 0 + _ ≤ _; exact Nat.le_of_eq rfl) (hb hby at_55) (fun _ _ => ⟨rfl, hs4, (by decide : 0 + 0 ≤ _), (by decide : 0 + 0 ≤ _)⟩)
  dsimp only [Pt.U, Pt.locs, Pt.cells, Pt.slots] at X6 l6 y6 z6 st6 hQ6
  subst l6 y6 z6
  obtain ⟨rfl, Nq6, hs6⟩ := hQ6
  have NN := Fr.app NN Nq6
  have pre : ∀ τ, Steps p.tables e below (T6.setTop (mkF m 58 #[.val (.long a), .second, .val (.long b), .second, .val (.long sm), .second, .val (.long ot), .second, .val (.long (own_ad a ot)), .second] [(.int (own_lane a ot (own_ad a ot) (16 : Int32)))])) τ → G τ := fun τ κ => pre τ (st6 τ κ)
  have hc7 : ¬ ((own_lane a ot (own_ad a ot) (16 : Int32)) = (0 : Int32)) := own_law2 _ _
  have pre : ∀ τ, Steps p.tables e below (T6.setTop (mkF m 68 #[.val (.long a), .second, .val (.long b), .second, .val (.long sm), .second, .val (.long ot), .second, .val (.long (own_ad a ot)), .second] [(.int (24 : Int32)), (.long (own_ad a ot)), (.long ot), (.long a)])) τ → G τ := fun τ κ => pre τ (by
    refine XS.ifNo X6.here hx rfl (hb hby at_58) rfl ((if0 _ _).trans (feq hc7).1) ?_
    show Steps p.tables e below (T6.setTop (mkF m 61 #[.val (.long a), .second, .val (.long b), .second, .val (.long sm), .second, .val (.long ot), .second, .val (.long (own_ad a ot)), .second] [])) τ
    refine XS.lloadN X6.here hx rfl (hb hby at_61) rfl ?_
    show Steps p.tables e below (T6.setTop (mkF m 62 #[.val (.long a), .second, .val (.long b), .second, .val (.long sm), .second, .val (.long ot), .second, .val (.long (own_ad a ot)), .second] [(.long a)])) τ
    refine XS.lload X6.here hx rfl (hb hby at_62) rfl ?_
    show Steps p.tables e below (T6.setTop (mkF m 64 #[.val (.long a), .second, .val (.long b), .second, .val (.long sm), .second, .val (.long ot), .second, .val (.long (own_ad a ot)), .second] [(.long ot), (.long a)])) τ
    refine XS.lload X6.here hx rfl (hb hby at_64) rfl ?_
    show Steps p.tables e below (T6.setTop (mkF m 66 #[.val (.long a), .second, .val (.long b), .second, .val (.long sm), .second, .val (.long ot), .second, .val (.long (own_ad a ot)), .second] [(.long (own_ad a ot)), (.long ot), (.long a)])) τ
    refine XS.bipush X6.here hx rfl (hb hby at_66) ?_
    show Steps p.tables e below (T6.setTop (mkF m 68 #[.val (.long a), .second, .val (.long b), .second, .val (.long sm), .second, .val (.long ot), .second, .val (.long (own_ad a ot)), .second] [(.int (24 : Int32)), (.long (own_ad a ot)), (.long ot), (.long a)])) τ
    exact κ)
  obtain ⟨_, _, ⟨T8, Lx8, kx8, nx8⟩, -, X8, ⟨Lc8, hQ8, l8, y8, z8⟩, st8⟩ := Jvm.LawKit.callS X6 hx (y := (⟨"com/example/block_motion_coder/blockmotioncoder/mpeg2/PackedSamplesAbsoluteDifferencesPinLaw", "lane", "(JJJI)Z"⟩ : MethodName)) hown (mvT hZ (hw _ (List.mem_of_getElem? (i := 9) rfl))) (mvT hZ (hw _ (List.mem_of_getElem? (i := 10) rfl))) (mvT hZ (hw _ (List.mem_of_getElem? (i := 11) rfl))) (mvT hZ (hw _ (List.mem_of_getElem? (i := 12) rfl))) (by decide) (backOf (W := 0) (rm2 l Z a0 hw [] a ot (own_ad a ot) (24 : Int32) h0 n0 Zn) hZ (hw _ (List.mem_of_getElem? (i := 12) rfl)) (hw _ (List.mem_of_getElem? (i := 11) rfl)) (by decide) (by decide)) (g := (mkF m 68 #[.val (.long a), .second, .val (.long b), .second, .val (.long sm), .second, .val (.long ot), .second, .val (.long (own_ad a ot)), .second] [(.int (24 : Int32)), (.long (own_ad a ot)), (.long ot), (.long a)])) rfl (by rw [hml]; rfl) (argsL := [(.long a), (.long ot), (.long (own_ad a ot)), (.int (24 : Int32))]) (rest := []) (lenOf pd_2 rfl) rfl (by show 2 * 0 + _ ≤ _; exact Nat.le_of_eq rfl) (hb hby at_68) (fun _ _ => ⟨rfl, hs6, (by decide : 0 + 0 ≤ _), (by decide : 0 + 0 ≤ _)⟩)
  dsimp only [Pt.U, Pt.locs, Pt.cells, Pt.slots] at X8 l8 y8 z8 st8 hQ8
  subst l8 y8 z8
  obtain ⟨rfl, Nq8, hs8⟩ := hQ8
  have NN := Fr.app NN Nq8
  have pre : ∀ τ, Steps p.tables e below (T8.setTop (mkF m 71 #[.val (.long a), .second, .val (.long b), .second, .val (.long sm), .second, .val (.long ot), .second, .val (.long (own_ad a ot)), .second] [(.int (own_lane a ot (own_ad a ot) (24 : Int32)))])) τ → G τ := fun τ κ => pre τ (st8 τ κ)
  have hc9 : ¬ ((own_lane a ot (own_ad a ot) (24 : Int32)) = (0 : Int32)) := own_law3 _ _
  have pre : ∀ τ, Steps p.tables e below (T8.setTop (mkF m 81 #[.val (.long a), .second, .val (.long b), .second, .val (.long sm), .second, .val (.long ot), .second, .val (.long (own_ad a ot)), .second] [(.int (32 : Int32)), (.long (own_ad a ot)), (.long ot), (.long a)])) τ → G τ := fun τ κ => pre τ (by
    refine XS.ifNo X8.here hx rfl (hb hby at_71) rfl ((if0 _ _).trans (feq hc9).1) ?_
    show Steps p.tables e below (T8.setTop (mkF m 74 #[.val (.long a), .second, .val (.long b), .second, .val (.long sm), .second, .val (.long ot), .second, .val (.long (own_ad a ot)), .second] [])) τ
    refine XS.lloadN X8.here hx rfl (hb hby at_74) rfl ?_
    show Steps p.tables e below (T8.setTop (mkF m 75 #[.val (.long a), .second, .val (.long b), .second, .val (.long sm), .second, .val (.long ot), .second, .val (.long (own_ad a ot)), .second] [(.long a)])) τ
    refine XS.lload X8.here hx rfl (hb hby at_75) rfl ?_
    show Steps p.tables e below (T8.setTop (mkF m 77 #[.val (.long a), .second, .val (.long b), .second, .val (.long sm), .second, .val (.long ot), .second, .val (.long (own_ad a ot)), .second] [(.long ot), (.long a)])) τ
    refine XS.lload X8.here hx rfl (hb hby at_77) rfl ?_
    show Steps p.tables e below (T8.setTop (mkF m 79 #[.val (.long a), .second, .val (.long b), .second, .val (.long sm), .second, .val (.long ot), .second, .val (.long (own_ad a ot)), .second] [(.long (own_ad a ot)), (.long ot), (.long a)])) τ
    refine XS.bipush X8.here hx rfl (hb hby at_79) ?_
    show Steps p.tables e below (T8.setTop (mkF m 81 #[.val (.long a), .second, .val (.long b), .second, .val (.long sm), .second, .val (.long ot), .second, .val (.long (own_ad a ot)), .second] [(.int (32 : Int32)), (.long (own_ad a ot)), (.long ot), (.long a)])) τ
    exact κ)
  obtain ⟨_, _, ⟨T10, Lx10, kx10, nx10⟩, -, X10, ⟨Lc10, hQ10, l10, y10, z10⟩, st10⟩ := Jvm.LawKit.callS X8 hx (y := (⟨"com/example/block_motion_coder/blockmotioncoder/mpeg2/PackedSamplesAbsoluteDifferencesPinLaw", "lane", "(JJJI)Z"⟩ : MethodName)) hown (mvT hZ (hw _ (List.mem_of_getElem? (i := 9) rfl))) (mvT hZ (hw _ (List.mem_of_getElem? (i := 10) rfl))) (mvT hZ (hw _ (List.mem_of_getElem? (i := 11) rfl))) (mvT hZ (hw _ (List.mem_of_getElem? (i := 12) rfl))) (by decide) (backOf (W := 0) (rm2 l Z a0 hw [] a ot (own_ad a ot) (32 : Int32) h0 n0 Zn) hZ (hw _ (List.mem_of_getElem? (i := 12) rfl)) (hw _ (List.mem_of_getElem? (i := 11) rfl)) (by decide) (by decide)) (g := (mkF m 81 #[.val (.long a), .second, .val (.long b), .second, .val (.long sm), .second, .val (.long ot), .second, .val (.long (own_ad a ot)), .second] [(.int (32 : Int32)), (.long (own_ad a ot)), (.long ot), (.long a)])) rfl (by rw [hml]; rfl) (argsL := [(.long a), (.long ot), (.long (own_ad a ot)), (.int (32 : Int32))]) (rest := []) (lenOf pd_2 rfl) rfl (by show 2 * 0 + _ ≤ _; exact Nat.le_of_eq rfl) (hb hby at_81) (fun _ _ => ⟨rfl, hs8, (by decide : 0 + 0 ≤ _), (by decide : 0 + 0 ≤ _)⟩)
  dsimp only [Pt.U, Pt.locs, Pt.cells, Pt.slots] at X10 l10 y10 z10 st10 hQ10
  subst l10 y10 z10
  obtain ⟨rfl, Nq10, hs10⟩ := hQ10
  have NN := Fr.app NN Nq10
  have pre : ∀ τ, Steps p.tables e below (T10.setTop (mkF m 84 #[.val (.long a), .second, .val (.long b), .second, .val (.long sm), .second, .val (.long ot), .second, .val (.long (own_ad a ot)), .second] [(.int (own_lane a ot (own_ad a ot) (32 : Int32)))])) τ → G τ := fun τ κ => pre τ (st10 τ κ)
  have hc11 : ¬ ((own_lane a ot (own_ad a ot) (32 : Int32)) = (0 : Int32)) := own_law4 _ _
  have pre : ∀ τ, Steps p.tables e below (T10.setTop (mkF m 94 #[.val (.long a), .second, .val (.long b), .second, .val (.long sm), .second, .val (.long ot), .second, .val (.long (own_ad a ot)), .second] [(.int (40 : Int32)), (.long (own_ad a ot)), (.long ot), (.long a)])) τ → G τ := fun τ κ => pre τ (by
    refine XS.ifNo X10.here hx rfl (hb hby at_84) rfl ((if0 _ _).trans (feq hc11).1) ?_
    show Steps p.tables e below (T10.setTop (mkF m 87 #[.val (.long a), .second, .val (.long b), .second, .val (.long sm), .second, .val (.long ot), .second, .val (.long (own_ad a ot)), .second] [])) τ
    refine XS.lloadN X10.here hx rfl (hb hby at_87) rfl ?_
    show Steps p.tables e below (T10.setTop (mkF m 88 #[.val (.long a), .second, .val (.long b), .second, .val (.long sm), .second, .val (.long ot), .second, .val (.long (own_ad a ot)), .second] [(.long a)])) τ
    refine XS.lload X10.here hx rfl (hb hby at_88) rfl ?_
    show Steps p.tables e below (T10.setTop (mkF m 90 #[.val (.long a), .second, .val (.long b), .second, .val (.long sm), .second, .val (.long ot), .second, .val (.long (own_ad a ot)), .second] [(.long ot), (.long a)])) τ
    refine XS.lload X10.here hx rfl (hb hby at_90) rfl ?_
    show Steps p.tables e below (T10.setTop (mkF m 92 #[.val (.long a), .second, .val (.long b), .second, .val (.long sm), .second, .val (.long ot), .second, .val (.long (own_ad a ot)), .second] [(.long (own_ad a ot)), (.long ot), (.long a)])) τ
    refine XS.bipush X10.here hx rfl (hb hby at_92) ?_
    show Steps p.tables e below (T10.setTop (mkF m 94 #[.val (.long a), .second, .val (.long b), .second, .val (.long sm), .second, .val (.long ot), .second, .val (.long (own_ad a ot)), .second] [(.int (40 : Int32)), (.long (own_ad a ot)), (.long ot), (.long a)])) τ
    exact κ)
  obtain ⟨_, _, ⟨T12, Lx12, kx12, nx12⟩, -, X12, ⟨Lc12, hQ12, l12, y12, z12⟩, st12⟩ := Jvm.LawKit.callS X10 hx (y := (⟨"com/example/block_motion_coder/blockmotioncoder/mpeg2/PackedSamplesAbsoluteDifferencesPinLaw", "lane", "(JJJI)Z"⟩ : MethodName)) hown (mvT hZ (hw _ (List.mem_of_getElem? (i := 9) rfl))) (mvT hZ (hw _ (List.mem_of_getElem? (i := 10) rfl))) (mvT hZ (hw _ (List.mem_of_getElem? (i := 11) rfl))) (mvT hZ (hw _ (List.mem_of_getElem? (i := 12) rfl))) (by decide) (backOf (W := 0) (rm2 l Z a0 hw [] a ot (own_ad a ot) (40 : Int32) h0 n0 Zn) hZ (hw _ (List.mem_of_getElem? (i := 12) rfl)) (hw _ (List.mem_of_getElem? (i := 11) rfl)) (by decide) (by decide)) (g := (mkF m 94 #[.val (.long a), .second, .val (.long b), .second, .val (.long sm), .second, .val (.long ot), .second, .val (.long (own_ad a ot)), .second] [(.int (40 : Int32)), (.long (own_ad a ot)), (.long ot), (.long a)])) rfl (by rw [hml]; rfl) (argsL := [(.long a), (.long ot), (.long (own_ad a ot)), (.int (40 : Int32))]) (rest := []) (lenOf pd_2 rfl) rfl (by show 2 * 0 + _ ≤ _; exact Nat.le_of_eq rfl) (hb hby at_94) (fun _ _ => ⟨rfl, hs10, (by decide : 0 + 0 ≤ _), (by decide : 0 + 0 ≤ _)⟩)
  dsimp only [Pt.U, Pt.locs, Pt.cells, Pt.slots] at X12 l12 y12 z12 st12 hQ12
  subst l12 y12 z12
  obtain ⟨rfl, Nq12, hs12⟩ := hQ12
  have NN := Fr.app NN Nq12
  have pre : ∀ τ, Steps p.tables e below (T12.setTop (mkF m 97 #[.val (.long a), .second, .val (.long b), .second, .val (.long sm), .second, .val (.long ot), .second, .val (.long (own_ad a ot)), .second] [(.int (own_lane a ot (own_ad a ot) (40 : Int32)))])) τ → G τ := fun τ κ => pre τ (st12 τ κ)
  have hc13 : ¬ ((own_lane a ot (own_ad a ot) (40 : Int32)) = (0 : Int32)) := own_law5 _ _
  have pre : ∀ τ, Steps p.tables e below (T12.setTop (mkF m 107 #[.val (.long a), .second, .val (.long b), .second, .val (.long sm), .second, .val (.long ot), .second, .val (.long (own_ad a ot)), .second] [(.int (48 : Int32)), (.long (own_ad a ot)), (.long ot), (.long a)])) τ → G τ := fun τ κ => pre τ (by
    refine XS.ifNo X12.here hx rfl (hb hby at_97) rfl ((if0 _ _).trans (feq hc13).1) ?_
    show Steps p.tables e below (T12.setTop (mkF m 100 #[.val (.long a), .second, .val (.long b), .second, .val (.long sm), .second, .val (.long ot), .second, .val (.long (own_ad a ot)), .second] [])) τ
    refine XS.lloadN X12.here hx rfl (hb hby at_100) rfl ?_
    show Steps p.tables e below (T12.setTop (mkF m 101 #[.val (.long a), .second, .val (.long b), .second, .val (.long sm), .second, .val (.long ot), .second, .val (.long (own_ad a ot)), .second] [(.long a)])) τ
    refine XS.lload X12.here hx rfl (hb hby at_101) rfl ?_
    show Steps p.tables e below (T12.setTop (mkF m 103 #[.val (.long a), .second, .val (.long b), .second, .val (.long sm), .second, .val (.long ot), .second, .val (.long (own_ad a ot)), .second] [(.long ot), (.long a)])) τ
    refine XS.lload X12.here hx rfl (hb hby at_103) rfl ?_
    show Steps p.tables e below (T12.setTop (mkF m 105 #[.val (.long a), .second, .val (.long b), .second, .val (.long sm), .second, .val (.long ot), .second, .val (.long (own_ad a ot)), .second] [(.long (own_ad a ot)), (.long ot), (.long a)])) τ
    refine XS.bipush X12.here hx rfl (hb hby at_105) ?_
    show Steps p.tables e below (T12.setTop (mkF m 107 #[.val (.long a), .second, .val (.long b), .second, .val (.long sm), .second, .val (.long ot), .second, .val (.long (own_ad a ot)), .second] [(.int (48 : Int32)), (.long (own_ad a ot)), (.long ot), (.long a)])) τ
    exact κ)
  obtain ⟨_, _, ⟨T14, Lx14, kx14, nx14⟩, -, X14, ⟨Lc14, hQ14, l14, y14, z14⟩, st14⟩ := Jvm.LawKit.callS X12 hx (y := (⟨"com/example/block_motion_coder/blockmotioncoder/mpeg2/PackedSamplesAbsoluteDifferencesPinLaw", "lane", "(JJJI)Z"⟩ : MethodName)) hown (mvT hZ (hw _ (List.mem_of_getElem? (i := 9) rfl))) (mvT hZ (hw _ (List.mem_of_getElem? (i := 10) rfl))) (mvT hZ (hw _ (List.mem_of_getElem? (i := 11) rfl))) (mvT hZ (hw _ (List.mem_of_getElem? (i := 12) rfl))) (by decide) (backOf (W := 0) (rm2 l Z a0 hw [] a ot (own_ad a ot) (48 : Int32) h0 n0 Zn) hZ (hw _ (List.mem_of_getElem? (i := 12) rfl)) (hw _ (List.mem_of_getElem? (i := 11) rfl)) (by decide) (by decide)) (g := (mkF m 107 #[.val (.long a), .second, .val (.long b), .second, .val (.long sm), .second, .val (.long ot), .second, .val (.long (own_ad a ot)), .second] [(.int (48 : Int32)), (.long (own_ad a ot)), (.long ot), (.long a)])) rfl (by rw [hml]; rfl) (argsL := [(.long a), (.long ot), (.long (own_ad a ot)), (.int (48 : Int32))]) (rest := []) (lenOf pd_2 rfl) rfl (by show 2 * 0 + _ ≤ _; exact Nat.le_of_eq rfl) (hb hby at_107) (fun _ _ => ⟨rfl, hs12, (by decide : 0 + 0 ≤ _), (by decide : 0 + 0 ≤ _)⟩)
  dsimp only [Pt.U, Pt.locs, Pt.cells, Pt.slots] at X14 l14 y14 z14 st14 hQ14
  subst l14 y14 z14
  obtain ⟨rfl, Nq14, hs14⟩ := hQ14
  have NN := Fr.app NN Nq14
  have pre : ∀ τ, Steps p.tables e below (T14.setTop (mkF m 110 #[.val (.long a), .second, .val (.long b), .second, .val (.long sm), .second, .val (.long ot), .second, .val (.long (own_ad a ot)), .second] [(.int (own_lane a ot (own_ad a ot) (48 : Int32)))])) τ → G τ := fun τ κ => pre τ (st14 τ κ)
  have hc15 : ¬ ((own_lane a ot (own_ad a ot) (48 : Int32)) = (0 : Int32)) := own_law6 _ _
  have pre : ∀ τ, Steps p.tables e below (T14.setTop (mkF m 120 #[.val (.long a), .second, .val (.long b), .second, .val (.long sm), .second, .val (.long ot), .second, .val (.long (own_ad a ot)), .second] [(.int (56 : Int32)), (.long (own_ad a ot)), (.long ot), (.long a)])) τ → G τ := fun τ κ => pre τ (by
    refine XS.ifNo X14.here hx rfl (hb hby at_110) rfl ((if0 _ _).trans (feq hc15).1) ?_
    show Steps p.tables e below (T14.setTop (mkF m 113 #[.val (.long a), .second, .val (.long b), .second, .val (.long sm), .second, .val (.long ot), .second, .val (.long (own_ad a ot)), .second] [])) τ
    refine XS.lloadN X14.here hx rfl (hb hby at_113) rfl ?_
    show Steps p.tables e below (T14.setTop (mkF m 114 #[.val (.long a), .second, .val (.long b), .second, .val (.long sm), .second, .val (.long ot), .second, .val (.long (own_ad a ot)), .second] [(.long a)])) τ
    refine XS.lload X14.here hx rfl (hb hby at_114) rfl ?_
    show Steps p.tables e below (T14.setTop (mkF m 116 #[.val (.long a), .second, .val (.long b), .second, .val (.long sm), .second, .val (.long ot), .second, .val (.long (own_ad a ot)), .second] [(.long ot), (.long a)])) τ
    refine XS.lload X14.here hx rfl (hb hby at_116) rfl ?_
    show Steps p.tables e below (T14.setTop (mkF m 118 #[.val (.long a), .second, .val (.long b), .second, .val (.long sm), .second, .val (.long ot), .second, .val (.long (own_ad a ot)), .second] [(.long (own_ad a ot)), (.long ot), (.long a)])) τ
    refine XS.bipush X14.here hx rfl (hb hby at_118) ?_
    show Steps p.tables e below (T14.setTop (mkF m 120 #[.val (.long a), .second, .val (.long b), .second, .val (.long sm), .second, .val (.long ot), .second, .val (.long (own_ad a ot)), .second] [(.int (56 : Int32)), (.long (own_ad a ot)), (.long ot), (.long a)])) τ
    exact κ)
  obtain ⟨_, _, ⟨T16, Lx16, kx16, nx16⟩, -, X16, ⟨Lc16, hQ16, l16, y16, z16⟩, st16⟩ := Jvm.LawKit.callS X14 hx (y := (⟨"com/example/block_motion_coder/blockmotioncoder/mpeg2/PackedSamplesAbsoluteDifferencesPinLaw", "lane", "(JJJI)Z"⟩ : MethodName)) hown (mvT hZ (hw _ (List.mem_of_getElem? (i := 9) rfl))) (mvT hZ (hw _ (List.mem_of_getElem? (i := 10) rfl))) (mvT hZ (hw _ (List.mem_of_getElem? (i := 11) rfl))) (mvT hZ (hw _ (List.mem_of_getElem? (i := 12) rfl))) (by decide) (backOf (W := 0) (rm2 l Z a0 hw [] a ot (own_ad a ot) (56 : Int32) h0 n0 Zn) hZ (hw _ (List.mem_of_getElem? (i := 12) rfl)) (hw _ (List.mem_of_getElem? (i := 11) rfl)) (by decide) (by decide)) (g := (mkF m 120 #[.val (.long a), .second, .val (.long b), .second, .val (.long sm), .second, .val (.long ot), .second, .val (.long (own_ad a ot)), .second] [(.int (56 : Int32)), (.long (own_ad a ot)), (.long ot), (.long a)])) rfl (by rw [hml]; rfl) (argsL := [(.long a), (.long ot), (.long (own_ad a ot)), (.int (56 : Int32))]) (rest := []) (lenOf pd_2 rfl) rfl (by show 2 * 0 + _ ≤ _; exact Nat.le_of_eq rfl) (hb hby at_120) (fun _ _ => ⟨rfl, hs14, (by decide : 0 + 0 ≤ _), (by decide : 0 + 0 ≤ _)⟩)
  dsimp only [Pt.U, Pt.locs, Pt.cells, Pt.slots] at X16 l16 y16 z16 st16 hQ16
  subst l16 y16 z16
  obtain ⟨rfl, Nq16, hs16⟩ := hQ16
  have NN := Fr.app NN Nq16
  have pre : ∀ τ, Steps p.tables e below (T16.setTop (mkF m 123 #[.val (.long a), .second, .val (.long b), .second, .val (.long sm), .second, .val (.long ot), .second, .val (.long (own_ad a ot)), .second] [(.int (own_lane a ot (own_ad a ot) (56 : Int32)))])) τ → G τ := fun τ κ => pre τ (st16 τ κ)
  have hc17 : ¬ ((own_lane a ot (own_ad a ot) (56 : Int32)) = (0 : Int32)) := own_law7 _ _
  have pre : ∀ τ, Steps p.tables e below (T16.setTop (mkF m 131 #[.val (.long a), .second, .val (.long b), .second, .val (.long sm), .second, .val (.long ot), .second, .val (.long (own_ad a ot)), .second] [(.int (1 : Int32))])) τ → G τ := fun τ κ => pre τ (by
    refine XS.ifNo X16.here hx rfl (hb hby at_123) rfl ((if0 _ _).trans (feq hc17).1) ?_
    show Steps p.tables e below (T16.setTop (mkF m 126 #[.val (.long a), .second, .val (.long b), .second, .val (.long sm), .second, .val (.long ot), .second, .val (.long (own_ad a ot)), .second] [])) τ
    refine XS.iconst X16.here hx rfl (hb hby at_126) ?_
    show Steps p.tables e below (T16.setTop (mkF m 127 #[.val (.long a), .second, .val (.long b), .second, .val (.long sm), .second, .val (.long ot), .second, .val (.long (own_ad a ot)), .second] [(.int (1 : Int32))])) τ
    refine XS.goto X16.here hx rfl (pc0 := 127) (pc' := 131) rfl (hb hby at_127) (by decide) (by decide) ?_
    show Steps p.tables e below (T16.setTop (mkF m 131 #[.val (.long a), .second, .val (.long b), .second, .val (.long sm), .second, .val (.long ot), .second, .val (.long (own_ad a ot)), .second] [(.int (1 : Int32))])) τ
    exact κ)
  obtain ⟨fsα, hr, hrun, hended, hW, hsame⟩ := X16.leave (v := some (.int (1 : Int32))) (fun h => by rw [Bd.returns] at h; cases h)
  refine hGL ⟨_, _, hG _ (pre _ ?_), hrun, hended, _, _, rfl, ?_, ⟨_, rfl⟩, hW, hsame.mono (by decide) (by decide)⟩
  · exact retN X16 hx (t := .boolean) Bd.returns (by simp) (hb hby at_131) hr
  · show Q0 Z a b sm h0 n0 _ T16.heap _
    rw [hs16]
    exact ⟨rfl, NN⟩
set_option maxRecDepth 65536 in
set_option maxHeartbeats 40000000 in
theorem comes_1 {Post : Tables → Env → Array Value → State → Outcome → State → Prop} (hpost : ∀ tb e args s v u, (limb_1_1.after args s (.returned v) u = true ∧ limb_1_2.after args s (.returned v) u = true ∧ True) → FrameEnd s (.returned v) u (Jvm.fieldLocs frame_1_writes args s ++ Jvm.arrayLocs frame_1_arrays args s ++ Jvm.staticLocs frame_1_statics s) 0 0 → Post tb e args s (.returned v) u) :
    ArmFor flags0 classFile x code maxLocals ret World_1 tables_1 room_1 Calls_1 rest_1 Pre_1 Post := by
  intro l hfl _ _ p e ha hc hk s m args below hf hA hF happ hP
  obtain ⟨hcalls, hrest, hpre⟩ := hP
  obtain ⟨-, -, -, hnamed, -, -, -, hat⟩ := (Spec.applies_iff hf).mp happ
  obtain ⟨hg, hn⟩ := and_e (Cond.before_iff.mp (show (Jvm.Cond.and given_1 narrow_1).before args s = true from hpre))
  obtain ⟨gv1, gv2⟩ := and_e hg
  obtain ⟨gv3, gv4⟩ := and_e gv2
  obtain ⟨gv5, gv6⟩ := and_e gv4
  obtain ⟨w0, w1, w2, rfl⟩ : ∃ w0 w1 w2 : Value, args = #[w0, w1, w2] := by
    have hs : args.size = 3 := by simpa [Cond.value, given_1] using gv1
    obtain ⟨L⟩ := args
    match L, hs with
    | [w0, w1, w2], _ => exact ⟨w0, w1, w2, rfl⟩
  have hw := fun d (hd : d ∈ tables_1) => atoms_spec (ws := Jvm.Cond.code x code maxLocals ret :: tables_1) hat d (List.mem_cons_of_mem _ hd)
  have hfit : Fit s := fun {y c} hc i hi => by
    obtain ⟨ha, rfl⟩ := Array.getElem?_eq_some_iff.mp hc
    have q := List.all_eq_true.mp ((Array.all_eq_true_iff_forall_mem.mp hF) _ (Array.getElem_mem ha)) i (List.mem_range.mpr hi)
    simpa [Array.getElem?_eq_getElem hi] using q
  obtain ⟨i0, ei0⟩ := isL_v gv3
  obtain rfl : w0 = (.long i0) := Option.some.inj ei0
  obtain ⟨i1, ei1⟩ := isL_v gv5
  obtain rfl : w1 = (.long i1) := Option.some.inj ei1
  obtain ⟨i2, ei2⟩ := isL_v gv6
  obtain rfl : w2 = (.long i2) := Option.some.inj ei2
  obtain ⟨n, o, h1, h2, h3, _, L, rfl, ⟨rfl, N⟩, hq⟩ := rm0 l s _ hw tables_1 i0 i1 i2  s.heap s.heap.size (Nat.le_refl _)  p e ha hc hk s m _ below hf ((Spec.applies_iff_loose hf).mp happ).1 ⟨rfl, State.Warmed39.refl s, rfl⟩ trivial
  refine ⟨n, _, h1, h2, h3, hpost _ _ _ _ _ _ ⟨Cond.after_iff.mpr rfl, Cond.after_iff.mpr (eq_i res_at (Term.int_eval (1)) rfl), trivial⟩ ⟨hq.1, hq.2.1, (hq.2.2.sift fun y hy => Or.inr (N y hy)).mono (by decide) (by decide)⟩⟩
theorem main_1_1 : Claimed_1_1 := comes_1 fun _ _ _ _ _ _ h hF => ⟨h.1, hF⟩
theorem main_1_2 : Claimed_1_2 := comes_1 fun _ _ _ _ _ _ h hF => ⟨h.2.1, hF⟩
end Jvm.Pilot.@@N@@
namespace Jvm.Pilot.@@N@@
open Jvm Jvm.ClassFile Sem Op Lib Jvm.Free Jvm.Stand Jvm.Pilot.@@N@@.Jvm.D
/-! MADE BY PROGRAM (witnessworld.py) out of the Statement's table words and the real class files: 10 classes; the members and pool entries that the words name. The judged class is class 1, her method 2. -/
namespace start1
open Jvm.ClassFile
def u (s : String) : CpInfo := .utf8 (stringToUtf16 s)
/-- a pool by its gaps: so many unusable entries, then the entry; so many at the end -/
def gap : Nat → List CpInfo → List CpInfo
  | 0, r => r
  | n + 1, r => .unusable :: gap n r
def poolList (es : List (Nat × CpInfo)) (last : Nat) : List CpInfo := es.foldr (fun e r => gap e.1 (e.2 :: r)) (gap last [])
def pool (es : List (Nat × CpInfo)) (last : Nat) : Array CpInfo := ⟨poolList es last⟩
def fileOf (pool : Array CpInfo) (this : Nat) (attrs : Array Attribute := #[]) (ms : Array MethodInfo := #[]) (fl : Nat := 33) (sup : Nat := 0) (ifs : Array Nat := #[]) (fds : Array FieldInfo := #[]) : ClassFile where
  minorVersion := 0
  majorVersion := 65
  constantPool := pool
  accessFlags := fl
  thisClass := this
  superClass := sup
  interfaces := ifs
  fields := fds
  methods := ms
  attributes := attrs
def plain (name : String) (sup : Option ClassId) : Class where
  name := name
  kind := .ordinary
  loader := none
  accessFlags := 33
  super := sup
  interfaces := #[]
  cf := none
  fields := #[]
  methods := #[]
  instanceTypes := #[]
  staticTypes := #[]
  resolved := #[]
  callSites := []
  init := .initialized
  statics := none
  mirror := none

def pool0 : Array CpInfo := pool [(5, u "<init>"), (0, u "()V"), (1, .class_ 10), (1, u "java/lang/Object")] 113

def k0m0 : Method := { name := "<init>", desc := "()V", sig := { parameters := [], returnType := none }, accessFlags := 1, code := none }
/-- java/lang/Object -/
def k0 : Class := { plain "java/lang/Object" none with
  accessFlags := 33
  interfaces := #[]
  cf := some (fileOf pool0 8 #[] #[{ accessFlags := 1, nameIndex := 5, descriptorIndex := 6, attributes := #[] }] 33 0 #[] #[])
  fields := #[]
  methods := #[k0m0]
  instanceTypes := #[]
  staticTypes := #[]
  resolved := Array.replicate 124 none
  statics := none }

def pool1 : Array CpInfo := pool [(2, .class_ 4), (1, u "java/lang/Object"), (0, u "<init>"), (0, u "()V"), (0, .long 255), (1, .methodref 10 11), (0, .class_ 12), (0, .nameAndType 13 14), (0, u "java/lang/Math"), (0, u "abs"), (0, u "(I)I"), (0, .long 18446744073709551615), (1, .methodref 18 19), (0, .class_ 20), (0, .nameAndType 21 22), (0, u "com/example/block_motion_coder/blockmotioncoder/mpeg2/PackedSamples"), (0, u "absoluteDifferences"), (0, u "(JJ)J"), (0, .methodref 24 25), (0, .class_ 26), (0, .nameAndType 27 28), (0, u "com/example/block_motion_coder/blockmotioncoder/mpeg2/PackedSamplesAbsoluteDifferencesPinLaw"), (0, u "lane"), (0, u "(JJJI)Z"), (3, u "law"), (0, u "(JJJ)Z")] 2

def k1m0 : Method := { name := "<init>", desc := "()V", sig := { parameters := [], returnType := none }, accessFlags := 2, code := none }
def k1c1 : Code := { maxStack := 4, maxLocals := 10, code := method_2_code, exceptionTable := #[], attributes := #[] }
def k1m1 : Method := { name := "lane", desc := "(JJJI)Z", sig := { parameters := [.long, .long, .long, .int], returnType := some .boolean }, accessFlags := 10, code := some k1c1 }
def k1c2 : Code := { maxStack := 7, maxLocals := 10, code := code, exceptionTable := #[], attributes := #[] }
def k1m2 : Method := { name := "law", desc := "(JJJ)Z", sig := { parameters := [.long, .long, .long], returnType := some .boolean }, accessFlags := 9, code := some k1c2 }
/-- com/example/block_motion_coder/blockmotioncoder/mpeg2/PackedSamplesAbsoluteDifferencesPinLaw -/
def k1 : Class := { plain "com/example/block_motion_coder/blockmotioncoder/mpeg2/PackedSamplesAbsoluteDifferencesPinLaw" (some 0) with
  accessFlags := 49
  interfaces := #[]
  cf := some (fileOf pool1 24 #[] #[{ accessFlags := 2, nameIndex := 5, descriptorIndex := 6, attributes := #[] }, { accessFlags := 10, nameIndex := 27, descriptorIndex := 28, attributes := #[] }, { accessFlags := 9, nameIndex := 32, descriptorIndex := 33, attributes := #[] }] 49 2 #[] #[])
  fields := #[]
  methods := #[k1m0, k1m1, k1m2]
  instanceTypes := #[]
  staticTypes := #[]
  resolved := Array.replicate 36 none
  statics := none }

def pool2 : Array CpInfo := pool [(2, .class_ 4), (1, u "java/lang/Object"), (0, u "<init>"), (0, u "()V"), (1, .class_ 10), (1, u "com/example/block_motion_coder/blockmotioncoder/mpeg2/PackedSamples"), (0, u "LONGS"), (0, u "Ljava/lang/invoke/VarHandle;"), (12, u "INTS"), (8, .long 9259542123273814144), (1, .long 9187201950435737471), (1, .long 18446744073709551615), (1, .long 255), (20, u "absoluteDifferences"), (0, u "(JJ)J"), (30, u "HIGH_BITS"), (0, u "J"), (1, u "EVEN_BYTES"), (0, u "LANE_ONES"), (0, u "LOW_SEVEN_BITS")] 14

def k2m0 : Method := { name := "<init>", desc := "()V", sig := { parameters := [], returnType := none }, accessFlags := 2, code := none }
def k2c1 : Code := { maxStack := 8, maxLocals := 10, code := prog_82_method_6_code, exceptionTable := #[], attributes := #[] }
def k2m1 : Method := { name := "absoluteDifferences", desc := "(JJ)J", sig := { parameters := [.long, .long], returnType := some .long }, accessFlags := 8, code := some k2c1 }
/-- com/example/block_motion_coder/blockmotioncoder/mpeg2/PackedSamples -/
def k2 : Class := { plain "com/example/block_motion_coder/blockmotioncoder/mpeg2/PackedSamples" (some 0) with
  accessFlags := 32
  interfaces := #[]
  cf := some (fileOf pool2 8 #[] #[{ accessFlags := 2, nameIndex := 5, descriptorIndex := 6, attributes := #[] }, { accessFlags := 8, nameIndex := 61, descriptorIndex := 62, attributes := #[] }] 32 2 #[] #[{ accessFlags := 26, nameIndex := 11, descriptorIndex := 12, attributes := #[] }, { accessFlags := 26, nameIndex := 25, descriptorIndex := 12, attributes := #[] }, { accessFlags := 26, nameIndex := 93, descriptorIndex := 94, attributes := #[] }, { accessFlags := 26, nameIndex := 96, descriptorIndex := 94, attributes := #[] }, { accessFlags := 26, nameIndex := 97, descriptorIndex := 94, attributes := #[] }, { accessFlags := 26, nameIndex := 98, descriptorIndex := 94, attributes := #[] }])
  fields := #[{ name := "LONGS", type := (.object "java/lang/invoke/VarHandle"), accessFlags := 26, slot := 0, constantValue := 0 }, { name := "INTS", type := (.object "java/lang/invoke/VarHandle"), accessFlags := 26, slot := 1, constantValue := 0 }, { name := "HIGH_BITS", type := .long, accessFlags := 26, slot := 2, constantValue := 0 }, { name := "EVEN_BYTES", type := .long, accessFlags := 26, slot := 3, constantValue := 0 }, { name := "LANE_ONES", type := .long, accessFlags := 26, slot := 4, constantValue := 0 }, { name := "LOW_SEVEN_BITS", type := .long, accessFlags := 26, slot := 5, constantValue := 0 }]
  methods := #[k2m0, k2m1]
  instanceTypes := #[]
  staticTypes := #[(.object "java/lang/invoke/VarHandle"), (.object "java/lang/invoke/VarHandle"), .long, .long, .long, .long]
  resolved := Array.replicate 113 none
  statics := none }

def pool3 : Array CpInfo := pool [(1, .class_ 2), (0, u "java/lang/Math"), (1, .class_ 6), (1, u "java/lang/Object"), (0, u "<init>"), (0, u "()V"), (89, .class_ 100), (1, u "java/lang/Math$RandomNumberGeneratorHolder"), (23, u "abs"), (34, u "(I)I"), (12, u "negativeZeroFloatBits"), (0, u "J"), (2, u "negativeZeroDoubleBits"), (68, u "$assertionsDisabled"), (0, u "Z"), (91, u "twoToTheDoubleScaleDown"), (0, u "D"), (4, u "twoToTheDoubleScaleUp"), (9, u "E"), (3, u "PI"), (2, u "TAU"), (2, u "DEGREES_TO_RADIANS"), (0, u "RADIANS_TO_DEGREES")] 94

def k3m0 : Method := { name := "<init>", desc := "()V", sig := { parameters := [], returnType := none }, accessFlags := 2, code := none }
def k3c1 : Code := { maxStack := 1, maxLocals := 1, code := jdk_29_method_59_code, exceptionTable := #[], attributes := #[] }
def k3m1 : Method := { name := "abs", desc := "(I)I", sig := { parameters := [.int], returnType := some .int }, accessFlags := 9, code := some k3c1 }
/-- java/lang/Math -/
def k3 : Class := { plain "java/lang/Math" (some 0) with
  accessFlags := 49
  interfaces := #[]
  cf := some (fileOf pool3 1 #[.nestMembers #[98]] #[{ accessFlags := 2, nameIndex := 7, descriptorIndex := 8, attributes := #[] }, { accessFlags := 9, nameIndex := 124, descriptorIndex := 159, attributes := #[] }] 49 4 #[] #[{ accessFlags := 25, nameIndex := 354, descriptorIndex := 339, attributes := #[] }, { accessFlags := 25, nameIndex := 358, descriptorIndex := 339, attributes := #[] }, { accessFlags := 25, nameIndex := 361, descriptorIndex := 339, attributes := #[] }, { accessFlags := 26, nameIndex := 364, descriptorIndex := 339, attributes := #[] }, { accessFlags := 26, nameIndex := 365, descriptorIndex := 339, attributes := #[] }, { accessFlags := 26, nameIndex := 172, descriptorIndex := 173, attributes := #[] }, { accessFlags := 26, nameIndex := 176, descriptorIndex := 173, attributes := #[] }, { accessFlags := 8, nameIndex := 344, descriptorIndex := 339, attributes := #[] }, { accessFlags := 8, nameIndex := 338, descriptorIndex := 339, attributes := #[] }, { accessFlags := 4120, nameIndex := 245, descriptorIndex := 246, attributes := #[] }])
  fields := #[{ name := "E", type := .double, accessFlags := 25, slot := 0, constantValue := 0 }, { name := "PI", type := .double, accessFlags := 25, slot := 1, constantValue := 0 }, { name := "TAU", type := .double, accessFlags := 25, slot := 2, constantValue := 0 }, { name := "DEGREES_TO_RADIANS", type := .double, accessFlags := 26, slot := 3, constantValue := 0 }, { name := "RADIANS_TO_DEGREES", type := .double, accessFlags := 26, slot := 4, constantValue := 0 }, { name := "negativeZeroFloatBits", type := .long, accessFlags := 26, slot := 5, constantValue := 0 }, { name := "negativeZeroDoubleBits", type := .long, accessFlags := 26, slot := 6, constantValue := 0 }, { name := "twoToTheDoubleScaleUp", type := .double, accessFlags := 8, slot := 7, constantValue := 0 }, { name := "twoToTheDoubleScaleDown", type := .double, accessFlags := 8, slot := 8, constantValue := 0 }, { name := "$assertionsDisabled", type := .boolean, accessFlags := 4120, slot := 9, constantValue := 0 }]
  methods := #[k3m0, k3m1]
  instanceTypes := #[]
  staticTypes := #[.double, .double, .double, .double, .double, .long, .long, .double, .double, .boolean]
  resolved := Array.replicate 460 none
  statics := none }

def pool4 : Array CpInfo := pool [(1, u "java/lang/Cloneable"), (0, .class_ 1), (0, u "java/lang/Object"), (0, .class_ 3)] 3

/-- java/lang/Cloneable -/
def k4 : Class := { plain "java/lang/Cloneable" (some 0) with
  accessFlags := 1537
  interfaces := #[]
  cf := some (fileOf pool4 2 #[] #[] 1537 4 #[] #[])
  fields := #[]
  methods := #[]
  instanceTypes := #[]
  staticTypes := #[]
  resolved := Array.replicate 8 none
  statics := none }

def pool5 : Array CpInfo := pool [(1, u "java/io/Serializable"), (0, .class_ 1), (0, u "java/lang/Object"), (0, .class_ 3)] 3

/-- java/io/Serializable -/
def k5 : Class := { plain "java/io/Serializable" (some 0) with
  accessFlags := 1537
  interfaces := #[]
  cf := some (fileOf pool5 2 #[] #[] 1537 4 #[] #[])
  fields := #[]
  methods := #[]
  instanceTypes := #[]
  staticTypes := #[]
  resolved := Array.replicate 8 none
  statics := none }

/-- the primitive byte -/
def k6 : Class := { plain "byte" none with kind := .primitive 'B', accessFlags := 0x411 }
/-- [B -/
def k7 : Class := { plain "[B" (some 0) with kind := .array 6 .byte, interfaces := #[4, 5], accessFlags := 1041 }

/-- the primitive int -/
def k8 : Class := { plain "int" none with kind := .primitive 'I', accessFlags := 0x411 }
/-- [I -/
def k9 : Class := { plain "[I" (some 0) with kind := .array 8 .int, interfaces := #[4, 5], accessFlags := 1041 }

def heap : Heap := #[]
def classes : Array Class := #[k0, k1, k2, k3, k4, k5, k6, k7, k8, k9]
def interned : List (Array UInt16 × Addr) := []
def slotsUsed : Nat := 0
def theMethod : MethodId := ⟨1, 2⟩
def args0 : Array Value := #[.long 1, .long 5, .long 9]
def aboutOver (below : List Frame) : State where
  vm := { classes := classes, interned := interned.toArray }
  heap := heap
  slotsUsed := slotsUsed
  threads := #[{ frames := .invoking theMethod args0 :: below }]
def below0 : List Frame := [.native { method := ⟨0, 0⟩, args := #[] }]
def about1 : State := aboutOver below0
def p0 : Program := .bare "" "" ""
def e0 : Env := launch0.env 0 0 0
theorem w_frames : about1.frames = Frame.invoking theMethod args0 :: below0 := rfl
set_option maxRecDepth 65536 in
theorem w_args : argsFit about1.vm theMethod args0 = true := by decide +kernel
set_option maxRecDepth 65536 in
theorem w_heap : heapFits about1 = true := by decide +kernel
set_option maxRecDepth 65536 in
theorem w_runnable : about1.curStatus? = some .runnable := by decide +kernel
set_option maxRecDepth 65536 in
theorem w_alone : about1.alone = true := by decide +kernel
set_option maxRecDepth 65536 in
theorem w_named : about1.methodNamed? x = some theMethod := by decide +kernel
set_option maxRecDepth 65536 in
theorem w_hears : about1.hears theMethod below0 = true := by decide +kernel
set_option maxRecDepth 65536 in
theorem w_ripe : about1.ripe theMethod args0 below0 = true := by decide +kernel
theorem w_running : about1.status = .running := rfl
set_option maxRecDepth 65536 in
theorem w_room : about1.hasRoom e0.platform room_1 = true :=
  launch0.hasRoom_least _ room_1 (by decide +kernel) (by decide +kernel) (by decide +kernel) (by decide +kernel) (by decide +kernel) (by decide +kernel)
theorem allAtoms_all (ts : List Jvm.Cond) (a : Array Jvm.Value) (st : Jvm.State) : (allAtoms ts).before a st = ts.all (fun c => c.before a st) := by
  induction ts with
  | nil => rfl
  | cons c t ih =>
    show (Jvm.Cond.and c (allAtoms t)).before a st = _
    rw [Jvm.Cond.before_and, ih, List.all_cons]
def words1 : List Jvm.Cond := Jvm.Cond.code x code maxLocals ret :: tables_1
/-- a 'code' word, met by the world's own term for the bytes: nothing is compared byte by byte -/
theorem code_word {y : MethodName} {bytes : ByteArray} {mx : Nat} {rt : Option FieldType} {a : Array Value} {s : State} {m : MethodId} {meth : Method} {c : Code} (h1 : s.methodNamed? y = some m) (h2 : s.vm.method? m = some meth) (h3 : meth.code = some c) (h4 : c.code = bytes)
    (h5 : (c.maxLocals == mx && c.exceptionTable.isEmpty && decide (c.maxStack ≤ mostOperands) && decide (meth.sig.returnType = rt) && !meth.locks && decide (parseMethodDescriptor y.desc = some meth.sig)) = true) : (Jvm.Cond.code y bytes mx rt).before a s = true := by
  simp only [Bool.and_eq_true, beq_iff_eq, Bool.not_eq_true', decide_eq_true_eq] at h5
  obtain ⟨⟨⟨⟨⟨g1, g2⟩, g3⟩, g4⟩, g5⟩, g6⟩ := h5
  simp [Cond.before, Cond.holds, Cond.value, h1, h2, h3, h4, g1, g2, g3, g4, g5, g6]
def isCode : Jvm.Cond → Bool
  | .code _ _ _ _ => true
  | _ => false
theorem all_split {L : List Jvm.Cond} {P : Jvm.Cond → Bool} (h1 : L.all (fun c => isCode c || P c) = true) (h2 : ∀ c ∈ L.filter isCode, P c = true) : L.all P = true := by
  refine List.all_eq_true.mpr fun c hc => ?_
  have h := List.all_eq_true.mp h1 c hc
  rcases Bool.eq_false_or_eq_true (isCode c) with hi | hi
  · exact h2 c (List.mem_filter.mpr ⟨hc, hi⟩)
  · simpa [hi] using h
set_option maxRecDepth 65536 in
theorem w_c0 : (Jvm.Cond.code x code maxLocals ret).before args0 about1 = true := code_word (m := ⟨1, 2⟩) (meth := k1m2) (c := k1c2) (by decide +kernel) rfl rfl rfl (by decide +kernel)
set_option maxRecDepth 65536 in
theorem w_c1 : (Jvm.Cond.code ({ cls := "com/example/block_motion_coder/blockmotioncoder/mpeg2/PackedSamples", name := "absoluteDifferences", desc := "(JJ)J" } : Jvm.MethodName) prog_82_method_6_code (10 : Nat) (Option.some Jvm.ClassFile.FieldType.long)).before args0 about1 = true := code_word (m := ⟨2, 1⟩) (meth := k2m1) (c := k2c1) (by decide +kernel) rfl rfl rfl (by decide +kernel)
set_option maxRecDepth 65536 in
theorem w_c2 : (Jvm.Cond.code ({ cls := "com/example/block_motion_coder/blockmotioncoder/mpeg2/PackedSamplesAbsoluteDifferencesPinLaw", name := "lane", desc := "(JJJI)Z" } : Jvm.MethodName) method_2_code (10 : Nat) (Option.some Jvm.ClassFile.FieldType.boolean)).before args0 about1 = true := code_word (m := ⟨1, 1⟩) (meth := k1m1) (c := k1c1) (by decide +kernel) rfl rfl rfl (by decide +kernel)
set_option maxRecDepth 65536 in
theorem w_c3 : (Jvm.Cond.code ({ cls := "java/lang/Math", name := "abs", desc := "(I)I" } : Jvm.MethodName) jdk_29_method_59_code (1 : Nat) (Option.some Jvm.ClassFile.FieldType.int)).before args0 about1 = true := code_word (m := ⟨3, 1⟩) (meth := k3m1) (c := k3c1) (by decide +kernel) rfl rfl rfl (by decide +kernel)
def codes1 : List Jvm.Cond := [Jvm.Cond.code x code maxLocals ret, Jvm.Cond.code ({ cls := "com/example/block_motion_coder/blockmotioncoder/mpeg2/PackedSamples", name := "absoluteDifferences", desc := "(JJ)J" } : Jvm.MethodName) prog_82_method_6_code (10 : Nat) (Option.some Jvm.ClassFile.FieldType.long), Jvm.Cond.code ({ cls := "com/example/block_motion_coder/blockmotioncoder/mpeg2/PackedSamplesAbsoluteDifferencesPinLaw", name := "lane", desc := "(JJJI)Z" } : Jvm.MethodName) method_2_code (10 : Nat) (Option.some Jvm.ClassFile.FieldType.boolean), Jvm.Cond.code ({ cls := "java/lang/Math", name := "abs", desc := "(I)I" } : Jvm.MethodName) jdk_29_method_59_code (1 : Nat) (Option.some Jvm.ClassFile.FieldType.int)]
set_option maxRecDepth 65536 in
theorem codes_eq : words1.filter isCode = codes1 := rfl
theorem w_codes : ∀ c ∈ words1.filter isCode, c.before args0 about1 = true := by
  rw [codes_eq]
  intro c hc
  simp only [codes1, List.mem_cons, List.not_mem_nil, or_false] at hc
  rcases hc with rfl | rfl | rfl | rfl
  · exact w_c0
  · exact w_c1
  · exact w_c2
  · exact w_c3
set_option maxRecDepth 65536 in
theorem w_t1 : words1.all (fun c => isCode c || c.before args0 about1) = true := by decide +kernel
theorem w_tables : (allAtoms (Jvm.Cond.code x code maxLocals ret :: tables_1)).before args0 about1 = true := by
  rw [allAtoms_all]
  show words1.all (fun c => c.before args0 about1) = true
  refine all_split ?_ w_codes
  rw [w_t1]
set_option maxRecDepth 65536 in
theorem w_case : (Jvm.Cond.and given_1 narrow_1).before args0 about1 = true := by decide +kernel
theorem w_applies : (headSpec (Jvm.Cond.code x code maxLocals ret :: tables_1) room_1).applies x e0.platform about1 = true :=
  (Spec.applies_iff w_frames).mpr ⟨w_running, w_runnable, w_alone, w_named, w_hears, w_ripe, w_room, w_tables⟩
theorem atStart : AtStart classFile x code maxLocals ret World_1 tables_1 room_1 Calls_1 rest_1 Pre_1 launch0 p0 e0 about1 theMethod args0 below0 :=
  ⟨lists_1, trivial, launch0.admits_env _ _ _, launch0.least_env, fairChoices_fair.cas, fairChoices_fair.clock, w_frames, w_args, w_heap, w_applies, trivial, trivial, w_case⟩
end start1
theorem witness_1 : WitnessClaimed_1 := ⟨start1.p0, start1.e0, start1.about1, start1.theMethod, start1.args0, start1.below0, start1.atStart⟩
end Jvm.Pilot.@@N@@
