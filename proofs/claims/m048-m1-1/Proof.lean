import JvmDerived
import JvmDerived.Pilot.@@N@@Statement
import JvmDerived.Pilot.@@N@@Code
set_option linter.unusedVariables false
set_option linter.unusedSimpArgs false
namespace Jvm.Pilot.@@N@@
open Jvm Jvm.ClassFile Sem Op Lib Jvm.Free Jvm.Stand Jvm.LawKit Jvm.RoadKit Bundle Jvm.Pilot.@@N@@.Jvm.D
theorem own_wrap {A : Prop} (h : ∀ GL : Prop, (A → GL) → GL) : A := h A id
def own_term (d i s e : Int32) : Int32 := if i < s then 0 else if i < e then (if ((e - (1 : Int32)) - i) &&& (1 : Int32) = (0 : Int32) then ((2 : Int32) * d) / (10 : Int32) + ((2 : Int32) * d) % (10 : Int32) else d) else 0
def own_at (vs : List Value) (dv : Value) (j : Int32) : Int32 := match vs.getD j.toNatClampNeg dv with | .int x => x | _ => 0
def own_lp (vs : List Value) (dv : Value) : Nat → Int32 → Int32 → Int32 → Int32
  | 0, _, sm, _ => sm
  | n + 1, i, sm, wt => own_lp vs dv n (i + (-1 : Int32)) (if (9 : Int32) < (own_at vs dv i - (48 : Int32)) * wt then sm + ((own_at vs dv i - (48 : Int32)) * wt - (9 : Int32)) else sm + (own_at vs dv i - (48 : Int32)) * wt) ((3 : Int32) - wt)
def own_m10 (vs : List Value) (dv : Value) (s e : Int32) : Int32 :=
  if own_lp vs dv (e.toInt - s.toInt).toNat (e - (1 : Int32)) (0 : Int32) (2 : Int32) % (10 : Int32) = (0 : Int32) then 0 else (10 : Int32) - own_lp vs dv (e.toInt - s.toInt).toNat (e - (1 : Int32)) (0 : Int32) (2 : Int32) % (10 : Int32)
theorem own_lpt (vs : List Value) (dv : Value) (n : Nat) (i sm wt : Int32) (h : (9 : Int32) < (own_at vs dv i - (48 : Int32)) * wt) : own_lp vs dv n (i + (-1 : Int32)) (sm + ((own_at vs dv i - (48 : Int32)) * wt - (9 : Int32))) ((3 : Int32) - wt) = own_lp vs dv (n + 1) i sm wt := by
  show _ = own_lp vs dv n (i + (-1 : Int32)) (if _ then _ else _) ((3 : Int32) - wt)
  rw [if_pos h]
theorem own_lpf (vs : List Value) (dv : Value) (n : Nat) (i sm wt : Int32) (h : ¬ (9 : Int32) < (own_at vs dv i - (48 : Int32)) * wt) : own_lp vs dv n (i + (-1 : Int32)) (sm + (own_at vs dv i - (48 : Int32)) * wt) ((3 : Int32) - wt) = own_lp vs dv (n + 1) i sm wt := by
  show _ = own_lp vs dv n (i + (-1 : Int32)) (if _ then _ else _) ((3 : Int32) - wt)
  rw [if_neg h]
theorem own_get {c : Cell} {vs : List Value} {dv : Value} {j : Int32} (H : Has c vs dv) (G : ∀ i, i < c.slots.size → fits .byte (vs.getD i dv) = true) (q : ¬ (j < 0 ∨ c.slots.size ≤ j.toNatClampNeg)) : c.slots[j.toNatClampNeg]? = some (.int (own_at vs dv j)) := by
  have hlt : j.toNatClampNeg < c.slots.size := Nat.lt_of_not_le fun y => q (Or.inr y)
  obtain ⟨x, hx⟩ := fit_I (G _ hlt) (Or.inr (Or.inr (Or.inl rfl)))
  rw [H _ hlt, hx]
  unfold own_at
  rw [hx]
theorem own_e1 (e : Int32) (h : 0 ≤ e.toInt) : (e - (1 : Int32)).toInt = e.toInt - 1 := by
  have h1 := c_isub e 1; have k : (1 : Int32).toInt = 1 := by decide
  have r := rng32 e; have r2 := rng32 (e - 1); omega
theorem own_i0 {s e : Int32} (hs : 0 ≤ s.toInt) (hse : s.toInt ≤ e.toInt) : (e - (1 : Int32)).toInt = s.toInt + (((e.toInt - s.toInt).toNat : Nat) : Int) - 1 := by
  rw [own_e1 e (by omega)]; omega
theorem own_i1 {s e : Int32} (hs : 0 ≤ s.toInt) (hse : s.toInt ≤ e.toInt) : (e - (1 : Int32)).toInt < e.toInt := by
  rw [own_e1 e (by omega)]; omega
theorem own_i2 {s i : Int32} {n : Nat} (hs : 0 ≤ s.toInt) (hn : i.toInt = s.toInt + ((n + 1 : Nat) : Int) - 1) : (i + (-1 : Int32)).toInt = s.toInt + (n : Int) - 1 := by
  have h1 := c_iadd i (-1); have k : (-1 : Int32).toInt = -1 := by decide
  have r := rng32 i; have r2 := rng32 (i + (-1)); omega
theorem own_i3 {s i e : Int32} {n : Nat} (hs : 0 ≤ s.toInt) (hn : i.toInt = s.toInt + ((n + 1 : Nat) : Int) - 1) (hi : i.toInt < e.toInt) : (i + (-1 : Int32)).toInt < e.toInt := by
  rw [own_i2 hs hn]; omega
theorem own_z {s i : Int32} (hn : i.toInt = s.toInt + ((0 : Nat) : Int) - 1) : i < s := by
  rw [Int32.lt_iff_toInt_lt]; omega
theorem own_s {s i : Int32} {n : Nat} (hs : 0 ≤ s.toInt) (hn : i.toInt = s.toInt + ((n + 1 : Nat) : Int) - 1) : ¬ i < s := by
  rw [Int32.lt_iff_toInt_lt]; omega
theorem own_in {s i e z : Int32} {n : Nat} (hs : 0 ≤ s.toInt) (hn : i.toInt = s.toInt + ((n + 1 : Nat) : Int) - 1) (hi : i.toInt < e.toInt) (hz : e.toInt ≤ z.toInt) : ¬ i < 0 ∧ i < z := by
  rw [Int32.lt_iff_toInt_lt, Int32.lt_iff_toInt_lt]
  have k : (0 : Int32).toInt = 0 := by decide
  omega
theorem own_r7 (r : Int32) : 0 ≤ ((r &&& (2147483647 : Int32)) % (7 : Int32)).toInt ∧ ((r &&& (2147483647 : Int32)) % (7 : Int32)).toInt ≤ 6 := by
  have h := c_mask r 2147483647 31 (by decide) (by decide)
  have h2 := (c_irem (r &&& 2147483647) 7 7 (by decide)).1 (by omega)
  omega
theorem own_7s (r : Int32) : ((7 : Int32) - (r &&& (2147483647 : Int32)) % (7 : Int32)).toInt = 7 - ((r &&& (2147483647 : Int32)) % (7 : Int32)).toInt := by
  have h := own_r7 r
  have h1 := c_isub 7 ((r &&& 2147483647) % 7); have k : (7 : Int32).toInt = 7 := by decide
  have r2 := rng32 (7 - (r &&& 2147483647) % 7); omega
theorem own_nz (r : Int32) : ((7 : Int32) - (r &&& (2147483647 : Int32)) % (7 : Int32)) ≠ 0 := by
  intro q
  have h := own_7s r; have h2 := own_r7 r
  rw [q] at h
  have k : (0 : Int32).toInt = 0 := by decide
  omega
theorem own_se (r : Int32) : 0 ≤ ((r &&& (2147483647 : Int32)) % (7 : Int32)).toInt ∧ ((r &&& (2147483647 : Int32)) % (7 : Int32)).toInt ≤ ((r &&& (2147483647 : Int32)) % (7 : Int32) + ((r.toUInt32 >>> ((3 : Int32) &&& 31).toUInt32).toInt32) % ((7 : Int32) - (r &&& (2147483647 : Int32)) % (7 : Int32))).toInt ∧ ((r &&& (2147483647 : Int32)) % (7 : Int32) + ((r.toUInt32 >>> ((3 : Int32) &&& 31).toUInt32).toInt32) % ((7 : Int32) - (r &&& (2147483647 : Int32)) % (7 : Int32))).toInt ≤ 6 := by
  have h1 := own_7s r; have h2 := own_r7 r
  have h3 := c_iushr r 3 3 (by decide) (by decide)
  have r3 := rng32 r
  generalize (r &&& (2147483647 : Int32)) % (7 : Int32) = s at *
  generalize (7 : Int32) - s = q at *
  generalize (r.toUInt32 >>> ((3 : Int32) &&& 31).toUInt32).toInt32 = u at *
  have h4 := (c_iremV u q).1 (by omega) (by omega)
  have h5 := c_iadd s (u % q); have r4 := rng32 (s + u % q)
  omega
theorem own_d0 (x : Int32) : 0 ≤ (((x &&& (2147483647 : Int32)) % (100 : Int32)) / (10 : Int32)).toInt ∧ (((x &&& (2147483647 : Int32)) % (100 : Int32)) / (10 : Int32)).toInt ≤ 9 := by
  have h := c_mask x 2147483647 31 (by decide) (by decide)
  have h2 := (c_irem (x &&& 2147483647) 100 100 (by decide)).1 (by omega)
  have h3 := (c_idiv ((x &&& 2147483647) % 100) 10 10 (by decide) (by decide)).1 (by omega)
  omega
theorem own_d1 (x : Int32) : 0 ≤ (((x &&& (2147483647 : Int32)) % (100 : Int32)) % (10 : Int32)).toInt ∧ (((x &&& (2147483647 : Int32)) % (100 : Int32)) % (10 : Int32)).toInt ≤ 9 := by
  have h := c_mask x 2147483647 31 (by decide) (by decide)
  have h2 := (c_irem (x &&& 2147483647) 100 100 (by decide)).1 (by omega)
  have h3 := (c_irem ((x &&& 2147483647) % 100) 10 10 (by decide)).1 (by omega)
  omega
abbrev own_b (d : Int32) : Value := (.int (nar .byte (((48 : Int32) + d).toInt8.toInt32)))
abbrev own_T (d : Int32) : Int32 := ((2 : Int32) * d) / (10 : Int32) + ((2 : Int32) * d) % (10 : Int32)
theorem own_nb {d : Int32} (b : 0 ≤ d.toInt ∧ d.toInt ≤ 9) : nar .byte (((48 : Int32) + d).toInt8.toInt32) - (48 : Int32) = d := by
  have e : nar .byte (((48 : Int32) + d).toInt8.toInt32) = ((48 : Int32) + d).toInt8.toInt32 := by
    show (((48 : Int32) + d).toInt8.toInt32).toInt8.toInt32 = _
    rw [Int8.toInt8_toInt32]
  rw [e]
  apply Int32.toInt_inj.mp
  have h1 := c_iadd 48 d; have k : (48 : Int32).toInt = 48 := by decide
  have r := rng32 (48 + d)
  have h2 := c_i2b (48 + d)
  have h3 := c_isub ((48 + d).toInt8.toInt32) 48
  have r2 := rng32 ((48 + d).toInt8.toInt32 - 48)
  have e1 : (48 + d).toInt = 48 + d.toInt := by omega
  have e2 : ((48 + d).toInt8.toInt32).toInt = 48 + d.toInt := by omega
  omega
theorem own_addex {x y : Int32} (hx : 0 ≤ x.toInt ∧ x.toInt ≤ 1000) (hy : 0 ≤ y.toInt ∧ y.toInt ≤ 1000) : (x + y).toInt = x.toInt + y.toInt := by
  have h := c_iadd x y; have r := rng32 (x + y); omega
theorem own_c2 {d : Int32} (b : 0 ≤ d.toInt ∧ d.toInt ≤ 9) (sm : Int32) : (if (9 : Int32) < d * (2 : Int32) then sm + (d * (2 : Int32) - (9 : Int32)) else sm + d * (2 : Int32)) = sm + own_T d := by
  have k2 : (2 : Int32).toInt = 2 := by decide
  have k9 : (9 : Int32).toInt = 9 := by decide
  have m1 := c_imul d 2; rw [k2] at m1
  have r1 := rng32 (d * 2)
  have e1 : (d * 2).toInt = 2 * d.toInt := by omega
  have m2 := c_imul 2 d; rw [k2] at m2
  have r2 := rng32 (2 * d)
  have e2 : (2 * d).toInt = 2 * d.toInt := by omega
  have q := (c_idiv (2 * d) 10 10 (by decide) (by decide)).1 (by omega)
  have q2 := (c_irem (2 * d) 10 10 (by decide)).1 (by omega)
  rw [e2] at q q2
  have eT : (own_T d).toInt = (2 * d.toInt) / 10 + (2 * d.toInt) % 10 := by unfold own_T; rw [own_addex (by omega) (by omega), q, q2]
  split
  · rename_i h; rw [Int32.lt_iff_toInt_lt] at h
    have e3 : d * 2 - 9 = own_T d := by
      apply Int32.toInt_inj.mp
      have h3 := c_isub (d * 2) 9; have r3 := rng32 (d * 2 - 9)
      omega
    rw [e3]
  · rename_i h; rw [Int32.lt_iff_toInt_lt] at h
    have e3 : d * 2 = own_T d := by
      apply Int32.toInt_inj.mp
      omega
    rw [e3]
theorem own_c1 {d : Int32} (b : 0 ≤ d.toInt ∧ d.toInt ≤ 9) (sm : Int32) : (if (9 : Int32) < d * (1 : Int32) then sm + (d * (1 : Int32) - (9 : Int32)) else sm + d * (1 : Int32)) = sm + d := by
  rw [Int32.mul_one, if_neg]
  rw [Int32.lt_iff_toInt_lt]
  have k9 : (9 : Int32).toInt = 9 := by decide
  omega
theorem own_Tb {d : Int32} (b : 0 ≤ d.toInt ∧ d.toInt ≤ 9) : 0 ≤ (own_T d).toInt ∧ (own_T d).toInt ≤ 9 := by
  have k2 : (2 : Int32).toInt = 2 := by decide
  have m2 := c_imul 2 d; rw [k2] at m2
  have r2 := rng32 (2 * d)
  have e2 : (2 * d).toInt = 2 * d.toInt := by omega
  have q := (c_idiv (2 * d) 10 10 (by decide) (by decide)).1 (by omega)
  have q2 := (c_irem (2 * d) 10 10 (by decide)).1 (by omega)
  rw [e2] at q q2
  unfold own_T; rw [own_addex (by omega) (by omega), q, q2]; omega
theorem own_tb {d : Int32} (b : 0 ≤ d.toInt ∧ d.toInt ≤ 9) (i s e : Int32) : 0 ≤ (own_term d i s e).toInt ∧ (own_term d i s e).toInt ≤ 9 := by
  unfold own_term
  have k : (0 : Int32).toInt = 0 := by decide
  split
  · omega
  · split
    · split
      · exact own_Tb b
      · exact b
    · omega
theorem own_fin {S : Int32} (b : 0 ≤ S.toInt ∧ S.toInt ≤ 54) : (if S % (10 : Int32) = (0 : Int32) then (0 : Int32) else (10 : Int32) - S % (10 : Int32)) = ((10 : Int32) - S % (10 : Int32)) % (10 : Int32) := by
  have q := (c_irem S 10 10 (by decide)).1 b.1
  have k10 : (10 : Int32).toInt = 10 := by decide
  have k0 : (0 : Int32).toInt = 0 := by decide
  have h := c_isub 10 (S % 10); have r := rng32 (10 - S % 10)
  have e : (10 - S % 10).toInt = 10 - S.toInt % 10 := by omega
  have q2 := (c_irem (10 - S % 10) 10 10 (by decide)).1 (by omega)
  split
  · rename_i z
    apply Int32.toInt_inj.mp
    rw [z] at q; omega
  · rename_i z
    apply Int32.toInt_inj.mp
    have : (S % 10).toInt ≠ 0 := fun y => z (Int32.toInt_inj.mp (by rw [y, k0]))
    omega
theorem own_at0 {d0 d1 d2 d3 d4 d5 : Int32} (b : 0 ≤ d0.toInt ∧ d0.toInt ≤ 9) : own_at [own_b d0, own_b d1, own_b d2, own_b d3, own_b d4, own_b d5] (.int (0 : Int32)) (0 : Int32) - (48 : Int32) = d0 := own_nb b
theorem own_at1 {d0 d1 d2 d3 d4 d5 : Int32} (b : 0 ≤ d1.toInt ∧ d1.toInt ≤ 9) : own_at [own_b d0, own_b d1, own_b d2, own_b d3, own_b d4, own_b d5] (.int (0 : Int32)) (1 : Int32) - (48 : Int32) = d1 := own_nb b
theorem own_at2 {d0 d1 d2 d3 d4 d5 : Int32} (b : 0 ≤ d2.toInt ∧ d2.toInt ≤ 9) : own_at [own_b d0, own_b d1, own_b d2, own_b d3, own_b d4, own_b d5] (.int (0 : Int32)) (2 : Int32) - (48 : Int32) = d2 := own_nb b
theorem own_at3 {d0 d1 d2 d3 d4 d5 : Int32} (b : 0 ≤ d3.toInt ∧ d3.toInt ≤ 9) : own_at [own_b d0, own_b d1, own_b d2, own_b d3, own_b d4, own_b d5] (.int (0 : Int32)) (3 : Int32) - (48 : Int32) = d3 := own_nb b
theorem own_at4 {d0 d1 d2 d3 d4 d5 : Int32} (b : 0 ≤ d4.toInt ∧ d4.toInt ≤ 9) : own_at [own_b d0, own_b d1, own_b d2, own_b d3, own_b d4, own_b d5] (.int (0 : Int32)) (4 : Int32) - (48 : Int32) = d4 := own_nb b
theorem own_at5 {d0 d1 d2 d3 d4 d5 : Int32} (b : 0 ≤ d5.toInt ∧ d5.toInt ≤ 9) : own_at [own_b d0, own_b d1, own_b d2, own_b d3, own_b d4, own_b d5] (.int (0 : Int32)) (5 : Int32) - (48 : Int32) = d5 := own_nb b
theorem own_st1 : (1 : Int32) + (-1 : Int32) = (0 : Int32) := by decide
theorem own_st2 : (2 : Int32) + (-1 : Int32) = (1 : Int32) := by decide
theorem own_st3 : (3 : Int32) + (-1 : Int32) = (2 : Int32) := by decide
theorem own_st4 : (4 : Int32) + (-1 : Int32) = (3 : Int32) := by decide
theorem own_st5 : (5 : Int32) + (-1 : Int32) = (4 : Int32) := by decide
theorem own_st6 : (6 : Int32) + (-1 : Int32) = (5 : Int32) := by decide
theorem own_st0 : (0 : Int32) + (-1 : Int32) = (-1 : Int32) := by decide
theorem own_w1 : (3 : Int32) - (2 : Int32) = (1 : Int32) := by decide
theorem own_w2 : (3 : Int32) - (1 : Int32) = (2 : Int32) := by decide
theorem own_case00 {d0 d1 d2 d3 d4 d5 : Int32} (b0 : 0 ≤ d0.toInt ∧ d0.toInt ≤ 9) (b1 : 0 ≤ d1.toInt ∧ d1.toInt ≤ 9) (b2 : 0 ≤ d2.toInt ∧ d2.toInt ≤ 9) (b3 : 0 ≤ d3.toInt ∧ d3.toInt ≤ 9) (b4 : 0 ≤ d4.toInt ∧ d4.toInt ≤ 9) (b5 : 0 ≤ d5.toInt ∧ d5.toInt ≤ 9) : own_lp [own_b d0, own_b d1, own_b d2, own_b d3, own_b d4, own_b d5] (.int (0 : Int32)) ((0 : Int32).toInt - (0 : Int32).toInt).toNat ((0 : Int32) - (1 : Int32)) (0 : Int32) (2 : Int32) = (((((own_term d0 (0 : Int32) (0 : Int32) (0 : Int32) + own_term d1 (1 : Int32) (0 : Int32) (0 : Int32)) + own_term d2 (2 : Int32) (0 : Int32) (0 : Int32)) + own_term d3 (3 : Int32) (0 : Int32) (0 : Int32)) + own_term d4 (4 : Int32) (0 : Int32) (0 : Int32)) + own_term d5 (5 : Int32) (0 : Int32) (0 : Int32)) := by
  have t0 : own_term d0 (0 : Int32) (0 : Int32) (0 : Int32) = 0 := by unfold own_term; rw [if_neg (by decide), if_neg (by decide)]
  have t1 : own_term d1 (1 : Int32) (0 : Int32) (0 : Int32) = 0 := by unfold own_term; rw [if_neg (by decide), if_neg (by decide)]
  have t2 : own_term d2 (2 : Int32) (0 : Int32) (0 : Int32) = 0 := by unfold own_term; rw [if_neg (by decide), if_neg (by decide)]
  have t3 : own_term d3 (3 : Int32) (0 : Int32) (0 : Int32) = 0 := by unfold own_term; rw [if_neg (by decide), if_neg (by decide)]
  have t4 : own_term d4 (4 : Int32) (0 : Int32) (0 : Int32) = 0 := by unfold own_term; rw [if_neg (by decide), if_neg (by decide)]
  have t5 : own_term d5 (5 : Int32) (0 : Int32) (0 : Int32) = 0 := by unfold own_term; rw [if_neg (by decide), if_neg (by decide)]
  have n : ((0 : Int32).toInt - (0 : Int32).toInt).toNat = 0 := by decide
  have f : (0 : Int32) - (1 : Int32) = (-1 : Int32) := by decide
  rw [n, f, t0, t1, t2, t3, t4, t5]
  simp only [own_lp]
  decide
theorem own_case01 {d0 d1 d2 d3 d4 d5 : Int32} (b0 : 0 ≤ d0.toInt ∧ d0.toInt ≤ 9) (b1 : 0 ≤ d1.toInt ∧ d1.toInt ≤ 9) (b2 : 0 ≤ d2.toInt ∧ d2.toInt ≤ 9) (b3 : 0 ≤ d3.toInt ∧ d3.toInt ≤ 9) (b4 : 0 ≤ d4.toInt ∧ d4.toInt ≤ 9) (b5 : 0 ≤ d5.toInt ∧ d5.toInt ≤ 9) : own_lp [own_b d0, own_b d1, own_b d2, own_b d3, own_b d4, own_b d5] (.int (0 : Int32)) ((1 : Int32).toInt - (0 : Int32).toInt).toNat ((1 : Int32) - (1 : Int32)) (0 : Int32) (2 : Int32) = (((((own_term d0 (0 : Int32) (0 : Int32) (1 : Int32) + own_term d1 (1 : Int32) (0 : Int32) (1 : Int32)) + own_term d2 (2 : Int32) (0 : Int32) (1 : Int32)) + own_term d3 (3 : Int32) (0 : Int32) (1 : Int32)) + own_term d4 (4 : Int32) (0 : Int32) (1 : Int32)) + own_term d5 (5 : Int32) (0 : Int32) (1 : Int32)) := by
  have t0 : own_term d0 (0 : Int32) (0 : Int32) (1 : Int32) = own_T d0 := by unfold own_term; rw [if_neg (by decide), if_pos (by decide), if_pos (by decide)]
  have t1 : own_term d1 (1 : Int32) (0 : Int32) (1 : Int32) = 0 := by unfold own_term; rw [if_neg (by decide), if_neg (by decide)]
  have t2 : own_term d2 (2 : Int32) (0 : Int32) (1 : Int32) = 0 := by unfold own_term; rw [if_neg (by decide), if_neg (by decide)]
  have t3 : own_term d3 (3 : Int32) (0 : Int32) (1 : Int32) = 0 := by unfold own_term; rw [if_neg (by decide), if_neg (by decide)]
  have t4 : own_term d4 (4 : Int32) (0 : Int32) (1 : Int32) = 0 := by unfold own_term; rw [if_neg (by decide), if_neg (by decide)]
  have t5 : own_term d5 (5 : Int32) (0 : Int32) (1 : Int32) = 0 := by unfold own_term; rw [if_neg (by decide), if_neg (by decide)]
  have n : ((1 : Int32).toInt - (0 : Int32).toInt).toNat = 1 := by decide
  have f : (1 : Int32) - (1 : Int32) = (0 : Int32) := by decide
  rw [n, f, t0, t1, t2, t3, t4, t5]
  simp only [own_lp, own_at0 b0, own_st0, own_w1, own_w2, own_c2 b0]
  simp only [Int32.zero_add, Int32.add_zero]
theorem own_case02 {d0 d1 d2 d3 d4 d5 : Int32} (b0 : 0 ≤ d0.toInt ∧ d0.toInt ≤ 9) (b1 : 0 ≤ d1.toInt ∧ d1.toInt ≤ 9) (b2 : 0 ≤ d2.toInt ∧ d2.toInt ≤ 9) (b3 : 0 ≤ d3.toInt ∧ d3.toInt ≤ 9) (b4 : 0 ≤ d4.toInt ∧ d4.toInt ≤ 9) (b5 : 0 ≤ d5.toInt ∧ d5.toInt ≤ 9) : own_lp [own_b d0, own_b d1, own_b d2, own_b d3, own_b d4, own_b d5] (.int (0 : Int32)) ((2 : Int32).toInt - (0 : Int32).toInt).toNat ((2 : Int32) - (1 : Int32)) (0 : Int32) (2 : Int32) = (((((own_term d0 (0 : Int32) (0 : Int32) (2 : Int32) + own_term d1 (1 : Int32) (0 : Int32) (2 : Int32)) + own_term d2 (2 : Int32) (0 : Int32) (2 : Int32)) + own_term d3 (3 : Int32) (0 : Int32) (2 : Int32)) + own_term d4 (4 : Int32) (0 : Int32) (2 : Int32)) + own_term d5 (5 : Int32) (0 : Int32) (2 : Int32)) := by
  have t0 : own_term d0 (0 : Int32) (0 : Int32) (2 : Int32) = d0 := by unfold own_term; rw [if_neg (by decide), if_pos (by decide), if_neg (by decide)]
  have t1 : own_term d1 (1 : Int32) (0 : Int32) (2 : Int32) = own_T d1 := by unfold own_term; rw [if_neg (by decide), if_pos (by decide), if_pos (by decide)]
  have t2 : own_term d2 (2 : Int32) (0 : Int32) (2 : Int32) = 0 := by unfold own_term; rw [if_neg (by decide), if_neg (by decide)]
  have t3 : own_term d3 (3 : Int32) (0 : Int32) (2 : Int32) = 0 := by unfold own_term; rw [if_neg (by decide), if_neg (by decide)]
  have t4 : own_term d4 (4 : Int32) (0 : Int32) (2 : Int32) = 0 := by unfold own_term; rw [if_neg (by decide), if_neg (by decide)]
  have t5 : own_term d5 (5 : Int32) (0 : Int32) (2 : Int32) = 0 := by unfold own_term; rw [if_neg (by decide), if_neg (by decide)]
  have n : ((2 : Int32).toInt - (0 : Int32).toInt).toNat = 2 := by decide
  have f : (2 : Int32) - (1 : Int32) = (1 : Int32) := by decide
  rw [n, f, t0, t1, t2, t3, t4, t5]
  simp only [own_lp, own_at0 b0, own_at1 b1, own_st0, own_st1, own_w1, own_w2, own_c1 b0, own_c2 b1]
  simp only [Int32.zero_add, Int32.add_zero]
  ac_rfl
theorem own_case03 {d0 d1 d2 d3 d4 d5 : Int32} (b0 : 0 ≤ d0.toInt ∧ d0.toInt ≤ 9) (b1 : 0 ≤ d1.toInt ∧ d1.toInt ≤ 9) (b2 : 0 ≤ d2.toInt ∧ d2.toInt ≤ 9) (b3 : 0 ≤ d3.toInt ∧ d3.toInt ≤ 9) (b4 : 0 ≤ d4.toInt ∧ d4.toInt ≤ 9) (b5 : 0 ≤ d5.toInt ∧ d5.toInt ≤ 9) : own_lp [own_b d0, own_b d1, own_b d2, own_b d3, own_b d4, own_b d5] (.int (0 : Int32)) ((3 : Int32).toInt - (0 : Int32).toInt).toNat ((3 : Int32) - (1 : Int32)) (0 : Int32) (2 : Int32) = (((((own_term d0 (0 : Int32) (0 : Int32) (3 : Int32) + own_term d1 (1 : Int32) (0 : Int32) (3 : Int32)) + own_term d2 (2 : Int32) (0 : Int32) (3 : Int32)) + own_term d3 (3 : Int32) (0 : Int32) (3 : Int32)) + own_term d4 (4 : Int32) (0 : Int32) (3 : Int32)) + own_term d5 (5 : Int32) (0 : Int32) (3 : Int32)) := by
  have t0 : own_term d0 (0 : Int32) (0 : Int32) (3 : Int32) = own_T d0 := by unfold own_term; rw [if_neg (by decide), if_pos (by decide), if_pos (by decide)]
  have t1 : own_term d1 (1 : Int32) (0 : Int32) (3 : Int32) = d1 := by unfold own_term; rw [if_neg (by decide), if_pos (by decide), if_neg (by decide)]
  have t2 : own_term d2 (2 : Int32) (0 : Int32) (3 : Int32) = own_T d2 := by unfold own_term; rw [if_neg (by decide), if_pos (by decide), if_pos (by decide)]
  have t3 : own_term d3 (3 : Int32) (0 : Int32) (3 : Int32) = 0 := by unfold own_term; rw [if_neg (by decide), if_neg (by decide)]
  have t4 : own_term d4 (4 : Int32) (0 : Int32) (3 : Int32) = 0 := by unfold own_term; rw [if_neg (by decide), if_neg (by decide)]
  have t5 : own_term d5 (5 : Int32) (0 : Int32) (3 : Int32) = 0 := by unfold own_term; rw [if_neg (by decide), if_neg (by decide)]
  have n : ((3 : Int32).toInt - (0 : Int32).toInt).toNat = 3 := by decide
  have f : (3 : Int32) - (1 : Int32) = (2 : Int32) := by decide
  rw [n, f, t0, t1, t2, t3, t4, t5]
  simp only [own_lp, own_at0 b0, own_at1 b1, own_at2 b2, own_st0, own_st1, own_st2, own_w1, own_w2, own_c2 b0, own_c1 b1, own_c2 b2]
  simp only [Int32.zero_add, Int32.add_zero]
  ac_rfl
theorem own_case04 {d0 d1 d2 d3 d4 d5 : Int32} (b0 : 0 ≤ d0.toInt ∧ d0.toInt ≤ 9) (b1 : 0 ≤ d1.toInt ∧ d1.toInt ≤ 9) (b2 : 0 ≤ d2.toInt ∧ d2.toInt ≤ 9) (b3 : 0 ≤ d3.toInt ∧ d3.toInt ≤ 9) (b4 : 0 ≤ d4.toInt ∧ d4.toInt ≤ 9) (b5 : 0 ≤ d5.toInt ∧ d5.toInt ≤ 9) : own_lp [own_b d0, own_b d1, own_b d2, own_b d3, own_b d4, own_b d5] (.int (0 : Int32)) ((4 : Int32).toInt - (0 : Int32).toInt).toNat ((4 : Int32) - (1 : Int32)) (0 : Int32) (2 : Int32) = (((((own_term d0 (0 : Int32) (0 : Int32) (4 : Int32) + own_term d1 (1 : Int32) (0 : Int32) (4 : Int32)) + own_term d2 (2 : Int32) (0 : Int32) (4 : Int32)) + own_term d3 (3 : Int32) (0 : Int32) (4 : Int32)) + own_term d4 (4 : Int32) (0 : Int32) (4 : Int32)) + own_term d5 (5 : Int32) (0 : Int32) (4 : Int32)) := by
  have t0 : own_term d0 (0 : Int32) (0 : Int32) (4 : Int32) = d0 := by unfold own_term; rw [if_neg (by decide), if_pos (by decide), if_neg (by decide)]
  have t1 : own_term d1 (1 : Int32) (0 : Int32) (4 : Int32) = own_T d1 := by unfold own_term; rw [if_neg (by decide), if_pos (by decide), if_pos (by decide)]
  have t2 : own_term d2 (2 : Int32) (0 : Int32) (4 : Int32) = d2 := by unfold own_term; rw [if_neg (by decide), if_pos (by decide), if_neg (by decide)]
  have t3 : own_term d3 (3 : Int32) (0 : Int32) (4 : Int32) = own_T d3 := by unfold own_term; rw [if_neg (by decide), if_pos (by decide), if_pos (by decide)]
  have t4 : own_term d4 (4 : Int32) (0 : Int32) (4 : Int32) = 0 := by unfold own_term; rw [if_neg (by decide), if_neg (by decide)]
  have t5 : own_term d5 (5 : Int32) (0 : Int32) (4 : Int32) = 0 := by unfold own_term; rw [if_neg (by decide), if_neg (by decide)]
  have n : ((4 : Int32).toInt - (0 : Int32).toInt).toNat = 4 := by decide
  have f : (4 : Int32) - (1 : Int32) = (3 : Int32) := by decide
  rw [n, f, t0, t1, t2, t3, t4, t5]
  simp only [own_lp, own_at0 b0, own_at1 b1, own_at2 b2, own_at3 b3, own_st0, own_st1, own_st2, own_st3, own_w1, own_w2, own_c1 b0, own_c2 b1, own_c1 b2, own_c2 b3]
  simp only [Int32.zero_add, Int32.add_zero]
  ac_rfl
theorem own_case05 {d0 d1 d2 d3 d4 d5 : Int32} (b0 : 0 ≤ d0.toInt ∧ d0.toInt ≤ 9) (b1 : 0 ≤ d1.toInt ∧ d1.toInt ≤ 9) (b2 : 0 ≤ d2.toInt ∧ d2.toInt ≤ 9) (b3 : 0 ≤ d3.toInt ∧ d3.toInt ≤ 9) (b4 : 0 ≤ d4.toInt ∧ d4.toInt ≤ 9) (b5 : 0 ≤ d5.toInt ∧ d5.toInt ≤ 9) : own_lp [own_b d0, own_b d1, own_b d2, own_b d3, own_b d4, own_b d5] (.int (0 : Int32)) ((5 : Int32).toInt - (0 : Int32).toInt).toNat ((5 : Int32) - (1 : Int32)) (0 : Int32) (2 : Int32) = (((((own_term d0 (0 : Int32) (0 : Int32) (5 : Int32) + own_term d1 (1 : Int32) (0 : Int32) (5 : Int32)) + own_term d2 (2 : Int32) (0 : Int32) (5 : Int32)) + own_term d3 (3 : Int32) (0 : Int32) (5 : Int32)) + own_term d4 (4 : Int32) (0 : Int32) (5 : Int32)) + own_term d5 (5 : Int32) (0 : Int32) (5 : Int32)) := by
  have t0 : own_term d0 (0 : Int32) (0 : Int32) (5 : Int32) = own_T d0 := by unfold own_term; rw [if_neg (by decide), if_pos (by decide), if_pos (by decide)]
  have t1 : own_term d1 (1 : Int32) (0 : Int32) (5 : Int32) = d1 := by unfold own_term; rw [if_neg (by decide), if_pos (by decide), if_neg (by decide)]
  have t2 : own_term d2 (2 : Int32) (0 : Int32) (5 : Int32) = own_T d2 := by unfold own_term; rw [if_neg (by decide), if_pos (by decide), if_pos (by decide)]
  have t3 : own_term d3 (3 : Int32) (0 : Int32) (5 : Int32) = d3 := by unfold own_term; rw [if_neg (by decide), if_pos (by decide), if_neg (by decide)]
  have t4 : own_term d4 (4 : Int32) (0 : Int32) (5 : Int32) = own_T d4 := by unfold own_term; rw [if_neg (by decide), if_pos (by decide), if_pos (by decide)]
  have t5 : own_term d5 (5 : Int32) (0 : Int32) (5 : Int32) = 0 := by unfold own_term; rw [if_neg (by decide), if_neg (by decide)]
  have n : ((5 : Int32).toInt - (0 : Int32).toInt).toNat = 5 := by decide
  have f : (5 : Int32) - (1 : Int32) = (4 : Int32) := by decide
  rw [n, f, t0, t1, t2, t3, t4, t5]
  simp only [own_lp, own_at0 b0, own_at1 b1, own_at2 b2, own_at3 b3, own_at4 b4, own_st0, own_st1, own_st2, own_st3, own_st4, own_w1, own_w2, own_c2 b0, own_c1 b1, own_c2 b2, own_c1 b3, own_c2 b4]
  simp only [Int32.zero_add, Int32.add_zero]
  ac_rfl
theorem own_case06 {d0 d1 d2 d3 d4 d5 : Int32} (b0 : 0 ≤ d0.toInt ∧ d0.toInt ≤ 9) (b1 : 0 ≤ d1.toInt ∧ d1.toInt ≤ 9) (b2 : 0 ≤ d2.toInt ∧ d2.toInt ≤ 9) (b3 : 0 ≤ d3.toInt ∧ d3.toInt ≤ 9) (b4 : 0 ≤ d4.toInt ∧ d4.toInt ≤ 9) (b5 : 0 ≤ d5.toInt ∧ d5.toInt ≤ 9) : own_lp [own_b d0, own_b d1, own_b d2, own_b d3, own_b d4, own_b d5] (.int (0 : Int32)) ((6 : Int32).toInt - (0 : Int32).toInt).toNat ((6 : Int32) - (1 : Int32)) (0 : Int32) (2 : Int32) = (((((own_term d0 (0 : Int32) (0 : Int32) (6 : Int32) + own_term d1 (1 : Int32) (0 : Int32) (6 : Int32)) + own_term d2 (2 : Int32) (0 : Int32) (6 : Int32)) + own_term d3 (3 : Int32) (0 : Int32) (6 : Int32)) + own_term d4 (4 : Int32) (0 : Int32) (6 : Int32)) + own_term d5 (5 : Int32) (0 : Int32) (6 : Int32)) := by
  have t0 : own_term d0 (0 : Int32) (0 : Int32) (6 : Int32) = d0 := by unfold own_term; rw [if_neg (by decide), if_pos (by decide), if_neg (by decide)]
  have t1 : own_term d1 (1 : Int32) (0 : Int32) (6 : Int32) = own_T d1 := by unfold own_term; rw [if_neg (by decide), if_pos (by decide), if_pos (by decide)]
  have t2 : own_term d2 (2 : Int32) (0 : Int32) (6 : Int32) = d2 := by unfold own_term; rw [if_neg (by decide), if_pos (by decide), if_neg (by decide)]
  have t3 : own_term d3 (3 : Int32) (0 : Int32) (6 : Int32) = own_T d3 := by unfold own_term; rw [if_neg (by decide), if_pos (by decide), if_pos (by decide)]
  have t4 : own_term d4 (4 : Int32) (0 : Int32) (6 : Int32) = d4 := by unfold own_term; rw [if_neg (by decide), if_pos (by decide), if_neg (by decide)]
  have t5 : own_term d5 (5 : Int32) (0 : Int32) (6 : Int32) = own_T d5 := by unfold own_term; rw [if_neg (by decide), if_pos (by decide), if_pos (by decide)]
  have n : ((6 : Int32).toInt - (0 : Int32).toInt).toNat = 6 := by decide
  have f : (6 : Int32) - (1 : Int32) = (5 : Int32) := by decide
  rw [n, f, t0, t1, t2, t3, t4, t5]
  simp only [own_lp, own_at0 b0, own_at1 b1, own_at2 b2, own_at3 b3, own_at4 b4, own_at5 b5, own_st0, own_st1, own_st2, own_st3, own_st4, own_st5, own_w1, own_w2, own_c1 b0, own_c2 b1, own_c1 b2, own_c2 b3, own_c1 b4, own_c2 b5]
  simp only [Int32.zero_add, Int32.add_zero]
  ac_rfl
theorem own_case11 {d0 d1 d2 d3 d4 d5 : Int32} (b0 : 0 ≤ d0.toInt ∧ d0.toInt ≤ 9) (b1 : 0 ≤ d1.toInt ∧ d1.toInt ≤ 9) (b2 : 0 ≤ d2.toInt ∧ d2.toInt ≤ 9) (b3 : 0 ≤ d3.toInt ∧ d3.toInt ≤ 9) (b4 : 0 ≤ d4.toInt ∧ d4.toInt ≤ 9) (b5 : 0 ≤ d5.toInt ∧ d5.toInt ≤ 9) : own_lp [own_b d0, own_b d1, own_b d2, own_b d3, own_b d4, own_b d5] (.int (0 : Int32)) ((1 : Int32).toInt - (1 : Int32).toInt).toNat ((1 : Int32) - (1 : Int32)) (0 : Int32) (2 : Int32) = (((((own_term d0 (0 : Int32) (1 : Int32) (1 : Int32) + own_term d1 (1 : Int32) (1 : Int32) (1 : Int32)) + own_term d2 (2 : Int32) (1 : Int32) (1 : Int32)) + own_term d3 (3 : Int32) (1 : Int32) (1 : Int32)) + own_term d4 (4 : Int32) (1 : Int32) (1 : Int32)) + own_term d5 (5 : Int32) (1 : Int32) (1 : Int32)) := by
  have t0 : own_term d0 (0 : Int32) (1 : Int32) (1 : Int32) = 0 := by unfold own_term; rw [if_pos (by decide)]
  have t1 : own_term d1 (1 : Int32) (1 : Int32) (1 : Int32) = 0 := by unfold own_term; rw [if_neg (by decide), if_neg (by decide)]
  have t2 : own_term d2 (2 : Int32) (1 : Int32) (1 : Int32) = 0 := by unfold own_term; rw [if_neg (by decide), if_neg (by decide)]
  have t3 : own_term d3 (3 : Int32) (1 : Int32) (1 : Int32) = 0 := by unfold own_term; rw [if_neg (by decide), if_neg (by decide)]
  have t4 : own_term d4 (4 : Int32) (1 : Int32) (1 : Int32) = 0 := by unfold own_term; rw [if_neg (by decide), if_neg (by decide)]
  have t5 : own_term d5 (5 : Int32) (1 : Int32) (1 : Int32) = 0 := by unfold own_term; rw [if_neg (by decide), if_neg (by decide)]
  have n : ((1 : Int32).toInt - (1 : Int32).toInt).toNat = 0 := by decide
  have f : (1 : Int32) - (1 : Int32) = (0 : Int32) := by decide
  rw [n, f, t0, t1, t2, t3, t4, t5]
  simp only [own_lp]
  decide
theorem own_case12 {d0 d1 d2 d3 d4 d5 : Int32} (b0 : 0 ≤ d0.toInt ∧ d0.toInt ≤ 9) (b1 : 0 ≤ d1.toInt ∧ d1.toInt ≤ 9) (b2 : 0 ≤ d2.toInt ∧ d2.toInt ≤ 9) (b3 : 0 ≤ d3.toInt ∧ d3.toInt ≤ 9) (b4 : 0 ≤ d4.toInt ∧ d4.toInt ≤ 9) (b5 : 0 ≤ d5.toInt ∧ d5.toInt ≤ 9) : own_lp [own_b d0, own_b d1, own_b d2, own_b d3, own_b d4, own_b d5] (.int (0 : Int32)) ((2 : Int32).toInt - (1 : Int32).toInt).toNat ((2 : Int32) - (1 : Int32)) (0 : Int32) (2 : Int32) = (((((own_term d0 (0 : Int32) (1 : Int32) (2 : Int32) + own_term d1 (1 : Int32) (1 : Int32) (2 : Int32)) + own_term d2 (2 : Int32) (1 : Int32) (2 : Int32)) + own_term d3 (3 : Int32) (1 : Int32) (2 : Int32)) + own_term d4 (4 : Int32) (1 : Int32) (2 : Int32)) + own_term d5 (5 : Int32) (1 : Int32) (2 : Int32)) := by
  have t0 : own_term d0 (0 : Int32) (1 : Int32) (2 : Int32) = 0 := by unfold own_term; rw [if_pos (by decide)]
  have t1 : own_term d1 (1 : Int32) (1 : Int32) (2 : Int32) = own_T d1 := by unfold own_term; rw [if_neg (by decide), if_pos (by decide), if_pos (by decide)]
  have t2 : own_term d2 (2 : Int32) (1 : Int32) (2 : Int32) = 0 := by unfold own_term; rw [if_neg (by decide), if_neg (by decide)]
  have t3 : own_term d3 (3 : Int32) (1 : Int32) (2 : Int32) = 0 := by unfold own_term; rw [if_neg (by decide), if_neg (by decide)]
  have t4 : own_term d4 (4 : Int32) (1 : Int32) (2 : Int32) = 0 := by unfold own_term; rw [if_neg (by decide), if_neg (by decide)]
  have t5 : own_term d5 (5 : Int32) (1 : Int32) (2 : Int32) = 0 := by unfold own_term; rw [if_neg (by decide), if_neg (by decide)]
  have n : ((2 : Int32).toInt - (1 : Int32).toInt).toNat = 1 := by decide
  have f : (2 : Int32) - (1 : Int32) = (1 : Int32) := by decide
  rw [n, f, t0, t1, t2, t3, t4, t5]
  simp only [own_lp, own_at1 b1, own_st1, own_w1, own_w2, own_c2 b1]
  simp only [Int32.zero_add, Int32.add_zero]
theorem own_case13 {d0 d1 d2 d3 d4 d5 : Int32} (b0 : 0 ≤ d0.toInt ∧ d0.toInt ≤ 9) (b1 : 0 ≤ d1.toInt ∧ d1.toInt ≤ 9) (b2 : 0 ≤ d2.toInt ∧ d2.toInt ≤ 9) (b3 : 0 ≤ d3.toInt ∧ d3.toInt ≤ 9) (b4 : 0 ≤ d4.toInt ∧ d4.toInt ≤ 9) (b5 : 0 ≤ d5.toInt ∧ d5.toInt ≤ 9) : own_lp [own_b d0, own_b d1, own_b d2, own_b d3, own_b d4, own_b d5] (.int (0 : Int32)) ((3 : Int32).toInt - (1 : Int32).toInt).toNat ((3 : Int32) - (1 : Int32)) (0 : Int32) (2 : Int32) = (((((own_term d0 (0 : Int32) (1 : Int32) (3 : Int32) + own_term d1 (1 : Int32) (1 : Int32) (3 : Int32)) + own_term d2 (2 : Int32) (1 : Int32) (3 : Int32)) + own_term d3 (3 : Int32) (1 : Int32) (3 : Int32)) + own_term d4 (4 : Int32) (1 : Int32) (3 : Int32)) + own_term d5 (5 : Int32) (1 : Int32) (3 : Int32)) := by
  have t0 : own_term d0 (0 : Int32) (1 : Int32) (3 : Int32) = 0 := by unfold own_term; rw [if_pos (by decide)]
  have t1 : own_term d1 (1 : Int32) (1 : Int32) (3 : Int32) = d1 := by unfold own_term; rw [if_neg (by decide), if_pos (by decide), if_neg (by decide)]
  have t2 : own_term d2 (2 : Int32) (1 : Int32) (3 : Int32) = own_T d2 := by unfold own_term; rw [if_neg (by decide), if_pos (by decide), if_pos (by decide)]
  have t3 : own_term d3 (3 : Int32) (1 : Int32) (3 : Int32) = 0 := by unfold own_term; rw [if_neg (by decide), if_neg (by decide)]
  have t4 : own_term d4 (4 : Int32) (1 : Int32) (3 : Int32) = 0 := by unfold own_term; rw [if_neg (by decide), if_neg (by decide)]
  have t5 : own_term d5 (5 : Int32) (1 : Int32) (3 : Int32) = 0 := by unfold own_term; rw [if_neg (by decide), if_neg (by decide)]
  have n : ((3 : Int32).toInt - (1 : Int32).toInt).toNat = 2 := by decide
  have f : (3 : Int32) - (1 : Int32) = (2 : Int32) := by decide
  rw [n, f, t0, t1, t2, t3, t4, t5]
  simp only [own_lp, own_at1 b1, own_at2 b2, own_st1, own_st2, own_w1, own_w2, own_c1 b1, own_c2 b2]
  simp only [Int32.zero_add, Int32.add_zero]
  ac_rfl
theorem own_case14 {d0 d1 d2 d3 d4 d5 : Int32} (b0 : 0 ≤ d0.toInt ∧ d0.toInt ≤ 9) (b1 : 0 ≤ d1.toInt ∧ d1.toInt ≤ 9) (b2 : 0 ≤ d2.toInt ∧ d2.toInt ≤ 9) (b3 : 0 ≤ d3.toInt ∧ d3.toInt ≤ 9) (b4 : 0 ≤ d4.toInt ∧ d4.toInt ≤ 9) (b5 : 0 ≤ d5.toInt ∧ d5.toInt ≤ 9) : own_lp [own_b d0, own_b d1, own_b d2, own_b d3, own_b d4, own_b d5] (.int (0 : Int32)) ((4 : Int32).toInt - (1 : Int32).toInt).toNat ((4 : Int32) - (1 : Int32)) (0 : Int32) (2 : Int32) = (((((own_term d0 (0 : Int32) (1 : Int32) (4 : Int32) + own_term d1 (1 : Int32) (1 : Int32) (4 : Int32)) + own_term d2 (2 : Int32) (1 : Int32) (4 : Int32)) + own_term d3 (3 : Int32) (1 : Int32) (4 : Int32)) + own_term d4 (4 : Int32) (1 : Int32) (4 : Int32)) + own_term d5 (5 : Int32) (1 : Int32) (4 : Int32)) := by
  have t0 : own_term d0 (0 : Int32) (1 : Int32) (4 : Int32) = 0 := by unfold own_term; rw [if_pos (by decide)]
  have t1 : own_term d1 (1 : Int32) (1 : Int32) (4 : Int32) = own_T d1 := by unfold own_term; rw [if_neg (by decide), if_pos (by decide), if_pos (by decide)]
  have t2 : own_term d2 (2 : Int32) (1 : Int32) (4 : Int32) = d2 := by unfold own_term; rw [if_neg (by decide), if_pos (by decide), if_neg (by decide)]
  have t3 : own_term d3 (3 : Int32) (1 : Int32) (4 : Int32) = own_T d3 := by unfold own_term; rw [if_neg (by decide), if_pos (by decide), if_pos (by decide)]
  have t4 : own_term d4 (4 : Int32) (1 : Int32) (4 : Int32) = 0 := by unfold own_term; rw [if_neg (by decide), if_neg (by decide)]
  have t5 : own_term d5 (5 : Int32) (1 : Int32) (4 : Int32) = 0 := by unfold own_term; rw [if_neg (by decide), if_neg (by decide)]
  have n : ((4 : Int32).toInt - (1 : Int32).toInt).toNat = 3 := by decide
  have f : (4 : Int32) - (1 : Int32) = (3 : Int32) := by decide
  rw [n, f, t0, t1, t2, t3, t4, t5]
  simp only [own_lp, own_at1 b1, own_at2 b2, own_at3 b3, own_st1, own_st2, own_st3, own_w1, own_w2, own_c2 b1, own_c1 b2, own_c2 b3]
  simp only [Int32.zero_add, Int32.add_zero]
  ac_rfl
theorem own_case15 {d0 d1 d2 d3 d4 d5 : Int32} (b0 : 0 ≤ d0.toInt ∧ d0.toInt ≤ 9) (b1 : 0 ≤ d1.toInt ∧ d1.toInt ≤ 9) (b2 : 0 ≤ d2.toInt ∧ d2.toInt ≤ 9) (b3 : 0 ≤ d3.toInt ∧ d3.toInt ≤ 9) (b4 : 0 ≤ d4.toInt ∧ d4.toInt ≤ 9) (b5 : 0 ≤ d5.toInt ∧ d5.toInt ≤ 9) : own_lp [own_b d0, own_b d1, own_b d2, own_b d3, own_b d4, own_b d5] (.int (0 : Int32)) ((5 : Int32).toInt - (1 : Int32).toInt).toNat ((5 : Int32) - (1 : Int32)) (0 : Int32) (2 : Int32) = (((((own_term d0 (0 : Int32) (1 : Int32) (5 : Int32) + own_term d1 (1 : Int32) (1 : Int32) (5 : Int32)) + own_term d2 (2 : Int32) (1 : Int32) (5 : Int32)) + own_term d3 (3 : Int32) (1 : Int32) (5 : Int32)) + own_term d4 (4 : Int32) (1 : Int32) (5 : Int32)) + own_term d5 (5 : Int32) (1 : Int32) (5 : Int32)) := by
  have t0 : own_term d0 (0 : Int32) (1 : Int32) (5 : Int32) = 0 := by unfold own_term; rw [if_pos (by decide)]
  have t1 : own_term d1 (1 : Int32) (1 : Int32) (5 : Int32) = d1 := by unfold own_term; rw [if_neg (by decide), if_pos (by decide), if_neg (by decide)]
  have t2 : own_term d2 (2 : Int32) (1 : Int32) (5 : Int32) = own_T d2 := by unfold own_term; rw [if_neg (by decide), if_pos (by decide), if_pos (by decide)]
  have t3 : own_term d3 (3 : Int32) (1 : Int32) (5 : Int32) = d3 := by unfold own_term; rw [if_neg (by decide), if_pos (by decide), if_neg (by decide)]
  have t4 : own_term d4 (4 : Int32) (1 : Int32) (5 : Int32) = own_T d4 := by unfold own_term; rw [if_neg (by decide), if_pos (by decide), if_pos (by decide)]
  have t5 : own_term d5 (5 : Int32) (1 : Int32) (5 : Int32) = 0 := by unfold own_term; rw [if_neg (by decide), if_neg (by decide)]
  have n : ((5 : Int32).toInt - (1 : Int32).toInt).toNat = 4 := by decide
  have f : (5 : Int32) - (1 : Int32) = (4 : Int32) := by decide
  rw [n, f, t0, t1, t2, t3, t4, t5]
  simp only [own_lp, own_at1 b1, own_at2 b2, own_at3 b3, own_at4 b4, own_st1, own_st2, own_st3, own_st4, own_w1, own_w2, own_c1 b1, own_c2 b2, own_c1 b3, own_c2 b4]
  simp only [Int32.zero_add, Int32.add_zero]
  ac_rfl
theorem own_case16 {d0 d1 d2 d3 d4 d5 : Int32} (b0 : 0 ≤ d0.toInt ∧ d0.toInt ≤ 9) (b1 : 0 ≤ d1.toInt ∧ d1.toInt ≤ 9) (b2 : 0 ≤ d2.toInt ∧ d2.toInt ≤ 9) (b3 : 0 ≤ d3.toInt ∧ d3.toInt ≤ 9) (b4 : 0 ≤ d4.toInt ∧ d4.toInt ≤ 9) (b5 : 0 ≤ d5.toInt ∧ d5.toInt ≤ 9) : own_lp [own_b d0, own_b d1, own_b d2, own_b d3, own_b d4, own_b d5] (.int (0 : Int32)) ((6 : Int32).toInt - (1 : Int32).toInt).toNat ((6 : Int32) - (1 : Int32)) (0 : Int32) (2 : Int32) = (((((own_term d0 (0 : Int32) (1 : Int32) (6 : Int32) + own_term d1 (1 : Int32) (1 : Int32) (6 : Int32)) + own_term d2 (2 : Int32) (1 : Int32) (6 : Int32)) + own_term d3 (3 : Int32) (1 : Int32) (6 : Int32)) + own_term d4 (4 : Int32) (1 : Int32) (6 : Int32)) + own_term d5 (5 : Int32) (1 : Int32) (6 : Int32)) := by
  have t0 : own_term d0 (0 : Int32) (1 : Int32) (6 : Int32) = 0 := by unfold own_term; rw [if_pos (by decide)]
  have t1 : own_term d1 (1 : Int32) (1 : Int32) (6 : Int32) = own_T d1 := by unfold own_term; rw [if_neg (by decide), if_pos (by decide), if_pos (by decide)]
  have t2 : own_term d2 (2 : Int32) (1 : Int32) (6 : Int32) = d2 := by unfold own_term; rw [if_neg (by decide), if_pos (by decide), if_neg (by decide)]
  have t3 : own_term d3 (3 : Int32) (1 : Int32) (6 : Int32) = own_T d3 := by unfold own_term; rw [if_neg (by decide), if_pos (by decide), if_pos (by decide)]
  have t4 : own_term d4 (4 : Int32) (1 : Int32) (6 : Int32) = d4 := by unfold own_term; rw [if_neg (by decide), if_pos (by decide), if_neg (by decide)]
  have t5 : own_term d5 (5 : Int32) (1 : Int32) (6 : Int32) = own_T d5 := by unfold own_term; rw [if_neg (by decide), if_pos (by decide), if_pos (by decide)]
  have n : ((6 : Int32).toInt - (1 : Int32).toInt).toNat = 5 := by decide
  have f : (6 : Int32) - (1 : Int32) = (5 : Int32) := by decide
  rw [n, f, t0, t1, t2, t3, t4, t5]
  simp only [own_lp, own_at1 b1, own_at2 b2, own_at3 b3, own_at4 b4, own_at5 b5, own_st1, own_st2, own_st3, own_st4, own_st5, own_w1, own_w2, own_c2 b1, own_c1 b2, own_c2 b3, own_c1 b4, own_c2 b5]
  simp only [Int32.zero_add, Int32.add_zero]
  ac_rfl
theorem own_case22 {d0 d1 d2 d3 d4 d5 : Int32} (b0 : 0 ≤ d0.toInt ∧ d0.toInt ≤ 9) (b1 : 0 ≤ d1.toInt ∧ d1.toInt ≤ 9) (b2 : 0 ≤ d2.toInt ∧ d2.toInt ≤ 9) (b3 : 0 ≤ d3.toInt ∧ d3.toInt ≤ 9) (b4 : 0 ≤ d4.toInt ∧ d4.toInt ≤ 9) (b5 : 0 ≤ d5.toInt ∧ d5.toInt ≤ 9) : own_lp [own_b d0, own_b d1, own_b d2, own_b d3, own_b d4, own_b d5] (.int (0 : Int32)) ((2 : Int32).toInt - (2 : Int32).toInt).toNat ((2 : Int32) - (1 : Int32)) (0 : Int32) (2 : Int32) = (((((own_term d0 (0 : Int32) (2 : Int32) (2 : Int32) + own_term d1 (1 : Int32) (2 : Int32) (2 : Int32)) + own_term d2 (2 : Int32) (2 : Int32) (2 : Int32)) + own_term d3 (3 : Int32) (2 : Int32) (2 : Int32)) + own_term d4 (4 : Int32) (2 : Int32) (2 : Int32)) + own_term d5 (5 : Int32) (2 : Int32) (2 : Int32)) := by
  have t0 : own_term d0 (0 : Int32) (2 : Int32) (2 : Int32) = 0 := by unfold own_term; rw [if_pos (by decide)]
  have t1 : own_term d1 (1 : Int32) (2 : Int32) (2 : Int32) = 0 := by unfold own_term; rw [if_pos (by decide)]
  have t2 : own_term d2 (2 : Int32) (2 : Int32) (2 : Int32) = 0 := by unfold own_term; rw [if_neg (by decide), if_neg (by decide)]
  have t3 : own_term d3 (3 : Int32) (2 : Int32) (2 : Int32) = 0 := by unfold own_term; rw [if_neg (by decide), if_neg (by decide)]
  have t4 : own_term d4 (4 : Int32) (2 : Int32) (2 : Int32) = 0 := by unfold own_term; rw [if_neg (by decide), if_neg (by decide)]
  have t5 : own_term d5 (5 : Int32) (2 : Int32) (2 : Int32) = 0 := by unfold own_term; rw [if_neg (by decide), if_neg (by decide)]
  have n : ((2 : Int32).toInt - (2 : Int32).toInt).toNat = 0 := by decide
  have f : (2 : Int32) - (1 : Int32) = (1 : Int32) := by decide
  rw [n, f, t0, t1, t2, t3, t4, t5]
  simp only [own_lp]
  decide
theorem own_case23 {d0 d1 d2 d3 d4 d5 : Int32} (b0 : 0 ≤ d0.toInt ∧ d0.toInt ≤ 9) (b1 : 0 ≤ d1.toInt ∧ d1.toInt ≤ 9) (b2 : 0 ≤ d2.toInt ∧ d2.toInt ≤ 9) (b3 : 0 ≤ d3.toInt ∧ d3.toInt ≤ 9) (b4 : 0 ≤ d4.toInt ∧ d4.toInt ≤ 9) (b5 : 0 ≤ d5.toInt ∧ d5.toInt ≤ 9) : own_lp [own_b d0, own_b d1, own_b d2, own_b d3, own_b d4, own_b d5] (.int (0 : Int32)) ((3 : Int32).toInt - (2 : Int32).toInt).toNat ((3 : Int32) - (1 : Int32)) (0 : Int32) (2 : Int32) = (((((own_term d0 (0 : Int32) (2 : Int32) (3 : Int32) + own_term d1 (1 : Int32) (2 : Int32) (3 : Int32)) + own_term d2 (2 : Int32) (2 : Int32) (3 : Int32)) + own_term d3 (3 : Int32) (2 : Int32) (3 : Int32)) + own_term d4 (4 : Int32) (2 : Int32) (3 : Int32)) + own_term d5 (5 : Int32) (2 : Int32) (3 : Int32)) := by
  have t0 : own_term d0 (0 : Int32) (2 : Int32) (3 : Int32) = 0 := by unfold own_term; rw [if_pos (by decide)]
  have t1 : own_term d1 (1 : Int32) (2 : Int32) (3 : Int32) = 0 := by unfold own_term; rw [if_pos (by decide)]
  have t2 : own_term d2 (2 : Int32) (2 : Int32) (3 : Int32) = own_T d2 := by unfold own_term; rw [if_neg (by decide), if_pos (by decide), if_pos (by decide)]
  have t3 : own_term d3 (3 : Int32) (2 : Int32) (3 : Int32) = 0 := by unfold own_term; rw [if_neg (by decide), if_neg (by decide)]
  have t4 : own_term d4 (4 : Int32) (2 : Int32) (3 : Int32) = 0 := by unfold own_term; rw [if_neg (by decide), if_neg (by decide)]
  have t5 : own_term d5 (5 : Int32) (2 : Int32) (3 : Int32) = 0 := by unfold own_term; rw [if_neg (by decide), if_neg (by decide)]
  have n : ((3 : Int32).toInt - (2 : Int32).toInt).toNat = 1 := by decide
  have f : (3 : Int32) - (1 : Int32) = (2 : Int32) := by decide
  rw [n, f, t0, t1, t2, t3, t4, t5]
  simp only [own_lp, own_at2 b2, own_st2, own_w1, own_w2, own_c2 b2]
  simp only [Int32.zero_add, Int32.add_zero]
theorem own_case24 {d0 d1 d2 d3 d4 d5 : Int32} (b0 : 0 ≤ d0.toInt ∧ d0.toInt ≤ 9) (b1 : 0 ≤ d1.toInt ∧ d1.toInt ≤ 9) (b2 : 0 ≤ d2.toInt ∧ d2.toInt ≤ 9) (b3 : 0 ≤ d3.toInt ∧ d3.toInt ≤ 9) (b4 : 0 ≤ d4.toInt ∧ d4.toInt ≤ 9) (b5 : 0 ≤ d5.toInt ∧ d5.toInt ≤ 9) : own_lp [own_b d0, own_b d1, own_b d2, own_b d3, own_b d4, own_b d5] (.int (0 : Int32)) ((4 : Int32).toInt - (2 : Int32).toInt).toNat ((4 : Int32) - (1 : Int32)) (0 : Int32) (2 : Int32) = (((((own_term d0 (0 : Int32) (2 : Int32) (4 : Int32) + own_term d1 (1 : Int32) (2 : Int32) (4 : Int32)) + own_term d2 (2 : Int32) (2 : Int32) (4 : Int32)) + own_term d3 (3 : Int32) (2 : Int32) (4 : Int32)) + own_term d4 (4 : Int32) (2 : Int32) (4 : Int32)) + own_term d5 (5 : Int32) (2 : Int32) (4 : Int32)) := by
  have t0 : own_term d0 (0 : Int32) (2 : Int32) (4 : Int32) = 0 := by unfold own_term; rw [if_pos (by decide)]
  have t1 : own_term d1 (1 : Int32) (2 : Int32) (4 : Int32) = 0 := by unfold own_term; rw [if_pos (by decide)]
  have t2 : own_term d2 (2 : Int32) (2 : Int32) (4 : Int32) = d2 := by unfold own_term; rw [if_neg (by decide), if_pos (by decide), if_neg (by decide)]
  have t3 : own_term d3 (3 : Int32) (2 : Int32) (4 : Int32) = own_T d3 := by unfold own_term; rw [if_neg (by decide), if_pos (by decide), if_pos (by decide)]
  have t4 : own_term d4 (4 : Int32) (2 : Int32) (4 : Int32) = 0 := by unfold own_term; rw [if_neg (by decide), if_neg (by decide)]
  have t5 : own_term d5 (5 : Int32) (2 : Int32) (4 : Int32) = 0 := by unfold own_term; rw [if_neg (by decide), if_neg (by decide)]
  have n : ((4 : Int32).toInt - (2 : Int32).toInt).toNat = 2 := by decide
  have f : (4 : Int32) - (1 : Int32) = (3 : Int32) := by decide
  rw [n, f, t0, t1, t2, t3, t4, t5]
  simp only [own_lp, own_at2 b2, own_at3 b3, own_st2, own_st3, own_w1, own_w2, own_c1 b2, own_c2 b3]
  simp only [Int32.zero_add, Int32.add_zero]
  ac_rfl
theorem own_case25 {d0 d1 d2 d3 d4 d5 : Int32} (b0 : 0 ≤ d0.toInt ∧ d0.toInt ≤ 9) (b1 : 0 ≤ d1.toInt ∧ d1.toInt ≤ 9) (b2 : 0 ≤ d2.toInt ∧ d2.toInt ≤ 9) (b3 : 0 ≤ d3.toInt ∧ d3.toInt ≤ 9) (b4 : 0 ≤ d4.toInt ∧ d4.toInt ≤ 9) (b5 : 0 ≤ d5.toInt ∧ d5.toInt ≤ 9) : own_lp [own_b d0, own_b d1, own_b d2, own_b d3, own_b d4, own_b d5] (.int (0 : Int32)) ((5 : Int32).toInt - (2 : Int32).toInt).toNat ((5 : Int32) - (1 : Int32)) (0 : Int32) (2 : Int32) = (((((own_term d0 (0 : Int32) (2 : Int32) (5 : Int32) + own_term d1 (1 : Int32) (2 : Int32) (5 : Int32)) + own_term d2 (2 : Int32) (2 : Int32) (5 : Int32)) + own_term d3 (3 : Int32) (2 : Int32) (5 : Int32)) + own_term d4 (4 : Int32) (2 : Int32) (5 : Int32)) + own_term d5 (5 : Int32) (2 : Int32) (5 : Int32)) := by
  have t0 : own_term d0 (0 : Int32) (2 : Int32) (5 : Int32) = 0 := by unfold own_term; rw [if_pos (by decide)]
  have t1 : own_term d1 (1 : Int32) (2 : Int32) (5 : Int32) = 0 := by unfold own_term; rw [if_pos (by decide)]
  have t2 : own_term d2 (2 : Int32) (2 : Int32) (5 : Int32) = own_T d2 := by unfold own_term; rw [if_neg (by decide), if_pos (by decide), if_pos (by decide)]
  have t3 : own_term d3 (3 : Int32) (2 : Int32) (5 : Int32) = d3 := by unfold own_term; rw [if_neg (by decide), if_pos (by decide), if_neg (by decide)]
  have t4 : own_term d4 (4 : Int32) (2 : Int32) (5 : Int32) = own_T d4 := by unfold own_term; rw [if_neg (by decide), if_pos (by decide), if_pos (by decide)]
  have t5 : own_term d5 (5 : Int32) (2 : Int32) (5 : Int32) = 0 := by unfold own_term; rw [if_neg (by decide), if_neg (by decide)]
  have n : ((5 : Int32).toInt - (2 : Int32).toInt).toNat = 3 := by decide
  have f : (5 : Int32) - (1 : Int32) = (4 : Int32) := by decide
  rw [n, f, t0, t1, t2, t3, t4, t5]
  simp only [own_lp, own_at2 b2, own_at3 b3, own_at4 b4, own_st2, own_st3, own_st4, own_w1, own_w2, own_c2 b2, own_c1 b3, own_c2 b4]
  simp only [Int32.zero_add, Int32.add_zero]
  ac_rfl
theorem own_case26 {d0 d1 d2 d3 d4 d5 : Int32} (b0 : 0 ≤ d0.toInt ∧ d0.toInt ≤ 9) (b1 : 0 ≤ d1.toInt ∧ d1.toInt ≤ 9) (b2 : 0 ≤ d2.toInt ∧ d2.toInt ≤ 9) (b3 : 0 ≤ d3.toInt ∧ d3.toInt ≤ 9) (b4 : 0 ≤ d4.toInt ∧ d4.toInt ≤ 9) (b5 : 0 ≤ d5.toInt ∧ d5.toInt ≤ 9) : own_lp [own_b d0, own_b d1, own_b d2, own_b d3, own_b d4, own_b d5] (.int (0 : Int32)) ((6 : Int32).toInt - (2 : Int32).toInt).toNat ((6 : Int32) - (1 : Int32)) (0 : Int32) (2 : Int32) = (((((own_term d0 (0 : Int32) (2 : Int32) (6 : Int32) + own_term d1 (1 : Int32) (2 : Int32) (6 : Int32)) + own_term d2 (2 : Int32) (2 : Int32) (6 : Int32)) + own_term d3 (3 : Int32) (2 : Int32) (6 : Int32)) + own_term d4 (4 : Int32) (2 : Int32) (6 : Int32)) + own_term d5 (5 : Int32) (2 : Int32) (6 : Int32)) := by
  have t0 : own_term d0 (0 : Int32) (2 : Int32) (6 : Int32) = 0 := by unfold own_term; rw [if_pos (by decide)]
  have t1 : own_term d1 (1 : Int32) (2 : Int32) (6 : Int32) = 0 := by unfold own_term; rw [if_pos (by decide)]
  have t2 : own_term d2 (2 : Int32) (2 : Int32) (6 : Int32) = d2 := by unfold own_term; rw [if_neg (by decide), if_pos (by decide), if_neg (by decide)]
  have t3 : own_term d3 (3 : Int32) (2 : Int32) (6 : Int32) = own_T d3 := by unfold own_term; rw [if_neg (by decide), if_pos (by decide), if_pos (by decide)]
  have t4 : own_term d4 (4 : Int32) (2 : Int32) (6 : Int32) = d4 := by unfold own_term; rw [if_neg (by decide), if_pos (by decide), if_neg (by decide)]
  have t5 : own_term d5 (5 : Int32) (2 : Int32) (6 : Int32) = own_T d5 := by unfold own_term; rw [if_neg (by decide), if_pos (by decide), if_pos (by decide)]
  have n : ((6 : Int32).toInt - (2 : Int32).toInt).toNat = 4 := by decide
  have f : (6 : Int32) - (1 : Int32) = (5 : Int32) := by decide
  rw [n, f, t0, t1, t2, t3, t4, t5]
  simp only [own_lp, own_at2 b2, own_at3 b3, own_at4 b4, own_at5 b5, own_st2, own_st3, own_st4, own_st5, own_w1, own_w2, own_c1 b2, own_c2 b3, own_c1 b4, own_c2 b5]
  simp only [Int32.zero_add, Int32.add_zero]
  ac_rfl
theorem own_case33 {d0 d1 d2 d3 d4 d5 : Int32} (b0 : 0 ≤ d0.toInt ∧ d0.toInt ≤ 9) (b1 : 0 ≤ d1.toInt ∧ d1.toInt ≤ 9) (b2 : 0 ≤ d2.toInt ∧ d2.toInt ≤ 9) (b3 : 0 ≤ d3.toInt ∧ d3.toInt ≤ 9) (b4 : 0 ≤ d4.toInt ∧ d4.toInt ≤ 9) (b5 : 0 ≤ d5.toInt ∧ d5.toInt ≤ 9) : own_lp [own_b d0, own_b d1, own_b d2, own_b d3, own_b d4, own_b d5] (.int (0 : Int32)) ((3 : Int32).toInt - (3 : Int32).toInt).toNat ((3 : Int32) - (1 : Int32)) (0 : Int32) (2 : Int32) = (((((own_term d0 (0 : Int32) (3 : Int32) (3 : Int32) + own_term d1 (1 : Int32) (3 : Int32) (3 : Int32)) + own_term d2 (2 : Int32) (3 : Int32) (3 : Int32)) + own_term d3 (3 : Int32) (3 : Int32) (3 : Int32)) + own_term d4 (4 : Int32) (3 : Int32) (3 : Int32)) + own_term d5 (5 : Int32) (3 : Int32) (3 : Int32)) := by
  have t0 : own_term d0 (0 : Int32) (3 : Int32) (3 : Int32) = 0 := by unfold own_term; rw [if_pos (by decide)]
  have t1 : own_term d1 (1 : Int32) (3 : Int32) (3 : Int32) = 0 := by unfold own_term; rw [if_pos (by decide)]
  have t2 : own_term d2 (2 : Int32) (3 : Int32) (3 : Int32) = 0 := by unfold own_term; rw [if_pos (by decide)]
  have t3 : own_term d3 (3 : Int32) (3 : Int32) (3 : Int32) = 0 := by unfold own_term; rw [if_neg (by decide), if_neg (by decide)]
  have t4 : own_term d4 (4 : Int32) (3 : Int32) (3 : Int32) = 0 := by unfold own_term; rw [if_neg (by decide), if_neg (by decide)]
  have t5 : own_term d5 (5 : Int32) (3 : Int32) (3 : Int32) = 0 := by unfold own_term; rw [if_neg (by decide), if_neg (by decide)]
  have n : ((3 : Int32).toInt - (3 : Int32).toInt).toNat = 0 := by decide
  have f : (3 : Int32) - (1 : Int32) = (2 : Int32) := by decide
  rw [n, f, t0, t1, t2, t3, t4, t5]
  simp only [own_lp]
  decide
theorem own_case34 {d0 d1 d2 d3 d4 d5 : Int32} (b0 : 0 ≤ d0.toInt ∧ d0.toInt ≤ 9) (b1 : 0 ≤ d1.toInt ∧ d1.toInt ≤ 9) (b2 : 0 ≤ d2.toInt ∧ d2.toInt ≤ 9) (b3 : 0 ≤ d3.toInt ∧ d3.toInt ≤ 9) (b4 : 0 ≤ d4.toInt ∧ d4.toInt ≤ 9) (b5 : 0 ≤ d5.toInt ∧ d5.toInt ≤ 9) : own_lp [own_b d0, own_b d1, own_b d2, own_b d3, own_b d4, own_b d5] (.int (0 : Int32)) ((4 : Int32).toInt - (3 : Int32).toInt).toNat ((4 : Int32) - (1 : Int32)) (0 : Int32) (2 : Int32) = (((((own_term d0 (0 : Int32) (3 : Int32) (4 : Int32) + own_term d1 (1 : Int32) (3 : Int32) (4 : Int32)) + own_term d2 (2 : Int32) (3 : Int32) (4 : Int32)) + own_term d3 (3 : Int32) (3 : Int32) (4 : Int32)) + own_term d4 (4 : Int32) (3 : Int32) (4 : Int32)) + own_term d5 (5 : Int32) (3 : Int32) (4 : Int32)) := by
  have t0 : own_term d0 (0 : Int32) (3 : Int32) (4 : Int32) = 0 := by unfold own_term; rw [if_pos (by decide)]
  have t1 : own_term d1 (1 : Int32) (3 : Int32) (4 : Int32) = 0 := by unfold own_term; rw [if_pos (by decide)]
  have t2 : own_term d2 (2 : Int32) (3 : Int32) (4 : Int32) = 0 := by unfold own_term; rw [if_pos (by decide)]
  have t3 : own_term d3 (3 : Int32) (3 : Int32) (4 : Int32) = own_T d3 := by unfold own_term; rw [if_neg (by decide), if_pos (by decide), if_pos (by decide)]
  have t4 : own_term d4 (4 : Int32) (3 : Int32) (4 : Int32) = 0 := by unfold own_term; rw [if_neg (by decide), if_neg (by decide)]
  have t5 : own_term d5 (5 : Int32) (3 : Int32) (4 : Int32) = 0 := by unfold own_term; rw [if_neg (by decide), if_neg (by decide)]
  have n : ((4 : Int32).toInt - (3 : Int32).toInt).toNat = 1 := by decide
  have f : (4 : Int32) - (1 : Int32) = (3 : Int32) := by decide
  rw [n, f, t0, t1, t2, t3, t4, t5]
  simp only [own_lp, own_at3 b3, own_st3, own_w1, own_w2, own_c2 b3]
  simp only [Int32.zero_add, Int32.add_zero]
theorem own_case35 {d0 d1 d2 d3 d4 d5 : Int32} (b0 : 0 ≤ d0.toInt ∧ d0.toInt ≤ 9) (b1 : 0 ≤ d1.toInt ∧ d1.toInt ≤ 9) (b2 : 0 ≤ d2.toInt ∧ d2.toInt ≤ 9) (b3 : 0 ≤ d3.toInt ∧ d3.toInt ≤ 9) (b4 : 0 ≤ d4.toInt ∧ d4.toInt ≤ 9) (b5 : 0 ≤ d5.toInt ∧ d5.toInt ≤ 9) : own_lp [own_b d0, own_b d1, own_b d2, own_b d3, own_b d4, own_b d5] (.int (0 : Int32)) ((5 : Int32).toInt - (3 : Int32).toInt).toNat ((5 : Int32) - (1 : Int32)) (0 : Int32) (2 : Int32) = (((((own_term d0 (0 : Int32) (3 : Int32) (5 : Int32) + own_term d1 (1 : Int32) (3 : Int32) (5 : Int32)) + own_term d2 (2 : Int32) (3 : Int32) (5 : Int32)) + own_term d3 (3 : Int32) (3 : Int32) (5 : Int32)) + own_term d4 (4 : Int32) (3 : Int32) (5 : Int32)) + own_term d5 (5 : Int32) (3 : Int32) (5 : Int32)) := by
  have t0 : own_term d0 (0 : Int32) (3 : Int32) (5 : Int32) = 0 := by unfold own_term; rw [if_pos (by decide)]
  have t1 : own_term d1 (1 : Int32) (3 : Int32) (5 : Int32) = 0 := by unfold own_term; rw [if_pos (by decide)]
  have t2 : own_term d2 (2 : Int32) (3 : Int32) (5 : Int32) = 0 := by unfold own_term; rw [if_pos (by decide)]
  have t3 : own_term d3 (3 : Int32) (3 : Int32) (5 : Int32) = d3 := by unfold own_term; rw [if_neg (by decide), if_pos (by decide), if_neg (by decide)]
  have t4 : own_term d4 (4 : Int32) (3 : Int32) (5 : Int32) = own_T d4 := by unfold own_term; rw [if_neg (by decide), if_pos (by decide), if_pos (by decide)]
  have t5 : own_term d5 (5 : Int32) (3 : Int32) (5 : Int32) = 0 := by unfold own_term; rw [if_neg (by decide), if_neg (by decide)]
  have n : ((5 : Int32).toInt - (3 : Int32).toInt).toNat = 2 := by decide
  have f : (5 : Int32) - (1 : Int32) = (4 : Int32) := by decide
  rw [n, f, t0, t1, t2, t3, t4, t5]
  simp only [own_lp, own_at3 b3, own_at4 b4, own_st3, own_st4, own_w1, own_w2, own_c1 b3, own_c2 b4]
  simp only [Int32.zero_add, Int32.add_zero]
  ac_rfl
theorem own_case36 {d0 d1 d2 d3 d4 d5 : Int32} (b0 : 0 ≤ d0.toInt ∧ d0.toInt ≤ 9) (b1 : 0 ≤ d1.toInt ∧ d1.toInt ≤ 9) (b2 : 0 ≤ d2.toInt ∧ d2.toInt ≤ 9) (b3 : 0 ≤ d3.toInt ∧ d3.toInt ≤ 9) (b4 : 0 ≤ d4.toInt ∧ d4.toInt ≤ 9) (b5 : 0 ≤ d5.toInt ∧ d5.toInt ≤ 9) : own_lp [own_b d0, own_b d1, own_b d2, own_b d3, own_b d4, own_b d5] (.int (0 : Int32)) ((6 : Int32).toInt - (3 : Int32).toInt).toNat ((6 : Int32) - (1 : Int32)) (0 : Int32) (2 : Int32) = (((((own_term d0 (0 : Int32) (3 : Int32) (6 : Int32) + own_term d1 (1 : Int32) (3 : Int32) (6 : Int32)) + own_term d2 (2 : Int32) (3 : Int32) (6 : Int32)) + own_term d3 (3 : Int32) (3 : Int32) (6 : Int32)) + own_term d4 (4 : Int32) (3 : Int32) (6 : Int32)) + own_term d5 (5 : Int32) (3 : Int32) (6 : Int32)) := by
  have t0 : own_term d0 (0 : Int32) (3 : Int32) (6 : Int32) = 0 := by unfold own_term; rw [if_pos (by decide)]
  have t1 : own_term d1 (1 : Int32) (3 : Int32) (6 : Int32) = 0 := by unfold own_term; rw [if_pos (by decide)]
  have t2 : own_term d2 (2 : Int32) (3 : Int32) (6 : Int32) = 0 := by unfold own_term; rw [if_pos (by decide)]
  have t3 : own_term d3 (3 : Int32) (3 : Int32) (6 : Int32) = own_T d3 := by unfold own_term; rw [if_neg (by decide), if_pos (by decide), if_pos (by decide)]
  have t4 : own_term d4 (4 : Int32) (3 : Int32) (6 : Int32) = d4 := by unfold own_term; rw [if_neg (by decide), if_pos (by decide), if_neg (by decide)]
  have t5 : own_term d5 (5 : Int32) (3 : Int32) (6 : Int32) = own_T d5 := by unfold own_term; rw [if_neg (by decide), if_pos (by decide), if_pos (by decide)]
  have n : ((6 : Int32).toInt - (3 : Int32).toInt).toNat = 3 := by decide
  have f : (6 : Int32) - (1 : Int32) = (5 : Int32) := by decide
  rw [n, f, t0, t1, t2, t3, t4, t5]
  simp only [own_lp, own_at3 b3, own_at4 b4, own_at5 b5, own_st3, own_st4, own_st5, own_w1, own_w2, own_c2 b3, own_c1 b4, own_c2 b5]
  simp only [Int32.zero_add, Int32.add_zero]
  ac_rfl
theorem own_case44 {d0 d1 d2 d3 d4 d5 : Int32} (b0 : 0 ≤ d0.toInt ∧ d0.toInt ≤ 9) (b1 : 0 ≤ d1.toInt ∧ d1.toInt ≤ 9) (b2 : 0 ≤ d2.toInt ∧ d2.toInt ≤ 9) (b3 : 0 ≤ d3.toInt ∧ d3.toInt ≤ 9) (b4 : 0 ≤ d4.toInt ∧ d4.toInt ≤ 9) (b5 : 0 ≤ d5.toInt ∧ d5.toInt ≤ 9) : own_lp [own_b d0, own_b d1, own_b d2, own_b d3, own_b d4, own_b d5] (.int (0 : Int32)) ((4 : Int32).toInt - (4 : Int32).toInt).toNat ((4 : Int32) - (1 : Int32)) (0 : Int32) (2 : Int32) = (((((own_term d0 (0 : Int32) (4 : Int32) (4 : Int32) + own_term d1 (1 : Int32) (4 : Int32) (4 : Int32)) + own_term d2 (2 : Int32) (4 : Int32) (4 : Int32)) + own_term d3 (3 : Int32) (4 : Int32) (4 : Int32)) + own_term d4 (4 : Int32) (4 : Int32) (4 : Int32)) + own_term d5 (5 : Int32) (4 : Int32) (4 : Int32)) := by
  have t0 : own_term d0 (0 : Int32) (4 : Int32) (4 : Int32) = 0 := by unfold own_term; rw [if_pos (by decide)]
  have t1 : own_term d1 (1 : Int32) (4 : Int32) (4 : Int32) = 0 := by unfold own_term; rw [if_pos (by decide)]
  have t2 : own_term d2 (2 : Int32) (4 : Int32) (4 : Int32) = 0 := by unfold own_term; rw [if_pos (by decide)]
  have t3 : own_term d3 (3 : Int32) (4 : Int32) (4 : Int32) = 0 := by unfold own_term; rw [if_pos (by decide)]
  have t4 : own_term d4 (4 : Int32) (4 : Int32) (4 : Int32) = 0 := by unfold own_term; rw [if_neg (by decide), if_neg (by decide)]
  have t5 : own_term d5 (5 : Int32) (4 : Int32) (4 : Int32) = 0 := by unfold own_term; rw [if_neg (by decide), if_neg (by decide)]
  have n : ((4 : Int32).toInt - (4 : Int32).toInt).toNat = 0 := by decide
  have f : (4 : Int32) - (1 : Int32) = (3 : Int32) := by decide
  rw [n, f, t0, t1, t2, t3, t4, t5]
  simp only [own_lp]
  decide
theorem own_case45 {d0 d1 d2 d3 d4 d5 : Int32} (b0 : 0 ≤ d0.toInt ∧ d0.toInt ≤ 9) (b1 : 0 ≤ d1.toInt ∧ d1.toInt ≤ 9) (b2 : 0 ≤ d2.toInt ∧ d2.toInt ≤ 9) (b3 : 0 ≤ d3.toInt ∧ d3.toInt ≤ 9) (b4 : 0 ≤ d4.toInt ∧ d4.toInt ≤ 9) (b5 : 0 ≤ d5.toInt ∧ d5.toInt ≤ 9) : own_lp [own_b d0, own_b d1, own_b d2, own_b d3, own_b d4, own_b d5] (.int (0 : Int32)) ((5 : Int32).toInt - (4 : Int32).toInt).toNat ((5 : Int32) - (1 : Int32)) (0 : Int32) (2 : Int32) = (((((own_term d0 (0 : Int32) (4 : Int32) (5 : Int32) + own_term d1 (1 : Int32) (4 : Int32) (5 : Int32)) + own_term d2 (2 : Int32) (4 : Int32) (5 : Int32)) + own_term d3 (3 : Int32) (4 : Int32) (5 : Int32)) + own_term d4 (4 : Int32) (4 : Int32) (5 : Int32)) + own_term d5 (5 : Int32) (4 : Int32) (5 : Int32)) := by
  have t0 : own_term d0 (0 : Int32) (4 : Int32) (5 : Int32) = 0 := by unfold own_term; rw [if_pos (by decide)]
  have t1 : own_term d1 (1 : Int32) (4 : Int32) (5 : Int32) = 0 := by unfold own_term; rw [if_pos (by decide)]
  have t2 : own_term d2 (2 : Int32) (4 : Int32) (5 : Int32) = 0 := by unfold own_term; rw [if_pos (by decide)]
  have t3 : own_term d3 (3 : Int32) (4 : Int32) (5 : Int32) = 0 := by unfold own_term; rw [if_pos (by decide)]
  have t4 : own_term d4 (4 : Int32) (4 : Int32) (5 : Int32) = own_T d4 := by unfold own_term; rw [if_neg (by decide), if_pos (by decide), if_pos (by decide)]
  have t5 : own_term d5 (5 : Int32) (4 : Int32) (5 : Int32) = 0 := by unfold own_term; rw [if_neg (by decide), if_neg (by decide)]
  have n : ((5 : Int32).toInt - (4 : Int32).toInt).toNat = 1 := by decide
  have f : (5 : Int32) - (1 : Int32) = (4 : Int32) := by decide
  rw [n, f, t0, t1, t2, t3, t4, t5]
  simp only [own_lp, own_at4 b4, own_st4, own_w1, own_w2, own_c2 b4]
  simp only [Int32.zero_add, Int32.add_zero]
theorem own_case46 {d0 d1 d2 d3 d4 d5 : Int32} (b0 : 0 ≤ d0.toInt ∧ d0.toInt ≤ 9) (b1 : 0 ≤ d1.toInt ∧ d1.toInt ≤ 9) (b2 : 0 ≤ d2.toInt ∧ d2.toInt ≤ 9) (b3 : 0 ≤ d3.toInt ∧ d3.toInt ≤ 9) (b4 : 0 ≤ d4.toInt ∧ d4.toInt ≤ 9) (b5 : 0 ≤ d5.toInt ∧ d5.toInt ≤ 9) : own_lp [own_b d0, own_b d1, own_b d2, own_b d3, own_b d4, own_b d5] (.int (0 : Int32)) ((6 : Int32).toInt - (4 : Int32).toInt).toNat ((6 : Int32) - (1 : Int32)) (0 : Int32) (2 : Int32) = (((((own_term d0 (0 : Int32) (4 : Int32) (6 : Int32) + own_term d1 (1 : Int32) (4 : Int32) (6 : Int32)) + own_term d2 (2 : Int32) (4 : Int32) (6 : Int32)) + own_term d3 (3 : Int32) (4 : Int32) (6 : Int32)) + own_term d4 (4 : Int32) (4 : Int32) (6 : Int32)) + own_term d5 (5 : Int32) (4 : Int32) (6 : Int32)) := by
  have t0 : own_term d0 (0 : Int32) (4 : Int32) (6 : Int32) = 0 := by unfold own_term; rw [if_pos (by decide)]
  have t1 : own_term d1 (1 : Int32) (4 : Int32) (6 : Int32) = 0 := by unfold own_term; rw [if_pos (by decide)]
  have t2 : own_term d2 (2 : Int32) (4 : Int32) (6 : Int32) = 0 := by unfold own_term; rw [if_pos (by decide)]
  have t3 : own_term d3 (3 : Int32) (4 : Int32) (6 : Int32) = 0 := by unfold own_term; rw [if_pos (by decide)]
  have t4 : own_term d4 (4 : Int32) (4 : Int32) (6 : Int32) = d4 := by unfold own_term; rw [if_neg (by decide), if_pos (by decide), if_neg (by decide)]
  have t5 : own_term d5 (5 : Int32) (4 : Int32) (6 : Int32) = own_T d5 := by unfold own_term; rw [if_neg (by decide), if_pos (by decide), if_pos (by decide)]
  have n : ((6 : Int32).toInt - (4 : Int32).toInt).toNat = 2 := by decide
  have f : (6 : Int32) - (1 : Int32) = (5 : Int32) := by decide
  rw [n, f, t0, t1, t2, t3, t4, t5]
  simp only [own_lp, own_at4 b4, own_at5 b5, own_st4, own_st5, own_w1, own_w2, own_c1 b4, own_c2 b5]
  simp only [Int32.zero_add, Int32.add_zero]
  ac_rfl
theorem own_case55 {d0 d1 d2 d3 d4 d5 : Int32} (b0 : 0 ≤ d0.toInt ∧ d0.toInt ≤ 9) (b1 : 0 ≤ d1.toInt ∧ d1.toInt ≤ 9) (b2 : 0 ≤ d2.toInt ∧ d2.toInt ≤ 9) (b3 : 0 ≤ d3.toInt ∧ d3.toInt ≤ 9) (b4 : 0 ≤ d4.toInt ∧ d4.toInt ≤ 9) (b5 : 0 ≤ d5.toInt ∧ d5.toInt ≤ 9) : own_lp [own_b d0, own_b d1, own_b d2, own_b d3, own_b d4, own_b d5] (.int (0 : Int32)) ((5 : Int32).toInt - (5 : Int32).toInt).toNat ((5 : Int32) - (1 : Int32)) (0 : Int32) (2 : Int32) = (((((own_term d0 (0 : Int32) (5 : Int32) (5 : Int32) + own_term d1 (1 : Int32) (5 : Int32) (5 : Int32)) + own_term d2 (2 : Int32) (5 : Int32) (5 : Int32)) + own_term d3 (3 : Int32) (5 : Int32) (5 : Int32)) + own_term d4 (4 : Int32) (5 : Int32) (5 : Int32)) + own_term d5 (5 : Int32) (5 : Int32) (5 : Int32)) := by
  have t0 : own_term d0 (0 : Int32) (5 : Int32) (5 : Int32) = 0 := by unfold own_term; rw [if_pos (by decide)]
  have t1 : own_term d1 (1 : Int32) (5 : Int32) (5 : Int32) = 0 := by unfold own_term; rw [if_pos (by decide)]
  have t2 : own_term d2 (2 : Int32) (5 : Int32) (5 : Int32) = 0 := by unfold own_term; rw [if_pos (by decide)]
  have t3 : own_term d3 (3 : Int32) (5 : Int32) (5 : Int32) = 0 := by unfold own_term; rw [if_pos (by decide)]
  have t4 : own_term d4 (4 : Int32) (5 : Int32) (5 : Int32) = 0 := by unfold own_term; rw [if_pos (by decide)]
  have t5 : own_term d5 (5 : Int32) (5 : Int32) (5 : Int32) = 0 := by unfold own_term; rw [if_neg (by decide), if_neg (by decide)]
  have n : ((5 : Int32).toInt - (5 : Int32).toInt).toNat = 0 := by decide
  have f : (5 : Int32) - (1 : Int32) = (4 : Int32) := by decide
  rw [n, f, t0, t1, t2, t3, t4, t5]
  simp only [own_lp]
  decide
theorem own_case56 {d0 d1 d2 d3 d4 d5 : Int32} (b0 : 0 ≤ d0.toInt ∧ d0.toInt ≤ 9) (b1 : 0 ≤ d1.toInt ∧ d1.toInt ≤ 9) (b2 : 0 ≤ d2.toInt ∧ d2.toInt ≤ 9) (b3 : 0 ≤ d3.toInt ∧ d3.toInt ≤ 9) (b4 : 0 ≤ d4.toInt ∧ d4.toInt ≤ 9) (b5 : 0 ≤ d5.toInt ∧ d5.toInt ≤ 9) : own_lp [own_b d0, own_b d1, own_b d2, own_b d3, own_b d4, own_b d5] (.int (0 : Int32)) ((6 : Int32).toInt - (5 : Int32).toInt).toNat ((6 : Int32) - (1 : Int32)) (0 : Int32) (2 : Int32) = (((((own_term d0 (0 : Int32) (5 : Int32) (6 : Int32) + own_term d1 (1 : Int32) (5 : Int32) (6 : Int32)) + own_term d2 (2 : Int32) (5 : Int32) (6 : Int32)) + own_term d3 (3 : Int32) (5 : Int32) (6 : Int32)) + own_term d4 (4 : Int32) (5 : Int32) (6 : Int32)) + own_term d5 (5 : Int32) (5 : Int32) (6 : Int32)) := by
  have t0 : own_term d0 (0 : Int32) (5 : Int32) (6 : Int32) = 0 := by unfold own_term; rw [if_pos (by decide)]
  have t1 : own_term d1 (1 : Int32) (5 : Int32) (6 : Int32) = 0 := by unfold own_term; rw [if_pos (by decide)]
  have t2 : own_term d2 (2 : Int32) (5 : Int32) (6 : Int32) = 0 := by unfold own_term; rw [if_pos (by decide)]
  have t3 : own_term d3 (3 : Int32) (5 : Int32) (6 : Int32) = 0 := by unfold own_term; rw [if_pos (by decide)]
  have t4 : own_term d4 (4 : Int32) (5 : Int32) (6 : Int32) = 0 := by unfold own_term; rw [if_pos (by decide)]
  have t5 : own_term d5 (5 : Int32) (5 : Int32) (6 : Int32) = own_T d5 := by unfold own_term; rw [if_neg (by decide), if_pos (by decide), if_pos (by decide)]
  have n : ((6 : Int32).toInt - (5 : Int32).toInt).toNat = 1 := by decide
  have f : (6 : Int32) - (1 : Int32) = (5 : Int32) := by decide
  rw [n, f, t0, t1, t2, t3, t4, t5]
  simp only [own_lp, own_at5 b5, own_st5, own_w1, own_w2, own_c2 b5]
  simp only [Int32.zero_add, Int32.add_zero]
theorem own_case66 {d0 d1 d2 d3 d4 d5 : Int32} (b0 : 0 ≤ d0.toInt ∧ d0.toInt ≤ 9) (b1 : 0 ≤ d1.toInt ∧ d1.toInt ≤ 9) (b2 : 0 ≤ d2.toInt ∧ d2.toInt ≤ 9) (b3 : 0 ≤ d3.toInt ∧ d3.toInt ≤ 9) (b4 : 0 ≤ d4.toInt ∧ d4.toInt ≤ 9) (b5 : 0 ≤ d5.toInt ∧ d5.toInt ≤ 9) : own_lp [own_b d0, own_b d1, own_b d2, own_b d3, own_b d4, own_b d5] (.int (0 : Int32)) ((6 : Int32).toInt - (6 : Int32).toInt).toNat ((6 : Int32) - (1 : Int32)) (0 : Int32) (2 : Int32) = (((((own_term d0 (0 : Int32) (6 : Int32) (6 : Int32) + own_term d1 (1 : Int32) (6 : Int32) (6 : Int32)) + own_term d2 (2 : Int32) (6 : Int32) (6 : Int32)) + own_term d3 (3 : Int32) (6 : Int32) (6 : Int32)) + own_term d4 (4 : Int32) (6 : Int32) (6 : Int32)) + own_term d5 (5 : Int32) (6 : Int32) (6 : Int32)) := by
  have t0 : own_term d0 (0 : Int32) (6 : Int32) (6 : Int32) = 0 := by unfold own_term; rw [if_pos (by decide)]
  have t1 : own_term d1 (1 : Int32) (6 : Int32) (6 : Int32) = 0 := by unfold own_term; rw [if_pos (by decide)]
  have t2 : own_term d2 (2 : Int32) (6 : Int32) (6 : Int32) = 0 := by unfold own_term; rw [if_pos (by decide)]
  have t3 : own_term d3 (3 : Int32) (6 : Int32) (6 : Int32) = 0 := by unfold own_term; rw [if_pos (by decide)]
  have t4 : own_term d4 (4 : Int32) (6 : Int32) (6 : Int32) = 0 := by unfold own_term; rw [if_pos (by decide)]
  have t5 : own_term d5 (5 : Int32) (6 : Int32) (6 : Int32) = 0 := by unfold own_term; rw [if_pos (by decide)]
  have n : ((6 : Int32).toInt - (6 : Int32).toInt).toNat = 0 := by decide
  have f : (6 : Int32) - (1 : Int32) = (5 : Int32) := by decide
  rw [n, f, t0, t1, t2, t3, t4, t5]
  simp only [own_lp]
  decide
theorem own_lit {s : Int32} {k : Int} (h : s.toInt = k) (c : Int32) (hc : c.toInt = k) : s = c := Int32.toInt_inj.mp (by rw [h, hc])
theorem own_sum {d0 d1 d2 d3 d4 d5 s e : Int32} (b0 : 0 ≤ d0.toInt ∧ d0.toInt ≤ 9) (b1 : 0 ≤ d1.toInt ∧ d1.toInt ≤ 9) (b2 : 0 ≤ d2.toInt ∧ d2.toInt ≤ 9) (b3 : 0 ≤ d3.toInt ∧ d3.toInt ≤ 9) (b4 : 0 ≤ d4.toInt ∧ d4.toInt ≤ 9) (b5 : 0 ≤ d5.toInt ∧ d5.toInt ≤ 9) (hse : 0 ≤ s.toInt ∧ s.toInt ≤ e.toInt ∧ e.toInt ≤ 6) : own_lp [own_b d0, own_b d1, own_b d2, own_b d3, own_b d4, own_b d5] (.int (0 : Int32)) (e.toInt - s.toInt).toNat (e - (1 : Int32)) (0 : Int32) (2 : Int32) = (((((own_term d0 (0 : Int32) s e + own_term d1 (1 : Int32) s e) + own_term d2 (2 : Int32) s e) + own_term d3 (3 : Int32) s e) + own_term d4 (4 : Int32) s e) + own_term d5 (5 : Int32) s e) := by
  have hs : s = 0 ∨ s = 1 ∨ s = 2 ∨ s = 3 ∨ s = 4 ∨ s = 5 ∨ s = 6 := by
    have : s.toInt = 0 ∨ s.toInt = 1 ∨ s.toInt = 2 ∨ s.toInt = 3 ∨ s.toInt = 4 ∨ s.toInt = 5 ∨ s.toInt = 6 := by omega
    rcases this with h | h | h | h | h | h | h
    · exact Or.inl (own_lit h 0 (by decide))
    · exact Or.inr (Or.inl (own_lit h 1 (by decide)))
    · exact Or.inr (Or.inr (Or.inl (own_lit h 2 (by decide))))
    · exact Or.inr (Or.inr (Or.inr (Or.inl (own_lit h 3 (by decide)))))
    · exact Or.inr (Or.inr (Or.inr (Or.inr (Or.inl (own_lit h 4 (by decide))))))
    · exact Or.inr (Or.inr (Or.inr (Or.inr (Or.inr (Or.inl (own_lit h 5 (by decide)))))))
    · exact Or.inr (Or.inr (Or.inr (Or.inr (Or.inr (Or.inr ((own_lit h 6 (by decide))))))))
  have he : e = 0 ∨ e = 1 ∨ e = 2 ∨ e = 3 ∨ e = 4 ∨ e = 5 ∨ e = 6 := by
    have : e.toInt = 0 ∨ e.toInt = 1 ∨ e.toInt = 2 ∨ e.toInt = 3 ∨ e.toInt = 4 ∨ e.toInt = 5 ∨ e.toInt = 6 := by omega
    rcases this with h | h | h | h | h | h | h
    · exact Or.inl (own_lit h 0 (by decide))
    · exact Or.inr (Or.inl (own_lit h 1 (by decide)))
    · exact Or.inr (Or.inr (Or.inl (own_lit h 2 (by decide))))
    · exact Or.inr (Or.inr (Or.inr (Or.inl (own_lit h 3 (by decide)))))
    · exact Or.inr (Or.inr (Or.inr (Or.inr (Or.inl (own_lit h 4 (by decide))))))
    · exact Or.inr (Or.inr (Or.inr (Or.inr (Or.inr (Or.inl (own_lit h 5 (by decide)))))))
    · exact Or.inr (Or.inr (Or.inr (Or.inr (Or.inr (Or.inr ((own_lit h 6 (by decide))))))))
  obtain ⟨-, h, -⟩ := hse
  rcases hs with rfl | rfl | rfl | rfl | rfl | rfl | rfl
  · rcases he with rfl | rfl | rfl | rfl | rfl | rfl | rfl
    · exact own_case00 b0 b1 b2 b3 b4 b5
    · exact own_case01 b0 b1 b2 b3 b4 b5
    · exact own_case02 b0 b1 b2 b3 b4 b5
    · exact own_case03 b0 b1 b2 b3 b4 b5
    · exact own_case04 b0 b1 b2 b3 b4 b5
    · exact own_case05 b0 b1 b2 b3 b4 b5
    · exact own_case06 b0 b1 b2 b3 b4 b5
  · rcases he with rfl | rfl | rfl | rfl | rfl | rfl | rfl
    · exact absurd h (by decide)
    · exact own_case11 b0 b1 b2 b3 b4 b5
    · exact own_case12 b0 b1 b2 b3 b4 b5
    · exact own_case13 b0 b1 b2 b3 b4 b5
    · exact own_case14 b0 b1 b2 b3 b4 b5
    · exact own_case15 b0 b1 b2 b3 b4 b5
    · exact own_case16 b0 b1 b2 b3 b4 b5
  · rcases he with rfl | rfl | rfl | rfl | rfl | rfl | rfl
    · exact absurd h (by decide)
    · exact absurd h (by decide)
    · exact own_case22 b0 b1 b2 b3 b4 b5
    · exact own_case23 b0 b1 b2 b3 b4 b5
    · exact own_case24 b0 b1 b2 b3 b4 b5
    · exact own_case25 b0 b1 b2 b3 b4 b5
    · exact own_case26 b0 b1 b2 b3 b4 b5
  · rcases he with rfl | rfl | rfl | rfl | rfl | rfl | rfl
    · exact absurd h (by decide)
    · exact absurd h (by decide)
    · exact absurd h (by decide)
    · exact own_case33 b0 b1 b2 b3 b4 b5
    · exact own_case34 b0 b1 b2 b3 b4 b5
    · exact own_case35 b0 b1 b2 b3 b4 b5
    · exact own_case36 b0 b1 b2 b3 b4 b5
  · rcases he with rfl | rfl | rfl | rfl | rfl | rfl | rfl
    · exact absurd h (by decide)
    · exact absurd h (by decide)
    · exact absurd h (by decide)
    · exact absurd h (by decide)
    · exact own_case44 b0 b1 b2 b3 b4 b5
    · exact own_case45 b0 b1 b2 b3 b4 b5
    · exact own_case46 b0 b1 b2 b3 b4 b5
  · rcases he with rfl | rfl | rfl | rfl | rfl | rfl | rfl
    · exact absurd h (by decide)
    · exact absurd h (by decide)
    · exact absurd h (by decide)
    · exact absurd h (by decide)
    · exact absurd h (by decide)
    · exact own_case55 b0 b1 b2 b3 b4 b5
    · exact own_case56 b0 b1 b2 b3 b4 b5
  · rcases he with rfl | rfl | rfl | rfl | rfl | rfl | rfl
    · exact absurd h (by decide)
    · exact absurd h (by decide)
    · exact absurd h (by decide)
    · exact absurd h (by decide)
    · exact absurd h (by decide)
    · exact absurd h (by decide)
    · exact own_case66 b0 b1 b2 b3 b4 b5
theorem own_add9 {x y : Int32} {k : Int} (hk : 0 ≤ k ∧ k ≤ 1000) (hx : 0 ≤ x.toInt ∧ x.toInt ≤ k) (hy : 0 ≤ y.toInt ∧ y.toInt ≤ 9) : 0 ≤ (x + y).toInt ∧ (x + y).toInt ≤ k + 9 := by
  have h := c_iadd x y; have r := rng32 (x + y); omega
theorem own_law (d0 d1 d2 d3 d4 d5 s e : Int32) (b0 : 0 ≤ d0.toInt ∧ d0.toInt ≤ 9) (b1 : 0 ≤ d1.toInt ∧ d1.toInt ≤ 9) (b2 : 0 ≤ d2.toInt ∧ d2.toInt ≤ 9) (b3 : 0 ≤ d3.toInt ∧ d3.toInt ≤ 9) (b4 : 0 ≤ d4.toInt ∧ d4.toInt ≤ 9) (b5 : 0 ≤ d5.toInt ∧ d5.toInt ≤ 9) (hse : 0 ≤ s.toInt ∧ s.toInt ≤ e.toInt ∧ e.toInt ≤ 6) :
    own_m10 [own_b d0, own_b d1, own_b d2, own_b d3, own_b d4, own_b d5] (.int (0 : Int32)) s e = ((10 : Int32) - (((((own_term d0 (0 : Int32) s e + own_term d1 (1 : Int32) s e) + own_term d2 (2 : Int32) s e) + own_term d3 (3 : Int32) s e) + own_term d4 (4 : Int32) s e) + own_term d5 (5 : Int32) s e) % (10 : Int32)) % (10 : Int32) := by
  unfold own_m10
  rw [own_sum b0 b1 b2 b3 b4 b5 hse]
  exact own_fin (own_add9 (k := 45) (by decide) (own_add9 (k := 36) (by decide) (own_add9 (k := 27) (by decide) (own_add9 (k := 18) (by decide) (own_add9 (k := 9) (by decide) (own_tb b0 (0 : Int32) s e) (own_tb b1 (1 : Int32) s e)) (own_tb b2 (2 : Int32) s e)) (own_tb b3 (3 : Int32) s e)) (own_tb b4 (4 : Int32) s e)) (own_tb b5 (5 : Int32) s e))
theorem pn_0 : plainName "com/example/campo_livre/campolivre/CheckDigitsModulo10PinLaw" = true := by first | (simp [plainName, overriddenIn]; done) | decide +kernel
theorem d1_0 : decode method_3_code 0 = .ok (.iload_n 1, 1) := by decide +kernel
theorem d1_1 : decode method_3_code 1 = .ok (.iload_n 2, 1) := by decide +kernel
theorem d1_2 : decode method_3_code 2 = .ok (.if_icmp .lt 8, 3) := by decide +kernel
theorem d1_10 : decode method_3_code 10 = .ok (.iconst 0, 1) := by decide +kernel
theorem d1_11 : decode method_3_code 11 = .ok (.ireturn, 1) := by decide +kernel
theorem d1_5 : decode method_3_code 5 = .ok (.iload_n 1, 1) := by decide +kernel
theorem d1_6 : decode method_3_code 6 = .ok (.iload_n 3, 1) := by decide +kernel
theorem d1_7 : decode method_3_code 7 = .ok (.if_icmp .lt 5, 3) := by decide +kernel
theorem d1_12 : decode method_3_code 12 = .ok (.iload_n 3, 1) := by decide +kernel
theorem d1_13 : decode method_3_code 13 = .ok (.iconst 1, 1) := by decide +kernel
theorem d1_14 : decode method_3_code 14 = .ok (.isub, 1) := by decide +kernel
theorem d1_15 : decode method_3_code 15 = .ok (.iload_n 1, 1) := by decide +kernel
theorem d1_16 : decode method_3_code 16 = .ok (.isub, 1) := by decide +kernel
theorem d1_17 : decode method_3_code 17 = .ok (.iconst 1, 1) := by decide +kernel
theorem d1_18 : decode method_3_code 18 = .ok (.iand, 1) := by decide +kernel
theorem d1_19 : decode method_3_code 19 = .ok (.ifCond .ne 20, 3) := by decide +kernel
theorem d1_22 : decode method_3_code 22 = .ok (.iconst 2, 1) := by decide +kernel
theorem d1_23 : decode method_3_code 23 = .ok (.iload_n 0, 1) := by decide +kernel
theorem d1_24 : decode method_3_code 24 = .ok (.imul, 1) := by decide +kernel
theorem d1_25 : decode method_3_code 25 = .ok (.istore 4, 2) := by decide +kernel
theorem d1_27 : decode method_3_code 27 = .ok (.iload 4, 2) := by decide +kernel
theorem d1_29 : decode method_3_code 29 = .ok (.bipush 10, 2) := by decide +kernel
theorem d1_31 : decode method_3_code 31 = .ok (.idiv, 1) := by decide +kernel
theorem d1_32 : decode method_3_code 32 = .ok (.iload 4, 2) := by decide +kernel
theorem d1_34 : decode method_3_code 34 = .ok (.bipush 10, 2) := by decide +kernel
theorem d1_36 : decode method_3_code 36 = .ok (.irem, 1) := by decide +kernel
theorem d1_37 : decode method_3_code 37 = .ok (.iadd, 1) := by decide +kernel
theorem d1_38 : decode method_3_code 38 = .ok (.ireturn, 1) := by decide +kernel
theorem d1_39 : decode method_3_code 39 = .ok (.iload_n 0, 1) := by decide +kernel
theorem d1_40 : decode method_3_code 40 = .ok (.ireturn, 1) := by decide +kernel
theorem ef_1 (m : MethodId) (x0 : Int32) (x1 : Int32) (x2 : Int32) (x3 : Int32) : entryFrame m #[(.int x0), (.int x1), (.int x2), (.int x3)] 5 = mkF m 0 #[.val (.int x0), .val (.int x1), .val (.int x2), .val (.int x3), .unset] [] := by first | (simp [entryFrame, mkF, argsToLocals, Value.category]; done) | rfl
def Q1 (Z : State) (dg : Int32) (i : Int32) (sa : Int32) (ea : Int32) (h0 : Heap) (n0 : Nat) (vα : Option Value) (hα : Heap) (Lα : List Loc) : Prop := vα = some (.int (own_term dg i sa ea)) ∧ Fr n0 Lα ∧ hα = h0
set_option maxRecDepth 65536 in
set_option maxHeartbeats 40000000 in
theorem rm1 (l : Launch) (Z : State) (a0 : Array Value) (hw : ∀ d ∈ tables_1, d.before a0 Z = true) (ws : List Jvm.Cond) (dg : Int32) (i : Int32) (sa : Int32) (ea : Int32) (h0 : Heap) (n0 : Nat) (Z0 : n0 ≤ h0.size) :
    MetFree l (⟨"com/example/campo_livre/campolivre/CheckDigitsModulo10PinLaw", "term", "(IIII)I"⟩ : MethodName) (head1 (Jvm.Cond.code (⟨"com/example/campo_livre/campolivre/CheckDigitsModulo10PinLaw", "term", "(IIII)I"⟩ : MethodName) method_3_code 5 (some .int) :: ws) ({ frames := 0, cells := 0, slots := 0, locals := 0 } : Room)) (fun aα U => aα = #[(.int dg), (.int i), (.int sa), (.int ea)] ∧ Z.Warmed39 U.vm ∧ U.heap = h0) (fun _ _ _ _ _ => True) (fun _ U oα U' => ∃ vα Lα, oα = .returned vα ∧ Q1 Z dg i sa ea h0 n0 vα U'.heap Lα ∧ FrameEnd U oα U' Lα ({ frames := 0, cells := 0, slots := 0, locals := 0 } : Room).cells ({ frames := 0, cells := 0, slots := 0, locals := 0 } : Room).slots) := by
  refine MetFree.of_bodySF (plainFor_of_name pn_0) hisR ?_
  intro p e s m args below meth c s₁ Bd hml0 hP hK
  refine own_wrap ?_
  intro GL hGL
  obtain ⟨rfl, hZ, hh⟩ := hP
  have hx := Bd.exec
  have hby := Bd.bytes
  have hml : c.maxLocals = 5 := hml0
  have hown : s.vm.findClass "com/example/campo_livre/campolivre/CheckDigitsModulo10PinLaw" = some m.cls := findClass_of_methodNamed Bd.named
  have hnm := (name_of_methodNamed Bd.named Bd.method).1
  have X0 : Stand p l e ({ frames := 0, cells := 0, slots := 0, locals := 0 } : Room) s m #[(.int dg), (.int i), (.int sa), (.int ea)] below meth c s₁ [] 0 0 := Stand.of_body Bd
  have e0 : s₁.heap = h0 := by rw [← hh, Bd.state]; rfl
  have N0 := Fr.nil n0
  have pre0 : ∀ τ, Steps p.tables e below (s₁.setTop (mkF m 0 #[.val (.int dg), .val (.int i), .val (.int sa), .val (.int ea), .unset] [])) τ → Steps p.tables e below (s₁.setTop (entryFrame m #[(.int dg), (.int i), (.int sa), (.int ea)] 5)) τ := fun τ κ => castTop (ef_1 m dg i sa ea) κ
  obtain ⟨G, hG, pre⟩ : ∃ G : State → Prop, (∀ τ, G τ → Steps p.tables e below (s₁.setTop (entryFrame m #[(.int dg), (.int i), (.int sa), (.int ea)] 5)) τ) ∧ ∀ τ, Steps p.tables e below (s₁.setTop (mkF m 0 #[.val (.int dg), .val (.int i), .val (.int sa), .val (.int ea), .unset] [])) τ → G τ := ⟨_, pre0, fun _ k => k⟩
  have K : Keep h0 h0 [] := Keep.refl h0 _
  have Zn := Z0
  have pre : ∀ τ, Steps p.tables e below (s₁.setTop (mkF m 2 #[.val (.int dg), .val (.int i), .val (.int sa), .val (.int ea), .unset] [(.int sa), (.int i)])) τ → G τ := fun τ κ => pre τ (by
    refine XS.iloadN X0.here hx rfl (hb hby d1_0) rfl ?_
    show Steps p.tables e below (s₁.setTop (mkF m 1 #[.val (.int dg), .val (.int i), .val (.int sa), .val (.int ea), .unset] [(.int i)])) τ
    refine XS.iloadN X0.here hx rfl (hb hby d1_1) rfl ?_
    show Steps p.tables e below (s₁.setTop (mkF m 2 #[.val (.int dg), .val (.int i), .val (.int sa), .val (.int ea), .unset] [(.int sa), (.int i)])) τ
    exact κ)
  rcases Classical.em (i < sa) with hc2_1 | hc2_1
  ·
    have pre : ∀ τ, Steps p.tables e below (s₁.setTop (mkF m 11 #[.val (.int dg), .val (.int i), .val (.int sa), .val (.int ea), .unset] [(.int (0 : Int32))])) τ → G τ := fun τ κ => pre τ (by
      refine XS.icmpYes X0.here hx rfl (pc0 := 2) (pc' := 10) rfl (hb hby d1_2) rfl (tlt hc2_1).1 (by decide) (by decide) ?_
      show Steps p.tables e below (s₁.setTop (mkF m 10 #[.val (.int dg), .val (.int i), .val (.int sa), .val (.int ea), .unset] [])) τ
      refine XS.iconst X0.here hx rfl (hb hby d1_10) ?_
      show Steps p.tables e below (s₁.setTop (mkF m 11 #[.val (.int dg), .val (.int i), .val (.int sa), .val (.int ea), .unset] [(.int (0 : Int32))])) τ
      exact κ)
    obtain ⟨fsα, hr, hrun, hended, hW, hsame⟩ := X0.leave (v := some (.int (0 : Int32))) (fun h => by rw [Bd.returns] at h; cases h)
    refine hGL ⟨_, _, hG _ (pre _ ?_), hrun, hended, _, _, rfl, ?_, ⟨_, rfl⟩, hW, hsame.mono (by decide) (by decide)⟩
    · exact retOut X0 hx Bd.returns rfl (Or.inl ⟨rfl, Or.inl rfl, _, rfl⟩) (hb hby d1_11) hr
    · show Q1 Z dg i sa ea h0 n0 _ s₁.heap _
      rw [e0]
      refine ⟨?_, N0, rfl⟩
      unfold own_term
      rw [if_pos hc2_1]
  ·
    have pre : ∀ τ, Steps p.tables e below (s₁.setTop (mkF m 7 #[.val (.int dg), .val (.int i), .val (.int sa), .val (.int ea), .unset] [(.int ea), (.int i)])) τ → G τ := fun τ κ => pre τ (by
      refine XS.icmpNo X0.here hx rfl (hb hby d1_2) rfl (flt hc2_1).1 ?_
      show Steps p.tables e below (s₁.setTop (mkF m 5 #[.val (.int dg), .val (.int i), .val (.int sa), .val (.int ea), .unset] [])) τ
      refine XS.iloadN X0.here hx rfl (hb hby d1_5) rfl ?_
      show Steps p.tables e below (s₁.setTop (mkF m 6 #[.val (.int dg), .val (.int i), .val (.int sa), .val (.int ea), .unset] [(.int i)])) τ
      refine XS.iloadN X0.here hx rfl (hb hby d1_6) rfl ?_
      show Steps p.tables e below (s₁.setTop (mkF m 7 #[.val (.int dg), .val (.int i), .val (.int sa), .val (.int ea), .unset] [(.int ea), (.int i)])) τ
      exact κ)
    rcases Classical.em (i < ea) with hc7_2 | hc7_2
    ·
      have pre : ∀ τ, Steps p.tables e below (s₁.setTop (mkF m 19 #[.val (.int dg), .val (.int i), .val (.int sa), .val (.int ea), .unset] [(.int (((ea - (1 : Int32)) - i) &&& (1 : Int32)))])) τ → G τ := fun τ κ => pre τ (by
        refine XS.icmpYes X0.here hx rfl (pc0 := 7) (pc' := 12) rfl (hb hby d1_7) rfl (tlt hc7_2).1 (by decide) (by decide) ?_
        show Steps p.tables e below (s₁.setTop (mkF m 12 #[.val (.int dg), .val (.int i), .val (.int sa), .val (.int ea), .unset] [])) τ
        refine XS.iloadN X0.here hx rfl (hb hby d1_12) rfl ?_
        show Steps p.tables e below (s₁.setTop (mkF m 13 #[.val (.int dg), .val (.int i), .val (.int sa), .val (.int ea), .unset] [(.int ea)])) τ
        refine XS.iconst X0.here hx rfl (hb hby d1_13) ?_
        show Steps p.tables e below (s₁.setTop (mkF m 14 #[.val (.int dg), .val (.int i), .val (.int sa), .val (.int ea), .unset] [(.int (1 : Int32)), (.int ea)])) τ
        refine XS.isub X0.here hx rfl (hb hby d1_14) rfl ?_
        show Steps p.tables e below (s₁.setTop (mkF m 15 #[.val (.int dg), .val (.int i), .val (.int sa), .val (.int ea), .unset] [(.int (ea - (1 : Int32)))])) τ
        refine XS.iloadN X0.here hx rfl (hb hby d1_15) rfl ?_
        show Steps p.tables e below (s₁.setTop (mkF m 16 #[.val (.int dg), .val (.int i), .val (.int sa), .val (.int ea), .unset] [(.int i), (.int (ea - (1 : Int32)))])) τ
        refine XS.isub X0.here hx rfl (hb hby d1_16) rfl ?_
        show Steps p.tables e below (s₁.setTop (mkF m 17 #[.val (.int dg), .val (.int i), .val (.int sa), .val (.int ea), .unset] [(.int ((ea - (1 : Int32)) - i))])) τ
        refine XS.iconst X0.here hx rfl (hb hby d1_17) ?_
        show Steps p.tables e below (s₁.setTop (mkF m 18 #[.val (.int dg), .val (.int i), .val (.int sa), .val (.int ea), .unset] [(.int (1 : Int32)), (.int ((ea - (1 : Int32)) - i))])) τ
        refine XS.iand X0.here hx rfl (hb hby d1_18) rfl ?_
        show Steps p.tables e below (s₁.setTop (mkF m 19 #[.val (.int dg), .val (.int i), .val (.int sa), .val (.int ea), .unset] [(.int (((ea - (1 : Int32)) - i) &&& (1 : Int32)))])) τ
        exact κ)
      rcases Classical.em ((((ea - (1 : Int32)) - i) &&& (1 : Int32)) = (0 : Int32)) with hc19_3 | hc19_3
      ·
        have pre : ∀ τ, Steps p.tables e below (s₁.setTop (mkF m 38 #[.val (.int dg), .val (.int i), .val (.int sa), .val (.int ea), .val (.int ((2 : Int32) * dg))] [(.int ((((2 : Int32) * dg) / (10 : Int32)) + (((2 : Int32) * dg) % (10 : Int32))))])) τ → G τ := fun τ κ => pre τ (by
          refine XS.ifNo X0.here hx rfl (hb hby d1_19) rfl ((if0 _ _).trans (teq hc19_3).2) ?_
          show Steps p.tables e below (s₁.setTop (mkF m 22 #[.val (.int dg), .val (.int i), .val (.int sa), .val (.int ea), .unset] [])) τ
          refine XS.iconst X0.here hx rfl (hb hby d1_22) ?_
          show Steps p.tables e below (s₁.setTop (mkF m 23 #[.val (.int dg), .val (.int i), .val (.int sa), .val (.int ea), .unset] [(.int (2 : Int32))])) τ
          refine XS.iloadN X0.here hx rfl (hb hby d1_23) rfl ?_
          show Steps p.tables e below (s₁.setTop (mkF m 24 #[.val (.int dg), .val (.int i), .val (.int sa), .val (.int ea), .unset] [(.int dg), (.int (2 : Int32))])) τ
          refine XS.imul X0.here hx rfl (hb hby d1_24) rfl ?_
          show Steps p.tables e below (s₁.setTop (mkF m 25 #[.val (.int dg), .val (.int i), .val (.int sa), .val (.int ea), .unset] [(.int ((2 : Int32) * dg))])) τ
          refine XS.istore X0.here hx rfl (hb hby d1_25) rfl (l' := #[.val (.int dg), .val (.int i), .val (.int sa), .val (.int ea), .val (.int ((2 : Int32) * dg))]) rfl ?_
          show Steps p.tables e below (s₁.setTop (mkF m 27 #[.val (.int dg), .val (.int i), .val (.int sa), .val (.int ea), .val (.int ((2 : Int32) * dg))] [])) τ
          refine XS.iload X0.here hx rfl (hb hby d1_27) rfl ?_
          show Steps p.tables e below (s₁.setTop (mkF m 29 #[.val (.int dg), .val (.int i), .val (.int sa), .val (.int ea), .val (.int ((2 : Int32) * dg))] [(.int ((2 : Int32) * dg))])) τ
          refine XS.bipush X0.here hx rfl (hb hby d1_29) ?_
          show Steps p.tables e below (s₁.setTop (mkF m 31 #[.val (.int dg), .val (.int i), .val (.int sa), .val (.int ea), .val (.int ((2 : Int32) * dg))] [(.int (10 : Int32)), (.int ((2 : Int32) * dg))])) τ
          refine XS.idiv X0.here hx rfl (hb hby d1_31) rfl (by decide) ?_
          show Steps p.tables e below (s₁.setTop (mkF m 32 #[.val (.int dg), .val (.int i), .val (.int sa), .val (.int ea), .val (.int ((2 : Int32) * dg))] [(.int (((2 : Int32) * dg) / (10 : Int32)))])) τ
          refine XS.iload X0.here hx rfl (hb hby d1_32) rfl ?_
          show Steps p.tables e below (s₁.setTop (mkF m 34 #[.val (.int dg), .val (.int i), .val (.int sa), .val (.int ea), .val (.int ((2 : Int32) * dg))] [(.int ((2 : Int32) * dg)), (.int (((2 : Int32) * dg) / (10 : Int32)))])) τ
          refine XS.bipush X0.here hx rfl (hb hby d1_34) ?_
          show Steps p.tables e below (s₁.setTop (mkF m 36 #[.val (.int dg), .val (.int i), .val (.int sa), .val (.int ea), .val (.int ((2 : Int32) * dg))] [(.int (10 : Int32)), (.int ((2 : Int32) * dg)), (.int (((2 : Int32) * dg) / (10 : Int32)))])) τ
          refine iremM X0 hx rfl (hb hby d1_36) rfl (by decide) ?_
          show Steps p.tables e below (s₁.setTop (mkF m 37 #[.val (.int dg), .val (.int i), .val (.int sa), .val (.int ea), .val (.int ((2 : Int32) * dg))] [(.int (((2 : Int32) * dg) % (10 : Int32))), (.int (((2 : Int32) * dg) / (10 : Int32)))])) τ
          refine XS.iadd X0.here hx rfl (hb hby d1_37) rfl ?_
          show Steps p.tables e below (s₁.setTop (mkF m 38 #[.val (.int dg), .val (.int i), .val (.int sa), .val (.int ea), .val (.int ((2 : Int32) * dg))] [(.int ((((2 : Int32) * dg) / (10 : Int32)) + (((2 : Int32) * dg) % (10 : Int32))))])) τ
          exact κ)
        obtain ⟨fsα, hr, hrun, hended, hW, hsame⟩ := X0.leave (v := some (.int ((((2 : Int32) * dg) / (10 : Int32)) + (((2 : Int32) * dg) % (10 : Int32))))) (fun h => by rw [Bd.returns] at h; cases h)
        refine hGL ⟨_, _, hG _ (pre _ ?_), hrun, hended, _, _, rfl, ?_, ⟨_, rfl⟩, hW, hsame.mono (by decide) (by decide)⟩
        · exact retOut X0 hx Bd.returns rfl (Or.inl ⟨rfl, Or.inl rfl, _, rfl⟩) (hb hby d1_38) hr
        · show Q1 Z dg i sa ea h0 n0 _ s₁.heap _
          rw [e0]
          refine ⟨?_, N0, rfl⟩
          unfold own_term
          rw [if_neg hc2_1]
          rw [if_pos hc7_2]
          rw [if_pos hc19_3]
      ·
        have pre : ∀ τ, Steps p.tables e below (s₁.setTop (mkF m 40 #[.val (.int dg), .val (.int i), .val (.int sa), .val (.int ea), .unset] [(.int dg)])) τ → G τ := fun τ κ => pre τ (by
          refine XS.ifYes X0.here hx rfl (pc0 := 19) (pc' := 39) rfl (hb hby d1_19) rfl ((if0 _ _).trans (feq hc19_3).2) (by decide) (by decide) ?_
          show Steps p.tables e below (s₁.setTop (mkF m 39 #[.val (.int dg), .val (.int i), .val (.int sa), .val (.int ea), .unset] [])) τ
          refine XS.iloadN X0.here hx rfl (hb hby d1_39) rfl ?_
          show Steps p.tables e below (s₁.setTop (mkF m 40 #[.val (.int dg), .val (.int i), .val (.int sa), .val (.int ea), .unset] [(.int dg)])) τ
          exact κ)
        obtain ⟨fsα, hr, hrun, hended, hW, hsame⟩ := X0.leave (v := some (.int dg)) (fun h => by rw [Bd.returns] at h; cases h)
        refine hGL ⟨_, _, hG _ (pre _ ?_), hrun, hended, _, _, rfl, ?_, ⟨_, rfl⟩, hW, hsame.mono (by decide) (by decide)⟩
        · exact retOut X0 hx Bd.returns rfl (Or.inl ⟨rfl, Or.inl rfl, _, rfl⟩) (hb hby d1_40) hr
        · show Q1 Z dg i sa ea h0 n0 _ s₁.heap _
          rw [e0]
          refine ⟨?_, N0, rfl⟩
          unfold own_term
          rw [if_neg hc2_1]
          rw [if_pos hc7_2]
          rw [if_neg hc19_3]
    ·
      have pre : ∀ τ, Steps p.tables e below (s₁.setTop (mkF m 11 #[.val (.int dg), .val (.int i), .val (.int sa), .val (.int ea), .unset] [(.int (0 : Int32))])) τ → G τ := fun τ κ => pre τ (by
        refine XS.icmpNo X0.here hx rfl (hb hby d1_7) rfl (flt hc7_2).1 ?_
        show Steps p.tables e below (s₁.setTop (mkF m 10 #[.val (.int dg), .val (.int i), .val (.int sa), .val (.int ea), .unset] [])) τ
        refine XS.iconst X0.here hx rfl (hb hby d1_10) ?_
        show Steps p.tables e below (s₁.setTop (mkF m 11 #[.val (.int dg), .val (.int i), .val (.int sa), .val (.int ea), .unset] [(.int (0 : Int32))])) τ
        exact κ)
      obtain ⟨fsα, hr, hrun, hended, hW, hsame⟩ := X0.leave (v := some (.int (0 : Int32))) (fun h => by rw [Bd.returns] at h; cases h)
      refine hGL ⟨_, _, hG _ (pre _ ?_), hrun, hended, _, _, rfl, ?_, ⟨_, rfl⟩, hW, hsame.mono (by decide) (by decide)⟩
      · exact retOut X0 hx Bd.returns rfl (Or.inl ⟨rfl, Or.inl rfl, _, rfl⟩) (hb hby d1_11) hr
      · show Q1 Z dg i sa ea h0 n0 _ s₁.heap _
        rw [e0]
        refine ⟨?_, N0, rfl⟩
        unfold own_term
        rw [if_neg hc2_1]
        rw [if_neg hc7_2]
theorem pn_1 : plainName "com/example/campo_livre/campolivre/CheckDigits" = true := by first | (simp [plainName, overriddenIn]; done) | decide +kernel
theorem d2_0 : decode prog_16_method_3_code 0 = .ok (.iconst 0, 1) := by decide +kernel
theorem d2_1 : decode prog_16_method_3_code 1 = .ok (.istore_n 3, 1) := by decide +kernel
theorem d2_2 : decode prog_16_method_3_code 2 = .ok (.iconst 2, 1) := by decide +kernel
theorem d2_3 : decode prog_16_method_3_code 3 = .ok (.istore 4, 2) := by decide +kernel
theorem d2_5 : decode prog_16_method_3_code 5 = .ok (.iload_n 2, 1) := by decide +kernel
theorem d2_6 : decode prog_16_method_3_code 6 = .ok (.iconst 1, 1) := by decide +kernel
theorem d2_7 : decode prog_16_method_3_code 7 = .ok (.isub, 1) := by decide +kernel
theorem d2_8 : decode prog_16_method_3_code 8 = .ok (.istore 5, 2) := by decide +kernel
theorem d2_10 : decode prog_16_method_3_code 10 = .ok (.iload 5, 2) := by decide +kernel
theorem d2_12 : decode prog_16_method_3_code 12 = .ok (.iload_n 1, 1) := by decide +kernel
theorem d2_13 : decode prog_16_method_3_code 13 = .ok (.if_icmp .lt 47, 3) := by decide +kernel
theorem d2_60 : decode prog_16_method_3_code 60 = .ok (.iload_n 3, 1) := by decide +kernel
theorem d2_61 : decode prog_16_method_3_code 61 = .ok (.bipush 10, 2) := by decide +kernel
theorem d2_63 : decode prog_16_method_3_code 63 = .ok (.irem, 1) := by decide +kernel
theorem d2_64 : decode prog_16_method_3_code 64 = .ok (.istore 5, 2) := by decide +kernel
theorem d2_66 : decode prog_16_method_3_code 66 = .ok (.iload 5, 2) := by decide +kernel
theorem d2_68 : decode prog_16_method_3_code 68 = .ok (.ifCond .ne 7, 3) := by decide +kernel
theorem d2_71 : decode prog_16_method_3_code 71 = .ok (.iconst 0, 1) := by decide +kernel
theorem d2_72 : decode prog_16_method_3_code 72 = .ok (.goto 8, 3) := by decide +kernel
theorem d2_80 : decode prog_16_method_3_code 80 = .ok (.ireturn, 1) := by decide +kernel
theorem d2_75 : decode prog_16_method_3_code 75 = .ok (.bipush 10, 2) := by decide +kernel
theorem d2_77 : decode prog_16_method_3_code 77 = .ok (.iload 5, 2) := by decide +kernel
theorem d2_79 : decode prog_16_method_3_code 79 = .ok (.isub, 1) := by decide +kernel
theorem d2_16 : decode prog_16_method_3_code 16 = .ok (.aload_n 0, 1) := by decide +kernel
theorem d2_17 : decode prog_16_method_3_code 17 = .ok (.iload 5, 2) := by decide +kernel
theorem d2_19 : decode prog_16_method_3_code 19 = .ok (.baload, 1) := by decide +kernel
theorem d2_20 : decode prog_16_method_3_code 20 = .ok (.bipush 48, 2) := by decide +kernel
theorem d2_22 : decode prog_16_method_3_code 22 = .ok (.isub, 1) := by decide +kernel
theorem d2_23 : decode prog_16_method_3_code 23 = .ok (.iload 4, 2) := by decide +kernel
theorem d2_25 : decode prog_16_method_3_code 25 = .ok (.imul, 1) := by decide +kernel
theorem d2_26 : decode prog_16_method_3_code 26 = .ok (.istore 6, 2) := by decide +kernel
theorem os2_26_5 {z0 : Value} {z1 : Value} {z2 : Value} {z3 : Value} {z4 : Value} {z5 : Value} {o6 : Slot} {vv : Int32} (h : One o6) : storeLocals #[.val z0, .val z1, .val z2, .val z3, .val z4, .val z5, o6] 6 (.int vv) = some #[.val z0, .val z1, .val z2, .val z3, .val z4, .val z5, .val (.int vv)] := by
  rcases h with rfl | ⟨w, rfl, hw⟩
  · rfl
  · cases w <;> first | rfl | (simp [Value.category] at hw)
theorem d2_28 : decode prog_16_method_3_code 28 = .ok (.iload_n 3, 1) := by decide +kernel
theorem d2_29 : decode prog_16_method_3_code 29 = .ok (.iload 6, 2) := by decide +kernel
theorem d2_31 : decode prog_16_method_3_code 31 = .ok (.bipush 9, 2) := by decide +kernel
theorem d2_33 : decode prog_16_method_3_code 33 = .ok (.if_icmp .le 11, 3) := by decide +kernel
theorem d2_36 : decode prog_16_method_3_code 36 = .ok (.iload 6, 2) := by decide +kernel
theorem d2_38 : decode prog_16_method_3_code 38 = .ok (.bipush 9, 2) := by decide +kernel
theorem d2_40 : decode prog_16_method_3_code 40 = .ok (.isub, 1) := by decide +kernel
theorem d2_41 : decode prog_16_method_3_code 41 = .ok (.goto 5, 3) := by decide +kernel
theorem d2_46 : decode prog_16_method_3_code 46 = .ok (.iadd, 1) := by decide +kernel
theorem d2_47 : decode prog_16_method_3_code 47 = .ok (.istore_n 3, 1) := by decide +kernel
theorem d2_48 : decode prog_16_method_3_code 48 = .ok (.iconst 3, 1) := by decide +kernel
theorem d2_49 : decode prog_16_method_3_code 49 = .ok (.iload 4, 2) := by decide +kernel
theorem d2_51 : decode prog_16_method_3_code 51 = .ok (.isub, 1) := by decide +kernel
theorem d2_52 : decode prog_16_method_3_code 52 = .ok (.istore 4, 2) := by decide +kernel
theorem d2_54 : decode prog_16_method_3_code 54 = .ok (.iinc 5 (-1), 3) := by decide +kernel
theorem d2_57 : decode prog_16_method_3_code 57 = .ok (.goto (-47), 3) := by decide +kernel
theorem d2_44 : decode prog_16_method_3_code 44 = .ok (.iload 6, 2) := by decide +kernel
theorem ef_2 (m : MethodId) (x0 : Addr) (x1 : Int32) (x2 : Int32) : entryFrame m #[(.ref x0), (.int x1), (.int x2)] 7 = mkF m 0 #[.val (.ref x0), .val (.int x1), .val (.int x2), .unset, .unset, .unset, .unset] [] := by first | (simp [entryFrame, mkF, argsToLocals, Value.category]; done) | rfl
def Q2 (Z : State) (a : Addr) (sa : Int32) (ea : Int32) (kc : ClassId) (z : Int32) (vs : List Value) (dv : Value) (h0 : Heap) (n0 : Nat) (vα : Option Value) (hα : Heap) (Lα : List Loc) : Prop := vα = some (.int (own_m10 vs dv sa ea)) ∧ Fr n0 Lα ∧ hα = h0
set_option maxRecDepth 65536 in
set_option maxHeartbeats 40000000 in
theorem rm2 (l : Launch) (Z : State) (a0 : Array Value) (hw : ∀ d ∈ tables_1, d.before a0 Z = true) (ws : List Jvm.Cond) (a : Addr) (sa : Int32) (ea : Int32) (kc : ClassId) (z : Int32) (vs : List Value) (dv : Value) (h0 : Heap) (n0 : Nat) (Z0 : n0 ≤ h0.size) (V_a : Arv Z h0 a kc .byte z vs dv) (hs0 : 0 ≤ sa.toInt) (hse : sa.toInt ≤ ea.toInt) (hez : ea.toInt ≤ z.toInt) :
    MetFree l (⟨"com/example/campo_livre/campolivre/CheckDigits", "modulo10", "([BII)I"⟩ : MethodName) (head1 (Jvm.Cond.code (⟨"com/example/campo_livre/campolivre/CheckDigits", "modulo10", "([BII)I"⟩ : MethodName) prog_16_method_3_code 7 (some .int) :: ws) ({ frames := 0, cells := 0, slots := 0, locals := 0 } : Room)) (fun aα U => aα = #[(.ref a), (.int sa), (.int ea)] ∧ Z.Warmed39 U.vm ∧ U.heap = h0) (fun _ _ _ _ _ => True) (fun _ U oα U' => ∃ vα Lα, oα = .returned vα ∧ Q2 Z a sa ea kc z vs dv h0 n0 vα U'.heap Lα ∧ FrameEnd U oα U' Lα ({ frames := 0, cells := 0, slots := 0, locals := 0 } : Room).cells ({ frames := 0, cells := 0, slots := 0, locals := 0 } : Room).slots) := by
  refine MetFree.of_bodySF (plainFor_of_name pn_1) hisR ?_
  intro p e s m args below meth c s₁ Bd hml0 hP hK
  refine own_wrap ?_
  intro GL hGL
  obtain ⟨rfl, hZ, hh⟩ := hP
  have hx := Bd.exec
  have hby := Bd.bytes
  have hml : c.maxLocals = 7 := hml0
  have hown : s.vm.findClass "com/example/campo_livre/campolivre/CheckDigits" = some m.cls := findClass_of_methodNamed Bd.named
  have hnm := (name_of_methodNamed Bd.named Bd.method).1
  have X0 : Stand p l e ({ frames := 0, cells := 0, slots := 0, locals := 0 } : Room) s m #[(.ref a), (.int sa), (.int ea)] below meth c s₁ [] 0 0 := Stand.of_body Bd
  have e0 : s₁.heap = h0 := by rw [← hh, Bd.state]; rfl
  have N0 := Fr.nil n0
  have pre0 : ∀ τ, Steps p.tables e below (s₁.setTop (mkF m 0 #[.val (.ref a), .val (.int sa), .val (.int ea), .unset, .unset, .unset, .unset] [])) τ → Steps p.tables e below (s₁.setTop (entryFrame m #[(.ref a), (.int sa), (.int ea)] 7)) τ := fun τ κ => castTop (ef_2 m a sa ea) κ
  obtain ⟨G, hG, pre⟩ : ∃ G : State → Prop, (∀ τ, G τ → Steps p.tables e below (s₁.setTop (entryFrame m #[(.ref a), (.int sa), (.int ea)] 7)) τ) ∧ ∀ τ, Steps p.tables e below (s₁.setTop (mkF m 0 #[.val (.ref a), .val (.int sa), .val (.int ea), .unset, .unset, .unset, .unset] [])) τ → G τ := ⟨_, pre0, fun _ k => k⟩
  have K : Keep h0 h0 [] := Keep.refl h0 _
  have Zn := Z0
  have pre : ∀ τ, Steps p.tables e below (s₁.setTop (mkF m 10 #[.val (.ref a), .val (.int sa), .val (.int ea), .val (.int (0 : Int32)), .val (.int (2 : Int32)), .val (.int (ea - (1 : Int32))), .unset] [])) τ → G τ := fun τ κ => pre τ (by
    refine XS.iconst X0.here hx rfl (hb hby d2_0) ?_
    show Steps p.tables e below (s₁.setTop (mkF m 1 #[.val (.ref a), .val (.int sa), .val (.int ea), .unset, .unset, .unset, .unset] [(.int (0 : Int32))])) τ
    refine XS.istoreN X0.here hx rfl (hb hby d2_1) rfl (l' := #[.val (.ref a), .val (.int sa), .val (.int ea), .val (.int (0 : Int32)), .unset, .unset, .unset]) rfl ?_
    show Steps p.tables e below (s₁.setTop (mkF m 2 #[.val (.ref a), .val (.int sa), .val (.int ea), .val (.int (0 : Int32)), .unset, .unset, .unset] [])) τ
    refine XS.iconst X0.here hx rfl (hb hby d2_2) ?_
    show Steps p.tables e below (s₁.setTop (mkF m 3 #[.val (.ref a), .val (.int sa), .val (.int ea), .val (.int (0 : Int32)), .unset, .unset, .unset] [(.int (2 : Int32))])) τ
    refine XS.istore X0.here hx rfl (hb hby d2_3) rfl (l' := #[.val (.ref a), .val (.int sa), .val (.int ea), .val (.int (0 : Int32)), .val (.int (2 : Int32)), .unset, .unset]) rfl ?_
    show Steps p.tables e below (s₁.setTop (mkF m 5 #[.val (.ref a), .val (.int sa), .val (.int ea), .val (.int (0 : Int32)), .val (.int (2 : Int32)), .unset, .unset] [])) τ
    refine XS.iloadN X0.here hx rfl (hb hby d2_5) rfl ?_
    show Steps p.tables e below (s₁.setTop (mkF m 6 #[.val (.ref a), .val (.int sa), .val (.int ea), .val (.int (0 : Int32)), .val (.int (2 : Int32)), .unset, .unset] [(.int ea)])) τ
    refine XS.iconst X0.here hx rfl (hb hby d2_6) ?_
    show Steps p.tables e below (s₁.setTop (mkF m 7 #[.val (.ref a), .val (.int sa), .val (.int ea), .val (.int (0 : Int32)), .val (.int (2 : Int32)), .unset, .unset] [(.int (1 : Int32)), (.int ea)])) τ
    refine XS.isub X0.here hx rfl (hb hby d2_7) rfl ?_
    show Steps p.tables e below (s₁.setTop (mkF m 8 #[.val (.ref a), .val (.int sa), .val (.int ea), .val (.int (0 : Int32)), .val (.int (2 : Int32)), .unset, .unset] [(.int (ea - (1 : Int32)))])) τ
    refine XS.istore X0.here hx rfl (hb hby d2_8) rfl (l' := #[.val (.ref a), .val (.int sa), .val (.int ea), .val (.int (0 : Int32)), .val (.int (2 : Int32)), .val (.int (ea - (1 : Int32))), .unset]) rfl ?_
    show Steps p.tables e below (s₁.setTop (mkF m 10 #[.val (.ref a), .val (.int sa), .val (.int ea), .val (.int (0 : Int32)), .val (.int (2 : Int32)), .val (.int (ea - (1 : Int32))), .unset] [])) τ
    exact κ)
  have loop : ∀ (n : Nat) (i : Int32) (sm : Int32) (wt : Int32) (o6 : Slot) (ho6 : One o6) (hn : i.toInt = sa.toInt + (n : Int) - 1) (hi : i.toInt < ea.toInt) (hres : own_lp vs dv n i sm wt = own_lp vs dv (ea.toInt - sa.toInt).toNat (ea - (1 : Int32)) (0 : Int32) (2 : Int32)) (pre : ∀ τ, Steps p.tables e below (s₁.setTop (mkF m 10 #[.val (.ref a), .val (.int sa), .val (.int ea), .val (.int sm), .val (.int wt), .val (.int i), o6] [])) τ → G τ), GL := by
    intro n
    induction n with
    | zero =>
      intro i sm wt o6 ho6 hn hi hres pre
      have pre : ∀ τ, Steps p.tables e below (s₁.setTop (mkF m 13 #[.val (.ref a), .val (.int sa), .val (.int ea), .val (.int sm), .val (.int wt), .val (.int i), o6] [(.int sa), (.int i)])) τ → G τ := fun τ κ => pre τ (by
        refine XS.iload X0.here hx rfl (hb hby d2_10) rfl ?_
        show Steps p.tables e below (s₁.setTop (mkF m 12 #[.val (.ref a), .val (.int sa), .val (.int ea), .val (.int sm), .val (.int wt), .val (.int i), o6] [(.int i)])) τ
        refine XS.iloadN X0.here hx rfl (hb hby d2_12) rfl ?_
        show Steps p.tables e below (s₁.setTop (mkF m 13 #[.val (.ref a), .val (.int sa), .val (.int ea), .val (.int sm), .val (.int wt), .val (.int i), o6] [(.int sa), (.int i)])) τ
        exact κ)
      have hc1 : i < sa := own_z hn
      have pre : ∀ τ, Steps p.tables e below (s₁.setTop (mkF m 68 #[.val (.ref a), .val (.int sa), .val (.int ea), .val (.int sm), .val (.int wt), .val (.int (sm % (10 : Int32))), o6] [(.int (sm % (10 : Int32)))])) τ → G τ := fun τ κ => pre τ (by
        refine XS.icmpYes X0.here hx rfl (pc0 := 13) (pc' := 60) rfl (hb hby d2_13) rfl (tlt hc1).1 (by decide) (by decide) ?_
        show Steps p.tables e below (s₁.setTop (mkF m 60 #[.val (.ref a), .val (.int sa), .val (.int ea), .val (.int sm), .val (.int wt), .val (.int i), o6] [])) τ
        refine XS.iloadN X0.here hx rfl (hb hby d2_60) rfl ?_
        show Steps p.tables e below (s₁.setTop (mkF m 61 #[.val (.ref a), .val (.int sa), .val (.int ea), .val (.int sm), .val (.int wt), .val (.int i), o6] [(.int sm)])) τ
        refine XS.bipush X0.here hx rfl (hb hby d2_61) ?_
        show Steps p.tables e below (s₁.setTop (mkF m 63 #[.val (.ref a), .val (.int sa), .val (.int ea), .val (.int sm), .val (.int wt), .val (.int i), o6] [(.int (10 : Int32)), (.int sm)])) τ
        refine iremM X0 hx rfl (hb hby d2_63) rfl (by decide) ?_
        show Steps p.tables e below (s₁.setTop (mkF m 64 #[.val (.ref a), .val (.int sa), .val (.int ea), .val (.int sm), .val (.int wt), .val (.int i), o6] [(.int (sm % (10 : Int32)))])) τ
        refine XS.istore X0.here hx rfl (hb hby d2_64) rfl (l' := #[.val (.ref a), .val (.int sa), .val (.int ea), .val (.int sm), .val (.int wt), .val (.int (sm % (10 : Int32))), o6]) rfl ?_
        show Steps p.tables e below (s₁.setTop (mkF m 66 #[.val (.ref a), .val (.int sa), .val (.int ea), .val (.int sm), .val (.int wt), .val (.int (sm % (10 : Int32))), o6] [])) τ
        refine XS.iload X0.here hx rfl (hb hby d2_66) rfl ?_
        show Steps p.tables e below (s₁.setTop (mkF m 68 #[.val (.ref a), .val (.int sa), .val (.int ea), .val (.int sm), .val (.int wt), .val (.int (sm % (10 : Int32))), o6] [(.int (sm % (10 : Int32)))])) τ
        exact κ)
      rcases Classical.em ((sm % (10 : Int32)) = (0 : Int32)) with hc68_2 | hc68_2
      ·
        have pre : ∀ τ, Steps p.tables e below (s₁.setTop (mkF m 80 #[.val (.ref a), .val (.int sa), .val (.int ea), .val (.int sm), .val (.int wt), .val (.int (sm % (10 : Int32))), o6] [(.int (0 : Int32))])) τ → G τ := fun τ κ => pre τ (by
          refine XS.ifNo X0.here hx rfl (hb hby d2_68) rfl ((if0 _ _).trans (teq hc68_2).2) ?_
          show Steps p.tables e below (s₁.setTop (mkF m 71 #[.val (.ref a), .val (.int sa), .val (.int ea), .val (.int sm), .val (.int wt), .val (.int (sm % (10 : Int32))), o6] [])) τ
          refine XS.iconst X0.here hx rfl (hb hby d2_71) ?_
          show Steps p.tables e below (s₁.setTop (mkF m 72 #[.val (.ref a), .val (.int sa), .val (.int ea), .val (.int sm), .val (.int wt), .val (.int (sm % (10 : Int32))), o6] [(.int (0 : Int32))])) τ
          refine XS.goto X0.here hx rfl (pc0 := 72) (pc' := 80) rfl (hb hby d2_72) (by decide) (by decide) ?_
          show Steps p.tables e below (s₁.setTop (mkF m 80 #[.val (.ref a), .val (.int sa), .val (.int ea), .val (.int sm), .val (.int wt), .val (.int (sm % (10 : Int32))), o6] [(.int (0 : Int32))])) τ
          exact κ)
        obtain ⟨fsα, hr, hrun, hended, hW, hsame⟩ := X0.leave (v := some (.int (0 : Int32))) (fun h => by rw [Bd.returns] at h; cases h)
        refine hGL ⟨_, _, hG _ (pre _ ?_), hrun, hended, _, _, rfl, ?_, ⟨_, rfl⟩, hW, hsame.mono (by decide) (by decide)⟩
        · exact retOut X0 hx Bd.returns rfl (Or.inl ⟨rfl, Or.inl rfl, _, rfl⟩) (hb hby d2_80) hr
        · show Q2 Z a sa ea kc z vs dv h0 n0 _ s₁.heap _
          rw [e0]
          refine ⟨?_, N0, rfl⟩
          unfold own_m10
          rw [← hres]
          show some (Value.int _) = some (Value.int (if sm % (10 : Int32) = (0 : Int32) then _ else _))
          rw [if_pos hc68_2]
          first | rfl | skip
      ·
        have pre : ∀ τ, Steps p.tables e below (s₁.setTop (mkF m 80 #[.val (.ref a), .val (.int sa), .val (.int ea), .val (.int sm), .val (.int wt), .val (.int (sm % (10 : Int32))), o6] [(.int ((10 : Int32) - (sm % (10 : Int32))))])) τ → G τ := fun τ κ => pre τ (by
          refine XS.ifYes X0.here hx rfl (pc0 := 68) (pc' := 75) rfl (hb hby d2_68) rfl ((if0 _ _).trans (feq hc68_2).2) (by decide) (by decide) ?_
          show Steps p.tables e below (s₁.setTop (mkF m 75 #[.val (.ref a), .val (.int sa), .val (.int ea), .val (.int sm), .val (.int wt), .val (.int (sm % (10 : Int32))), o6] [])) τ
          refine XS.bipush X0.here hx rfl (hb hby d2_75) ?_
          show Steps p.tables e below (s₁.setTop (mkF m 77 #[.val (.ref a), .val (.int sa), .val (.int ea), .val (.int sm), .val (.int wt), .val (.int (sm % (10 : Int32))), o6] [(.int (10 : Int32))])) τ
          refine XS.iload X0.here hx rfl (hb hby d2_77) rfl ?_
          show Steps p.tables e below (s₁.setTop (mkF m 79 #[.val (.ref a), .val (.int sa), .val (.int ea), .val (.int sm), .val (.int wt), .val (.int (sm % (10 : Int32))), o6] [(.int (sm % (10 : Int32))), (.int (10 : Int32))])) τ
          refine XS.isub X0.here hx rfl (hb hby d2_79) rfl ?_
          show Steps p.tables e below (s₁.setTop (mkF m 80 #[.val (.ref a), .val (.int sa), .val (.int ea), .val (.int sm), .val (.int wt), .val (.int (sm % (10 : Int32))), o6] [(.int ((10 : Int32) - (sm % (10 : Int32))))])) τ
          exact κ)
        obtain ⟨fsα, hr, hrun, hended, hW, hsame⟩ := X0.leave (v := some (.int ((10 : Int32) - (sm % (10 : Int32))))) (fun h => by rw [Bd.returns] at h; cases h)
        refine hGL ⟨_, _, hG _ (pre _ ?_), hrun, hended, _, _, rfl, ?_, ⟨_, rfl⟩, hW, hsame.mono (by decide) (by decide)⟩
        · exact retOut X0 hx Bd.returns rfl (Or.inl ⟨rfl, Or.inl rfl, _, rfl⟩) (hb hby d2_80) hr
        · show Q2 Z a sa ea kc z vs dv h0 n0 _ s₁.heap _
          rw [e0]
          refine ⟨?_, N0, rfl⟩
          unfold own_m10
          rw [← hres]
          show some (Value.int _) = some (Value.int (if sm % (10 : Int32) = (0 : Int32) then _ else _))
          rw [if_neg hc68_2]
          first | rfl | skip
    | succ n ih =>
      intro i sm wt o6 ho6 hn hi hres pre
      have pre : ∀ τ, Steps p.tables e below (s₁.setTop (mkF m 13 #[.val (.ref a), .val (.int sa), .val (.int ea), .val (.int sm), .val (.int wt), .val (.int i), o6] [(.int sa), (.int i)])) τ → G τ := fun τ κ => pre τ (by
        refine XS.iload X0.here hx rfl (hb hby d2_10) rfl ?_
        show Steps p.tables e below (s₁.setTop (mkF m 12 #[.val (.ref a), .val (.int sa), .val (.int ea), .val (.int sm), .val (.int wt), .val (.int i), o6] [(.int i)])) τ
        refine XS.iloadN X0.here hx rfl (hb hby d2_12) rfl ?_
        show Steps p.tables e below (s₁.setTop (mkF m 13 #[.val (.ref a), .val (.int sa), .val (.int ea), .val (.int sm), .val (.int wt), .val (.int i), o6] [(.int sa), (.int i)])) τ
        exact κ)
      have hc3 : ¬ (i < sa) := own_s hs0 hn
      have pre : ∀ τ, Steps p.tables e below (s₁.setTop (mkF m 19 #[.val (.ref a), .val (.int sa), .val (.int ea), .val (.int sm), .val (.int wt), .val (.int i), o6] [(.int i), (.ref a)])) τ → G τ := fun τ κ => pre τ (by
        refine XS.icmpNo X0.here hx rfl (hb hby d2_13) rfl (flt hc3).1 ?_
        show Steps p.tables e below (s₁.setTop (mkF m 16 #[.val (.ref a), .val (.int sa), .val (.int ea), .val (.int sm), .val (.int wt), .val (.int i), o6] [])) τ
        refine XS.aloadN X0.here hx rfl (hb hby d2_16) rfl rfl ?_
        show Steps p.tables e below (s₁.setTop (mkF m 17 #[.val (.ref a), .val (.int sa), .val (.int ea), .val (.int sm), .val (.int wt), .val (.int i), o6] [(.ref a)])) τ
        refine XS.iload X0.here hx rfl (hb hby d2_17) rfl ?_
        show Steps p.tables e below (s₁.setTop (mkF m 19 #[.val (.ref a), .val (.int sa), .val (.int ea), .val (.int sm), .val (.int wt), .val (.int i), o6] [(.int i), (.ref a)])) τ
        exact κ)
      obtain ⟨c4, Ar4, q4, S4, Nz4, Hh4, Gg4⟩ := id V_a
      have hin4 : ¬ (i < 0 ∨ c4.slots.size ≤ (i).toNatClampNeg) := inb_of S4 (own_in hs0 hn hi hez)
      have hat4 : c4.slots[(i).toNatClampNeg]? = some (.int (own_at vs dv i)) := own_get Hh4 Gg4 hin4
      have pre : ∀ τ, Steps p.tables e below (s₁.setTop (mkF m 20 #[.val (.ref a), .val (.int sa), .val (.int ea), .val (.int sm), .val (.int wt), .val (.int i), o6] [(.int (own_at vs dv i))])) τ → G τ := fun τ κ => pre τ (X0.baloadBytes hx (j := i) (v := (.int (own_at vs dv i))) (by rw [e0]; exact Ar4.1) (State.isArrayOf_alike hZ.alike Ar4.2.1) Ar4.2.2 hin4 hat4 (g := (mkF m 19 #[.val (.ref a), .val (.int sa), .val (.int ea), .val (.int sm), .val (.int wt), .val (.int i), o6] [(.int i), (.ref a)])) rfl rfl (hb hby d2_19) _ κ)
      have pre : ∀ τ, Steps p.tables e below (s₁.setTop (mkF m 33 #[.val (.ref a), .val (.int sa), .val (.int ea), .val (.int sm), .val (.int wt), .val (.int i), .val (.int (((own_at vs dv i) - (48 : Int32)) * wt))] [(.int (9 : Int32)), (.int (((own_at vs dv i) - (48 : Int32)) * wt)), (.int sm)])) τ → G τ := fun τ κ => pre τ (by
        refine XS.bipush X0.here hx rfl (hb hby d2_20) ?_
        show Steps p.tables e below (s₁.setTop (mkF m 22 #[.val (.ref a), .val (.int sa), .val (.int ea), .val (.int sm), .val (.int wt), .val (.int i), o6] [(.int (48 : Int32)), (.int (own_at vs dv i))])) τ
        refine XS.isub X0.here hx rfl (hb hby d2_22) rfl ?_
        show Steps p.tables e below (s₁.setTop (mkF m 23 #[.val (.ref a), .val (.int sa), .val (.int ea), .val (.int sm), .val (.int wt), .val (.int i), o6] [(.int ((own_at vs dv i) - (48 : Int32)))])) τ
        refine XS.iload X0.here hx rfl (hb hby d2_23) rfl ?_
        show Steps p.tables e below (s₁.setTop (mkF m 25 #[.val (.ref a), .val (.int sa), .val (.int ea), .val (.int sm), .val (.int wt), .val (.int i), o6] [(.int wt), (.int ((own_at vs dv i) - (48 : Int32)))])) τ
        refine XS.imul X0.here hx rfl (hb hby d2_25) rfl ?_
        show Steps p.tables e below (s₁.setTop (mkF m 26 #[.val (.ref a), .val (.int sa), .val (.int ea), .val (.int sm), .val (.int wt), .val (.int i), o6] [(.int (((own_at vs dv i) - (48 : Int32)) * wt))])) τ
        refine XS.istore X0.here hx rfl (hb hby d2_26) rfl (l' := #[.val (.ref a), .val (.int sa), .val (.int ea), .val (.int sm), .val (.int wt), .val (.int i), .val (.int (((own_at vs dv i) - (48 : Int32)) * wt))]) (os2_26_5 ho6) ?_
        show Steps p.tables e below (s₁.setTop (mkF m 28 #[.val (.ref a), .val (.int sa), .val (.int ea), .val (.int sm), .val (.int wt), .val (.int i), .val (.int (((own_at vs dv i) - (48 : Int32)) * wt))] [])) τ
        refine XS.iloadN X0.here hx rfl (hb hby d2_28) rfl ?_
        show Steps p.tables e below (s₁.setTop (mkF m 29 #[.val (.ref a), .val (.int sa), .val (.int ea), .val (.int sm), .val (.int wt), .val (.int i), .val (.int (((own_at vs dv i) - (48 : Int32)) * wt))] [(.int sm)])) τ
        refine XS.iload X0.here hx rfl (hb hby d2_29) rfl ?_
        show Steps p.tables e below (s₁.setTop (mkF m 31 #[.val (.ref a), .val (.int sa), .val (.int ea), .val (.int sm), .val (.int wt), .val (.int i), .val (.int (((own_at vs dv i) - (48 : Int32)) * wt))] [(.int (((own_at vs dv i) - (48 : Int32)) * wt)), (.int sm)])) τ
        refine XS.bipush X0.here hx rfl (hb hby d2_31) ?_
        show Steps p.tables e below (s₁.setTop (mkF m 33 #[.val (.ref a), .val (.int sa), .val (.int ea), .val (.int sm), .val (.int wt), .val (.int i), .val (.int (((own_at vs dv i) - (48 : Int32)) * wt))] [(.int (9 : Int32)), (.int (((own_at vs dv i) - (48 : Int32)) * wt)), (.int sm)])) τ
        exact κ)
      rcases Classical.em ((9 : Int32) < (((own_at vs dv i) - (48 : Int32)) * wt)) with hc33_6 | hc33_6
      ·
        have pre : ∀ τ, Steps p.tables e below (s₁.setTop (mkF m 10 #[.val (.ref a), .val (.int sa), .val (.int ea), .val (.int (sm + ((((own_at vs dv i) - (48 : Int32)) * wt) - (9 : Int32)))), .val (.int ((3 : Int32) - wt)), .val (.int (i + (-1 : Int32))), .val (.int (((own_at vs dv i) - (48 : Int32)) * wt))] [])) τ → G τ := fun τ κ => pre τ (by
          refine XS.icmpNo X0.here hx rfl (hb hby d2_33) rfl (tlt hc33_6).2.2.2 ?_
          show Steps p.tables e below (s₁.setTop (mkF m 36 #[.val (.ref a), .val (.int sa), .val (.int ea), .val (.int sm), .val (.int wt), .val (.int i), .val (.int (((own_at vs dv i) - (48 : Int32)) * wt))] [(.int sm)])) τ
          refine XS.iload X0.here hx rfl (hb hby d2_36) rfl ?_
          show Steps p.tables e below (s₁.setTop (mkF m 38 #[.val (.ref a), .val (.int sa), .val (.int ea), .val (.int sm), .val (.int wt), .val (.int i), .val (.int (((own_at vs dv i) - (48 : Int32)) * wt))] [(.int (((own_at vs dv i) - (48 : Int32)) * wt)), (.int sm)])) τ
          refine XS.bipush X0.here hx rfl (hb hby d2_38) ?_
          show Steps p.tables e below (s₁.setTop (mkF m 40 #[.val (.ref a), .val (.int sa), .val (.int ea), .val (.int sm), .val (.int wt), .val (.int i), .val (.int (((own_at vs dv i) - (48 : Int32)) * wt))] [(.int (9 : Int32)), (.int (((own_at vs dv i) - (48 : Int32)) * wt)), (.int sm)])) τ
          refine XS.isub X0.here hx rfl (hb hby d2_40) rfl ?_
          show Steps p.tables e below (s₁.setTop (mkF m 41 #[.val (.ref a), .val (.int sa), .val (.int ea), .val (.int sm), .val (.int wt), .val (.int i), .val (.int (((own_at vs dv i) - (48 : Int32)) * wt))] [(.int ((((own_at vs dv i) - (48 : Int32)) * wt) - (9 : Int32))), (.int sm)])) τ
          refine XS.goto X0.here hx rfl (pc0 := 41) (pc' := 46) rfl (hb hby d2_41) (by decide) (by decide) ?_
          show Steps p.tables e below (s₁.setTop (mkF m 46 #[.val (.ref a), .val (.int sa), .val (.int ea), .val (.int sm), .val (.int wt), .val (.int i), .val (.int (((own_at vs dv i) - (48 : Int32)) * wt))] [(.int ((((own_at vs dv i) - (48 : Int32)) * wt) - (9 : Int32))), (.int sm)])) τ
          refine XS.iadd X0.here hx rfl (hb hby d2_46) rfl ?_
          show Steps p.tables e below (s₁.setTop (mkF m 47 #[.val (.ref a), .val (.int sa), .val (.int ea), .val (.int sm), .val (.int wt), .val (.int i), .val (.int (((own_at vs dv i) - (48 : Int32)) * wt))] [(.int (sm + ((((own_at vs dv i) - (48 : Int32)) * wt) - (9 : Int32))))])) τ
          refine XS.istoreN X0.here hx rfl (hb hby d2_47) rfl (l' := #[.val (.ref a), .val (.int sa), .val (.int ea), .val (.int (sm + ((((own_at vs dv i) - (48 : Int32)) * wt) - (9 : Int32)))), .val (.int wt), .val (.int i), .val (.int (((own_at vs dv i) - (48 : Int32)) * wt))]) rfl ?_
          show Steps p.tables e below (s₁.setTop (mkF m 48 #[.val (.ref a), .val (.int sa), .val (.int ea), .val (.int (sm + ((((own_at vs dv i) - (48 : Int32)) * wt) - (9 : Int32)))), .val (.int wt), .val (.int i), .val (.int (((own_at vs dv i) - (48 : Int32)) * wt))] [])) τ
          refine XS.iconst X0.here hx rfl (hb hby d2_48) ?_
          show Steps p.tables e below (s₁.setTop (mkF m 49 #[.val (.ref a), .val (.int sa), .val (.int ea), .val (.int (sm + ((((own_at vs dv i) - (48 : Int32)) * wt) - (9 : Int32)))), .val (.int wt), .val (.int i), .val (.int (((own_at vs dv i) - (48 : Int32)) * wt))] [(.int (3 : Int32))])) τ
          refine XS.iload X0.here hx rfl (hb hby d2_49) rfl ?_
          show Steps p.tables e below (s₁.setTop (mkF m 51 #[.val (.ref a), .val (.int sa), .val (.int ea), .val (.int (sm + ((((own_at vs dv i) - (48 : Int32)) * wt) - (9 : Int32)))), .val (.int wt), .val (.int i), .val (.int (((own_at vs dv i) - (48 : Int32)) * wt))] [(.int wt), (.int (3 : Int32))])) τ
          refine XS.isub X0.here hx rfl (hb hby d2_51) rfl ?_
          show Steps p.tables e below (s₁.setTop (mkF m 52 #[.val (.ref a), .val (.int sa), .val (.int ea), .val (.int (sm + ((((own_at vs dv i) - (48 : Int32)) * wt) - (9 : Int32)))), .val (.int wt), .val (.int i), .val (.int (((own_at vs dv i) - (48 : Int32)) * wt))] [(.int ((3 : Int32) - wt))])) τ
          refine XS.istore X0.here hx rfl (hb hby d2_52) rfl (l' := #[.val (.ref a), .val (.int sa), .val (.int ea), .val (.int (sm + ((((own_at vs dv i) - (48 : Int32)) * wt) - (9 : Int32)))), .val (.int ((3 : Int32) - wt)), .val (.int i), .val (.int (((own_at vs dv i) - (48 : Int32)) * wt))]) rfl ?_
          show Steps p.tables e below (s₁.setTop (mkF m 54 #[.val (.ref a), .val (.int sa), .val (.int ea), .val (.int (sm + ((((own_at vs dv i) - (48 : Int32)) * wt) - (9 : Int32)))), .val (.int ((3 : Int32) - wt)), .val (.int i), .val (.int (((own_at vs dv i) - (48 : Int32)) * wt))] [])) τ
          refine XS.iinc X0.here hx rfl (hb hby d2_54) rfl (l' := #[.val (.ref a), .val (.int sa), .val (.int ea), .val (.int (sm + ((((own_at vs dv i) - (48 : Int32)) * wt) - (9 : Int32)))), .val (.int ((3 : Int32) - wt)), .val (.int (i + (-1 : Int32))), .val (.int (((own_at vs dv i) - (48 : Int32)) * wt))]) rfl ?_
          show Steps p.tables e below (s₁.setTop (mkF m 57 #[.val (.ref a), .val (.int sa), .val (.int ea), .val (.int (sm + ((((own_at vs dv i) - (48 : Int32)) * wt) - (9 : Int32)))), .val (.int ((3 : Int32) - wt)), .val (.int (i + (-1 : Int32))), .val (.int (((own_at vs dv i) - (48 : Int32)) * wt))] [])) τ
          refine XS.goto X0.here hx rfl (pc0 := 57) (pc' := 10) rfl (hb hby d2_57) (by decide) (by decide) ?_
          show Steps p.tables e below (s₁.setTop (mkF m 10 #[.val (.ref a), .val (.int sa), .val (.int ea), .val (.int (sm + ((((own_at vs dv i) - (48 : Int32)) * wt) - (9 : Int32)))), .val (.int ((3 : Int32) - wt)), .val (.int (i + (-1 : Int32))), .val (.int (((own_at vs dv i) - (48 : Int32)) * wt))] [])) τ
          exact κ)
        exact ih (i + (-1 : Int32)) (sm + ((((own_at vs dv i) - (48 : Int32)) * wt) - (9 : Int32))) ((3 : Int32) - wt) (.val (.int (((own_at vs dv i) - (48 : Int32)) * wt))) (One.val rfl) (own_i2 hs0 hn) (own_i3 hs0 hn hi) (hres ▸ own_lpt vs dv n i sm wt hc33_6) pre
      ·
        have pre : ∀ τ, Steps p.tables e below (s₁.setTop (mkF m 10 #[.val (.ref a), .val (.int sa), .val (.int ea), .val (.int (sm + (((own_at vs dv i) - (48 : Int32)) * wt))), .val (.int ((3 : Int32) - wt)), .val (.int (i + (-1 : Int32))), .val (.int (((own_at vs dv i) - (48 : Int32)) * wt))] [])) τ → G τ := fun τ κ => pre τ (by
          refine XS.icmpYes X0.here hx rfl (pc0 := 33) (pc' := 44) rfl (hb hby d2_33) rfl (flt hc33_6).2.2.2 (by decide) (by decide) ?_
          show Steps p.tables e below (s₁.setTop (mkF m 44 #[.val (.ref a), .val (.int sa), .val (.int ea), .val (.int sm), .val (.int wt), .val (.int i), .val (.int (((own_at vs dv i) - (48 : Int32)) * wt))] [(.int sm)])) τ
          refine XS.iload X0.here hx rfl (hb hby d2_44) rfl ?_
          show Steps p.tables e below (s₁.setTop (mkF m 46 #[.val (.ref a), .val (.int sa), .val (.int ea), .val (.int sm), .val (.int wt), .val (.int i), .val (.int (((own_at vs dv i) - (48 : Int32)) * wt))] [(.int (((own_at vs dv i) - (48 : Int32)) * wt)), (.int sm)])) τ
          refine XS.iadd X0.here hx rfl (hb hby d2_46) rfl ?_
          show Steps p.tables e below (s₁.setTop (mkF m 47 #[.val (.ref a), .val (.int sa), .val (.int ea), .val (.int sm), .val (.int wt), .val (.int i), .val (.int (((own_at vs dv i) - (48 : Int32)) * wt))] [(.int (sm + (((own_at vs dv i) - (48 : Int32)) * wt)))])) τ
          refine XS.istoreN X0.here hx rfl (hb hby d2_47) rfl (l' := #[.val (.ref a), .val (.int sa), .val (.int ea), .val (.int (sm + (((own_at vs dv i) - (48 : Int32)) * wt))), .val (.int wt), .val (.int i), .val (.int (((own_at vs dv i) - (48 : Int32)) * wt))]) rfl ?_
          show Steps p.tables e below (s₁.setTop (mkF m 48 #[.val (.ref a), .val (.int sa), .val (.int ea), .val (.int (sm + (((own_at vs dv i) - (48 : Int32)) * wt))), .val (.int wt), .val (.int i), .val (.int (((own_at vs dv i) - (48 : Int32)) * wt))] [])) τ
          refine XS.iconst X0.here hx rfl (hb hby d2_48) ?_
          show Steps p.tables e below (s₁.setTop (mkF m 49 #[.val (.ref a), .val (.int sa), .val (.int ea), .val (.int (sm + (((own_at vs dv i) - (48 : Int32)) * wt))), .val (.int wt), .val (.int i), .val (.int (((own_at vs dv i) - (48 : Int32)) * wt))] [(.int (3 : Int32))])) τ
          refine XS.iload X0.here hx rfl (hb hby d2_49) rfl ?_
          show Steps p.tables e below (s₁.setTop (mkF m 51 #[.val (.ref a), .val (.int sa), .val (.int ea), .val (.int (sm + (((own_at vs dv i) - (48 : Int32)) * wt))), .val (.int wt), .val (.int i), .val (.int (((own_at vs dv i) - (48 : Int32)) * wt))] [(.int wt), (.int (3 : Int32))])) τ
          refine XS.isub X0.here hx rfl (hb hby d2_51) rfl ?_
          show Steps p.tables e below (s₁.setTop (mkF m 52 #[.val (.ref a), .val (.int sa), .val (.int ea), .val (.int (sm + (((own_at vs dv i) - (48 : Int32)) * wt))), .val (.int wt), .val (.int i), .val (.int (((own_at vs dv i) - (48 : Int32)) * wt))] [(.int ((3 : Int32) - wt))])) τ
          refine XS.istore X0.here hx rfl (hb hby d2_52) rfl (l' := #[.val (.ref a), .val (.int sa), .val (.int ea), .val (.int (sm + (((own_at vs dv i) - (48 : Int32)) * wt))), .val (.int ((3 : Int32) - wt)), .val (.int i), .val (.int (((own_at vs dv i) - (48 : Int32)) * wt))]) rfl ?_
          show Steps p.tables e below (s₁.setTop (mkF m 54 #[.val (.ref a), .val (.int sa), .val (.int ea), .val (.int (sm + (((own_at vs dv i) - (48 : Int32)) * wt))), .val (.int ((3 : Int32) - wt)), .val (.int i), .val (.int (((own_at vs dv i) - (48 : Int32)) * wt))] [])) τ
          refine XS.iinc X0.here hx rfl (hb hby d2_54) rfl (l' := #[.val (.ref a), .val (.int sa), .val (.int ea), .val (.int (sm + (((own_at vs dv i) - (48 : Int32)) * wt))), .val (.int ((3 : Int32) - wt)), .val (.int (i + (-1 : Int32))), .val (.int (((own_at vs dv i) - (48 : Int32)) * wt))]) rfl ?_
          show Steps p.tables e below (s₁.setTop (mkF m 57 #[.val (.ref a), .val (.int sa), .val (.int ea), .val (.int (sm + (((own_at vs dv i) - (48 : Int32)) * wt))), .val (.int ((3 : Int32) - wt)), .val (.int (i + (-1 : Int32))), .val (.int (((own_at vs dv i) - (48 : Int32)) * wt))] [])) τ
          refine XS.goto X0.here hx rfl (pc0 := 57) (pc' := 10) rfl (hb hby d2_57) (by decide) (by decide) ?_
          show Steps p.tables e below (s₁.setTop (mkF m 10 #[.val (.ref a), .val (.int sa), .val (.int ea), .val (.int (sm + (((own_at vs dv i) - (48 : Int32)) * wt))), .val (.int ((3 : Int32) - wt)), .val (.int (i + (-1 : Int32))), .val (.int (((own_at vs dv i) - (48 : Int32)) * wt))] [])) τ
          exact κ)
        exact ih (i + (-1 : Int32)) (sm + (((own_at vs dv i) - (48 : Int32)) * wt)) ((3 : Int32) - wt) (.val (.int (((own_at vs dv i) - (48 : Int32)) * wt))) (One.val rfl) (own_i2 hs0 hn) (own_i3 hs0 hn hi) (hres ▸ own_lpf vs dv n i sm wt hc33_6) pre
  exact loop (ea.toInt - sa.toInt).toNat (ea - (1 : Int32)) (0 : Int32) (2 : Int32) .unset One.u (own_i0 hs0 hse) (own_i1 hs0 hse) rfl pre
theorem pd_0 : parseMethodDescriptor "(IIII)I" = some ⟨[.int, .int, .int, .int], some .int⟩ := by decide +kernel
theorem pd_1 : parseMethodDescriptor "([BII)I" = some ⟨[(.array .byte), .int, .int], some .int⟩ := by decide +kernel
theorem ef_0 (m : MethodId) (x0 : Int32) (x1 : Int32) (x2 : Int32) (x3 : Int32) : entryFrame m #[(.int x0), (.int x1), (.int x2), (.int x3)] maxLocals = mkF m 0 #[.val (.int x0), .val (.int x1), .val (.int x2), .val (.int x3), .unset, .unset, .unset, .unset, .unset, .unset, .unset, .unset, .unset, .unset, .unset, .unset, .unset, .unset] [] := by first | (simp [entryFrame, mkF, argsToLocals, Value.category, maxLocals]; done) | rfl
def Q0 (Z : State) (p1 : Int32) (p2 : Int32) (p3 : Int32) (p4 : Int32) (h0 : Heap) (n0 : Nat) (vα : Option Value) (hα : Heap) (Lα : List Loc) : Prop := vα = some (.int (1 : Int32)) ∧ Fr n0 Lα
set_option maxRecDepth 65536 in
set_option maxHeartbeats 40000000 in
theorem rm0 (l : Launch) (Z : State) (a0 : Array Value) (hw : ∀ d ∈ tables_1, d.before a0 Z = true) (ws : List Jvm.Cond) (p1 : Int32) (p2 : Int32) (p3 : Int32) (p4 : Int32) (h0 : Heap) (n0 : Nat) (Z0 : n0 ≤ h0.size) :
    MetFree l x (head1 (Jvm.Cond.code x code maxLocals ret :: ws) room_1) (fun aα U => aα = #[(.int p1), (.int p2), (.int p3), (.int p4)] ∧ Z.Warmed39 U.vm ∧ U.heap = h0) (fun _ _ _ _ _ => True) (fun _ U oα U' => ∃ vα Lα, oα = .returned vα ∧ Q0 Z p1 p2 p3 p4 h0 n0 vα U'.heap Lα ∧ FrameEnd U oα U' Lα room_1.cells room_1.slots) := by
  refine MetFree.of_bodySF (plainFor_of_name pn_0) hisR ?_
  intro p e s m args below meth c s₁ Bd hml0 hP hK
  refine own_wrap ?_
  intro GL hGL
  obtain ⟨rfl, hZ, hh⟩ := hP
  have hx := Bd.exec
  have hby := Bd.bytes
  have hml : c.maxLocals = 18 := hml0
  have hown : s.vm.findClass "com/example/campo_livre/campolivre/CheckDigitsModulo10PinLaw" = some m.cls := findClass_of_methodNamed Bd.named
  have hnm := (name_of_methodNamed Bd.named Bd.method).1
  have X0 : Stand p l e room_1 s m #[(.int p1), (.int p2), (.int p3), (.int p4)] below meth c s₁ [] 0 0 := Stand.of_body Bd
  have e0 : s₁.heap = h0 := by rw [← hh, Bd.state]; rfl
  have N0 := Fr.nil n0
  have pre0 : ∀ τ, Steps p.tables e below (s₁.setTop (mkF m 0 #[.val (.int p1), .val (.int p2), .val (.int p3), .val (.int p4), .unset, .unset, .unset, .unset, .unset, .unset, .unset, .unset, .unset, .unset, .unset, .unset, .unset, .unset] [])) τ → Steps p.tables e below (s₁.setTop (entryFrame m #[(.int p1), (.int p2), (.int p3), (.int p4)] maxLocals)) τ := fun τ κ => castTop (ef_0 m p1 p2 p3 p4) κ
  obtain ⟨G, hG, pre⟩ : ∃ G : State → Prop, (∀ τ, G τ → Steps p.tables e below (s₁.setTop (entryFrame m #[(.int p1), (.int p2), (.int p3), (.int p4)] maxLocals)) τ) ∧ ∀ τ, Steps p.tables e below (s₁.setTop (mkF m 0 #[.val (.int p1), .val (.int p2), .val (.int p3), .val (.int p4), .unset, .unset, .unset, .unset, .unset, .unset, .unset, .unset, .unset, .unset, .unset, .unset, .unset, .unset] [])) τ → G τ := ⟨_, pre0, fun _ k => k⟩
  have Zn := Z0
  have pre : ∀ τ, Steps p.tables e below (s₁.setTop (mkF m 69 #[.val (.int p1), .val (.int p2), .val (.int p3), .val (.int p4), .val (.int ((p1 &&& (2147483647 : Int32)) % (100 : Int32))), .val (.int ((p2 &&& (2147483647 : Int32)) % (100 : Int32))), .val (.int ((p3 &&& (2147483647 : Int32)) % (100 : Int32))), .val (.int (((p1 &&& (2147483647 : Int32)) % (100 : Int32)) / (10 : Int32))), .val (.int (((p1 &&& (2147483647 : Int32)) % (100 : Int32)) % (10 : Int32))), .val (.int (((p2 &&& (2147483647 : Int32)) % (100 : Int32)) / (10 : Int32))), .val (.int (((p2 &&& (2147483647 : Int32)) % (100 : Int32)) % (10 : Int32))), .val (.int (((p3 &&& (2147483647 : Int32)) % (100 : Int32)) / (10 : Int32))), .val (.int (((p3 &&& (2147483647 : Int32)) % (100 : Int32)) % (10 : Int32))), .unset, .unset, .unset, .unset, .unset] [])) τ → G τ := fun τ κ => pre τ (by
    refine XS.iloadN X0.here hx rfl (hb hby at_0) rfl ?_
    show Steps p.tables e below (s₁.setTop (mkF m 1 #[.val (.int p1), .val (.int p2), .val (.int p3), .val (.int p4), .unset, .unset, .unset, .unset, .unset, .unset, .unset, .unset, .unset, .unset, .unset, .unset, .unset, .unset] [(.int p1)])) τ
    refine X0.ldcInt hx hown (mvT hZ (hw _ (List.mem_of_getElem? (i := 0) rfl))) (g := (mkF m 1 #[.val (.int p1), .val (.int p2), .val (.int p3), .val (.int p4), .unset, .unset, .unset, .unset, .unset, .unset, .unset, .unset, .unset, .unset, .unset, .unset, .unset, .unset] [(.int p1)])) rfl (hb hby at_1) _ ?_
    show Steps p.tables e below (s₁.setTop (mkF m 3 #[.val (.int p1), .val (.int p2), .val (.int p3), .val (.int p4), .unset, .unset, .unset, .unset, .unset, .unset, .unset, .unset, .unset, .unset, .unset, .unset, .unset, .unset] [(.int (2147483647 : Int32)), (.int p1)])) τ
    refine XS.iand X0.here hx rfl (hb hby at_3) rfl ?_
    show Steps p.tables e below (s₁.setTop (mkF m 4 #[.val (.int p1), .val (.int p2), .val (.int p3), .val (.int p4), .unset, .unset, .unset, .unset, .unset, .unset, .unset, .unset, .unset, .unset, .unset, .unset, .unset, .unset] [(.int (p1 &&& (2147483647 : Int32)))])) τ
    refine XS.bipush X0.here hx rfl (hb hby at_4) ?_
    show Steps p.tables e below (s₁.setTop (mkF m 6 #[.val (.int p1), .val (.int p2), .val (.int p3), .val (.int p4), .unset, .unset, .unset, .unset, .unset, .unset, .unset, .unset, .unset, .unset, .unset, .unset, .unset, .unset] [(.int (100 : Int32)), (.int (p1 &&& (2147483647 : Int32)))])) τ
    refine iremM X0 hx rfl (hb hby at_6) rfl (by decide) ?_
    show Steps p.tables e below (s₁.setTop (mkF m 7 #[.val (.int p1), .val (.int p2), .val (.int p3), .val (.int p4), .unset, .unset, .unset, .unset, .unset, .unset, .unset, .unset, .unset, .unset, .unset, .unset, .unset, .unset] [(.int ((p1 &&& (2147483647 : Int32)) % (100 : Int32)))])) τ
    refine XS.istore X0.here hx rfl (hb hby at_7) rfl (l' := #[.val (.int p1), .val (.int p2), .val (.int p3), .val (.int p4), .val (.int ((p1 &&& (2147483647 : Int32)) % (100 : Int32))), .unset, .unset, .unset, .unset, .unset, .unset, .unset, .unset, .unset, .unset, .unset, .unset, .unset]) rfl ?_
    show Steps p.tables e below (s₁.setTop (mkF m 9 #[.val (.int p1), .val (.int p2), .val (.int p3), .val (.int p4), .val (.int ((p1 &&& (2147483647 : Int32)) % (100 : Int32))), .unset, .unset, .unset, .unset, .unset, .unset, .unset, .unset, .unset, .unset, .unset, .unset, .unset] [])) τ
    refine XS.iloadN X0.here hx rfl (hb hby at_9) rfl ?_
    show Steps p.tables e below (s₁.setTop (mkF m 10 #[.val (.int p1), .val (.int p2), .val (.int p3), .val (.int p4), .val (.int ((p1 &&& (2147483647 : Int32)) % (100 : Int32))), .unset, .unset, .unset, .unset, .unset, .unset, .unset, .unset, .unset, .unset, .unset, .unset, .unset] [(.int p2)])) τ
    refine X0.ldcInt hx hown (mvT hZ (hw _ (List.mem_of_getElem? (i := 0) rfl))) (g := (mkF m 10 #[.val (.int p1), .val (.int p2), .val (.int p3), .val (.int p4), .val (.int ((p1 &&& (2147483647 : Int32)) % (100 : Int32))), .unset, .unset, .unset, .unset, .unset, .unset, .unset, .unset, .unset, .unset, .unset, .unset, .unset] [(.int p2)])) rfl (hb hby at_10) _ ?_
    show Steps p.tables e below (s₁.setTop (mkF m 12 #[.val (.int p1), .val (.int p2), .val (.int p3), .val (.int p4), .val (.int ((p1 &&& (2147483647 : Int32)) % (100 : Int32))), .unset, .unset, .unset, .unset, .unset, .unset, .unset, .unset, .unset, .unset, .unset, .unset, .unset] [(.int (2147483647 : Int32)), (.int p2)])) τ
    refine XS.iand X0.here hx rfl (hb hby at_12) rfl ?_
    show Steps p.tables e below (s₁.setTop (mkF m 13 #[.val (.int p1), .val (.int p2), .val (.int p3), .val (.int p4), .val (.int ((p1 &&& (2147483647 : Int32)) % (100 : Int32))), .unset, .unset, .unset, .unset, .unset, .unset, .unset, .unset, .unset, .unset, .unset, .unset, .unset] [(.int (p2 &&& (2147483647 : Int32)))])) τ
    refine XS.bipush X0.here hx rfl (hb hby at_13) ?_
    show Steps p.tables e below (s₁.setTop (mkF m 15 #[.val (.int p1), .val (.int p2), .val (.int p3), .val (.int p4), .val (.int ((p1 &&& (2147483647 : Int32)) % (100 : Int32))), .unset, .unset, .unset, .unset, .unset, .unset, .unset, .unset, .unset, .unset, .unset, .unset, .unset] [(.int (100 : Int32)), (.int (p2 &&& (2147483647 : Int32)))])) τ
    refine iremM X0 hx rfl (hb hby at_15) rfl (by decide) ?_
    show Steps p.tables e below (s₁.setTop (mkF m 16 #[.val (.int p1), .val (.int p2), .val (.int p3), .val (.int p4), .val (.int ((p1 &&& (2147483647 : Int32)) % (100 : Int32))), .unset, .unset, .unset, .unset, .unset, .unset, .unset, .unset, .unset, .unset, .unset, .unset, .unset] [(.int ((p2 &&& (2147483647 : Int32)) % (100 : Int32)))])) τ
    refine XS.istore X0.here hx rfl (hb hby at_16) rfl (l' := #[.val (.int p1), .val (.int p2), .val (.int p3), .val (.int p4), .val (.int ((p1 &&& (2147483647 : Int32)) % (100 : Int32))), .val (.int ((p2 &&& (2147483647 : Int32)) % (100 : Int32))), .unset, .unset, .unset, .unset, .unset, .unset, .unset, .unset, .unset, .unset, .unset, .unset]) rfl ?_
    show Steps p.tables e below (s₁.setTop (mkF m 18 #[.val (.int p1), .val (.int p2), .val (.int p3), .val (.int p4), .val (.int ((p1 &&& (2147483647 : Int32)) % (100 : Int32))), .val (.int ((p2 &&& (2147483647 : Int32)) % (100 : Int32))), .unset, .unset, .unset, .unset, .unset, .unset, .unset, .unset, .unset, .unset, .unset, .unset] [])) τ
    refine XS.iloadN X0.here hx rfl (hb hby at_18) rfl ?_
    show Steps p.tables e below (s₁.setTop (mkF m 19 #[.val (.int p1), .val (.int p2), .val (.int p3), .val (.int p4), .val (.int ((p1 &&& (2147483647 : Int32)) % (100 : Int32))), .val (.int ((p2 &&& (2147483647 : Int32)) % (100 : Int32))), .unset, .unset, .unset, .unset, .unset, .unset, .unset, .unset, .unset, .unset, .unset, .unset] [(.int p3)])) τ
    refine X0.ldcInt hx hown (mvT hZ (hw _ (List.mem_of_getElem? (i := 0) rfl))) (g := (mkF m 19 #[.val (.int p1), .val (.int p2), .val (.int p3), .val (.int p4), .val (.int ((p1 &&& (2147483647 : Int32)) % (100 : Int32))), .val (.int ((p2 &&& (2147483647 : Int32)) % (100 : Int32))), .unset, .unset, .unset, .unset, .unset, .unset, .unset, .unset, .unset, .unset, .unset, .unset] [(.int p3)])) rfl (hb hby at_19) _ ?_
    show Steps p.tables e below (s₁.setTop (mkF m 21 #[.val (.int p1), .val (.int p2), .val (.int p3), .val (.int p4), .val (.int ((p1 &&& (2147483647 : Int32)) % (100 : Int32))), .val (.int ((p2 &&& (2147483647 : Int32)) % (100 : Int32))), .unset, .unset, .unset, .unset, .unset, .unset, .unset, .unset, .unset, .unset, .unset, .unset] [(.int (2147483647 : Int32)), (.int p3)])) τ
    refine XS.iand X0.here hx rfl (hb hby at_21) rfl ?_
    show Steps p.tables e below (s₁.setTop (mkF m 22 #[.val (.int p1), .val (.int p2), .val (.int p3), .val (.int p4), .val (.int ((p1 &&& (2147483647 : Int32)) % (100 : Int32))), .val (.int ((p2 &&& (2147483647 : Int32)) % (100 : Int32))), .unset, .unset, .unset, .unset, .unset, .unset, .unset, .unset, .unset, .unset, .unset, .unset] [(.int (p3 &&& (2147483647 : Int32)))])) τ
    refine XS.bipush X0.here hx rfl (hb hby at_22) ?_
    show Steps p.tables e below (s₁.setTop (mkF m 24 #[.val (.int p1), .val (.int p2), .val (.int p3), .val (.int p4), .val (.int ((p1 &&& (2147483647 : Int32)) % (100 : Int32))), .val (.int ((p2 &&& (2147483647 : Int32)) % (100 : Int32))), .unset, .unset, .unset, .unset, .unset, .unset, .unset, .unset, .unset, .unset, .unset, .unset] [(.int (100 : Int32)), (.int (p3 &&& (2147483647 : Int32)))])) τ
    refine iremM X0 hx rfl (hb hby at_24) rfl (by decide) ?_
    show Steps p.tables e below (s₁.setTop (mkF m 25 #[.val (.int p1), .val (.int p2), .val (.int p3), .val (.int p4), .val (.int ((p1 &&& (2147483647 : Int32)) % (100 : Int32))), .val (.int ((p2 &&& (2147483647 : Int32)) % (100 : Int32))), .unset, .unset, .unset, .unset, .unset, .unset, .unset, .unset, .unset, .unset, .unset, .unset] [(.int ((p3 &&& (2147483647 : Int32)) % (100 : Int32)))])) τ
    refine XS.istore X0.here hx rfl (hb hby at_25) rfl (l' := #[.val (.int p1), .val (.int p2), .val (.int p3), .val (.int p4), .val (.int ((p1 &&& (2147483647 : Int32)) % (100 : Int32))), .val (.int ((p2 &&& (2147483647 : Int32)) % (100 : Int32))), .val (.int ((p3 &&& (2147483647 : Int32)) % (100 : Int32))), .unset, .unset, .unset, .unset, .unset, .unset, .unset, .unset, .unset, .unset, .unset]) rfl ?_
    show Steps p.tables e below (s₁.setTop (mkF m 27 #[.val (.int p1), .val (.int p2), .val (.int p3), .val (.int p4), .val (.int ((p1 &&& (2147483647 : Int32)) % (100 : Int32))), .val (.int ((p2 &&& (2147483647 : Int32)) % (100 : Int32))), .val (.int ((p3 &&& (2147483647 : Int32)) % (100 : Int32))), .unset, .unset, .unset, .unset, .unset, .unset, .unset, .unset, .unset, .unset, .unset] [])) τ
    refine XS.iload X0.here hx rfl (hb hby at_27) rfl ?_
    show Steps p.tables e below (s₁.setTop (mkF m 29 #[.val (.int p1), .val (.int p2), .val (.int p3), .val (.int p4), .val (.int ((p1 &&& (2147483647 : Int32)) % (100 : Int32))), .val (.int ((p2 &&& (2147483647 : Int32)) % (100 : Int32))), .val (.int ((p3 &&& (2147483647 : Int32)) % (100 : Int32))), .unset, .unset, .unset, .unset, .unset, .unset, .unset, .unset, .unset, .unset, .unset] [(.int ((p1 &&& (2147483647 : Int32)) % (100 : Int32)))])) τ
    refine XS.bipush X0.here hx rfl (hb hby at_29) ?_
    show Steps p.tables e below (s₁.setTop (mkF m 31 #[.val (.int p1), .val (.int p2), .val (.int p3), .val (.int p4), .val (.int ((p1 &&& (2147483647 : Int32)) % (100 : Int32))), .val (.int ((p2 &&& (2147483647 : Int32)) % (100 : Int32))), .val (.int ((p3 &&& (2147483647 : Int32)) % (100 : Int32))), .unset, .unset, .unset, .unset, .unset, .unset, .unset, .unset, .unset, .unset, .unset] [(.int (10 : Int32)), (.int ((p1 &&& (2147483647 : Int32)) % (100 : Int32)))])) τ
    refine XS.idiv X0.here hx rfl (hb hby at_31) rfl (by decide) ?_
    show Steps p.tables e below (s₁.setTop (mkF m 32 #[.val (.int p1), .val (.int p2), .val (.int p3), .val (.int p4), .val (.int ((p1 &&& (2147483647 : Int32)) % (100 : Int32))), .val (.int ((p2 &&& (2147483647 : Int32)) % (100 : Int32))), .val (.int ((p3 &&& (2147483647 : Int32)) % (100 : Int32))), .unset, .unset, .unset, .unset, .unset, .unset, .unset, .unset, .unset, .unset, .unset] [(.int (((p1 &&& (2147483647 : Int32)) % (100 : Int32)) / (10 : Int32)))])) τ
    refine XS.istore X0.here hx rfl (hb hby at_32) rfl (l' := #[.val (.int p1), .val (.int p2), .val (.int p3), .val (.int p4), .val (.int ((p1 &&& (2147483647 : Int32)) % (100 : Int32))), .val (.int ((p2 &&& (2147483647 : Int32)) % (100 : Int32))), .val (.int ((p3 &&& (2147483647 : Int32)) % (100 : Int32))), .val (.int (((p1 &&& (2147483647 : Int32)) % (100 : Int32)) / (10 : Int32))), .unset, .unset, .unset, .unset, .unset, .unset, .unset, .unset, .unset, .unset]) rfl ?_
    show Steps p.tables e below (s₁.setTop (mkF m 34 #[.val (.int p1), .val (.int p2), .val (.int p3), .val (.int p4), .val (.int ((p1 &&& (2147483647 : Int32)) % (100 : Int32))), .val (.int ((p2 &&& (2147483647 : Int32)) % (100 : Int32))), .val (.int ((p3 &&& (2147483647 : Int32)) % (100 : Int32))), .val (.int (((p1 &&& (2147483647 : Int32)) % (100 : Int32)) / (10 : Int32))), .unset, .unset, .unset, .unset, .unset, .unset, .unset, .unset, .unset, .unset] [])) τ
    refine XS.iload X0.here hx rfl (hb hby at_34) rfl ?_
    show Steps p.tables e below (s₁.setTop (mkF m 36 #[.val (.int p1), .val (.int p2), .val (.int p3), .val (.int p4), .val (.int ((p1 &&& (2147483647 : Int32)) % (100 : Int32))), .val (.int ((p2 &&& (2147483647 : Int32)) % (100 : Int32))), .val (.int ((p3 &&& (2147483647 : Int32)) % (100 : Int32))), .val (.int (((p1 &&& (2147483647 : Int32)) % (100 : Int32)) / (10 : Int32))), .unset, .unset, .unset, .unset, .unset, .unset, .unset, .unset, .unset, .unset] [(.int ((p1 &&& (2147483647 : Int32)) % (100 : Int32)))])) τ
    refine XS.bipush X0.here hx rfl (hb hby at_36) ?_
    show Steps p.tables e below (s₁.setTop (mkF m 38 #[.val (.int p1), .val (.int p2), .val (.int p3), .val (.int p4), .val (.int ((p1 &&& (2147483647 : Int32)) % (100 : Int32))), .val (.int ((p2 &&& (2147483647 : Int32)) % (100 : Int32))), .val (.int ((p3 &&& (2147483647 : Int32)) % (100 : Int32))), .val (.int (((p1 &&& (2147483647 : Int32)) % (100 : Int32)) / (10 : Int32))), .unset, .unset, .unset, .unset, .unset, .unset, .unset, .unset, .unset, .unset] [(.int (10 : Int32)), (.int ((p1 &&& (2147483647 : Int32)) % (100 : Int32)))])) τ
    refine iremM X0 hx rfl (hb hby at_38) rfl (by decide) ?_
    show Steps p.tables e below (s₁.setTop (mkF m 39 #[.val (.int p1), .val (.int p2), .val (.int p3), .val (.int p4), .val (.int ((p1 &&& (2147483647 : Int32)) % (100 : Int32))), .val (.int ((p2 &&& (2147483647 : Int32)) % (100 : Int32))), .val (.int ((p3 &&& (2147483647 : Int32)) % (100 : Int32))), .val (.int (((p1 &&& (2147483647 : Int32)) % (100 : Int32)) / (10 : Int32))), .unset, .unset, .unset, .unset, .unset, .unset, .unset, .unset, .unset, .unset] [(.int (((p1 &&& (2147483647 : Int32)) % (100 : Int32)) % (10 : Int32)))])) τ
    refine XS.istore X0.here hx rfl (hb hby at_39) rfl (l' := #[.val (.int p1), .val (.int p2), .val (.int p3), .val (.int p4), .val (.int ((p1 &&& (2147483647 : Int32)) % (100 : Int32))), .val (.int ((p2 &&& (2147483647 : Int32)) % (100 : Int32))), .val (.int ((p3 &&& (2147483647 : Int32)) % (100 : Int32))), .val (.int (((p1 &&& (2147483647 : Int32)) % (100 : Int32)) / (10 : Int32))), .val (.int (((p1 &&& (2147483647 : Int32)) % (100 : Int32)) % (10 : Int32))), .unset, .unset, .unset, .unset, .unset, .unset, .unset, .unset, .unset]) rfl ?_
    show Steps p.tables e below (s₁.setTop (mkF m 41 #[.val (.int p1), .val (.int p2), .val (.int p3), .val (.int p4), .val (.int ((p1 &&& (2147483647 : Int32)) % (100 : Int32))), .val (.int ((p2 &&& (2147483647 : Int32)) % (100 : Int32))), .val (.int ((p3 &&& (2147483647 : Int32)) % (100 : Int32))), .val (.int (((p1 &&& (2147483647 : Int32)) % (100 : Int32)) / (10 : Int32))), .val (.int (((p1 &&& (2147483647 : Int32)) % (100 : Int32)) % (10 : Int32))), .unset, .unset, .unset, .unset, .unset, .unset, .unset, .unset, .unset] [])) τ
    refine XS.iload X0.here hx rfl (hb hby at_41) rfl ?_
    show Steps p.tables e below (s₁.setTop (mkF m 43 #[.val (.int p1), .val (.int p2), .val (.int p3), .val (.int p4), .val (.int ((p1 &&& (2147483647 : Int32)) % (100 : Int32))), .val (.int ((p2 &&& (2147483647 : Int32)) % (100 : Int32))), .val (.int ((p3 &&& (2147483647 : Int32)) % (100 : Int32))), .val (.int (((p1 &&& (2147483647 : Int32)) % (100 : Int32)) / (10 : Int32))), .val (.int (((p1 &&& (2147483647 : Int32)) % (100 : Int32)) % (10 : Int32))), .unset, .unset, .unset, .unset, .unset, .unset, .unset, .unset, .unset] [(.int ((p2 &&& (2147483647 : Int32)) % (100 : Int32)))])) τ
    refine XS.bipush X0.here hx rfl (hb hby at_43) ?_
    show Steps p.tables e below (s₁.setTop (mkF m 45 #[.val (.int p1), .val (.int p2), .val (.int p3), .val (.int p4), .val (.int ((p1 &&& (2147483647 : Int32)) % (100 : Int32))), .val (.int ((p2 &&& (2147483647 : Int32)) % (100 : Int32))), .val (.int ((p3 &&& (2147483647 : Int32)) % (100 : Int32))), .val (.int (((p1 &&& (2147483647 : Int32)) % (100 : Int32)) / (10 : Int32))), .val (.int (((p1 &&& (2147483647 : Int32)) % (100 : Int32)) % (10 : Int32))), .unset, .unset, .unset, .unset, .unset, .unset, .unset, .unset, .unset] [(.int (10 : Int32)), (.int ((p2 &&& (2147483647 : Int32)) % (100 : Int32)))])) τ
    refine XS.idiv X0.here hx rfl (hb hby at_45) rfl (by decide) ?_
    show Steps p.tables e below (s₁.setTop (mkF m 46 #[.val (.int p1), .val (.int p2), .val (.int p3), .val (.int p4), .val (.int ((p1 &&& (2147483647 : Int32)) % (100 : Int32))), .val (.int ((p2 &&& (2147483647 : Int32)) % (100 : Int32))), .val (.int ((p3 &&& (2147483647 : Int32)) % (100 : Int32))), .val (.int (((p1 &&& (2147483647 : Int32)) % (100 : Int32)) / (10 : Int32))), .val (.int (((p1 &&& (2147483647 : Int32)) % (100 : Int32)) % (10 : Int32))), .unset, .unset, .unset, .unset, .unset, .unset, .unset, .unset, .unset] [(.int (((p2 &&& (2147483647 : Int32)) % (100 : Int32)) / (10 : Int32)))])) τ
    refine XS.istore X0.here hx rfl (hb hby at_46) rfl (l' := #[.val (.int p1), .val (.int p2), .val (.int p3), .val (.int p4), .val (.int ((p1 &&& (2147483647 : Int32)) % (100 : Int32))), .val (.int ((p2 &&& (2147483647 : Int32)) % (100 : Int32))), .val (.int ((p3 &&& (2147483647 : Int32)) % (100 : Int32))), .val (.int (((p1 &&& (2147483647 : Int32)) % (100 : Int32)) / (10 : Int32))), .val (.int (((p1 &&& (2147483647 : Int32)) % (100 : Int32)) % (10 : Int32))), .val (.int (((p2 &&& (2147483647 : Int32)) % (100 : Int32)) / (10 : Int32))), .unset, .unset, .unset, .unset, .unset, .unset, .unset, .unset]) rfl ?_
    show Steps p.tables e below (s₁.setTop (mkF m 48 #[.val (.int p1), .val (.int p2), .val (.int p3), .val (.int p4), .val (.int ((p1 &&& (2147483647 : Int32)) % (100 : Int32))), .val (.int ((p2 &&& (2147483647 : Int32)) % (100 : Int32))), .val (.int ((p3 &&& (2147483647 : Int32)) % (100 : Int32))), .val (.int (((p1 &&& (2147483647 : Int32)) % (100 : Int32)) / (10 : Int32))), .val (.int (((p1 &&& (2147483647 : Int32)) % (100 : Int32)) % (10 : Int32))), .val (.int (((p2 &&& (2147483647 : Int32)) % (100 : Int32)) / (10 : Int32))), .unset, .unset, .unset, .unset, .unset, .unset, .unset, .unset] [])) τ
    refine XS.iload X0.here hx rfl (hb hby at_48) rfl ?_
    show Steps p.tables e below (s₁.setTop (mkF m 50 #[.val (.int p1), .val (.int p2), .val (.int p3), .val (.int p4), .val (.int ((p1 &&& (2147483647 : Int32)) % (100 : Int32))), .val (.int ((p2 &&& (2147483647 : Int32)) % (100 : Int32))), .val (.int ((p3 &&& (2147483647 : Int32)) % (100 : Int32))), .val (.int (((p1 &&& (2147483647 : Int32)) % (100 : Int32)) / (10 : Int32))), .val (.int (((p1 &&& (2147483647 : Int32)) % (100 : Int32)) % (10 : Int32))), .val (.int (((p2 &&& (2147483647 : Int32)) % (100 : Int32)) / (10 : Int32))), .unset, .unset, .unset, .unset, .unset, .unset, .unset, .unset] [(.int ((p2 &&& (2147483647 : Int32)) % (100 : Int32)))])) τ
    refine XS.bipush X0.here hx rfl (hb hby at_50) ?_
    show Steps p.tables e below (s₁.setTop (mkF m 52 #[.val (.int p1), .val (.int p2), .val (.int p3), .val (.int p4), .val (.int ((p1 &&& (2147483647 : Int32)) % (100 : Int32))), .val (.int ((p2 &&& (2147483647 : Int32)) % (100 : Int32))), .val (.int ((p3 &&& (2147483647 : Int32)) % (100 : Int32))), .val (.int (((p1 &&& (2147483647 : Int32)) % (100 : Int32)) / (10 : Int32))), .val (.int (((p1 &&& (2147483647 : Int32)) % (100 : Int32)) % (10 : Int32))), .val (.int (((p2 &&& (2147483647 : Int32)) % (100 : Int32)) / (10 : Int32))), .unset, .unset, .unset, .unset, .unset, .unset, .unset, .unset] [(.int (10 : Int32)), (.int ((p2 &&& (2147483647 : Int32)) % (100 : Int32)))])) τ
    refine iremM X0 hx rfl (hb hby at_52) rfl (by decide) ?_
    show Steps p.tables e below (s₁.setTop (mkF m 53 #[.val (.int p1), .val (.int p2), .val (.int p3), .val (.int p4), .val (.int ((p1 &&& (2147483647 : Int32)) % (100 : Int32))), .val (.int ((p2 &&& (2147483647 : Int32)) % (100 : Int32))), .val (.int ((p3 &&& (2147483647 : Int32)) % (100 : Int32))), .val (.int (((p1 &&& (2147483647 : Int32)) % (100 : Int32)) / (10 : Int32))), .val (.int (((p1 &&& (2147483647 : Int32)) % (100 : Int32)) % (10 : Int32))), .val (.int (((p2 &&& (2147483647 : Int32)) % (100 : Int32)) / (10 : Int32))), .unset, .unset, .unset, .unset, .unset, .unset, .unset, .unset] [(.int (((p2 &&& (2147483647 : Int32)) % (100 : Int32)) % (10 : Int32)))])) τ
    refine XS.istore X0.here hx rfl (hb hby at_53) rfl (l' := #[.val (.int p1), .val (.int p2), .val (.int p3), .val (.int p4), .val (.int ((p1 &&& (2147483647 : Int32)) % (100 : Int32))), .val (.int ((p2 &&& (2147483647 : Int32)) % (100 : Int32))), .val (.int ((p3 &&& (2147483647 : Int32)) % (100 : Int32))), .val (.int (((p1 &&& (2147483647 : Int32)) % (100 : Int32)) / (10 : Int32))), .val (.int (((p1 &&& (2147483647 : Int32)) % (100 : Int32)) % (10 : Int32))), .val (.int (((p2 &&& (2147483647 : Int32)) % (100 : Int32)) / (10 : Int32))), .val (.int (((p2 &&& (2147483647 : Int32)) % (100 : Int32)) % (10 : Int32))), .unset, .unset, .unset, .unset, .unset, .unset, .unset]) rfl ?_
    show Steps p.tables e below (s₁.setTop (mkF m 55 #[.val (.int p1), .val (.int p2), .val (.int p3), .val (.int p4), .val (.int ((p1 &&& (2147483647 : Int32)) % (100 : Int32))), .val (.int ((p2 &&& (2147483647 : Int32)) % (100 : Int32))), .val (.int ((p3 &&& (2147483647 : Int32)) % (100 : Int32))), .val (.int (((p1 &&& (2147483647 : Int32)) % (100 : Int32)) / (10 : Int32))), .val (.int (((p1 &&& (2147483647 : Int32)) % (100 : Int32)) % (10 : Int32))), .val (.int (((p2 &&& (2147483647 : Int32)) % (100 : Int32)) / (10 : Int32))), .val (.int (((p2 &&& (2147483647 : Int32)) % (100 : Int32)) % (10 : Int32))), .unset, .unset, .unset, .unset, .unset, .unset, .unset] [])) τ
    refine XS.iload X0.here hx rfl (hb hby at_55) rfl ?_
    show Steps p.tables e below (s₁.setTop (mkF m 57 #[.val (.int p1), .val (.int p2), .val (.int p3), .val (.int p4), .val (.int ((p1 &&& (2147483647 : Int32)) % (100 : Int32))), .val (.int ((p2 &&& (2147483647 : Int32)) % (100 : Int32))), .val (.int ((p3 &&& (2147483647 : Int32)) % (100 : Int32))), .val (.int (((p1 &&& (2147483647 : Int32)) % (100 : Int32)) / (10 : Int32))), .val (.int (((p1 &&& (2147483647 : Int32)) % (100 : Int32)) % (10 : Int32))), .val (.int (((p2 &&& (2147483647 : Int32)) % (100 : Int32)) / (10 : Int32))), .val (.int (((p2 &&& (2147483647 : Int32)) % (100 : Int32)) % (10 : Int32))), .unset, .unset, .unset, .unset, .unset, .unset, .unset] [(.int ((p3 &&& (2147483647 : Int32)) % (100 : Int32)))])) τ
    refine XS.bipush X0.here hx rfl (hb hby at_57) ?_
    show Steps p.tables e below (s₁.setTop (mkF m 59 #[.val (.int p1), .val (.int p2), .val (.int p3), .val (.int p4), .val (.int ((p1 &&& (2147483647 : Int32)) % (100 : Int32))), .val (.int ((p2 &&& (2147483647 : Int32)) % (100 : Int32))), .val (.int ((p3 &&& (2147483647 : Int32)) % (100 : Int32))), .val (.int (((p1 &&& (2147483647 : Int32)) % (100 : Int32)) / (10 : Int32))), .val (.int (((p1 &&& (2147483647 : Int32)) % (100 : Int32)) % (10 : Int32))), .val (.int (((p2 &&& (2147483647 : Int32)) % (100 : Int32)) / (10 : Int32))), .val (.int (((p2 &&& (2147483647 : Int32)) % (100 : Int32)) % (10 : Int32))), .unset, .unset, .unset, .unset, .unset, .unset, .unset] [(.int (10 : Int32)), (.int ((p3 &&& (2147483647 : Int32)) % (100 : Int32)))])) τ
    refine XS.idiv X0.here hx rfl (hb hby at_59) rfl (by decide) ?_
    show Steps p.tables e below (s₁.setTop (mkF m 60 #[.val (.int p1), .val (.int p2), .val (.int p3), .val (.int p4), .val (.int ((p1 &&& (2147483647 : Int32)) % (100 : Int32))), .val (.int ((p2 &&& (2147483647 : Int32)) % (100 : Int32))), .val (.int ((p3 &&& (2147483647 : Int32)) % (100 : Int32))), .val (.int (((p1 &&& (2147483647 : Int32)) % (100 : Int32)) / (10 : Int32))), .val (.int (((p1 &&& (2147483647 : Int32)) % (100 : Int32)) % (10 : Int32))), .val (.int (((p2 &&& (2147483647 : Int32)) % (100 : Int32)) / (10 : Int32))), .val (.int (((p2 &&& (2147483647 : Int32)) % (100 : Int32)) % (10 : Int32))), .unset, .unset, .unset, .unset, .unset, .unset, .unset] [(.int (((p3 &&& (2147483647 : Int32)) % (100 : Int32)) / (10 : Int32)))])) τ
    refine XS.istore X0.here hx rfl (hb hby at_60) rfl (l' := #[.val (.int p1), .val (.int p2), .val (.int p3), .val (.int p4), .val (.int ((p1 &&& (2147483647 : Int32)) % (100 : Int32))), .val (.int ((p2 &&& (2147483647 : Int32)) % (100 : Int32))), .val (.int ((p3 &&& (2147483647 : Int32)) % (100 : Int32))), .val (.int (((p1 &&& (2147483647 : Int32)) % (100 : Int32)) / (10 : Int32))), .val (.int (((p1 &&& (2147483647 : Int32)) % (100 : Int32)) % (10 : Int32))), .val (.int (((p2 &&& (2147483647 : Int32)) % (100 : Int32)) / (10 : Int32))), .val (.int (((p2 &&& (2147483647 : Int32)) % (100 : Int32)) % (10 : Int32))), .val (.int (((p3 &&& (2147483647 : Int32)) % (100 : Int32)) / (10 : Int32))), .unset, .unset, .unset, .unset, .unset, .unset]) rfl ?_
    show Steps p.tables e below (s₁.setTop (mkF m 62 #[.val (.int p1), .val (.int p2), .val (.int p3), .val (.int p4), .val (.int ((p1 &&& (2147483647 : Int32)) % (100 : Int32))), .val (.int ((p2 &&& (2147483647 : Int32)) % (100 : Int32))), .val (.int ((p3 &&& (2147483647 : Int32)) % (100 : Int32))), .val (.int (((p1 &&& (2147483647 : Int32)) % (100 : Int32)) / (10 : Int32))), .val (.int (((p1 &&& (2147483647 : Int32)) % (100 : Int32)) % (10 : Int32))), .val (.int (((p2 &&& (2147483647 : Int32)) % (100 : Int32)) / (10 : Int32))), .val (.int (((p2 &&& (2147483647 : Int32)) % (100 : Int32)) % (10 : Int32))), .val (.int (((p3 &&& (2147483647 : Int32)) % (100 : Int32)) / (10 : Int32))), .unset, .unset, .unset, .unset, .unset, .unset] [])) τ
    refine XS.iload X0.here hx rfl (hb hby at_62) rfl ?_
    show Steps p.tables e below (s₁.setTop (mkF m 64 #[.val (.int p1), .val (.int p2), .val (.int p3), .val (.int p4), .val (.int ((p1 &&& (2147483647 : Int32)) % (100 : Int32))), .val (.int ((p2 &&& (2147483647 : Int32)) % (100 : Int32))), .val (.int ((p3 &&& (2147483647 : Int32)) % (100 : Int32))), .val (.int (((p1 &&& (2147483647 : Int32)) % (100 : Int32)) / (10 : Int32))), .val (.int (((p1 &&& (2147483647 : Int32)) % (100 : Int32)) % (10 : Int32))), .val (.int (((p2 &&& (2147483647 : Int32)) % (100 : Int32)) / (10 : Int32))), .val (.int (((p2 &&& (2147483647 : Int32)) % (100 : Int32)) % (10 : Int32))), .val (.int (((p3 &&& (2147483647 : Int32)) % (100 : Int32)) / (10 : Int32))), .unset, .unset, .unset, .unset, .unset, .unset] [(.int ((p3 &&& (2147483647 : Int32)) % (100 : Int32)))])) τ
    refine XS.bipush X0.here hx rfl (hb hby at_64) ?_
    show Steps p.tables e below (s₁.setTop (mkF m 66 #[.val (.int p1), .val (.int p2), .val (.int p3), .val (.int p4), .val (.int ((p1 &&& (2147483647 : Int32)) % (100 : Int32))), .val (.int ((p2 &&& (2147483647 : Int32)) % (100 : Int32))), .val (.int ((p3 &&& (2147483647 : Int32)) % (100 : Int32))), .val (.int (((p1 &&& (2147483647 : Int32)) % (100 : Int32)) / (10 : Int32))), .val (.int (((p1 &&& (2147483647 : Int32)) % (100 : Int32)) % (10 : Int32))), .val (.int (((p2 &&& (2147483647 : Int32)) % (100 : Int32)) / (10 : Int32))), .val (.int (((p2 &&& (2147483647 : Int32)) % (100 : Int32)) % (10 : Int32))), .val (.int (((p3 &&& (2147483647 : Int32)) % (100 : Int32)) / (10 : Int32))), .unset, .unset, .unset, .unset, .unset, .unset] [(.int (10 : Int32)), (.int ((p3 &&& (2147483647 : Int32)) % (100 : Int32)))])) τ
    refine iremM X0 hx rfl (hb hby at_66) rfl (by decide) ?_
    show Steps p.tables e below (s₁.setTop (mkF m 67 #[.val (.int p1), .val (.int p2), .val (.int p3), .val (.int p4), .val (.int ((p1 &&& (2147483647 : Int32)) % (100 : Int32))), .val (.int ((p2 &&& (2147483647 : Int32)) % (100 : Int32))), .val (.int ((p3 &&& (2147483647 : Int32)) % (100 : Int32))), .val (.int (((p1 &&& (2147483647 : Int32)) % (100 : Int32)) / (10 : Int32))), .val (.int (((p1 &&& (2147483647 : Int32)) % (100 : Int32)) % (10 : Int32))), .val (.int (((p2 &&& (2147483647 : Int32)) % (100 : Int32)) / (10 : Int32))), .val (.int (((p2 &&& (2147483647 : Int32)) % (100 : Int32)) % (10 : Int32))), .val (.int (((p3 &&& (2147483647 : Int32)) % (100 : Int32)) / (10 : Int32))), .unset, .unset, .unset, .unset, .unset, .unset] [(.int (((p3 &&& (2147483647 : Int32)) % (100 : Int32)) % (10 : Int32)))])) τ
    refine XS.istore X0.here hx rfl (hb hby at_67) rfl (l' := #[.val (.int p1), .val (.int p2), .val (.int p3), .val (.int p4), .val (.int ((p1 &&& (2147483647 : Int32)) % (100 : Int32))), .val (.int ((p2 &&& (2147483647 : Int32)) % (100 : Int32))), .val (.int ((p3 &&& (2147483647 : Int32)) % (100 : Int32))), .val (.int (((p1 &&& (2147483647 : Int32)) % (100 : Int32)) / (10 : Int32))), .val (.int (((p1 &&& (2147483647 : Int32)) % (100 : Int32)) % (10 : Int32))), .val (.int (((p2 &&& (2147483647 : Int32)) % (100 : Int32)) / (10 : Int32))), .val (.int (((p2 &&& (2147483647 : Int32)) % (100 : Int32)) % (10 : Int32))), .val (.int (((p3 &&& (2147483647 : Int32)) % (100 : Int32)) / (10 : Int32))), .val (.int (((p3 &&& (2147483647 : Int32)) % (100 : Int32)) % (10 : Int32))), .unset, .unset, .unset, .unset, .unset]) rfl ?_
    show Steps p.tables e below (s₁.setTop (mkF m 69 #[.val (.int p1), .val (.int p2), .val (.int p3), .val (.int p4), .val (.int ((p1 &&& (2147483647 : Int32)) % (100 : Int32))), .val (.int ((p2 &&& (2147483647 : Int32)) % (100 : Int32))), .val (.int ((p3 &&& (2147483647 : Int32)) % (100 : Int32))), .val (.int (((p1 &&& (2147483647 : Int32)) % (100 : Int32)) / (10 : Int32))), .val (.int (((p1 &&& (2147483647 : Int32)) % (100 : Int32)) % (10 : Int32))), .val (.int (((p2 &&& (2147483647 : Int32)) % (100 : Int32)) / (10 : Int32))), .val (.int (((p2 &&& (2147483647 : Int32)) % (100 : Int32)) % (10 : Int32))), .val (.int (((p3 &&& (2147483647 : Int32)) % (100 : Int32)) / (10 : Int32))), .val (.int (((p3 &&& (2147483647 : Int32)) % (100 : Int32)) % (10 : Int32))), .unset, .unset, .unset, .unset, .unset] [])) τ
    exact κ)
  obtain ⟨d0, hd0⟩ : ∃ z : Int32, z = (((p1 &&& (2147483647 : Int32)) % (100 : Int32)) / (10 : Int32)) := ⟨_, rfl⟩
  have pre : ∀ τ, Steps p.tables e below (s₁.setTop (mkF m 69 #[.val (.int p1), .val (.int p2), .val (.int p3), .val (.int p4), .val (.int ((p1 &&& (2147483647 : Int32)) % (100 : Int32))), .val (.int ((p2 &&& (2147483647 : Int32)) % (100 : Int32))), .val (.int ((p3 &&& (2147483647 : Int32)) % (100 : Int32))), .val (.int d0), .val (.int (((p1 &&& (2147483647 : Int32)) % (100 : Int32)) % (10 : Int32))), .val (.int (((p2 &&& (2147483647 : Int32)) % (100 : Int32)) / (10 : Int32))), .val (.int (((p2 &&& (2147483647 : Int32)) % (100 : Int32)) % (10 : Int32))), .val (.int (((p3 &&& (2147483647 : Int32)) % (100 : Int32)) / (10 : Int32))), .val (.int (((p3 &&& (2147483647 : Int32)) % (100 : Int32)) % (10 : Int32))), .unset, .unset, .unset, .unset, .unset] [])) τ → G τ := by subst hd0; exact pre
  have bd0 : 0 ≤ d0.toInt ∧ d0.toInt ≤ 9 := by rw [hd0]; exact own_d0 _
  obtain ⟨d1, hd1⟩ : ∃ z : Int32, z = (((p1 &&& (2147483647 : Int32)) % (100 : Int32)) % (10 : Int32)) := ⟨_, rfl⟩
  have pre : ∀ τ, Steps p.tables e below (s₁.setTop (mkF m 69 #[.val (.int p1), .val (.int p2), .val (.int p3), .val (.int p4), .val (.int ((p1 &&& (2147483647 : Int32)) % (100 : Int32))), .val (.int ((p2 &&& (2147483647 : Int32)) % (100 : Int32))), .val (.int ((p3 &&& (2147483647 : Int32)) % (100 : Int32))), .val (.int d0), .val (.int d1), .val (.int (((p2 &&& (2147483647 : Int32)) % (100 : Int32)) / (10 : Int32))), .val (.int (((p2 &&& (2147483647 : Int32)) % (100 : Int32)) % (10 : Int32))), .val (.int (((p3 &&& (2147483647 : Int32)) % (100 : Int32)) / (10 : Int32))), .val (.int (((p3 &&& (2147483647 : Int32)) % (100 : Int32)) % (10 : Int32))), .unset, .unset, .unset, .unset, .unset] [])) τ → G τ := by subst hd1; exact pre
  have bd1 : 0 ≤ d1.toInt ∧ d1.toInt ≤ 9 := by rw [hd1]; exact own_d1 _
  obtain ⟨d2, hd2⟩ : ∃ z : Int32, z = (((p2 &&& (2147483647 : Int32)) % (100 : Int32)) / (10 : Int32)) := ⟨_, rfl⟩
  have pre : ∀ τ, Steps p.tables e below (s₁.setTop (mkF m 69 #[.val (.int p1), .val (.int p2), .val (.int p3), .val (.int p4), .val (.int ((p1 &&& (2147483647 : Int32)) % (100 : Int32))), .val (.int ((p2 &&& (2147483647 : Int32)) % (100 : Int32))), .val (.int ((p3 &&& (2147483647 : Int32)) % (100 : Int32))), .val (.int d0), .val (.int d1), .val (.int d2), .val (.int (((p2 &&& (2147483647 : Int32)) % (100 : Int32)) % (10 : Int32))), .val (.int (((p3 &&& (2147483647 : Int32)) % (100 : Int32)) / (10 : Int32))), .val (.int (((p3 &&& (2147483647 : Int32)) % (100 : Int32)) % (10 : Int32))), .unset, .unset, .unset, .unset, .unset] [])) τ → G τ := by subst hd2; exact pre
  have bd2 : 0 ≤ d2.toInt ∧ d2.toInt ≤ 9 := by rw [hd2]; exact own_d0 _
  obtain ⟨d3, hd3⟩ : ∃ z : Int32, z = (((p2 &&& (2147483647 : Int32)) % (100 : Int32)) % (10 : Int32)) := ⟨_, rfl⟩
  have pre : ∀ τ, Steps p.tables e below (s₁.setTop (mkF m 69 #[.val (.int p1), .val (.int p2), .val (.int p3), .val (.int p4), .val (.int ((p1 &&& (2147483647 : Int32)) % (100 : Int32))), .val (.int ((p2 &&& (2147483647 : Int32)) % (100 : Int32))), .val (.int ((p3 &&& (2147483647 : Int32)) % (100 : Int32))), .val (.int d0), .val (.int d1), .val (.int d2), .val (.int d3), .val (.int (((p3 &&& (2147483647 : Int32)) % (100 : Int32)) / (10 : Int32))), .val (.int (((p3 &&& (2147483647 : Int32)) % (100 : Int32)) % (10 : Int32))), .unset, .unset, .unset, .unset, .unset] [])) τ → G τ := by subst hd3; exact pre
  have bd3 : 0 ≤ d3.toInt ∧ d3.toInt ≤ 9 := by rw [hd3]; exact own_d1 _
  obtain ⟨d4, hd4⟩ : ∃ z : Int32, z = (((p3 &&& (2147483647 : Int32)) % (100 : Int32)) / (10 : Int32)) := ⟨_, rfl⟩
  have pre : ∀ τ, Steps p.tables e below (s₁.setTop (mkF m 69 #[.val (.int p1), .val (.int p2), .val (.int p3), .val (.int p4), .val (.int ((p1 &&& (2147483647 : Int32)) % (100 : Int32))), .val (.int ((p2 &&& (2147483647 : Int32)) % (100 : Int32))), .val (.int ((p3 &&& (2147483647 : Int32)) % (100 : Int32))), .val (.int d0), .val (.int d1), .val (.int d2), .val (.int d3), .val (.int d4), .val (.int (((p3 &&& (2147483647 : Int32)) % (100 : Int32)) % (10 : Int32))), .unset, .unset, .unset, .unset, .unset] [])) τ → G τ := by subst hd4; exact pre
  have bd4 : 0 ≤ d4.toInt ∧ d4.toInt ≤ 9 := by rw [hd4]; exact own_d0 _
  obtain ⟨d5, hd5⟩ : ∃ z : Int32, z = (((p3 &&& (2147483647 : Int32)) % (100 : Int32)) % (10 : Int32)) := ⟨_, rfl⟩
  have pre : ∀ τ, Steps p.tables e below (s₁.setTop (mkF m 69 #[.val (.int p1), .val (.int p2), .val (.int p3), .val (.int p4), .val (.int ((p1 &&& (2147483647 : Int32)) % (100 : Int32))), .val (.int ((p2 &&& (2147483647 : Int32)) % (100 : Int32))), .val (.int ((p3 &&& (2147483647 : Int32)) % (100 : Int32))), .val (.int d0), .val (.int d1), .val (.int d2), .val (.int d3), .val (.int d4), .val (.int d5), .unset, .unset, .unset, .unset, .unset] [])) τ → G τ := by subst hd5; exact pre
  have bd5 : 0 ≤ d5.toInt ∧ d5.toInt ≤ 9 := by rw [hd5]; exact own_d1 _
  have pre : ∀ τ, Steps p.tables e below (s₁.setTop (mkF m 71 #[.val (.int p1), .val (.int p2), .val (.int p3), .val (.int p4), .val (.int ((p1 &&& (2147483647 : Int32)) % (100 : Int32))), .val (.int ((p2 &&& (2147483647 : Int32)) % (100 : Int32))), .val (.int ((p3 &&& (2147483647 : Int32)) % (100 : Int32))), .val (.int d0), .val (.int d1), .val (.int d2), .val (.int d3), .val (.int d4), .val (.int d5), .unset, .unset, .unset, .unset, .unset] [(.int (6 : Int32))])) τ → G τ := fun τ κ => pre τ (by
    refine XS.bipush X0.here hx rfl (hb hby at_69) ?_
    show Steps p.tables e below (s₁.setTop (mkF m 71 #[.val (.int p1), .val (.int p2), .val (.int p3), .val (.int p4), .val (.int ((p1 &&& (2147483647 : Int32)) % (100 : Int32))), .val (.int ((p2 &&& (2147483647 : Int32)) % (100 : Int32))), .val (.int ((p3 &&& (2147483647 : Int32)) % (100 : Int32))), .val (.int d0), .val (.int d1), .val (.int d2), .val (.int d3), .val (.int d4), .val (.int d5), .unset, .unset, .unset, .unset, .unset] [(.int (6 : Int32))])) τ
    exact κ)
  obtain ⟨T1, h1, k1, X1, e1, E1, A1, st1⟩ := newP X0 hx hZ (hw _ (List.mem_of_getElem? (i := 1) rfl)) e0 (g := (mkF m 71 #[.val (.int p1), .val (.int p2), .val (.int p3), .val (.int p4), .val (.int ((p1 &&& (2147483647 : Int32)) % (100 : Int32))), .val (.int ((p2 &&& (2147483647 : Int32)) % (100 : Int32))), .val (.int ((p3 &&& (2147483647 : Int32)) % (100 : Int32))), .val (.int d0), .val (.int d1), .val (.int d2), .val (.int d3), .val (.int d4), .val (.int d5), .unset, .unset, .unset, .unset, .unset] [(.int (6 : Int32))])) rfl (hb hby at_71) rfl (by decide) (cap := 6) (by decide) (by decide) (by decide) (by decide)
  obtain ⟨b1, gg1⟩ : ∃ z, z = h0.size := ⟨_, rfl⟩
  rw [← gg1] at A1 st1
  have g_b1 : n0 ≤ b1 := Nat.le_trans Zn (Nat.le_of_eq gg1.symm)
  have Zn : n0 ≤ h1.size := Nat.le_trans Zn E1.1
  have V_b1 : Arv Z h1 b1 k1 .byte (6 : Int32) [(.int (0 : Int32)), (.int (0 : Int32)), (.int (0 : Int32)), (.int (0 : Int32)), (.int (0 : Int32)), (.int (0 : Int32))] (.int (0 : Int32)) := (Arv.new A1 (by decide)).pad (pad_rep [] (.int (0 : Int32)) 6)
  have pre : ∀ τ, Steps p.tables e below (T1.setTop (mkF m 73 #[.val (.int p1), .val (.int p2), .val (.int p3), .val (.int p4), .val (.int ((p1 &&& (2147483647 : Int32)) % (100 : Int32))), .val (.int ((p2 &&& (2147483647 : Int32)) % (100 : Int32))), .val (.int ((p3 &&& (2147483647 : Int32)) % (100 : Int32))), .val (.int d0), .val (.int d1), .val (.int d2), .val (.int d3), .val (.int d4), .val (.int d5), .unset, .unset, .unset, .unset, .unset] [(.ref b1)])) τ → G τ := fun τ κ => pre τ (st1 τ κ)
  have pre : ∀ τ, Steps p.tables e below (T1.setTop (mkF m 81 #[.val (.int p1), .val (.int p2), .val (.int p3), .val (.int p4), .val (.int ((p1 &&& (2147483647 : Int32)) % (100 : Int32))), .val (.int ((p2 &&& (2147483647 : Int32)) % (100 : Int32))), .val (.int ((p3 &&& (2147483647 : Int32)) % (100 : Int32))), .val (.int d0), .val (.int d1), .val (.int d2), .val (.int d3), .val (.int d4), .val (.int d5), .unset, .unset, .unset, .unset, .unset] [(.int (((48 : Int32) + d0).toInt8.toInt32)), (.int (0 : Int32)), (.ref b1), (.ref b1)])) τ → G τ := fun τ κ => pre τ (by
    refine XS.dup X1.here hx rfl (hb hby at_73) rfl rfl ?_
    show Steps p.tables e below (T1.setTop (mkF m 74 #[.val (.int p1), .val (.int p2), .val (.int p3), .val (.int p4), .val (.int ((p1 &&& (2147483647 : Int32)) % (100 : Int32))), .val (.int ((p2 &&& (2147483647 : Int32)) % (100 : Int32))), .val (.int ((p3 &&& (2147483647 : Int32)) % (100 : Int32))), .val (.int d0), .val (.int d1), .val (.int d2), .val (.int d3), .val (.int d4), .val (.int d5), .unset, .unset, .unset, .unset, .unset] [(.ref b1), (.ref b1)])) τ
    refine XS.iconst X1.here hx rfl (hb hby at_74) ?_
    show Steps p.tables e below (T1.setTop (mkF m 75 #[.val (.int p1), .val (.int p2), .val (.int p3), .val (.int p4), .val (.int ((p1 &&& (2147483647 : Int32)) % (100 : Int32))), .val (.int ((p2 &&& (2147483647 : Int32)) % (100 : Int32))), .val (.int ((p3 &&& (2147483647 : Int32)) % (100 : Int32))), .val (.int d0), .val (.int d1), .val (.int d2), .val (.int d3), .val (.int d4), .val (.int d5), .unset, .unset, .unset, .unset, .unset] [(.int (0 : Int32)), (.ref b1), (.ref b1)])) τ
    refine XS.bipush X1.here hx rfl (hb hby at_75) ?_
    show Steps p.tables e below (T1.setTop (mkF m 77 #[.val (.int p1), .val (.int p2), .val (.int p3), .val (.int p4), .val (.int ((p1 &&& (2147483647 : Int32)) % (100 : Int32))), .val (.int ((p2 &&& (2147483647 : Int32)) % (100 : Int32))), .val (.int ((p3 &&& (2147483647 : Int32)) % (100 : Int32))), .val (.int d0), .val (.int d1), .val (.int d2), .val (.int d3), .val (.int d4), .val (.int d5), .unset, .unset, .unset, .unset, .unset] [(.int (48 : Int32)), (.int (0 : Int32)), (.ref b1), (.ref b1)])) τ
    refine XS.iload X1.here hx rfl (hb hby at_77) rfl ?_
    show Steps p.tables e below (T1.setTop (mkF m 79 #[.val (.int p1), .val (.int p2), .val (.int p3), .val (.int p4), .val (.int ((p1 &&& (2147483647 : Int32)) % (100 : Int32))), .val (.int ((p2 &&& (2147483647 : Int32)) % (100 : Int32))), .val (.int ((p3 &&& (2147483647 : Int32)) % (100 : Int32))), .val (.int d0), .val (.int d1), .val (.int d2), .val (.int d3), .val (.int d4), .val (.int d5), .unset, .unset, .unset, .unset, .unset] [(.int d0), (.int (48 : Int32)), (.int (0 : Int32)), (.ref b1), (.ref b1)])) τ
    refine XS.iadd X1.here hx rfl (hb hby at_79) rfl ?_
    show Steps p.tables e below (T1.setTop (mkF m 80 #[.val (.int p1), .val (.int p2), .val (.int p3), .val (.int p4), .val (.int ((p1 &&& (2147483647 : Int32)) % (100 : Int32))), .val (.int ((p2 &&& (2147483647 : Int32)) % (100 : Int32))), .val (.int ((p3 &&& (2147483647 : Int32)) % (100 : Int32))), .val (.int d0), .val (.int d1), .val (.int d2), .val (.int d3), .val (.int d4), .val (.int d5), .unset, .unset, .unset, .unset, .unset] [(.int ((48 : Int32) + d0)), (.int (0 : Int32)), (.ref b1), (.ref b1)])) τ
    refine XS.i2b X1.here hx rfl (hb hby at_80) rfl ?_
    show Steps p.tables e below (T1.setTop (mkF m 81 #[.val (.int p1), .val (.int p2), .val (.int p3), .val (.int p4), .val (.int ((p1 &&& (2147483647 : Int32)) % (100 : Int32))), .val (.int ((p2 &&& (2147483647 : Int32)) % (100 : Int32))), .val (.int ((p3 &&& (2147483647 : Int32)) % (100 : Int32))), .val (.int d0), .val (.int d1), .val (.int d2), .val (.int d3), .val (.int d4), .val (.int d5), .unset, .unset, .unset, .unset, .unset] [(.int (((48 : Int32) + d0).toInt8.toInt32)), (.int (0 : Int32)), (.ref b1), (.ref b1)])) τ
    exact κ)
  obtain ⟨c2, Ar2, q2, S2, Nz2, Hh2, Gg2⟩ := id V_b1
  have hin2 : ¬ ((0 : Int32) < 0 ∨ c2.slots.size ≤ ((0 : Int32)).toNatClampNeg) := inb_of S2 ⟨by decide, by decide⟩
  obtain ⟨T2, h2, X2, e2, W2, st2⟩ := stB X1 hx hZ e1 Ar2 (j := (0 : Int32)) hin2 (g := (mkF m 81 #[.val (.int p1), .val (.int p2), .val (.int p3), .val (.int p4), .val (.int ((p1 &&& (2147483647 : Int32)) % (100 : Int32))), .val (.int ((p2 &&& (2147483647 : Int32)) % (100 : Int32))), .val (.int ((p3 &&& (2147483647 : Int32)) % (100 : Int32))), .val (.int d0), .val (.int d1), .val (.int d2), .val (.int d3), .val (.int d4), .val (.int d5), .unset, .unset, .unset, .unset, .unset] [(.int (((48 : Int32) + d0).toInt8.toInt32)), (.int (0 : Int32)), (.ref b1), (.ref b1)])) rfl rfl (hb hby at_81)
  have V_b1 : Arv Z h2 b1 k1 .byte (6 : Int32) [(.int (nar .byte (((48 : Int32) + d0).toInt8.toInt32))), (.int (0 : Int32)), (.int (0 : Int32)), (.int (0 : Int32)), (.int (0 : Int32)), (.int (0 : Int32))] (.int (0 : Int32)) := Arv.set Ar2 q2 S2 Nz2 Hh2 Gg2 (fits_nar_byte _) W2 0 rfl (Nat.le_of_ble_eq_true rfl)
  have Zn : n0 ≤ h2.size := Nat.le_trans Zn (Keep.of_wr W2).1
  have NN := Fr.snoc X2 N0 g_b1
  have pre : ∀ τ, Steps p.tables e below (T2.setTop (mkF m 82 #[.val (.int p1), .val (.int p2), .val (.int p3), .val (.int p4), .val (.int ((p1 &&& (2147483647 : Int32)) % (100 : Int32))), .val (.int ((p2 &&& (2147483647 : Int32)) % (100 : Int32))), .val (.int ((p3 &&& (2147483647 : Int32)) % (100 : Int32))), .val (.int d0), .val (.int d1), .val (.int d2), .val (.int d3), .val (.int d4), .val (.int d5), .unset, .unset, .unset, .unset, .unset] [(.ref b1)])) τ → G τ := fun τ κ => pre τ (st2 τ κ)
  have pre : ∀ τ, Steps p.tables e below (T2.setTop (mkF m 90 #[.val (.int p1), .val (.int p2), .val (.int p3), .val (.int p4), .val (.int ((p1 &&& (2147483647 : Int32)) % (100 : Int32))), .val (.int ((p2 &&& (2147483647 : Int32)) % (100 : Int32))), .val (.int ((p3 &&& (2147483647 : Int32)) % (100 : Int32))), .val (.int d0), .val (.int d1), .val (.int d2), .val (.int d3), .val (.int d4), .val (.int d5), .unset, .unset, .unset, .unset, .unset] [(.int (((48 : Int32) + d1).toInt8.toInt32)), (.int (1 : Int32)), (.ref b1), (.ref b1)])) τ → G τ := fun τ κ => pre τ (by
    refine XS.dup X2.here hx rfl (hb hby at_82) rfl rfl ?_
    show Steps p.tables e below (T2.setTop (mkF m 83 #[.val (.int p1), .val (.int p2), .val (.int p3), .val (.int p4), .val (.int ((p1 &&& (2147483647 : Int32)) % (100 : Int32))), .val (.int ((p2 &&& (2147483647 : Int32)) % (100 : Int32))), .val (.int ((p3 &&& (2147483647 : Int32)) % (100 : Int32))), .val (.int d0), .val (.int d1), .val (.int d2), .val (.int d3), .val (.int d4), .val (.int d5), .unset, .unset, .unset, .unset, .unset] [(.ref b1), (.ref b1)])) τ
    refine XS.iconst X2.here hx rfl (hb hby at_83) ?_
    show Steps p.tables e below (T2.setTop (mkF m 84 #[.val (.int p1), .val (.int p2), .val (.int p3), .val (.int p4), .val (.int ((p1 &&& (2147483647 : Int32)) % (100 : Int32))), .val (.int ((p2 &&& (2147483647 : Int32)) % (100 : Int32))), .val (.int ((p3 &&& (2147483647 : Int32)) % (100 : Int32))), .val (.int d0), .val (.int d1), .val (.int d2), .val (.int d3), .val (.int d4), .val (.int d5), .unset, .unset, .unset, .unset, .unset] [(.int (1 : Int32)), (.ref b1), (.ref b1)])) τ
    refine XS.bipush X2.here hx rfl (hb hby at_84) ?_
    show Steps p.tables e below (T2.setTop (mkF m 86 #[.val (.int p1), .val (.int p2), .val (.int p3), .val (.int p4), .val (.int ((p1 &&& (2147483647 : Int32)) % (100 : Int32))), .val (.int ((p2 &&& (2147483647 : Int32)) % (100 : Int32))), .val (.int ((p3 &&& (2147483647 : Int32)) % (100 : Int32))), .val (.int d0), .val (.int d1), .val (.int d2), .val (.int d3), .val (.int d4), .val (.int d5), .unset, .unset, .unset, .unset, .unset] [(.int (48 : Int32)), (.int (1 : Int32)), (.ref b1), (.ref b1)])) τ
    refine XS.iload X2.here hx rfl (hb hby at_86) rfl ?_
    show Steps p.tables e below (T2.setTop (mkF m 88 #[.val (.int p1), .val (.int p2), .val (.int p3), .val (.int p4), .val (.int ((p1 &&& (2147483647 : Int32)) % (100 : Int32))), .val (.int ((p2 &&& (2147483647 : Int32)) % (100 : Int32))), .val (.int ((p3 &&& (2147483647 : Int32)) % (100 : Int32))), .val (.int d0), .val (.int d1), .val (.int d2), .val (.int d3), .val (.int d4), .val (.int d5), .unset, .unset, .unset, .unset, .unset] [(.int d1), (.int (48 : Int32)), (.int (1 : Int32)), (.ref b1), (.ref b1)])) τ
    refine XS.iadd X2.here hx rfl (hb hby at_88) rfl ?_
    show Steps p.tables e below (T2.setTop (mkF m 89 #[.val (.int p1), .val (.int p2), .val (.int p3), .val (.int p4), .val (.int ((p1 &&& (2147483647 : Int32)) % (100 : Int32))), .val (.int ((p2 &&& (2147483647 : Int32)) % (100 : Int32))), .val (.int ((p3 &&& (2147483647 : Int32)) % (100 : Int32))), .val (.int d0), .val (.int d1), .val (.int d2), .val (.int d3), .val (.int d4), .val (.int d5), .unset, .unset, .unset, .unset, .unset] [(.int ((48 : Int32) + d1)), (.int (1 : Int32)), (.ref b1), (.ref b1)])) τ
    refine XS.i2b X2.here hx rfl (hb hby at_89) rfl ?_
    show Steps p.tables e below (T2.setTop (mkF m 90 #[.val (.int p1), .val (.int p2), .val (.int p3), .val (.int p4), .val (.int ((p1 &&& (2147483647 : Int32)) % (100 : Int32))), .val (.int ((p2 &&& (2147483647 : Int32)) % (100 : Int32))), .val (.int ((p3 &&& (2147483647 : Int32)) % (100 : Int32))), .val (.int d0), .val (.int d1), .val (.int d2), .val (.int d3), .val (.int d4), .val (.int d5), .unset, .unset, .unset, .unset, .unset] [(.int (((48 : Int32) + d1).toInt8.toInt32)), (.int (1 : Int32)), (.ref b1), (.ref b1)])) τ
    exact κ)
  obtain ⟨c3, Ar3, q3, S3, Nz3, Hh3, Gg3⟩ := id V_b1
  have hin3 : ¬ ((1 : Int32) < 0 ∨ c3.slots.size ≤ ((1 : Int32)).toNatClampNeg) := inb_of S3 ⟨by decide, by decide⟩
  obtain ⟨T3, h3, X3, e3, W3, st3⟩ := stB X2 hx hZ e2 Ar3 (j := (1 : Int32)) hin3 (g := (mkF m 90 #[.val (.int p1), .val (.int p2), .val (.int p3), .val (.int p4), .val (.int ((p1 &&& (2147483647 : Int32)) % (100 : Int32))), .val (.int ((p2 &&& (2147483647 : Int32)) % (100 : Int32))), .val (.int ((p3 &&& (2147483647 : Int32)) % (100 : Int32))), .val (.int d0), .val (.int d1), .val (.int d2), .val (.int d3), .val (.int d4), .val (.int d5), .unset, .unset, .unset, .unset, .unset] [(.int (((48 : Int32) + d1).toInt8.toInt32)), (.int (1 : Int32)), (.ref b1), (.ref b1)])) rfl rfl (hb hby at_90)
  have V_b1 : Arv Z h3 b1 k1 .byte (6 : Int32) [(.int (nar .byte (((48 : Int32) + d0).toInt8.toInt32))), (.int (nar .byte (((48 : Int32) + d1).toInt8.toInt32))), (.int (0 : Int32)), (.int (0 : Int32)), (.int (0 : Int32)), (.int (0 : Int32))] (.int (0 : Int32)) := Arv.set Ar3 q3 S3 Nz3 Hh3 Gg3 (fits_nar_byte _) W3 1 rfl (Nat.le_of_ble_eq_true rfl)
  have Zn : n0 ≤ h3.size := Nat.le_trans Zn (Keep.of_wr W3).1
  have NN := Fr.snoc X3 NN g_b1
  have pre : ∀ τ, Steps p.tables e below (T3.setTop (mkF m 91 #[.val (.int p1), .val (.int p2), .val (.int p3), .val (.int p4), .val (.int ((p1 &&& (2147483647 : Int32)) % (100 : Int32))), .val (.int ((p2 &&& (2147483647 : Int32)) % (100 : Int32))), .val (.int ((p3 &&& (2147483647 : Int32)) % (100 : Int32))), .val (.int d0), .val (.int d1), .val (.int d2), .val (.int d3), .val (.int d4), .val (.int d5), .unset, .unset, .unset, .unset, .unset] [(.ref b1)])) τ → G τ := fun τ κ => pre τ (st3 τ κ)
  have pre : ∀ τ, Steps p.tables e below (T3.setTop (mkF m 99 #[.val (.int p1), .val (.int p2), .val (.int p3), .val (.int p4), .val (.int ((p1 &&& (2147483647 : Int32)) % (100 : Int32))), .val (.int ((p2 &&& (2147483647 : Int32)) % (100 : Int32))), .val (.int ((p3 &&& (2147483647 : Int32)) % (100 : Int32))), .val (.int d0), .val (.int d1), .val (.int d2), .val (.int d3), .val (.int d4), .val (.int d5), .unset, .unset, .unset, .unset, .unset] [(.int (((48 : Int32) + d2).toInt8.toInt32)), (.int (2 : Int32)), (.ref b1), (.ref b1)])) τ → G τ := fun τ κ => pre τ (by
    refine XS.dup X3.here hx rfl (hb hby at_91) rfl rfl ?_
    show Steps p.tables e below (T3.setTop (mkF m 92 #[.val (.int p1), .val (.int p2), .val (.int p3), .val (.int p4), .val (.int ((p1 &&& (2147483647 : Int32)) % (100 : Int32))), .val (.int ((p2 &&& (2147483647 : Int32)) % (100 : Int32))), .val (.int ((p3 &&& (2147483647 : Int32)) % (100 : Int32))), .val (.int d0), .val (.int d1), .val (.int d2), .val (.int d3), .val (.int d4), .val (.int d5), .unset, .unset, .unset, .unset, .unset] [(.ref b1), (.ref b1)])) τ
    refine XS.iconst X3.here hx rfl (hb hby at_92) ?_
    show Steps p.tables e below (T3.setTop (mkF m 93 #[.val (.int p1), .val (.int p2), .val (.int p3), .val (.int p4), .val (.int ((p1 &&& (2147483647 : Int32)) % (100 : Int32))), .val (.int ((p2 &&& (2147483647 : Int32)) % (100 : Int32))), .val (.int ((p3 &&& (2147483647 : Int32)) % (100 : Int32))), .val (.int d0), .val (.int d1), .val (.int d2), .val (.int d3), .val (.int d4), .val (.int d5), .unset, .unset, .unset, .unset, .unset] [(.int (2 : Int32)), (.ref b1), (.ref b1)])) τ
    refine XS.bipush X3.here hx rfl (hb hby at_93) ?_
    show Steps p.tables e below (T3.setTop (mkF m 95 #[.val (.int p1), .val (.int p2), .val (.int p3), .val (.int p4), .val (.int ((p1 &&& (2147483647 : Int32)) % (100 : Int32))), .val (.int ((p2 &&& (2147483647 : Int32)) % (100 : Int32))), .val (.int ((p3 &&& (2147483647 : Int32)) % (100 : Int32))), .val (.int d0), .val (.int d1), .val (.int d2), .val (.int d3), .val (.int d4), .val (.int d5), .unset, .unset, .unset, .unset, .unset] [(.int (48 : Int32)), (.int (2 : Int32)), (.ref b1), (.ref b1)])) τ
    refine XS.iload X3.here hx rfl (hb hby at_95) rfl ?_
    show Steps p.tables e below (T3.setTop (mkF m 97 #[.val (.int p1), .val (.int p2), .val (.int p3), .val (.int p4), .val (.int ((p1 &&& (2147483647 : Int32)) % (100 : Int32))), .val (.int ((p2 &&& (2147483647 : Int32)) % (100 : Int32))), .val (.int ((p3 &&& (2147483647 : Int32)) % (100 : Int32))), .val (.int d0), .val (.int d1), .val (.int d2), .val (.int d3), .val (.int d4), .val (.int d5), .unset, .unset, .unset, .unset, .unset] [(.int d2), (.int (48 : Int32)), (.int (2 : Int32)), (.ref b1), (.ref b1)])) τ
    refine XS.iadd X3.here hx rfl (hb hby at_97) rfl ?_
    show Steps p.tables e below (T3.setTop (mkF m 98 #[.val (.int p1), .val (.int p2), .val (.int p3), .val (.int p4), .val (.int ((p1 &&& (2147483647 : Int32)) % (100 : Int32))), .val (.int ((p2 &&& (2147483647 : Int32)) % (100 : Int32))), .val (.int ((p3 &&& (2147483647 : Int32)) % (100 : Int32))), .val (.int d0), .val (.int d1), .val (.int d2), .val (.int d3), .val (.int d4), .val (.int d5), .unset, .unset, .unset, .unset, .unset] [(.int ((48 : Int32) + d2)), (.int (2 : Int32)), (.ref b1), (.ref b1)])) τ
    refine XS.i2b X3.here hx rfl (hb hby at_98) rfl ?_
    show Steps p.tables e below (T3.setTop (mkF m 99 #[.val (.int p1), .val (.int p2), .val (.int p3), .val (.int p4), .val (.int ((p1 &&& (2147483647 : Int32)) % (100 : Int32))), .val (.int ((p2 &&& (2147483647 : Int32)) % (100 : Int32))), .val (.int ((p3 &&& (2147483647 : Int32)) % (100 : Int32))), .val (.int d0), .val (.int d1), .val (.int d2), .val (.int d3), .val (.int d4), .val (.int d5), .unset, .unset, .unset, .unset, .unset] [(.int (((48 : Int32) + d2).toInt8.toInt32)), (.int (2 : Int32)), (.ref b1), (.ref b1)])) τ
    exact κ)
  obtain ⟨c4, Ar4, q4, S4, Nz4, Hh4, Gg4⟩ := id V_b1
  have hin4 : ¬ ((2 : Int32) < 0 ∨ c4.slots.size ≤ ((2 : Int32)).toNatClampNeg) := inb_of S4 ⟨by decide, by decide⟩
  obtain ⟨T4, h4, X4, e4, W4, st4⟩ := stB X3 hx hZ e3 Ar4 (j := (2 : Int32)) hin4 (g := (mkF m 99 #[.val (.int p1), .val (.int p2), .val (.int p3), .val (.int p4), .val (.int ((p1 &&& (2147483647 : Int32)) % (100 : Int32))), .val (.int ((p2 &&& (2147483647 : Int32)) % (100 : Int32))), .val (.int ((p3 &&& (2147483647 : Int32)) % (100 : Int32))), .val (.int d0), .val (.int d1), .val (.int d2), .val (.int d3), .val (.int d4), .val (.int d5), .unset, .unset, .unset, .unset, .unset] [(.int (((48 : Int32) + d2).toInt8.toInt32)), (.int (2 : Int32)), (.ref b1), (.ref b1)])) rfl rfl (hb hby at_99)
  have V_b1 : Arv Z h4 b1 k1 .byte (6 : Int32) [(.int (nar .byte (((48 : Int32) + d0).toInt8.toInt32))), (.int (nar .byte (((48 : Int32) + d1).toInt8.toInt32))), (.int (nar .byte (((48 : Int32) + d2).toInt8.toInt32))), (.int (0 : Int32)), (.int (0 : Int32)), (.int (0 : Int32))] (.int (0 : Int32)) := Arv.set Ar4 q4 S4 Nz4 Hh4 Gg4 (fits_nar_byte _) W4 2 rfl (Nat.le_of_ble_eq_true rfl)
  have Zn : n0 ≤ h4.size := Nat.le_trans Zn (Keep.of_wr W4).1
  have NN := Fr.snoc X4 NN g_b1
  have pre : ∀ τ, Steps p.tables e below (T4.setTop (mkF m 100 #[.val (.int p1), .val (.int p2), .val (.int p3), .val (.int p4), .val (.int ((p1 &&& (2147483647 : Int32)) % (100 : Int32))), .val (.int ((p2 &&& (2147483647 : Int32)) % (100 : Int32))), .val (.int ((p3 &&& (2147483647 : Int32)) % (100 : Int32))), .val (.int d0), .val (.int d1), .val (.int d2), .val (.int d3), .val (.int d4), .val (.int d5), .unset, .unset, .unset, .unset, .unset] [(.ref b1)])) τ → G τ := fun τ κ => pre τ (st4 τ κ)
  have pre : ∀ τ, Steps p.tables e below (T4.setTop (mkF m 108 #[.val (.int p1), .val (.int p2), .val (.int p3), .val (.int p4), .val (.int ((p1 &&& (2147483647 : Int32)) % (100 : Int32))), .val (.int ((p2 &&& (2147483647 : Int32)) % (100 : Int32))), .val (.int ((p3 &&& (2147483647 : Int32)) % (100 : Int32))), .val (.int d0), .val (.int d1), .val (.int d2), .val (.int d3), .val (.int d4), .val (.int d5), .unset, .unset, .unset, .unset, .unset] [(.int (((48 : Int32) + d3).toInt8.toInt32)), (.int (3 : Int32)), (.ref b1), (.ref b1)])) τ → G τ := fun τ κ => pre τ (by
    refine XS.dup X4.here hx rfl (hb hby at_100) rfl rfl ?_
    show Steps p.tables e below (T4.setTop (mkF m 101 #[.val (.int p1), .val (.int p2), .val (.int p3), .val (.int p4), .val (.int ((p1 &&& (2147483647 : Int32)) % (100 : Int32))), .val (.int ((p2 &&& (2147483647 : Int32)) % (100 : Int32))), .val (.int ((p3 &&& (2147483647 : Int32)) % (100 : Int32))), .val (.int d0), .val (.int d1), .val (.int d2), .val (.int d3), .val (.int d4), .val (.int d5), .unset, .unset, .unset, .unset, .unset] [(.ref b1), (.ref b1)])) τ
    refine XS.iconst X4.here hx rfl (hb hby at_101) ?_
    show Steps p.tables e below (T4.setTop (mkF m 102 #[.val (.int p1), .val (.int p2), .val (.int p3), .val (.int p4), .val (.int ((p1 &&& (2147483647 : Int32)) % (100 : Int32))), .val (.int ((p2 &&& (2147483647 : Int32)) % (100 : Int32))), .val (.int ((p3 &&& (2147483647 : Int32)) % (100 : Int32))), .val (.int d0), .val (.int d1), .val (.int d2), .val (.int d3), .val (.int d4), .val (.int d5), .unset, .unset, .unset, .unset, .unset] [(.int (3 : Int32)), (.ref b1), (.ref b1)])) τ
    refine XS.bipush X4.here hx rfl (hb hby at_102) ?_
    show Steps p.tables e below (T4.setTop (mkF m 104 #[.val (.int p1), .val (.int p2), .val (.int p3), .val (.int p4), .val (.int ((p1 &&& (2147483647 : Int32)) % (100 : Int32))), .val (.int ((p2 &&& (2147483647 : Int32)) % (100 : Int32))), .val (.int ((p3 &&& (2147483647 : Int32)) % (100 : Int32))), .val (.int d0), .val (.int d1), .val (.int d2), .val (.int d3), .val (.int d4), .val (.int d5), .unset, .unset, .unset, .unset, .unset] [(.int (48 : Int32)), (.int (3 : Int32)), (.ref b1), (.ref b1)])) τ
    refine XS.iload X4.here hx rfl (hb hby at_104) rfl ?_
    show Steps p.tables e below (T4.setTop (mkF m 106 #[.val (.int p1), .val (.int p2), .val (.int p3), .val (.int p4), .val (.int ((p1 &&& (2147483647 : Int32)) % (100 : Int32))), .val (.int ((p2 &&& (2147483647 : Int32)) % (100 : Int32))), .val (.int ((p3 &&& (2147483647 : Int32)) % (100 : Int32))), .val (.int d0), .val (.int d1), .val (.int d2), .val (.int d3), .val (.int d4), .val (.int d5), .unset, .unset, .unset, .unset, .unset] [(.int d3), (.int (48 : Int32)), (.int (3 : Int32)), (.ref b1), (.ref b1)])) τ
    refine XS.iadd X4.here hx rfl (hb hby at_106) rfl ?_
    show Steps p.tables e below (T4.setTop (mkF m 107 #[.val (.int p1), .val (.int p2), .val (.int p3), .val (.int p4), .val (.int ((p1 &&& (2147483647 : Int32)) % (100 : Int32))), .val (.int ((p2 &&& (2147483647 : Int32)) % (100 : Int32))), .val (.int ((p3 &&& (2147483647 : Int32)) % (100 : Int32))), .val (.int d0), .val (.int d1), .val (.int d2), .val (.int d3), .val (.int d4), .val (.int d5), .unset, .unset, .unset, .unset, .unset] [(.int ((48 : Int32) + d3)), (.int (3 : Int32)), (.ref b1), (.ref b1)])) τ
    refine XS.i2b X4.here hx rfl (hb hby at_107) rfl ?_
    show Steps p.tables e below (T4.setTop (mkF m 108 #[.val (.int p1), .val (.int p2), .val (.int p3), .val (.int p4), .val (.int ((p1 &&& (2147483647 : Int32)) % (100 : Int32))), .val (.int ((p2 &&& (2147483647 : Int32)) % (100 : Int32))), .val (.int ((p3 &&& (2147483647 : Int32)) % (100 : Int32))), .val (.int d0), .val (.int d1), .val (.int d2), .val (.int d3), .val (.int d4), .val (.int d5), .unset, .unset, .unset, .unset, .unset] [(.int (((48 : Int32) + d3).toInt8.toInt32)), (.int (3 : Int32)), (.ref b1), (.ref b1)])) τ
    exact κ)
  obtain ⟨c5, Ar5, q5, S5, Nz5, Hh5, Gg5⟩ := id V_b1
  have hin5 : ¬ ((3 : Int32) < 0 ∨ c5.slots.size ≤ ((3 : Int32)).toNatClampNeg) := inb_of S5 ⟨by decide, by decide⟩
  obtain ⟨T5, h5, X5, e5, W5, st5⟩ := stB X4 hx hZ e4 Ar5 (j := (3 : Int32)) hin5 (g := (mkF m 108 #[.val (.int p1), .val (.int p2), .val (.int p3), .val (.int p4), .val (.int ((p1 &&& (2147483647 : Int32)) % (100 : Int32))), .val (.int ((p2 &&& (2147483647 : Int32)) % (100 : Int32))), .val (.int ((p3 &&& (2147483647 : Int32)) % (100 : Int32))), .val (.int d0), .val (.int d1), .val (.int d2), .val (.int d3), .val (.int d4), .val (.int d5), .unset, .unset, .unset, .unset, .unset] [(.int (((48 : Int32) + d3).toInt8.toInt32)), (.int (3 : Int32)), (.ref b1), (.ref b1)])) rfl rfl (hb hby at_108)
  have V_b1 : Arv Z h5 b1 k1 .byte (6 : Int32) [(.int (nar .byte (((48 : Int32) + d0).toInt8.toInt32))), (.int (nar .byte (((48 : Int32) + d1).toInt8.toInt32))), (.int (nar .byte (((48 : Int32) + d2).toInt8.toInt32))), (.int (nar .byte (((48 : Int32) + d3).toInt8.toInt32))), (.int (0 : Int32)), (.int (0 : Int32))] (.int (0 : Int32)) := Arv.set Ar5 q5 S5 Nz5 Hh5 Gg5 (fits_nar_byte _) W5 3 rfl (Nat.le_of_ble_eq_true rfl)
  have Zn : n0 ≤ h5.size := Nat.le_trans Zn (Keep.of_wr W5).1
  have NN := Fr.snoc X5 NN g_b1
  have pre : ∀ τ, Steps p.tables e below (T5.setTop (mkF m 109 #[.val (.int p1), .val (.int p2), .val (.int p3), .val (.int p4), .val (.int ((p1 &&& (2147483647 : Int32)) % (100 : Int32))), .val (.int ((p2 &&& (2147483647 : Int32)) % (100 : Int32))), .val (.int ((p3 &&& (2147483647 : Int32)) % (100 : Int32))), .val (.int d0), .val (.int d1), .val (.int d2), .val (.int d3), .val (.int d4), .val (.int d5), .unset, .unset, .unset, .unset, .unset] [(.ref b1)])) τ → G τ := fun τ κ => pre τ (st5 τ κ)
  have pre : ∀ τ, Steps p.tables e below (T5.setTop (mkF m 117 #[.val (.int p1), .val (.int p2), .val (.int p3), .val (.int p4), .val (.int ((p1 &&& (2147483647 : Int32)) % (100 : Int32))), .val (.int ((p2 &&& (2147483647 : Int32)) % (100 : Int32))), .val (.int ((p3 &&& (2147483647 : Int32)) % (100 : Int32))), .val (.int d0), .val (.int d1), .val (.int d2), .val (.int d3), .val (.int d4), .val (.int d5), .unset, .unset, .unset, .unset, .unset] [(.int (((48 : Int32) + d4).toInt8.toInt32)), (.int (4 : Int32)), (.ref b1), (.ref b1)])) τ → G τ := fun τ κ => pre τ (by
    refine XS.dup X5.here hx rfl (hb hby at_109) rfl rfl ?_
    show Steps p.tables e below (T5.setTop (mkF m 110 #[.val (.int p1), .val (.int p2), .val (.int p3), .val (.int p4), .val (.int ((p1 &&& (2147483647 : Int32)) % (100 : Int32))), .val (.int ((p2 &&& (2147483647 : Int32)) % (100 : Int32))), .val (.int ((p3 &&& (2147483647 : Int32)) % (100 : Int32))), .val (.int d0), .val (.int d1), .val (.int d2), .val (.int d3), .val (.int d4), .val (.int d5), .unset, .unset, .unset, .unset, .unset] [(.ref b1), (.ref b1)])) τ
    refine XS.iconst X5.here hx rfl (hb hby at_110) ?_
    show Steps p.tables e below (T5.setTop (mkF m 111 #[.val (.int p1), .val (.int p2), .val (.int p3), .val (.int p4), .val (.int ((p1 &&& (2147483647 : Int32)) % (100 : Int32))), .val (.int ((p2 &&& (2147483647 : Int32)) % (100 : Int32))), .val (.int ((p3 &&& (2147483647 : Int32)) % (100 : Int32))), .val (.int d0), .val (.int d1), .val (.int d2), .val (.int d3), .val (.int d4), .val (.int d5), .unset, .unset, .unset, .unset, .unset] [(.int (4 : Int32)), (.ref b1), (.ref b1)])) τ
    refine XS.bipush X5.here hx rfl (hb hby at_111) ?_
    show Steps p.tables e below (T5.setTop (mkF m 113 #[.val (.int p1), .val (.int p2), .val (.int p3), .val (.int p4), .val (.int ((p1 &&& (2147483647 : Int32)) % (100 : Int32))), .val (.int ((p2 &&& (2147483647 : Int32)) % (100 : Int32))), .val (.int ((p3 &&& (2147483647 : Int32)) % (100 : Int32))), .val (.int d0), .val (.int d1), .val (.int d2), .val (.int d3), .val (.int d4), .val (.int d5), .unset, .unset, .unset, .unset, .unset] [(.int (48 : Int32)), (.int (4 : Int32)), (.ref b1), (.ref b1)])) τ
    refine XS.iload X5.here hx rfl (hb hby at_113) rfl ?_
    show Steps p.tables e below (T5.setTop (mkF m 115 #[.val (.int p1), .val (.int p2), .val (.int p3), .val (.int p4), .val (.int ((p1 &&& (2147483647 : Int32)) % (100 : Int32))), .val (.int ((p2 &&& (2147483647 : Int32)) % (100 : Int32))), .val (.int ((p3 &&& (2147483647 : Int32)) % (100 : Int32))), .val (.int d0), .val (.int d1), .val (.int d2), .val (.int d3), .val (.int d4), .val (.int d5), .unset, .unset, .unset, .unset, .unset] [(.int d4), (.int (48 : Int32)), (.int (4 : Int32)), (.ref b1), (.ref b1)])) τ
    refine XS.iadd X5.here hx rfl (hb hby at_115) rfl ?_
    show Steps p.tables e below (T5.setTop (mkF m 116 #[.val (.int p1), .val (.int p2), .val (.int p3), .val (.int p4), .val (.int ((p1 &&& (2147483647 : Int32)) % (100 : Int32))), .val (.int ((p2 &&& (2147483647 : Int32)) % (100 : Int32))), .val (.int ((p3 &&& (2147483647 : Int32)) % (100 : Int32))), .val (.int d0), .val (.int d1), .val (.int d2), .val (.int d3), .val (.int d4), .val (.int d5), .unset, .unset, .unset, .unset, .unset] [(.int ((48 : Int32) + d4)), (.int (4 : Int32)), (.ref b1), (.ref b1)])) τ
    refine XS.i2b X5.here hx rfl (hb hby at_116) rfl ?_
    show Steps p.tables e below (T5.setTop (mkF m 117 #[.val (.int p1), .val (.int p2), .val (.int p3), .val (.int p4), .val (.int ((p1 &&& (2147483647 : Int32)) % (100 : Int32))), .val (.int ((p2 &&& (2147483647 : Int32)) % (100 : Int32))), .val (.int ((p3 &&& (2147483647 : Int32)) % (100 : Int32))), .val (.int d0), .val (.int d1), .val (.int d2), .val (.int d3), .val (.int d4), .val (.int d5), .unset, .unset, .unset, .unset, .unset] [(.int (((48 : Int32) + d4).toInt8.toInt32)), (.int (4 : Int32)), (.ref b1), (.ref b1)])) τ
    exact κ)
  obtain ⟨c6, Ar6, q6, S6, Nz6, Hh6, Gg6⟩ := id V_b1
  have hin6 : ¬ ((4 : Int32) < 0 ∨ c6.slots.size ≤ ((4 : Int32)).toNatClampNeg) := inb_of S6 ⟨by decide, by decide⟩
  obtain ⟨T6, h6, X6, e6, W6, st6⟩ := stB X5 hx hZ e5 Ar6 (j := (4 : Int32)) hin6 (g := (mkF m 117 #[.val (.int p1), .val (.int p2), .val (.int p3), .val (.int p4), .val (.int ((p1 &&& (2147483647 : Int32)) % (100 : Int32))), .val (.int ((p2 &&& (2147483647 : Int32)) % (100 : Int32))), .val (.int ((p3 &&& (2147483647 : Int32)) % (100 : Int32))), .val (.int d0), .val (.int d1), .val (.int d2), .val (.int d3), .val (.int d4), .val (.int d5), .unset, .unset, .unset, .unset, .unset] [(.int (((48 : Int32) + d4).toInt8.toInt32)), (.int (4 : Int32)), (.ref b1), (.ref b1)])) rfl rfl (hb hby at_117)
  have V_b1 : Arv Z h6 b1 k1 .byte (6 : Int32) [(.int (nar .byte (((48 : Int32) + d0).toInt8.toInt32))), (.int (nar .byte (((48 : Int32) + d1).toInt8.toInt32))), (.int (nar .byte (((48 : Int32) + d2).toInt8.toInt32))), (.int (nar .byte (((48 : Int32) + d3).toInt8.toInt32))), (.int (nar .byte (((48 : Int32) + d4).toInt8.toInt32))), (.int (0 : Int32))] (.int (0 : Int32)) := Arv.set Ar6 q6 S6 Nz6 Hh6 Gg6 (fits_nar_byte _) W6 4 rfl (Nat.le_of_ble_eq_true rfl)
  have Zn : n0 ≤ h6.size := Nat.le_trans Zn (Keep.of_wr W6).1
  have NN := Fr.snoc X6 NN g_b1
  have pre : ∀ τ, Steps p.tables e below (T6.setTop (mkF m 118 #[.val (.int p1), .val (.int p2), .val (.int p3), .val (.int p4), .val (.int ((p1 &&& (2147483647 : Int32)) % (100 : Int32))), .val (.int ((p2 &&& (2147483647 : Int32)) % (100 : Int32))), .val (.int ((p3 &&& (2147483647 : Int32)) % (100 : Int32))), .val (.int d0), .val (.int d1), .val (.int d2), .val (.int d3), .val (.int d4), .val (.int d5), .unset, .unset, .unset, .unset, .unset] [(.ref b1)])) τ → G τ := fun τ κ => pre τ (st6 τ κ)
  have pre : ∀ τ, Steps p.tables e below (T6.setTop (mkF m 126 #[.val (.int p1), .val (.int p2), .val (.int p3), .val (.int p4), .val (.int ((p1 &&& (2147483647 : Int32)) % (100 : Int32))), .val (.int ((p2 &&& (2147483647 : Int32)) % (100 : Int32))), .val (.int ((p3 &&& (2147483647 : Int32)) % (100 : Int32))), .val (.int d0), .val (.int d1), .val (.int d2), .val (.int d3), .val (.int d4), .val (.int d5), .unset, .unset, .unset, .unset, .unset] [(.int (((48 : Int32) + d5).toInt8.toInt32)), (.int (5 : Int32)), (.ref b1), (.ref b1)])) τ → G τ := fun τ κ => pre τ (by
    refine XS.dup X6.here hx rfl (hb hby at_118) rfl rfl ?_
    show Steps p.tables e below (T6.setTop (mkF m 119 #[.val (.int p1), .val (.int p2), .val (.int p3), .val (.int p4), .val (.int ((p1 &&& (2147483647 : Int32)) % (100 : Int32))), .val (.int ((p2 &&& (2147483647 : Int32)) % (100 : Int32))), .val (.int ((p3 &&& (2147483647 : Int32)) % (100 : Int32))), .val (.int d0), .val (.int d1), .val (.int d2), .val (.int d3), .val (.int d4), .val (.int d5), .unset, .unset, .unset, .unset, .unset] [(.ref b1), (.ref b1)])) τ
    refine XS.iconst X6.here hx rfl (hb hby at_119) ?_
    show Steps p.tables e below (T6.setTop (mkF m 120 #[.val (.int p1), .val (.int p2), .val (.int p3), .val (.int p4), .val (.int ((p1 &&& (2147483647 : Int32)) % (100 : Int32))), .val (.int ((p2 &&& (2147483647 : Int32)) % (100 : Int32))), .val (.int ((p3 &&& (2147483647 : Int32)) % (100 : Int32))), .val (.int d0), .val (.int d1), .val (.int d2), .val (.int d3), .val (.int d4), .val (.int d5), .unset, .unset, .unset, .unset, .unset] [(.int (5 : Int32)), (.ref b1), (.ref b1)])) τ
    refine XS.bipush X6.here hx rfl (hb hby at_120) ?_
    show Steps p.tables e below (T6.setTop (mkF m 122 #[.val (.int p1), .val (.int p2), .val (.int p3), .val (.int p4), .val (.int ((p1 &&& (2147483647 : Int32)) % (100 : Int32))), .val (.int ((p2 &&& (2147483647 : Int32)) % (100 : Int32))), .val (.int ((p3 &&& (2147483647 : Int32)) % (100 : Int32))), .val (.int d0), .val (.int d1), .val (.int d2), .val (.int d3), .val (.int d4), .val (.int d5), .unset, .unset, .unset, .unset, .unset] [(.int (48 : Int32)), (.int (5 : Int32)), (.ref b1), (.ref b1)])) τ
    refine XS.iload X6.here hx rfl (hb hby at_122) rfl ?_
    show Steps p.tables e below (T6.setTop (mkF m 124 #[.val (.int p1), .val (.int p2), .val (.int p3), .val (.int p4), .val (.int ((p1 &&& (2147483647 : Int32)) % (100 : Int32))), .val (.int ((p2 &&& (2147483647 : Int32)) % (100 : Int32))), .val (.int ((p3 &&& (2147483647 : Int32)) % (100 : Int32))), .val (.int d0), .val (.int d1), .val (.int d2), .val (.int d3), .val (.int d4), .val (.int d5), .unset, .unset, .unset, .unset, .unset] [(.int d5), (.int (48 : Int32)), (.int (5 : Int32)), (.ref b1), (.ref b1)])) τ
    refine XS.iadd X6.here hx rfl (hb hby at_124) rfl ?_
    show Steps p.tables e below (T6.setTop (mkF m 125 #[.val (.int p1), .val (.int p2), .val (.int p3), .val (.int p4), .val (.int ((p1 &&& (2147483647 : Int32)) % (100 : Int32))), .val (.int ((p2 &&& (2147483647 : Int32)) % (100 : Int32))), .val (.int ((p3 &&& (2147483647 : Int32)) % (100 : Int32))), .val (.int d0), .val (.int d1), .val (.int d2), .val (.int d3), .val (.int d4), .val (.int d5), .unset, .unset, .unset, .unset, .unset] [(.int ((48 : Int32) + d5)), (.int (5 : Int32)), (.ref b1), (.ref b1)])) τ
    refine XS.i2b X6.here hx rfl (hb hby at_125) rfl ?_
    show Steps p.tables e below (T6.setTop (mkF m 126 #[.val (.int p1), .val (.int p2), .val (.int p3), .val (.int p4), .val (.int ((p1 &&& (2147483647 : Int32)) % (100 : Int32))), .val (.int ((p2 &&& (2147483647 : Int32)) % (100 : Int32))), .val (.int ((p3 &&& (2147483647 : Int32)) % (100 : Int32))), .val (.int d0), .val (.int d1), .val (.int d2), .val (.int d3), .val (.int d4), .val (.int d5), .unset, .unset, .unset, .unset, .unset] [(.int (((48 : Int32) + d5).toInt8.toInt32)), (.int (5 : Int32)), (.ref b1), (.ref b1)])) τ
    exact κ)
  obtain ⟨c7, Ar7, q7, S7, Nz7, Hh7, Gg7⟩ := id V_b1
  have hin7 : ¬ ((5 : Int32) < 0 ∨ c7.slots.size ≤ ((5 : Int32)).toNatClampNeg) := inb_of S7 ⟨by decide, by decide⟩
  obtain ⟨T7, h7, X7, e7, W7, st7⟩ := stB X6 hx hZ e6 Ar7 (j := (5 : Int32)) hin7 (g := (mkF m 126 #[.val (.int p1), .val (.int p2), .val (.int p3), .val (.int p4), .val (.int ((p1 &&& (2147483647 : Int32)) % (100 : Int32))), .val (.int ((p2 &&& (2147483647 : Int32)) % (100 : Int32))), .val (.int ((p3 &&& (2147483647 : Int32)) % (100 : Int32))), .val (.int d0), .val (.int d1), .val (.int d2), .val (.int d3), .val (.int d4), .val (.int d5), .unset, .unset, .unset, .unset, .unset] [(.int (((48 : Int32) + d5).toInt8.toInt32)), (.int (5 : Int32)), (.ref b1), (.ref b1)])) rfl rfl (hb hby at_126)
  have V_b1 : Arv Z h7 b1 k1 .byte (6 : Int32) [(.int (nar .byte (((48 : Int32) + d0).toInt8.toInt32))), (.int (nar .byte (((48 : Int32) + d1).toInt8.toInt32))), (.int (nar .byte (((48 : Int32) + d2).toInt8.toInt32))), (.int (nar .byte (((48 : Int32) + d3).toInt8.toInt32))), (.int (nar .byte (((48 : Int32) + d4).toInt8.toInt32))), (.int (nar .byte (((48 : Int32) + d5).toInt8.toInt32)))] (.int (0 : Int32)) := Arv.set Ar7 q7 S7 Nz7 Hh7 Gg7 (fits_nar_byte _) W7 5 rfl (Nat.le_of_ble_eq_true rfl)
  have Zn : n0 ≤ h7.size := Nat.le_trans Zn (Keep.of_wr W7).1
  have NN := Fr.snoc X7 NN g_b1
  have pre : ∀ τ, Steps p.tables e below (T7.setTop (mkF m 127 #[.val (.int p1), .val (.int p2), .val (.int p3), .val (.int p4), .val (.int ((p1 &&& (2147483647 : Int32)) % (100 : Int32))), .val (.int ((p2 &&& (2147483647 : Int32)) % (100 : Int32))), .val (.int ((p3 &&& (2147483647 : Int32)) % (100 : Int32))), .val (.int d0), .val (.int d1), .val (.int d2), .val (.int d3), .val (.int d4), .val (.int d5), .unset, .unset, .unset, .unset, .unset] [(.ref b1)])) τ → G τ := fun τ κ => pre τ (st7 τ κ)
  have pre : ∀ τ, Steps p.tables e below (T7.setTop (mkF m 152 #[.val (.int p1), .val (.int p2), .val (.int p3), .val (.int p4), .val (.int ((p1 &&& (2147483647 : Int32)) % (100 : Int32))), .val (.int ((p2 &&& (2147483647 : Int32)) % (100 : Int32))), .val (.int ((p3 &&& (2147483647 : Int32)) % (100 : Int32))), .val (.int d0), .val (.int d1), .val (.int d2), .val (.int d3), .val (.int d4), .val (.int d5), .val (.ref b1), .val (.int ((p4 &&& (2147483647 : Int32)) % (7 : Int32))), .val (.int (((p4 &&& (2147483647 : Int32)) % (7 : Int32)) + (((p4.toUInt32 >>> ((3 : Int32) &&& 31).toUInt32).toInt32) % ((7 : Int32) - ((p4 &&& (2147483647 : Int32)) % (7 : Int32)))))), .unset, .unset] [])) τ → G τ := fun τ κ => pre τ (by
    refine XS.astore X7.here hx rfl (hb hby at_127) rfl rfl (l' := #[.val (.int p1), .val (.int p2), .val (.int p3), .val (.int p4), .val (.int ((p1 &&& (2147483647 : Int32)) % (100 : Int32))), .val (.int ((p2 &&& (2147483647 : Int32)) % (100 : Int32))), .val (.int ((p3 &&& (2147483647 : Int32)) % (100 : Int32))), .val (.int d0), .val (.int d1), .val (.int d2), .val (.int d3), .val (.int d4), .val (.int d5), .val (.ref b1), .unset, .unset, .unset, .unset]) rfl ?_
    show Steps p.tables e below (T7.setTop (mkF m 129 #[.val (.int p1), .val (.int p2), .val (.int p3), .val (.int p4), .val (.int ((p1 &&& (2147483647 : Int32)) % (100 : Int32))), .val (.int ((p2 &&& (2147483647 : Int32)) % (100 : Int32))), .val (.int ((p3 &&& (2147483647 : Int32)) % (100 : Int32))), .val (.int d0), .val (.int d1), .val (.int d2), .val (.int d3), .val (.int d4), .val (.int d5), .val (.ref b1), .unset, .unset, .unset, .unset] [])) τ
    refine XS.iloadN X7.here hx rfl (hb hby at_129) rfl ?_
    show Steps p.tables e below (T7.setTop (mkF m 130 #[.val (.int p1), .val (.int p2), .val (.int p3), .val (.int p4), .val (.int ((p1 &&& (2147483647 : Int32)) % (100 : Int32))), .val (.int ((p2 &&& (2147483647 : Int32)) % (100 : Int32))), .val (.int ((p3 &&& (2147483647 : Int32)) % (100 : Int32))), .val (.int d0), .val (.int d1), .val (.int d2), .val (.int d3), .val (.int d4), .val (.int d5), .val (.ref b1), .unset, .unset, .unset, .unset] [(.int p4)])) τ
    refine X7.ldcInt hx hown (mvT hZ (hw _ (List.mem_of_getElem? (i := 0) rfl))) (g := (mkF m 130 #[.val (.int p1), .val (.int p2), .val (.int p3), .val (.int p4), .val (.int ((p1 &&& (2147483647 : Int32)) % (100 : Int32))), .val (.int ((p2 &&& (2147483647 : Int32)) % (100 : Int32))), .val (.int ((p3 &&& (2147483647 : Int32)) % (100 : Int32))), .val (.int d0), .val (.int d1), .val (.int d2), .val (.int d3), .val (.int d4), .val (.int d5), .val (.ref b1), .unset, .unset, .unset, .unset] [(.int p4)])) rfl (hb hby at_130) _ ?_
    show Steps p.tables e below (T7.setTop (mkF m 132 #[.val (.int p1), .val (.int p2), .val (.int p3), .val (.int p4), .val (.int ((p1 &&& (2147483647 : Int32)) % (100 : Int32))), .val (.int ((p2 &&& (2147483647 : Int32)) % (100 : Int32))), .val (.int ((p3 &&& (2147483647 : Int32)) % (100 : Int32))), .val (.int d0), .val (.int d1), .val (.int d2), .val (.int d3), .val (.int d4), .val (.int d5), .val (.ref b1), .unset, .unset, .unset, .unset] [(.int (2147483647 : Int32)), (.int p4)])) τ
    refine XS.iand X7.here hx rfl (hb hby at_132) rfl ?_
    show Steps p.tables e below (T7.setTop (mkF m 133 #[.val (.int p1), .val (.int p2), .val (.int p3), .val (.int p4), .val (.int ((p1 &&& (2147483647 : Int32)) % (100 : Int32))), .val (.int ((p2 &&& (2147483647 : Int32)) % (100 : Int32))), .val (.int ((p3 &&& (2147483647 : Int32)) % (100 : Int32))), .val (.int d0), .val (.int d1), .val (.int d2), .val (.int d3), .val (.int d4), .val (.int d5), .val (.ref b1), .unset, .unset, .unset, .unset] [(.int (p4 &&& (2147483647 : Int32)))])) τ
    refine XS.bipush X7.here hx rfl (hb hby at_133) ?_
    show Steps p.tables e below (T7.setTop (mkF m 135 #[.val (.int p1), .val (.int p2), .val (.int p3), .val (.int p4), .val (.int ((p1 &&& (2147483647 : Int32)) % (100 : Int32))), .val (.int ((p2 &&& (2147483647 : Int32)) % (100 : Int32))), .val (.int ((p3 &&& (2147483647 : Int32)) % (100 : Int32))), .val (.int d0), .val (.int d1), .val (.int d2), .val (.int d3), .val (.int d4), .val (.int d5), .val (.ref b1), .unset, .unset, .unset, .unset] [(.int (7 : Int32)), (.int (p4 &&& (2147483647 : Int32)))])) τ
    refine iremM X7 hx rfl (hb hby at_135) rfl (by decide) ?_
    show Steps p.tables e below (T7.setTop (mkF m 136 #[.val (.int p1), .val (.int p2), .val (.int p3), .val (.int p4), .val (.int ((p1 &&& (2147483647 : Int32)) % (100 : Int32))), .val (.int ((p2 &&& (2147483647 : Int32)) % (100 : Int32))), .val (.int ((p3 &&& (2147483647 : Int32)) % (100 : Int32))), .val (.int d0), .val (.int d1), .val (.int d2), .val (.int d3), .val (.int d4), .val (.int d5), .val (.ref b1), .unset, .unset, .unset, .unset] [(.int ((p4 &&& (2147483647 : Int32)) % (7 : Int32)))])) τ
    refine XS.istore X7.here hx rfl (hb hby at_136) rfl (l' := #[.val (.int p1), .val (.int p2), .val (.int p3), .val (.int p4), .val (.int ((p1 &&& (2147483647 : Int32)) % (100 : Int32))), .val (.int ((p2 &&& (2147483647 : Int32)) % (100 : Int32))), .val (.int ((p3 &&& (2147483647 : Int32)) % (100 : Int32))), .val (.int d0), .val (.int d1), .val (.int d2), .val (.int d3), .val (.int d4), .val (.int d5), .val (.ref b1), .val (.int ((p4 &&& (2147483647 : Int32)) % (7 : Int32))), .unset, .unset, .unset]) rfl ?_
    show Steps p.tables e below (T7.setTop (mkF m 138 #[.val (.int p1), .val (.int p2), .val (.int p3), .val (.int p4), .val (.int ((p1 &&& (2147483647 : Int32)) % (100 : Int32))), .val (.int ((p2 &&& (2147483647 : Int32)) % (100 : Int32))), .val (.int ((p3 &&& (2147483647 : Int32)) % (100 : Int32))), .val (.int d0), .val (.int d1), .val (.int d2), .val (.int d3), .val (.int d4), .val (.int d5), .val (.ref b1), .val (.int ((p4 &&& (2147483647 : Int32)) % (7 : Int32))), .unset, .unset, .unset] [])) τ
    refine XS.iload X7.here hx rfl (hb hby at_138) rfl ?_
    show Steps p.tables e below (T7.setTop (mkF m 140 #[.val (.int p1), .val (.int p2), .val (.int p3), .val (.int p4), .val (.int ((p1 &&& (2147483647 : Int32)) % (100 : Int32))), .val (.int ((p2 &&& (2147483647 : Int32)) % (100 : Int32))), .val (.int ((p3 &&& (2147483647 : Int32)) % (100 : Int32))), .val (.int d0), .val (.int d1), .val (.int d2), .val (.int d3), .val (.int d4), .val (.int d5), .val (.ref b1), .val (.int ((p4 &&& (2147483647 : Int32)) % (7 : Int32))), .unset, .unset, .unset] [(.int ((p4 &&& (2147483647 : Int32)) % (7 : Int32)))])) τ
    refine XS.iloadN X7.here hx rfl (hb hby at_140) rfl ?_
    show Steps p.tables e below (T7.setTop (mkF m 141 #[.val (.int p1), .val (.int p2), .val (.int p3), .val (.int p4), .val (.int ((p1 &&& (2147483647 : Int32)) % (100 : Int32))), .val (.int ((p2 &&& (2147483647 : Int32)) % (100 : Int32))), .val (.int ((p3 &&& (2147483647 : Int32)) % (100 : Int32))), .val (.int d0), .val (.int d1), .val (.int d2), .val (.int d3), .val (.int d4), .val (.int d5), .val (.ref b1), .val (.int ((p4 &&& (2147483647 : Int32)) % (7 : Int32))), .unset, .unset, .unset] [(.int p4), (.int ((p4 &&& (2147483647 : Int32)) % (7 : Int32)))])) τ
    refine XS.iconst X7.here hx rfl (hb hby at_141) ?_
    show Steps p.tables e below (T7.setTop (mkF m 142 #[.val (.int p1), .val (.int p2), .val (.int p3), .val (.int p4), .val (.int ((p1 &&& (2147483647 : Int32)) % (100 : Int32))), .val (.int ((p2 &&& (2147483647 : Int32)) % (100 : Int32))), .val (.int ((p3 &&& (2147483647 : Int32)) % (100 : Int32))), .val (.int d0), .val (.int d1), .val (.int d2), .val (.int d3), .val (.int d4), .val (.int d5), .val (.ref b1), .val (.int ((p4 &&& (2147483647 : Int32)) % (7 : Int32))), .unset, .unset, .unset] [(.int (3 : Int32)), (.int p4), (.int ((p4 &&& (2147483647 : Int32)) % (7 : Int32)))])) τ
    refine XS.iushr X7.here hx rfl (hb hby at_142) rfl ?_
    show Steps p.tables e below (T7.setTop (mkF m 143 #[.val (.int p1), .val (.int p2), .val (.int p3), .val (.int p4), .val (.int ((p1 &&& (2147483647 : Int32)) % (100 : Int32))), .val (.int ((p2 &&& (2147483647 : Int32)) % (100 : Int32))), .val (.int ((p3 &&& (2147483647 : Int32)) % (100 : Int32))), .val (.int d0), .val (.int d1), .val (.int d2), .val (.int d3), .val (.int d4), .val (.int d5), .val (.ref b1), .val (.int ((p4 &&& (2147483647 : Int32)) % (7 : Int32))), .unset, .unset, .unset] [(.int ((p4.toUInt32 >>> ((3 : Int32) &&& 31).toUInt32).toInt32)), (.int ((p4 &&& (2147483647 : Int32)) % (7 : Int32)))])) τ
    refine XS.bipush X7.here hx rfl (hb hby at_143) ?_
    show Steps p.tables e below (T7.setTop (mkF m 145 #[.val (.int p1), .val (.int p2), .val (.int p3), .val (.int p4), .val (.int ((p1 &&& (2147483647 : Int32)) % (100 : Int32))), .val (.int ((p2 &&& (2147483647 : Int32)) % (100 : Int32))), .val (.int ((p3 &&& (2147483647 : Int32)) % (100 : Int32))), .val (.int d0), .val (.int d1), .val (.int d2), .val (.int d3), .val (.int d4), .val (.int d5), .val (.ref b1), .val (.int ((p4 &&& (2147483647 : Int32)) % (7 : Int32))), .unset, .unset, .unset] [(.int (7 : Int32)), (.int ((p4.toUInt32 >>> ((3 : Int32) &&& 31).toUInt32).toInt32)), (.int ((p4 &&& (2147483647 : Int32)) % (7 : Int32)))])) τ
    refine XS.iload X7.here hx rfl (hb hby at_145) rfl ?_
    show Steps p.tables e below (T7.setTop (mkF m 147 #[.val (.int p1), .val (.int p2), .val (.int p3), .val (.int p4), .val (.int ((p1 &&& (2147483647 : Int32)) % (100 : Int32))), .val (.int ((p2 &&& (2147483647 : Int32)) % (100 : Int32))), .val (.int ((p3 &&& (2147483647 : Int32)) % (100 : Int32))), .val (.int d0), .val (.int d1), .val (.int d2), .val (.int d3), .val (.int d4), .val (.int d5), .val (.ref b1), .val (.int ((p4 &&& (2147483647 : Int32)) % (7 : Int32))), .unset, .unset, .unset] [(.int ((p4 &&& (2147483647 : Int32)) % (7 : Int32))), (.int (7 : Int32)), (.int ((p4.toUInt32 >>> ((3 : Int32) &&& 31).toUInt32).toInt32)), (.int ((p4 &&& (2147483647 : Int32)) % (7 : Int32)))])) τ
    refine XS.isub X7.here hx rfl (hb hby at_147) rfl ?_
    show Steps p.tables e below (T7.setTop (mkF m 148 #[.val (.int p1), .val (.int p2), .val (.int p3), .val (.int p4), .val (.int ((p1 &&& (2147483647 : Int32)) % (100 : Int32))), .val (.int ((p2 &&& (2147483647 : Int32)) % (100 : Int32))), .val (.int ((p3 &&& (2147483647 : Int32)) % (100 : Int32))), .val (.int d0), .val (.int d1), .val (.int d2), .val (.int d3), .val (.int d4), .val (.int d5), .val (.ref b1), .val (.int ((p4 &&& (2147483647 : Int32)) % (7 : Int32))), .unset, .unset, .unset] [(.int ((7 : Int32) - ((p4 &&& (2147483647 : Int32)) % (7 : Int32)))), (.int ((p4.toUInt32 >>> ((3 : Int32) &&& 31).toUInt32).toInt32)), (.int ((p4 &&& (2147483647 : Int32)) % (7 : Int32)))])) τ
    refine iremM X7 hx rfl (hb hby at_148) rfl (own_nz p4) ?_
    show Steps p.tables e below (T7.setTop (mkF m 149 #[.val (.int p1), .val (.int p2), .val (.int p3), .val (.int p4), .val (.int ((p1 &&& (2147483647 : Int32)) % (100 : Int32))), .val (.int ((p2 &&& (2147483647 : Int32)) % (100 : Int32))), .val (.int ((p3 &&& (2147483647 : Int32)) % (100 : Int32))), .val (.int d0), .val (.int d1), .val (.int d2), .val (.int d3), .val (.int d4), .val (.int d5), .val (.ref b1), .val (.int ((p4 &&& (2147483647 : Int32)) % (7 : Int32))), .unset, .unset, .unset] [(.int (((p4.toUInt32 >>> ((3 : Int32) &&& 31).toUInt32).toInt32) % ((7 : Int32) - ((p4 &&& (2147483647 : Int32)) % (7 : Int32))))), (.int ((p4 &&& (2147483647 : Int32)) % (7 : Int32)))])) τ
    refine XS.iadd X7.here hx rfl (hb hby at_149) rfl ?_
    show Steps p.tables e below (T7.setTop (mkF m 150 #[.val (.int p1), .val (.int p2), .val (.int p3), .val (.int p4), .val (.int ((p1 &&& (2147483647 : Int32)) % (100 : Int32))), .val (.int ((p2 &&& (2147483647 : Int32)) % (100 : Int32))), .val (.int ((p3 &&& (2147483647 : Int32)) % (100 : Int32))), .val (.int d0), .val (.int d1), .val (.int d2), .val (.int d3), .val (.int d4), .val (.int d5), .val (.ref b1), .val (.int ((p4 &&& (2147483647 : Int32)) % (7 : Int32))), .unset, .unset, .unset] [(.int (((p4 &&& (2147483647 : Int32)) % (7 : Int32)) + (((p4.toUInt32 >>> ((3 : Int32) &&& 31).toUInt32).toInt32) % ((7 : Int32) - ((p4 &&& (2147483647 : Int32)) % (7 : Int32))))))])) τ
    refine XS.istore X7.here hx rfl (hb hby at_150) rfl (l' := #[.val (.int p1), .val (.int p2), .val (.int p3), .val (.int p4), .val (.int ((p1 &&& (2147483647 : Int32)) % (100 : Int32))), .val (.int ((p2 &&& (2147483647 : Int32)) % (100 : Int32))), .val (.int ((p3 &&& (2147483647 : Int32)) % (100 : Int32))), .val (.int d0), .val (.int d1), .val (.int d2), .val (.int d3), .val (.int d4), .val (.int d5), .val (.ref b1), .val (.int ((p4 &&& (2147483647 : Int32)) % (7 : Int32))), .val (.int (((p4 &&& (2147483647 : Int32)) % (7 : Int32)) + (((p4.toUInt32 >>> ((3 : Int32) &&& 31).toUInt32).toInt32) % ((7 : Int32) - ((p4 &&& (2147483647 : Int32)) % (7 : Int32)))))), .unset, .unset]) rfl ?_
    show Steps p.tables e below (T7.setTop (mkF m 152 #[.val (.int p1), .val (.int p2), .val (.int p3), .val (.int p4), .val (.int ((p1 &&& (2147483647 : Int32)) % (100 : Int32))), .val (.int ((p2 &&& (2147483647 : Int32)) % (100 : Int32))), .val (.int ((p3 &&& (2147483647 : Int32)) % (100 : Int32))), .val (.int d0), .val (.int d1), .val (.int d2), .val (.int d3), .val (.int d4), .val (.int d5), .val (.ref b1), .val (.int ((p4 &&& (2147483647 : Int32)) % (7 : Int32))), .val (.int (((p4 &&& (2147483647 : Int32)) % (7 : Int32)) + (((p4.toUInt32 >>> ((3 : Int32) &&& 31).toUInt32).toInt32) % ((7 : Int32) - ((p4 &&& (2147483647 : Int32)) % (7 : Int32)))))), .unset, .unset] [])) τ
    exact κ)
  obtain ⟨sa, hsa⟩ : ∃ z : Int32, z = ((p4 &&& (2147483647 : Int32)) % (7 : Int32)) := ⟨_, rfl⟩
  have pre : ∀ τ, Steps p.tables e below (T7.setTop (mkF m 152 #[.val (.int p1), .val (.int p2), .val (.int p3), .val (.int p4), .val (.int ((p1 &&& (2147483647 : Int32)) % (100 : Int32))), .val (.int ((p2 &&& (2147483647 : Int32)) % (100 : Int32))), .val (.int ((p3 &&& (2147483647 : Int32)) % (100 : Int32))), .val (.int d0), .val (.int d1), .val (.int d2), .val (.int d3), .val (.int d4), .val (.int d5), .val (.ref b1), .val (.int sa), .val (.int (((p4 &&& (2147483647 : Int32)) % (7 : Int32)) + (((p4.toUInt32 >>> ((3 : Int32) &&& 31).toUInt32).toInt32) % ((7 : Int32) - ((p4 &&& (2147483647 : Int32)) % (7 : Int32)))))), .unset, .unset] [])) τ → G τ := by subst hsa; exact pre
  obtain ⟨ea, hea⟩ : ∃ z : Int32, z = (((p4 &&& (2147483647 : Int32)) % (7 : Int32)) + (((p4.toUInt32 >>> ((3 : Int32) &&& 31).toUInt32).toInt32) % ((7 : Int32) - ((p4 &&& (2147483647 : Int32)) % (7 : Int32))))) := ⟨_, rfl⟩
  have pre : ∀ τ, Steps p.tables e below (T7.setTop (mkF m 152 #[.val (.int p1), .val (.int p2), .val (.int p3), .val (.int p4), .val (.int ((p1 &&& (2147483647 : Int32)) % (100 : Int32))), .val (.int ((p2 &&& (2147483647 : Int32)) % (100 : Int32))), .val (.int ((p3 &&& (2147483647 : Int32)) % (100 : Int32))), .val (.int d0), .val (.int d1), .val (.int d2), .val (.int d3), .val (.int d4), .val (.int d5), .val (.ref b1), .val (.int sa), .val (.int ea), .unset, .unset] [])) τ → G τ := by subst hea; exact pre
  have hse : 0 ≤ sa.toInt ∧ sa.toInt ≤ ea.toInt ∧ ea.toInt ≤ 6 := by subst hea hsa; exact own_se p4
  have pre : ∀ τ, Steps p.tables e below (T7.setTop (mkF m 159 #[.val (.int p1), .val (.int p2), .val (.int p3), .val (.int p4), .val (.int ((p1 &&& (2147483647 : Int32)) % (100 : Int32))), .val (.int ((p2 &&& (2147483647 : Int32)) % (100 : Int32))), .val (.int ((p3 &&& (2147483647 : Int32)) % (100 : Int32))), .val (.int d0), .val (.int d1), .val (.int d2), .val (.int d3), .val (.int d4), .val (.int d5), .val (.ref b1), .val (.int sa), .val (.int ea), .unset, .unset] [(.int ea), (.int sa), (.int (0 : Int32)), (.int d0)])) τ → G τ := fun τ κ => pre τ (by
    refine XS.iload X7.here hx rfl (hb hby at_152) rfl ?_
    show Steps p.tables e below (T7.setTop (mkF m 154 #[.val (.int p1), .val (.int p2), .val (.int p3), .val (.int p4), .val (.int ((p1 &&& (2147483647 : Int32)) % (100 : Int32))), .val (.int ((p2 &&& (2147483647 : Int32)) % (100 : Int32))), .val (.int ((p3 &&& (2147483647 : Int32)) % (100 : Int32))), .val (.int d0), .val (.int d1), .val (.int d2), .val (.int d3), .val (.int d4), .val (.int d5), .val (.ref b1), .val (.int sa), .val (.int ea), .unset, .unset] [(.int d0)])) τ
    refine XS.iconst X7.here hx rfl (hb hby at_154) ?_
    show Steps p.tables e below (T7.setTop (mkF m 155 #[.val (.int p1), .val (.int p2), .val (.int p3), .val (.int p4), .val (.int ((p1 &&& (2147483647 : Int32)) % (100 : Int32))), .val (.int ((p2 &&& (2147483647 : Int32)) % (100 : Int32))), .val (.int ((p3 &&& (2147483647 : Int32)) % (100 : Int32))), .val (.int d0), .val (.int d1), .val (.int d2), .val (.int d3), .val (.int d4), .val (.int d5), .val (.ref b1), .val (.int sa), .val (.int ea), .unset, .unset] [(.int (0 : Int32)), (.int d0)])) τ
    refine XS.iload X7.here hx rfl (hb hby at_155) rfl ?_
    show Steps p.tables e below (T7.setTop (mkF m 157 #[.val (.int p1), .val (.int p2), .val (.int p3), .val (.int p4), .val (.int ((p1 &&& (2147483647 : Int32)) % (100 : Int32))), .val (.int ((p2 &&& (2147483647 : Int32)) % (100 : Int32))), .val (.int ((p3 &&& (2147483647 : Int32)) % (100 : Int32))), .val (.int d0), .val (.int d1), .val (.int d2), .val (.int d3), .val (.int d4), .val (.int d5), .val (.ref b1), .val (.int sa), .val (.int ea), .unset, .unset] [(.int sa), (.int (0 : Int32)), (.int d0)])) τ
    refine XS.iload X7.here hx rfl (hb hby at_157) rfl ?_
    show Steps p.tables e below (T7.setTop (mkF m 159 #[.val (.int p1), .val (.int p2), .val (.int p3), .val (.int p4), .val (.int ((p1 &&& (2147483647 : Int32)) % (100 : Int32))), .val (.int ((p2 &&& (2147483647 : Int32)) % (100 : Int32))), .val (.int ((p3 &&& (2147483647 : Int32)) % (100 : Int32))), .val (.int d0), .val (.int d1), .val (.int d2), .val (.int d3), .val (.int d4), .val (.int d5), .val (.ref b1), .val (.int sa), .val (.int ea), .unset, .unset] [(.int ea), (.int sa), (.int (0 : Int32)), (.int d0)])) τ
    exact κ)
  obtain ⟨_, _, ⟨T8, Lx8, kx8, nx8⟩, -, X8, ⟨Lc8, hQ8, l8, y8, z8⟩, st8⟩ := Jvm.LawKit.callS X7 hx (y := (⟨"com/example/campo_livre/campolivre/CheckDigitsModulo10PinLaw", "term", "(IIII)I"⟩ : MethodName)) hown (mvT hZ (hw _ (List.mem_of_getElem? (i := 2) rfl))) (mvT hZ (hw _ (List.mem_of_getElem? (i := 3) rfl))) (mvT hZ (hw _ (List.mem_of_getElem? (i := 4) rfl))) (mvT hZ (hw _ (List.mem_of_getElem? (i := 5) rfl))) (by decide) (backOf (W := 0) (rm1 l Z a0 hw [] d0 (0 : Int32) sa ea h7 n0 Zn) hZ (hw _ (List.mem_of_getElem? (i := 5) rfl)) (hw _ (List.mem_of_getElem? (i := 4) rfl)) (by decide) (by decide)) (g := (mkF m 159 #[.val (.int p1), .val (.int p2), .val (.int p3), .val (.int p4), .val (.int ((p1 &&& (2147483647 : Int32)) % (100 : Int32))), .val (.int ((p2 &&& (2147483647 : Int32)) % (100 : Int32))), .val (.int ((p3 &&& (2147483647 : Int32)) % (100 : Int32))), .val (.int d0), .val (.int d1), .val (.int d2), .val (.int d3), .val (.int d4), .val (.int d5), .val (.ref b1), .val (.int sa), .val (.int ea), .unset, .unset] [(.int ea), (.int sa), (.int (0 : Int32)), (.int d0)])) rfl (by rw [hml]; rfl) (argsL := [(.int d0), (.int (0 : Int32)), (.int sa), (.int ea)]) (rest := []) (lenOf pd_0 rfl) rfl (by show 2 * 0 + _ ≤ _; exact Nat.le_of_eq rfl) (hb hby at_159) (fun _ _ => ⟨rfl, e7, (by decide : 1 + 0 ≤ _), (by decide : 6 + 0 ≤ _)⟩)
  dsimp only [Pt.U, Pt.locs, Pt.cells, Pt.slots] at X8 l8 y8 z8 st8 hQ8
  subst l8 y8 z8
  obtain ⟨rfl, Nq8, hs8⟩ := hQ8
  have NN := Fr.app NN Nq8
  have pre : ∀ τ, Steps p.tables e below (T8.setTop (mkF m 162 #[.val (.int p1), .val (.int p2), .val (.int p3), .val (.int p4), .val (.int ((p1 &&& (2147483647 : Int32)) % (100 : Int32))), .val (.int ((p2 &&& (2147483647 : Int32)) % (100 : Int32))), .val (.int ((p3 &&& (2147483647 : Int32)) % (100 : Int32))), .val (.int d0), .val (.int d1), .val (.int d2), .val (.int d3), .val (.int d4), .val (.int d5), .val (.ref b1), .val (.int sa), .val (.int ea), .unset, .unset] [(.int (own_term d0 (0 : Int32) sa ea))])) τ → G τ := fun τ κ => pre τ (st8 τ κ)
  have pre : ∀ τ, Steps p.tables e below (T8.setTop (mkF m 169 #[.val (.int p1), .val (.int p2), .val (.int p3), .val (.int p4), .val (.int ((p1 &&& (2147483647 : Int32)) % (100 : Int32))), .val (.int ((p2 &&& (2147483647 : Int32)) % (100 : Int32))), .val (.int ((p3 &&& (2147483647 : Int32)) % (100 : Int32))), .val (.int d0), .val (.int d1), .val (.int d2), .val (.int d3), .val (.int d4), .val (.int d5), .val (.ref b1), .val (.int sa), .val (.int ea), .unset, .unset] [(.int ea), (.int sa), (.int (1 : Int32)), (.int d1), (.int (own_term d0 (0 : Int32) sa ea))])) τ → G τ := fun τ κ => pre τ (by
    refine XS.iload X8.here hx rfl (hb hby at_162) rfl ?_
    show Steps p.tables e below (T8.setTop (mkF m 164 #[.val (.int p1), .val (.int p2), .val (.int p3), .val (.int p4), .val (.int ((p1 &&& (2147483647 : Int32)) % (100 : Int32))), .val (.int ((p2 &&& (2147483647 : Int32)) % (100 : Int32))), .val (.int ((p3 &&& (2147483647 : Int32)) % (100 : Int32))), .val (.int d0), .val (.int d1), .val (.int d2), .val (.int d3), .val (.int d4), .val (.int d5), .val (.ref b1), .val (.int sa), .val (.int ea), .unset, .unset] [(.int d1), (.int (own_term d0 (0 : Int32) sa ea))])) τ
    refine XS.iconst X8.here hx rfl (hb hby at_164) ?_
    show Steps p.tables e below (T8.setTop (mkF m 165 #[.val (.int p1), .val (.int p2), .val (.int p3), .val (.int p4), .val (.int ((p1 &&& (2147483647 : Int32)) % (100 : Int32))), .val (.int ((p2 &&& (2147483647 : Int32)) % (100 : Int32))), .val (.int ((p3 &&& (2147483647 : Int32)) % (100 : Int32))), .val (.int d0), .val (.int d1), .val (.int d2), .val (.int d3), .val (.int d4), .val (.int d5), .val (.ref b1), .val (.int sa), .val (.int ea), .unset, .unset] [(.int (1 : Int32)), (.int d1), (.int (own_term d0 (0 : Int32) sa ea))])) τ
    refine XS.iload X8.here hx rfl (hb hby at_165) rfl ?_
    show Steps p.tables e below (T8.setTop (mkF m 167 #[.val (.int p1), .val (.int p2), .val (.int p3), .val (.int p4), .val (.int ((p1 &&& (2147483647 : Int32)) % (100 : Int32))), .val (.int ((p2 &&& (2147483647 : Int32)) % (100 : Int32))), .val (.int ((p3 &&& (2147483647 : Int32)) % (100 : Int32))), .val (.int d0), .val (.int d1), .val (.int d2), .val (.int d3), .val (.int d4), .val (.int d5), .val (.ref b1), .val (.int sa), .val (.int ea), .unset, .unset] [(.int sa), (.int (1 : Int32)), (.int d1), (.int (own_term d0 (0 : Int32) sa ea))])) τ
    refine XS.iload X8.here hx rfl (hb hby at_167) rfl ?_
    show Steps p.tables e below (T8.setTop (mkF m 169 #[.val (.int p1), .val (.int p2), .val (.int p3), .val (.int p4), .val (.int ((p1 &&& (2147483647 : Int32)) % (100 : Int32))), .val (.int ((p2 &&& (2147483647 : Int32)) % (100 : Int32))), .val (.int ((p3 &&& (2147483647 : Int32)) % (100 : Int32))), .val (.int d0), .val (.int d1), .val (.int d2), .val (.int d3), .val (.int d4), .val (.int d5), .val (.ref b1), .val (.int sa), .val (.int ea), .unset, .unset] [(.int ea), (.int sa), (.int (1 : Int32)), (.int d1), (.int (own_term d0 (0 : Int32) sa ea))])) τ
    exact κ)
  obtain ⟨_, _, ⟨T9, Lx9, kx9, nx9⟩, -, X9, ⟨Lc9, hQ9, l9, y9, z9⟩, st9⟩ := Jvm.LawKit.callS X8 hx (y := (⟨"com/example/campo_livre/campolivre/CheckDigitsModulo10PinLaw", "term", "(IIII)I"⟩ : MethodName)) hown (mvT hZ (hw _ (List.mem_of_getElem? (i := 2) rfl))) (mvT hZ (hw _ (List.mem_of_getElem? (i := 3) rfl))) (mvT hZ (hw _ (List.mem_of_getElem? (i := 4) rfl))) (mvT hZ (hw _ (List.mem_of_getElem? (i := 5) rfl))) (by decide) (backOf (W := 1) (rm1 l Z a0 hw [] d1 (1 : Int32) sa ea h7 n0 Zn) hZ (hw _ (List.mem_of_getElem? (i := 5) rfl)) (hw _ (List.mem_of_getElem? (i := 4) rfl)) (by decide) (by decide)) (g := (mkF m 169 #[.val (.int p1), .val (.int p2), .val (.int p3), .val (.int p4), .val (.int ((p1 &&& (2147483647 : Int32)) % (100 : Int32))), .val (.int ((p2 &&& (2147483647 : Int32)) % (100 : Int32))), .val (.int ((p3 &&& (2147483647 : Int32)) % (100 : Int32))), .val (.int d0), .val (.int d1), .val (.int d2), .val (.int d3), .val (.int d4), .val (.int d5), .val (.ref b1), .val (.int sa), .val (.int ea), .unset, .unset] [(.int ea), (.int sa), (.int (1 : Int32)), (.int d1), (.int (own_term d0 (0 : Int32) sa ea))])) rfl (by rw [hml]; rfl) (argsL := [(.int d1), (.int (1 : Int32)), (.int sa), (.int ea)]) (rest := [(.int (own_term d0 (0 : Int32) sa ea))]) (lenOf pd_0 rfl) rfl (by show 2 * 0 + _ ≤ _; exact Nat.le_of_eq rfl) (hb hby at_169) (fun _ _ => ⟨rfl, hs8, (by decide : 1 + 0 ≤ _), (by decide : 6 + 0 ≤ _)⟩)
  dsimp only [Pt.U, Pt.locs, Pt.cells, Pt.slots] at X9 l9 y9 z9 st9 hQ9
  subst l9 y9 z9
  obtain ⟨rfl, Nq9, hs9⟩ := hQ9
  have NN := Fr.app NN Nq9
  have pre : ∀ τ, Steps p.tables e below (T9.setTop (mkF m 172 #[.val (.int p1), .val (.int p2), .val (.int p3), .val (.int p4), .val (.int ((p1 &&& (2147483647 : Int32)) % (100 : Int32))), .val (.int ((p2 &&& (2147483647 : Int32)) % (100 : Int32))), .val (.int ((p3 &&& (2147483647 : Int32)) % (100 : Int32))), .val (.int d0), .val (.int d1), .val (.int d2), .val (.int d3), .val (.int d4), .val (.int d5), .val (.ref b1), .val (.int sa), .val (.int ea), .unset, .unset] [(.int (own_term d1 (1 : Int32) sa ea)), (.int (own_term d0 (0 : Int32) sa ea))])) τ → G τ := fun τ κ => pre τ (st9 τ κ)
  have pre : ∀ τ, Steps p.tables e below (T9.setTop (mkF m 180 #[.val (.int p1), .val (.int p2), .val (.int p3), .val (.int p4), .val (.int ((p1 &&& (2147483647 : Int32)) % (100 : Int32))), .val (.int ((p2 &&& (2147483647 : Int32)) % (100 : Int32))), .val (.int ((p3 &&& (2147483647 : Int32)) % (100 : Int32))), .val (.int d0), .val (.int d1), .val (.int d2), .val (.int d3), .val (.int d4), .val (.int d5), .val (.ref b1), .val (.int sa), .val (.int ea), .unset, .unset] [(.int ea), (.int sa), (.int (2 : Int32)), (.int d2), (.int ((own_term d0 (0 : Int32) sa ea) + (own_term d1 (1 : Int32) sa ea)))])) τ → G τ := fun τ κ => pre τ (by
    refine XS.iadd X9.here hx rfl (hb hby at_172) rfl ?_
    show Steps p.tables e below (T9.setTop (mkF m 173 #[.val (.int p1), .val (.int p2), .val (.int p3), .val (.int p4), .val (.int ((p1 &&& (2147483647 : Int32)) % (100 : Int32))), .val (.int ((p2 &&& (2147483647 : Int32)) % (100 : Int32))), .val (.int ((p3 &&& (2147483647 : Int32)) % (100 : Int32))), .val (.int d0), .val (.int d1), .val (.int d2), .val (.int d3), .val (.int d4), .val (.int d5), .val (.ref b1), .val (.int sa), .val (.int ea), .unset, .unset] [(.int ((own_term d0 (0 : Int32) sa ea) + (own_term d1 (1 : Int32) sa ea)))])) τ
    refine XS.iload X9.here hx rfl (hb hby at_173) rfl ?_
    show Steps p.tables e below (T9.setTop (mkF m 175 #[.val (.int p1), .val (.int p2), .val (.int p3), .val (.int p4), .val (.int ((p1 &&& (2147483647 : Int32)) % (100 : Int32))), .val (.int ((p2 &&& (2147483647 : Int32)) % (100 : Int32))), .val (.int ((p3 &&& (2147483647 : Int32)) % (100 : Int32))), .val (.int d0), .val (.int d1), .val (.int d2), .val (.int d3), .val (.int d4), .val (.int d5), .val (.ref b1), .val (.int sa), .val (.int ea), .unset, .unset] [(.int d2), (.int ((own_term d0 (0 : Int32) sa ea) + (own_term d1 (1 : Int32) sa ea)))])) τ
    refine XS.iconst X9.here hx rfl (hb hby at_175) ?_
    show Steps p.tables e below (T9.setTop (mkF m 176 #[.val (.int p1), .val (.int p2), .val (.int p3), .val (.int p4), .val (.int ((p1 &&& (2147483647 : Int32)) % (100 : Int32))), .val (.int ((p2 &&& (2147483647 : Int32)) % (100 : Int32))), .val (.int ((p3 &&& (2147483647 : Int32)) % (100 : Int32))), .val (.int d0), .val (.int d1), .val (.int d2), .val (.int d3), .val (.int d4), .val (.int d5), .val (.ref b1), .val (.int sa), .val (.int ea), .unset, .unset] [(.int (2 : Int32)), (.int d2), (.int ((own_term d0 (0 : Int32) sa ea) + (own_term d1 (1 : Int32) sa ea)))])) τ
    refine XS.iload X9.here hx rfl (hb hby at_176) rfl ?_
    show Steps p.tables e below (T9.setTop (mkF m 178 #[.val (.int p1), .val (.int p2), .val (.int p3), .val (.int p4), .val (.int ((p1 &&& (2147483647 : Int32)) % (100 : Int32))), .val (.int ((p2 &&& (2147483647 : Int32)) % (100 : Int32))), .val (.int ((p3 &&& (2147483647 : Int32)) % (100 : Int32))), .val (.int d0), .val (.int d1), .val (.int d2), .val (.int d3), .val (.int d4), .val (.int d5), .val (.ref b1), .val (.int sa), .val (.int ea), .unset, .unset] [(.int sa), (.int (2 : Int32)), (.int d2), (.int ((own_term d0 (0 : Int32) sa ea) + (own_term d1 (1 : Int32) sa ea)))])) τ
    refine XS.iload X9.here hx rfl (hb hby at_178) rfl ?_
    show Steps p.tables e below (T9.setTop (mkF m 180 #[.val (.int p1), .val (.int p2), .val (.int p3), .val (.int p4), .val (.int ((p1 &&& (2147483647 : Int32)) % (100 : Int32))), .val (.int ((p2 &&& (2147483647 : Int32)) % (100 : Int32))), .val (.int ((p3 &&& (2147483647 : Int32)) % (100 : Int32))), .val (.int d0), .val (.int d1), .val (.int d2), .val (.int d3), .val (.int d4), .val (.int d5), .val (.ref b1), .val (.int sa), .val (.int ea), .unset, .unset] [(.int ea), (.int sa), (.int (2 : Int32)), (.int d2), (.int ((own_term d0 (0 : Int32) sa ea) + (own_term d1 (1 : Int32) sa ea)))])) τ
    exact κ)
  obtain ⟨_, _, ⟨T10, Lx10, kx10, nx10⟩, -, X10, ⟨Lc10, hQ10, l10, y10, z10⟩, st10⟩ := Jvm.LawKit.callS X9 hx (y := (⟨"com/example/campo_livre/campolivre/CheckDigitsModulo10PinLaw", "term", "(IIII)I"⟩ : MethodName)) hown (mvT hZ (hw _ (List.mem_of_getElem? (i := 2) rfl))) (mvT hZ (hw _ (List.mem_of_getElem? (i := 3) rfl))) (mvT hZ (hw _ (List.mem_of_getElem? (i := 4) rfl))) (mvT hZ (hw _ (List.mem_of_getElem? (i := 5) rfl))) (by decide) (backOf (W := 1) (rm1 l Z a0 hw [] d2 (2 : Int32) sa ea h7 n0 Zn) hZ (hw _ (List.mem_of_getElem? (i := 5) rfl)) (hw _ (List.mem_of_getElem? (i := 4) rfl)) (by decide) (by decide)) (g := (mkF m 180 #[.val (.int p1), .val (.int p2), .val (.int p3), .val (.int p4), .val (.int ((p1 &&& (2147483647 : Int32)) % (100 : Int32))), .val (.int ((p2 &&& (2147483647 : Int32)) % (100 : Int32))), .val (.int ((p3 &&& (2147483647 : Int32)) % (100 : Int32))), .val (.int d0), .val (.int d1), .val (.int d2), .val (.int d3), .val (.int d4), .val (.int d5), .val (.ref b1), .val (.int sa), .val (.int ea), .unset, .unset] [(.int ea), (.int sa), (.int (2 : Int32)), (.int d2), (.int ((own_term d0 (0 : Int32) sa ea) + (own_term d1 (1 : Int32) sa ea)))])) rfl (by rw [hml]; rfl) (argsL := [(.int d2), (.int (2 : Int32)), (.int sa), (.int ea)]) (rest := [(.int ((own_term d0 (0 : Int32) sa ea) + (own_term d1 (1 : Int32) sa ea)))]) (lenOf pd_0 rfl) rfl (by show 2 * 0 + _ ≤ _; exact Nat.le_of_eq rfl) (hb hby at_180) (fun _ _ => ⟨rfl, hs9, (by decide : 1 + 0 ≤ _), (by decide : 6 + 0 ≤ _)⟩)
  dsimp only [Pt.U, Pt.locs, Pt.cells, Pt.slots] at X10 l10 y10 z10 st10 hQ10
  subst l10 y10 z10
  obtain ⟨rfl, Nq10, hs10⟩ := hQ10
  have NN := Fr.app NN Nq10
  have pre : ∀ τ, Steps p.tables e below (T10.setTop (mkF m 183 #[.val (.int p1), .val (.int p2), .val (.int p3), .val (.int p4), .val (.int ((p1 &&& (2147483647 : Int32)) % (100 : Int32))), .val (.int ((p2 &&& (2147483647 : Int32)) % (100 : Int32))), .val (.int ((p3 &&& (2147483647 : Int32)) % (100 : Int32))), .val (.int d0), .val (.int d1), .val (.int d2), .val (.int d3), .val (.int d4), .val (.int d5), .val (.ref b1), .val (.int sa), .val (.int ea), .unset, .unset] [(.int (own_term d2 (2 : Int32) sa ea)), (.int ((own_term d0 (0 : Int32) sa ea) + (own_term d1 (1 : Int32) sa ea)))])) τ → G τ := fun τ κ => pre τ (st10 τ κ)
  have pre : ∀ τ, Steps p.tables e below (T10.setTop (mkF m 191 #[.val (.int p1), .val (.int p2), .val (.int p3), .val (.int p4), .val (.int ((p1 &&& (2147483647 : Int32)) % (100 : Int32))), .val (.int ((p2 &&& (2147483647 : Int32)) % (100 : Int32))), .val (.int ((p3 &&& (2147483647 : Int32)) % (100 : Int32))), .val (.int d0), .val (.int d1), .val (.int d2), .val (.int d3), .val (.int d4), .val (.int d5), .val (.ref b1), .val (.int sa), .val (.int ea), .unset, .unset] [(.int ea), (.int sa), (.int (3 : Int32)), (.int d3), (.int (((own_term d0 (0 : Int32) sa ea) + (own_term d1 (1 : Int32) sa ea)) + (own_term d2 (2 : Int32) sa ea)))])) τ → G τ := fun τ κ => pre τ (by
    refine XS.iadd X10.here hx rfl (hb hby at_183) rfl ?_
    show Steps p.tables e below (T10.setTop (mkF m 184 #[.val (.int p1), .val (.int p2), .val (.int p3), .val (.int p4), .val (.int ((p1 &&& (2147483647 : Int32)) % (100 : Int32))), .val (.int ((p2 &&& (2147483647 : Int32)) % (100 : Int32))), .val (.int ((p3 &&& (2147483647 : Int32)) % (100 : Int32))), .val (.int d0), .val (.int d1), .val (.int d2), .val (.int d3), .val (.int d4), .val (.int d5), .val (.ref b1), .val (.int sa), .val (.int ea), .unset, .unset] [(.int (((own_term d0 (0 : Int32) sa ea) + (own_term d1 (1 : Int32) sa ea)) + (own_term d2 (2 : Int32) sa ea)))])) τ
    refine XS.iload X10.here hx rfl (hb hby at_184) rfl ?_
    show Steps p.tables e below (T10.setTop (mkF m 186 #[.val (.int p1), .val (.int p2), .val (.int p3), .val (.int p4), .val (.int ((p1 &&& (2147483647 : Int32)) % (100 : Int32))), .val (.int ((p2 &&& (2147483647 : Int32)) % (100 : Int32))), .val (.int ((p3 &&& (2147483647 : Int32)) % (100 : Int32))), .val (.int d0), .val (.int d1), .val (.int d2), .val (.int d3), .val (.int d4), .val (.int d5), .val (.ref b1), .val (.int sa), .val (.int ea), .unset, .unset] [(.int d3), (.int (((own_term d0 (0 : Int32) sa ea) + (own_term d1 (1 : Int32) sa ea)) + (own_term d2 (2 : Int32) sa ea)))])) τ
    refine XS.iconst X10.here hx rfl (hb hby at_186) ?_
    show Steps p.tables e below (T10.setTop (mkF m 187 #[.val (.int p1), .val (.int p2), .val (.int p3), .val (.int p4), .val (.int ((p1 &&& (2147483647 : Int32)) % (100 : Int32))), .val (.int ((p2 &&& (2147483647 : Int32)) % (100 : Int32))), .val (.int ((p3 &&& (2147483647 : Int32)) % (100 : Int32))), .val (.int d0), .val (.int d1), .val (.int d2), .val (.int d3), .val (.int d4), .val (.int d5), .val (.ref b1), .val (.int sa), .val (.int ea), .unset, .unset] [(.int (3 : Int32)), (.int d3), (.int (((own_term d0 (0 : Int32) sa ea) + (own_term d1 (1 : Int32) sa ea)) + (own_term d2 (2 : Int32) sa ea)))])) τ
    refine XS.iload X10.here hx rfl (hb hby at_187) rfl ?_
    show Steps p.tables e below (T10.setTop (mkF m 189 #[.val (.int p1), .val (.int p2), .val (.int p3), .val (.int p4), .val (.int ((p1 &&& (2147483647 : Int32)) % (100 : Int32))), .val (.int ((p2 &&& (2147483647 : Int32)) % (100 : Int32))), .val (.int ((p3 &&& (2147483647 : Int32)) % (100 : Int32))), .val (.int d0), .val (.int d1), .val (.int d2), .val (.int d3), .val (.int d4), .val (.int d5), .val (.ref b1), .val (.int sa), .val (.int ea), .unset, .unset] [(.int sa), (.int (3 : Int32)), (.int d3), (.int (((own_term d0 (0 : Int32) sa ea) + (own_term d1 (1 : Int32) sa ea)) + (own_term d2 (2 : Int32) sa ea)))])) τ
    refine XS.iload X10.here hx rfl (hb hby at_189) rfl ?_
    show Steps p.tables e below (T10.setTop (mkF m 191 #[.val (.int p1), .val (.int p2), .val (.int p3), .val (.int p4), .val (.int ((p1 &&& (2147483647 : Int32)) % (100 : Int32))), .val (.int ((p2 &&& (2147483647 : Int32)) % (100 : Int32))), .val (.int ((p3 &&& (2147483647 : Int32)) % (100 : Int32))), .val (.int d0), .val (.int d1), .val (.int d2), .val (.int d3), .val (.int d4), .val (.int d5), .val (.ref b1), .val (.int sa), .val (.int ea), .unset, .unset] [(.int ea), (.int sa), (.int (3 : Int32)), (.int d3), (.int (((own_term d0 (0 : Int32) sa ea) + (own_term d1 (1 : Int32) sa ea)) + (own_term d2 (2 : Int32) sa ea)))])) τ
    exact κ)
  obtain ⟨_, _, ⟨T11, Lx11, kx11, nx11⟩, -, X11, ⟨Lc11, hQ11, l11, y11, z11⟩, st11⟩ := Jvm.LawKit.callS X10 hx (y := (⟨"com/example/campo_livre/campolivre/CheckDigitsModulo10PinLaw", "term", "(IIII)I"⟩ : MethodName)) hown (mvT hZ (hw _ (List.mem_of_getElem? (i := 2) rfl))) (mvT hZ (hw _ (List.mem_of_getElem? (i := 3) rfl))) (mvT hZ (hw _ (List.mem_of_getElem? (i := 4) rfl))) (mvT hZ (hw _ (List.mem_of_getElem? (i := 5) rfl))) (by decide) (backOf (W := 1) (rm1 l Z a0 hw [] d3 (3 : Int32) sa ea h7 n0 Zn) hZ (hw _ (List.mem_of_getElem? (i := 5) rfl)) (hw _ (List.mem_of_getElem? (i := 4) rfl)) (by decide) (by decide)) (g := (mkF m 191 #[.val (.int p1), .val (.int p2), .val (.int p3), .val (.int p4), .val (.int ((p1 &&& (2147483647 : Int32)) % (100 : Int32))), .val (.int ((p2 &&& (2147483647 : Int32)) % (100 : Int32))), .val (.int ((p3 &&& (2147483647 : Int32)) % (100 : Int32))), .val (.int d0), .val (.int d1), .val (.int d2), .val (.int d3), .val (.int d4), .val (.int d5), .val (.ref b1), .val (.int sa), .val (.int ea), .unset, .unset] [(.int ea), (.int sa), (.int (3 : Int32)), (.int d3), (.int (((own_term d0 (0 : Int32) sa ea) + (own_term d1 (1 : Int32) sa ea)) + (own_term d2 (2 : Int32) sa ea)))])) rfl (by rw [hml]; rfl) (argsL := [(.int d3), (.int (3 : Int32)), (.int sa), (.int ea)]) (rest := [(.int (((own_term d0 (0 : Int32) sa ea) + (own_term d1 (1 : Int32) sa ea)) + (own_term d2 (2 : Int32) sa ea)))]) (lenOf pd_0 rfl) rfl (by show 2 * 0 + _ ≤ _; exact Nat.le_of_eq rfl) (hb hby at_191) (fun _ _ => ⟨rfl, hs10, (by decide : 1 + 0 ≤ _), (by decide : 6 + 0 ≤ _)⟩)
  dsimp only [Pt.U, Pt.locs, Pt.cells, Pt.slots] at X11 l11 y11 z11 st11 hQ11
  subst l11 y11 z11
  obtain ⟨rfl, Nq11, hs11⟩ := hQ11
  have NN := Fr.app NN Nq11
  have pre : ∀ τ, Steps p.tables e below (T11.setTop (mkF m 194 #[.val (.int p1), .val (.int p2), .val (.int p3), .val (.int p4), .val (.int ((p1 &&& (2147483647 : Int32)) % (100 : Int32))), .val (.int ((p2 &&& (2147483647 : Int32)) % (100 : Int32))), .val (.int ((p3 &&& (2147483647 : Int32)) % (100 : Int32))), .val (.int d0), .val (.int d1), .val (.int d2), .val (.int d3), .val (.int d4), .val (.int d5), .val (.ref b1), .val (.int sa), .val (.int ea), .unset, .unset] [(.int (own_term d3 (3 : Int32) sa ea)), (.int (((own_term d0 (0 : Int32) sa ea) + (own_term d1 (1 : Int32) sa ea)) + (own_term d2 (2 : Int32) sa ea)))])) τ → G τ := fun τ κ => pre τ (st11 τ κ)
  have pre : ∀ τ, Steps p.tables e below (T11.setTop (mkF m 202 #[.val (.int p1), .val (.int p2), .val (.int p3), .val (.int p4), .val (.int ((p1 &&& (2147483647 : Int32)) % (100 : Int32))), .val (.int ((p2 &&& (2147483647 : Int32)) % (100 : Int32))), .val (.int ((p3 &&& (2147483647 : Int32)) % (100 : Int32))), .val (.int d0), .val (.int d1), .val (.int d2), .val (.int d3), .val (.int d4), .val (.int d5), .val (.ref b1), .val (.int sa), .val (.int ea), .unset, .unset] [(.int ea), (.int sa), (.int (4 : Int32)), (.int d4), (.int ((((own_term d0 (0 : Int32) sa ea) + (own_term d1 (1 : Int32) sa ea)) + (own_term d2 (2 : Int32) sa ea)) + (own_term d3 (3 : Int32) sa ea)))])) τ → G τ := fun τ κ => pre τ (by
    refine XS.iadd X11.here hx rfl (hb hby at_194) rfl ?_
    show Steps p.tables e below (T11.setTop (mkF m 195 #[.val (.int p1), .val (.int p2), .val (.int p3), .val (.int p4), .val (.int ((p1 &&& (2147483647 : Int32)) % (100 : Int32))), .val (.int ((p2 &&& (2147483647 : Int32)) % (100 : Int32))), .val (.int ((p3 &&& (2147483647 : Int32)) % (100 : Int32))), .val (.int d0), .val (.int d1), .val (.int d2), .val (.int d3), .val (.int d4), .val (.int d5), .val (.ref b1), .val (.int sa), .val (.int ea), .unset, .unset] [(.int ((((own_term d0 (0 : Int32) sa ea) + (own_term d1 (1 : Int32) sa ea)) + (own_term d2 (2 : Int32) sa ea)) + (own_term d3 (3 : Int32) sa ea)))])) τ
    refine XS.iload X11.here hx rfl (hb hby at_195) rfl ?_
    show Steps p.tables e below (T11.setTop (mkF m 197 #[.val (.int p1), .val (.int p2), .val (.int p3), .val (.int p4), .val (.int ((p1 &&& (2147483647 : Int32)) % (100 : Int32))), .val (.int ((p2 &&& (2147483647 : Int32)) % (100 : Int32))), .val (.int ((p3 &&& (2147483647 : Int32)) % (100 : Int32))), .val (.int d0), .val (.int d1), .val (.int d2), .val (.int d3), .val (.int d4), .val (.int d5), .val (.ref b1), .val (.int sa), .val (.int ea), .unset, .unset] [(.int d4), (.int ((((own_term d0 (0 : Int32) sa ea) + (own_term d1 (1 : Int32) sa ea)) + (own_term d2 (2 : Int32) sa ea)) + (own_term d3 (3 : Int32) sa ea)))])) τ
    refine XS.iconst X11.here hx rfl (hb hby at_197) ?_
    show Steps p.tables e below (T11.setTop (mkF m 198 #[.val (.int p1), .val (.int p2), .val (.int p3), .val (.int p4), .val (.int ((p1 &&& (2147483647 : Int32)) % (100 : Int32))), .val (.int ((p2 &&& (2147483647 : Int32)) % (100 : Int32))), .val (.int ((p3 &&& (2147483647 : Int32)) % (100 : Int32))), .val (.int d0), .val (.int d1), .val (.int d2), .val (.int d3), .val (.int d4), .val (.int d5), .val (.ref b1), .val (.int sa), .val (.int ea), .unset, .unset] [(.int (4 : Int32)), (.int d4), (.int ((((own_term d0 (0 : Int32) sa ea) + (own_term d1 (1 : Int32) sa ea)) + (own_term d2 (2 : Int32) sa ea)) + (own_term d3 (3 : Int32) sa ea)))])) τ
    refine XS.iload X11.here hx rfl (hb hby at_198) rfl ?_
    show Steps p.tables e below (T11.setTop (mkF m 200 #[.val (.int p1), .val (.int p2), .val (.int p3), .val (.int p4), .val (.int ((p1 &&& (2147483647 : Int32)) % (100 : Int32))), .val (.int ((p2 &&& (2147483647 : Int32)) % (100 : Int32))), .val (.int ((p3 &&& (2147483647 : Int32)) % (100 : Int32))), .val (.int d0), .val (.int d1), .val (.int d2), .val (.int d3), .val (.int d4), .val (.int d5), .val (.ref b1), .val (.int sa), .val (.int ea), .unset, .unset] [(.int sa), (.int (4 : Int32)), (.int d4), (.int ((((own_term d0 (0 : Int32) sa ea) + (own_term d1 (1 : Int32) sa ea)) + (own_term d2 (2 : Int32) sa ea)) + (own_term d3 (3 : Int32) sa ea)))])) τ
    refine XS.iload X11.here hx rfl (hb hby at_200) rfl ?_
    show Steps p.tables e below (T11.setTop (mkF m 202 #[.val (.int p1), .val (.int p2), .val (.int p3), .val (.int p4), .val (.int ((p1 &&& (2147483647 : Int32)) % (100 : Int32))), .val (.int ((p2 &&& (2147483647 : Int32)) % (100 : Int32))), .val (.int ((p3 &&& (2147483647 : Int32)) % (100 : Int32))), .val (.int d0), .val (.int d1), .val (.int d2), .val (.int d3), .val (.int d4), .val (.int d5), .val (.ref b1), .val (.int sa), .val (.int ea), .unset, .unset] [(.int ea), (.int sa), (.int (4 : Int32)), (.int d4), (.int ((((own_term d0 (0 : Int32) sa ea) + (own_term d1 (1 : Int32) sa ea)) + (own_term d2 (2 : Int32) sa ea)) + (own_term d3 (3 : Int32) sa ea)))])) τ
    exact κ)
  obtain ⟨_, _, ⟨T12, Lx12, kx12, nx12⟩, -, X12, ⟨Lc12, hQ12, l12, y12, z12⟩, st12⟩ := Jvm.LawKit.callS X11 hx (y := (⟨"com/example/campo_livre/campolivre/CheckDigitsModulo10PinLaw", "term", "(IIII)I"⟩ : MethodName)) hown (mvT hZ (hw _ (List.mem_of_getElem? (i := 2) rfl))) (mvT hZ (hw _ (List.mem_of_getElem? (i := 3) rfl))) (mvT hZ (hw _ (List.mem_of_getElem? (i := 4) rfl))) (mvT hZ (hw _ (List.mem_of_getElem? (i := 5) rfl))) (by decide) (backOf (W := 1) (rm1 l Z a0 hw [] d4 (4 : Int32) sa ea h7 n0 Zn) hZ (hw _ (List.mem_of_getElem? (i := 5) rfl)) (hw _ (List.mem_of_getElem? (i := 4) rfl)) (by decide) (by decide)) (g := (mkF m 202 #[.val (.int p1), .val (.int p2), .val (.int p3), .val (.int p4), .val (.int ((p1 &&& (2147483647 : Int32)) % (100 : Int32))), .val (.int ((p2 &&& (2147483647 : Int32)) % (100 : Int32))), .val (.int ((p3 &&& (2147483647 : Int32)) % (100 : Int32))), .val (.int d0), .val (.int d1), .val (.int d2), .val (.int d3), .val (.int d4), .val (.int d5), .val (.ref b1), .val (.int sa), .val (.int ea), .unset, .unset] [(.int ea), (.int sa), (.int (4 : Int32)), (.int d4), (.int ((((own_term d0 (0 : Int32) sa ea) + (own_term d1 (1 : Int32) sa ea)) + (own_term d2 (2 : Int32) sa ea)) + (own_term d3 (3 : Int32) sa ea)))])) rfl (by rw [hml]; rfl) (argsL := [(.int d4), (.int (4 : Int32)), (.int sa), (.int ea)]) (rest := [(.int ((((own_term d0 (0 : Int32) sa ea) + (own_term d1 (1 : Int32) sa ea)) + (own_term d2 (2 : Int32) sa ea)) + (own_term d3 (3 : Int32) sa ea)))]) (lenOf pd_0 rfl) rfl (by show 2 * 0 + _ ≤ _; exact Nat.le_of_eq rfl) (hb hby at_202) (fun _ _ => ⟨rfl, hs11, (by decide : 1 + 0 ≤ _), (by decide : 6 + 0 ≤ _)⟩)
  dsimp only [Pt.U, Pt.locs, Pt.cells, Pt.slots] at X12 l12 y12 z12 st12 hQ12
  subst l12 y12 z12
  obtain ⟨rfl, Nq12, hs12⟩ := hQ12
  have NN := Fr.app NN Nq12
  have pre : ∀ τ, Steps p.tables e below (T12.setTop (mkF m 205 #[.val (.int p1), .val (.int p2), .val (.int p3), .val (.int p4), .val (.int ((p1 &&& (2147483647 : Int32)) % (100 : Int32))), .val (.int ((p2 &&& (2147483647 : Int32)) % (100 : Int32))), .val (.int ((p3 &&& (2147483647 : Int32)) % (100 : Int32))), .val (.int d0), .val (.int d1), .val (.int d2), .val (.int d3), .val (.int d4), .val (.int d5), .val (.ref b1), .val (.int sa), .val (.int ea), .unset, .unset] [(.int (own_term d4 (4 : Int32) sa ea)), (.int ((((own_term d0 (0 : Int32) sa ea) + (own_term d1 (1 : Int32) sa ea)) + (own_term d2 (2 : Int32) sa ea)) + (own_term d3 (3 : Int32) sa ea)))])) τ → G τ := fun τ κ => pre τ (st12 τ κ)
  have pre : ∀ τ, Steps p.tables e below (T12.setTop (mkF m 213 #[.val (.int p1), .val (.int p2), .val (.int p3), .val (.int p4), .val (.int ((p1 &&& (2147483647 : Int32)) % (100 : Int32))), .val (.int ((p2 &&& (2147483647 : Int32)) % (100 : Int32))), .val (.int ((p3 &&& (2147483647 : Int32)) % (100 : Int32))), .val (.int d0), .val (.int d1), .val (.int d2), .val (.int d3), .val (.int d4), .val (.int d5), .val (.ref b1), .val (.int sa), .val (.int ea), .unset, .unset] [(.int ea), (.int sa), (.int (5 : Int32)), (.int d5), (.int (((((own_term d0 (0 : Int32) sa ea) + (own_term d1 (1 : Int32) sa ea)) + (own_term d2 (2 : Int32) sa ea)) + (own_term d3 (3 : Int32) sa ea)) + (own_term d4 (4 : Int32) sa ea)))])) τ → G τ := fun τ κ => pre τ (by
    refine XS.iadd X12.here hx rfl (hb hby at_205) rfl ?_
    show Steps p.tables e below (T12.setTop (mkF m 206 #[.val (.int p1), .val (.int p2), .val (.int p3), .val (.int p4), .val (.int ((p1 &&& (2147483647 : Int32)) % (100 : Int32))), .val (.int ((p2 &&& (2147483647 : Int32)) % (100 : Int32))), .val (.int ((p3 &&& (2147483647 : Int32)) % (100 : Int32))), .val (.int d0), .val (.int d1), .val (.int d2), .val (.int d3), .val (.int d4), .val (.int d5), .val (.ref b1), .val (.int sa), .val (.int ea), .unset, .unset] [(.int (((((own_term d0 (0 : Int32) sa ea) + (own_term d1 (1 : Int32) sa ea)) + (own_term d2 (2 : Int32) sa ea)) + (own_term d3 (3 : Int32) sa ea)) + (own_term d4 (4 : Int32) sa ea)))])) τ
    refine XS.iload X12.here hx rfl (hb hby at_206) rfl ?_
    show Steps p.tables e below (T12.setTop (mkF m 208 #[.val (.int p1), .val (.int p2), .val (.int p3), .val (.int p4), .val (.int ((p1 &&& (2147483647 : Int32)) % (100 : Int32))), .val (.int ((p2 &&& (2147483647 : Int32)) % (100 : Int32))), .val (.int ((p3 &&& (2147483647 : Int32)) % (100 : Int32))), .val (.int d0), .val (.int d1), .val (.int d2), .val (.int d3), .val (.int d4), .val (.int d5), .val (.ref b1), .val (.int sa), .val (.int ea), .unset, .unset] [(.int d5), (.int (((((own_term d0 (0 : Int32) sa ea) + (own_term d1 (1 : Int32) sa ea)) + (own_term d2 (2 : Int32) sa ea)) + (own_term d3 (3 : Int32) sa ea)) + (own_term d4 (4 : Int32) sa ea)))])) τ
    refine XS.iconst X12.here hx rfl (hb hby at_208) ?_
    show Steps p.tables e below (T12.setTop (mkF m 209 #[.val (.int p1), .val (.int p2), .val (.int p3), .val (.int p4), .val (.int ((p1 &&& (2147483647 : Int32)) % (100 : Int32))), .val (.int ((p2 &&& (2147483647 : Int32)) % (100 : Int32))), .val (.int ((p3 &&& (2147483647 : Int32)) % (100 : Int32))), .val (.int d0), .val (.int d1), .val (.int d2), .val (.int d3), .val (.int d4), .val (.int d5), .val (.ref b1), .val (.int sa), .val (.int ea), .unset, .unset] [(.int (5 : Int32)), (.int d5), (.int (((((own_term d0 (0 : Int32) sa ea) + (own_term d1 (1 : Int32) sa ea)) + (own_term d2 (2 : Int32) sa ea)) + (own_term d3 (3 : Int32) sa ea)) + (own_term d4 (4 : Int32) sa ea)))])) τ
    refine XS.iload X12.here hx rfl (hb hby at_209) rfl ?_
    show Steps p.tables e below (T12.setTop (mkF m 211 #[.val (.int p1), .val (.int p2), .val (.int p3), .val (.int p4), .val (.int ((p1 &&& (2147483647 : Int32)) % (100 : Int32))), .val (.int ((p2 &&& (2147483647 : Int32)) % (100 : Int32))), .val (.int ((p3 &&& (2147483647 : Int32)) % (100 : Int32))), .val (.int d0), .val (.int d1), .val (.int d2), .val (.int d3), .val (.int d4), .val (.int d5), .val (.ref b1), .val (.int sa), .val (.int ea), .unset, .unset] [(.int sa), (.int (5 : Int32)), (.int d5), (.int (((((own_term d0 (0 : Int32) sa ea) + (own_term d1 (1 : Int32) sa ea)) + (own_term d2 (2 : Int32) sa ea)) + (own_term d3 (3 : Int32) sa ea)) + (own_term d4 (4 : Int32) sa ea)))])) τ
    refine XS.iload X12.here hx rfl (hb hby at_211) rfl ?_
    show Steps p.tables e below (T12.setTop (mkF m 213 #[.val (.int p1), .val (.int p2), .val (.int p3), .val (.int p4), .val (.int ((p1 &&& (2147483647 : Int32)) % (100 : Int32))), .val (.int ((p2 &&& (2147483647 : Int32)) % (100 : Int32))), .val (.int ((p3 &&& (2147483647 : Int32)) % (100 : Int32))), .val (.int d0), .val (.int d1), .val (.int d2), .val (.int d3), .val (.int d4), .val (.int d5), .val (.ref b1), .val (.int sa), .val (.int ea), .unset, .unset] [(.int ea), (.int sa), (.int (5 : Int32)), (.int d5), (.int (((((own_term d0 (0 : Int32) sa ea) + (own_term d1 (1 : Int32) sa ea)) + (own_term d2 (2 : Int32) sa ea)) + (own_term d3 (3 : Int32) sa ea)) + (own_term d4 (4 : Int32) sa ea)))])) τ
    exact κ)
  obtain ⟨_, _, ⟨T13, Lx13, kx13, nx13⟩, -, X13, ⟨Lc13, hQ13, l13, y13, z13⟩, st13⟩ := Jvm.LawKit.callS X12 hx (y := (⟨"com/example/campo_livre/campolivre/CheckDigitsModulo10PinLaw", "term", "(IIII)I"⟩ : MethodName)) hown (mvT hZ (hw _ (List.mem_of_getElem? (i := 2) rfl))) (mvT hZ (hw _ (List.mem_of_getElem? (i := 3) rfl))) (mvT hZ (hw _ (List.mem_of_getElem? (i := 4) rfl))) (mvT hZ (hw _ (List.mem_of_getElem? (i := 5) rfl))) (by decide) (backOf (W := 1) (rm1 l Z a0 hw [] d5 (5 : Int32) sa ea h7 n0 Zn) hZ (hw _ (List.mem_of_getElem? (i := 5) rfl)) (hw _ (List.mem_of_getElem? (i := 4) rfl)) (by decide) (by decide)) (g := (mkF m 213 #[.val (.int p1), .val (.int p2), .val (.int p3), .val (.int p4), .val (.int ((p1 &&& (2147483647 : Int32)) % (100 : Int32))), .val (.int ((p2 &&& (2147483647 : Int32)) % (100 : Int32))), .val (.int ((p3 &&& (2147483647 : Int32)) % (100 : Int32))), .val (.int d0), .val (.int d1), .val (.int d2), .val (.int d3), .val (.int d4), .val (.int d5), .val (.ref b1), .val (.int sa), .val (.int ea), .unset, .unset] [(.int ea), (.int sa), (.int (5 : Int32)), (.int d5), (.int (((((own_term d0 (0 : Int32) sa ea) + (own_term d1 (1 : Int32) sa ea)) + (own_term d2 (2 : Int32) sa ea)) + (own_term d3 (3 : Int32) sa ea)) + (own_term d4 (4 : Int32) sa ea)))])) rfl (by rw [hml]; rfl) (argsL := [(.int d5), (.int (5 : Int32)), (.int sa), (.int ea)]) (rest := [(.int (((((own_term d0 (0 : Int32) sa ea) + (own_term d1 (1 : Int32) sa ea)) + (own_term d2 (2 : Int32) sa ea)) + (own_term d3 (3 : Int32) sa ea)) + (own_term d4 (4 : Int32) sa ea)))]) (lenOf pd_0 rfl) rfl (by show 2 * 0 + _ ≤ _; exact Nat.le_of_eq rfl) (hb hby at_213) (fun _ _ => ⟨rfl, hs12, (by decide : 1 + 0 ≤ _), (by decide : 6 + 0 ≤ _)⟩)
  dsimp only [Pt.U, Pt.locs, Pt.cells, Pt.slots] at X13 l13 y13 z13 st13 hQ13
  subst l13 y13 z13
  obtain ⟨rfl, Nq13, hs13⟩ := hQ13
  have NN := Fr.app NN Nq13
  have pre : ∀ τ, Steps p.tables e below (T13.setTop (mkF m 216 #[.val (.int p1), .val (.int p2), .val (.int p3), .val (.int p4), .val (.int ((p1 &&& (2147483647 : Int32)) % (100 : Int32))), .val (.int ((p2 &&& (2147483647 : Int32)) % (100 : Int32))), .val (.int ((p3 &&& (2147483647 : Int32)) % (100 : Int32))), .val (.int d0), .val (.int d1), .val (.int d2), .val (.int d3), .val (.int d4), .val (.int d5), .val (.ref b1), .val (.int sa), .val (.int ea), .unset, .unset] [(.int (own_term d5 (5 : Int32) sa ea)), (.int (((((own_term d0 (0 : Int32) sa ea) + (own_term d1 (1 : Int32) sa ea)) + (own_term d2 (2 : Int32) sa ea)) + (own_term d3 (3 : Int32) sa ea)) + (own_term d4 (4 : Int32) sa ea)))])) τ → G τ := fun τ κ => pre τ (st13 τ κ)
  have pre : ∀ τ, Steps p.tables e below (T13.setTop (mkF m 238 #[.val (.int p1), .val (.int p2), .val (.int p3), .val (.int p4), .val (.int ((p1 &&& (2147483647 : Int32)) % (100 : Int32))), .val (.int ((p2 &&& (2147483647 : Int32)) % (100 : Int32))), .val (.int ((p3 &&& (2147483647 : Int32)) % (100 : Int32))), .val (.int d0), .val (.int d1), .val (.int d2), .val (.int d3), .val (.int d4), .val (.int d5), .val (.ref b1), .val (.int sa), .val (.int ea), .val (.int ((((((own_term d0 (0 : Int32) sa ea) + (own_term d1 (1 : Int32) sa ea)) + (own_term d2 (2 : Int32) sa ea)) + (own_term d3 (3 : Int32) sa ea)) + (own_term d4 (4 : Int32) sa ea)) + (own_term d5 (5 : Int32) sa ea))), .val (.int (((10 : Int32) - (((((((own_term d0 (0 : Int32) sa ea) + (own_term d1 (1 : Int32) sa ea)) + (own_term d2 (2 : Int32) sa ea)) + (own_term d3 (3 : Int32) sa ea)) + (own_term d4 (4 : Int32) sa ea)) + (own_term d5 (5 : Int32) sa ea)) % (10 : Int32))) % (10 : Int32)))] [(.int ea), (.int sa), (.ref b1)])) τ → G τ := fun τ κ => pre τ (by
    refine XS.iadd X13.here hx rfl (hb hby at_216) rfl ?_
    show Steps p.tables e below (T13.setTop (mkF m 217 #[.val (.int p1), .val (.int p2), .val (.int p3), .val (.int p4), .val (.int ((p1 &&& (2147483647 : Int32)) % (100 : Int32))), .val (.int ((p2 &&& (2147483647 : Int32)) % (100 : Int32))), .val (.int ((p3 &&& (2147483647 : Int32)) % (100 : Int32))), .val (.int d0), .val (.int d1), .val (.int d2), .val (.int d3), .val (.int d4), .val (.int d5), .val (.ref b1), .val (.int sa), .val (.int ea), .unset, .unset] [(.int ((((((own_term d0 (0 : Int32) sa ea) + (own_term d1 (1 : Int32) sa ea)) + (own_term d2 (2 : Int32) sa ea)) + (own_term d3 (3 : Int32) sa ea)) + (own_term d4 (4 : Int32) sa ea)) + (own_term d5 (5 : Int32) sa ea)))])) τ
    refine XS.istore X13.here hx rfl (hb hby at_217) rfl (l' := #[.val (.int p1), .val (.int p2), .val (.int p3), .val (.int p4), .val (.int ((p1 &&& (2147483647 : Int32)) % (100 : Int32))), .val (.int ((p2 &&& (2147483647 : Int32)) % (100 : Int32))), .val (.int ((p3 &&& (2147483647 : Int32)) % (100 : Int32))), .val (.int d0), .val (.int d1), .val (.int d2), .val (.int d3), .val (.int d4), .val (.int d5), .val (.ref b1), .val (.int sa), .val (.int ea), .val (.int ((((((own_term d0 (0 : Int32) sa ea) + (own_term d1 (1 : Int32) sa ea)) + (own_term d2 (2 : Int32) sa ea)) + (own_term d3 (3 : Int32) sa ea)) + (own_term d4 (4 : Int32) sa ea)) + (own_term d5 (5 : Int32) sa ea))), .unset]) rfl ?_
    show Steps p.tables e below (T13.setTop (mkF m 219 #[.val (.int p1), .val (.int p2), .val (.int p3), .val (.int p4), .val (.int ((p1 &&& (2147483647 : Int32)) % (100 : Int32))), .val (.int ((p2 &&& (2147483647 : Int32)) % (100 : Int32))), .val (.int ((p3 &&& (2147483647 : Int32)) % (100 : Int32))), .val (.int d0), .val (.int d1), .val (.int d2), .val (.int d3), .val (.int d4), .val (.int d5), .val (.ref b1), .val (.int sa), .val (.int ea), .val (.int ((((((own_term d0 (0 : Int32) sa ea) + (own_term d1 (1 : Int32) sa ea)) + (own_term d2 (2 : Int32) sa ea)) + (own_term d3 (3 : Int32) sa ea)) + (own_term d4 (4 : Int32) sa ea)) + (own_term d5 (5 : Int32) sa ea))), .unset] [])) τ
    refine XS.bipush X13.here hx rfl (hb hby at_219) ?_
    show Steps p.tables e below (T13.setTop (mkF m 221 #[.val (.int p1), .val (.int p2), .val (.int p3), .val (.int p4), .val (.int ((p1 &&& (2147483647 : Int32)) % (100 : Int32))), .val (.int ((p2 &&& (2147483647 : Int32)) % (100 : Int32))), .val (.int ((p3 &&& (2147483647 : Int32)) % (100 : Int32))), .val (.int d0), .val (.int d1), .val (.int d2), .val (.int d3), .val (.int d4), .val (.int d5), .val (.ref b1), .val (.int sa), .val (.int ea), .val (.int ((((((own_term d0 (0 : Int32) sa ea) + (own_term d1 (1 : Int32) sa ea)) + (own_term d2 (2 : Int32) sa ea)) + (own_term d3 (3 : Int32) sa ea)) + (own_term d4 (4 : Int32) sa ea)) + (own_term d5 (5 : Int32) sa ea))), .unset] [(.int (10 : Int32))])) τ
    refine XS.iload X13.here hx rfl (hb hby at_221) rfl ?_
    show Steps p.tables e below (T13.setTop (mkF m 223 #[.val (.int p1), .val (.int p2), .val (.int p3), .val (.int p4), .val (.int ((p1 &&& (2147483647 : Int32)) % (100 : Int32))), .val (.int ((p2 &&& (2147483647 : Int32)) % (100 : Int32))), .val (.int ((p3 &&& (2147483647 : Int32)) % (100 : Int32))), .val (.int d0), .val (.int d1), .val (.int d2), .val (.int d3), .val (.int d4), .val (.int d5), .val (.ref b1), .val (.int sa), .val (.int ea), .val (.int ((((((own_term d0 (0 : Int32) sa ea) + (own_term d1 (1 : Int32) sa ea)) + (own_term d2 (2 : Int32) sa ea)) + (own_term d3 (3 : Int32) sa ea)) + (own_term d4 (4 : Int32) sa ea)) + (own_term d5 (5 : Int32) sa ea))), .unset] [(.int ((((((own_term d0 (0 : Int32) sa ea) + (own_term d1 (1 : Int32) sa ea)) + (own_term d2 (2 : Int32) sa ea)) + (own_term d3 (3 : Int32) sa ea)) + (own_term d4 (4 : Int32) sa ea)) + (own_term d5 (5 : Int32) sa ea))), (.int (10 : Int32))])) τ
    refine XS.bipush X13.here hx rfl (hb hby at_223) ?_
    show Steps p.tables e below (T13.setTop (mkF m 225 #[.val (.int p1), .val (.int p2), .val (.int p3), .val (.int p4), .val (.int ((p1 &&& (2147483647 : Int32)) % (100 : Int32))), .val (.int ((p2 &&& (2147483647 : Int32)) % (100 : Int32))), .val (.int ((p3 &&& (2147483647 : Int32)) % (100 : Int32))), .val (.int d0), .val (.int d1), .val (.int d2), .val (.int d3), .val (.int d4), .val (.int d5), .val (.ref b1), .val (.int sa), .val (.int ea), .val (.int ((((((own_term d0 (0 : Int32) sa ea) + (own_term d1 (1 : Int32) sa ea)) + (own_term d2 (2 : Int32) sa ea)) + (own_term d3 (3 : Int32) sa ea)) + (own_term d4 (4 : Int32) sa ea)) + (own_term d5 (5 : Int32) sa ea))), .unset] [(.int (10 : Int32)), (.int ((((((own_term d0 (0 : Int32) sa ea) + (own_term d1 (1 : Int32) sa ea)) + (own_term d2 (2 : Int32) sa ea)) + (own_term d3 (3 : Int32) sa ea)) + (own_term d4 (4 : Int32) sa ea)) + (own_term d5 (5 : Int32) sa ea))), (.int (10 : Int32))])) τ
    refine iremM X13 hx rfl (hb hby at_225) rfl (by decide) ?_
    show Steps p.tables e below (T13.setTop (mkF m 226 #[.val (.int p1), .val (.int p2), .val (.int p3), .val (.int p4), .val (.int ((p1 &&& (2147483647 : Int32)) % (100 : Int32))), .val (.int ((p2 &&& (2147483647 : Int32)) % (100 : Int32))), .val (.int ((p3 &&& (2147483647 : Int32)) % (100 : Int32))), .val (.int d0), .val (.int d1), .val (.int d2), .val (.int d3), .val (.int d4), .val (.int d5), .val (.ref b1), .val (.int sa), .val (.int ea), .val (.int ((((((own_term d0 (0 : Int32) sa ea) + (own_term d1 (1 : Int32) sa ea)) + (own_term d2 (2 : Int32) sa ea)) + (own_term d3 (3 : Int32) sa ea)) + (own_term d4 (4 : Int32) sa ea)) + (own_term d5 (5 : Int32) sa ea))), .unset] [(.int (((((((own_term d0 (0 : Int32) sa ea) + (own_term d1 (1 : Int32) sa ea)) + (own_term d2 (2 : Int32) sa ea)) + (own_term d3 (3 : Int32) sa ea)) + (own_term d4 (4 : Int32) sa ea)) + (own_term d5 (5 : Int32) sa ea)) % (10 : Int32))), (.int (10 : Int32))])) τ
    refine XS.isub X13.here hx rfl (hb hby at_226) rfl ?_
    show Steps p.tables e below (T13.setTop (mkF m 227 #[.val (.int p1), .val (.int p2), .val (.int p3), .val (.int p4), .val (.int ((p1 &&& (2147483647 : Int32)) % (100 : Int32))), .val (.int ((p2 &&& (2147483647 : Int32)) % (100 : Int32))), .val (.int ((p3 &&& (2147483647 : Int32)) % (100 : Int32))), .val (.int d0), .val (.int d1), .val (.int d2), .val (.int d3), .val (.int d4), .val (.int d5), .val (.ref b1), .val (.int sa), .val (.int ea), .val (.int ((((((own_term d0 (0 : Int32) sa ea) + (own_term d1 (1 : Int32) sa ea)) + (own_term d2 (2 : Int32) sa ea)) + (own_term d3 (3 : Int32) sa ea)) + (own_term d4 (4 : Int32) sa ea)) + (own_term d5 (5 : Int32) sa ea))), .unset] [(.int ((10 : Int32) - (((((((own_term d0 (0 : Int32) sa ea) + (own_term d1 (1 : Int32) sa ea)) + (own_term d2 (2 : Int32) sa ea)) + (own_term d3 (3 : Int32) sa ea)) + (own_term d4 (4 : Int32) sa ea)) + (own_term d5 (5 : Int32) sa ea)) % (10 : Int32))))])) τ
    refine XS.bipush X13.here hx rfl (hb hby at_227) ?_
    show Steps p.tables e below (T13.setTop (mkF m 229 #[.val (.int p1), .val (.int p2), .val (.int p3), .val (.int p4), .val (.int ((p1 &&& (2147483647 : Int32)) % (100 : Int32))), .val (.int ((p2 &&& (2147483647 : Int32)) % (100 : Int32))), .val (.int ((p3 &&& (2147483647 : Int32)) % (100 : Int32))), .val (.int d0), .val (.int d1), .val (.int d2), .val (.int d3), .val (.int d4), .val (.int d5), .val (.ref b1), .val (.int sa), .val (.int ea), .val (.int ((((((own_term d0 (0 : Int32) sa ea) + (own_term d1 (1 : Int32) sa ea)) + (own_term d2 (2 : Int32) sa ea)) + (own_term d3 (3 : Int32) sa ea)) + (own_term d4 (4 : Int32) sa ea)) + (own_term d5 (5 : Int32) sa ea))), .unset] [(.int (10 : Int32)), (.int ((10 : Int32) - (((((((own_term d0 (0 : Int32) sa ea) + (own_term d1 (1 : Int32) sa ea)) + (own_term d2 (2 : Int32) sa ea)) + (own_term d3 (3 : Int32) sa ea)) + (own_term d4 (4 : Int32) sa ea)) + (own_term d5 (5 : Int32) sa ea)) % (10 : Int32))))])) τ
    refine iremM X13 hx rfl (hb hby at_229) rfl (by decide) ?_
    show Steps p.tables e below (T13.setTop (mkF m 230 #[.val (.int p1), .val (.int p2), .val (.int p3), .val (.int p4), .val (.int ((p1 &&& (2147483647 : Int32)) % (100 : Int32))), .val (.int ((p2 &&& (2147483647 : Int32)) % (100 : Int32))), .val (.int ((p3 &&& (2147483647 : Int32)) % (100 : Int32))), .val (.int d0), .val (.int d1), .val (.int d2), .val (.int d3), .val (.int d4), .val (.int d5), .val (.ref b1), .val (.int sa), .val (.int ea), .val (.int ((((((own_term d0 (0 : Int32) sa ea) + (own_term d1 (1 : Int32) sa ea)) + (own_term d2 (2 : Int32) sa ea)) + (own_term d3 (3 : Int32) sa ea)) + (own_term d4 (4 : Int32) sa ea)) + (own_term d5 (5 : Int32) sa ea))), .unset] [(.int (((10 : Int32) - (((((((own_term d0 (0 : Int32) sa ea) + (own_term d1 (1 : Int32) sa ea)) + (own_term d2 (2 : Int32) sa ea)) + (own_term d3 (3 : Int32) sa ea)) + (own_term d4 (4 : Int32) sa ea)) + (own_term d5 (5 : Int32) sa ea)) % (10 : Int32))) % (10 : Int32)))])) τ
    refine XS.istore X13.here hx rfl (hb hby at_230) rfl (l' := #[.val (.int p1), .val (.int p2), .val (.int p3), .val (.int p4), .val (.int ((p1 &&& (2147483647 : Int32)) % (100 : Int32))), .val (.int ((p2 &&& (2147483647 : Int32)) % (100 : Int32))), .val (.int ((p3 &&& (2147483647 : Int32)) % (100 : Int32))), .val (.int d0), .val (.int d1), .val (.int d2), .val (.int d3), .val (.int d4), .val (.int d5), .val (.ref b1), .val (.int sa), .val (.int ea), .val (.int ((((((own_term d0 (0 : Int32) sa ea) + (own_term d1 (1 : Int32) sa ea)) + (own_term d2 (2 : Int32) sa ea)) + (own_term d3 (3 : Int32) sa ea)) + (own_term d4 (4 : Int32) sa ea)) + (own_term d5 (5 : Int32) sa ea))), .val (.int (((10 : Int32) - (((((((own_term d0 (0 : Int32) sa ea) + (own_term d1 (1 : Int32) sa ea)) + (own_term d2 (2 : Int32) sa ea)) + (own_term d3 (3 : Int32) sa ea)) + (own_term d4 (4 : Int32) sa ea)) + (own_term d5 (5 : Int32) sa ea)) % (10 : Int32))) % (10 : Int32)))]) rfl ?_
    show Steps p.tables e below (T13.setTop (mkF m 232 #[.val (.int p1), .val (.int p2), .val (.int p3), .val (.int p4), .val (.int ((p1 &&& (2147483647 : Int32)) % (100 : Int32))), .val (.int ((p2 &&& (2147483647 : Int32)) % (100 : Int32))), .val (.int ((p3 &&& (2147483647 : Int32)) % (100 : Int32))), .val (.int d0), .val (.int d1), .val (.int d2), .val (.int d3), .val (.int d4), .val (.int d5), .val (.ref b1), .val (.int sa), .val (.int ea), .val (.int ((((((own_term d0 (0 : Int32) sa ea) + (own_term d1 (1 : Int32) sa ea)) + (own_term d2 (2 : Int32) sa ea)) + (own_term d3 (3 : Int32) sa ea)) + (own_term d4 (4 : Int32) sa ea)) + (own_term d5 (5 : Int32) sa ea))), .val (.int (((10 : Int32) - (((((((own_term d0 (0 : Int32) sa ea) + (own_term d1 (1 : Int32) sa ea)) + (own_term d2 (2 : Int32) sa ea)) + (own_term d3 (3 : Int32) sa ea)) + (own_term d4 (4 : Int32) sa ea)) + (own_term d5 (5 : Int32) sa ea)) % (10 : Int32))) % (10 : Int32)))] [])) τ
    refine XS.aload X13.here hx rfl (hb hby at_232) rfl rfl ?_
    show Steps p.tables e below (T13.setTop (mkF m 234 #[.val (.int p1), .val (.int p2), .val (.int p3), .val (.int p4), .val (.int ((p1 &&& (2147483647 : Int32)) % (100 : Int32))), .val (.int ((p2 &&& (2147483647 : Int32)) % (100 : Int32))), .val (.int ((p3 &&& (2147483647 : Int32)) % (100 : Int32))), .val (.int d0), .val (.int d1), .val (.int d2), .val (.int d3), .val (.int d4), .val (.int d5), .val (.ref b1), .val (.int sa), .val (.int ea), .val (.int ((((((own_term d0 (0 : Int32) sa ea) + (own_term d1 (1 : Int32) sa ea)) + (own_term d2 (2 : Int32) sa ea)) + (own_term d3 (3 : Int32) sa ea)) + (own_term d4 (4 : Int32) sa ea)) + (own_term d5 (5 : Int32) sa ea))), .val (.int (((10 : Int32) - (((((((own_term d0 (0 : Int32) sa ea) + (own_term d1 (1 : Int32) sa ea)) + (own_term d2 (2 : Int32) sa ea)) + (own_term d3 (3 : Int32) sa ea)) + (own_term d4 (4 : Int32) sa ea)) + (own_term d5 (5 : Int32) sa ea)) % (10 : Int32))) % (10 : Int32)))] [(.ref b1)])) τ
    refine XS.iload X13.here hx rfl (hb hby at_234) rfl ?_
    show Steps p.tables e below (T13.setTop (mkF m 236 #[.val (.int p1), .val (.int p2), .val (.int p3), .val (.int p4), .val (.int ((p1 &&& (2147483647 : Int32)) % (100 : Int32))), .val (.int ((p2 &&& (2147483647 : Int32)) % (100 : Int32))), .val (.int ((p3 &&& (2147483647 : Int32)) % (100 : Int32))), .val (.int d0), .val (.int d1), .val (.int d2), .val (.int d3), .val (.int d4), .val (.int d5), .val (.ref b1), .val (.int sa), .val (.int ea), .val (.int ((((((own_term d0 (0 : Int32) sa ea) + (own_term d1 (1 : Int32) sa ea)) + (own_term d2 (2 : Int32) sa ea)) + (own_term d3 (3 : Int32) sa ea)) + (own_term d4 (4 : Int32) sa ea)) + (own_term d5 (5 : Int32) sa ea))), .val (.int (((10 : Int32) - (((((((own_term d0 (0 : Int32) sa ea) + (own_term d1 (1 : Int32) sa ea)) + (own_term d2 (2 : Int32) sa ea)) + (own_term d3 (3 : Int32) sa ea)) + (own_term d4 (4 : Int32) sa ea)) + (own_term d5 (5 : Int32) sa ea)) % (10 : Int32))) % (10 : Int32)))] [(.int sa), (.ref b1)])) τ
    refine XS.iload X13.here hx rfl (hb hby at_236) rfl ?_
    show Steps p.tables e below (T13.setTop (mkF m 238 #[.val (.int p1), .val (.int p2), .val (.int p3), .val (.int p4), .val (.int ((p1 &&& (2147483647 : Int32)) % (100 : Int32))), .val (.int ((p2 &&& (2147483647 : Int32)) % (100 : Int32))), .val (.int ((p3 &&& (2147483647 : Int32)) % (100 : Int32))), .val (.int d0), .val (.int d1), .val (.int d2), .val (.int d3), .val (.int d4), .val (.int d5), .val (.ref b1), .val (.int sa), .val (.int ea), .val (.int ((((((own_term d0 (0 : Int32) sa ea) + (own_term d1 (1 : Int32) sa ea)) + (own_term d2 (2 : Int32) sa ea)) + (own_term d3 (3 : Int32) sa ea)) + (own_term d4 (4 : Int32) sa ea)) + (own_term d5 (5 : Int32) sa ea))), .val (.int (((10 : Int32) - (((((((own_term d0 (0 : Int32) sa ea) + (own_term d1 (1 : Int32) sa ea)) + (own_term d2 (2 : Int32) sa ea)) + (own_term d3 (3 : Int32) sa ea)) + (own_term d4 (4 : Int32) sa ea)) + (own_term d5 (5 : Int32) sa ea)) % (10 : Int32))) % (10 : Int32)))] [(.int ea), (.int sa), (.ref b1)])) τ
    exact κ)
  obtain ⟨_, _, ⟨T14, Lx14, kx14, nx14⟩, -, X14, ⟨Lc14, hQ14, l14, y14, z14⟩, st14⟩ := Jvm.LawKit.callS X13 hx (y := (⟨"com/example/campo_livre/campolivre/CheckDigits", "modulo10", "([BII)I"⟩ : MethodName)) hown (mvT hZ (hw _ (List.mem_of_getElem? (i := 6) rfl))) (mvT hZ (hw _ (List.mem_of_getElem? (i := 7) rfl))) (mvT hZ (hw _ (List.mem_of_getElem? (i := 8) rfl))) (mvT hZ (hw _ (List.mem_of_getElem? (i := 9) rfl))) (by decide) (backOf (W := 0) (rm2 l Z a0 hw [] b1 sa ea k1 (6 : Int32) [(.int (nar .byte (((48 : Int32) + d0).toInt8.toInt32))), (.int (nar .byte (((48 : Int32) + d1).toInt8.toInt32))), (.int (nar .byte (((48 : Int32) + d2).toInt8.toInt32))), (.int (nar .byte (((48 : Int32) + d3).toInt8.toInt32))), (.int (nar .byte (((48 : Int32) + d4).toInt8.toInt32))), (.int (nar .byte (((48 : Int32) + d5).toInt8.toInt32)))] (.int (0 : Int32)) h7 n0 Zn V_b1 hse.1 hse.2.1 hse.2.2) hZ (hw _ (List.mem_of_getElem? (i := 9) rfl)) (hw _ (List.mem_of_getElem? (i := 8) rfl)) (by decide) (by decide)) (g := (mkF m 238 #[.val (.int p1), .val (.int p2), .val (.int p3), .val (.int p4), .val (.int ((p1 &&& (2147483647 : Int32)) % (100 : Int32))), .val (.int ((p2 &&& (2147483647 : Int32)) % (100 : Int32))), .val (.int ((p3 &&& (2147483647 : Int32)) % (100 : Int32))), .val (.int d0), .val (.int d1), .val (.int d2), .val (.int d3), .val (.int d4), .val (.int d5), .val (.ref b1), .val (.int sa), .val (.int ea), .val (.int ((((((own_term d0 (0 : Int32) sa ea) + (own_term d1 (1 : Int32) sa ea)) + (own_term d2 (2 : Int32) sa ea)) + (own_term d3 (3 : Int32) sa ea)) + (own_term d4 (4 : Int32) sa ea)) + (own_term d5 (5 : Int32) sa ea))), .val (.int (((10 : Int32) - (((((((own_term d0 (0 : Int32) sa ea) + (own_term d1 (1 : Int32) sa ea)) + (own_term d2 (2 : Int32) sa ea)) + (own_term d3 (3 : Int32) sa ea)) + (own_term d4 (4 : Int32) sa ea)) + (own_term d5 (5 : Int32) sa ea)) % (10 : Int32))) % (10 : Int32)))] [(.int ea), (.int sa), (.ref b1)])) rfl (by rw [hml]; rfl) (argsL := [(.ref b1), (.int sa), (.int ea)]) (rest := []) (lenOf pd_1 rfl) rfl (by show 2 * 0 + _ ≤ _; exact Nat.le_of_eq rfl) (hb hby at_238) (fun _ _ => ⟨rfl, hs13, (by decide : 1 + 0 ≤ _), (by decide : 6 + 0 ≤ _)⟩)
  dsimp only [Pt.U, Pt.locs, Pt.cells, Pt.slots] at X14 l14 y14 z14 st14 hQ14
  subst l14 y14 z14
  obtain ⟨rfl, Nq14, hs14⟩ := hQ14
  have NN := Fr.app NN Nq14
  have pre : ∀ τ, Steps p.tables e below (T14.setTop (mkF m 241 #[.val (.int p1), .val (.int p2), .val (.int p3), .val (.int p4), .val (.int ((p1 &&& (2147483647 : Int32)) % (100 : Int32))), .val (.int ((p2 &&& (2147483647 : Int32)) % (100 : Int32))), .val (.int ((p3 &&& (2147483647 : Int32)) % (100 : Int32))), .val (.int d0), .val (.int d1), .val (.int d2), .val (.int d3), .val (.int d4), .val (.int d5), .val (.ref b1), .val (.int sa), .val (.int ea), .val (.int ((((((own_term d0 (0 : Int32) sa ea) + (own_term d1 (1 : Int32) sa ea)) + (own_term d2 (2 : Int32) sa ea)) + (own_term d3 (3 : Int32) sa ea)) + (own_term d4 (4 : Int32) sa ea)) + (own_term d5 (5 : Int32) sa ea))), .val (.int (((10 : Int32) - (((((((own_term d0 (0 : Int32) sa ea) + (own_term d1 (1 : Int32) sa ea)) + (own_term d2 (2 : Int32) sa ea)) + (own_term d3 (3 : Int32) sa ea)) + (own_term d4 (4 : Int32) sa ea)) + (own_term d5 (5 : Int32) sa ea)) % (10 : Int32))) % (10 : Int32)))] [(.int (own_m10 [(.int (nar .byte (((48 : Int32) + d0).toInt8.toInt32))), (.int (nar .byte (((48 : Int32) + d1).toInt8.toInt32))), (.int (nar .byte (((48 : Int32) + d2).toInt8.toInt32))), (.int (nar .byte (((48 : Int32) + d3).toInt8.toInt32))), (.int (nar .byte (((48 : Int32) + d4).toInt8.toInt32))), (.int (nar .byte (((48 : Int32) + d5).toInt8.toInt32)))] (.int (0 : Int32)) sa ea))])) τ → G τ := fun τ κ => pre τ (st14 τ κ)
  have pre : ∀ τ, Steps p.tables e below (T14.setTop (mkF m 243 #[.val (.int p1), .val (.int p2), .val (.int p3), .val (.int p4), .val (.int ((p1 &&& (2147483647 : Int32)) % (100 : Int32))), .val (.int ((p2 &&& (2147483647 : Int32)) % (100 : Int32))), .val (.int ((p3 &&& (2147483647 : Int32)) % (100 : Int32))), .val (.int d0), .val (.int d1), .val (.int d2), .val (.int d3), .val (.int d4), .val (.int d5), .val (.ref b1), .val (.int sa), .val (.int ea), .val (.int ((((((own_term d0 (0 : Int32) sa ea) + (own_term d1 (1 : Int32) sa ea)) + (own_term d2 (2 : Int32) sa ea)) + (own_term d3 (3 : Int32) sa ea)) + (own_term d4 (4 : Int32) sa ea)) + (own_term d5 (5 : Int32) sa ea))), .val (.int (((10 : Int32) - (((((((own_term d0 (0 : Int32) sa ea) + (own_term d1 (1 : Int32) sa ea)) + (own_term d2 (2 : Int32) sa ea)) + (own_term d3 (3 : Int32) sa ea)) + (own_term d4 (4 : Int32) sa ea)) + (own_term d5 (5 : Int32) sa ea)) % (10 : Int32))) % (10 : Int32)))] [(.int (((10 : Int32) - (((((((own_term d0 (0 : Int32) sa ea) + (own_term d1 (1 : Int32) sa ea)) + (own_term d2 (2 : Int32) sa ea)) + (own_term d3 (3 : Int32) sa ea)) + (own_term d4 (4 : Int32) sa ea)) + (own_term d5 (5 : Int32) sa ea)) % (10 : Int32))) % (10 : Int32))), (.int (own_m10 [(.int (nar .byte (((48 : Int32) + d0).toInt8.toInt32))), (.int (nar .byte (((48 : Int32) + d1).toInt8.toInt32))), (.int (nar .byte (((48 : Int32) + d2).toInt8.toInt32))), (.int (nar .byte (((48 : Int32) + d3).toInt8.toInt32))), (.int (nar .byte (((48 : Int32) + d4).toInt8.toInt32))), (.int (nar .byte (((48 : Int32) + d5).toInt8.toInt32)))] (.int (0 : Int32)) sa ea))])) τ → G τ := fun τ κ => pre τ (by
    refine XS.iload X14.here hx rfl (hb hby at_241) rfl ?_
    show Steps p.tables e below (T14.setTop (mkF m 243 #[.val (.int p1), .val (.int p2), .val (.int p3), .val (.int p4), .val (.int ((p1 &&& (2147483647 : Int32)) % (100 : Int32))), .val (.int ((p2 &&& (2147483647 : Int32)) % (100 : Int32))), .val (.int ((p3 &&& (2147483647 : Int32)) % (100 : Int32))), .val (.int d0), .val (.int d1), .val (.int d2), .val (.int d3), .val (.int d4), .val (.int d5), .val (.ref b1), .val (.int sa), .val (.int ea), .val (.int ((((((own_term d0 (0 : Int32) sa ea) + (own_term d1 (1 : Int32) sa ea)) + (own_term d2 (2 : Int32) sa ea)) + (own_term d3 (3 : Int32) sa ea)) + (own_term d4 (4 : Int32) sa ea)) + (own_term d5 (5 : Int32) sa ea))), .val (.int (((10 : Int32) - (((((((own_term d0 (0 : Int32) sa ea) + (own_term d1 (1 : Int32) sa ea)) + (own_term d2 (2 : Int32) sa ea)) + (own_term d3 (3 : Int32) sa ea)) + (own_term d4 (4 : Int32) sa ea)) + (own_term d5 (5 : Int32) sa ea)) % (10 : Int32))) % (10 : Int32)))] [(.int (((10 : Int32) - (((((((own_term d0 (0 : Int32) sa ea) + (own_term d1 (1 : Int32) sa ea)) + (own_term d2 (2 : Int32) sa ea)) + (own_term d3 (3 : Int32) sa ea)) + (own_term d4 (4 : Int32) sa ea)) + (own_term d5 (5 : Int32) sa ea)) % (10 : Int32))) % (10 : Int32))), (.int (own_m10 [(.int (nar .byte (((48 : Int32) + d0).toInt8.toInt32))), (.int (nar .byte (((48 : Int32) + d1).toInt8.toInt32))), (.int (nar .byte (((48 : Int32) + d2).toInt8.toInt32))), (.int (nar .byte (((48 : Int32) + d3).toInt8.toInt32))), (.int (nar .byte (((48 : Int32) + d4).toInt8.toInt32))), (.int (nar .byte (((48 : Int32) + d5).toInt8.toInt32)))] (.int (0 : Int32)) sa ea))])) τ
    exact κ)
  have hc15 : (own_m10 [(.int (nar .byte (((48 : Int32) + d0).toInt8.toInt32))), (.int (nar .byte (((48 : Int32) + d1).toInt8.toInt32))), (.int (nar .byte (((48 : Int32) + d2).toInt8.toInt32))), (.int (nar .byte (((48 : Int32) + d3).toInt8.toInt32))), (.int (nar .byte (((48 : Int32) + d4).toInt8.toInt32))), (.int (nar .byte (((48 : Int32) + d5).toInt8.toInt32)))] (.int (0 : Int32)) sa ea) = (((10 : Int32) - (((((((own_term d0 (0 : Int32) sa ea) + (own_term d1 (1 : Int32) sa ea)) + (own_term d2 (2 : Int32) sa ea)) + (own_term d3 (3 : Int32) sa ea)) + (own_term d4 (4 : Int32) sa ea)) + (own_term d5 (5 : Int32) sa ea)) % (10 : Int32))) % (10 : Int32)) := own_law _ _ _ _ _ _ _ _ bd0 bd1 bd2 bd3 bd4 bd5 hse
  have pre : ∀ τ, Steps p.tables e below (T14.setTop (mkF m 251 #[.val (.int p1), .val (.int p2), .val (.int p3), .val (.int p4), .val (.int ((p1 &&& (2147483647 : Int32)) % (100 : Int32))), .val (.int ((p2 &&& (2147483647 : Int32)) % (100 : Int32))), .val (.int ((p3 &&& (2147483647 : Int32)) % (100 : Int32))), .val (.int d0), .val (.int d1), .val (.int d2), .val (.int d3), .val (.int d4), .val (.int d5), .val (.ref b1), .val (.int sa), .val (.int ea), .val (.int ((((((own_term d0 (0 : Int32) sa ea) + (own_term d1 (1 : Int32) sa ea)) + (own_term d2 (2 : Int32) sa ea)) + (own_term d3 (3 : Int32) sa ea)) + (own_term d4 (4 : Int32) sa ea)) + (own_term d5 (5 : Int32) sa ea))), .val (.int (((10 : Int32) - (((((((own_term d0 (0 : Int32) sa ea) + (own_term d1 (1 : Int32) sa ea)) + (own_term d2 (2 : Int32) sa ea)) + (own_term d3 (3 : Int32) sa ea)) + (own_term d4 (4 : Int32) sa ea)) + (own_term d5 (5 : Int32) sa ea)) % (10 : Int32))) % (10 : Int32)))] [(.int (1 : Int32))])) τ → G τ := fun τ κ => pre τ (by
    refine XS.icmpNo X14.here hx rfl (hb hby at_243) rfl (teq hc15).2 ?_
    show Steps p.tables e below (T14.setTop (mkF m 246 #[.val (.int p1), .val (.int p2), .val (.int p3), .val (.int p4), .val (.int ((p1 &&& (2147483647 : Int32)) % (100 : Int32))), .val (.int ((p2 &&& (2147483647 : Int32)) % (100 : Int32))), .val (.int ((p3 &&& (2147483647 : Int32)) % (100 : Int32))), .val (.int d0), .val (.int d1), .val (.int d2), .val (.int d3), .val (.int d4), .val (.int d5), .val (.ref b1), .val (.int sa), .val (.int ea), .val (.int ((((((own_term d0 (0 : Int32) sa ea) + (own_term d1 (1 : Int32) sa ea)) + (own_term d2 (2 : Int32) sa ea)) + (own_term d3 (3 : Int32) sa ea)) + (own_term d4 (4 : Int32) sa ea)) + (own_term d5 (5 : Int32) sa ea))), .val (.int (((10 : Int32) - (((((((own_term d0 (0 : Int32) sa ea) + (own_term d1 (1 : Int32) sa ea)) + (own_term d2 (2 : Int32) sa ea)) + (own_term d3 (3 : Int32) sa ea)) + (own_term d4 (4 : Int32) sa ea)) + (own_term d5 (5 : Int32) sa ea)) % (10 : Int32))) % (10 : Int32)))] [])) τ
    refine XS.iconst X14.here hx rfl (hb hby at_246) ?_
    show Steps p.tables e below (T14.setTop (mkF m 247 #[.val (.int p1), .val (.int p2), .val (.int p3), .val (.int p4), .val (.int ((p1 &&& (2147483647 : Int32)) % (100 : Int32))), .val (.int ((p2 &&& (2147483647 : Int32)) % (100 : Int32))), .val (.int ((p3 &&& (2147483647 : Int32)) % (100 : Int32))), .val (.int d0), .val (.int d1), .val (.int d2), .val (.int d3), .val (.int d4), .val (.int d5), .val (.ref b1), .val (.int sa), .val (.int ea), .val (.int ((((((own_term d0 (0 : Int32) sa ea) + (own_term d1 (1 : Int32) sa ea)) + (own_term d2 (2 : Int32) sa ea)) + (own_term d3 (3 : Int32) sa ea)) + (own_term d4 (4 : Int32) sa ea)) + (own_term d5 (5 : Int32) sa ea))), .val (.int (((10 : Int32) - (((((((own_term d0 (0 : Int32) sa ea) + (own_term d1 (1 : Int32) sa ea)) + (own_term d2 (2 : Int32) sa ea)) + (own_term d3 (3 : Int32) sa ea)) + (own_term d4 (4 : Int32) sa ea)) + (own_term d5 (5 : Int32) sa ea)) % (10 : Int32))) % (10 : Int32)))] [(.int (1 : Int32))])) τ
    refine XS.goto X14.here hx rfl (pc0 := 247) (pc' := 251) rfl (hb hby at_247) (by decide) (by decide) ?_
    show Steps p.tables e below (T14.setTop (mkF m 251 #[.val (.int p1), .val (.int p2), .val (.int p3), .val (.int p4), .val (.int ((p1 &&& (2147483647 : Int32)) % (100 : Int32))), .val (.int ((p2 &&& (2147483647 : Int32)) % (100 : Int32))), .val (.int ((p3 &&& (2147483647 : Int32)) % (100 : Int32))), .val (.int d0), .val (.int d1), .val (.int d2), .val (.int d3), .val (.int d4), .val (.int d5), .val (.ref b1), .val (.int sa), .val (.int ea), .val (.int ((((((own_term d0 (0 : Int32) sa ea) + (own_term d1 (1 : Int32) sa ea)) + (own_term d2 (2 : Int32) sa ea)) + (own_term d3 (3 : Int32) sa ea)) + (own_term d4 (4 : Int32) sa ea)) + (own_term d5 (5 : Int32) sa ea))), .val (.int (((10 : Int32) - (((((((own_term d0 (0 : Int32) sa ea) + (own_term d1 (1 : Int32) sa ea)) + (own_term d2 (2 : Int32) sa ea)) + (own_term d3 (3 : Int32) sa ea)) + (own_term d4 (4 : Int32) sa ea)) + (own_term d5 (5 : Int32) sa ea)) % (10 : Int32))) % (10 : Int32)))] [(.int (1 : Int32))])) τ
    exact κ)
  obtain ⟨fsα, hr, hrun, hended, hW, hsame⟩ := X14.leave (v := some (.int (1 : Int32))) (fun h => by rw [Bd.returns] at h; cases h)
  refine hGL ⟨_, _, hG _ (pre _ ?_), hrun, hended, _, _, rfl, ?_, ⟨_, rfl⟩, hW, hsame.mono (by decide) (by decide)⟩
  · exact retN X14 hx (t := .boolean) Bd.returns (by simp) (hb hby at_251) hr
  · show Q0 Z p1 p2 p3 p4 h0 n0 _ T14.heap _
    rw [hs14]
    exact ⟨rfl, NN⟩
set_option maxRecDepth 65536 in
set_option maxHeartbeats 40000000 in
theorem comes_1 {Post : Tables → Env → Array Value → State → Outcome → State → Prop} (hpost : ∀ tb e args s v u, (limb_1_1.after args s (.returned v) u = true ∧ limb_1_2.after args s (.returned v) u = true ∧ True) → FrameEnd s (.returned v) u (Jvm.fieldLocs frame_1_writes args s ++ Jvm.arrayLocs frame_1_arrays args s ++ Jvm.staticLocs frame_1_statics s) 16 128 → Post tb e args s (.returned v) u) :
    ArmFor flags0 classFile x code maxLocals ret World_1 tables_1 room_1 Calls_1 rest_1 Pre_1 Post := by
  intro l hfl _ _ p e ha hc hk s m args below hf hA hF happ hP
  obtain ⟨hcalls, hrest, hpre⟩ := hP
  obtain ⟨-, -, -, hnamed, -, -, -, hat⟩ := (Spec.applies_iff hf).mp happ
  obtain ⟨hg, hn⟩ := and_e (Cond.before_iff.mp (show (Jvm.Cond.and given_1 narrow_1).before args s = true from hpre))
  obtain ⟨gv1, gv2⟩ := and_e hg
  obtain ⟨gv3, gv4⟩ := and_e gv2
  obtain ⟨gv5, gv6⟩ := and_e gv4
  obtain ⟨gv7, gv8⟩ := and_e gv6
  obtain ⟨w0, w1, w2, w3, rfl⟩ : ∃ w0 w1 w2 w3 : Value, args = #[w0, w1, w2, w3] := by
    have hs : args.size = 4 := by simpa [Cond.value, given_1] using gv1
    obtain ⟨L⟩ := args
    match L, hs with
    | [w0, w1, w2, w3], _ => exact ⟨w0, w1, w2, w3, rfl⟩
  have hw := fun d (hd : d ∈ tables_1) => atoms_spec (ws := Jvm.Cond.code x code maxLocals ret :: tables_1) hat d (List.mem_cons_of_mem _ hd)
  have hfit : Fit s := fun {y c} hc i hi => by
    obtain ⟨ha, rfl⟩ := Array.getElem?_eq_some_iff.mp hc
    have q := List.all_eq_true.mp ((Array.all_eq_true_iff_forall_mem.mp hF) _ (Array.getElem_mem ha)) i (List.mem_range.mpr hi)
    simpa [Array.getElem?_eq_getElem hi] using q
  obtain ⟨i0, ei0⟩ := is_v gv3
  obtain rfl : w0 = (.int i0) := Option.some.inj ei0
  obtain ⟨i1, ei1⟩ := is_v gv5
  obtain rfl : w1 = (.int i1) := Option.some.inj ei1
  obtain ⟨i2, ei2⟩ := is_v gv7
  obtain rfl : w2 = (.int i2) := Option.some.inj ei2
  obtain ⟨i3, ei3⟩ := is_v gv8
  obtain rfl : w3 = (.int i3) := Option.some.inj ei3
  obtain ⟨n, o, h1, h2, h3, _, L, rfl, ⟨rfl, N⟩, hq⟩ := rm0 l s _ hw tables_1 i0 i1 i2 i3  s.heap s.heap.size (Nat.le_refl _)  p e ha hc hk s m _ below hf ((Spec.applies_iff_loose hf).mp happ).1 ⟨rfl, State.Warmed39.refl s, rfl⟩ trivial
  refine ⟨n, _, h1, h2, h3, hpost _ _ _ _ _ _ ⟨Cond.after_iff.mpr rfl, Cond.after_iff.mpr (eq_i res_at (Term.int_eval (1)) rfl), trivial⟩ ⟨hq.1, hq.2.1, (hq.2.2.sift fun y hy => Or.inr (N y hy)).mono (by decide) (by decide)⟩⟩
theorem main_1_1 : Claimed_1_1 := comes_1 fun _ _ _ _ _ _ h hF => ⟨h.1, hF⟩
theorem main_1_2 : Claimed_1_2 := comes_1 fun _ _ _ _ _ _ h hF => ⟨h.2.1, hF⟩
end Jvm.Pilot.@@N@@
namespace Jvm.Pilot.@@N@@
open Jvm Jvm.ClassFile Sem Op Lib Jvm.Free Jvm.Stand Jvm.Pilot.@@N@@.Jvm.D
/-! MADE BY PROGRAM (witnessworld.py) out of the Statement's table words and the real class files: 9 classes; the members and pool entries that the words name. The judged class is class 1, her method 1. -/
namespace start1
open Jvm.ClassFile
def u (s : String) : CpInfo := .utf8 (stringToUtf16 s)
/-- a pool by its gaps: so many unusable entries, then the entry; so many at the end -/
def gap : Nat → List CpInfo → List CpInfo
  | 0, r => r
  | n + 1, r => .unusable :: gap n r
def poolList (es : List (Nat × CpInfo)) (last : Nat) : List CpInfo := es.foldr (fun e r => gap e.1 (e.2 :: r)) (gap last [])
def pool (es : List (Nat × CpInfo)) (last : Nat) : Array CpInfo := ⟨poolList es last⟩
def fileOf (pool : Array CpInfo) (this : Nat) (attrs : Array Attribute := #[]) (ms : Array MethodInfo := #[]) (fl : Nat := 33) (sup : Nat := 0) (ifs : Array Nat := #[]) (fds : Array FieldInfo := #[]) : ClassFile where
  minorVersion := 0
  majorVersion := 65
  constantPool := pool
  accessFlags := fl
  thisClass := this
  superClass := sup
  interfaces := ifs
  fields := fds
  methods := ms
  attributes := attrs
def plain (name : String) (sup : Option ClassId) : Class where
  name := name
  kind := .ordinary
  loader := none
  accessFlags := 33
  super := sup
  interfaces := #[]
  cf := none
  fields := #[]
  methods := #[]
  instanceTypes := #[]
  staticTypes := #[]
  resolved := #[]
  callSites := []
  init := .initialized
  statics := none
  mirror := none

def pool0 : Array CpInfo := pool [(5, u "<init>"), (0, u "()V"), (1, .class_ 10), (1, u "java/lang/Object")] 113

def k0m0 : Method := { name := "<init>", desc := "()V", sig := { parameters := [], returnType := none }, accessFlags := 1, code := none }
/-- java/lang/Object -/
def k0 : Class := { plain "java/lang/Object" none with
  accessFlags := 33
  interfaces := #[]
  cf := some (fileOf pool0 8 #[] #[{ accessFlags := 1, nameIndex := 5, descriptorIndex := 6, attributes := #[] }] 33 0 #[] #[])
  fields := #[]
  methods := #[k0m0]
  instanceTypes := #[]
  staticTypes := #[]
  resolved := Array.replicate 124 none
  statics := none }

def pool1 : Array CpInfo := pool [(2, .class_ 4), (1, u "java/lang/Object"), (0, u "<init>"), (0, u "()V"), (0, .integer 2147483647), (0, .methodref 9 10), (0, .class_ 11), (0, .nameAndType 12 13), (0, u "com/example/campo_livre/campolivre/CheckDigitsModulo10PinLaw"), (0, u "term"), (0, u "(IIII)I"), (0, .methodref 15 16), (0, .class_ 17), (0, .nameAndType 18 19), (0, u "com/example/campo_livre/campolivre/CheckDigits"), (0, u "modulo10"), (0, u "([BII)I"), (2, u "law"), (0, u "(IIII)Z")] 5

def k1m0 : Method := { name := "<init>", desc := "()V", sig := { parameters := [], returnType := none }, accessFlags := 1, code := none }
def k1c1 : Code := { maxStack := 5, maxLocals := 18, code := code, exceptionTable := #[], attributes := #[] }
def k1m1 : Method := { name := "law", desc := "(IIII)Z", sig := { parameters := [.int, .int, .int, .int], returnType := some .boolean }, accessFlags := 9, code := some k1c1 }
def k1c2 : Code := { maxStack := 3, maxLocals := 5, code := method_3_code, exceptionTable := #[], attributes := #[] }
def k1m2 : Method := { name := "term", desc := "(IIII)I", sig := { parameters := [.int, .int, .int, .int], returnType := some .int }, accessFlags := 10, code := some k1c2 }
/-- com/example/campo_livre/campolivre/CheckDigitsModulo10PinLaw -/
def k1 : Class := { plain "com/example/campo_livre/campolivre/CheckDigitsModulo10PinLaw" (some 0) with
  accessFlags := 49
  interfaces := #[]
  cf := some (fileOf pool1 9 #[] #[{ accessFlags := 1, nameIndex := 5, descriptorIndex := 6, attributes := #[] }, { accessFlags := 9, nameIndex := 22, descriptorIndex := 23, attributes := #[] }, { accessFlags := 10, nameIndex := 12, descriptorIndex := 13, attributes := #[] }] 49 2 #[] #[])
  fields := #[]
  methods := #[k1m0, k1m1, k1m2]
  instanceTypes := #[]
  staticTypes := #[]
  resolved := Array.replicate 29 none
  statics := none }

def pool2 : Array CpInfo := pool [(2, .class_ 4), (1, u "java/lang/Object"), (0, u "<init>"), (0, u "()V"), (13, .class_ 22), (1, u "com/example/campo_livre/campolivre/CheckDigits"), (0, u "modulo10"), (0, u "([BII)I"), (22, u "GENERAL_DIGIT_INDEX"), (0, u "I"), (2, u "NONE"), (1, u "BANKS_TOP_WEIGHT")] 15

def k2m0 : Method := { name := "<init>", desc := "()V", sig := { parameters := [], returnType := none }, accessFlags := 2, code := none }
def k2c1 : Code := { maxStack := 3, maxLocals := 7, code := prog_16_method_3_code, exceptionTable := #[], attributes := #[] }
def k2m1 : Method := { name := "modulo10", desc := "([BII)I", sig := { parameters := [(.array .byte), .int, .int], returnType := some .int }, accessFlags := 8, code := some k2c1 }
/-- com/example/campo_livre/campolivre/CheckDigits -/
def k2 : Class := { plain "com/example/campo_livre/campolivre/CheckDigits" (some 0) with
  accessFlags := 48
  interfaces := #[]
  cf := some (fileOf pool2 20 #[] #[{ accessFlags := 2, nameIndex := 5, descriptorIndex := 6, attributes := #[] }, { accessFlags := 8, nameIndex := 23, descriptorIndex := 24, attributes := #[] }] 48 2 #[] #[{ accessFlags := 26, nameIndex := 47, descriptorIndex := 48, attributes := #[] }, { accessFlags := 26, nameIndex := 51, descriptorIndex := 48, attributes := #[] }, { accessFlags := 26, nameIndex := 53, descriptorIndex := 48, attributes := #[] }])
  fields := #[{ name := "GENERAL_DIGIT_INDEX", type := .int, accessFlags := 26, slot := 0, constantValue := 0 }, { name := "NONE", type := .int, accessFlags := 26, slot := 1, constantValue := 0 }, { name := "BANKS_TOP_WEIGHT", type := .int, accessFlags := 26, slot := 2, constantValue := 0 }]
  methods := #[k2m0, k2m1]
  instanceTypes := #[]
  staticTypes := #[.int, .int, .int]
  resolved := Array.replicate 69 none
  statics := none }

def pool3 : Array CpInfo := pool [(1, u "java/lang/Cloneable"), (0, .class_ 1), (0, u "java/lang/Object"), (0, .class_ 3)] 3

/-- java/lang/Cloneable -/
def k3 : Class := { plain "java/lang/Cloneable" (some 0) with
  accessFlags := 1537
  interfaces := #[]
  cf := some (fileOf pool3 2 #[] #[] 1537 4 #[] #[])
  fields := #[]
  methods := #[]
  instanceTypes := #[]
  staticTypes := #[]
  resolved := Array.replicate 8 none
  statics := none }

def pool4 : Array CpInfo := pool [(1, u "java/io/Serializable"), (0, .class_ 1), (0, u "java/lang/Object"), (0, .class_ 3)] 3

/-- java/io/Serializable -/
def k4 : Class := { plain "java/io/Serializable" (some 0) with
  accessFlags := 1537
  interfaces := #[]
  cf := some (fileOf pool4 2 #[] #[] 1537 4 #[] #[])
  fields := #[]
  methods := #[]
  instanceTypes := #[]
  staticTypes := #[]
  resolved := Array.replicate 8 none
  statics := none }

/-- the primitive byte -/
def k5 : Class := { plain "byte" none with kind := .primitive 'B', accessFlags := 0x411 }
/-- [B -/
def k6 : Class := { plain "[B" (some 0) with kind := .array 5 .byte, interfaces := #[3, 4], accessFlags := 1041 }

/-- the primitive int -/
def k7 : Class := { plain "int" none with kind := .primitive 'I', accessFlags := 0x411 }
/-- [I -/
def k8 : Class := { plain "[I" (some 0) with kind := .array 7 .int, interfaces := #[3, 4], accessFlags := 1041 }

def heap : Heap := #[]
def classes : Array Class := #[k0, k1, k2, k3, k4, k5, k6, k7, k8]
def interned : List (Array UInt16 × Addr) := []
def slotsUsed : Nat := 0
def theMethod : MethodId := ⟨1, 1⟩
def args0 : Array Value := #[.int 1, .int 5, .int 9, .int 77]
def aboutOver (below : List Frame) : State where
  vm := { classes := classes, interned := interned.toArray }
  heap := heap
  slotsUsed := slotsUsed
  threads := #[{ frames := .invoking theMethod args0 :: below }]
def below0 : List Frame := [.native { method := ⟨0, 0⟩, args := #[] }]
def about1 : State := aboutOver below0
def p0 : Program := .bare "" "" ""
def e0 : Env := launch0.env 0 0 0
theorem w_frames : about1.frames = Frame.invoking theMethod args0 :: below0 := rfl
set_option maxRecDepth 65536 in
theorem w_args : argsFit about1.vm theMethod args0 = true := by decide +kernel
set_option maxRecDepth 65536 in
theorem w_heap : heapFits about1 = true := by decide +kernel
set_option maxRecDepth 65536 in
theorem w_runnable : about1.curStatus? = some .runnable := by decide +kernel
set_option maxRecDepth 65536 in
theorem w_alone : about1.alone = true := by decide +kernel
set_option maxRecDepth 65536 in
theorem w_named : about1.methodNamed? x = some theMethod := by decide +kernel
set_option maxRecDepth 65536 in
theorem w_hears : about1.hears theMethod below0 = true := by decide +kernel
set_option maxRecDepth 65536 in
theorem w_ripe : about1.ripe theMethod args0 below0 = true := by decide +kernel
theorem w_running : about1.status = .running := rfl
set_option maxRecDepth 65536 in
theorem w_room : about1.hasRoom e0.platform room_1 = true :=
  launch0.hasRoom_least _ room_1 (by decide +kernel) (by decide +kernel) (by decide +kernel) (by decide +kernel) (by decide +kernel) (by decide +kernel)
theorem allAtoms_all (ts : List Jvm.Cond) (a : Array Jvm.Value) (st : Jvm.State) : (allAtoms ts).before a st = ts.all (fun c => c.before a st) := by
  induction ts with
  | nil => rfl
  | cons c t ih =>
    show (Jvm.Cond.and c (allAtoms t)).before a st = _
    rw [Jvm.Cond.before_and, ih, List.all_cons]
def words1 : List Jvm.Cond := Jvm.Cond.code x code maxLocals ret :: tables_1
/-- a 'code' word, met by the world's own term for the bytes: nothing is compared byte by byte -/
theorem code_word {y : MethodName} {bytes : ByteArray} {mx : Nat} {rt : Option FieldType} {a : Array Value} {s : State} {m : MethodId} {meth : Method} {c : Code} (h1 : s.methodNamed? y = some m) (h2 : s.vm.method? m = some meth) (h3 : meth.code = some c) (h4 : c.code = bytes)
    (h5 : (c.maxLocals == mx && c.exceptionTable.isEmpty && decide (c.maxStack ≤ mostOperands) && decide (meth.sig.returnType = rt) && !meth.locks && decide (parseMethodDescriptor y.desc = some meth.sig)) = true) : (Jvm.Cond.code y bytes mx rt).before a s = true := by
  simp only [Bool.and_eq_true, beq_iff_eq, Bool.not_eq_true', decide_eq_true_eq] at h5
  obtain ⟨⟨⟨⟨⟨g1, g2⟩, g3⟩, g4⟩, g5⟩, g6⟩ := h5
  simp [Cond.before, Cond.holds, Cond.value, h1, h2, h3, h4, g1, g2, g3, g4, g5, g6]
def isCode : Jvm.Cond → Bool
  | .code _ _ _ _ => true
  | _ => false
theorem all_split {L : List Jvm.Cond} {P : Jvm.Cond → Bool} (h1 : L.all (fun c => isCode c || P c) = true) (h2 : ∀ c ∈ L.filter isCode, P c = true) : L.all P = true := by
  refine List.all_eq_true.mpr fun c hc => ?_
  have h := List.all_eq_true.mp h1 c hc
  rcases Bool.eq_false_or_eq_true (isCode c) with hi | hi
  · exact h2 c (List.mem_filter.mpr ⟨hc, hi⟩)
  · simpa [hi] using h
set_option maxRecDepth 65536 in
theorem w_c0 : (Jvm.Cond.code x code maxLocals ret).before args0 about1 = true := code_word (m := ⟨1, 1⟩) (meth := k1m1) (c := k1c1) (by decide +kernel) rfl rfl rfl (by decide +kernel)
set_option maxRecDepth 65536 in
theorem w_c1 : (Jvm.Cond.code ({ cls := "com/example/campo_livre/campolivre/CheckDigitsModulo10PinLaw", name := "term", desc := "(IIII)I" } : Jvm.MethodName) method_3_code (5 : Nat) (Option.some Jvm.ClassFile.FieldType.int)).before args0 about1 = true := code_word (m := ⟨1, 2⟩) (meth := k1m2) (c := k1c2) (by decide +kernel) rfl rfl rfl (by decide +kernel)
set_option maxRecDepth 65536 in
theorem w_c2 : (Jvm.Cond.code ({ cls := "com/example/campo_livre/campolivre/CheckDigits", name := "modulo10", desc := "([BII)I" } : Jvm.MethodName) prog_16_method_3_code (7 : Nat) (Option.some Jvm.ClassFile.FieldType.int)).before args0 about1 = true := code_word (m := ⟨2, 1⟩) (meth := k2m1) (c := k2c1) (by decide +kernel) rfl rfl rfl (by decide +kernel)
def codes1 : List Jvm.Cond := [Jvm.Cond.code x code maxLocals ret, Jvm.Cond.code ({ cls := "com/example/campo_livre/campolivre/CheckDigitsModulo10PinLaw", name := "term", desc := "(IIII)I" } : Jvm.MethodName) method_3_code (5 : Nat) (Option.some Jvm.ClassFile.FieldType.int), Jvm.Cond.code ({ cls := "com/example/campo_livre/campolivre/CheckDigits", name := "modulo10", desc := "([BII)I" } : Jvm.MethodName) prog_16_method_3_code (7 : Nat) (Option.some Jvm.ClassFile.FieldType.int)]
set_option maxRecDepth 65536 in
theorem codes_eq : words1.filter isCode = codes1 := rfl
theorem w_codes : ∀ c ∈ words1.filter isCode, c.before args0 about1 = true := by
  rw [codes_eq]
  intro c hc
  simp only [codes1, List.mem_cons, List.not_mem_nil, or_false] at hc
  rcases hc with rfl | rfl | rfl
  · exact w_c0
  · exact w_c1
  · exact w_c2
set_option maxRecDepth 65536 in
theorem w_t1 : words1.all (fun c => isCode c || c.before args0 about1) = true := by decide +kernel
theorem w_tables : (allAtoms (Jvm.Cond.code x code maxLocals ret :: tables_1)).before args0 about1 = true := by
  rw [allAtoms_all]
  show words1.all (fun c => c.before args0 about1) = true
  refine all_split ?_ w_codes
  rw [w_t1]
set_option maxRecDepth 65536 in
theorem w_case : (Jvm.Cond.and given_1 narrow_1).before args0 about1 = true := by decide +kernel
theorem w_applies : (headSpec (Jvm.Cond.code x code maxLocals ret :: tables_1) room_1).applies x e0.platform about1 = true :=
  (Spec.applies_iff w_frames).mpr ⟨w_running, w_runnable, w_alone, w_named, w_hears, w_ripe, w_room, w_tables⟩
theorem atStart : AtStart classFile x code maxLocals ret World_1 tables_1 room_1 Calls_1 rest_1 Pre_1 launch0 p0 e0 about1 theMethod args0 below0 :=
  ⟨lists_1, trivial, launch0.admits_env _ _ _, launch0.least_env, fairChoices_fair.cas, fairChoices_fair.clock, w_frames, w_args, w_heap, w_applies, trivial, trivial, w_case⟩
end start1
theorem witness_1 : WitnessClaimed_1 := ⟨start1.p0, start1.e0, start1.about1, start1.theMethod, start1.args0, start1.below0, start1.atStart⟩
end Jvm.Pilot.@@N@@
