import JvmDerived
import JvmDerived.Pilot.@@N@@Statement
import JvmDerived.Pilot.@@N@@Code
set_option linter.unusedVariables false
set_option linter.unusedSimpArgs false
namespace Jvm.Pilot.@@N@@
open Jvm Jvm.ClassFile Sem Op Lib Jvm.Free Jvm.Stand Jvm.LawKit Jvm.RoadKit Bundle Jvm.Pilot.@@N@@.Jvm.D
theorem own_wrap {A : Prop} (h : ∀ GL : Prop, (A → GL) → GL) : A := h A id
def own_min (x y : Int32) : Int32 := if y < x then y else x
def own_max (x y : Int32) : Int32 := if x < y then y else x
abbrev own_v (q : Int64) (s : Int32) : Int32 := ((((q.toUInt64 >>> (s &&& 0x3f).toInt64.toUInt64).toInt64) &&& (63 : Int64)).toInt32) % (36 : Int32)
def own_ch (q : Int64) (s : Int32) : Int32 := if own_v q s < (10 : Int32) then nar .byte (((48 : Int32) + own_v q s).toInt8.toInt32) else nar .byte (((65 : Int32) + (own_v q s - (10 : Int32))).toInt8.toInt32)
def own_at (vs : List Value) (dv : Value) (j : Int32) : Int32 := match vs.getD j.toNatClampNeg dv with | .int x => x | _ => 0
def own_term (vs : List Value) (dv : Value) (i s e t : Int32) : Int32 := if i < s then 0 else if i < e then (own_at vs dv i - (48 : Int32)) * ((2 : Int32) + ((e - (1 : Int32)) - i) % (t - (1 : Int32))) else 0
def own_lp (vs : List Value) (dv : Value) (t : Int32) : Nat → Int32 → Int32 → Int32 → Int32
  | 0, _, sm, _ => sm
  | n + 1, i, sm, wt => own_lp vs dv t n (i + (-1 : Int32)) (sm + (own_at vs dv i - (48 : Int32)) * wt) (if wt = t then (2 : Int32) else wt + (1 : Int32))
def own_m11 (vs : List Value) (dv : Value) (t s e : Int32) : Int32 :=
  if (9 : Int32) < (11 : Int32) - own_lp vs dv t (e.toInt - s.toInt).toNat (e - (1 : Int32)) (0 : Int32) (2 : Int32) % (11 : Int32) then 0 else (11 : Int32) - own_lp vs dv t (e.toInt - s.toInt).toNat (e - (1 : Int32)) (0 : Int32) (2 : Int32) % (11 : Int32)
theorem own_lpt (vs : List Value) (dv : Value) (t : Int32) (n : Nat) (i sm wt : Int32) (h : wt = t) : own_lp vs dv t n (i + (-1 : Int32)) (sm + (own_at vs dv i - (48 : Int32)) * wt) (2 : Int32) = own_lp vs dv t (n + 1) i sm wt := by
  show _ = own_lp vs dv t n (i + (-1 : Int32)) _ (if _ then _ else _)
  rw [if_pos h]
theorem own_lpf (vs : List Value) (dv : Value) (t : Int32) (n : Nat) (i sm wt : Int32) (h : ¬ wt = t) : own_lp vs dv t n (i + (-1 : Int32)) (sm + (own_at vs dv i - (48 : Int32)) * wt) (wt + (1 : Int32)) = own_lp vs dv t (n + 1) i sm wt := by
  show _ = own_lp vs dv t n (i + (-1 : Int32)) _ (if _ then _ else _)
  rw [if_neg h]
theorem own_get {c : Cell} {vs : List Value} {dv : Value} {j : Int32} (H : Has c vs dv) (G : ∀ i, i < c.slots.size → fits .byte (vs.getD i dv) = true) (q : ¬ (j < 0 ∨ c.slots.size ≤ j.toNatClampNeg)) : c.slots[j.toNatClampNeg]? = some (.int (own_at vs dv j)) := by
  have hlt : j.toNatClampNeg < c.slots.size := Nat.lt_of_not_le fun y => q (Or.inr y)
  obtain ⟨x, hx⟩ := fit_I (G _ hlt) (Or.inr (Or.inr (Or.inl rfl)))
  rw [H _ hlt, hx]
  unfold own_at
  rw [hx]
theorem own_e1 (e : Int32) (h : 0 ≤ e.toInt) : (e - (1 : Int32)).toInt = e.toInt - 1 := by
  have h1 := c_isub e 1; have k : (1 : Int32).toInt = 1 := by decide
  have r := rng32 e; have r2 := rng32 (e - 1); omega
theorem own_i0 {s e : Int32} (hs : 0 ≤ s.toInt) (hse : s.toInt ≤ e.toInt) : (e - (1 : Int32)).toInt = s.toInt + (((e.toInt - s.toInt).toNat : Nat) : Int) - 1 := by
  rw [own_e1 e (by omega)]; omega
theorem own_i1 {s e : Int32} (hs : 0 ≤ s.toInt) (hse : s.toInt ≤ e.toInt) : (e - (1 : Int32)).toInt < e.toInt := by
  rw [own_e1 e (by omega)]; omega
theorem own_i2 {s i : Int32} {n : Nat} (hs : 0 ≤ s.toInt) (hn : i.toInt = s.toInt + ((n + 1 : Nat) : Int) - 1) : (i + (-1 : Int32)).toInt = s.toInt + (n : Int) - 1 := by
  have h1 := c_iadd i (-1); have k : (-1 : Int32).toInt = -1 := by decide
  have r := rng32 i; have r2 := rng32 (i + (-1)); omega
theorem own_i3 {s i e : Int32} {n : Nat} (hs : 0 ≤ s.toInt) (hn : i.toInt = s.toInt + ((n + 1 : Nat) : Int) - 1) (hi : i.toInt < e.toInt) : (i + (-1 : Int32)).toInt < e.toInt := by
  rw [own_i2 hs hn]; omega
theorem own_z {s i : Int32} (hn : i.toInt = s.toInt + ((0 : Nat) : Int) - 1) : i < s := by
  rw [Int32.lt_iff_toInt_lt]; omega
theorem own_s {s i : Int32} {n : Nat} (hs : 0 ≤ s.toInt) (hn : i.toInt = s.toInt + ((n + 1 : Nat) : Int) - 1) : ¬ i < s := by
  rw [Int32.lt_iff_toInt_lt]; omega
theorem own_in {s i e z : Int32} {n : Nat} (hs : 0 ≤ s.toInt) (hn : i.toInt = s.toInt + ((n + 1 : Nat) : Int) - 1) (hi : i.toInt < e.toInt) (hz : e.toInt ≤ z.toInt) : ¬ i < 0 ∧ i < z := by
  rw [Int32.lt_iff_toInt_lt, Int32.lt_iff_toInt_lt]
  have k : (0 : Int32).toInt = 0 := by decide
  omega
theorem own_n1 {s i : Int32} {n : Nat} (hs : 0 ≤ s.toInt) (hn : i.toInt = s.toInt + ((n + 1 : Nat) : Int) - 1) : ¬ i = (-1 : Int32) := by
  intro q; subst q
  have k : (-1 : Int32).toInt = -1 := by decide
  omega
theorem own_tb (x : Int32) : 2 ≤ ((2 : Int32) + (x &&& (15 : Int32))).toInt ∧ ((2 : Int32) + (x &&& (15 : Int32))).toInt ≤ 17 := by
  have h := c_mask x 15 4 (by decide) (by decide)
  have h1 := c_iadd 2 (x &&& 15); have k : (2 : Int32).toInt = 2 := by decide
  have r := rng32 (2 + (x &&& 15)); omega
theorem own_t1 {t : Int32} (h : 2 ≤ t.toInt ∧ t.toInt ≤ 17) : t - (1 : Int32) ≠ 0 := by
  intro q
  have h1 := c_isub t 1; have k : (1 : Int32).toInt = 1 := by decide
  have k0 : (0 : Int32).toInt = 0 := by decide
  rw [q] at h1; omega
theorem own_mm (x y : Int32) : (own_min x y).toInt = (if x.toInt ≤ y.toInt then x.toInt else y.toInt) ∧ (own_max x y).toInt = (if x.toInt ≤ y.toInt then y.toInt else x.toInt) := by
  unfold own_min own_max
  simp only [Int32.lt_iff_toInt_lt]
  constructor
  · split <;> split <;> omega
  · split <;> split <;> omega
theorem own_se (r : Int32) : 0 ≤ (own_min ((r &&& (15 : Int32)) % (9 : Int32)) (((r.toUInt32 >>> ((4 : Int32) &&& 31).toUInt32).toInt32 &&& (15 : Int32)) % (9 : Int32))).toInt ∧ (own_min ((r &&& (15 : Int32)) % (9 : Int32)) (((r.toUInt32 >>> ((4 : Int32) &&& 31).toUInt32).toInt32 &&& (15 : Int32)) % (9 : Int32))).toInt ≤ (own_max ((r &&& (15 : Int32)) % (9 : Int32)) (((r.toUInt32 >>> ((4 : Int32) &&& 31).toUInt32).toInt32 &&& (15 : Int32)) % (9 : Int32))).toInt ∧ (own_max ((r &&& (15 : Int32)) % (9 : Int32)) (((r.toUInt32 >>> ((4 : Int32) &&& 31).toUInt32).toInt32 &&& (15 : Int32)) % (9 : Int32))).toInt ≤ 8 := by
  generalize (r.toUInt32 >>> ((4 : Int32) &&& 31).toUInt32).toInt32 = u
  have h1 := c_mask r 15 4 (by decide) (by decide)
  have h2 := (c_irem (r &&& 15) 9 9 (by decide)).1 (by omega)
  have h3 := c_mask u 15 4 (by decide) (by decide)
  have h4 := (c_irem (u &&& 15) 9 9 (by decide)).1 (by omega)
  obtain ⟨m1, m2⟩ := own_mm ((r &&& 15) % 9) ((u &&& 15) % 9)
  rw [m1, m2]
  split <;> omega
abbrev own_W (t k : Int32) : Int32 := (2 : Int32) + k % (t - (1 : Int32))
theorem own_tm {t : Int32} (ht : 2 ≤ t.toInt ∧ t.toInt ≤ 17) : (t - (1 : Int32)).toInt = t.toInt - 1 := by
  have h1 := c_isub t 1; have k : (1 : Int32).toInt = 1 := by decide
  have r := rng32 (t - 1); omega
theorem own_addex {x y : Int32} (hx : 0 ≤ x.toInt ∧ x.toInt ≤ 10000) (hy : 0 ≤ y.toInt ∧ y.toInt ≤ 10000) : (x + y).toInt = x.toInt + y.toInt := by
  have h := c_iadd x y; have r := rng32 (x + y); omega
theorem own_rem {t k : Int32} (ht : 2 ≤ t.toInt ∧ t.toInt ≤ 17) (hk : 0 ≤ k.toInt ∧ k.toInt ≤ 20) : (k % (t - (1 : Int32))).toInt = k.toInt % (t.toInt - 1) := by
  have h := (c_irem k (t - 1) (t.toInt - 1) (own_tm ht)).1 hk.1
  exact h
theorem own_We {t k : Int32} (ht : 2 ≤ t.toInt ∧ t.toInt ≤ 17) (hk : 0 ≤ k.toInt ∧ k.toInt ≤ 20) : (own_W t k).toInt = 2 + k.toInt % (t.toInt - 1) ∧ 0 ≤ k.toInt % (t.toInt - 1) ∧ k.toInt % (t.toInt - 1) < t.toInt - 1 := by
  have h := own_rem ht hk
  have p1 := Int.emod_nonneg k.toInt (b := t.toInt - 1) (by omega)
  have p2 := Int.emod_lt_of_pos k.toInt (b := t.toInt - 1) (by omega)
  have k2 : (2 : Int32).toInt = 2 := by decide
  refine ⟨?_, p1, p2⟩
  unfold own_W
  rw [own_addex (by omega) (by omega), h, k2]
theorem own_W0 {t : Int32} (ht : 2 ≤ t.toInt ∧ t.toInt ≤ 17) : own_W t (0 : Int32) = (2 : Int32) := by
  apply Int32.toInt_inj.mp
  have k : (0 : Int32).toInt = 0 := by decide
  have k2 : (2 : Int32).toInt = 2 := by decide
  have h := (own_We ht (k := 0) (by omega)).1
  rw [h, k, k2, Int.zero_emod]; rfl
theorem own_start {vs : List Value} {dv : Value} {t : Int32} (ht : 2 ≤ t.toInt ∧ t.toInt ≤ 17) {n : Nat} {i : Int32} : own_lp vs dv t n i (0 : Int32) (2 : Int32) = own_lp vs dv t n i (0 : Int32) (own_W t (0 : Int32)) := by rw [own_W0 ht]
theorem own_Ws {t k k' : Int32} (ht : 2 ≤ t.toInt ∧ t.toInt ≤ 17) (hk : 0 ≤ k.toInt ∧ k.toInt ≤ 19) (hk' : k'.toInt = k.toInt + 1) : (if own_W t k = t then (2 : Int32) else own_W t k + (1 : Int32)) = own_W t k' := by
  obtain ⟨h, p1, p2⟩ := own_We ht (k := k) (by omega)
  obtain ⟨h', q1, q2⟩ := own_We ht (k := k') (by omega)
  have k1 : (1 : Int32).toInt = 1 := by decide
  have k2 : (2 : Int32).toInt = 2 := by decide
  rw [hk', Int.add_emod] at h'
  apply Int32.toInt_inj.mp
  split
  · rename_i z
    rw [z] at h
    have e : k.toInt % (t.toInt - 1) = t.toInt - 2 := by omega
    rw [h', k2, e]
    by_cases t2 : t.toInt = 2
    · rw [t2]; simp
    · rw [Int.emod_eq_of_lt (a := 1) (by omega) (by omega), show t.toInt - 2 + 1 = t.toInt - 1 by omega, Int.emod_self]; rfl
  · rename_i z
    have z' : (own_W t k).toInt ≠ t.toInt := fun y => z (Int32.toInt_inj.mp y)
    rw [own_addex (by omega) (by omega), h, k1, h']
    have t2 : t.toInt ≠ 2 := by
      intro y; rw [h, y] at z'; rw [y] at p1 p2; omega
    rw [Int.emod_eq_of_lt (a := 1) (by omega) (by omega), Int.emod_eq_of_lt (a := k.toInt % (t.toInt - 1) + 1) (by omega) (by omega)]
    omega
theorem own_stp {vs : List Value} {dv : Value} {t : Int32} (ht : 2 ≤ t.toInt ∧ t.toInt ≤ 17) (n : Nat) (i sm k k' i' : Int32) (hi : i + (-1 : Int32) = i') (hk : 0 ≤ k.toInt ∧ k.toInt ≤ 19) (hk' : k'.toInt = k.toInt + 1) : own_lp vs dv t (n + 1) i sm (own_W t k) = own_lp vs dv t n i' (sm + (own_at vs dv i - (48 : Int32)) * own_W t k) (own_W t k') := by
  show own_lp vs dv t n (i + (-1 : Int32)) _ (if _ then _ else _) = _
  rw [own_Ws ht hk hk', hi]
theorem own_case00 {vs : List Value} {dv : Value} {t : Int32} (ht : 2 ≤ t.toInt ∧ t.toInt ≤ 17) : own_lp vs dv t ((0 : Int32).toInt - (0 : Int32).toInt).toNat ((0 : Int32) - (1 : Int32)) (0 : Int32) (2 : Int32) = (((((((own_term vs dv (0 : Int32) (0 : Int32) (0 : Int32) t + own_term vs dv (1 : Int32) (0 : Int32) (0 : Int32) t) + own_term vs dv (2 : Int32) (0 : Int32) (0 : Int32) t) + own_term vs dv (3 : Int32) (0 : Int32) (0 : Int32) t) + own_term vs dv (4 : Int32) (0 : Int32) (0 : Int32) t) + own_term vs dv (5 : Int32) (0 : Int32) (0 : Int32) t) + own_term vs dv (6 : Int32) (0 : Int32) (0 : Int32) t) + own_term vs dv (7 : Int32) (0 : Int32) (0 : Int32) t) := by
  have t0 : own_term vs dv (0 : Int32) (0 : Int32) (0 : Int32) t = 0 := by unfold own_term; rw [if_neg (by decide), if_neg (by decide)]
  have t1 : own_term vs dv (1 : Int32) (0 : Int32) (0 : Int32) t = 0 := by unfold own_term; rw [if_neg (by decide), if_neg (by decide)]
  have t2 : own_term vs dv (2 : Int32) (0 : Int32) (0 : Int32) t = 0 := by unfold own_term; rw [if_neg (by decide), if_neg (by decide)]
  have t3 : own_term vs dv (3 : Int32) (0 : Int32) (0 : Int32) t = 0 := by unfold own_term; rw [if_neg (by decide), if_neg (by decide)]
  have t4 : own_term vs dv (4 : Int32) (0 : Int32) (0 : Int32) t = 0 := by unfold own_term; rw [if_neg (by decide), if_neg (by decide)]
  have t5 : own_term vs dv (5 : Int32) (0 : Int32) (0 : Int32) t = 0 := by unfold own_term; rw [if_neg (by decide), if_neg (by decide)]
  have t6 : own_term vs dv (6 : Int32) (0 : Int32) (0 : Int32) t = 0 := by unfold own_term; rw [if_neg (by decide), if_neg (by decide)]
  have t7 : own_term vs dv (7 : Int32) (0 : Int32) (0 : Int32) t = 0 := by unfold own_term; rw [if_neg (by decide), if_neg (by decide)]
  have n : ((0 : Int32).toInt - (0 : Int32).toInt).toNat = 0 := by decide
  have f : (0 : Int32) - (1 : Int32) = (-1 : Int32) := by decide
  rw [n, f, t0, t1, t2, t3, t4, t5, t6, t7, own_start ht]
  show (0 : Int32) = _
  decide
theorem own_case01 {vs : List Value} {dv : Value} {t : Int32} (ht : 2 ≤ t.toInt ∧ t.toInt ≤ 17) : own_lp vs dv t ((1 : Int32).toInt - (0 : Int32).toInt).toNat ((1 : Int32) - (1 : Int32)) (0 : Int32) (2 : Int32) = (((((((own_term vs dv (0 : Int32) (0 : Int32) (1 : Int32) t + own_term vs dv (1 : Int32) (0 : Int32) (1 : Int32) t) + own_term vs dv (2 : Int32) (0 : Int32) (1 : Int32) t) + own_term vs dv (3 : Int32) (0 : Int32) (1 : Int32) t) + own_term vs dv (4 : Int32) (0 : Int32) (1 : Int32) t) + own_term vs dv (5 : Int32) (0 : Int32) (1 : Int32) t) + own_term vs dv (6 : Int32) (0 : Int32) (1 : Int32) t) + own_term vs dv (7 : Int32) (0 : Int32) (1 : Int32) t) := by
  have t0 : own_term vs dv (0 : Int32) (0 : Int32) (1 : Int32) t = (own_at vs dv (0 : Int32) - (48 : Int32)) * own_W t (0 : Int32) := by unfold own_term; rw [if_neg (by decide), if_pos (by decide), (by decide : ((1 : Int32) - (1 : Int32)) - (0 : Int32) = (0 : Int32))]
  have t1 : own_term vs dv (1 : Int32) (0 : Int32) (1 : Int32) t = 0 := by unfold own_term; rw [if_neg (by decide), if_neg (by decide)]
  have t2 : own_term vs dv (2 : Int32) (0 : Int32) (1 : Int32) t = 0 := by unfold own_term; rw [if_neg (by decide), if_neg (by decide)]
  have t3 : own_term vs dv (3 : Int32) (0 : Int32) (1 : Int32) t = 0 := by unfold own_term; rw [if_neg (by decide), if_neg (by decide)]
  have t4 : own_term vs dv (4 : Int32) (0 : Int32) (1 : Int32) t = 0 := by unfold own_term; rw [if_neg (by decide), if_neg (by decide)]
  have t5 : own_term vs dv (5 : Int32) (0 : Int32) (1 : Int32) t = 0 := by unfold own_term; rw [if_neg (by decide), if_neg (by decide)]
  have t6 : own_term vs dv (6 : Int32) (0 : Int32) (1 : Int32) t = 0 := by unfold own_term; rw [if_neg (by decide), if_neg (by decide)]
  have t7 : own_term vs dv (7 : Int32) (0 : Int32) (1 : Int32) t = 0 := by unfold own_term; rw [if_neg (by decide), if_neg (by decide)]
  have n : ((1 : Int32).toInt - (0 : Int32).toInt).toNat = 1 := by decide
  have f : (1 : Int32) - (1 : Int32) = (0 : Int32) := by decide
  rw [n, f, t0, t1, t2, t3, t4, t5, t6, t7, own_start ht]
  rw [own_stp ht 0 (0 : Int32) _ (0 : Int32) (1 : Int32) (-1 : Int32) (by decide) (by decide) (by decide)]
  show _ = _
  simp only [own_lp, Int32.zero_add, Int32.add_zero]
theorem own_case02 {vs : List Value} {dv : Value} {t : Int32} (ht : 2 ≤ t.toInt ∧ t.toInt ≤ 17) : own_lp vs dv t ((2 : Int32).toInt - (0 : Int32).toInt).toNat ((2 : Int32) - (1 : Int32)) (0 : Int32) (2 : Int32) = (((((((own_term vs dv (0 : Int32) (0 : Int32) (2 : Int32) t + own_term vs dv (1 : Int32) (0 : Int32) (2 : Int32) t) + own_term vs dv (2 : Int32) (0 : Int32) (2 : Int32) t) + own_term vs dv (3 : Int32) (0 : Int32) (2 : Int32) t) + own_term vs dv (4 : Int32) (0 : Int32) (2 : Int32) t) + own_term vs dv (5 : Int32) (0 : Int32) (2 : Int32) t) + own_term vs dv (6 : Int32) (0 : Int32) (2 : Int32) t) + own_term vs dv (7 : Int32) (0 : Int32) (2 : Int32) t) := by
  have t0 : own_term vs dv (0 : Int32) (0 : Int32) (2 : Int32) t = (own_at vs dv (0 : Int32) - (48 : Int32)) * own_W t (1 : Int32) := by unfold own_term; rw [if_neg (by decide), if_pos (by decide), (by decide : ((2 : Int32) - (1 : Int32)) - (0 : Int32) = (1 : Int32))]
  have t1 : own_term vs dv (1 : Int32) (0 : Int32) (2 : Int32) t = (own_at vs dv (1 : Int32) - (48 : Int32)) * own_W t (0 : Int32) := by unfold own_term; rw [if_neg (by decide), if_pos (by decide), (by decide : ((2 : Int32) - (1 : Int32)) - (1 : Int32) = (0 : Int32))]
  have t2 : own_term vs dv (2 : Int32) (0 : Int32) (2 : Int32) t = 0 := by unfold own_term; rw [if_neg (by decide), if_neg (by decide)]
  have t3 : own_term vs dv (3 : Int32) (0 : Int32) (2 : Int32) t = 0 := by unfold own_term; rw [if_neg (by decide), if_neg (by decide)]
  have t4 : own_term vs dv (4 : Int32) (0 : Int32) (2 : Int32) t = 0 := by unfold own_term; rw [if_neg (by decide), if_neg (by decide)]
  have t5 : own_term vs dv (5 : Int32) (0 : Int32) (2 : Int32) t = 0 := by unfold own_term; rw [if_neg (by decide), if_neg (by decide)]
  have t6 : own_term vs dv (6 : Int32) (0 : Int32) (2 : Int32) t = 0 := by unfold own_term; rw [if_neg (by decide), if_neg (by decide)]
  have t7 : own_term vs dv (7 : Int32) (0 : Int32) (2 : Int32) t = 0 := by unfold own_term; rw [if_neg (by decide), if_neg (by decide)]
  have n : ((2 : Int32).toInt - (0 : Int32).toInt).toNat = 2 := by decide
  have f : (2 : Int32) - (1 : Int32) = (1 : Int32) := by decide
  rw [n, f, t0, t1, t2, t3, t4, t5, t6, t7, own_start ht]
  rw [own_stp ht 1 (1 : Int32) _ (0 : Int32) (1 : Int32) (0 : Int32) (by decide) (by decide) (by decide)]
  rw [own_stp ht 0 (0 : Int32) _ (1 : Int32) (2 : Int32) (-1 : Int32) (by decide) (by decide) (by decide)]
  show _ = _
  simp only [own_lp, Int32.zero_add, Int32.add_zero]
  ac_rfl
theorem own_case03 {vs : List Value} {dv : Value} {t : Int32} (ht : 2 ≤ t.toInt ∧ t.toInt ≤ 17) : own_lp vs dv t ((3 : Int32).toInt - (0 : Int32).toInt).toNat ((3 : Int32) - (1 : Int32)) (0 : Int32) (2 : Int32) = (((((((own_term vs dv (0 : Int32) (0 : Int32) (3 : Int32) t + own_term vs dv (1 : Int32) (0 : Int32) (3 : Int32) t) + own_term vs dv (2 : Int32) (0 : Int32) (3 : Int32) t) + own_term vs dv (3 : Int32) (0 : Int32) (3 : Int32) t) + own_term vs dv (4 : Int32) (0 : Int32) (3 : Int32) t) + own_term vs dv (5 : Int32) (0 : Int32) (3 : Int32) t) + own_term vs dv (6 : Int32) (0 : Int32) (3 : Int32) t) + own_term vs dv (7 : Int32) (0 : Int32) (3 : Int32) t) := by
  have t0 : own_term vs dv (0 : Int32) (0 : Int32) (3 : Int32) t = (own_at vs dv (0 : Int32) - (48 : Int32)) * own_W t (2 : Int32) := by unfold own_term; rw [if_neg (by decide), if_pos (by decide), (by decide : ((3 : Int32) - (1 : Int32)) - (0 : Int32) = (2 : Int32))]
  have t1 : own_term vs dv (1 : Int32) (0 : Int32) (3 : Int32) t = (own_at vs dv (1 : Int32) - (48 : Int32)) * own_W t (1 : Int32) := by unfold own_term; rw [if_neg (by decide), if_pos (by decide), (by decide : ((3 : Int32) - (1 : Int32)) - (1 : Int32) = (1 : Int32))]
  have t2 : own_term vs dv (2 : Int32) (0 : Int32) (3 : Int32) t = (own_at vs dv (2 : Int32) - (48 : Int32)) * own_W t (0 : Int32) := by unfold own_term; rw [if_neg (by decide), if_pos (by decide), (by decide : ((3 : Int32) - (1 : Int32)) - (2 : Int32) = (0 : Int32))]
  have t3 : own_term vs dv (3 : Int32) (0 : Int32) (3 : Int32) t = 0 := by unfold own_term; rw [if_neg (by decide), if_neg (by decide)]
  have t4 : own_term vs dv (4 : Int32) (0 : Int32) (3 : Int32) t = 0 := by unfold own_term; rw [if_neg (by decide), if_neg (by decide)]
  have t5 : own_term vs dv (5 : Int32) (0 : Int32) (3 : Int32) t = 0 := by unfold own_term; rw [if_neg (by decide), if_neg (by decide)]
  have t6 : own_term vs dv (6 : Int32) (0 : Int32) (3 : Int32) t = 0 := by unfold own_term; rw [if_neg (by decide), if_neg (by decide)]
  have t7 : own_term vs dv (7 : Int32) (0 : Int32) (3 : Int32) t = 0 := by unfold own_term; rw [if_neg (by decide), if_neg (by decide)]
  have n : ((3 : Int32).toInt - (0 : Int32).toInt).toNat = 3 := by decide
  have f : (3 : Int32) - (1 : Int32) = (2 : Int32) := by decide
  rw [n, f, t0, t1, t2, t3, t4, t5, t6, t7, own_start ht]
  rw [own_stp ht 2 (2 : Int32) _ (0 : Int32) (1 : Int32) (1 : Int32) (by decide) (by decide) (by decide)]
  rw [own_stp ht 1 (1 : Int32) _ (1 : Int32) (2 : Int32) (0 : Int32) (by decide) (by decide) (by decide)]
  rw [own_stp ht 0 (0 : Int32) _ (2 : Int32) (3 : Int32) (-1 : Int32) (by decide) (by decide) (by decide)]
  show _ = _
  simp only [own_lp, Int32.zero_add, Int32.add_zero]
  ac_rfl
theorem own_case04 {vs : List Value} {dv : Value} {t : Int32} (ht : 2 ≤ t.toInt ∧ t.toInt ≤ 17) : own_lp vs dv t ((4 : Int32).toInt - (0 : Int32).toInt).toNat ((4 : Int32) - (1 : Int32)) (0 : Int32) (2 : Int32) = (((((((own_term vs dv (0 : Int32) (0 : Int32) (4 : Int32) t + own_term vs dv (1 : Int32) (0 : Int32) (4 : Int32) t) + own_term vs dv (2 : Int32) (0 : Int32) (4 : Int32) t) + own_term vs dv (3 : Int32) (0 : Int32) (4 : Int32) t) + own_term vs dv (4 : Int32) (0 : Int32) (4 : Int32) t) + own_term vs dv (5 : Int32) (0 : Int32) (4 : Int32) t) + own_term vs dv (6 : Int32) (0 : Int32) (4 : Int32) t) + own_term vs dv (7 : Int32) (0 : Int32) (4 : Int32) t) := by
  have t0 : own_term vs dv (0 : Int32) (0 : Int32) (4 : Int32) t = (own_at vs dv (0 : Int32) - (48 : Int32)) * own_W t (3 : Int32) := by unfold own_term; rw [if_neg (by decide), if_pos (by decide), (by decide : ((4 : Int32) - (1 : Int32)) - (0 : Int32) = (3 : Int32))]
  have t1 : own_term vs dv (1 : Int32) (0 : Int32) (4 : Int32) t = (own_at vs dv (1 : Int32) - (48 : Int32)) * own_W t (2 : Int32) := by unfold own_term; rw [if_neg (by decide), if_pos (by decide), (by decide : ((4 : Int32) - (1 : Int32)) - (1 : Int32) = (2 : Int32))]
  have t2 : own_term vs dv (2 : Int32) (0 : Int32) (4 : Int32) t = (own_at vs dv (2 : Int32) - (48 : Int32)) * own_W t (1 : Int32) := by unfold own_term; rw [if_neg (by decide), if_pos (by decide), (by decide : ((4 : Int32) - (1 : Int32)) - (2 : Int32) = (1 : Int32))]
  have t3 : own_term vs dv (3 : Int32) (0 : Int32) (4 : Int32) t = (own_at vs dv (3 : Int32) - (48 : Int32)) * own_W t (0 : Int32) := by unfold own_term; rw [if_neg (by decide), if_pos (by decide), (by decide : ((4 : Int32) - (1 : Int32)) - (3 : Int32) = (0 : Int32))]
  have t4 : own_term vs dv (4 : Int32) (0 : Int32) (4 : Int32) t = 0 := by unfold own_term; rw [if_neg (by decide), if_neg (by decide)]
  have t5 : own_term vs dv (5 : Int32) (0 : Int32) (4 : Int32) t = 0 := by unfold own_term; rw [if_neg (by decide), if_neg (by decide)]
  have t6 : own_term vs dv (6 : Int32) (0 : Int32) (4 : Int32) t = 0 := by unfold own_term; rw [if_neg (by decide), if_neg (by decide)]
  have t7 : own_term vs dv (7 : Int32) (0 : Int32) (4 : Int32) t = 0 := by unfold own_term; rw [if_neg (by decide), if_neg (by decide)]
  have n : ((4 : Int32).toInt - (0 : Int32).toInt).toNat = 4 := by decide
  have f : (4 : Int32) - (1 : Int32) = (3 : Int32) := by decide
  rw [n, f, t0, t1, t2, t3, t4, t5, t6, t7, own_start ht]
  rw [own_stp ht 3 (3 : Int32) _ (0 : Int32) (1 : Int32) (2 : Int32) (by decide) (by decide) (by decide)]
  rw [own_stp ht 2 (2 : Int32) _ (1 : Int32) (2 : Int32) (1 : Int32) (by decide) (by decide) (by decide)]
  rw [own_stp ht 1 (1 : Int32) _ (2 : Int32) (3 : Int32) (0 : Int32) (by decide) (by decide) (by decide)]
  rw [own_stp ht 0 (0 : Int32) _ (3 : Int32) (4 : Int32) (-1 : Int32) (by decide) (by decide) (by decide)]
  show _ = _
  simp only [own_lp, Int32.zero_add, Int32.add_zero]
  ac_rfl
theorem own_case05 {vs : List Value} {dv : Value} {t : Int32} (ht : 2 ≤ t.toInt ∧ t.toInt ≤ 17) : own_lp vs dv t ((5 : Int32).toInt - (0 : Int32).toInt).toNat ((5 : Int32) - (1 : Int32)) (0 : Int32) (2 : Int32) = (((((((own_term vs dv (0 : Int32) (0 : Int32) (5 : Int32) t + own_term vs dv (1 : Int32) (0 : Int32) (5 : Int32) t) + own_term vs dv (2 : Int32) (0 : Int32) (5 : Int32) t) + own_term vs dv (3 : Int32) (0 : Int32) (5 : Int32) t) + own_term vs dv (4 : Int32) (0 : Int32) (5 : Int32) t) + own_term vs dv (5 : Int32) (0 : Int32) (5 : Int32) t) + own_term vs dv (6 : Int32) (0 : Int32) (5 : Int32) t) + own_term vs dv (7 : Int32) (0 : Int32) (5 : Int32) t) := by
  have t0 : own_term vs dv (0 : Int32) (0 : Int32) (5 : Int32) t = (own_at vs dv (0 : Int32) - (48 : Int32)) * own_W t (4 : Int32) := by unfold own_term; rw [if_neg (by decide), if_pos (by decide), (by decide : ((5 : Int32) - (1 : Int32)) - (0 : Int32) = (4 : Int32))]
  have t1 : own_term vs dv (1 : Int32) (0 : Int32) (5 : Int32) t = (own_at vs dv (1 : Int32) - (48 : Int32)) * own_W t (3 : Int32) := by unfold own_term; rw [if_neg (by decide), if_pos (by decide), (by decide : ((5 : Int32) - (1 : Int32)) - (1 : Int32) = (3 : Int32))]
  have t2 : own_term vs dv (2 : Int32) (0 : Int32) (5 : Int32) t = (own_at vs dv (2 : Int32) - (48 : Int32)) * own_W t (2 : Int32) := by unfold own_term; rw [if_neg (by decide), if_pos (by decide), (by decide : ((5 : Int32) - (1 : Int32)) - (2 : Int32) = (2 : Int32))]
  have t3 : own_term vs dv (3 : Int32) (0 : Int32) (5 : Int32) t = (own_at vs dv (3 : Int32) - (48 : Int32)) * own_W t (1 : Int32) := by unfold own_term; rw [if_neg (by decide), if_pos (by decide), (by decide : ((5 : Int32) - (1 : Int32)) - (3 : Int32) = (1 : Int32))]
  have t4 : own_term vs dv (4 : Int32) (0 : Int32) (5 : Int32) t = (own_at vs dv (4 : Int32) - (48 : Int32)) * own_W t (0 : Int32) := by unfold own_term; rw [if_neg (by decide), if_pos (by decide), (by decide : ((5 : Int32) - (1 : Int32)) - (4 : Int32) = (0 : Int32))]
  have t5 : own_term vs dv (5 : Int32) (0 : Int32) (5 : Int32) t = 0 := by unfold own_term; rw [if_neg (by decide), if_neg (by decide)]
  have t6 : own_term vs dv (6 : Int32) (0 : Int32) (5 : Int32) t = 0 := by unfold own_term; rw [if_neg (by decide), if_neg (by decide)]
  have t7 : own_term vs dv (7 : Int32) (0 : Int32) (5 : Int32) t = 0 := by unfold own_term; rw [if_neg (by decide), if_neg (by decide)]
  have n : ((5 : Int32).toInt - (0 : Int32).toInt).toNat = 5 := by decide
  have f : (5 : Int32) - (1 : Int32) = (4 : Int32) := by decide
  rw [n, f, t0, t1, t2, t3, t4, t5, t6, t7, own_start ht]
  rw [own_stp ht 4 (4 : Int32) _ (0 : Int32) (1 : Int32) (3 : Int32) (by decide) (by decide) (by decide)]
  rw [own_stp ht 3 (3 : Int32) _ (1 : Int32) (2 : Int32) (2 : Int32) (by decide) (by decide) (by decide)]
  rw [own_stp ht 2 (2 : Int32) _ (2 : Int32) (3 : Int32) (1 : Int32) (by decide) (by decide) (by decide)]
  rw [own_stp ht 1 (1 : Int32) _ (3 : Int32) (4 : Int32) (0 : Int32) (by decide) (by decide) (by decide)]
  rw [own_stp ht 0 (0 : Int32) _ (4 : Int32) (5 : Int32) (-1 : Int32) (by decide) (by decide) (by decide)]
  show _ = _
  simp only [own_lp, Int32.zero_add, Int32.add_zero]
  ac_rfl
theorem own_case06 {vs : List Value} {dv : Value} {t : Int32} (ht : 2 ≤ t.toInt ∧ t.toInt ≤ 17) : own_lp vs dv t ((6 : Int32).toInt - (0 : Int32).toInt).toNat ((6 : Int32) - (1 : Int32)) (0 : Int32) (2 : Int32) = (((((((own_term vs dv (0 : Int32) (0 : Int32) (6 : Int32) t + own_term vs dv (1 : Int32) (0 : Int32) (6 : Int32) t) + own_term vs dv (2 : Int32) (0 : Int32) (6 : Int32) t) + own_term vs dv (3 : Int32) (0 : Int32) (6 : Int32) t) + own_term vs dv (4 : Int32) (0 : Int32) (6 : Int32) t) + own_term vs dv (5 : Int32) (0 : Int32) (6 : Int32) t) + own_term vs dv (6 : Int32) (0 : Int32) (6 : Int32) t) + own_term vs dv (7 : Int32) (0 : Int32) (6 : Int32) t) := by
  have t0 : own_term vs dv (0 : Int32) (0 : Int32) (6 : Int32) t = (own_at vs dv (0 : Int32) - (48 : Int32)) * own_W t (5 : Int32) := by unfold own_term; rw [if_neg (by decide), if_pos (by decide), (by decide : ((6 : Int32) - (1 : Int32)) - (0 : Int32) = (5 : Int32))]
  have t1 : own_term vs dv (1 : Int32) (0 : Int32) (6 : Int32) t = (own_at vs dv (1 : Int32) - (48 : Int32)) * own_W t (4 : Int32) := by unfold own_term; rw [if_neg (by decide), if_pos (by decide), (by decide : ((6 : Int32) - (1 : Int32)) - (1 : Int32) = (4 : Int32))]
  have t2 : own_term vs dv (2 : Int32) (0 : Int32) (6 : Int32) t = (own_at vs dv (2 : Int32) - (48 : Int32)) * own_W t (3 : Int32) := by unfold own_term; rw [if_neg (by decide), if_pos (by decide), (by decide : ((6 : Int32) - (1 : Int32)) - (2 : Int32) = (3 : Int32))]
  have t3 : own_term vs dv (3 : Int32) (0 : Int32) (6 : Int32) t = (own_at vs dv (3 : Int32) - (48 : Int32)) * own_W t (2 : Int32) := by unfold own_term; rw [if_neg (by decide), if_pos (by decide), (by decide : ((6 : Int32) - (1 : Int32)) - (3 : Int32) = (2 : Int32))]
  have t4 : own_term vs dv (4 : Int32) (0 : Int32) (6 : Int32) t = (own_at vs dv (4 : Int32) - (48 : Int32)) * own_W t (1 : Int32) := by unfold own_term; rw [if_neg (by decide), if_pos (by decide), (by decide : ((6 : Int32) - (1 : Int32)) - (4 : Int32) = (1 : Int32))]
  have t5 : own_term vs dv (5 : Int32) (0 : Int32) (6 : Int32) t = (own_at vs dv (5 : Int32) - (48 : Int32)) * own_W t (0 : Int32) := by unfold own_term; rw [if_neg (by decide), if_pos (by decide), (by decide : ((6 : Int32) - (1 : Int32)) - (5 : Int32) = (0 : Int32))]
  have t6 : own_term vs dv (6 : Int32) (0 : Int32) (6 : Int32) t = 0 := by unfold own_term; rw [if_neg (by decide), if_neg (by decide)]
  have t7 : own_term vs dv (7 : Int32) (0 : Int32) (6 : Int32) t = 0 := by unfold own_term; rw [if_neg (by decide), if_neg (by decide)]
  have n : ((6 : Int32).toInt - (0 : Int32).toInt).toNat = 6 := by decide
  have f : (6 : Int32) - (1 : Int32) = (5 : Int32) := by decide
  rw [n, f, t0, t1, t2, t3, t4, t5, t6, t7, own_start ht]
  rw [own_stp ht 5 (5 : Int32) _ (0 : Int32) (1 : Int32) (4 : Int32) (by decide) (by decide) (by decide)]
  rw [own_stp ht 4 (4 : Int32) _ (1 : Int32) (2 : Int32) (3 : Int32) (by decide) (by decide) (by decide)]
  rw [own_stp ht 3 (3 : Int32) _ (2 : Int32) (3 : Int32) (2 : Int32) (by decide) (by decide) (by decide)]
  rw [own_stp ht 2 (2 : Int32) _ (3 : Int32) (4 : Int32) (1 : Int32) (by decide) (by decide) (by decide)]
  rw [own_stp ht 1 (1 : Int32) _ (4 : Int32) (5 : Int32) (0 : Int32) (by decide) (by decide) (by decide)]
  rw [own_stp ht 0 (0 : Int32) _ (5 : Int32) (6 : Int32) (-1 : Int32) (by decide) (by decide) (by decide)]
  show _ = _
  simp only [own_lp, Int32.zero_add, Int32.add_zero]
  ac_rfl
theorem own_case07 {vs : List Value} {dv : Value} {t : Int32} (ht : 2 ≤ t.toInt ∧ t.toInt ≤ 17) : own_lp vs dv t ((7 : Int32).toInt - (0 : Int32).toInt).toNat ((7 : Int32) - (1 : Int32)) (0 : Int32) (2 : Int32) = (((((((own_term vs dv (0 : Int32) (0 : Int32) (7 : Int32) t + own_term vs dv (1 : Int32) (0 : Int32) (7 : Int32) t) + own_term vs dv (2 : Int32) (0 : Int32) (7 : Int32) t) + own_term vs dv (3 : Int32) (0 : Int32) (7 : Int32) t) + own_term vs dv (4 : Int32) (0 : Int32) (7 : Int32) t) + own_term vs dv (5 : Int32) (0 : Int32) (7 : Int32) t) + own_term vs dv (6 : Int32) (0 : Int32) (7 : Int32) t) + own_term vs dv (7 : Int32) (0 : Int32) (7 : Int32) t) := by
  have t0 : own_term vs dv (0 : Int32) (0 : Int32) (7 : Int32) t = (own_at vs dv (0 : Int32) - (48 : Int32)) * own_W t (6 : Int32) := by unfold own_term; rw [if_neg (by decide), if_pos (by decide), (by decide : ((7 : Int32) - (1 : Int32)) - (0 : Int32) = (6 : Int32))]
  have t1 : own_term vs dv (1 : Int32) (0 : Int32) (7 : Int32) t = (own_at vs dv (1 : Int32) - (48 : Int32)) * own_W t (5 : Int32) := by unfold own_term; rw [if_neg (by decide), if_pos (by decide), (by decide : ((7 : Int32) - (1 : Int32)) - (1 : Int32) = (5 : Int32))]
  have t2 : own_term vs dv (2 : Int32) (0 : Int32) (7 : Int32) t = (own_at vs dv (2 : Int32) - (48 : Int32)) * own_W t (4 : Int32) := by unfold own_term; rw [if_neg (by decide), if_pos (by decide), (by decide : ((7 : Int32) - (1 : Int32)) - (2 : Int32) = (4 : Int32))]
  have t3 : own_term vs dv (3 : Int32) (0 : Int32) (7 : Int32) t = (own_at vs dv (3 : Int32) - (48 : Int32)) * own_W t (3 : Int32) := by unfold own_term; rw [if_neg (by decide), if_pos (by decide), (by decide : ((7 : Int32) - (1 : Int32)) - (3 : Int32) = (3 : Int32))]
  have t4 : own_term vs dv (4 : Int32) (0 : Int32) (7 : Int32) t = (own_at vs dv (4 : Int32) - (48 : Int32)) * own_W t (2 : Int32) := by unfold own_term; rw [if_neg (by decide), if_pos (by decide), (by decide : ((7 : Int32) - (1 : Int32)) - (4 : Int32) = (2 : Int32))]
  have t5 : own_term vs dv (5 : Int32) (0 : Int32) (7 : Int32) t = (own_at vs dv (5 : Int32) - (48 : Int32)) * own_W t (1 : Int32) := by unfold own_term; rw [if_neg (by decide), if_pos (by decide), (by decide : ((7 : Int32) - (1 : Int32)) - (5 : Int32) = (1 : Int32))]
  have t6 : own_term vs dv (6 : Int32) (0 : Int32) (7 : Int32) t = (own_at vs dv (6 : Int32) - (48 : Int32)) * own_W t (0 : Int32) := by unfold own_term; rw [if_neg (by decide), if_pos (by decide), (by decide : ((7 : Int32) - (1 : Int32)) - (6 : Int32) = (0 : Int32))]
  have t7 : own_term vs dv (7 : Int32) (0 : Int32) (7 : Int32) t = 0 := by unfold own_term; rw [if_neg (by decide), if_neg (by decide)]
  have n : ((7 : Int32).toInt - (0 : Int32).toInt).toNat = 7 := by decide
  have f : (7 : Int32) - (1 : Int32) = (6 : Int32) := by decide
  rw [n, f, t0, t1, t2, t3, t4, t5, t6, t7, own_start ht]
  rw [own_stp ht 6 (6 : Int32) _ (0 : Int32) (1 : Int32) (5 : Int32) (by decide) (by decide) (by decide)]
  rw [own_stp ht 5 (5 : Int32) _ (1 : Int32) (2 : Int32) (4 : Int32) (by decide) (by decide) (by decide)]
  rw [own_stp ht 4 (4 : Int32) _ (2 : Int32) (3 : Int32) (3 : Int32) (by decide) (by decide) (by decide)]
  rw [own_stp ht 3 (3 : Int32) _ (3 : Int32) (4 : Int32) (2 : Int32) (by decide) (by decide) (by decide)]
  rw [own_stp ht 2 (2 : Int32) _ (4 : Int32) (5 : Int32) (1 : Int32) (by decide) (by decide) (by decide)]
  rw [own_stp ht 1 (1 : Int32) _ (5 : Int32) (6 : Int32) (0 : Int32) (by decide) (by decide) (by decide)]
  rw [own_stp ht 0 (0 : Int32) _ (6 : Int32) (7 : Int32) (-1 : Int32) (by decide) (by decide) (by decide)]
  show _ = _
  simp only [own_lp, Int32.zero_add, Int32.add_zero]
  ac_rfl
theorem own_case08 {vs : List Value} {dv : Value} {t : Int32} (ht : 2 ≤ t.toInt ∧ t.toInt ≤ 17) : own_lp vs dv t ((8 : Int32).toInt - (0 : Int32).toInt).toNat ((8 : Int32) - (1 : Int32)) (0 : Int32) (2 : Int32) = (((((((own_term vs dv (0 : Int32) (0 : Int32) (8 : Int32) t + own_term vs dv (1 : Int32) (0 : Int32) (8 : Int32) t) + own_term vs dv (2 : Int32) (0 : Int32) (8 : Int32) t) + own_term vs dv (3 : Int32) (0 : Int32) (8 : Int32) t) + own_term vs dv (4 : Int32) (0 : Int32) (8 : Int32) t) + own_term vs dv (5 : Int32) (0 : Int32) (8 : Int32) t) + own_term vs dv (6 : Int32) (0 : Int32) (8 : Int32) t) + own_term vs dv (7 : Int32) (0 : Int32) (8 : Int32) t) := by
  have t0 : own_term vs dv (0 : Int32) (0 : Int32) (8 : Int32) t = (own_at vs dv (0 : Int32) - (48 : Int32)) * own_W t (7 : Int32) := by unfold own_term; rw [if_neg (by decide), if_pos (by decide), (by decide : ((8 : Int32) - (1 : Int32)) - (0 : Int32) = (7 : Int32))]
  have t1 : own_term vs dv (1 : Int32) (0 : Int32) (8 : Int32) t = (own_at vs dv (1 : Int32) - (48 : Int32)) * own_W t (6 : Int32) := by unfold own_term; rw [if_neg (by decide), if_pos (by decide), (by decide : ((8 : Int32) - (1 : Int32)) - (1 : Int32) = (6 : Int32))]
  have t2 : own_term vs dv (2 : Int32) (0 : Int32) (8 : Int32) t = (own_at vs dv (2 : Int32) - (48 : Int32)) * own_W t (5 : Int32) := by unfold own_term; rw [if_neg (by decide), if_pos (by decide), (by decide : ((8 : Int32) - (1 : Int32)) - (2 : Int32) = (5 : Int32))]
  have t3 : own_term vs dv (3 : Int32) (0 : Int32) (8 : Int32) t = (own_at vs dv (3 : Int32) - (48 : Int32)) * own_W t (4 : Int32) := by unfold own_term; rw [if_neg (by decide), if_pos (by decide), (by decide : ((8 : Int32) - (1 : Int32)) - (3 : Int32) = (4 : Int32))]
  have t4 : own_term vs dv (4 : Int32) (0 : Int32) (8 : Int32) t = (own_at vs dv (4 : Int32) - (48 : Int32)) * own_W t (3 : Int32) := by unfold own_term; rw [if_neg (by decide), if_pos (by decide), (by decide : ((8 : Int32) - (1 : Int32)) - (4 : Int32) = (3 : Int32))]
  have t5 : own_term vs dv (5 : Int32) (0 : Int32) (8 : Int32) t = (own_at vs dv (5 : Int32) - (48 : Int32)) * own_W t (2 : Int32) := by unfold own_term; rw [if_neg (by decide), if_pos (by decide), (by decide : ((8 : Int32) - (1 : Int32)) - (5 : Int32) = (2 : Int32))]
  have t6 : own_term vs dv (6 : Int32) (0 : Int32) (8 : Int32) t = (own_at vs dv (6 : Int32) - (48 : Int32)) * own_W t (1 : Int32) := by unfold own_term; rw [if_neg (by decide), if_pos (by decide), (by decide : ((8 : Int32) - (1 : Int32)) - (6 : Int32) = (1 : Int32))]
  have t7 : own_term vs dv (7 : Int32) (0 : Int32) (8 : Int32) t = (own_at vs dv (7 : Int32) - (48 : Int32)) * own_W t (0 : Int32) := by unfold own_term; rw [if_neg (by decide), if_pos (by decide), (by decide : ((8 : Int32) - (1 : Int32)) - (7 : Int32) = (0 : Int32))]
  have n : ((8 : Int32).toInt - (0 : Int32).toInt).toNat = 8 := by decide
  have f : (8 : Int32) - (1 : Int32) = (7 : Int32) := by decide
  rw [n, f, t0, t1, t2, t3, t4, t5, t6, t7, own_start ht]
  rw [own_stp ht 7 (7 : Int32) _ (0 : Int32) (1 : Int32) (6 : Int32) (by decide) (by decide) (by decide)]
  rw [own_stp ht 6 (6 : Int32) _ (1 : Int32) (2 : Int32) (5 : Int32) (by decide) (by decide) (by decide)]
  rw [own_stp ht 5 (5 : Int32) _ (2 : Int32) (3 : Int32) (4 : Int32) (by decide) (by decide) (by decide)]
  rw [own_stp ht 4 (4 : Int32) _ (3 : Int32) (4 : Int32) (3 : Int32) (by decide) (by decide) (by decide)]
  rw [own_stp ht 3 (3 : Int32) _ (4 : Int32) (5 : Int32) (2 : Int32) (by decide) (by decide) (by decide)]
  rw [own_stp ht 2 (2 : Int32) _ (5 : Int32) (6 : Int32) (1 : Int32) (by decide) (by decide) (by decide)]
  rw [own_stp ht 1 (1 : Int32) _ (6 : Int32) (7 : Int32) (0 : Int32) (by decide) (by decide) (by decide)]
  rw [own_stp ht 0 (0 : Int32) _ (7 : Int32) (8 : Int32) (-1 : Int32) (by decide) (by decide) (by decide)]
  show _ = _
  simp only [own_lp, Int32.zero_add, Int32.add_zero]
  ac_rfl
theorem own_case11 {vs : List Value} {dv : Value} {t : Int32} (ht : 2 ≤ t.toInt ∧ t.toInt ≤ 17) : own_lp vs dv t ((1 : Int32).toInt - (1 : Int32).toInt).toNat ((1 : Int32) - (1 : Int32)) (0 : Int32) (2 : Int32) = (((((((own_term vs dv (0 : Int32) (1 : Int32) (1 : Int32) t + own_term vs dv (1 : Int32) (1 : Int32) (1 : Int32) t) + own_term vs dv (2 : Int32) (1 : Int32) (1 : Int32) t) + own_term vs dv (3 : Int32) (1 : Int32) (1 : Int32) t) + own_term vs dv (4 : Int32) (1 : Int32) (1 : Int32) t) + own_term vs dv (5 : Int32) (1 : Int32) (1 : Int32) t) + own_term vs dv (6 : Int32) (1 : Int32) (1 : Int32) t) + own_term vs dv (7 : Int32) (1 : Int32) (1 : Int32) t) := by
  have t0 : own_term vs dv (0 : Int32) (1 : Int32) (1 : Int32) t = 0 := by unfold own_term; rw [if_pos (by decide)]
  have t1 : own_term vs dv (1 : Int32) (1 : Int32) (1 : Int32) t = 0 := by unfold own_term; rw [if_neg (by decide), if_neg (by decide)]
  have t2 : own_term vs dv (2 : Int32) (1 : Int32) (1 : Int32) t = 0 := by unfold own_term; rw [if_neg (by decide), if_neg (by decide)]
  have t3 : own_term vs dv (3 : Int32) (1 : Int32) (1 : Int32) t = 0 := by unfold own_term; rw [if_neg (by decide), if_neg (by decide)]
  have t4 : own_term vs dv (4 : Int32) (1 : Int32) (1 : Int32) t = 0 := by unfold own_term; rw [if_neg (by decide), if_neg (by decide)]
  have t5 : own_term vs dv (5 : Int32) (1 : Int32) (1 : Int32) t = 0 := by unfold own_term; rw [if_neg (by decide), if_neg (by decide)]
  have t6 : own_term vs dv (6 : Int32) (1 : Int32) (1 : Int32) t = 0 := by unfold own_term; rw [if_neg (by decide), if_neg (by decide)]
  have t7 : own_term vs dv (7 : Int32) (1 : Int32) (1 : Int32) t = 0 := by unfold own_term; rw [if_neg (by decide), if_neg (by decide)]
  have n : ((1 : Int32).toInt - (1 : Int32).toInt).toNat = 0 := by decide
  have f : (1 : Int32) - (1 : Int32) = (0 : Int32) := by decide
  rw [n, f, t0, t1, t2, t3, t4, t5, t6, t7, own_start ht]
  show (0 : Int32) = _
  decide
theorem own_case12 {vs : List Value} {dv : Value} {t : Int32} (ht : 2 ≤ t.toInt ∧ t.toInt ≤ 17) : own_lp vs dv t ((2 : Int32).toInt - (1 : Int32).toInt).toNat ((2 : Int32) - (1 : Int32)) (0 : Int32) (2 : Int32) = (((((((own_term vs dv (0 : Int32) (1 : Int32) (2 : Int32) t + own_term vs dv (1 : Int32) (1 : Int32) (2 : Int32) t) + own_term vs dv (2 : Int32) (1 : Int32) (2 : Int32) t) + own_term vs dv (3 : Int32) (1 : Int32) (2 : Int32) t) + own_term vs dv (4 : Int32) (1 : Int32) (2 : Int32) t) + own_term vs dv (5 : Int32) (1 : Int32) (2 : Int32) t) + own_term vs dv (6 : Int32) (1 : Int32) (2 : Int32) t) + own_term vs dv (7 : Int32) (1 : Int32) (2 : Int32) t) := by
  have t0 : own_term vs dv (0 : Int32) (1 : Int32) (2 : Int32) t = 0 := by unfold own_term; rw [if_pos (by decide)]
  have t1 : own_term vs dv (1 : Int32) (1 : Int32) (2 : Int32) t = (own_at vs dv (1 : Int32) - (48 : Int32)) * own_W t (0 : Int32) := by unfold own_term; rw [if_neg (by decide), if_pos (by decide), (by decide : ((2 : Int32) - (1 : Int32)) - (1 : Int32) = (0 : Int32))]
  have t2 : own_term vs dv (2 : Int32) (1 : Int32) (2 : Int32) t = 0 := by unfold own_term; rw [if_neg (by decide), if_neg (by decide)]
  have t3 : own_term vs dv (3 : Int32) (1 : Int32) (2 : Int32) t = 0 := by unfold own_term; rw [if_neg (by decide), if_neg (by decide)]
  have t4 : own_term vs dv (4 : Int32) (1 : Int32) (2 : Int32) t = 0 := by unfold own_term; rw [if_neg (by decide), if_neg (by decide)]
  have t5 : own_term vs dv (5 : Int32) (1 : Int32) (2 : Int32) t = 0 := by unfold own_term; rw [if_neg (by decide), if_neg (by decide)]
  have t6 : own_term vs dv (6 : Int32) (1 : Int32) (2 : Int32) t = 0 := by unfold own_term; rw [if_neg (by decide), if_neg (by decide)]
  have t7 : own_term vs dv (7 : Int32) (1 : Int32) (2 : Int32) t = 0 := by unfold own_term; rw [if_neg (by decide), if_neg (by decide)]
  have n : ((2 : Int32).toInt - (1 : Int32).toInt).toNat = 1 := by decide
  have f : (2 : Int32) - (1 : Int32) = (1 : Int32) := by decide
  rw [n, f, t0, t1, t2, t3, t4, t5, t6, t7, own_start ht]
  rw [own_stp ht 0 (1 : Int32) _ (0 : Int32) (1 : Int32) (0 : Int32) (by decide) (by decide) (by decide)]
  show _ = _
  simp only [own_lp, Int32.zero_add, Int32.add_zero]
theorem own_case13 {vs : List Value} {dv : Value} {t : Int32} (ht : 2 ≤ t.toInt ∧ t.toInt ≤ 17) : own_lp vs dv t ((3 : Int32).toInt - (1 : Int32).toInt).toNat ((3 : Int32) - (1 : Int32)) (0 : Int32) (2 : Int32) = (((((((own_term vs dv (0 : Int32) (1 : Int32) (3 : Int32) t + own_term vs dv (1 : Int32) (1 : Int32) (3 : Int32) t) + own_term vs dv (2 : Int32) (1 : Int32) (3 : Int32) t) + own_term vs dv (3 : Int32) (1 : Int32) (3 : Int32) t) + own_term vs dv (4 : Int32) (1 : Int32) (3 : Int32) t) + own_term vs dv (5 : Int32) (1 : Int32) (3 : Int32) t) + own_term vs dv (6 : Int32) (1 : Int32) (3 : Int32) t) + own_term vs dv (7 : Int32) (1 : Int32) (3 : Int32) t) := by
  have t0 : own_term vs dv (0 : Int32) (1 : Int32) (3 : Int32) t = 0 := by unfold own_term; rw [if_pos (by decide)]
  have t1 : own_term vs dv (1 : Int32) (1 : Int32) (3 : Int32) t = (own_at vs dv (1 : Int32) - (48 : Int32)) * own_W t (1 : Int32) := by unfold own_term; rw [if_neg (by decide), if_pos (by decide), (by decide : ((3 : Int32) - (1 : Int32)) - (1 : Int32) = (1 : Int32))]
  have t2 : own_term vs dv (2 : Int32) (1 : Int32) (3 : Int32) t = (own_at vs dv (2 : Int32) - (48 : Int32)) * own_W t (0 : Int32) := by unfold own_term; rw [if_neg (by decide), if_pos (by decide), (by decide : ((3 : Int32) - (1 : Int32)) - (2 : Int32) = (0 : Int32))]
  have t3 : own_term vs dv (3 : Int32) (1 : Int32) (3 : Int32) t = 0 := by unfold own_term; rw [if_neg (by decide), if_neg (by decide)]
  have t4 : own_term vs dv (4 : Int32) (1 : Int32) (3 : Int32) t = 0 := by unfold own_term; rw [if_neg (by decide), if_neg (by decide)]
  have t5 : own_term vs dv (5 : Int32) (1 : Int32) (3 : Int32) t = 0 := by unfold own_term; rw [if_neg (by decide), if_neg (by decide)]
  have t6 : own_term vs dv (6 : Int32) (1 : Int32) (3 : Int32) t = 0 := by unfold own_term; rw [if_neg (by decide), if_neg (by decide)]
  have t7 : own_term vs dv (7 : Int32) (1 : Int32) (3 : Int32) t = 0 := by unfold own_term; rw [if_neg (by decide), if_neg (by decide)]
  have n : ((3 : Int32).toInt - (1 : Int32).toInt).toNat = 2 := by decide
  have f : (3 : Int32) - (1 : Int32) = (2 : Int32) := by decide
  rw [n, f, t0, t1, t2, t3, t4, t5, t6, t7, own_start ht]
  rw [own_stp ht 1 (2 : Int32) _ (0 : Int32) (1 : Int32) (1 : Int32) (by decide) (by decide) (by decide)]
  rw [own_stp ht 0 (1 : Int32) _ (1 : Int32) (2 : Int32) (0 : Int32) (by decide) (by decide) (by decide)]
  show _ = _
  simp only [own_lp, Int32.zero_add, Int32.add_zero]
  ac_rfl
theorem own_case14 {vs : List Value} {dv : Value} {t : Int32} (ht : 2 ≤ t.toInt ∧ t.toInt ≤ 17) : own_lp vs dv t ((4 : Int32).toInt - (1 : Int32).toInt).toNat ((4 : Int32) - (1 : Int32)) (0 : Int32) (2 : Int32) = (((((((own_term vs dv (0 : Int32) (1 : Int32) (4 : Int32) t + own_term vs dv (1 : Int32) (1 : Int32) (4 : Int32) t) + own_term vs dv (2 : Int32) (1 : Int32) (4 : Int32) t) + own_term vs dv (3 : Int32) (1 : Int32) (4 : Int32) t) + own_term vs dv (4 : Int32) (1 : Int32) (4 : Int32) t) + own_term vs dv (5 : Int32) (1 : Int32) (4 : Int32) t) + own_term vs dv (6 : Int32) (1 : Int32) (4 : Int32) t) + own_term vs dv (7 : Int32) (1 : Int32) (4 : Int32) t) := by
  have t0 : own_term vs dv (0 : Int32) (1 : Int32) (4 : Int32) t = 0 := by unfold own_term; rw [if_pos (by decide)]
  have t1 : own_term vs dv (1 : Int32) (1 : Int32) (4 : Int32) t = (own_at vs dv (1 : Int32) - (48 : Int32)) * own_W t (2 : Int32) := by unfold own_term; rw [if_neg (by decide), if_pos (by decide), (by decide : ((4 : Int32) - (1 : Int32)) - (1 : Int32) = (2 : Int32))]
  have t2 : own_term vs dv (2 : Int32) (1 : Int32) (4 : Int32) t = (own_at vs dv (2 : Int32) - (48 : Int32)) * own_W t (1 : Int32) := by unfold own_term; rw [if_neg (by decide), if_pos (by decide), (by decide : ((4 : Int32) - (1 : Int32)) - (2 : Int32) = (1 : Int32))]
  have t3 : own_term vs dv (3 : Int32) (1 : Int32) (4 : Int32) t = (own_at vs dv (3 : Int32) - (48 : Int32)) * own_W t (0 : Int32) := by unfold own_term; rw [if_neg (by decide), if_pos (by decide), (by decide : ((4 : Int32) - (1 : Int32)) - (3 : Int32) = (0 : Int32))]
  have t4 : own_term vs dv (4 : Int32) (1 : Int32) (4 : Int32) t = 0 := by unfold own_term; rw [if_neg (by decide), if_neg (by decide)]
  have t5 : own_term vs dv (5 : Int32) (1 : Int32) (4 : Int32) t = 0 := by unfold own_term; rw [if_neg (by decide), if_neg (by decide)]
  have t6 : own_term vs dv (6 : Int32) (1 : Int32) (4 : Int32) t = 0 := by unfold own_term; rw [if_neg (by decide), if_neg (by decide)]
  have t7 : own_term vs dv (7 : Int32) (1 : Int32) (4 : Int32) t = 0 := by unfold own_term; rw [if_neg (by decide), if_neg (by decide)]
  have n : ((4 : Int32).toInt - (1 : Int32).toInt).toNat = 3 := by decide
  have f : (4 : Int32) - (1 : Int32) = (3 : Int32) := by decide
  rw [n, f, t0, t1, t2, t3, t4, t5, t6, t7, own_start ht]
  rw [own_stp ht 2 (3 : Int32) _ (0 : Int32) (1 : Int32) (2 : Int32) (by decide) (by decide) (by decide)]
  rw [own_stp ht 1 (2 : Int32) _ (1 : Int32) (2 : Int32) (1 : Int32) (by decide) (by decide) (by decide)]
  rw [own_stp ht 0 (1 : Int32) _ (2 : Int32) (3 : Int32) (0 : Int32) (by decide) (by decide) (by decide)]
  show _ = _
  simp only [own_lp, Int32.zero_add, Int32.add_zero]
  ac_rfl
theorem own_case15 {vs : List Value} {dv : Value} {t : Int32} (ht : 2 ≤ t.toInt ∧ t.toInt ≤ 17) : own_lp vs dv t ((5 : Int32).toInt - (1 : Int32).toInt).toNat ((5 : Int32) - (1 : Int32)) (0 : Int32) (2 : Int32) = (((((((own_term vs dv (0 : Int32) (1 : Int32) (5 : Int32) t + own_term vs dv (1 : Int32) (1 : Int32) (5 : Int32) t) + own_term vs dv (2 : Int32) (1 : Int32) (5 : Int32) t) + own_term vs dv (3 : Int32) (1 : Int32) (5 : Int32) t) + own_term vs dv (4 : Int32) (1 : Int32) (5 : Int32) t) + own_term vs dv (5 : Int32) (1 : Int32) (5 : Int32) t) + own_term vs dv (6 : Int32) (1 : Int32) (5 : Int32) t) + own_term vs dv (7 : Int32) (1 : Int32) (5 : Int32) t) := by
  have t0 : own_term vs dv (0 : Int32) (1 : Int32) (5 : Int32) t = 0 := by unfold own_term; rw [if_pos (by decide)]
  have t1 : own_term vs dv (1 : Int32) (1 : Int32) (5 : Int32) t = (own_at vs dv (1 : Int32) - (48 : Int32)) * own_W t (3 : Int32) := by unfold own_term; rw [if_neg (by decide), if_pos (by decide), (by decide : ((5 : Int32) - (1 : Int32)) - (1 : Int32) = (3 : Int32))]
  have t2 : own_term vs dv (2 : Int32) (1 : Int32) (5 : Int32) t = (own_at vs dv (2 : Int32) - (48 : Int32)) * own_W t (2 : Int32) := by unfold own_term; rw [if_neg (by decide), if_pos (by decide), (by decide : ((5 : Int32) - (1 : Int32)) - (2 : Int32) = (2 : Int32))]
  have t3 : own_term vs dv (3 : Int32) (1 : Int32) (5 : Int32) t = (own_at vs dv (3 : Int32) - (48 : Int32)) * own_W t (1 : Int32) := by unfold own_term; rw [if_neg (by decide), if_pos (by decide), (by decide : ((5 : Int32) - (1 : Int32)) - (3 : Int32) = (1 : Int32))]
  have t4 : own_term vs dv (4 : Int32) (1 : Int32) (5 : Int32) t = (own_at vs dv (4 : Int32) - (48 : Int32)) * own_W t (0 : Int32) := by unfold own_term; rw [if_neg (by decide), if_pos (by decide), (by decide : ((5 : Int32) - (1 : Int32)) - (4 : Int32) = (0 : Int32))]
  have t5 : own_term vs dv (5 : Int32) (1 : Int32) (5 : Int32) t = 0 := by unfold own_term; rw [if_neg (by decide), if_neg (by decide)]
  have t6 : own_term vs dv (6 : Int32) (1 : Int32) (5 : Int32) t = 0 := by unfold own_term; rw [if_neg (by decide), if_neg (by decide)]
  have t7 : own_term vs dv (7 : Int32) (1 : Int32) (5 : Int32) t = 0 := by unfold own_term; rw [if_neg (by decide), if_neg (by decide)]
  have n : ((5 : Int32).toInt - (1 : Int32).toInt).toNat = 4 := by decide
  have f : (5 : Int32) - (1 : Int32) = (4 : Int32) := by decide
  rw [n, f, t0, t1, t2, t3, t4, t5, t6, t7, own_start ht]
  rw [own_stp ht 3 (4 : Int32) _ (0 : Int32) (1 : Int32) (3 : Int32) (by decide) (by decide) (by decide)]
  rw [own_stp ht 2 (3 : Int32) _ (1 : Int32) (2 : Int32) (2 : Int32) (by decide) (by decide) (by decide)]
  rw [own_stp ht 1 (2 : Int32) _ (2 : Int32) (3 : Int32) (1 : Int32) (by decide) (by decide) (by decide)]
  rw [own_stp ht 0 (1 : Int32) _ (3 : Int32) (4 : Int32) (0 : Int32) (by decide) (by decide) (by decide)]
  show _ = _
  simp only [own_lp, Int32.zero_add, Int32.add_zero]
  ac_rfl
theorem own_case16 {vs : List Value} {dv : Value} {t : Int32} (ht : 2 ≤ t.toInt ∧ t.toInt ≤ 17) : own_lp vs dv t ((6 : Int32).toInt - (1 : Int32).toInt).toNat ((6 : Int32) - (1 : Int32)) (0 : Int32) (2 : Int32) = (((((((own_term vs dv (0 : Int32) (1 : Int32) (6 : Int32) t + own_term vs dv (1 : Int32) (1 : Int32) (6 : Int32) t) + own_term vs dv (2 : Int32) (1 : Int32) (6 : Int32) t) + own_term vs dv (3 : Int32) (1 : Int32) (6 : Int32) t) + own_term vs dv (4 : Int32) (1 : Int32) (6 : Int32) t) + own_term vs dv (5 : Int32) (1 : Int32) (6 : Int32) t) + own_term vs dv (6 : Int32) (1 : Int32) (6 : Int32) t) + own_term vs dv (7 : Int32) (1 : Int32) (6 : Int32) t) := by
  have t0 : own_term vs dv (0 : Int32) (1 : Int32) (6 : Int32) t = 0 := by unfold own_term; rw [if_pos (by decide)]
  have t1 : own_term vs dv (1 : Int32) (1 : Int32) (6 : Int32) t = (own_at vs dv (1 : Int32) - (48 : Int32)) * own_W t (4 : Int32) := by unfold own_term; rw [if_neg (by decide), if_pos (by decide), (by decide : ((6 : Int32) - (1 : Int32)) - (1 : Int32) = (4 : Int32))]
  have t2 : own_term vs dv (2 : Int32) (1 : Int32) (6 : Int32) t = (own_at vs dv (2 : Int32) - (48 : Int32)) * own_W t (3 : Int32) := by unfold own_term; rw [if_neg (by decide), if_pos (by decide), (by decide : ((6 : Int32) - (1 : Int32)) - (2 : Int32) = (3 : Int32))]
  have t3 : own_term vs dv (3 : Int32) (1 : Int32) (6 : Int32) t = (own_at vs dv (3 : Int32) - (48 : Int32)) * own_W t (2 : Int32) := by unfold own_term; rw [if_neg (by decide), if_pos (by decide), (by decide : ((6 : Int32) - (1 : Int32)) - (3 : Int32) = (2 : Int32))]
  have t4 : own_term vs dv (4 : Int32) (1 : Int32) (6 : Int32) t = (own_at vs dv (4 : Int32) - (48 : Int32)) * own_W t (1 : Int32) := by unfold own_term; rw [if_neg (by decide), if_pos (by decide), (by decide : ((6 : Int32) - (1 : Int32)) - (4 : Int32) = (1 : Int32))]
  have t5 : own_term vs dv (5 : Int32) (1 : Int32) (6 : Int32) t = (own_at vs dv (5 : Int32) - (48 : Int32)) * own_W t (0 : Int32) := by unfold own_term; rw [if_neg (by decide), if_pos (by decide), (by decide : ((6 : Int32) - (1 : Int32)) - (5 : Int32) = (0 : Int32))]
  have t6 : own_term vs dv (6 : Int32) (1 : Int32) (6 : Int32) t = 0 := by unfold own_term; rw [if_neg (by decide), if_neg (by decide)]
  have t7 : own_term vs dv (7 : Int32) (1 : Int32) (6 : Int32) t = 0 := by unfold own_term; rw [if_neg (by decide), if_neg (by decide)]
  have n : ((6 : Int32).toInt - (1 : Int32).toInt).toNat = 5 := by decide
  have f : (6 : Int32) - (1 : Int32) = (5 : Int32) := by decide
  rw [n, f, t0, t1, t2, t3, t4, t5, t6, t7, own_start ht]
  rw [own_stp ht 4 (5 : Int32) _ (0 : Int32) (1 : Int32) (4 : Int32) (by decide) (by decide) (by decide)]
  rw [own_stp ht 3 (4 : Int32) _ (1 : Int32) (2 : Int32) (3 : Int32) (by decide) (by decide) (by decide)]
  rw [own_stp ht 2 (3 : Int32) _ (2 : Int32) (3 : Int32) (2 : Int32) (by decide) (by decide) (by decide)]
  rw [own_stp ht 1 (2 : Int32) _ (3 : Int32) (4 : Int32) (1 : Int32) (by decide) (by decide) (by decide)]
  rw [own_stp ht 0 (1 : Int32) _ (4 : Int32) (5 : Int32) (0 : Int32) (by decide) (by decide) (by decide)]
  show _ = _
  simp only [own_lp, Int32.zero_add, Int32.add_zero]
  ac_rfl
theorem own_case17 {vs : List Value} {dv : Value} {t : Int32} (ht : 2 ≤ t.toInt ∧ t.toInt ≤ 17) : own_lp vs dv t ((7 : Int32).toInt - (1 : Int32).toInt).toNat ((7 : Int32) - (1 : Int32)) (0 : Int32) (2 : Int32) = (((((((own_term vs dv (0 : Int32) (1 : Int32) (7 : Int32) t + own_term vs dv (1 : Int32) (1 : Int32) (7 : Int32) t) + own_term vs dv (2 : Int32) (1 : Int32) (7 : Int32) t) + own_term vs dv (3 : Int32) (1 : Int32) (7 : Int32) t) + own_term vs dv (4 : Int32) (1 : Int32) (7 : Int32) t) + own_term vs dv (5 : Int32) (1 : Int32) (7 : Int32) t) + own_term vs dv (6 : Int32) (1 : Int32) (7 : Int32) t) + own_term vs dv (7 : Int32) (1 : Int32) (7 : Int32) t) := by
  have t0 : own_term vs dv (0 : Int32) (1 : Int32) (7 : Int32) t = 0 := by unfold own_term; rw [if_pos (by decide)]
  have t1 : own_term vs dv (1 : Int32) (1 : Int32) (7 : Int32) t = (own_at vs dv (1 : Int32) - (48 : Int32)) * own_W t (5 : Int32) := by unfold own_term; rw [if_neg (by decide), if_pos (by decide), (by decide : ((7 : Int32) - (1 : Int32)) - (1 : Int32) = (5 : Int32))]
  have t2 : own_term vs dv (2 : Int32) (1 : Int32) (7 : Int32) t = (own_at vs dv (2 : Int32) - (48 : Int32)) * own_W t (4 : Int32) := by unfold own_term; rw [if_neg (by decide), if_pos (by decide), (by decide : ((7 : Int32) - (1 : Int32)) - (2 : Int32) = (4 : Int32))]
  have t3 : own_term vs dv (3 : Int32) (1 : Int32) (7 : Int32) t = (own_at vs dv (3 : Int32) - (48 : Int32)) * own_W t (3 : Int32) := by unfold own_term; rw [if_neg (by decide), if_pos (by decide), (by decide : ((7 : Int32) - (1 : Int32)) - (3 : Int32) = (3 : Int32))]
  have t4 : own_term vs dv (4 : Int32) (1 : Int32) (7 : Int32) t = (own_at vs dv (4 : Int32) - (48 : Int32)) * own_W t (2 : Int32) := by unfold own_term; rw [if_neg (by decide), if_pos (by decide), (by decide : ((7 : Int32) - (1 : Int32)) - (4 : Int32) = (2 : Int32))]
  have t5 : own_term vs dv (5 : Int32) (1 : Int32) (7 : Int32) t = (own_at vs dv (5 : Int32) - (48 : Int32)) * own_W t (1 : Int32) := by unfold own_term; rw [if_neg (by decide), if_pos (by decide), (by decide : ((7 : Int32) - (1 : Int32)) - (5 : Int32) = (1 : Int32))]
  have t6 : own_term vs dv (6 : Int32) (1 : Int32) (7 : Int32) t = (own_at vs dv (6 : Int32) - (48 : Int32)) * own_W t (0 : Int32) := by unfold own_term; rw [if_neg (by decide), if_pos (by decide), (by decide : ((7 : Int32) - (1 : Int32)) - (6 : Int32) = (0 : Int32))]
  have t7 : own_term vs dv (7 : Int32) (1 : Int32) (7 : Int32) t = 0 := by unfold own_term; rw [if_neg (by decide), if_neg (by decide)]
  have n : ((7 : Int32).toInt - (1 : Int32).toInt).toNat = 6 := by decide
  have f : (7 : Int32) - (1 : Int32) = (6 : Int32) := by decide
  rw [n, f, t0, t1, t2, t3, t4, t5, t6, t7, own_start ht]
  rw [own_stp ht 5 (6 : Int32) _ (0 : Int32) (1 : Int32) (5 : Int32) (by decide) (by decide) (by decide)]
  rw [own_stp ht 4 (5 : Int32) _ (1 : Int32) (2 : Int32) (4 : Int32) (by decide) (by decide) (by decide)]
  rw [own_stp ht 3 (4 : Int32) _ (2 : Int32) (3 : Int32) (3 : Int32) (by decide) (by decide) (by decide)]
  rw [own_stp ht 2 (3 : Int32) _ (3 : Int32) (4 : Int32) (2 : Int32) (by decide) (by decide) (by decide)]
  rw [own_stp ht 1 (2 : Int32) _ (4 : Int32) (5 : Int32) (1 : Int32) (by decide) (by decide) (by decide)]
  rw [own_stp ht 0 (1 : Int32) _ (5 : Int32) (6 : Int32) (0 : Int32) (by decide) (by decide) (by decide)]
  show _ = _
  simp only [own_lp, Int32.zero_add, Int32.add_zero]
  ac_rfl
theorem own_case18 {vs : List Value} {dv : Value} {t : Int32} (ht : 2 ≤ t.toInt ∧ t.toInt ≤ 17) : own_lp vs dv t ((8 : Int32).toInt - (1 : Int32).toInt).toNat ((8 : Int32) - (1 : Int32)) (0 : Int32) (2 : Int32) = (((((((own_term vs dv (0 : Int32) (1 : Int32) (8 : Int32) t + own_term vs dv (1 : Int32) (1 : Int32) (8 : Int32) t) + own_term vs dv (2 : Int32) (1 : Int32) (8 : Int32) t) + own_term vs dv (3 : Int32) (1 : Int32) (8 : Int32) t) + own_term vs dv (4 : Int32) (1 : Int32) (8 : Int32) t) + own_term vs dv (5 : Int32) (1 : Int32) (8 : Int32) t) + own_term vs dv (6 : Int32) (1 : Int32) (8 : Int32) t) + own_term vs dv (7 : Int32) (1 : Int32) (8 : Int32) t) := by
  have t0 : own_term vs dv (0 : Int32) (1 : Int32) (8 : Int32) t = 0 := by unfold own_term; rw [if_pos (by decide)]
  have t1 : own_term vs dv (1 : Int32) (1 : Int32) (8 : Int32) t = (own_at vs dv (1 : Int32) - (48 : Int32)) * own_W t (6 : Int32) := by unfold own_term; rw [if_neg (by decide), if_pos (by decide), (by decide : ((8 : Int32) - (1 : Int32)) - (1 : Int32) = (6 : Int32))]
  have t2 : own_term vs dv (2 : Int32) (1 : Int32) (8 : Int32) t = (own_at vs dv (2 : Int32) - (48 : Int32)) * own_W t (5 : Int32) := by unfold own_term; rw [if_neg (by decide), if_pos (by decide), (by decide : ((8 : Int32) - (1 : Int32)) - (2 : Int32) = (5 : Int32))]
  have t3 : own_term vs dv (3 : Int32) (1 : Int32) (8 : Int32) t = (own_at vs dv (3 : Int32) - (48 : Int32)) * own_W t (4 : Int32) := by unfold own_term; rw [if_neg (by decide), if_pos (by decide), (by decide : ((8 : Int32) - (1 : Int32)) - (3 : Int32) = (4 : Int32))]
  have t4 : own_term vs dv (4 : Int32) (1 : Int32) (8 : Int32) t = (own_at vs dv (4 : Int32) - (48 : Int32)) * own_W t (3 : Int32) := by unfold own_term; rw [if_neg (by decide), if_pos (by decide), (by decide : ((8 : Int32) - (1 : Int32)) - (4 : Int32) = (3 : Int32))]
  have t5 : own_term vs dv (5 : Int32) (1 : Int32) (8 : Int32) t = (own_at vs dv (5 : Int32) - (48 : Int32)) * own_W t (2 : Int32) := by unfold own_term; rw [if_neg (by decide), if_pos (by decide), (by decide : ((8 : Int32) - (1 : Int32)) - (5 : Int32) = (2 : Int32))]
  have t6 : own_term vs dv (6 : Int32) (1 : Int32) (8 : Int32) t = (own_at vs dv (6 : Int32) - (48 : Int32)) * own_W t (1 : Int32) := by unfold own_term; rw [if_neg (by decide), if_pos (by decide), (by decide : ((8 : Int32) - (1 : Int32)) - (6 : Int32) = (1 : Int32))]
  have t7 : own_term vs dv (7 : Int32) (1 : Int32) (8 : Int32) t = (own_at vs dv (7 : Int32) - (48 : Int32)) * own_W t (0 : Int32) := by unfold own_term; rw [if_neg (by decide), if_pos (by decide), (by decide : ((8 : Int32) - (1 : Int32)) - (7 : Int32) = (0 : Int32))]
  have n : ((8 : Int32).toInt - (1 : Int32).toInt).toNat = 7 := by decide
  have f : (8 : Int32) - (1 : Int32) = (7 : Int32) := by decide
  rw [n, f, t0, t1, t2, t3, t4, t5, t6, t7, own_start ht]
  rw [own_stp ht 6 (7 : Int32) _ (0 : Int32) (1 : Int32) (6 : Int32) (by decide) (by decide) (by decide)]
  rw [own_stp ht 5 (6 : Int32) _ (1 : Int32) (2 : Int32) (5 : Int32) (by decide) (by decide) (by decide)]
  rw [own_stp ht 4 (5 : Int32) _ (2 : Int32) (3 : Int32) (4 : Int32) (by decide) (by decide) (by decide)]
  rw [own_stp ht 3 (4 : Int32) _ (3 : Int32) (4 : Int32) (3 : Int32) (by decide) (by decide) (by decide)]
  rw [own_stp ht 2 (3 : Int32) _ (4 : Int32) (5 : Int32) (2 : Int32) (by decide) (by decide) (by decide)]
  rw [own_stp ht 1 (2 : Int32) _ (5 : Int32) (6 : Int32) (1 : Int32) (by decide) (by decide) (by decide)]
  rw [own_stp ht 0 (1 : Int32) _ (6 : Int32) (7 : Int32) (0 : Int32) (by decide) (by decide) (by decide)]
  show _ = _
  simp only [own_lp, Int32.zero_add, Int32.add_zero]
  ac_rfl
theorem own_case22 {vs : List Value} {dv : Value} {t : Int32} (ht : 2 ≤ t.toInt ∧ t.toInt ≤ 17) : own_lp vs dv t ((2 : Int32).toInt - (2 : Int32).toInt).toNat ((2 : Int32) - (1 : Int32)) (0 : Int32) (2 : Int32) = (((((((own_term vs dv (0 : Int32) (2 : Int32) (2 : Int32) t + own_term vs dv (1 : Int32) (2 : Int32) (2 : Int32) t) + own_term vs dv (2 : Int32) (2 : Int32) (2 : Int32) t) + own_term vs dv (3 : Int32) (2 : Int32) (2 : Int32) t) + own_term vs dv (4 : Int32) (2 : Int32) (2 : Int32) t) + own_term vs dv (5 : Int32) (2 : Int32) (2 : Int32) t) + own_term vs dv (6 : Int32) (2 : Int32) (2 : Int32) t) + own_term vs dv (7 : Int32) (2 : Int32) (2 : Int32) t) := by
  have t0 : own_term vs dv (0 : Int32) (2 : Int32) (2 : Int32) t = 0 := by unfold own_term; rw [if_pos (by decide)]
  have t1 : own_term vs dv (1 : Int32) (2 : Int32) (2 : Int32) t = 0 := by unfold own_term; rw [if_pos (by decide)]
  have t2 : own_term vs dv (2 : Int32) (2 : Int32) (2 : Int32) t = 0 := by unfold own_term; rw [if_neg (by decide), if_neg (by decide)]
  have t3 : own_term vs dv (3 : Int32) (2 : Int32) (2 : Int32) t = 0 := by unfold own_term; rw [if_neg (by decide), if_neg (by decide)]
  have t4 : own_term vs dv (4 : Int32) (2 : Int32) (2 : Int32) t = 0 := by unfold own_term; rw [if_neg (by decide), if_neg (by decide)]
  have t5 : own_term vs dv (5 : Int32) (2 : Int32) (2 : Int32) t = 0 := by unfold own_term; rw [if_neg (by decide), if_neg (by decide)]
  have t6 : own_term vs dv (6 : Int32) (2 : Int32) (2 : Int32) t = 0 := by unfold own_term; rw [if_neg (by decide), if_neg (by decide)]
  have t7 : own_term vs dv (7 : Int32) (2 : Int32) (2 : Int32) t = 0 := by unfold own_term; rw [if_neg (by decide), if_neg (by decide)]
  have n : ((2 : Int32).toInt - (2 : Int32).toInt).toNat = 0 := by decide
  have f : (2 : Int32) - (1 : Int32) = (1 : Int32) := by decide
  rw [n, f, t0, t1, t2, t3, t4, t5, t6, t7, own_start ht]
  show (0 : Int32) = _
  decide
theorem own_case23 {vs : List Value} {dv : Value} {t : Int32} (ht : 2 ≤ t.toInt ∧ t.toInt ≤ 17) : own_lp vs dv t ((3 : Int32).toInt - (2 : Int32).toInt).toNat ((3 : Int32) - (1 : Int32)) (0 : Int32) (2 : Int32) = (((((((own_term vs dv (0 : Int32) (2 : Int32) (3 : Int32) t + own_term vs dv (1 : Int32) (2 : Int32) (3 : Int32) t) + own_term vs dv (2 : Int32) (2 : Int32) (3 : Int32) t) + own_term vs dv (3 : Int32) (2 : Int32) (3 : Int32) t) + own_term vs dv (4 : Int32) (2 : Int32) (3 : Int32) t) + own_term vs dv (5 : Int32) (2 : Int32) (3 : Int32) t) + own_term vs dv (6 : Int32) (2 : Int32) (3 : Int32) t) + own_term vs dv (7 : Int32) (2 : Int32) (3 : Int32) t) := by
  have t0 : own_term vs dv (0 : Int32) (2 : Int32) (3 : Int32) t = 0 := by unfold own_term; rw [if_pos (by decide)]
  have t1 : own_term vs dv (1 : Int32) (2 : Int32) (3 : Int32) t = 0 := by unfold own_term; rw [if_pos (by decide)]
  have t2 : own_term vs dv (2 : Int32) (2 : Int32) (3 : Int32) t = (own_at vs dv (2 : Int32) - (48 : Int32)) * own_W t (0 : Int32) := by unfold own_term; rw [if_neg (by decide), if_pos (by decide), (by decide : ((3 : Int32) - (1 : Int32)) - (2 : Int32) = (0 : Int32))]
  have t3 : own_term vs dv (3 : Int32) (2 : Int32) (3 : Int32) t = 0 := by unfold own_term; rw [if_neg (by decide), if_neg (by decide)]
  have t4 : own_term vs dv (4 : Int32) (2 : Int32) (3 : Int32) t = 0 := by unfold own_term; rw [if_neg (by decide), if_neg (by decide)]
  have t5 : own_term vs dv (5 : Int32) (2 : Int32) (3 : Int32) t = 0 := by unfold own_term; rw [if_neg (by decide), if_neg (by decide)]
  have t6 : own_term vs dv (6 : Int32) (2 : Int32) (3 : Int32) t = 0 := by unfold own_term; rw [if_neg (by decide), if_neg (by decide)]
  have t7 : own_term vs dv (7 : Int32) (2 : Int32) (3 : Int32) t = 0 := by unfold own_term; rw [if_neg (by decide), if_neg (by decide)]
  have n : ((3 : Int32).toInt - (2 : Int32).toInt).toNat = 1 := by decide
  have f : (3 : Int32) - (1 : Int32) = (2 : Int32) := by decide
  rw [n, f, t0, t1, t2, t3, t4, t5, t6, t7, own_start ht]
  rw [own_stp ht 0 (2 : Int32) _ (0 : Int32) (1 : Int32) (1 : Int32) (by decide) (by decide) (by decide)]
  show _ = _
  simp only [own_lp, Int32.zero_add, Int32.add_zero]
theorem own_case24 {vs : List Value} {dv : Value} {t : Int32} (ht : 2 ≤ t.toInt ∧ t.toInt ≤ 17) : own_lp vs dv t ((4 : Int32).toInt - (2 : Int32).toInt).toNat ((4 : Int32) - (1 : Int32)) (0 : Int32) (2 : Int32) = (((((((own_term vs dv (0 : Int32) (2 : Int32) (4 : Int32) t + own_term vs dv (1 : Int32) (2 : Int32) (4 : Int32) t) + own_term vs dv (2 : Int32) (2 : Int32) (4 : Int32) t) + own_term vs dv (3 : Int32) (2 : Int32) (4 : Int32) t) + own_term vs dv (4 : Int32) (2 : Int32) (4 : Int32) t) + own_term vs dv (5 : Int32) (2 : Int32) (4 : Int32) t) + own_term vs dv (6 : Int32) (2 : Int32) (4 : Int32) t) + own_term vs dv (7 : Int32) (2 : Int32) (4 : Int32) t) := by
  have t0 : own_term vs dv (0 : Int32) (2 : Int32) (4 : Int32) t = 0 := by unfold own_term; rw [if_pos (by decide)]
  have t1 : own_term vs dv (1 : Int32) (2 : Int32) (4 : Int32) t = 0 := by unfold own_term; rw [if_pos (by decide)]
  have t2 : own_term vs dv (2 : Int32) (2 : Int32) (4 : Int32) t = (own_at vs dv (2 : Int32) - (48 : Int32)) * own_W t (1 : Int32) := by unfold own_term; rw [if_neg (by decide), if_pos (by decide), (by decide : ((4 : Int32) - (1 : Int32)) - (2 : Int32) = (1 : Int32))]
  have t3 : own_term vs dv (3 : Int32) (2 : Int32) (4 : Int32) t = (own_at vs dv (3 : Int32) - (48 : Int32)) * own_W t (0 : Int32) := by unfold own_term; rw [if_neg (by decide), if_pos (by decide), (by decide : ((4 : Int32) - (1 : Int32)) - (3 : Int32) = (0 : Int32))]
  have t4 : own_term vs dv (4 : Int32) (2 : Int32) (4 : Int32) t = 0 := by unfold own_term; rw [if_neg (by decide), if_neg (by decide)]
  have t5 : own_term vs dv (5 : Int32) (2 : Int32) (4 : Int32) t = 0 := by unfold own_term; rw [if_neg (by decide), if_neg (by decide)]
  have t6 : own_term vs dv (6 : Int32) (2 : Int32) (4 : Int32) t = 0 := by unfold own_term; rw [if_neg (by decide), if_neg (by decide)]
  have t7 : own_term vs dv (7 : Int32) (2 : Int32) (4 : Int32) t = 0 := by unfold own_term; rw [if_neg (by decide), if_neg (by decide)]
  have n : ((4 : Int32).toInt - (2 : Int32).toInt).toNat = 2 := by decide
  have f : (4 : Int32) - (1 : Int32) = (3 : Int32) := by decide
  rw [n, f, t0, t1, t2, t3, t4, t5, t6, t7, own_start ht]
  rw [own_stp ht 1 (3 : Int32) _ (0 : Int32) (1 : Int32) (2 : Int32) (by decide) (by decide) (by decide)]
  rw [own_stp ht 0 (2 : Int32) _ (1 : Int32) (2 : Int32) (1 : Int32) (by decide) (by decide) (by decide)]
  show _ = _
  simp only [own_lp, Int32.zero_add, Int32.add_zero]
  ac_rfl
theorem own_case25 {vs : List Value} {dv : Value} {t : Int32} (ht : 2 ≤ t.toInt ∧ t.toInt ≤ 17) : own_lp vs dv t ((5 : Int32).toInt - (2 : Int32).toInt).toNat ((5 : Int32) - (1 : Int32)) (0 : Int32) (2 : Int32) = (((((((own_term vs dv (0 : Int32) (2 : Int32) (5 : Int32) t + own_term vs dv (1 : Int32) (2 : Int32) (5 : Int32) t) + own_term vs dv (2 : Int32) (2 : Int32) (5 : Int32) t) + own_term vs dv (3 : Int32) (2 : Int32) (5 : Int32) t) + own_term vs dv (4 : Int32) (2 : Int32) (5 : Int32) t) + own_term vs dv (5 : Int32) (2 : Int32) (5 : Int32) t) + own_term vs dv (6 : Int32) (2 : Int32) (5 : Int32) t) + own_term vs dv (7 : Int32) (2 : Int32) (5 : Int32) t) := by
  have t0 : own_term vs dv (0 : Int32) (2 : Int32) (5 : Int32) t = 0 := by unfold own_term; rw [if_pos (by decide)]
  have t1 : own_term vs dv (1 : Int32) (2 : Int32) (5 : Int32) t = 0 := by unfold own_term; rw [if_pos (by decide)]
  have t2 : own_term vs dv (2 : Int32) (2 : Int32) (5 : Int32) t = (own_at vs dv (2 : Int32) - (48 : Int32)) * own_W t (2 : Int32) := by unfold own_term; rw [if_neg (by decide), if_pos (by decide), (by decide : ((5 : Int32) - (1 : Int32)) - (2 : Int32) = (2 : Int32))]
  have t3 : own_term vs dv (3 : Int32) (2 : Int32) (5 : Int32) t = (own_at vs dv (3 : Int32) - (48 : Int32)) * own_W t (1 : Int32) := by unfold own_term; rw [if_neg (by decide), if_pos (by decide), (by decide : ((5 : Int32) - (1 : Int32)) - (3 : Int32) = (1 : Int32))]
  have t4 : own_term vs dv (4 : Int32) (2 : Int32) (5 : Int32) t = (own_at vs dv (4 : Int32) - (48 : Int32)) * own_W t (0 : Int32) := by unfold own_term; rw [if_neg (by decide), if_pos (by decide), (by decide : ((5 : Int32) - (1 : Int32)) - (4 : Int32) = (0 : Int32))]
  have t5 : own_term vs dv (5 : Int32) (2 : Int32) (5 : Int32) t = 0 := by unfold own_term; rw [if_neg (by decide), if_neg (by decide)]
  have t6 : own_term vs dv (6 : Int32) (2 : Int32) (5 : Int32) t = 0 := by unfold own_term; rw [if_neg (by decide), if_neg (by decide)]
  have t7 : own_term vs dv (7 : Int32) (2 : Int32) (5 : Int32) t = 0 := by unfold own_term; rw [if_neg (by decide), if_neg (by decide)]
  have n : ((5 : Int32).toInt - (2 : Int32).toInt).toNat = 3 := by decide
  have f : (5 : Int32) - (1 : Int32) = (4 : Int32) := by decide
  rw [n, f, t0, t1, t2, t3, t4, t5, t6, t7, own_start ht]
  rw [own_stp ht 2 (4 : Int32) _ (0 : Int32) (1 : Int32) (3 : Int32) (by decide) (by decide) (by decide)]
  rw [own_stp ht 1 (3 : Int32) _ (1 : Int32) (2 : Int32) (2 : Int32) (by decide) (by decide) (by decide)]
  rw [own_stp ht 0 (2 : Int32) _ (2 : Int32) (3 : Int32) (1 : Int32) (by decide) (by decide) (by decide)]
  show _ = _
  simp only [own_lp, Int32.zero_add, Int32.add_zero]
  ac_rfl
theorem own_case26 {vs : List Value} {dv : Value} {t : Int32} (ht : 2 ≤ t.toInt ∧ t.toInt ≤ 17) : own_lp vs dv t ((6 : Int32).toInt - (2 : Int32).toInt).toNat ((6 : Int32) - (1 : Int32)) (0 : Int32) (2 : Int32) = (((((((own_term vs dv (0 : Int32) (2 : Int32) (6 : Int32) t + own_term vs dv (1 : Int32) (2 : Int32) (6 : Int32) t) + own_term vs dv (2 : Int32) (2 : Int32) (6 : Int32) t) + own_term vs dv (3 : Int32) (2 : Int32) (6 : Int32) t) + own_term vs dv (4 : Int32) (2 : Int32) (6 : Int32) t) + own_term vs dv (5 : Int32) (2 : Int32) (6 : Int32) t) + own_term vs dv (6 : Int32) (2 : Int32) (6 : Int32) t) + own_term vs dv (7 : Int32) (2 : Int32) (6 : Int32) t) := by
  have t0 : own_term vs dv (0 : Int32) (2 : Int32) (6 : Int32) t = 0 := by unfold own_term; rw [if_pos (by decide)]
  have t1 : own_term vs dv (1 : Int32) (2 : Int32) (6 : Int32) t = 0 := by unfold own_term; rw [if_pos (by decide)]
  have t2 : own_term vs dv (2 : Int32) (2 : Int32) (6 : Int32) t = (own_at vs dv (2 : Int32) - (48 : Int32)) * own_W t (3 : Int32) := by unfold own_term; rw [if_neg (by decide), if_pos (by decide), (by decide : ((6 : Int32) - (1 : Int32)) - (2 : Int32) = (3 : Int32))]
  have t3 : own_term vs dv (3 : Int32) (2 : Int32) (6 : Int32) t = (own_at vs dv (3 : Int32) - (48 : Int32)) * own_W t (2 : Int32) := by unfold own_term; rw [if_neg (by decide), if_pos (by decide), (by decide : ((6 : Int32) - (1 : Int32)) - (3 : Int32) = (2 : Int32))]
  have t4 : own_term vs dv (4 : Int32) (2 : Int32) (6 : Int32) t = (own_at vs dv (4 : Int32) - (48 : Int32)) * own_W t (1 : Int32) := by unfold own_term; rw [if_neg (by decide), if_pos (by decide), (by decide : ((6 : Int32) - (1 : Int32)) - (4 : Int32) = (1 : Int32))]
  have t5 : own_term vs dv (5 : Int32) (2 : Int32) (6 : Int32) t = (own_at vs dv (5 : Int32) - (48 : Int32)) * own_W t (0 : Int32) := by unfold own_term; rw [if_neg (by decide), if_pos (by decide), (by decide : ((6 : Int32) - (1 : Int32)) - (5 : Int32) = (0 : Int32))]
  have t6 : own_term vs dv (6 : Int32) (2 : Int32) (6 : Int32) t = 0 := by unfold own_term; rw [if_neg (by decide), if_neg (by decide)]
  have t7 : own_term vs dv (7 : Int32) (2 : Int32) (6 : Int32) t = 0 := by unfold own_term; rw [if_neg (by decide), if_neg (by decide)]
  have n : ((6 : Int32).toInt - (2 : Int32).toInt).toNat = 4 := by decide
  have f : (6 : Int32) - (1 : Int32) = (5 : Int32) := by decide
  rw [n, f, t0, t1, t2, t3, t4, t5, t6, t7, own_start ht]
  rw [own_stp ht 3 (5 : Int32) _ (0 : Int32) (1 : Int32) (4 : Int32) (by decide) (by decide) (by decide)]
  rw [own_stp ht 2 (4 : Int32) _ (1 : Int32) (2 : Int32) (3 : Int32) (by decide) (by decide) (by decide)]
  rw [own_stp ht 1 (3 : Int32) _ (2 : Int32) (3 : Int32) (2 : Int32) (by decide) (by decide) (by decide)]
  rw [own_stp ht 0 (2 : Int32) _ (3 : Int32) (4 : Int32) (1 : Int32) (by decide) (by decide) (by decide)]
  show _ = _
  simp only [own_lp, Int32.zero_add, Int32.add_zero]
  ac_rfl
theorem own_case27 {vs : List Value} {dv : Value} {t : Int32} (ht : 2 ≤ t.toInt ∧ t.toInt ≤ 17) : own_lp vs dv t ((7 : Int32).toInt - (2 : Int32).toInt).toNat ((7 : Int32) - (1 : Int32)) (0 : Int32) (2 : Int32) = (((((((own_term vs dv (0 : Int32) (2 : Int32) (7 : Int32) t + own_term vs dv (1 : Int32) (2 : Int32) (7 : Int32) t) + own_term vs dv (2 : Int32) (2 : Int32) (7 : Int32) t) + own_term vs dv (3 : Int32) (2 : Int32) (7 : Int32) t) + own_term vs dv (4 : Int32) (2 : Int32) (7 : Int32) t) + own_term vs dv (5 : Int32) (2 : Int32) (7 : Int32) t) + own_term vs dv (6 : Int32) (2 : Int32) (7 : Int32) t) + own_term vs dv (7 : Int32) (2 : Int32) (7 : Int32) t) := by
  have t0 : own_term vs dv (0 : Int32) (2 : Int32) (7 : Int32) t = 0 := by unfold own_term; rw [if_pos (by decide)]
  have t1 : own_term vs dv (1 : Int32) (2 : Int32) (7 : Int32) t = 0 := by unfold own_term; rw [if_pos (by decide)]
  have t2 : own_term vs dv (2 : Int32) (2 : Int32) (7 : Int32) t = (own_at vs dv (2 : Int32) - (48 : Int32)) * own_W t (4 : Int32) := by unfold own_term; rw [if_neg (by decide), if_pos (by decide), (by decide : ((7 : Int32) - (1 : Int32)) - (2 : Int32) = (4 : Int32))]
  have t3 : own_term vs dv (3 : Int32) (2 : Int32) (7 : Int32) t = (own_at vs dv (3 : Int32) - (48 : Int32)) * own_W t (3 : Int32) := by unfold own_term; rw [if_neg (by decide), if_pos (by decide), (by decide : ((7 : Int32) - (1 : Int32)) - (3 : Int32) = (3 : Int32))]
  have t4 : own_term vs dv (4 : Int32) (2 : Int32) (7 : Int32) t = (own_at vs dv (4 : Int32) - (48 : Int32)) * own_W t (2 : Int32) := by unfold own_term; rw [if_neg (by decide), if_pos (by decide), (by decide : ((7 : Int32) - (1 : Int32)) - (4 : Int32) = (2 : Int32))]
  have t5 : own_term vs dv (5 : Int32) (2 : Int32) (7 : Int32) t = (own_at vs dv (5 : Int32) - (48 : Int32)) * own_W t (1 : Int32) := by unfold own_term; rw [if_neg (by decide), if_pos (by decide), (by decide : ((7 : Int32) - (1 : Int32)) - (5 : Int32) = (1 : Int32))]
  have t6 : own_term vs dv (6 : Int32) (2 : Int32) (7 : Int32) t = (own_at vs dv (6 : Int32) - (48 : Int32)) * own_W t (0 : Int32) := by unfold own_term; rw [if_neg (by decide), if_pos (by decide), (by decide : ((7 : Int32) - (1 : Int32)) - (6 : Int32) = (0 : Int32))]
  have t7 : own_term vs dv (7 : Int32) (2 : Int32) (7 : Int32) t = 0 := by unfold own_term; rw [if_neg (by decide), if_neg (by decide)]
  have n : ((7 : Int32).toInt - (2 : Int32).toInt).toNat = 5 := by decide
  have f : (7 : Int32) - (1 : Int32) = (6 : Int32) := by decide
  rw [n, f, t0, t1, t2, t3, t4, t5, t6, t7, own_start ht]
  rw [own_stp ht 4 (6 : Int32) _ (0 : Int32) (1 : Int32) (5 : Int32) (by decide) (by decide) (by decide)]
  rw [own_stp ht 3 (5 : Int32) _ (1 : Int32) (2 : Int32) (4 : Int32) (by decide) (by decide) (by decide)]
  rw [own_stp ht 2 (4 : Int32) _ (2 : Int32) (3 : Int32) (3 : Int32) (by decide) (by decide) (by decide)]
  rw [own_stp ht 1 (3 : Int32) _ (3 : Int32) (4 : Int32) (2 : Int32) (by decide) (by decide) (by decide)]
  rw [own_stp ht 0 (2 : Int32) _ (4 : Int32) (5 : Int32) (1 : Int32) (by decide) (by decide) (by decide)]
  show _ = _
  simp only [own_lp, Int32.zero_add, Int32.add_zero]
  ac_rfl
theorem own_case28 {vs : List Value} {dv : Value} {t : Int32} (ht : 2 ≤ t.toInt ∧ t.toInt ≤ 17) : own_lp vs dv t ((8 : Int32).toInt - (2 : Int32).toInt).toNat ((8 : Int32) - (1 : Int32)) (0 : Int32) (2 : Int32) = (((((((own_term vs dv (0 : Int32) (2 : Int32) (8 : Int32) t + own_term vs dv (1 : Int32) (2 : Int32) (8 : Int32) t) + own_term vs dv (2 : Int32) (2 : Int32) (8 : Int32) t) + own_term vs dv (3 : Int32) (2 : Int32) (8 : Int32) t) + own_term vs dv (4 : Int32) (2 : Int32) (8 : Int32) t) + own_term vs dv (5 : Int32) (2 : Int32) (8 : Int32) t) + own_term vs dv (6 : Int32) (2 : Int32) (8 : Int32) t) + own_term vs dv (7 : Int32) (2 : Int32) (8 : Int32) t) := by
  have t0 : own_term vs dv (0 : Int32) (2 : Int32) (8 : Int32) t = 0 := by unfold own_term; rw [if_pos (by decide)]
  have t1 : own_term vs dv (1 : Int32) (2 : Int32) (8 : Int32) t = 0 := by unfold own_term; rw [if_pos (by decide)]
  have t2 : own_term vs dv (2 : Int32) (2 : Int32) (8 : Int32) t = (own_at vs dv (2 : Int32) - (48 : Int32)) * own_W t (5 : Int32) := by unfold own_term; rw [if_neg (by decide), if_pos (by decide), (by decide : ((8 : Int32) - (1 : Int32)) - (2 : Int32) = (5 : Int32))]
  have t3 : own_term vs dv (3 : Int32) (2 : Int32) (8 : Int32) t = (own_at vs dv (3 : Int32) - (48 : Int32)) * own_W t (4 : Int32) := by unfold own_term; rw [if_neg (by decide), if_pos (by decide), (by decide : ((8 : Int32) - (1 : Int32)) - (3 : Int32) = (4 : Int32))]
  have t4 : own_term vs dv (4 : Int32) (2 : Int32) (8 : Int32) t = (own_at vs dv (4 : Int32) - (48 : Int32)) * own_W t (3 : Int32) := by unfold own_term; rw [if_neg (by decide), if_pos (by decide), (by decide : ((8 : Int32) - (1 : Int32)) - (4 : Int32) = (3 : Int32))]
  have t5 : own_term vs dv (5 : Int32) (2 : Int32) (8 : Int32) t = (own_at vs dv (5 : Int32) - (48 : Int32)) * own_W t (2 : Int32) := by unfold own_term; rw [if_neg (by decide), if_pos (by decide), (by decide : ((8 : Int32) - (1 : Int32)) - (5 : Int32) = (2 : Int32))]
  have t6 : own_term vs dv (6 : Int32) (2 : Int32) (8 : Int32) t = (own_at vs dv (6 : Int32) - (48 : Int32)) * own_W t (1 : Int32) := by unfold own_term; rw [if_neg (by decide), if_pos (by decide), (by decide : ((8 : Int32) - (1 : Int32)) - (6 : Int32) = (1 : Int32))]
  have t7 : own_term vs dv (7 : Int32) (2 : Int32) (8 : Int32) t = (own_at vs dv (7 : Int32) - (48 : Int32)) * own_W t (0 : Int32) := by unfold own_term; rw [if_neg (by decide), if_pos (by decide), (by decide : ((8 : Int32) - (1 : Int32)) - (7 : Int32) = (0 : Int32))]
  have n : ((8 : Int32).toInt - (2 : Int32).toInt).toNat = 6 := by decide
  have f : (8 : Int32) - (1 : Int32) = (7 : Int32) := by decide
  rw [n, f, t0, t1, t2, t3, t4, t5, t6, t7, own_start ht]
  rw [own_stp ht 5 (7 : Int32) _ (0 : Int32) (1 : Int32) (6 : Int32) (by decide) (by decide) (by decide)]
  rw [own_stp ht 4 (6 : Int32) _ (1 : Int32) (2 : Int32) (5 : Int32) (by decide) (by decide) (by decide)]
  rw [own_stp ht 3 (5 : Int32) _ (2 : Int32) (3 : Int32) (4 : Int32) (by decide) (by decide) (by decide)]
  rw [own_stp ht 2 (4 : Int32) _ (3 : Int32) (4 : Int32) (3 : Int32) (by decide) (by decide) (by decide)]
  rw [own_stp ht 1 (3 : Int32) _ (4 : Int32) (5 : Int32) (2 : Int32) (by decide) (by decide) (by decide)]
  rw [own_stp ht 0 (2 : Int32) _ (5 : Int32) (6 : Int32) (1 : Int32) (by decide) (by decide) (by decide)]
  show _ = _
  simp only [own_lp, Int32.zero_add, Int32.add_zero]
  ac_rfl
theorem own_case33 {vs : List Value} {dv : Value} {t : Int32} (ht : 2 ≤ t.toInt ∧ t.toInt ≤ 17) : own_lp vs dv t ((3 : Int32).toInt - (3 : Int32).toInt).toNat ((3 : Int32) - (1 : Int32)) (0 : Int32) (2 : Int32) = (((((((own_term vs dv (0 : Int32) (3 : Int32) (3 : Int32) t + own_term vs dv (1 : Int32) (3 : Int32) (3 : Int32) t) + own_term vs dv (2 : Int32) (3 : Int32) (3 : Int32) t) + own_term vs dv (3 : Int32) (3 : Int32) (3 : Int32) t) + own_term vs dv (4 : Int32) (3 : Int32) (3 : Int32) t) + own_term vs dv (5 : Int32) (3 : Int32) (3 : Int32) t) + own_term vs dv (6 : Int32) (3 : Int32) (3 : Int32) t) + own_term vs dv (7 : Int32) (3 : Int32) (3 : Int32) t) := by
  have t0 : own_term vs dv (0 : Int32) (3 : Int32) (3 : Int32) t = 0 := by unfold own_term; rw [if_pos (by decide)]
  have t1 : own_term vs dv (1 : Int32) (3 : Int32) (3 : Int32) t = 0 := by unfold own_term; rw [if_pos (by decide)]
  have t2 : own_term vs dv (2 : Int32) (3 : Int32) (3 : Int32) t = 0 := by unfold own_term; rw [if_pos (by decide)]
  have t3 : own_term vs dv (3 : Int32) (3 : Int32) (3 : Int32) t = 0 := by unfold own_term; rw [if_neg (by decide), if_neg (by decide)]
  have t4 : own_term vs dv (4 : Int32) (3 : Int32) (3 : Int32) t = 0 := by unfold own_term; rw [if_neg (by decide), if_neg (by decide)]
  have t5 : own_term vs dv (5 : Int32) (3 : Int32) (3 : Int32) t = 0 := by unfold own_term; rw [if_neg (by decide), if_neg (by decide)]
  have t6 : own_term vs dv (6 : Int32) (3 : Int32) (3 : Int32) t = 0 := by unfold own_term; rw [if_neg (by decide), if_neg (by decide)]
  have t7 : own_term vs dv (7 : Int32) (3 : Int32) (3 : Int32) t = 0 := by unfold own_term; rw [if_neg (by decide), if_neg (by decide)]
  have n : ((3 : Int32).toInt - (3 : Int32).toInt).toNat = 0 := by decide
  have f : (3 : Int32) - (1 : Int32) = (2 : Int32) := by decide
  rw [n, f, t0, t1, t2, t3, t4, t5, t6, t7, own_start ht]
  show (0 : Int32) = _
  decide
theorem own_case34 {vs : List Value} {dv : Value} {t : Int32} (ht : 2 ≤ t.toInt ∧ t.toInt ≤ 17) : own_lp vs dv t ((4 : Int32).toInt - (3 : Int32).toInt).toNat ((4 : Int32) - (1 : Int32)) (0 : Int32) (2 : Int32) = (((((((own_term vs dv (0 : Int32) (3 : Int32) (4 : Int32) t + own_term vs dv (1 : Int32) (3 : Int32) (4 : Int32) t) + own_term vs dv (2 : Int32) (3 : Int32) (4 : Int32) t) + own_term vs dv (3 : Int32) (3 : Int32) (4 : Int32) t) + own_term vs dv (4 : Int32) (3 : Int32) (4 : Int32) t) + own_term vs dv (5 : Int32) (3 : Int32) (4 : Int32) t) + own_term vs dv (6 : Int32) (3 : Int32) (4 : Int32) t) + own_term vs dv (7 : Int32) (3 : Int32) (4 : Int32) t) := by
  have t0 : own_term vs dv (0 : Int32) (3 : Int32) (4 : Int32) t = 0 := by unfold own_term; rw [if_pos (by decide)]
  have t1 : own_term vs dv (1 : Int32) (3 : Int32) (4 : Int32) t = 0 := by unfold own_term; rw [if_pos (by decide)]
  have t2 : own_term vs dv (2 : Int32) (3 : Int32) (4 : Int32) t = 0 := by unfold own_term; rw [if_pos (by decide)]
  have t3 : own_term vs dv (3 : Int32) (3 : Int32) (4 : Int32) t = (own_at vs dv (3 : Int32) - (48 : Int32)) * own_W t (0 : Int32) := by unfold own_term; rw [if_neg (by decide), if_pos (by decide), (by decide : ((4 : Int32) - (1 : Int32)) - (3 : Int32) = (0 : Int32))]
  have t4 : own_term vs dv (4 : Int32) (3 : Int32) (4 : Int32) t = 0 := by unfold own_term; rw [if_neg (by decide), if_neg (by decide)]
  have t5 : own_term vs dv (5 : Int32) (3 : Int32) (4 : Int32) t = 0 := by unfold own_term; rw [if_neg (by decide), if_neg (by decide)]
  have t6 : own_term vs dv (6 : Int32) (3 : Int32) (4 : Int32) t = 0 := by unfold own_term; rw [if_neg (by decide), if_neg (by decide)]
  have t7 : own_term vs dv (7 : Int32) (3 : Int32) (4 : Int32) t = 0 := by unfold own_term; rw [if_neg (by decide), if_neg (by decide)]
  have n : ((4 : Int32).toInt - (3 : Int32).toInt).toNat = 1 := by decide
  have f : (4 : Int32) - (1 : Int32) = (3 : Int32) := by decide
  rw [n, f, t0, t1, t2, t3, t4, t5, t6, t7, own_start ht]
  rw [own_stp ht 0 (3 : Int32) _ (0 : Int32) (1 : Int32) (2 : Int32) (by decide) (by decide) (by decide)]
  show _ = _
  simp only [own_lp, Int32.zero_add, Int32.add_zero]
theorem own_case35 {vs : List Value} {dv : Value} {t : Int32} (ht : 2 ≤ t.toInt ∧ t.toInt ≤ 17) : own_lp vs dv t ((5 : Int32).toInt - (3 : Int32).toInt).toNat ((5 : Int32) - (1 : Int32)) (0 : Int32) (2 : Int32) = (((((((own_term vs dv (0 : Int32) (3 : Int32) (5 : Int32) t + own_term vs dv (1 : Int32) (3 : Int32) (5 : Int32) t) + own_term vs dv (2 : Int32) (3 : Int32) (5 : Int32) t) + own_term vs dv (3 : Int32) (3 : Int32) (5 : Int32) t) + own_term vs dv (4 : Int32) (3 : Int32) (5 : Int32) t) + own_term vs dv (5 : Int32) (3 : Int32) (5 : Int32) t) + own_term vs dv (6 : Int32) (3 : Int32) (5 : Int32) t) + own_term vs dv (7 : Int32) (3 : Int32) (5 : Int32) t) := by
  have t0 : own_term vs dv (0 : Int32) (3 : Int32) (5 : Int32) t = 0 := by unfold own_term; rw [if_pos (by decide)]
  have t1 : own_term vs dv (1 : Int32) (3 : Int32) (5 : Int32) t = 0 := by unfold own_term; rw [if_pos (by decide)]
  have t2 : own_term vs dv (2 : Int32) (3 : Int32) (5 : Int32) t = 0 := by unfold own_term; rw [if_pos (by decide)]
  have t3 : own_term vs dv (3 : Int32) (3 : Int32) (5 : Int32) t = (own_at vs dv (3 : Int32) - (48 : Int32)) * own_W t (1 : Int32) := by unfold own_term; rw [if_neg (by decide), if_pos (by decide), (by decide : ((5 : Int32) - (1 : Int32)) - (3 : Int32) = (1 : Int32))]
  have t4 : own_term vs dv (4 : Int32) (3 : Int32) (5 : Int32) t = (own_at vs dv (4 : Int32) - (48 : Int32)) * own_W t (0 : Int32) := by unfold own_term; rw [if_neg (by decide), if_pos (by decide), (by decide : ((5 : Int32) - (1 : Int32)) - (4 : Int32) = (0 : Int32))]
  have t5 : own_term vs dv (5 : Int32) (3 : Int32) (5 : Int32) t = 0 := by unfold own_term; rw [if_neg (by decide), if_neg (by decide)]
  have t6 : own_term vs dv (6 : Int32) (3 : Int32) (5 : Int32) t = 0 := by unfold own_term; rw [if_neg (by decide), if_neg (by decide)]
  have t7 : own_term vs dv (7 : Int32) (3 : Int32) (5 : Int32) t = 0 := by unfold own_term; rw [if_neg (by decide), if_neg (by decide)]
  have n : ((5 : Int32).toInt - (3 : Int32).toInt).toNat = 2 := by decide
  have f : (5 : Int32) - (1 : Int32) = (4 : Int32) := by decide
  rw [n, f, t0, t1, t2, t3, t4, t5, t6, t7, own_start ht]
  rw [own_stp ht 1 (4 : Int32) _ (0 : Int32) (1 : Int32) (3 : Int32) (by decide) (by decide) (by decide)]
  rw [own_stp ht 0 (3 : Int32) _ (1 : Int32) (2 : Int32) (2 : Int32) (by decide) (by decide) (by decide)]
  show _ = _
  simp only [own_lp, Int32.zero_add, Int32.add_zero]
  ac_rfl
theorem own_case36 {vs : List Value} {dv : Value} {t : Int32} (ht : 2 ≤ t.toInt ∧ t.toInt ≤ 17) : own_lp vs dv t ((6 : Int32).toInt - (3 : Int32).toInt).toNat ((6 : Int32) - (1 : Int32)) (0 : Int32) (2 : Int32) = (((((((own_term vs dv (0 : Int32) (3 : Int32) (6 : Int32) t + own_term vs dv (1 : Int32) (3 : Int32) (6 : Int32) t) + own_term vs dv (2 : Int32) (3 : Int32) (6 : Int32) t) + own_term vs dv (3 : Int32) (3 : Int32) (6 : Int32) t) + own_term vs dv (4 : Int32) (3 : Int32) (6 : Int32) t) + own_term vs dv (5 : Int32) (3 : Int32) (6 : Int32) t) + own_term vs dv (6 : Int32) (3 : Int32) (6 : Int32) t) + own_term vs dv (7 : Int32) (3 : Int32) (6 : Int32) t) := by
  have t0 : own_term vs dv (0 : Int32) (3 : Int32) (6 : Int32) t = 0 := by unfold own_term; rw [if_pos (by decide)]
  have t1 : own_term vs dv (1 : Int32) (3 : Int32) (6 : Int32) t = 0 := by unfold own_term; rw [if_pos (by decide)]
  have t2 : own_term vs dv (2 : Int32) (3 : Int32) (6 : Int32) t = 0 := by unfold own_term; rw [if_pos (by decide)]
  have t3 : own_term vs dv (3 : Int32) (3 : Int32) (6 : Int32) t = (own_at vs dv (3 : Int32) - (48 : Int32)) * own_W t (2 : Int32) := by unfold own_term; rw [if_neg (by decide), if_pos (by decide), (by decide : ((6 : Int32) - (1 : Int32)) - (3 : Int32) = (2 : Int32))]
  have t4 : own_term vs dv (4 : Int32) (3 : Int32) (6 : Int32) t = (own_at vs dv (4 : Int32) - (48 : Int32)) * own_W t (1 : Int32) := by unfold own_term; rw [if_neg (by decide), if_pos (by decide), (by decide : ((6 : Int32) - (1 : Int32)) - (4 : Int32) = (1 : Int32))]
  have t5 : own_term vs dv (5 : Int32) (3 : Int32) (6 : Int32) t = (own_at vs dv (5 : Int32) - (48 : Int32)) * own_W t (0 : Int32) := by unfold own_term; rw [if_neg (by decide), if_pos (by decide), (by decide : ((6 : Int32) - (1 : Int32)) - (5 : Int32) = (0 : Int32))]
  have t6 : own_term vs dv (6 : Int32) (3 : Int32) (6 : Int32) t = 0 := by unfold own_term; rw [if_neg (by decide), if_neg (by decide)]
  have t7 : own_term vs dv (7 : Int32) (3 : Int32) (6 : Int32) t = 0 := by unfold own_term; rw [if_neg (by decide), if_neg (by decide)]
  have n : ((6 : Int32).toInt - (3 : Int32).toInt).toNat = 3 := by decide
  have f : (6 : Int32) - (1 : Int32) = (5 : Int32) := by decide
  rw [n, f, t0, t1, t2, t3, t4, t5, t6, t7, own_start ht]
  rw [own_stp ht 2 (5 : Int32) _ (0 : Int32) (1 : Int32) (4 : Int32) (by decide) (by decide) (by decide)]
  rw [own_stp ht 1 (4 : Int32) _ (1 : Int32) (2 : Int32) (3 : Int32) (by decide) (by decide) (by decide)]
  rw [own_stp ht 0 (3 : Int32) _ (2 : Int32) (3 : Int32) (2 : Int32) (by decide) (by decide) (by decide)]
  show _ = _
  simp only [own_lp, Int32.zero_add, Int32.add_zero]
  ac_rfl
theorem own_case37 {vs : List Value} {dv : Value} {t : Int32} (ht : 2 ≤ t.toInt ∧ t.toInt ≤ 17) : own_lp vs dv t ((7 : Int32).toInt - (3 : Int32).toInt).toNat ((7 : Int32) - (1 : Int32)) (0 : Int32) (2 : Int32) = (((((((own_term vs dv (0 : Int32) (3 : Int32) (7 : Int32) t + own_term vs dv (1 : Int32) (3 : Int32) (7 : Int32) t) + own_term vs dv (2 : Int32) (3 : Int32) (7 : Int32) t) + own_term vs dv (3 : Int32) (3 : Int32) (7 : Int32) t) + own_term vs dv (4 : Int32) (3 : Int32) (7 : Int32) t) + own_term vs dv (5 : Int32) (3 : Int32) (7 : Int32) t) + own_term vs dv (6 : Int32) (3 : Int32) (7 : Int32) t) + own_term vs dv (7 : Int32) (3 : Int32) (7 : Int32) t) := by
  have t0 : own_term vs dv (0 : Int32) (3 : Int32) (7 : Int32) t = 0 := by unfold own_term; rw [if_pos (by decide)]
  have t1 : own_term vs dv (1 : Int32) (3 : Int32) (7 : Int32) t = 0 := by unfold own_term; rw [if_pos (by decide)]
  have t2 : own_term vs dv (2 : Int32) (3 : Int32) (7 : Int32) t = 0 := by unfold own_term; rw [if_pos (by decide)]
  have t3 : own_term vs dv (3 : Int32) (3 : Int32) (7 : Int32) t = (own_at vs dv (3 : Int32) - (48 : Int32)) * own_W t (3 : Int32) := by unfold own_term; rw [if_neg (by decide), if_pos (by decide), (by decide : ((7 : Int32) - (1 : Int32)) - (3 : Int32) = (3 : Int32))]
  have t4 : own_term vs dv (4 : Int32) (3 : Int32) (7 : Int32) t = (own_at vs dv (4 : Int32) - (48 : Int32)) * own_W t (2 : Int32) := by unfold own_term; rw [if_neg (by decide), if_pos (by decide), (by decide : ((7 : Int32) - (1 : Int32)) - (4 : Int32) = (2 : Int32))]
  have t5 : own_term vs dv (5 : Int32) (3 : Int32) (7 : Int32) t = (own_at vs dv (5 : Int32) - (48 : Int32)) * own_W t (1 : Int32) := by unfold own_term; rw [if_neg (by decide), if_pos (by decide), (by decide : ((7 : Int32) - (1 : Int32)) - (5 : Int32) = (1 : Int32))]
  have t6 : own_term vs dv (6 : Int32) (3 : Int32) (7 : Int32) t = (own_at vs dv (6 : Int32) - (48 : Int32)) * own_W t (0 : Int32) := by unfold own_term; rw [if_neg (by decide), if_pos (by decide), (by decide : ((7 : Int32) - (1 : Int32)) - (6 : Int32) = (0 : Int32))]
  have t7 : own_term vs dv (7 : Int32) (3 : Int32) (7 : Int32) t = 0 := by unfold own_term; rw [if_neg (by decide), if_neg (by decide)]
  have n : ((7 : Int32).toInt - (3 : Int32).toInt).toNat = 4 := by decide
  have f : (7 : Int32) - (1 : Int32) = (6 : Int32) := by decide
  rw [n, f, t0, t1, t2, t3, t4, t5, t6, t7, own_start ht]
  rw [own_stp ht 3 (6 : Int32) _ (0 : Int32) (1 : Int32) (5 : Int32) (by decide) (by decide) (by decide)]
  rw [own_stp ht 2 (5 : Int32) _ (1 : Int32) (2 : Int32) (4 : Int32) (by decide) (by decide) (by decide)]
  rw [own_stp ht 1 (4 : Int32) _ (2 : Int32) (3 : Int32) (3 : Int32) (by decide) (by decide) (by decide)]
  rw [own_stp ht 0 (3 : Int32) _ (3 : Int32) (4 : Int32) (2 : Int32) (by decide) (by decide) (by decide)]
  show _ = _
  simp only [own_lp, Int32.zero_add, Int32.add_zero]
  ac_rfl
theorem own_case38 {vs : List Value} {dv : Value} {t : Int32} (ht : 2 ≤ t.toInt ∧ t.toInt ≤ 17) : own_lp vs dv t ((8 : Int32).toInt - (3 : Int32).toInt).toNat ((8 : Int32) - (1 : Int32)) (0 : Int32) (2 : Int32) = (((((((own_term vs dv (0 : Int32) (3 : Int32) (8 : Int32) t + own_term vs dv (1 : Int32) (3 : Int32) (8 : Int32) t) + own_term vs dv (2 : Int32) (3 : Int32) (8 : Int32) t) + own_term vs dv (3 : Int32) (3 : Int32) (8 : Int32) t) + own_term vs dv (4 : Int32) (3 : Int32) (8 : Int32) t) + own_term vs dv (5 : Int32) (3 : Int32) (8 : Int32) t) + own_term vs dv (6 : Int32) (3 : Int32) (8 : Int32) t) + own_term vs dv (7 : Int32) (3 : Int32) (8 : Int32) t) := by
  have t0 : own_term vs dv (0 : Int32) (3 : Int32) (8 : Int32) t = 0 := by unfold own_term; rw [if_pos (by decide)]
  have t1 : own_term vs dv (1 : Int32) (3 : Int32) (8 : Int32) t = 0 := by unfold own_term; rw [if_pos (by decide)]
  have t2 : own_term vs dv (2 : Int32) (3 : Int32) (8 : Int32) t = 0 := by unfold own_term; rw [if_pos (by decide)]
  have t3 : own_term vs dv (3 : Int32) (3 : Int32) (8 : Int32) t = (own_at vs dv (3 : Int32) - (48 : Int32)) * own_W t (4 : Int32) := by unfold own_term; rw [if_neg (by decide), if_pos (by decide), (by decide : ((8 : Int32) - (1 : Int32)) - (3 : Int32) = (4 : Int32))]
  have t4 : own_term vs dv (4 : Int32) (3 : Int32) (8 : Int32) t = (own_at vs dv (4 : Int32) - (48 : Int32)) * own_W t (3 : Int32) := by unfold own_term; rw [if_neg (by decide), if_pos (by decide), (by decide : ((8 : Int32) - (1 : Int32)) - (4 : Int32) = (3 : Int32))]
  have t5 : own_term vs dv (5 : Int32) (3 : Int32) (8 : Int32) t = (own_at vs dv (5 : Int32) - (48 : Int32)) * own_W t (2 : Int32) := by unfold own_term; rw [if_neg (by decide), if_pos (by decide), (by decide : ((8 : Int32) - (1 : Int32)) - (5 : Int32) = (2 : Int32))]
  have t6 : own_term vs dv (6 : Int32) (3 : Int32) (8 : Int32) t = (own_at vs dv (6 : Int32) - (48 : Int32)) * own_W t (1 : Int32) := by unfold own_term; rw [if_neg (by decide), if_pos (by decide), (by decide : ((8 : Int32) - (1 : Int32)) - (6 : Int32) = (1 : Int32))]
  have t7 : own_term vs dv (7 : Int32) (3 : Int32) (8 : Int32) t = (own_at vs dv (7 : Int32) - (48 : Int32)) * own_W t (0 : Int32) := by unfold own_term; rw [if_neg (by decide), if_pos (by decide), (by decide : ((8 : Int32) - (1 : Int32)) - (7 : Int32) = (0 : Int32))]
  have n : ((8 : Int32).toInt - (3 : Int32).toInt).toNat = 5 := by decide
  have f : (8 : Int32) - (1 : Int32) = (7 : Int32) := by decide
  rw [n, f, t0, t1, t2, t3, t4, t5, t6, t7, own_start ht]
  rw [own_stp ht 4 (7 : Int32) _ (0 : Int32) (1 : Int32) (6 : Int32) (by decide) (by decide) (by decide)]
  rw [own_stp ht 3 (6 : Int32) _ (1 : Int32) (2 : Int32) (5 : Int32) (by decide) (by decide) (by decide)]
  rw [own_stp ht 2 (5 : Int32) _ (2 : Int32) (3 : Int32) (4 : Int32) (by decide) (by decide) (by decide)]
  rw [own_stp ht 1 (4 : Int32) _ (3 : Int32) (4 : Int32) (3 : Int32) (by decide) (by decide) (by decide)]
  rw [own_stp ht 0 (3 : Int32) _ (4 : Int32) (5 : Int32) (2 : Int32) (by decide) (by decide) (by decide)]
  show _ = _
  simp only [own_lp, Int32.zero_add, Int32.add_zero]
  ac_rfl
theorem own_case44 {vs : List Value} {dv : Value} {t : Int32} (ht : 2 ≤ t.toInt ∧ t.toInt ≤ 17) : own_lp vs dv t ((4 : Int32).toInt - (4 : Int32).toInt).toNat ((4 : Int32) - (1 : Int32)) (0 : Int32) (2 : Int32) = (((((((own_term vs dv (0 : Int32) (4 : Int32) (4 : Int32) t + own_term vs dv (1 : Int32) (4 : Int32) (4 : Int32) t) + own_term vs dv (2 : Int32) (4 : Int32) (4 : Int32) t) + own_term vs dv (3 : Int32) (4 : Int32) (4 : Int32) t) + own_term vs dv (4 : Int32) (4 : Int32) (4 : Int32) t) + own_term vs dv (5 : Int32) (4 : Int32) (4 : Int32) t) + own_term vs dv (6 : Int32) (4 : Int32) (4 : Int32) t) + own_term vs dv (7 : Int32) (4 : Int32) (4 : Int32) t) := by
  have t0 : own_term vs dv (0 : Int32) (4 : Int32) (4 : Int32) t = 0 := by unfold own_term; rw [if_pos (by decide)]
  have t1 : own_term vs dv (1 : Int32) (4 : Int32) (4 : Int32) t = 0 := by unfold own_term; rw [if_pos (by decide)]
  have t2 : own_term vs dv (2 : Int32) (4 : Int32) (4 : Int32) t = 0 := by unfold own_term; rw [if_pos (by decide)]
  have t3 : own_term vs dv (3 : Int32) (4 : Int32) (4 : Int32) t = 0 := by unfold own_term; rw [if_pos (by decide)]
  have t4 : own_term vs dv (4 : Int32) (4 : Int32) (4 : Int32) t = 0 := by unfold own_term; rw [if_neg (by decide), if_neg (by decide)]
  have t5 : own_term vs dv (5 : Int32) (4 : Int32) (4 : Int32) t = 0 := by unfold own_term; rw [if_neg (by decide), if_neg (by decide)]
  have t6 : own_term vs dv (6 : Int32) (4 : Int32) (4 : Int32) t = 0 := by unfold own_term; rw [if_neg (by decide), if_neg (by decide)]
  have t7 : own_term vs dv (7 : Int32) (4 : Int32) (4 : Int32) t = 0 := by unfold own_term; rw [if_neg (by decide), if_neg (by decide)]
  have n : ((4 : Int32).toInt - (4 : Int32).toInt).toNat = 0 := by decide
  have f : (4 : Int32) - (1 : Int32) = (3 : Int32) := by decide
  rw [n, f, t0, t1, t2, t3, t4, t5, t6, t7, own_start ht]
  show (0 : Int32) = _
  decide
theorem own_case45 {vs : List Value} {dv : Value} {t : Int32} (ht : 2 ≤ t.toInt ∧ t.toInt ≤ 17) : own_lp vs dv t ((5 : Int32).toInt - (4 : Int32).toInt).toNat ((5 : Int32) - (1 : Int32)) (0 : Int32) (2 : Int32) = (((((((own_term vs dv (0 : Int32) (4 : Int32) (5 : Int32) t + own_term vs dv (1 : Int32) (4 : Int32) (5 : Int32) t) + own_term vs dv (2 : Int32) (4 : Int32) (5 : Int32) t) + own_term vs dv (3 : Int32) (4 : Int32) (5 : Int32) t) + own_term vs dv (4 : Int32) (4 : Int32) (5 : Int32) t) + own_term vs dv (5 : Int32) (4 : Int32) (5 : Int32) t) + own_term vs dv (6 : Int32) (4 : Int32) (5 : Int32) t) + own_term vs dv (7 : Int32) (4 : Int32) (5 : Int32) t) := by
  have t0 : own_term vs dv (0 : Int32) (4 : Int32) (5 : Int32) t = 0 := by unfold own_term; rw [if_pos (by decide)]
  have t1 : own_term vs dv (1 : Int32) (4 : Int32) (5 : Int32) t = 0 := by unfold own_term; rw [if_pos (by decide)]
  have t2 : own_term vs dv (2 : Int32) (4 : Int32) (5 : Int32) t = 0 := by unfold own_term; rw [if_pos (by decide)]
  have t3 : own_term vs dv (3 : Int32) (4 : Int32) (5 : Int32) t = 0 := by unfold own_term; rw [if_pos (by decide)]
  have t4 : own_term vs dv (4 : Int32) (4 : Int32) (5 : Int32) t = (own_at vs dv (4 : Int32) - (48 : Int32)) * own_W t (0 : Int32) := by unfold own_term; rw [if_neg (by decide), if_pos (by decide), (by decide : ((5 : Int32) - (1 : Int32)) - (4 : Int32) = (0 : Int32))]
  have t5 : own_term vs dv (5 : Int32) (4 : Int32) (5 : Int32) t = 0 := by unfold own_term; rw [if_neg (by decide), if_neg (by decide)]
  have t6 : own_term vs dv (6 : Int32) (4 : Int32) (5 : Int32) t = 0 := by unfold own_term; rw [if_neg (by decide), if_neg (by decide)]
  have t7 : own_term vs dv (7 : Int32) (4 : Int32) (5 : Int32) t = 0 := by unfold own_term; rw [if_neg (by decide), if_neg (by decide)]
  have n : ((5 : Int32).toInt - (4 : Int32).toInt).toNat = 1 := by decide
  have f : (5 : Int32) - (1 : Int32) = (4 : Int32) := by decide
  rw [n, f, t0, t1, t2, t3, t4, t5, t6, t7, own_start ht]
  rw [own_stp ht 0 (4 : Int32) _ (0 : Int32) (1 : Int32) (3 : Int32) (by decide) (by decide) (by decide)]
  show _ = _
  simp only [own_lp, Int32.zero_add, Int32.add_zero]
theorem own_case46 {vs : List Value} {dv : Value} {t : Int32} (ht : 2 ≤ t.toInt ∧ t.toInt ≤ 17) : own_lp vs dv t ((6 : Int32).toInt - (4 : Int32).toInt).toNat ((6 : Int32) - (1 : Int32)) (0 : Int32) (2 : Int32) = (((((((own_term vs dv (0 : Int32) (4 : Int32) (6 : Int32) t + own_term vs dv (1 : Int32) (4 : Int32) (6 : Int32) t) + own_term vs dv (2 : Int32) (4 : Int32) (6 : Int32) t) + own_term vs dv (3 : Int32) (4 : Int32) (6 : Int32) t) + own_term vs dv (4 : Int32) (4 : Int32) (6 : Int32) t) + own_term vs dv (5 : Int32) (4 : Int32) (6 : Int32) t) + own_term vs dv (6 : Int32) (4 : Int32) (6 : Int32) t) + own_term vs dv (7 : Int32) (4 : Int32) (6 : Int32) t) := by
  have t0 : own_term vs dv (0 : Int32) (4 : Int32) (6 : Int32) t = 0 := by unfold own_term; rw [if_pos (by decide)]
  have t1 : own_term vs dv (1 : Int32) (4 : Int32) (6 : Int32) t = 0 := by unfold own_term; rw [if_pos (by decide)]
  have t2 : own_term vs dv (2 : Int32) (4 : Int32) (6 : Int32) t = 0 := by unfold own_term; rw [if_pos (by decide)]
  have t3 : own_term vs dv (3 : Int32) (4 : Int32) (6 : Int32) t = 0 := by unfold own_term; rw [if_pos (by decide)]
  have t4 : own_term vs dv (4 : Int32) (4 : Int32) (6 : Int32) t = (own_at vs dv (4 : Int32) - (48 : Int32)) * own_W t (1 : Int32) := by unfold own_term; rw [if_neg (by decide), if_pos (by decide), (by decide : ((6 : Int32) - (1 : Int32)) - (4 : Int32) = (1 : Int32))]
  have t5 : own_term vs dv (5 : Int32) (4 : Int32) (6 : Int32) t = (own_at vs dv (5 : Int32) - (48 : Int32)) * own_W t (0 : Int32) := by unfold own_term; rw [if_neg (by decide), if_pos (by decide), (by decide : ((6 : Int32) - (1 : Int32)) - (5 : Int32) = (0 : Int32))]
  have t6 : own_term vs dv (6 : Int32) (4 : Int32) (6 : Int32) t = 0 := by unfold own_term; rw [if_neg (by decide), if_neg (by decide)]
  have t7 : own_term vs dv (7 : Int32) (4 : Int32) (6 : Int32) t = 0 := by unfold own_term; rw [if_neg (by decide), if_neg (by decide)]
  have n : ((6 : Int32).toInt - (4 : Int32).toInt).toNat = 2 := by decide
  have f : (6 : Int32) - (1 : Int32) = (5 : Int32) := by decide
  rw [n, f, t0, t1, t2, t3, t4, t5, t6, t7, own_start ht]
  rw [own_stp ht 1 (5 : Int32) _ (0 : Int32) (1 : Int32) (4 : Int32) (by decide) (by decide) (by decide)]
  rw [own_stp ht 0 (4 : Int32) _ (1 : Int32) (2 : Int32) (3 : Int32) (by decide) (by decide) (by decide)]
  show _ = _
  simp only [own_lp, Int32.zero_add, Int32.add_zero]
  ac_rfl
theorem own_case47 {vs : List Value} {dv : Value} {t : Int32} (ht : 2 ≤ t.toInt ∧ t.toInt ≤ 17) : own_lp vs dv t ((7 : Int32).toInt - (4 : Int32).toInt).toNat ((7 : Int32) - (1 : Int32)) (0 : Int32) (2 : Int32) = (((((((own_term vs dv (0 : Int32) (4 : Int32) (7 : Int32) t + own_term vs dv (1 : Int32) (4 : Int32) (7 : Int32) t) + own_term vs dv (2 : Int32) (4 : Int32) (7 : Int32) t) + own_term vs dv (3 : Int32) (4 : Int32) (7 : Int32) t) + own_term vs dv (4 : Int32) (4 : Int32) (7 : Int32) t) + own_term vs dv (5 : Int32) (4 : Int32) (7 : Int32) t) + own_term vs dv (6 : Int32) (4 : Int32) (7 : Int32) t) + own_term vs dv (7 : Int32) (4 : Int32) (7 : Int32) t) := by
  have t0 : own_term vs dv (0 : Int32) (4 : Int32) (7 : Int32) t = 0 := by unfold own_term; rw [if_pos (by decide)]
  have t1 : own_term vs dv (1 : Int32) (4 : Int32) (7 : Int32) t = 0 := by unfold own_term; rw [if_pos (by decide)]
  have t2 : own_term vs dv (2 : Int32) (4 : Int32) (7 : Int32) t = 0 := by unfold own_term; rw [if_pos (by decide)]
  have t3 : own_term vs dv (3 : Int32) (4 : Int32) (7 : Int32) t = 0 := by unfold own_term; rw [if_pos (by decide)]
  have t4 : own_term vs dv (4 : Int32) (4 : Int32) (7 : Int32) t = (own_at vs dv (4 : Int32) - (48 : Int32)) * own_W t (2 : Int32) := by unfold own_term; rw [if_neg (by decide), if_pos (by decide), (by decide : ((7 : Int32) - (1 : Int32)) - (4 : Int32) = (2 : Int32))]
  have t5 : own_term vs dv (5 : Int32) (4 : Int32) (7 : Int32) t = (own_at vs dv (5 : Int32) - (48 : Int32)) * own_W t (1 : Int32) := by unfold own_term; rw [if_neg (by decide), if_pos (by decide), (by decide : ((7 : Int32) - (1 : Int32)) - (5 : Int32) = (1 : Int32))]
  have t6 : own_term vs dv (6 : Int32) (4 : Int32) (7 : Int32) t = (own_at vs dv (6 : Int32) - (48 : Int32)) * own_W t (0 : Int32) := by unfold own_term; rw [if_neg (by decide), if_pos (by decide), (by decide : ((7 : Int32) - (1 : Int32)) - (6 : Int32) = (0 : Int32))]
  have t7 : own_term vs dv (7 : Int32) (4 : Int32) (7 : Int32) t = 0 := by unfold own_term; rw [if_neg (by decide), if_neg (by decide)]
  have n : ((7 : Int32).toInt - (4 : Int32).toInt).toNat = 3 := by decide
  have f : (7 : Int32) - (1 : Int32) = (6 : Int32) := by decide
  rw [n, f, t0, t1, t2, t3, t4, t5, t6, t7, own_start ht]
  rw [own_stp ht 2 (6 : Int32) _ (0 : Int32) (1 : Int32) (5 : Int32) (by decide) (by decide) (by decide)]
  rw [own_stp ht 1 (5 : Int32) _ (1 : Int32) (2 : Int32) (4 : Int32) (by decide) (by decide) (by decide)]
  rw [own_stp ht 0 (4 : Int32) _ (2 : Int32) (3 : Int32) (3 : Int32) (by decide) (by decide) (by decide)]
  show _ = _
  simp only [own_lp, Int32.zero_add, Int32.add_zero]
  ac_rfl
theorem own_case48 {vs : List Value} {dv : Value} {t : Int32} (ht : 2 ≤ t.toInt ∧ t.toInt ≤ 17) : own_lp vs dv t ((8 : Int32).toInt - (4 : Int32).toInt).toNat ((8 : Int32) - (1 : Int32)) (0 : Int32) (2 : Int32) = (((((((own_term vs dv (0 : Int32) (4 : Int32) (8 : Int32) t + own_term vs dv (1 : Int32) (4 : Int32) (8 : Int32) t) + own_term vs dv (2 : Int32) (4 : Int32) (8 : Int32) t) + own_term vs dv (3 : Int32) (4 : Int32) (8 : Int32) t) + own_term vs dv (4 : Int32) (4 : Int32) (8 : Int32) t) + own_term vs dv (5 : Int32) (4 : Int32) (8 : Int32) t) + own_term vs dv (6 : Int32) (4 : Int32) (8 : Int32) t) + own_term vs dv (7 : Int32) (4 : Int32) (8 : Int32) t) := by
  have t0 : own_term vs dv (0 : Int32) (4 : Int32) (8 : Int32) t = 0 := by unfold own_term; rw [if_pos (by decide)]
  have t1 : own_term vs dv (1 : Int32) (4 : Int32) (8 : Int32) t = 0 := by unfold own_term; rw [if_pos (by decide)]
  have t2 : own_term vs dv (2 : Int32) (4 : Int32) (8 : Int32) t = 0 := by unfold own_term; rw [if_pos (by decide)]
  have t3 : own_term vs dv (3 : Int32) (4 : Int32) (8 : Int32) t = 0 := by unfold own_term; rw [if_pos (by decide)]
  have t4 : own_term vs dv (4 : Int32) (4 : Int32) (8 : Int32) t = (own_at vs dv (4 : Int32) - (48 : Int32)) * own_W t (3 : Int32) := by unfold own_term; rw [if_neg (by decide), if_pos (by decide), (by decide : ((8 : Int32) - (1 : Int32)) - (4 : Int32) = (3 : Int32))]
  have t5 : own_term vs dv (5 : Int32) (4 : Int32) (8 : Int32) t = (own_at vs dv (5 : Int32) - (48 : Int32)) * own_W t (2 : Int32) := by unfold own_term; rw [if_neg (by decide), if_pos (by decide), (by decide : ((8 : Int32) - (1 : Int32)) - (5 : Int32) = (2 : Int32))]
  have t6 : own_term vs dv (6 : Int32) (4 : Int32) (8 : Int32) t = (own_at vs dv (6 : Int32) - (48 : Int32)) * own_W t (1 : Int32) := by unfold own_term; rw [if_neg (by decide), if_pos (by decide), (by decide : ((8 : Int32) - (1 : Int32)) - (6 : Int32) = (1 : Int32))]
  have t7 : own_term vs dv (7 : Int32) (4 : Int32) (8 : Int32) t = (own_at vs dv (7 : Int32) - (48 : Int32)) * own_W t (0 : Int32) := by unfold own_term; rw [if_neg (by decide), if_pos (by decide), (by decide : ((8 : Int32) - (1 : Int32)) - (7 : Int32) = (0 : Int32))]
  have n : ((8 : Int32).toInt - (4 : Int32).toInt).toNat = 4 := by decide
  have f : (8 : Int32) - (1 : Int32) = (7 : Int32) := by decide
  rw [n, f, t0, t1, t2, t3, t4, t5, t6, t7, own_start ht]
  rw [own_stp ht 3 (7 : Int32) _ (0 : Int32) (1 : Int32) (6 : Int32) (by decide) (by decide) (by decide)]
  rw [own_stp ht 2 (6 : Int32) _ (1 : Int32) (2 : Int32) (5 : Int32) (by decide) (by decide) (by decide)]
  rw [own_stp ht 1 (5 : Int32) _ (2 : Int32) (3 : Int32) (4 : Int32) (by decide) (by decide) (by decide)]
  rw [own_stp ht 0 (4 : Int32) _ (3 : Int32) (4 : Int32) (3 : Int32) (by decide) (by decide) (by decide)]
  show _ = _
  simp only [own_lp, Int32.zero_add, Int32.add_zero]
  ac_rfl
theorem own_case55 {vs : List Value} {dv : Value} {t : Int32} (ht : 2 ≤ t.toInt ∧ t.toInt ≤ 17) : own_lp vs dv t ((5 : Int32).toInt - (5 : Int32).toInt).toNat ((5 : Int32) - (1 : Int32)) (0 : Int32) (2 : Int32) = (((((((own_term vs dv (0 : Int32) (5 : Int32) (5 : Int32) t + own_term vs dv (1 : Int32) (5 : Int32) (5 : Int32) t) + own_term vs dv (2 : Int32) (5 : Int32) (5 : Int32) t) + own_term vs dv (3 : Int32) (5 : Int32) (5 : Int32) t) + own_term vs dv (4 : Int32) (5 : Int32) (5 : Int32) t) + own_term vs dv (5 : Int32) (5 : Int32) (5 : Int32) t) + own_term vs dv (6 : Int32) (5 : Int32) (5 : Int32) t) + own_term vs dv (7 : Int32) (5 : Int32) (5 : Int32) t) := by
  have t0 : own_term vs dv (0 : Int32) (5 : Int32) (5 : Int32) t = 0 := by unfold own_term; rw [if_pos (by decide)]
  have t1 : own_term vs dv (1 : Int32) (5 : Int32) (5 : Int32) t = 0 := by unfold own_term; rw [if_pos (by decide)]
  have t2 : own_term vs dv (2 : Int32) (5 : Int32) (5 : Int32) t = 0 := by unfold own_term; rw [if_pos (by decide)]
  have t3 : own_term vs dv (3 : Int32) (5 : Int32) (5 : Int32) t = 0 := by unfold own_term; rw [if_pos (by decide)]
  have t4 : own_term vs dv (4 : Int32) (5 : Int32) (5 : Int32) t = 0 := by unfold own_term; rw [if_pos (by decide)]
  have t5 : own_term vs dv (5 : Int32) (5 : Int32) (5 : Int32) t = 0 := by unfold own_term; rw [if_neg (by decide), if_neg (by decide)]
  have t6 : own_term vs dv (6 : Int32) (5 : Int32) (5 : Int32) t = 0 := by unfold own_term; rw [if_neg (by decide), if_neg (by decide)]
  have t7 : own_term vs dv (7 : Int32) (5 : Int32) (5 : Int32) t = 0 := by unfold own_term; rw [if_neg (by decide), if_neg (by decide)]
  have n : ((5 : Int32).toInt - (5 : Int32).toInt).toNat = 0 := by decide
  have f : (5 : Int32) - (1 : Int32) = (4 : Int32) := by decide
  rw [n, f, t0, t1, t2, t3, t4, t5, t6, t7, own_start ht]
  show (0 : Int32) = _
  decide
theorem own_case56 {vs : List Value} {dv : Value} {t : Int32} (ht : 2 ≤ t.toInt ∧ t.toInt ≤ 17) : own_lp vs dv t ((6 : Int32).toInt - (5 : Int32).toInt).toNat ((6 : Int32) - (1 : Int32)) (0 : Int32) (2 : Int32) = (((((((own_term vs dv (0 : Int32) (5 : Int32) (6 : Int32) t + own_term vs dv (1 : Int32) (5 : Int32) (6 : Int32) t) + own_term vs dv (2 : Int32) (5 : Int32) (6 : Int32) t) + own_term vs dv (3 : Int32) (5 : Int32) (6 : Int32) t) + own_term vs dv (4 : Int32) (5 : Int32) (6 : Int32) t) + own_term vs dv (5 : Int32) (5 : Int32) (6 : Int32) t) + own_term vs dv (6 : Int32) (5 : Int32) (6 : Int32) t) + own_term vs dv (7 : Int32) (5 : Int32) (6 : Int32) t) := by
  have t0 : own_term vs dv (0 : Int32) (5 : Int32) (6 : Int32) t = 0 := by unfold own_term; rw [if_pos (by decide)]
  have t1 : own_term vs dv (1 : Int32) (5 : Int32) (6 : Int32) t = 0 := by unfold own_term; rw [if_pos (by decide)]
  have t2 : own_term vs dv (2 : Int32) (5 : Int32) (6 : Int32) t = 0 := by unfold own_term; rw [if_pos (by decide)]
  have t3 : own_term vs dv (3 : Int32) (5 : Int32) (6 : Int32) t = 0 := by unfold own_term; rw [if_pos (by decide)]
  have t4 : own_term vs dv (4 : Int32) (5 : Int32) (6 : Int32) t = 0 := by unfold own_term; rw [if_pos (by decide)]
  have t5 : own_term vs dv (5 : Int32) (5 : Int32) (6 : Int32) t = (own_at vs dv (5 : Int32) - (48 : Int32)) * own_W t (0 : Int32) := by unfold own_term; rw [if_neg (by decide), if_pos (by decide), (by decide : ((6 : Int32) - (1 : Int32)) - (5 : Int32) = (0 : Int32))]
  have t6 : own_term vs dv (6 : Int32) (5 : Int32) (6 : Int32) t = 0 := by unfold own_term; rw [if_neg (by decide), if_neg (by decide)]
  have t7 : own_term vs dv (7 : Int32) (5 : Int32) (6 : Int32) t = 0 := by unfold own_term; rw [if_neg (by decide), if_neg (by decide)]
  have n : ((6 : Int32).toInt - (5 : Int32).toInt).toNat = 1 := by decide
  have f : (6 : Int32) - (1 : Int32) = (5 : Int32) := by decide
  rw [n, f, t0, t1, t2, t3, t4, t5, t6, t7, own_start ht]
  rw [own_stp ht 0 (5 : Int32) _ (0 : Int32) (1 : Int32) (4 : Int32) (by decide) (by decide) (by decide)]
  show _ = _
  simp only [own_lp, Int32.zero_add, Int32.add_zero]
theorem own_case57 {vs : List Value} {dv : Value} {t : Int32} (ht : 2 ≤ t.toInt ∧ t.toInt ≤ 17) : own_lp vs dv t ((7 : Int32).toInt - (5 : Int32).toInt).toNat ((7 : Int32) - (1 : Int32)) (0 : Int32) (2 : Int32) = (((((((own_term vs dv (0 : Int32) (5 : Int32) (7 : Int32) t + own_term vs dv (1 : Int32) (5 : Int32) (7 : Int32) t) + own_term vs dv (2 : Int32) (5 : Int32) (7 : Int32) t) + own_term vs dv (3 : Int32) (5 : Int32) (7 : Int32) t) + own_term vs dv (4 : Int32) (5 : Int32) (7 : Int32) t) + own_term vs dv (5 : Int32) (5 : Int32) (7 : Int32) t) + own_term vs dv (6 : Int32) (5 : Int32) (7 : Int32) t) + own_term vs dv (7 : Int32) (5 : Int32) (7 : Int32) t) := by
  have t0 : own_term vs dv (0 : Int32) (5 : Int32) (7 : Int32) t = 0 := by unfold own_term; rw [if_pos (by decide)]
  have t1 : own_term vs dv (1 : Int32) (5 : Int32) (7 : Int32) t = 0 := by unfold own_term; rw [if_pos (by decide)]
  have t2 : own_term vs dv (2 : Int32) (5 : Int32) (7 : Int32) t = 0 := by unfold own_term; rw [if_pos (by decide)]
  have t3 : own_term vs dv (3 : Int32) (5 : Int32) (7 : Int32) t = 0 := by unfold own_term; rw [if_pos (by decide)]
  have t4 : own_term vs dv (4 : Int32) (5 : Int32) (7 : Int32) t = 0 := by unfold own_term; rw [if_pos (by decide)]
  have t5 : own_term vs dv (5 : Int32) (5 : Int32) (7 : Int32) t = (own_at vs dv (5 : Int32) - (48 : Int32)) * own_W t (1 : Int32) := by unfold own_term; rw [if_neg (by decide), if_pos (by decide), (by decide : ((7 : Int32) - (1 : Int32)) - (5 : Int32) = (1 : Int32))]
  have t6 : own_term vs dv (6 : Int32) (5 : Int32) (7 : Int32) t = (own_at vs dv (6 : Int32) - (48 : Int32)) * own_W t (0 : Int32) := by unfold own_term; rw [if_neg (by decide), if_pos (by decide), (by decide : ((7 : Int32) - (1 : Int32)) - (6 : Int32) = (0 : Int32))]
  have t7 : own_term vs dv (7 : Int32) (5 : Int32) (7 : Int32) t = 0 := by unfold own_term; rw [if_neg (by decide), if_neg (by decide)]
  have n : ((7 : Int32).toInt - (5 : Int32).toInt).toNat = 2 := by decide
  have f : (7 : Int32) - (1 : Int32) = (6 : Int32) := by decide
  rw [n, f, t0, t1, t2, t3, t4, t5, t6, t7, own_start ht]
  rw [own_stp ht 1 (6 : Int32) _ (0 : Int32) (1 : Int32) (5 : Int32) (by decide) (by decide) (by decide)]
  rw [own_stp ht 0 (5 : Int32) _ (1 : Int32) (2 : Int32) (4 : Int32) (by decide) (by decide) (by decide)]
  show _ = _
  simp only [own_lp, Int32.zero_add, Int32.add_zero]
  ac_rfl
theorem own_case58 {vs : List Value} {dv : Value} {t : Int32} (ht : 2 ≤ t.toInt ∧ t.toInt ≤ 17) : own_lp vs dv t ((8 : Int32).toInt - (5 : Int32).toInt).toNat ((8 : Int32) - (1 : Int32)) (0 : Int32) (2 : Int32) = (((((((own_term vs dv (0 : Int32) (5 : Int32) (8 : Int32) t + own_term vs dv (1 : Int32) (5 : Int32) (8 : Int32) t) + own_term vs dv (2 : Int32) (5 : Int32) (8 : Int32) t) + own_term vs dv (3 : Int32) (5 : Int32) (8 : Int32) t) + own_term vs dv (4 : Int32) (5 : Int32) (8 : Int32) t) + own_term vs dv (5 : Int32) (5 : Int32) (8 : Int32) t) + own_term vs dv (6 : Int32) (5 : Int32) (8 : Int32) t) + own_term vs dv (7 : Int32) (5 : Int32) (8 : Int32) t) := by
  have t0 : own_term vs dv (0 : Int32) (5 : Int32) (8 : Int32) t = 0 := by unfold own_term; rw [if_pos (by decide)]
  have t1 : own_term vs dv (1 : Int32) (5 : Int32) (8 : Int32) t = 0 := by unfold own_term; rw [if_pos (by decide)]
  have t2 : own_term vs dv (2 : Int32) (5 : Int32) (8 : Int32) t = 0 := by unfold own_term; rw [if_pos (by decide)]
  have t3 : own_term vs dv (3 : Int32) (5 : Int32) (8 : Int32) t = 0 := by unfold own_term; rw [if_pos (by decide)]
  have t4 : own_term vs dv (4 : Int32) (5 : Int32) (8 : Int32) t = 0 := by unfold own_term; rw [if_pos (by decide)]
  have t5 : own_term vs dv (5 : Int32) (5 : Int32) (8 : Int32) t = (own_at vs dv (5 : Int32) - (48 : Int32)) * own_W t (2 : Int32) := by unfold own_term; rw [if_neg (by decide), if_pos (by decide), (by decide : ((8 : Int32) - (1 : Int32)) - (5 : Int32) = (2 : Int32))]
  have t6 : own_term vs dv (6 : Int32) (5 : Int32) (8 : Int32) t = (own_at vs dv (6 : Int32) - (48 : Int32)) * own_W t (1 : Int32) := by unfold own_term; rw [if_neg (by decide), if_pos (by decide), (by decide : ((8 : Int32) - (1 : Int32)) - (6 : Int32) = (1 : Int32))]
  have t7 : own_term vs dv (7 : Int32) (5 : Int32) (8 : Int32) t = (own_at vs dv (7 : Int32) - (48 : Int32)) * own_W t (0 : Int32) := by unfold own_term; rw [if_neg (by decide), if_pos (by decide), (by decide : ((8 : Int32) - (1 : Int32)) - (7 : Int32) = (0 : Int32))]
  have n : ((8 : Int32).toInt - (5 : Int32).toInt).toNat = 3 := by decide
  have f : (8 : Int32) - (1 : Int32) = (7 : Int32) := by decide
  rw [n, f, t0, t1, t2, t3, t4, t5, t6, t7, own_start ht]
  rw [own_stp ht 2 (7 : Int32) _ (0 : Int32) (1 : Int32) (6 : Int32) (by decide) (by decide) (by decide)]
  rw [own_stp ht 1 (6 : Int32) _ (1 : Int32) (2 : Int32) (5 : Int32) (by decide) (by decide) (by decide)]
  rw [own_stp ht 0 (5 : Int32) _ (2 : Int32) (3 : Int32) (4 : Int32) (by decide) (by decide) (by decide)]
  show _ = _
  simp only [own_lp, Int32.zero_add, Int32.add_zero]
  ac_rfl
theorem own_case66 {vs : List Value} {dv : Value} {t : Int32} (ht : 2 ≤ t.toInt ∧ t.toInt ≤ 17) : own_lp vs dv t ((6 : Int32).toInt - (6 : Int32).toInt).toNat ((6 : Int32) - (1 : Int32)) (0 : Int32) (2 : Int32) = (((((((own_term vs dv (0 : Int32) (6 : Int32) (6 : Int32) t + own_term vs dv (1 : Int32) (6 : Int32) (6 : Int32) t) + own_term vs dv (2 : Int32) (6 : Int32) (6 : Int32) t) + own_term vs dv (3 : Int32) (6 : Int32) (6 : Int32) t) + own_term vs dv (4 : Int32) (6 : Int32) (6 : Int32) t) + own_term vs dv (5 : Int32) (6 : Int32) (6 : Int32) t) + own_term vs dv (6 : Int32) (6 : Int32) (6 : Int32) t) + own_term vs dv (7 : Int32) (6 : Int32) (6 : Int32) t) := by
  have t0 : own_term vs dv (0 : Int32) (6 : Int32) (6 : Int32) t = 0 := by unfold own_term; rw [if_pos (by decide)]
  have t1 : own_term vs dv (1 : Int32) (6 : Int32) (6 : Int32) t = 0 := by unfold own_term; rw [if_pos (by decide)]
  have t2 : own_term vs dv (2 : Int32) (6 : Int32) (6 : Int32) t = 0 := by unfold own_term; rw [if_pos (by decide)]
  have t3 : own_term vs dv (3 : Int32) (6 : Int32) (6 : Int32) t = 0 := by unfold own_term; rw [if_pos (by decide)]
  have t4 : own_term vs dv (4 : Int32) (6 : Int32) (6 : Int32) t = 0 := by unfold own_term; rw [if_pos (by decide)]
  have t5 : own_term vs dv (5 : Int32) (6 : Int32) (6 : Int32) t = 0 := by unfold own_term; rw [if_pos (by decide)]
  have t6 : own_term vs dv (6 : Int32) (6 : Int32) (6 : Int32) t = 0 := by unfold own_term; rw [if_neg (by decide), if_neg (by decide)]
  have t7 : own_term vs dv (7 : Int32) (6 : Int32) (6 : Int32) t = 0 := by unfold own_term; rw [if_neg (by decide), if_neg (by decide)]
  have n : ((6 : Int32).toInt - (6 : Int32).toInt).toNat = 0 := by decide
  have f : (6 : Int32) - (1 : Int32) = (5 : Int32) := by decide
  rw [n, f, t0, t1, t2, t3, t4, t5, t6, t7, own_start ht]
  show (0 : Int32) = _
  decide
theorem own_case67 {vs : List Value} {dv : Value} {t : Int32} (ht : 2 ≤ t.toInt ∧ t.toInt ≤ 17) : own_lp vs dv t ((7 : Int32).toInt - (6 : Int32).toInt).toNat ((7 : Int32) - (1 : Int32)) (0 : Int32) (2 : Int32) = (((((((own_term vs dv (0 : Int32) (6 : Int32) (7 : Int32) t + own_term vs dv (1 : Int32) (6 : Int32) (7 : Int32) t) + own_term vs dv (2 : Int32) (6 : Int32) (7 : Int32) t) + own_term vs dv (3 : Int32) (6 : Int32) (7 : Int32) t) + own_term vs dv (4 : Int32) (6 : Int32) (7 : Int32) t) + own_term vs dv (5 : Int32) (6 : Int32) (7 : Int32) t) + own_term vs dv (6 : Int32) (6 : Int32) (7 : Int32) t) + own_term vs dv (7 : Int32) (6 : Int32) (7 : Int32) t) := by
  have t0 : own_term vs dv (0 : Int32) (6 : Int32) (7 : Int32) t = 0 := by unfold own_term; rw [if_pos (by decide)]
  have t1 : own_term vs dv (1 : Int32) (6 : Int32) (7 : Int32) t = 0 := by unfold own_term; rw [if_pos (by decide)]
  have t2 : own_term vs dv (2 : Int32) (6 : Int32) (7 : Int32) t = 0 := by unfold own_term; rw [if_pos (by decide)]
  have t3 : own_term vs dv (3 : Int32) (6 : Int32) (7 : Int32) t = 0 := by unfold own_term; rw [if_pos (by decide)]
  have t4 : own_term vs dv (4 : Int32) (6 : Int32) (7 : Int32) t = 0 := by unfold own_term; rw [if_pos (by decide)]
  have t5 : own_term vs dv (5 : Int32) (6 : Int32) (7 : Int32) t = 0 := by unfold own_term; rw [if_pos (by decide)]
  have t6 : own_term vs dv (6 : Int32) (6 : Int32) (7 : Int32) t = (own_at vs dv (6 : Int32) - (48 : Int32)) * own_W t (0 : Int32) := by unfold own_term; rw [if_neg (by decide), if_pos (by decide), (by decide : ((7 : Int32) - (1 : Int32)) - (6 : Int32) = (0 : Int32))]
  have t7 : own_term vs dv (7 : Int32) (6 : Int32) (7 : Int32) t = 0 := by unfold own_term; rw [if_neg (by decide), if_neg (by decide)]
  have n : ((7 : Int32).toInt - (6 : Int32).toInt).toNat = 1 := by decide
  have f : (7 : Int32) - (1 : Int32) = (6 : Int32) := by decide
  rw [n, f, t0, t1, t2, t3, t4, t5, t6, t7, own_start ht]
  rw [own_stp ht 0 (6 : Int32) _ (0 : Int32) (1 : Int32) (5 : Int32) (by decide) (by decide) (by decide)]
  show _ = _
  simp only [own_lp, Int32.zero_add, Int32.add_zero]
theorem own_case68 {vs : List Value} {dv : Value} {t : Int32} (ht : 2 ≤ t.toInt ∧ t.toInt ≤ 17) : own_lp vs dv t ((8 : Int32).toInt - (6 : Int32).toInt).toNat ((8 : Int32) - (1 : Int32)) (0 : Int32) (2 : Int32) = (((((((own_term vs dv (0 : Int32) (6 : Int32) (8 : Int32) t + own_term vs dv (1 : Int32) (6 : Int32) (8 : Int32) t) + own_term vs dv (2 : Int32) (6 : Int32) (8 : Int32) t) + own_term vs dv (3 : Int32) (6 : Int32) (8 : Int32) t) + own_term vs dv (4 : Int32) (6 : Int32) (8 : Int32) t) + own_term vs dv (5 : Int32) (6 : Int32) (8 : Int32) t) + own_term vs dv (6 : Int32) (6 : Int32) (8 : Int32) t) + own_term vs dv (7 : Int32) (6 : Int32) (8 : Int32) t) := by
  have t0 : own_term vs dv (0 : Int32) (6 : Int32) (8 : Int32) t = 0 := by unfold own_term; rw [if_pos (by decide)]
  have t1 : own_term vs dv (1 : Int32) (6 : Int32) (8 : Int32) t = 0 := by unfold own_term; rw [if_pos (by decide)]
  have t2 : own_term vs dv (2 : Int32) (6 : Int32) (8 : Int32) t = 0 := by unfold own_term; rw [if_pos (by decide)]
  have t3 : own_term vs dv (3 : Int32) (6 : Int32) (8 : Int32) t = 0 := by unfold own_term; rw [if_pos (by decide)]
  have t4 : own_term vs dv (4 : Int32) (6 : Int32) (8 : Int32) t = 0 := by unfold own_term; rw [if_pos (by decide)]
  have t5 : own_term vs dv (5 : Int32) (6 : Int32) (8 : Int32) t = 0 := by unfold own_term; rw [if_pos (by decide)]
  have t6 : own_term vs dv (6 : Int32) (6 : Int32) (8 : Int32) t = (own_at vs dv (6 : Int32) - (48 : Int32)) * own_W t (1 : Int32) := by unfold own_term; rw [if_neg (by decide), if_pos (by decide), (by decide : ((8 : Int32) - (1 : Int32)) - (6 : Int32) = (1 : Int32))]
  have t7 : own_term vs dv (7 : Int32) (6 : Int32) (8 : Int32) t = (own_at vs dv (7 : Int32) - (48 : Int32)) * own_W t (0 : Int32) := by unfold own_term; rw [if_neg (by decide), if_pos (by decide), (by decide : ((8 : Int32) - (1 : Int32)) - (7 : Int32) = (0 : Int32))]
  have n : ((8 : Int32).toInt - (6 : Int32).toInt).toNat = 2 := by decide
  have f : (8 : Int32) - (1 : Int32) = (7 : Int32) := by decide
  rw [n, f, t0, t1, t2, t3, t4, t5, t6, t7, own_start ht]
  rw [own_stp ht 1 (7 : Int32) _ (0 : Int32) (1 : Int32) (6 : Int32) (by decide) (by decide) (by decide)]
  rw [own_stp ht 0 (6 : Int32) _ (1 : Int32) (2 : Int32) (5 : Int32) (by decide) (by decide) (by decide)]
  show _ = _
  simp only [own_lp, Int32.zero_add, Int32.add_zero]
  ac_rfl
theorem own_case77 {vs : List Value} {dv : Value} {t : Int32} (ht : 2 ≤ t.toInt ∧ t.toInt ≤ 17) : own_lp vs dv t ((7 : Int32).toInt - (7 : Int32).toInt).toNat ((7 : Int32) - (1 : Int32)) (0 : Int32) (2 : Int32) = (((((((own_term vs dv (0 : Int32) (7 : Int32) (7 : Int32) t + own_term vs dv (1 : Int32) (7 : Int32) (7 : Int32) t) + own_term vs dv (2 : Int32) (7 : Int32) (7 : Int32) t) + own_term vs dv (3 : Int32) (7 : Int32) (7 : Int32) t) + own_term vs dv (4 : Int32) (7 : Int32) (7 : Int32) t) + own_term vs dv (5 : Int32) (7 : Int32) (7 : Int32) t) + own_term vs dv (6 : Int32) (7 : Int32) (7 : Int32) t) + own_term vs dv (7 : Int32) (7 : Int32) (7 : Int32) t) := by
  have t0 : own_term vs dv (0 : Int32) (7 : Int32) (7 : Int32) t = 0 := by unfold own_term; rw [if_pos (by decide)]
  have t1 : own_term vs dv (1 : Int32) (7 : Int32) (7 : Int32) t = 0 := by unfold own_term; rw [if_pos (by decide)]
  have t2 : own_term vs dv (2 : Int32) (7 : Int32) (7 : Int32) t = 0 := by unfold own_term; rw [if_pos (by decide)]
  have t3 : own_term vs dv (3 : Int32) (7 : Int32) (7 : Int32) t = 0 := by unfold own_term; rw [if_pos (by decide)]
  have t4 : own_term vs dv (4 : Int32) (7 : Int32) (7 : Int32) t = 0 := by unfold own_term; rw [if_pos (by decide)]
  have t5 : own_term vs dv (5 : Int32) (7 : Int32) (7 : Int32) t = 0 := by unfold own_term; rw [if_pos (by decide)]
  have t6 : own_term vs dv (6 : Int32) (7 : Int32) (7 : Int32) t = 0 := by unfold own_term; rw [if_pos (by decide)]
  have t7 : own_term vs dv (7 : Int32) (7 : Int32) (7 : Int32) t = 0 := by unfold own_term; rw [if_neg (by decide), if_neg (by decide)]
  have n : ((7 : Int32).toInt - (7 : Int32).toInt).toNat = 0 := by decide
  have f : (7 : Int32) - (1 : Int32) = (6 : Int32) := by decide
  rw [n, f, t0, t1, t2, t3, t4, t5, t6, t7, own_start ht]
  show (0 : Int32) = _
  decide
theorem own_case78 {vs : List Value} {dv : Value} {t : Int32} (ht : 2 ≤ t.toInt ∧ t.toInt ≤ 17) : own_lp vs dv t ((8 : Int32).toInt - (7 : Int32).toInt).toNat ((8 : Int32) - (1 : Int32)) (0 : Int32) (2 : Int32) = (((((((own_term vs dv (0 : Int32) (7 : Int32) (8 : Int32) t + own_term vs dv (1 : Int32) (7 : Int32) (8 : Int32) t) + own_term vs dv (2 : Int32) (7 : Int32) (8 : Int32) t) + own_term vs dv (3 : Int32) (7 : Int32) (8 : Int32) t) + own_term vs dv (4 : Int32) (7 : Int32) (8 : Int32) t) + own_term vs dv (5 : Int32) (7 : Int32) (8 : Int32) t) + own_term vs dv (6 : Int32) (7 : Int32) (8 : Int32) t) + own_term vs dv (7 : Int32) (7 : Int32) (8 : Int32) t) := by
  have t0 : own_term vs dv (0 : Int32) (7 : Int32) (8 : Int32) t = 0 := by unfold own_term; rw [if_pos (by decide)]
  have t1 : own_term vs dv (1 : Int32) (7 : Int32) (8 : Int32) t = 0 := by unfold own_term; rw [if_pos (by decide)]
  have t2 : own_term vs dv (2 : Int32) (7 : Int32) (8 : Int32) t = 0 := by unfold own_term; rw [if_pos (by decide)]
  have t3 : own_term vs dv (3 : Int32) (7 : Int32) (8 : Int32) t = 0 := by unfold own_term; rw [if_pos (by decide)]
  have t4 : own_term vs dv (4 : Int32) (7 : Int32) (8 : Int32) t = 0 := by unfold own_term; rw [if_pos (by decide)]
  have t5 : own_term vs dv (5 : Int32) (7 : Int32) (8 : Int32) t = 0 := by unfold own_term; rw [if_pos (by decide)]
  have t6 : own_term vs dv (6 : Int32) (7 : Int32) (8 : Int32) t = 0 := by unfold own_term; rw [if_pos (by decide)]
  have t7 : own_term vs dv (7 : Int32) (7 : Int32) (8 : Int32) t = (own_at vs dv (7 : Int32) - (48 : Int32)) * own_W t (0 : Int32) := by unfold own_term; rw [if_neg (by decide), if_pos (by decide), (by decide : ((8 : Int32) - (1 : Int32)) - (7 : Int32) = (0 : Int32))]
  have n : ((8 : Int32).toInt - (7 : Int32).toInt).toNat = 1 := by decide
  have f : (8 : Int32) - (1 : Int32) = (7 : Int32) := by decide
  rw [n, f, t0, t1, t2, t3, t4, t5, t6, t7, own_start ht]
  rw [own_stp ht 0 (7 : Int32) _ (0 : Int32) (1 : Int32) (6 : Int32) (by decide) (by decide) (by decide)]
  show _ = _
  simp only [own_lp, Int32.zero_add, Int32.add_zero]
theorem own_case88 {vs : List Value} {dv : Value} {t : Int32} (ht : 2 ≤ t.toInt ∧ t.toInt ≤ 17) : own_lp vs dv t ((8 : Int32).toInt - (8 : Int32).toInt).toNat ((8 : Int32) - (1 : Int32)) (0 : Int32) (2 : Int32) = (((((((own_term vs dv (0 : Int32) (8 : Int32) (8 : Int32) t + own_term vs dv (1 : Int32) (8 : Int32) (8 : Int32) t) + own_term vs dv (2 : Int32) (8 : Int32) (8 : Int32) t) + own_term vs dv (3 : Int32) (8 : Int32) (8 : Int32) t) + own_term vs dv (4 : Int32) (8 : Int32) (8 : Int32) t) + own_term vs dv (5 : Int32) (8 : Int32) (8 : Int32) t) + own_term vs dv (6 : Int32) (8 : Int32) (8 : Int32) t) + own_term vs dv (7 : Int32) (8 : Int32) (8 : Int32) t) := by
  have t0 : own_term vs dv (0 : Int32) (8 : Int32) (8 : Int32) t = 0 := by unfold own_term; rw [if_pos (by decide)]
  have t1 : own_term vs dv (1 : Int32) (8 : Int32) (8 : Int32) t = 0 := by unfold own_term; rw [if_pos (by decide)]
  have t2 : own_term vs dv (2 : Int32) (8 : Int32) (8 : Int32) t = 0 := by unfold own_term; rw [if_pos (by decide)]
  have t3 : own_term vs dv (3 : Int32) (8 : Int32) (8 : Int32) t = 0 := by unfold own_term; rw [if_pos (by decide)]
  have t4 : own_term vs dv (4 : Int32) (8 : Int32) (8 : Int32) t = 0 := by unfold own_term; rw [if_pos (by decide)]
  have t5 : own_term vs dv (5 : Int32) (8 : Int32) (8 : Int32) t = 0 := by unfold own_term; rw [if_pos (by decide)]
  have t6 : own_term vs dv (6 : Int32) (8 : Int32) (8 : Int32) t = 0 := by unfold own_term; rw [if_pos (by decide)]
  have t7 : own_term vs dv (7 : Int32) (8 : Int32) (8 : Int32) t = 0 := by unfold own_term; rw [if_pos (by decide)]
  have n : ((8 : Int32).toInt - (8 : Int32).toInt).toNat = 0 := by decide
  have f : (8 : Int32) - (1 : Int32) = (7 : Int32) := by decide
  rw [n, f, t0, t1, t2, t3, t4, t5, t6, t7, own_start ht]
  show (0 : Int32) = _
  decide
theorem own_lit {s : Int32} {k : Int} (h : s.toInt = k) (c : Int32) (hc : c.toInt = k) : s = c := Int32.toInt_inj.mp (by rw [h, hc])
theorem own_nine {s : Int32} (h : 0 ≤ s.toInt ∧ s.toInt ≤ 8) : s = 0 ∨ s = 1 ∨ s = 2 ∨ s = 3 ∨ s = 4 ∨ s = 5 ∨ s = 6 ∨ s = 7 ∨ s = 8 := by
  have : s.toInt = 0 ∨ s.toInt = 1 ∨ s.toInt = 2 ∨ s.toInt = 3 ∨ s.toInt = 4 ∨ s.toInt = 5 ∨ s.toInt = 6 ∨ s.toInt = 7 ∨ s.toInt = 8 := by omega
  rcases this with h | h | h | h | h | h | h | h | h
  · exact Or.inl (own_lit h 0 (by decide))
  · exact Or.inr (Or.inl (own_lit h 1 (by decide)))
  · exact Or.inr (Or.inr (Or.inl (own_lit h 2 (by decide))))
  · exact Or.inr (Or.inr (Or.inr (Or.inl (own_lit h 3 (by decide)))))
  · exact Or.inr (Or.inr (Or.inr (Or.inr (Or.inl (own_lit h 4 (by decide))))))
  · exact Or.inr (Or.inr (Or.inr (Or.inr (Or.inr (Or.inl (own_lit h 5 (by decide)))))))
  · exact Or.inr (Or.inr (Or.inr (Or.inr (Or.inr (Or.inr (Or.inl (own_lit h 6 (by decide))))))))
  · exact Or.inr (Or.inr (Or.inr (Or.inr (Or.inr (Or.inr (Or.inr (Or.inl (own_lit h 7 (by decide)))))))))
  · exact Or.inr (Or.inr (Or.inr (Or.inr (Or.inr (Or.inr (Or.inr (Or.inr ((own_lit h 8 (by decide))))))))))
theorem own_sum {vs : List Value} {dv : Value} {t s e : Int32} (ht : 2 ≤ t.toInt ∧ t.toInt ≤ 17) (hse : 0 ≤ s.toInt ∧ s.toInt ≤ e.toInt ∧ e.toInt ≤ 8) : own_lp vs dv t (e.toInt - s.toInt).toNat (e - (1 : Int32)) (0 : Int32) (2 : Int32) = (((((((own_term vs dv (0 : Int32) s e t + own_term vs dv (1 : Int32) s e t) + own_term vs dv (2 : Int32) s e t) + own_term vs dv (3 : Int32) s e t) + own_term vs dv (4 : Int32) s e t) + own_term vs dv (5 : Int32) s e t) + own_term vs dv (6 : Int32) s e t) + own_term vs dv (7 : Int32) s e t) := by
  have hs := own_nine (s := s) (by omega)
  have he := own_nine (s := e) (by omega)
  obtain ⟨-, h, -⟩ := hse
  rcases hs with rfl | rfl | rfl | rfl | rfl | rfl | rfl | rfl | rfl
  · rcases he with rfl | rfl | rfl | rfl | rfl | rfl | rfl | rfl | rfl
    · exact own_case00 ht
    · exact own_case01 ht
    · exact own_case02 ht
    · exact own_case03 ht
    · exact own_case04 ht
    · exact own_case05 ht
    · exact own_case06 ht
    · exact own_case07 ht
    · exact own_case08 ht
  · rcases he with rfl | rfl | rfl | rfl | rfl | rfl | rfl | rfl | rfl
    · exact absurd h (by decide)
    · exact own_case11 ht
    · exact own_case12 ht
    · exact own_case13 ht
    · exact own_case14 ht
    · exact own_case15 ht
    · exact own_case16 ht
    · exact own_case17 ht
    · exact own_case18 ht
  · rcases he with rfl | rfl | rfl | rfl | rfl | rfl | rfl | rfl | rfl
    · exact absurd h (by decide)
    · exact absurd h (by decide)
    · exact own_case22 ht
    · exact own_case23 ht
    · exact own_case24 ht
    · exact own_case25 ht
    · exact own_case26 ht
    · exact own_case27 ht
    · exact own_case28 ht
  · rcases he with rfl | rfl | rfl | rfl | rfl | rfl | rfl | rfl | rfl
    · exact absurd h (by decide)
    · exact absurd h (by decide)
    · exact absurd h (by decide)
    · exact own_case33 ht
    · exact own_case34 ht
    · exact own_case35 ht
    · exact own_case36 ht
    · exact own_case37 ht
    · exact own_case38 ht
  · rcases he with rfl | rfl | rfl | rfl | rfl | rfl | rfl | rfl | rfl
    · exact absurd h (by decide)
    · exact absurd h (by decide)
    · exact absurd h (by decide)
    · exact absurd h (by decide)
    · exact own_case44 ht
    · exact own_case45 ht
    · exact own_case46 ht
    · exact own_case47 ht
    · exact own_case48 ht
  · rcases he with rfl | rfl | rfl | rfl | rfl | rfl | rfl | rfl | rfl
    · exact absurd h (by decide)
    · exact absurd h (by decide)
    · exact absurd h (by decide)
    · exact absurd h (by decide)
    · exact absurd h (by decide)
    · exact own_case55 ht
    · exact own_case56 ht
    · exact own_case57 ht
    · exact own_case58 ht
  · rcases he with rfl | rfl | rfl | rfl | rfl | rfl | rfl | rfl | rfl
    · exact absurd h (by decide)
    · exact absurd h (by decide)
    · exact absurd h (by decide)
    · exact absurd h (by decide)
    · exact absurd h (by decide)
    · exact absurd h (by decide)
    · exact own_case66 ht
    · exact own_case67 ht
    · exact own_case68 ht
  · rcases he with rfl | rfl | rfl | rfl | rfl | rfl | rfl | rfl | rfl
    · exact absurd h (by decide)
    · exact absurd h (by decide)
    · exact absurd h (by decide)
    · exact absurd h (by decide)
    · exact absurd h (by decide)
    · exact absurd h (by decide)
    · exact absurd h (by decide)
    · exact own_case77 ht
    · exact own_case78 ht
  · rcases he with rfl | rfl | rfl | rfl | rfl | rfl | rfl | rfl | rfl
    · exact absurd h (by decide)
    · exact absurd h (by decide)
    · exact absurd h (by decide)
    · exact absurd h (by decide)
    · exact absurd h (by decide)
    · exact absurd h (by decide)
    · exact absurd h (by decide)
    · exact absurd h (by decide)
    · exact own_case88 ht
theorem own_mulb {x y : Int32} (hx : 0 ≤ x.toInt ∧ x.toInt ≤ 42) (hy : 0 ≤ y.toInt ∧ y.toInt ≤ 17) : 0 ≤ (x * y).toInt ∧ (x * y).toInt ≤ 714 := by
  have h := c_imul x y; have r := rng32 (x * y)
  have p1 : 0 ≤ x.toInt * y.toInt := Int.mul_nonneg hx.1 hy.1
  have p2 : x.toInt * y.toInt ≤ 42 * 17 := Int.mul_le_mul hx.2 hy.2 hy.1 (by decide)
  generalize x.toInt * y.toInt = q at *
  omega
theorem own_tb2 {vs : List Value} {dv : Value} {t i s e : Int32} (ht : 2 ≤ t.toInt ∧ t.toInt ≤ 17) (hb : 0 ≤ (own_at vs dv i - (48 : Int32)).toInt ∧ (own_at vs dv i - (48 : Int32)).toInt ≤ 42) (hi : 0 ≤ i.toInt) (he : 0 ≤ e.toInt ∧ e.toInt ≤ 8) : 0 ≤ (own_term vs dv i s e t).toInt ∧ (own_term vs dv i s e t).toInt ≤ 714 := by
  have k : (0 : Int32).toInt = 0 := by decide
  unfold own_term
  split
  · omega
  · split
    · rename_i _ q
      rw [Int32.lt_iff_toInt_lt] at q
      have e1 := own_e1 e he.1
      have h2 := c_isub (e - 1) i; have r2 := rng32 ((e - 1) - i)
      have e2 : ((e - 1) - i).toInt = e.toInt - 1 - i.toInt := by omega
      obtain ⟨w, p1, p2⟩ := own_We ht (k := (e - 1) - i) (by omega)
      exact own_mulb hb (by
        show 0 ≤ (own_W t ((e - 1) - i)).toInt ∧ (own_W t ((e - 1) - i)).toInt ≤ 17
        omega)
    · omega
theorem own_vb (q : Int64) (sf : Int32) : 0 ≤ (nar .byte (own_ch q sf) - (48 : Int32)).toInt ∧ (nar .byte (own_ch q sf) - (48 : Int32)).toInt ≤ 42 := by
  have key : ∀ v : Int32, 48 ≤ v.toInt ∧ v.toInt ≤ 90 → nar .byte (v.toInt8.toInt32) = v := by
    intro v hv
    show v.toInt8.toInt32.toInt8.toInt32 = v
    rw [Int8.toInt8_toInt32]
    apply Int32.toInt_inj.mp
    have h2 := c_i2b v
    omega
  have key2 : ∀ v : Int32, 48 ≤ v.toInt ∧ v.toInt ≤ 90 → nar .byte v = v := by
    intro v hv
    show v.toInt8.toInt32 = v
    apply Int32.toInt_inj.mp
    have h2 := c_i2b v
    omega
  have k48 : (48 : Int32).toInt = 48 := by decide
  have k65 : (65 : Int32).toInt = 65 := by decide
  have k10 : (10 : Int32).toInt = 10 := by decide
  have hv : 0 ≤ (own_v q sf).toInt ∧ (own_v q sf).toInt ≤ 35 := by
    unfold own_v
    generalize ((q.toUInt64 >>> (sf &&& 0x3f).toInt64.toUInt64).toInt64) = u
    have h1 := c_maskL u 63 6 (by decide) (by decide)
    have h2 := c_l2i (u &&& 63); have r := rng32 (u &&& 63).toInt32
    have h3 := (c_irem (u &&& 63).toInt32 36 36 (by decide)).1 (by omega)
    omega
  have hc : 48 ≤ (own_ch q sf).toInt ∧ (own_ch q sf).toInt ≤ 90 := by
    unfold own_ch
    generalize own_v q sf = v at *
    split
    · rename_i z; rw [Int32.lt_iff_toInt_lt] at z
      have h1 := c_iadd 48 v; have r1 := rng32 (48 + v)
      rw [key (48 + v) (by omega)]; omega
    · rename_i z; rw [Int32.lt_iff_toInt_lt] at z
      have h1 := c_isub v 10; have r1 := rng32 (v - 10)
      have e1 : (v - 10).toInt = v.toInt - 10 := by omega
      have h2 := c_iadd 65 (v - 10); have r2 := rng32 (65 + (v - 10))
      rw [key (65 + (v - 10)) (by omega)]; omega
  rw [key2 _ hc]
  have h := c_isub (own_ch q sf) 48; have r := rng32 (own_ch q sf - 48)
  omega
theorem own_ab0 {q : Int64} {vs : List Value} (hvs : vs = [(.int (nar .byte (own_ch q (0 : Int32)))), (.int (nar .byte (own_ch q (6 : Int32)))), (.int (nar .byte (own_ch q (12 : Int32)))), (.int (nar .byte (own_ch q (18 : Int32)))), (.int (nar .byte (own_ch q (24 : Int32)))), (.int (nar .byte (own_ch q (30 : Int32)))), (.int (nar .byte (own_ch q (36 : Int32)))), (.int (nar .byte (own_ch q (42 : Int32))))]) : 0 ≤ (own_at vs (.int (0 : Int32)) (0 : Int32) - (48 : Int32)).toInt ∧ (own_at vs (.int (0 : Int32)) (0 : Int32) - (48 : Int32)).toInt ≤ 42 := by
  subst hvs; exact own_vb q (0 : Int32)
theorem own_ab1 {q : Int64} {vs : List Value} (hvs : vs = [(.int (nar .byte (own_ch q (0 : Int32)))), (.int (nar .byte (own_ch q (6 : Int32)))), (.int (nar .byte (own_ch q (12 : Int32)))), (.int (nar .byte (own_ch q (18 : Int32)))), (.int (nar .byte (own_ch q (24 : Int32)))), (.int (nar .byte (own_ch q (30 : Int32)))), (.int (nar .byte (own_ch q (36 : Int32)))), (.int (nar .byte (own_ch q (42 : Int32))))]) : 0 ≤ (own_at vs (.int (0 : Int32)) (1 : Int32) - (48 : Int32)).toInt ∧ (own_at vs (.int (0 : Int32)) (1 : Int32) - (48 : Int32)).toInt ≤ 42 := by
  subst hvs; exact own_vb q (6 : Int32)
theorem own_ab2 {q : Int64} {vs : List Value} (hvs : vs = [(.int (nar .byte (own_ch q (0 : Int32)))), (.int (nar .byte (own_ch q (6 : Int32)))), (.int (nar .byte (own_ch q (12 : Int32)))), (.int (nar .byte (own_ch q (18 : Int32)))), (.int (nar .byte (own_ch q (24 : Int32)))), (.int (nar .byte (own_ch q (30 : Int32)))), (.int (nar .byte (own_ch q (36 : Int32)))), (.int (nar .byte (own_ch q (42 : Int32))))]) : 0 ≤ (own_at vs (.int (0 : Int32)) (2 : Int32) - (48 : Int32)).toInt ∧ (own_at vs (.int (0 : Int32)) (2 : Int32) - (48 : Int32)).toInt ≤ 42 := by
  subst hvs; exact own_vb q (12 : Int32)
theorem own_ab3 {q : Int64} {vs : List Value} (hvs : vs = [(.int (nar .byte (own_ch q (0 : Int32)))), (.int (nar .byte (own_ch q (6 : Int32)))), (.int (nar .byte (own_ch q (12 : Int32)))), (.int (nar .byte (own_ch q (18 : Int32)))), (.int (nar .byte (own_ch q (24 : Int32)))), (.int (nar .byte (own_ch q (30 : Int32)))), (.int (nar .byte (own_ch q (36 : Int32)))), (.int (nar .byte (own_ch q (42 : Int32))))]) : 0 ≤ (own_at vs (.int (0 : Int32)) (3 : Int32) - (48 : Int32)).toInt ∧ (own_at vs (.int (0 : Int32)) (3 : Int32) - (48 : Int32)).toInt ≤ 42 := by
  subst hvs; exact own_vb q (18 : Int32)
theorem own_ab4 {q : Int64} {vs : List Value} (hvs : vs = [(.int (nar .byte (own_ch q (0 : Int32)))), (.int (nar .byte (own_ch q (6 : Int32)))), (.int (nar .byte (own_ch q (12 : Int32)))), (.int (nar .byte (own_ch q (18 : Int32)))), (.int (nar .byte (own_ch q (24 : Int32)))), (.int (nar .byte (own_ch q (30 : Int32)))), (.int (nar .byte (own_ch q (36 : Int32)))), (.int (nar .byte (own_ch q (42 : Int32))))]) : 0 ≤ (own_at vs (.int (0 : Int32)) (4 : Int32) - (48 : Int32)).toInt ∧ (own_at vs (.int (0 : Int32)) (4 : Int32) - (48 : Int32)).toInt ≤ 42 := by
  subst hvs; exact own_vb q (24 : Int32)
theorem own_ab5 {q : Int64} {vs : List Value} (hvs : vs = [(.int (nar .byte (own_ch q (0 : Int32)))), (.int (nar .byte (own_ch q (6 : Int32)))), (.int (nar .byte (own_ch q (12 : Int32)))), (.int (nar .byte (own_ch q (18 : Int32)))), (.int (nar .byte (own_ch q (24 : Int32)))), (.int (nar .byte (own_ch q (30 : Int32)))), (.int (nar .byte (own_ch q (36 : Int32)))), (.int (nar .byte (own_ch q (42 : Int32))))]) : 0 ≤ (own_at vs (.int (0 : Int32)) (5 : Int32) - (48 : Int32)).toInt ∧ (own_at vs (.int (0 : Int32)) (5 : Int32) - (48 : Int32)).toInt ≤ 42 := by
  subst hvs; exact own_vb q (30 : Int32)
theorem own_ab6 {q : Int64} {vs : List Value} (hvs : vs = [(.int (nar .byte (own_ch q (0 : Int32)))), (.int (nar .byte (own_ch q (6 : Int32)))), (.int (nar .byte (own_ch q (12 : Int32)))), (.int (nar .byte (own_ch q (18 : Int32)))), (.int (nar .byte (own_ch q (24 : Int32)))), (.int (nar .byte (own_ch q (30 : Int32)))), (.int (nar .byte (own_ch q (36 : Int32)))), (.int (nar .byte (own_ch q (42 : Int32))))]) : 0 ≤ (own_at vs (.int (0 : Int32)) (6 : Int32) - (48 : Int32)).toInt ∧ (own_at vs (.int (0 : Int32)) (6 : Int32) - (48 : Int32)).toInt ≤ 42 := by
  subst hvs; exact own_vb q (36 : Int32)
theorem own_ab7 {q : Int64} {vs : List Value} (hvs : vs = [(.int (nar .byte (own_ch q (0 : Int32)))), (.int (nar .byte (own_ch q (6 : Int32)))), (.int (nar .byte (own_ch q (12 : Int32)))), (.int (nar .byte (own_ch q (18 : Int32)))), (.int (nar .byte (own_ch q (24 : Int32)))), (.int (nar .byte (own_ch q (30 : Int32)))), (.int (nar .byte (own_ch q (36 : Int32)))), (.int (nar .byte (own_ch q (42 : Int32))))]) : 0 ≤ (own_at vs (.int (0 : Int32)) (7 : Int32) - (48 : Int32)).toInt ∧ (own_at vs (.int (0 : Int32)) (7 : Int32) - (48 : Int32)).toInt ≤ 42 := by
  subst hvs; exact own_vb q (42 : Int32)
theorem own_add7 {x y : Int32} {k : Int} (hk : 0 ≤ k ∧ k ≤ 10000) (hx : 0 ≤ x.toInt ∧ x.toInt ≤ k) (hy : 0 ≤ y.toInt ∧ y.toInt ≤ 714) : 0 ≤ (x + y).toInt ∧ (x + y).toInt ≤ k + 714 := by
  have h := c_iadd x y; have r := rng32 (x + y); omega
theorem own_Sb {q : Int64} {vs : List Value} {s e t : Int32} (hvs : vs = [(.int (nar .byte (own_ch q (0 : Int32)))), (.int (nar .byte (own_ch q (6 : Int32)))), (.int (nar .byte (own_ch q (12 : Int32)))), (.int (nar .byte (own_ch q (18 : Int32)))), (.int (nar .byte (own_ch q (24 : Int32)))), (.int (nar .byte (own_ch q (30 : Int32)))), (.int (nar .byte (own_ch q (36 : Int32)))), (.int (nar .byte (own_ch q (42 : Int32))))]) (hse : 0 ≤ s.toInt ∧ s.toInt ≤ e.toInt ∧ e.toInt ≤ 8) (ht : 2 ≤ t.toInt ∧ t.toInt ≤ 17) : 0 ≤ (((((((own_term vs (.int (0 : Int32)) (0 : Int32) s e t + own_term vs (.int (0 : Int32)) (1 : Int32) s e t) + own_term vs (.int (0 : Int32)) (2 : Int32) s e t) + own_term vs (.int (0 : Int32)) (3 : Int32) s e t) + own_term vs (.int (0 : Int32)) (4 : Int32) s e t) + own_term vs (.int (0 : Int32)) (5 : Int32) s e t) + own_term vs (.int (0 : Int32)) (6 : Int32) s e t) + own_term vs (.int (0 : Int32)) (7 : Int32) s e t).toInt ∧ (((((((own_term vs (.int (0 : Int32)) (0 : Int32) s e t + own_term vs (.int (0 : Int32)) (1 : Int32) s e t) + own_term vs (.int (0 : Int32)) (2 : Int32) s e t) + own_term vs (.int (0 : Int32)) (3 : Int32) s e t) + own_term vs (.int (0 : Int32)) (4 : Int32) s e t) + own_term vs (.int (0 : Int32)) (5 : Int32) s e t) + own_term vs (.int (0 : Int32)) (6 : Int32) s e t) + own_term vs (.int (0 : Int32)) (7 : Int32) s e t).toInt ≤ 5712 :=
  (own_add7 (k := 4998) (by decide) (own_add7 (k := 4284) (by decide) (own_add7 (k := 3570) (by decide) (own_add7 (k := 2856) (by decide) (own_add7 (k := 2142) (by decide) (own_add7 (k := 1428) (by decide) (own_add7 (k := 714) (by decide) (own_tb2 ht (own_ab0 hvs) (by decide) (by omega)) (own_tb2 ht (own_ab1 hvs) (by decide) (by omega))) (own_tb2 ht (own_ab2 hvs) (by decide) (by omega))) (own_tb2 ht (own_ab3 hvs) (by decide) (by omega))) (own_tb2 ht (own_ab4 hvs) (by decide) (by omega))) (own_tb2 ht (own_ab5 hvs) (by decide) (by omega))) (own_tb2 ht (own_ab6 hvs) (by decide) (by omega))) (own_tb2 ht (own_ab7 hvs) (by decide) (by omega)))
theorem own_fin {S : Int32} (b : 0 ≤ S.toInt ∧ S.toInt ≤ 5712) : (if (9 : Int32) < (11 : Int32) - S % (11 : Int32) then (0 : Int32) else (11 : Int32) - S % (11 : Int32)) = (if ((10 : Int32) * S) % (11 : Int32) = (10 : Int32) then (0 : Int32) else ((10 : Int32) * S) % (11 : Int32)) := by
  have q := (c_irem S 11 11 (by decide)).1 b.1
  have k10 : (10 : Int32).toInt = 10 := by decide
  have k11 : (11 : Int32).toInt = 11 := by decide
  have k9 : (9 : Int32).toInt = 9 := by decide
  have k0 : (0 : Int32).toInt = 0 := by decide
  have h := c_isub 11 (S % 11); have r := rng32 (11 - S % 11)
  have e : (11 - S % 11).toInt = 11 - S.toInt % 11 := by omega
  have m := c_imul 10 S; rw [k10] at m
  have rm := rng32 (10 * S)
  have em : (10 * S).toInt = 10 * S.toInt := by omega
  have q2 := (c_irem (10 * S) 11 11 (by decide)).1 (by omega)
  rw [em] at q2
  split
  · rename_i z; rw [Int32.lt_iff_toInt_lt] at z
    split
    · rfl
    · rename_i y
      have y' : ((10 * S) % 11).toInt ≠ 10 := fun w => y (Int32.toInt_inj.mp (by rw [w, k10]))
      apply Int32.toInt_inj.mp
      have c : S.toInt % 11 = 0 ∨ S.toInt % 11 = 1 := by omega
      clear m em h e r rm q
      rcases c with c | c
      · omega
      · omega
  · rename_i z; rw [Int32.lt_iff_toInt_lt] at z
    split
    · rename_i y
      rw [y] at q2
      omega
    · apply Int32.toInt_inj.mp
      omega
theorem own_law_t {q : Int64} (vs : List Value) (s e t : Int32) (hvs : vs = [(.int (nar .byte (own_ch q (0 : Int32)))), (.int (nar .byte (own_ch q (6 : Int32)))), (.int (nar .byte (own_ch q (12 : Int32)))), (.int (nar .byte (own_ch q (18 : Int32)))), (.int (nar .byte (own_ch q (24 : Int32)))), (.int (nar .byte (own_ch q (30 : Int32)))), (.int (nar .byte (own_ch q (36 : Int32)))), (.int (nar .byte (own_ch q (42 : Int32))))]) (hse : 0 ≤ s.toInt ∧ s.toInt ≤ e.toInt ∧ e.toInt ≤ 8) (ht : 2 ≤ t.toInt ∧ t.toInt ≤ 17) (h : ((10 : Int32) * (((((((own_term vs (.int (0 : Int32)) (0 : Int32) s e t + own_term vs (.int (0 : Int32)) (1 : Int32) s e t) + own_term vs (.int (0 : Int32)) (2 : Int32) s e t) + own_term vs (.int (0 : Int32)) (3 : Int32) s e t) + own_term vs (.int (0 : Int32)) (4 : Int32) s e t) + own_term vs (.int (0 : Int32)) (5 : Int32) s e t) + own_term vs (.int (0 : Int32)) (6 : Int32) s e t) + own_term vs (.int (0 : Int32)) (7 : Int32) s e t)) % (11 : Int32) = (10 : Int32)) : own_m11 vs (.int (0 : Int32)) t s e = (0 : Int32) := by
  unfold own_m11
  rw [own_sum ht hse, own_fin (own_Sb hvs hse ht), if_pos h]
theorem own_law_f {q : Int64} (vs : List Value) (s e t : Int32) (hvs : vs = [(.int (nar .byte (own_ch q (0 : Int32)))), (.int (nar .byte (own_ch q (6 : Int32)))), (.int (nar .byte (own_ch q (12 : Int32)))), (.int (nar .byte (own_ch q (18 : Int32)))), (.int (nar .byte (own_ch q (24 : Int32)))), (.int (nar .byte (own_ch q (30 : Int32)))), (.int (nar .byte (own_ch q (36 : Int32)))), (.int (nar .byte (own_ch q (42 : Int32))))]) (hse : 0 ≤ s.toInt ∧ s.toInt ≤ e.toInt ∧ e.toInt ≤ 8) (ht : 2 ≤ t.toInt ∧ t.toInt ≤ 17) (h : ¬ ((10 : Int32) * (((((((own_term vs (.int (0 : Int32)) (0 : Int32) s e t + own_term vs (.int (0 : Int32)) (1 : Int32) s e t) + own_term vs (.int (0 : Int32)) (2 : Int32) s e t) + own_term vs (.int (0 : Int32)) (3 : Int32) s e t) + own_term vs (.int (0 : Int32)) (4 : Int32) s e t) + own_term vs (.int (0 : Int32)) (5 : Int32) s e t) + own_term vs (.int (0 : Int32)) (6 : Int32) s e t) + own_term vs (.int (0 : Int32)) (7 : Int32) s e t)) % (11 : Int32) = (10 : Int32)) : own_m11 vs (.int (0 : Int32)) t s e = ((10 : Int32) * (((((((own_term vs (.int (0 : Int32)) (0 : Int32) s e t + own_term vs (.int (0 : Int32)) (1 : Int32) s e t) + own_term vs (.int (0 : Int32)) (2 : Int32) s e t) + own_term vs (.int (0 : Int32)) (3 : Int32) s e t) + own_term vs (.int (0 : Int32)) (4 : Int32) s e t) + own_term vs (.int (0 : Int32)) (5 : Int32) s e t) + own_term vs (.int (0 : Int32)) (6 : Int32) s e t) + own_term vs (.int (0 : Int32)) (7 : Int32) s e t)) % (11 : Int32) := by
  unfold own_m11
  rw [own_sum ht hse, own_fin (own_Sb hvs hse ht), if_neg h]
theorem d2_0 : decode jdk_29_method_69_code 0 = .ok (.iload_n 0, 1) := by decide +kernel
theorem d2_1 : decode jdk_29_method_69_code 1 = .ok (.iload_n 1, 1) := by decide +kernel
theorem d2_2 : decode jdk_29_method_69_code 2 = .ok (.if_icmp .gt 7, 3) := by decide +kernel
theorem d2_9 : decode jdk_29_method_69_code 9 = .ok (.iload_n 1, 1) := by decide +kernel
theorem d2_10 : decode jdk_29_method_69_code 10 = .ok (.ireturn, 1) := by decide +kernel
theorem d2_5 : decode jdk_29_method_69_code 5 = .ok (.iload_n 0, 1) := by decide +kernel
theorem d2_6 : decode jdk_29_method_69_code 6 = .ok (.goto 4, 3) := by decide +kernel
theorem ef_2 (m : MethodId) (x0 : Int32) (x1 : Int32) : entryFrame m #[(.int x0), (.int x1)] 2 = mkF m 0 #[.val (.int x0), .val (.int x1)] [] := by first | (simp [entryFrame, mkF, argsToLocals, Value.category]; done) | rfl
def Q2 (Z : State) (x : Int32) (y : Int32) (h0 : Heap) (n0 : Nat) (vα : Option Value) (hα : Heap) (Lα : List Loc) : Prop := vα = some (.int (own_min x y)) ∧ Fr n0 Lα ∧ hα = h0
set_option maxRecDepth 65536 in
set_option maxHeartbeats 40000000 in
theorem rm2 (l : Launch) (Z : State) (a0 : Array Value) (hw : ∀ d ∈ tables_1, d.before a0 Z = true) (ws : List Jvm.Cond) (x : Int32) (y : Int32) (h0 : Heap) (n0 : Nat) (Z0 : n0 ≤ h0.size) :
    MetFree l (⟨"java/lang/Math", "min", "(II)I"⟩ : MethodName) (head1 (Jvm.Cond.code (⟨"java/lang/Math", "min", "(II)I"⟩ : MethodName) jdk_29_method_69_code 2 (some .int) :: ws) ({ frames := 0, cells := 0, slots := 0, locals := 0 } : Room)) (fun aα U => aα = #[(.int x), (.int y)] ∧ Z.Warmed39 U.vm ∧ U.heap = h0) (fun _ _ _ _ _ => True) (fun _ U oα U' => ∃ vα Lα, oα = .returned vα ∧ Q2 Z x y h0 n0 vα U'.heap Lα ∧ FrameEnd U oα U' Lα ({ frames := 0, cells := 0, slots := 0, locals := 0 } : Room).cells ({ frames := 0, cells := 0, slots := 0, locals := 0 } : Room).slots) := by
  refine MetFree.of_bodySF (Jvm.Free.JP.mathPlain rfl (by decide +kernel)) hisR ?_
  intro p e s m args below meth c s₁ Bd hml0 hP hK
  refine own_wrap ?_
  intro GL hGL
  obtain ⟨rfl, hZ, hh⟩ := hP
  have hx := Bd.exec
  have hby := Bd.bytes
  have hml : c.maxLocals = 2 := hml0
  have hown : s.vm.findClass "java/lang/Math" = some m.cls := findClass_of_methodNamed Bd.named
  have hnm := (name_of_methodNamed Bd.named Bd.method).1
  have X0 : Stand p l e ({ frames := 0, cells := 0, slots := 0, locals := 0 } : Room) s m #[(.int x), (.int y)] below meth c s₁ [] 0 0 := Stand.of_body Bd
  have e0 : s₁.heap = h0 := by rw [← hh, Bd.state]; rfl
  have N0 := Fr.nil n0
  have pre0 : ∀ τ, Steps p.tables e below (s₁.setTop (mkF m 0 #[.val (.int x), .val (.int y)] [])) τ → Steps p.tables e below (s₁.setTop (entryFrame m #[(.int x), (.int y)] 2)) τ := fun τ κ => castTop (ef_2 m x y) κ
  obtain ⟨G, hG, pre⟩ : ∃ G : State → Prop, (∀ τ, G τ → Steps p.tables e below (s₁.setTop (entryFrame m #[(.int x), (.int y)] 2)) τ) ∧ ∀ τ, Steps p.tables e below (s₁.setTop (mkF m 0 #[.val (.int x), .val (.int y)] [])) τ → G τ := ⟨_, pre0, fun _ k => k⟩
  have K : Keep h0 h0 [] := Keep.refl h0 _
  have Zn := Z0
  have pre : ∀ τ, Steps p.tables e below (s₁.setTop (mkF m 2 #[.val (.int x), .val (.int y)] [(.int y), (.int x)])) τ → G τ := fun τ κ => pre τ (by
    refine XS.iloadN X0.here hx rfl (hb hby d2_0) rfl ?_
    show Steps p.tables e below (s₁.setTop (mkF m 1 #[.val (.int x), .val (.int y)] [(.int x)])) τ
    refine XS.iloadN X0.here hx rfl (hb hby d2_1) rfl ?_
    show Steps p.tables e below (s₁.setTop (mkF m 2 #[.val (.int x), .val (.int y)] [(.int y), (.int x)])) τ
    exact κ)
  rcases Classical.em (y < x) with hc2_1 | hc2_1
  ·
    have pre : ∀ τ, Steps p.tables e below (s₁.setTop (mkF m 10 #[.val (.int x), .val (.int y)] [(.int y)])) τ → G τ := fun τ κ => pre τ (by
      refine XS.icmpYes X0.here hx rfl (pc0 := 2) (pc' := 9) rfl (hb hby d2_2) rfl (tlt hc2_1).2.2.1 (by decide) (by decide) ?_
      show Steps p.tables e below (s₁.setTop (mkF m 9 #[.val (.int x), .val (.int y)] [])) τ
      refine XS.iloadN X0.here hx rfl (hb hby d2_9) rfl ?_
      show Steps p.tables e below (s₁.setTop (mkF m 10 #[.val (.int x), .val (.int y)] [(.int y)])) τ
      exact κ)
    obtain ⟨fsα, hr, hrun, hended, hW, hsame⟩ := X0.leave (v := some (.int y)) (fun h => by rw [Bd.returns] at h; cases h)
    refine hGL ⟨_, _, hG _ (pre _ ?_), hrun, hended, _, _, rfl, ?_, ⟨_, rfl⟩, hW, hsame.mono (by decide) (by decide)⟩
    · exact retOut X0 hx Bd.returns rfl (Or.inl ⟨rfl, Or.inl rfl, _, rfl⟩) (hb hby d2_10) hr
    · show Q2 Z x y h0 n0 _ s₁.heap _
      rw [e0]
      refine ⟨?_, N0, rfl⟩
      unfold own_min
      rw [if_pos hc2_1]
  ·
    have pre : ∀ τ, Steps p.tables e below (s₁.setTop (mkF m 10 #[.val (.int x), .val (.int y)] [(.int x)])) τ → G τ := fun τ κ => pre τ (by
      refine XS.icmpNo X0.here hx rfl (hb hby d2_2) rfl (flt hc2_1).2.2.1 ?_
      show Steps p.tables e below (s₁.setTop (mkF m 5 #[.val (.int x), .val (.int y)] [])) τ
      refine XS.iloadN X0.here hx rfl (hb hby d2_5) rfl ?_
      show Steps p.tables e below (s₁.setTop (mkF m 6 #[.val (.int x), .val (.int y)] [(.int x)])) τ
      refine XS.goto X0.here hx rfl (pc0 := 6) (pc' := 10) rfl (hb hby d2_6) (by decide) (by decide) ?_
      show Steps p.tables e below (s₁.setTop (mkF m 10 #[.val (.int x), .val (.int y)] [(.int x)])) τ
      exact κ)
    obtain ⟨fsα, hr, hrun, hended, hW, hsame⟩ := X0.leave (v := some (.int x)) (fun h => by rw [Bd.returns] at h; cases h)
    refine hGL ⟨_, _, hG _ (pre _ ?_), hrun, hended, _, _, rfl, ?_, ⟨_, rfl⟩, hW, hsame.mono (by decide) (by decide)⟩
    · exact retOut X0 hx Bd.returns rfl (Or.inl ⟨rfl, Or.inl rfl, _, rfl⟩) (hb hby d2_10) hr
    · show Q2 Z x y h0 n0 _ s₁.heap _
      rw [e0]
      refine ⟨?_, N0, rfl⟩
      unfold own_min
      rw [if_neg hc2_1]
theorem d3_0 : decode jdk_29_method_65_code 0 = .ok (.iload_n 0, 1) := by decide +kernel
theorem d3_1 : decode jdk_29_method_65_code 1 = .ok (.iload_n 1, 1) := by decide +kernel
theorem d3_2 : decode jdk_29_method_65_code 2 = .ok (.if_icmp .lt 7, 3) := by decide +kernel
theorem d3_9 : decode jdk_29_method_65_code 9 = .ok (.iload_n 1, 1) := by decide +kernel
theorem d3_10 : decode jdk_29_method_65_code 10 = .ok (.ireturn, 1) := by decide +kernel
theorem d3_5 : decode jdk_29_method_65_code 5 = .ok (.iload_n 0, 1) := by decide +kernel
theorem d3_6 : decode jdk_29_method_65_code 6 = .ok (.goto 4, 3) := by decide +kernel
theorem ef_3 (m : MethodId) (x0 : Int32) (x1 : Int32) : entryFrame m #[(.int x0), (.int x1)] 2 = mkF m 0 #[.val (.int x0), .val (.int x1)] [] := by first | (simp [entryFrame, mkF, argsToLocals, Value.category]; done) | rfl
def Q3 (Z : State) (x : Int32) (y : Int32) (h0 : Heap) (n0 : Nat) (vα : Option Value) (hα : Heap) (Lα : List Loc) : Prop := vα = some (.int (own_max x y)) ∧ Fr n0 Lα ∧ hα = h0
set_option maxRecDepth 65536 in
set_option maxHeartbeats 40000000 in
theorem rm3 (l : Launch) (Z : State) (a0 : Array Value) (hw : ∀ d ∈ tables_1, d.before a0 Z = true) (ws : List Jvm.Cond) (x : Int32) (y : Int32) (h0 : Heap) (n0 : Nat) (Z0 : n0 ≤ h0.size) :
    MetFree l (⟨"java/lang/Math", "max", "(II)I"⟩ : MethodName) (head1 (Jvm.Cond.code (⟨"java/lang/Math", "max", "(II)I"⟩ : MethodName) jdk_29_method_65_code 2 (some .int) :: ws) ({ frames := 0, cells := 0, slots := 0, locals := 0 } : Room)) (fun aα U => aα = #[(.int x), (.int y)] ∧ Z.Warmed39 U.vm ∧ U.heap = h0) (fun _ _ _ _ _ => True) (fun _ U oα U' => ∃ vα Lα, oα = .returned vα ∧ Q3 Z x y h0 n0 vα U'.heap Lα ∧ FrameEnd U oα U' Lα ({ frames := 0, cells := 0, slots := 0, locals := 0 } : Room).cells ({ frames := 0, cells := 0, slots := 0, locals := 0 } : Room).slots) := by
  refine MetFree.of_bodySF (Jvm.Free.JP.mathPlain rfl (by decide +kernel)) hisR ?_
  intro p e s m args below meth c s₁ Bd hml0 hP hK
  refine own_wrap ?_
  intro GL hGL
  obtain ⟨rfl, hZ, hh⟩ := hP
  have hx := Bd.exec
  have hby := Bd.bytes
  have hml : c.maxLocals = 2 := hml0
  have hown : s.vm.findClass "java/lang/Math" = some m.cls := findClass_of_methodNamed Bd.named
  have hnm := (name_of_methodNamed Bd.named Bd.method).1
  have X0 : Stand p l e ({ frames := 0, cells := 0, slots := 0, locals := 0 } : Room) s m #[(.int x), (.int y)] below meth c s₁ [] 0 0 := Stand.of_body Bd
  have e0 : s₁.heap = h0 := by rw [← hh, Bd.state]; rfl
  have N0 := Fr.nil n0
  have pre0 : ∀ τ, Steps p.tables e below (s₁.setTop (mkF m 0 #[.val (.int x), .val (.int y)] [])) τ → Steps p.tables e below (s₁.setTop (entryFrame m #[(.int x), (.int y)] 2)) τ := fun τ κ => castTop (ef_3 m x y) κ
  obtain ⟨G, hG, pre⟩ : ∃ G : State → Prop, (∀ τ, G τ → Steps p.tables e below (s₁.setTop (entryFrame m #[(.int x), (.int y)] 2)) τ) ∧ ∀ τ, Steps p.tables e below (s₁.setTop (mkF m 0 #[.val (.int x), .val (.int y)] [])) τ → G τ := ⟨_, pre0, fun _ k => k⟩
  have K : Keep h0 h0 [] := Keep.refl h0 _
  have Zn := Z0
  have pre : ∀ τ, Steps p.tables e below (s₁.setTop (mkF m 2 #[.val (.int x), .val (.int y)] [(.int y), (.int x)])) τ → G τ := fun τ κ => pre τ (by
    refine XS.iloadN X0.here hx rfl (hb hby d3_0) rfl ?_
    show Steps p.tables e below (s₁.setTop (mkF m 1 #[.val (.int x), .val (.int y)] [(.int x)])) τ
    refine XS.iloadN X0.here hx rfl (hb hby d3_1) rfl ?_
    show Steps p.tables e below (s₁.setTop (mkF m 2 #[.val (.int x), .val (.int y)] [(.int y), (.int x)])) τ
    exact κ)
  rcases Classical.em (x < y) with hc2_1 | hc2_1
  ·
    have pre : ∀ τ, Steps p.tables e below (s₁.setTop (mkF m 10 #[.val (.int x), .val (.int y)] [(.int y)])) τ → G τ := fun τ κ => pre τ (by
      refine XS.icmpYes X0.here hx rfl (pc0 := 2) (pc' := 9) rfl (hb hby d3_2) rfl (tlt hc2_1).1 (by decide) (by decide) ?_
      show Steps p.tables e below (s₁.setTop (mkF m 9 #[.val (.int x), .val (.int y)] [])) τ
      refine XS.iloadN X0.here hx rfl (hb hby d3_9) rfl ?_
      show Steps p.tables e below (s₁.setTop (mkF m 10 #[.val (.int x), .val (.int y)] [(.int y)])) τ
      exact κ)
    obtain ⟨fsα, hr, hrun, hended, hW, hsame⟩ := X0.leave (v := some (.int y)) (fun h => by rw [Bd.returns] at h; cases h)
    refine hGL ⟨_, _, hG _ (pre _ ?_), hrun, hended, _, _, rfl, ?_, ⟨_, rfl⟩, hW, hsame.mono (by decide) (by decide)⟩
    · exact retOut X0 hx Bd.returns rfl (Or.inl ⟨rfl, Or.inl rfl, _, rfl⟩) (hb hby d3_10) hr
    · show Q3 Z x y h0 n0 _ s₁.heap _
      rw [e0]
      refine ⟨?_, N0, rfl⟩
      unfold own_max
      rw [if_pos hc2_1]
  ·
    have pre : ∀ τ, Steps p.tables e below (s₁.setTop (mkF m 10 #[.val (.int x), .val (.int y)] [(.int x)])) τ → G τ := fun τ κ => pre τ (by
      refine XS.icmpNo X0.here hx rfl (hb hby d3_2) rfl (flt hc2_1).1 ?_
      show Steps p.tables e below (s₁.setTop (mkF m 5 #[.val (.int x), .val (.int y)] [])) τ
      refine XS.iloadN X0.here hx rfl (hb hby d3_5) rfl ?_
      show Steps p.tables e below (s₁.setTop (mkF m 6 #[.val (.int x), .val (.int y)] [(.int x)])) τ
      refine XS.goto X0.here hx rfl (pc0 := 6) (pc' := 10) rfl (hb hby d3_6) (by decide) (by decide) ?_
      show Steps p.tables e below (s₁.setTop (mkF m 10 #[.val (.int x), .val (.int y)] [(.int x)])) τ
      exact κ)
    obtain ⟨fsα, hr, hrun, hended, hW, hsame⟩ := X0.leave (v := some (.int x)) (fun h => by rw [Bd.returns] at h; cases h)
    refine hGL ⟨_, _, hG _ (pre _ ?_), hrun, hended, _, _, rfl, ?_, ⟨_, rfl⟩, hW, hsame.mono (by decide) (by decide)⟩
    · exact retOut X0 hx Bd.returns rfl (Or.inl ⟨rfl, Or.inl rfl, _, rfl⟩) (hb hby d3_10) hr
    · show Q3 Z x y h0 n0 _ s₁.heap _
      rw [e0]
      refine ⟨?_, N0, rfl⟩
      unfold own_max
      rw [if_neg hc2_1]
theorem pn_0 : plainName "com/example/campo_livre/campolivre/CheckDigitsModulo11PinLaw" = true := by first | (simp [plainName, overriddenIn]; done) | decide +kernel
theorem d1_0 : decode method_3_code 0 = .ok (.lload_n 0, 1) := by decide +kernel
theorem d1_1 : decode method_3_code 1 = .ok (.iload_n 2, 1) := by decide +kernel
theorem d1_2 : decode method_3_code 2 = .ok (.lushr, 1) := by decide +kernel
theorem d1_3 : decode method_3_code 3 = .ok (.ldc2_w 32, 3) := by decide +kernel
theorem d1_6 : decode method_3_code 6 = .ok (.land, 1) := by decide +kernel
theorem d1_7 : decode method_3_code 7 = .ok (.l2i, 1) := by decide +kernel
theorem d1_8 : decode method_3_code 8 = .ok (.bipush 36, 2) := by decide +kernel
theorem d1_10 : decode method_3_code 10 = .ok (.irem, 1) := by decide +kernel
theorem d1_11 : decode method_3_code 11 = .ok (.istore_n 3, 1) := by decide +kernel
theorem d1_12 : decode method_3_code 12 = .ok (.iload_n 3, 1) := by decide +kernel
theorem d1_13 : decode method_3_code 13 = .ok (.bipush 10, 2) := by decide +kernel
theorem d1_15 : decode method_3_code 15 = .ok (.if_icmp .ge 10, 3) := by decide +kernel
theorem d1_18 : decode method_3_code 18 = .ok (.bipush 48, 2) := by decide +kernel
theorem d1_20 : decode method_3_code 20 = .ok (.iload_n 3, 1) := by decide +kernel
theorem d1_21 : decode method_3_code 21 = .ok (.iadd, 1) := by decide +kernel
theorem d1_22 : decode method_3_code 22 = .ok (.goto 10, 3) := by decide +kernel
theorem d1_32 : decode method_3_code 32 = .ok (.i2b, 1) := by decide +kernel
theorem d1_33 : decode method_3_code 33 = .ok (.ireturn, 1) := by decide +kernel
theorem d1_25 : decode method_3_code 25 = .ok (.bipush 65, 2) := by decide +kernel
theorem d1_27 : decode method_3_code 27 = .ok (.iload_n 3, 1) := by decide +kernel
theorem d1_28 : decode method_3_code 28 = .ok (.bipush 10, 2) := by decide +kernel
theorem d1_30 : decode method_3_code 30 = .ok (.isub, 1) := by decide +kernel
theorem d1_31 : decode method_3_code 31 = .ok (.iadd, 1) := by decide +kernel
theorem ef_1 (m : MethodId) (x0 : Int64) (x1 : Int32) : entryFrame m #[(.long x0), (.int x1)] 4 = mkF m 0 #[.val (.long x0), .second, .val (.int x1), .unset] [] := by first | (simp [entryFrame, mkF, argsToLocals, Value.category]; done) | rfl
def Q1 (Z : State) (q : Int64) (sf : Int32) (h0 : Heap) (n0 : Nat) (vα : Option Value) (hα : Heap) (Lα : List Loc) : Prop := vα = some (.int (own_ch q sf)) ∧ Fr n0 Lα ∧ hα = h0
set_option maxRecDepth 65536 in
set_option maxHeartbeats 40000000 in
theorem rm1 (l : Launch) (Z : State) (a0 : Array Value) (hw : ∀ d ∈ tables_1, d.before a0 Z = true) (ws : List Jvm.Cond) (q : Int64) (sf : Int32) (h0 : Heap) (n0 : Nat) (Z0 : n0 ≤ h0.size) :
    MetFree l (⟨"com/example/campo_livre/campolivre/CheckDigitsModulo11PinLaw", "ch", "(JI)B"⟩ : MethodName) (head1 (Jvm.Cond.code (⟨"com/example/campo_livre/campolivre/CheckDigitsModulo11PinLaw", "ch", "(JI)B"⟩ : MethodName) method_3_code 4 (some .byte) :: ws) ({ frames := 0, cells := 0, slots := 0, locals := 0 } : Room)) (fun aα U => aα = #[(.long q), (.int sf)] ∧ Z.Warmed39 U.vm ∧ U.heap = h0) (fun _ _ _ _ _ => True) (fun _ U oα U' => ∃ vα Lα, oα = .returned vα ∧ Q1 Z q sf h0 n0 vα U'.heap Lα ∧ FrameEnd U oα U' Lα ({ frames := 0, cells := 0, slots := 0, locals := 0 } : Room).cells ({ frames := 0, cells := 0, slots := 0, locals := 0 } : Room).slots) := by
  refine MetFree.of_bodySF (plainFor_of_name pn_0) hisR ?_
  intro p e s m args below meth c s₁ Bd hml0 hP hK
  refine own_wrap ?_
  intro GL hGL
  obtain ⟨rfl, hZ, hh⟩ := hP
  have hx := Bd.exec
  have hby := Bd.bytes
  have hml : c.maxLocals = 4 := hml0
  have hown : s.vm.findClass "com/example/campo_livre/campolivre/CheckDigitsModulo11PinLaw" = some m.cls := findClass_of_methodNamed Bd.named
  have hnm := (name_of_methodNamed Bd.named Bd.method).1
  have X0 : Stand p l e ({ frames := 0, cells := 0, slots := 0, locals := 0 } : Room) s m #[(.long q), (.int sf)] below meth c s₁ [] 0 0 := Stand.of_body Bd
  have e0 : s₁.heap = h0 := by rw [← hh, Bd.state]; rfl
  have N0 := Fr.nil n0
  have pre0 : ∀ τ, Steps p.tables e below (s₁.setTop (mkF m 0 #[.val (.long q), .second, .val (.int sf), .unset] [])) τ → Steps p.tables e below (s₁.setTop (entryFrame m #[(.long q), (.int sf)] 4)) τ := fun τ κ => castTop (ef_1 m q sf) κ
  obtain ⟨G, hG, pre⟩ : ∃ G : State → Prop, (∀ τ, G τ → Steps p.tables e below (s₁.setTop (entryFrame m #[(.long q), (.int sf)] 4)) τ) ∧ ∀ τ, Steps p.tables e below (s₁.setTop (mkF m 0 #[.val (.long q), .second, .val (.int sf), .unset] [])) τ → G τ := ⟨_, pre0, fun _ k => k⟩
  have K : Keep h0 h0 [] := Keep.refl h0 _
  have Zn := Z0
  have pre : ∀ τ, Steps p.tables e below (s₁.setTop (mkF m 15 #[.val (.long q), .second, .val (.int sf), .val (.int (((((q.toUInt64 >>> (sf &&& 0x3f).toInt64.toUInt64).toInt64) &&& (63 : Int64)).toInt32) % (36 : Int32)))] [(.int (10 : Int32)), (.int (((((q.toUInt64 >>> (sf &&& 0x3f).toInt64.toUInt64).toInt64) &&& (63 : Int64)).toInt32) % (36 : Int32)))])) τ → G τ := fun τ κ => pre τ (by
    refine XS.lloadN X0.here hx rfl (hb hby d1_0) rfl ?_
    show Steps p.tables e below (s₁.setTop (mkF m 1 #[.val (.long q), .second, .val (.int sf), .unset] [(.long q)])) τ
    refine XS.iloadN X0.here hx rfl (hb hby d1_1) rfl ?_
    show Steps p.tables e below (s₁.setTop (mkF m 2 #[.val (.long q), .second, .val (.int sf), .unset] [(.int sf), (.long q)])) τ
    refine XS.lushr X0.here hx rfl (hb hby d1_2) rfl ?_
    show Steps p.tables e below (s₁.setTop (mkF m 3 #[.val (.long q), .second, .val (.int sf), .unset] [(.long ((q.toUInt64 >>> (sf &&& 0x3f).toInt64.toUInt64).toInt64))])) τ
    refine X0.ldc2Long hx hown (mvT hZ (hw _ (List.mem_of_getElem? (i := 5) rfl))) (g := (mkF m 3 #[.val (.long q), .second, .val (.int sf), .unset] [(.long ((q.toUInt64 >>> (sf &&& 0x3f).toInt64.toUInt64).toInt64))])) rfl (hb hby d1_3) _ ?_
    show Steps p.tables e below (s₁.setTop (mkF m 6 #[.val (.long q), .second, .val (.int sf), .unset] [(.long (63 : Int64)), (.long ((q.toUInt64 >>> (sf &&& 0x3f).toInt64.toUInt64).toInt64))])) τ
    refine XS.land X0.here hx rfl (hb hby d1_6) rfl ?_
    show Steps p.tables e below (s₁.setTop (mkF m 7 #[.val (.long q), .second, .val (.int sf), .unset] [(.long (((q.toUInt64 >>> (sf &&& 0x3f).toInt64.toUInt64).toInt64) &&& (63 : Int64)))])) τ
    refine XS.l2i X0.here hx rfl (hb hby d1_7) rfl ?_
    show Steps p.tables e below (s₁.setTop (mkF m 8 #[.val (.long q), .second, .val (.int sf), .unset] [(.int ((((q.toUInt64 >>> (sf &&& 0x3f).toInt64.toUInt64).toInt64) &&& (63 : Int64)).toInt32))])) τ
    refine XS.bipush X0.here hx rfl (hb hby d1_8) ?_
    show Steps p.tables e below (s₁.setTop (mkF m 10 #[.val (.long q), .second, .val (.int sf), .unset] [(.int (36 : Int32)), (.int ((((q.toUInt64 >>> (sf &&& 0x3f).toInt64.toUInt64).toInt64) &&& (63 : Int64)).toInt32))])) τ
    refine iremM X0 hx rfl (hb hby d1_10) rfl (by decide) ?_
    show Steps p.tables e below (s₁.setTop (mkF m 11 #[.val (.long q), .second, .val (.int sf), .unset] [(.int (((((q.toUInt64 >>> (sf &&& 0x3f).toInt64.toUInt64).toInt64) &&& (63 : Int64)).toInt32) % (36 : Int32)))])) τ
    refine XS.istoreN X0.here hx rfl (hb hby d1_11) rfl (l' := #[.val (.long q), .second, .val (.int sf), .val (.int (((((q.toUInt64 >>> (sf &&& 0x3f).toInt64.toUInt64).toInt64) &&& (63 : Int64)).toInt32) % (36 : Int32)))]) rfl ?_
    show Steps p.tables e below (s₁.setTop (mkF m 12 #[.val (.long q), .second, .val (.int sf), .val (.int (((((q.toUInt64 >>> (sf &&& 0x3f).toInt64.toUInt64).toInt64) &&& (63 : Int64)).toInt32) % (36 : Int32)))] [])) τ
    refine XS.iloadN X0.here hx rfl (hb hby d1_12) rfl ?_
    show Steps p.tables e below (s₁.setTop (mkF m 13 #[.val (.long q), .second, .val (.int sf), .val (.int (((((q.toUInt64 >>> (sf &&& 0x3f).toInt64.toUInt64).toInt64) &&& (63 : Int64)).toInt32) % (36 : Int32)))] [(.int (((((q.toUInt64 >>> (sf &&& 0x3f).toInt64.toUInt64).toInt64) &&& (63 : Int64)).toInt32) % (36 : Int32)))])) τ
    refine XS.bipush X0.here hx rfl (hb hby d1_13) ?_
    show Steps p.tables e below (s₁.setTop (mkF m 15 #[.val (.long q), .second, .val (.int sf), .val (.int (((((q.toUInt64 >>> (sf &&& 0x3f).toInt64.toUInt64).toInt64) &&& (63 : Int64)).toInt32) % (36 : Int32)))] [(.int (10 : Int32)), (.int (((((q.toUInt64 >>> (sf &&& 0x3f).toInt64.toUInt64).toInt64) &&& (63 : Int64)).toInt32) % (36 : Int32)))])) τ
    exact κ)
  rcases Classical.em ((((((q.toUInt64 >>> (sf &&& 0x3f).toInt64.toUInt64).toInt64) &&& (63 : Int64)).toInt32) % (36 : Int32)) < (10 : Int32)) with hc15_1 | hc15_1
  ·
    have pre : ∀ τ, Steps p.tables e below (s₁.setTop (mkF m 33 #[.val (.long q), .second, .val (.int sf), .val (.int (((((q.toUInt64 >>> (sf &&& 0x3f).toInt64.toUInt64).toInt64) &&& (63 : Int64)).toInt32) % (36 : Int32)))] [(.int (((48 : Int32) + (((((q.toUInt64 >>> (sf &&& 0x3f).toInt64.toUInt64).toInt64) &&& (63 : Int64)).toInt32) % (36 : Int32))).toInt8.toInt32))])) τ → G τ := fun τ κ => pre τ (by
      refine XS.icmpNo X0.here hx rfl (hb hby d1_15) rfl (tlt hc15_1).2.1 ?_
      show Steps p.tables e below (s₁.setTop (mkF m 18 #[.val (.long q), .second, .val (.int sf), .val (.int (((((q.toUInt64 >>> (sf &&& 0x3f).toInt64.toUInt64).toInt64) &&& (63 : Int64)).toInt32) % (36 : Int32)))] [])) τ
      refine XS.bipush X0.here hx rfl (hb hby d1_18) ?_
      show Steps p.tables e below (s₁.setTop (mkF m 20 #[.val (.long q), .second, .val (.int sf), .val (.int (((((q.toUInt64 >>> (sf &&& 0x3f).toInt64.toUInt64).toInt64) &&& (63 : Int64)).toInt32) % (36 : Int32)))] [(.int (48 : Int32))])) τ
      refine XS.iloadN X0.here hx rfl (hb hby d1_20) rfl ?_
      show Steps p.tables e below (s₁.setTop (mkF m 21 #[.val (.long q), .second, .val (.int sf), .val (.int (((((q.toUInt64 >>> (sf &&& 0x3f).toInt64.toUInt64).toInt64) &&& (63 : Int64)).toInt32) % (36 : Int32)))] [(.int (((((q.toUInt64 >>> (sf &&& 0x3f).toInt64.toUInt64).toInt64) &&& (63 : Int64)).toInt32) % (36 : Int32))), (.int (48 : Int32))])) τ
      refine XS.iadd X0.here hx rfl (hb hby d1_21) rfl ?_
      show Steps p.tables e below (s₁.setTop (mkF m 22 #[.val (.long q), .second, .val (.int sf), .val (.int (((((q.toUInt64 >>> (sf &&& 0x3f).toInt64.toUInt64).toInt64) &&& (63 : Int64)).toInt32) % (36 : Int32)))] [(.int ((48 : Int32) + (((((q.toUInt64 >>> (sf &&& 0x3f).toInt64.toUInt64).toInt64) &&& (63 : Int64)).toInt32) % (36 : Int32))))])) τ
      refine XS.goto X0.here hx rfl (pc0 := 22) (pc' := 32) rfl (hb hby d1_22) (by decide) (by decide) ?_
      show Steps p.tables e below (s₁.setTop (mkF m 32 #[.val (.long q), .second, .val (.int sf), .val (.int (((((q.toUInt64 >>> (sf &&& 0x3f).toInt64.toUInt64).toInt64) &&& (63 : Int64)).toInt32) % (36 : Int32)))] [(.int ((48 : Int32) + (((((q.toUInt64 >>> (sf &&& 0x3f).toInt64.toUInt64).toInt64) &&& (63 : Int64)).toInt32) % (36 : Int32))))])) τ
      refine XS.i2b X0.here hx rfl (hb hby d1_32) rfl ?_
      show Steps p.tables e below (s₁.setTop (mkF m 33 #[.val (.long q), .second, .val (.int sf), .val (.int (((((q.toUInt64 >>> (sf &&& 0x3f).toInt64.toUInt64).toInt64) &&& (63 : Int64)).toInt32) % (36 : Int32)))] [(.int (((48 : Int32) + (((((q.toUInt64 >>> (sf &&& 0x3f).toInt64.toUInt64).toInt64) &&& (63 : Int64)).toInt32) % (36 : Int32))).toInt8.toInt32))])) τ
      exact κ)
    obtain ⟨fsα, hr, hrun, hended, hW, hsame⟩ := X0.leave (v := some (.int (nar .byte (((48 : Int32) + (((((q.toUInt64 >>> (sf &&& 0x3f).toInt64.toUInt64).toInt64) &&& (63 : Int64)).toInt32) % (36 : Int32))).toInt8.toInt32)))) (fun h => by rw [Bd.returns] at h; cases h)
    refine hGL ⟨_, _, hG _ (pre _ ?_), hrun, hended, _, _, rfl, ?_, ⟨_, rfl⟩, hW, hsame.mono (by decide) (by decide)⟩
    · exact retN X0 hx (t := .byte) Bd.returns (by simp) (hb hby d1_33) hr
    · show Q1 Z q sf h0 n0 _ s₁.heap _
      rw [e0]
      refine ⟨?_, N0, rfl⟩
      unfold own_ch
      rw [if_pos hc15_1]
  ·
    have pre : ∀ τ, Steps p.tables e below (s₁.setTop (mkF m 33 #[.val (.long q), .second, .val (.int sf), .val (.int (((((q.toUInt64 >>> (sf &&& 0x3f).toInt64.toUInt64).toInt64) &&& (63 : Int64)).toInt32) % (36 : Int32)))] [(.int (((65 : Int32) + ((((((q.toUInt64 >>> (sf &&& 0x3f).toInt64.toUInt64).toInt64) &&& (63 : Int64)).toInt32) % (36 : Int32)) - (10 : Int32))).toInt8.toInt32))])) τ → G τ := fun τ κ => pre τ (by
      refine XS.icmpYes X0.here hx rfl (pc0 := 15) (pc' := 25) rfl (hb hby d1_15) rfl (flt hc15_1).2.1 (by decide) (by decide) ?_
      show Steps p.tables e below (s₁.setTop (mkF m 25 #[.val (.long q), .second, .val (.int sf), .val (.int (((((q.toUInt64 >>> (sf &&& 0x3f).toInt64.toUInt64).toInt64) &&& (63 : Int64)).toInt32) % (36 : Int32)))] [])) τ
      refine XS.bipush X0.here hx rfl (hb hby d1_25) ?_
      show Steps p.tables e below (s₁.setTop (mkF m 27 #[.val (.long q), .second, .val (.int sf), .val (.int (((((q.toUInt64 >>> (sf &&& 0x3f).toInt64.toUInt64).toInt64) &&& (63 : Int64)).toInt32) % (36 : Int32)))] [(.int (65 : Int32))])) τ
      refine XS.iloadN X0.here hx rfl (hb hby d1_27) rfl ?_
      show Steps p.tables e below (s₁.setTop (mkF m 28 #[.val (.long q), .second, .val (.int sf), .val (.int (((((q.toUInt64 >>> (sf &&& 0x3f).toInt64.toUInt64).toInt64) &&& (63 : Int64)).toInt32) % (36 : Int32)))] [(.int (((((q.toUInt64 >>> (sf &&& 0x3f).toInt64.toUInt64).toInt64) &&& (63 : Int64)).toInt32) % (36 : Int32))), (.int (65 : Int32))])) τ
      refine XS.bipush X0.here hx rfl (hb hby d1_28) ?_
      show Steps p.tables e below (s₁.setTop (mkF m 30 #[.val (.long q), .second, .val (.int sf), .val (.int (((((q.toUInt64 >>> (sf &&& 0x3f).toInt64.toUInt64).toInt64) &&& (63 : Int64)).toInt32) % (36 : Int32)))] [(.int (10 : Int32)), (.int (((((q.toUInt64 >>> (sf &&& 0x3f).toInt64.toUInt64).toInt64) &&& (63 : Int64)).toInt32) % (36 : Int32))), (.int (65 : Int32))])) τ
      refine XS.isub X0.here hx rfl (hb hby d1_30) rfl ?_
      show Steps p.tables e below (s₁.setTop (mkF m 31 #[.val (.long q), .second, .val (.int sf), .val (.int (((((q.toUInt64 >>> (sf &&& 0x3f).toInt64.toUInt64).toInt64) &&& (63 : Int64)).toInt32) % (36 : Int32)))] [(.int ((((((q.toUInt64 >>> (sf &&& 0x3f).toInt64.toUInt64).toInt64) &&& (63 : Int64)).toInt32) % (36 : Int32)) - (10 : Int32))), (.int (65 : Int32))])) τ
      refine XS.iadd X0.here hx rfl (hb hby d1_31) rfl ?_
      show Steps p.tables e below (s₁.setTop (mkF m 32 #[.val (.long q), .second, .val (.int sf), .val (.int (((((q.toUInt64 >>> (sf &&& 0x3f).toInt64.toUInt64).toInt64) &&& (63 : Int64)).toInt32) % (36 : Int32)))] [(.int ((65 : Int32) + ((((((q.toUInt64 >>> (sf &&& 0x3f).toInt64.toUInt64).toInt64) &&& (63 : Int64)).toInt32) % (36 : Int32)) - (10 : Int32))))])) τ
      refine XS.i2b X0.here hx rfl (hb hby d1_32) rfl ?_
      show Steps p.tables e below (s₁.setTop (mkF m 33 #[.val (.long q), .second, .val (.int sf), .val (.int (((((q.toUInt64 >>> (sf &&& 0x3f).toInt64.toUInt64).toInt64) &&& (63 : Int64)).toInt32) % (36 : Int32)))] [(.int (((65 : Int32) + ((((((q.toUInt64 >>> (sf &&& 0x3f).toInt64.toUInt64).toInt64) &&& (63 : Int64)).toInt32) % (36 : Int32)) - (10 : Int32))).toInt8.toInt32))])) τ
      exact κ)
    obtain ⟨fsα, hr, hrun, hended, hW, hsame⟩ := X0.leave (v := some (.int (nar .byte (((65 : Int32) + ((((((q.toUInt64 >>> (sf &&& 0x3f).toInt64.toUInt64).toInt64) &&& (63 : Int64)).toInt32) % (36 : Int32)) - (10 : Int32))).toInt8.toInt32)))) (fun h => by rw [Bd.returns] at h; cases h)
    refine hGL ⟨_, _, hG _ (pre _ ?_), hrun, hended, _, _, rfl, ?_, ⟨_, rfl⟩, hW, hsame.mono (by decide) (by decide)⟩
    · exact retN X0 hx (t := .byte) Bd.returns (by simp) (hb hby d1_33) hr
    · show Q1 Z q sf h0 n0 _ s₁.heap _
      rw [e0]
      refine ⟨?_, N0, rfl⟩
      unfold own_ch
      rw [if_neg hc15_1]
theorem d4_0 : decode method_4_code 0 = .ok (.iload_n 1, 1) := by decide +kernel
theorem d4_1 : decode method_4_code 1 = .ok (.iload_n 2, 1) := by decide +kernel
theorem d4_2 : decode method_4_code 2 = .ok (.if_icmp .lt 8, 3) := by decide +kernel
theorem d4_10 : decode method_4_code 10 = .ok (.iconst 0, 1) := by decide +kernel
theorem d4_11 : decode method_4_code 11 = .ok (.ireturn, 1) := by decide +kernel
theorem d4_5 : decode method_4_code 5 = .ok (.iload_n 1, 1) := by decide +kernel
theorem d4_6 : decode method_4_code 6 = .ok (.iload_n 3, 1) := by decide +kernel
theorem d4_7 : decode method_4_code 7 = .ok (.if_icmp .lt 5, 3) := by decide +kernel
theorem d4_12 : decode method_4_code 12 = .ok (.iload_n 3, 1) := by decide +kernel
theorem d4_13 : decode method_4_code 13 = .ok (.iconst 1, 1) := by decide +kernel
theorem d4_14 : decode method_4_code 14 = .ok (.isub, 1) := by decide +kernel
theorem d4_15 : decode method_4_code 15 = .ok (.iload_n 1, 1) := by decide +kernel
theorem d4_16 : decode method_4_code 16 = .ok (.isub, 1) := by decide +kernel
theorem d4_17 : decode method_4_code 17 = .ok (.istore 5, 2) := by decide +kernel
theorem d4_19 : decode method_4_code 19 = .ok (.aload_n 0, 1) := by decide +kernel
theorem d4_20 : decode method_4_code 20 = .ok (.iload_n 1, 1) := by decide +kernel
theorem d4_21 : decode method_4_code 21 = .ok (.baload, 1) := by decide +kernel
theorem d4_22 : decode method_4_code 22 = .ok (.bipush 48, 2) := by decide +kernel
theorem d4_24 : decode method_4_code 24 = .ok (.isub, 1) := by decide +kernel
theorem d4_25 : decode method_4_code 25 = .ok (.iconst 2, 1) := by decide +kernel
theorem d4_26 : decode method_4_code 26 = .ok (.iload 5, 2) := by decide +kernel
theorem d4_28 : decode method_4_code 28 = .ok (.iload 4, 2) := by decide +kernel
theorem d4_30 : decode method_4_code 30 = .ok (.iconst 1, 1) := by decide +kernel
theorem d4_31 : decode method_4_code 31 = .ok (.isub, 1) := by decide +kernel
theorem d4_32 : decode method_4_code 32 = .ok (.irem, 1) := by decide +kernel
theorem d4_33 : decode method_4_code 33 = .ok (.iadd, 1) := by decide +kernel
theorem d4_34 : decode method_4_code 34 = .ok (.imul, 1) := by decide +kernel
theorem d4_35 : decode method_4_code 35 = .ok (.ireturn, 1) := by decide +kernel
theorem ef_4 (m : MethodId) (x0 : Addr) (x1 : Int32) (x2 : Int32) (x3 : Int32) (x4 : Int32) : entryFrame m #[(.ref x0), (.int x1), (.int x2), (.int x3), (.int x4)] 6 = mkF m 0 #[.val (.ref x0), .val (.int x1), .val (.int x2), .val (.int x3), .val (.int x4), .unset] [] := by first | (simp [entryFrame, mkF, argsToLocals, Value.category]; done) | rfl
def Q4 (Z : State) (a : Addr) (i : Int32) (sa : Int32) (ea : Int32) (ta : Int32) (kc : ClassId) (z : Int32) (vs : List Value) (dv : Value) (h0 : Heap) (n0 : Nat) (vα : Option Value) (hα : Heap) (Lα : List Loc) : Prop := vα = some (.int (own_term vs dv i sa ea ta)) ∧ Fr n0 Lα ∧ hα = h0
set_option maxRecDepth 65536 in
set_option maxHeartbeats 40000000 in
theorem rm4 (l : Launch) (Z : State) (a0 : Array Value) (hw : ∀ d ∈ tables_1, d.before a0 Z = true) (ws : List Jvm.Cond) (a : Addr) (i : Int32) (sa : Int32) (ea : Int32) (ta : Int32) (kc : ClassId) (z : Int32) (vs : List Value) (dv : Value) (h0 : Heap) (n0 : Nat) (Z0 : n0 ≤ h0.size) (V_a : Arv Z h0 a kc .byte z vs dv) (hib : ¬ i < 0 ∧ i < z) (hta : ta - (1 : Int32) ≠ 0) :
    MetFree l (⟨"com/example/campo_livre/campolivre/CheckDigitsModulo11PinLaw", "term", "([BIIII)I"⟩ : MethodName) (head1 (Jvm.Cond.code (⟨"com/example/campo_livre/campolivre/CheckDigitsModulo11PinLaw", "term", "([BIIII)I"⟩ : MethodName) method_4_code 6 (some .int) :: ws) ({ frames := 0, cells := 0, slots := 0, locals := 0 } : Room)) (fun aα U => aα = #[(.ref a), (.int i), (.int sa), (.int ea), (.int ta)] ∧ Z.Warmed39 U.vm ∧ U.heap = h0) (fun _ _ _ _ _ => True) (fun _ U oα U' => ∃ vα Lα, oα = .returned vα ∧ Q4 Z a i sa ea ta kc z vs dv h0 n0 vα U'.heap Lα ∧ FrameEnd U oα U' Lα ({ frames := 0, cells := 0, slots := 0, locals := 0 } : Room).cells ({ frames := 0, cells := 0, slots := 0, locals := 0 } : Room).slots) := by
  refine MetFree.of_bodySF (plainFor_of_name pn_0) hisR ?_
  intro p e s m args below meth c s₁ Bd hml0 hP hK
  refine own_wrap ?_
  intro GL hGL
  obtain ⟨rfl, hZ, hh⟩ := hP
  have hx := Bd.exec
  have hby := Bd.bytes
  have hml : c.maxLocals = 6 := hml0
  have hown : s.vm.findClass "com/example/campo_livre/campolivre/CheckDigitsModulo11PinLaw" = some m.cls := findClass_of_methodNamed Bd.named
  have hnm := (name_of_methodNamed Bd.named Bd.method).1
  have X0 : Stand p l e ({ frames := 0, cells := 0, slots := 0, locals := 0 } : Room) s m #[(.ref a), (.int i), (.int sa), (.int ea), (.int ta)] below meth c s₁ [] 0 0 := Stand.of_body Bd
  have e0 : s₁.heap = h0 := by rw [← hh, Bd.state]; rfl
  have N0 := Fr.nil n0
  have pre0 : ∀ τ, Steps p.tables e below (s₁.setTop (mkF m 0 #[.val (.ref a), .val (.int i), .val (.int sa), .val (.int ea), .val (.int ta), .unset] [])) τ → Steps p.tables e below (s₁.setTop (entryFrame m #[(.ref a), (.int i), (.int sa), (.int ea), (.int ta)] 6)) τ := fun τ κ => castTop (ef_4 m a i sa ea ta) κ
  obtain ⟨G, hG, pre⟩ : ∃ G : State → Prop, (∀ τ, G τ → Steps p.tables e below (s₁.setTop (entryFrame m #[(.ref a), (.int i), (.int sa), (.int ea), (.int ta)] 6)) τ) ∧ ∀ τ, Steps p.tables e below (s₁.setTop (mkF m 0 #[.val (.ref a), .val (.int i), .val (.int sa), .val (.int ea), .val (.int ta), .unset] [])) τ → G τ := ⟨_, pre0, fun _ k => k⟩
  have K : Keep h0 h0 [] := Keep.refl h0 _
  have Zn := Z0
  have pre : ∀ τ, Steps p.tables e below (s₁.setTop (mkF m 2 #[.val (.ref a), .val (.int i), .val (.int sa), .val (.int ea), .val (.int ta), .unset] [(.int sa), (.int i)])) τ → G τ := fun τ κ => pre τ (by
    refine XS.iloadN X0.here hx rfl (hb hby d4_0) rfl ?_
    show Steps p.tables e below (s₁.setTop (mkF m 1 #[.val (.ref a), .val (.int i), .val (.int sa), .val (.int ea), .val (.int ta), .unset] [(.int i)])) τ
    refine XS.iloadN X0.here hx rfl (hb hby d4_1) rfl ?_
    show Steps p.tables e below (s₁.setTop (mkF m 2 #[.val (.ref a), .val (.int i), .val (.int sa), .val (.int ea), .val (.int ta), .unset] [(.int sa), (.int i)])) τ
    exact κ)
  rcases Classical.em (i < sa) with hc2_1 | hc2_1
  ·
    have pre : ∀ τ, Steps p.tables e below (s₁.setTop (mkF m 11 #[.val (.ref a), .val (.int i), .val (.int sa), .val (.int ea), .val (.int ta), .unset] [(.int (0 : Int32))])) τ → G τ := fun τ κ => pre τ (by
      refine XS.icmpYes X0.here hx rfl (pc0 := 2) (pc' := 10) rfl (hb hby d4_2) rfl (tlt hc2_1).1 (by decide) (by decide) ?_
      show Steps p.tables e below (s₁.setTop (mkF m 10 #[.val (.ref a), .val (.int i), .val (.int sa), .val (.int ea), .val (.int ta), .unset] [])) τ
      refine XS.iconst X0.here hx rfl (hb hby d4_10) ?_
      show Steps p.tables e below (s₁.setTop (mkF m 11 #[.val (.ref a), .val (.int i), .val (.int sa), .val (.int ea), .val (.int ta), .unset] [(.int (0 : Int32))])) τ
      exact κ)
    obtain ⟨fsα, hr, hrun, hended, hW, hsame⟩ := X0.leave (v := some (.int (0 : Int32))) (fun h => by rw [Bd.returns] at h; cases h)
    refine hGL ⟨_, _, hG _ (pre _ ?_), hrun, hended, _, _, rfl, ?_, ⟨_, rfl⟩, hW, hsame.mono (by decide) (by decide)⟩
    · exact retOut X0 hx Bd.returns rfl (Or.inl ⟨rfl, Or.inl rfl, _, rfl⟩) (hb hby d4_11) hr
    · show Q4 Z a i sa ea ta kc z vs dv h0 n0 _ s₁.heap _
      rw [e0]
      refine ⟨?_, N0, rfl⟩
      unfold own_term
      rw [if_pos hc2_1]
  ·
    have pre : ∀ τ, Steps p.tables e below (s₁.setTop (mkF m 7 #[.val (.ref a), .val (.int i), .val (.int sa), .val (.int ea), .val (.int ta), .unset] [(.int ea), (.int i)])) τ → G τ := fun τ κ => pre τ (by
      refine XS.icmpNo X0.here hx rfl (hb hby d4_2) rfl (flt hc2_1).1 ?_
      show Steps p.tables e below (s₁.setTop (mkF m 5 #[.val (.ref a), .val (.int i), .val (.int sa), .val (.int ea), .val (.int ta), .unset] [])) τ
      refine XS.iloadN X0.here hx rfl (hb hby d4_5) rfl ?_
      show Steps p.tables e below (s₁.setTop (mkF m 6 #[.val (.ref a), .val (.int i), .val (.int sa), .val (.int ea), .val (.int ta), .unset] [(.int i)])) τ
      refine XS.iloadN X0.here hx rfl (hb hby d4_6) rfl ?_
      show Steps p.tables e below (s₁.setTop (mkF m 7 #[.val (.ref a), .val (.int i), .val (.int sa), .val (.int ea), .val (.int ta), .unset] [(.int ea), (.int i)])) τ
      exact κ)
    rcases Classical.em (i < ea) with hc7_2 | hc7_2
    ·
      have pre : ∀ τ, Steps p.tables e below (s₁.setTop (mkF m 21 #[.val (.ref a), .val (.int i), .val (.int sa), .val (.int ea), .val (.int ta), .val (.int ((ea - (1 : Int32)) - i))] [(.int i), (.ref a)])) τ → G τ := fun τ κ => pre τ (by
        refine XS.icmpYes X0.here hx rfl (pc0 := 7) (pc' := 12) rfl (hb hby d4_7) rfl (tlt hc7_2).1 (by decide) (by decide) ?_
        show Steps p.tables e below (s₁.setTop (mkF m 12 #[.val (.ref a), .val (.int i), .val (.int sa), .val (.int ea), .val (.int ta), .unset] [])) τ
        refine XS.iloadN X0.here hx rfl (hb hby d4_12) rfl ?_
        show Steps p.tables e below (s₁.setTop (mkF m 13 #[.val (.ref a), .val (.int i), .val (.int sa), .val (.int ea), .val (.int ta), .unset] [(.int ea)])) τ
        refine XS.iconst X0.here hx rfl (hb hby d4_13) ?_
        show Steps p.tables e below (s₁.setTop (mkF m 14 #[.val (.ref a), .val (.int i), .val (.int sa), .val (.int ea), .val (.int ta), .unset] [(.int (1 : Int32)), (.int ea)])) τ
        refine XS.isub X0.here hx rfl (hb hby d4_14) rfl ?_
        show Steps p.tables e below (s₁.setTop (mkF m 15 #[.val (.ref a), .val (.int i), .val (.int sa), .val (.int ea), .val (.int ta), .unset] [(.int (ea - (1 : Int32)))])) τ
        refine XS.iloadN X0.here hx rfl (hb hby d4_15) rfl ?_
        show Steps p.tables e below (s₁.setTop (mkF m 16 #[.val (.ref a), .val (.int i), .val (.int sa), .val (.int ea), .val (.int ta), .unset] [(.int i), (.int (ea - (1 : Int32)))])) τ
        refine XS.isub X0.here hx rfl (hb hby d4_16) rfl ?_
        show Steps p.tables e below (s₁.setTop (mkF m 17 #[.val (.ref a), .val (.int i), .val (.int sa), .val (.int ea), .val (.int ta), .unset] [(.int ((ea - (1 : Int32)) - i))])) τ
        refine XS.istore X0.here hx rfl (hb hby d4_17) rfl (l' := #[.val (.ref a), .val (.int i), .val (.int sa), .val (.int ea), .val (.int ta), .val (.int ((ea - (1 : Int32)) - i))]) rfl ?_
        show Steps p.tables e below (s₁.setTop (mkF m 19 #[.val (.ref a), .val (.int i), .val (.int sa), .val (.int ea), .val (.int ta), .val (.int ((ea - (1 : Int32)) - i))] [])) τ
        refine XS.aloadN X0.here hx rfl (hb hby d4_19) rfl rfl ?_
        show Steps p.tables e below (s₁.setTop (mkF m 20 #[.val (.ref a), .val (.int i), .val (.int sa), .val (.int ea), .val (.int ta), .val (.int ((ea - (1 : Int32)) - i))] [(.ref a)])) τ
        refine XS.iloadN X0.here hx rfl (hb hby d4_20) rfl ?_
        show Steps p.tables e below (s₁.setTop (mkF m 21 #[.val (.ref a), .val (.int i), .val (.int sa), .val (.int ea), .val (.int ta), .val (.int ((ea - (1 : Int32)) - i))] [(.int i), (.ref a)])) τ
        exact κ)
      obtain ⟨c3, Ar3, q3, S3, Nz3, Hh3, Gg3⟩ := id V_a
      have hin3 : ¬ (i < 0 ∨ c3.slots.size ≤ (i).toNatClampNeg) := inb_of S3 hib
      have hat3 : c3.slots[(i).toNatClampNeg]? = some (.int (own_at vs dv i)) := own_get Hh3 Gg3 hin3
      have pre : ∀ τ, Steps p.tables e below (s₁.setTop (mkF m 22 #[.val (.ref a), .val (.int i), .val (.int sa), .val (.int ea), .val (.int ta), .val (.int ((ea - (1 : Int32)) - i))] [(.int (own_at vs dv i))])) τ → G τ := fun τ κ => pre τ (X0.baloadBytes hx (j := i) (v := (.int (own_at vs dv i))) (by rw [e0]; exact Ar3.1) (State.isArrayOf_alike hZ.alike Ar3.2.1) Ar3.2.2 hin3 hat3 (g := (mkF m 21 #[.val (.ref a), .val (.int i), .val (.int sa), .val (.int ea), .val (.int ta), .val (.int ((ea - (1 : Int32)) - i))] [(.int i), (.ref a)])) rfl rfl (hb hby d4_21) _ κ)
      have pre : ∀ τ, Steps p.tables e below (s₁.setTop (mkF m 35 #[.val (.ref a), .val (.int i), .val (.int sa), .val (.int ea), .val (.int ta), .val (.int ((ea - (1 : Int32)) - i))] [(.int (((own_at vs dv i) - (48 : Int32)) * ((2 : Int32) + (((ea - (1 : Int32)) - i) % (ta - (1 : Int32))))))])) τ → G τ := fun τ κ => pre τ (by
        refine XS.bipush X0.here hx rfl (hb hby d4_22) ?_
        show Steps p.tables e below (s₁.setTop (mkF m 24 #[.val (.ref a), .val (.int i), .val (.int sa), .val (.int ea), .val (.int ta), .val (.int ((ea - (1 : Int32)) - i))] [(.int (48 : Int32)), (.int (own_at vs dv i))])) τ
        refine XS.isub X0.here hx rfl (hb hby d4_24) rfl ?_
        show Steps p.tables e below (s₁.setTop (mkF m 25 #[.val (.ref a), .val (.int i), .val (.int sa), .val (.int ea), .val (.int ta), .val (.int ((ea - (1 : Int32)) - i))] [(.int ((own_at vs dv i) - (48 : Int32)))])) τ
        refine XS.iconst X0.here hx rfl (hb hby d4_25) ?_
        show Steps p.tables e below (s₁.setTop (mkF m 26 #[.val (.ref a), .val (.int i), .val (.int sa), .val (.int ea), .val (.int ta), .val (.int ((ea - (1 : Int32)) - i))] [(.int (2 : Int32)), (.int ((own_at vs dv i) - (48 : Int32)))])) τ
        refine XS.iload X0.here hx rfl (hb hby d4_26) rfl ?_
        show Steps p.tables e below (s₁.setTop (mkF m 28 #[.val (.ref a), .val (.int i), .val (.int sa), .val (.int ea), .val (.int ta), .val (.int ((ea - (1 : Int32)) - i))] [(.int ((ea - (1 : Int32)) - i)), (.int (2 : Int32)), (.int ((own_at vs dv i) - (48 : Int32)))])) τ
        refine XS.iload X0.here hx rfl (hb hby d4_28) rfl ?_
        show Steps p.tables e below (s₁.setTop (mkF m 30 #[.val (.ref a), .val (.int i), .val (.int sa), .val (.int ea), .val (.int ta), .val (.int ((ea - (1 : Int32)) - i))] [(.int ta), (.int ((ea - (1 : Int32)) - i)), (.int (2 : Int32)), (.int ((own_at vs dv i) - (48 : Int32)))])) τ
        refine XS.iconst X0.here hx rfl (hb hby d4_30) ?_
        show Steps p.tables e below (s₁.setTop (mkF m 31 #[.val (.ref a), .val (.int i), .val (.int sa), .val (.int ea), .val (.int ta), .val (.int ((ea - (1 : Int32)) - i))] [(.int (1 : Int32)), (.int ta), (.int ((ea - (1 : Int32)) - i)), (.int (2 : Int32)), (.int ((own_at vs dv i) - (48 : Int32)))])) τ
        refine XS.isub X0.here hx rfl (hb hby d4_31) rfl ?_
        show Steps p.tables e below (s₁.setTop (mkF m 32 #[.val (.ref a), .val (.int i), .val (.int sa), .val (.int ea), .val (.int ta), .val (.int ((ea - (1 : Int32)) - i))] [(.int (ta - (1 : Int32))), (.int ((ea - (1 : Int32)) - i)), (.int (2 : Int32)), (.int ((own_at vs dv i) - (48 : Int32)))])) τ
        refine iremM X0 hx rfl (hb hby d4_32) rfl hta ?_
        show Steps p.tables e below (s₁.setTop (mkF m 33 #[.val (.ref a), .val (.int i), .val (.int sa), .val (.int ea), .val (.int ta), .val (.int ((ea - (1 : Int32)) - i))] [(.int (((ea - (1 : Int32)) - i) % (ta - (1 : Int32)))), (.int (2 : Int32)), (.int ((own_at vs dv i) - (48 : Int32)))])) τ
        refine XS.iadd X0.here hx rfl (hb hby d4_33) rfl ?_
        show Steps p.tables e below (s₁.setTop (mkF m 34 #[.val (.ref a), .val (.int i), .val (.int sa), .val (.int ea), .val (.int ta), .val (.int ((ea - (1 : Int32)) - i))] [(.int ((2 : Int32) + (((ea - (1 : Int32)) - i) % (ta - (1 : Int32))))), (.int ((own_at vs dv i) - (48 : Int32)))])) τ
        refine XS.imul X0.here hx rfl (hb hby d4_34) rfl ?_
        show Steps p.tables e below (s₁.setTop (mkF m 35 #[.val (.ref a), .val (.int i), .val (.int sa), .val (.int ea), .val (.int ta), .val (.int ((ea - (1 : Int32)) - i))] [(.int (((own_at vs dv i) - (48 : Int32)) * ((2 : Int32) + (((ea - (1 : Int32)) - i) % (ta - (1 : Int32))))))])) τ
        exact κ)
      obtain ⟨fsα, hr, hrun, hended, hW, hsame⟩ := X0.leave (v := some (.int (((own_at vs dv i) - (48 : Int32)) * ((2 : Int32) + (((ea - (1 : Int32)) - i) % (ta - (1 : Int32))))))) (fun h => by rw [Bd.returns] at h; cases h)
      refine hGL ⟨_, _, hG _ (pre _ ?_), hrun, hended, _, _, rfl, ?_, ⟨_, rfl⟩, hW, hsame.mono (by decide) (by decide)⟩
      · exact retOut X0 hx Bd.returns rfl (Or.inl ⟨rfl, Or.inl rfl, _, rfl⟩) (hb hby d4_35) hr
      · show Q4 Z a i sa ea ta kc z vs dv h0 n0 _ s₁.heap _
        rw [e0]
        refine ⟨?_, N0, rfl⟩
        unfold own_term
        rw [if_neg hc2_1]
        rw [if_pos hc7_2]
    ·
      have pre : ∀ τ, Steps p.tables e below (s₁.setTop (mkF m 11 #[.val (.ref a), .val (.int i), .val (.int sa), .val (.int ea), .val (.int ta), .unset] [(.int (0 : Int32))])) τ → G τ := fun τ κ => pre τ (by
        refine XS.icmpNo X0.here hx rfl (hb hby d4_7) rfl (flt hc7_2).1 ?_
        show Steps p.tables e below (s₁.setTop (mkF m 10 #[.val (.ref a), .val (.int i), .val (.int sa), .val (.int ea), .val (.int ta), .unset] [])) τ
        refine XS.iconst X0.here hx rfl (hb hby d4_10) ?_
        show Steps p.tables e below (s₁.setTop (mkF m 11 #[.val (.ref a), .val (.int i), .val (.int sa), .val (.int ea), .val (.int ta), .unset] [(.int (0 : Int32))])) τ
        exact κ)
      obtain ⟨fsα, hr, hrun, hended, hW, hsame⟩ := X0.leave (v := some (.int (0 : Int32))) (fun h => by rw [Bd.returns] at h; cases h)
      refine hGL ⟨_, _, hG _ (pre _ ?_), hrun, hended, _, _, rfl, ?_, ⟨_, rfl⟩, hW, hsame.mono (by decide) (by decide)⟩
      · exact retOut X0 hx Bd.returns rfl (Or.inl ⟨rfl, Or.inl rfl, _, rfl⟩) (hb hby d4_11) hr
      · show Q4 Z a i sa ea ta kc z vs dv h0 n0 _ s₁.heap _
        rw [e0]
        refine ⟨?_, N0, rfl⟩
        unfold own_term
        rw [if_neg hc2_1]
        rw [if_neg hc7_2]
theorem pn_1 : plainName "com/example/campo_livre/campolivre/CheckDigits" = true := by first | (simp [plainName, overriddenIn]; done) | decide +kernel
theorem d6_0 : decode prog_16_method_9_code 0 = .ok (.iconst 0, 1) := by decide +kernel
theorem d6_1 : decode prog_16_method_9_code 1 = .ok (.istore 5, 2) := by decide +kernel
theorem d6_3 : decode prog_16_method_9_code 3 = .ok (.iconst 2, 1) := by decide +kernel
theorem d6_4 : decode prog_16_method_9_code 4 = .ok (.istore 6, 2) := by decide +kernel
theorem d6_6 : decode prog_16_method_9_code 6 = .ok (.iload_n 2, 1) := by decide +kernel
theorem d6_7 : decode prog_16_method_9_code 7 = .ok (.iconst 1, 1) := by decide +kernel
theorem d6_8 : decode prog_16_method_9_code 8 = .ok (.isub, 1) := by decide +kernel
theorem d6_9 : decode prog_16_method_9_code 9 = .ok (.istore 7, 2) := by decide +kernel
theorem d6_11 : decode prog_16_method_9_code 11 = .ok (.iload 7, 2) := by decide +kernel
theorem d6_13 : decode prog_16_method_9_code 13 = .ok (.iload_n 1, 1) := by decide +kernel
theorem d6_14 : decode prog_16_method_9_code 14 = .ok (.if_icmp .lt 47, 3) := by decide +kernel
theorem d6_61 : decode prog_16_method_9_code 61 = .ok (.iload 5, 2) := by decide +kernel
theorem d6_63 : decode prog_16_method_9_code 63 = .ok (.ireturn, 1) := by decide +kernel
theorem d6_17 : decode prog_16_method_9_code 17 = .ok (.iload 7, 2) := by decide +kernel
theorem d6_19 : decode prog_16_method_9_code 19 = .ok (.iload_n 3, 1) := by decide +kernel
theorem d6_20 : decode prog_16_method_9_code 20 = .ok (.if_icmp .eq 35, 3) := by decide +kernel
theorem d6_23 : decode prog_16_method_9_code 23 = .ok (.iload 5, 2) := by decide +kernel
theorem d6_25 : decode prog_16_method_9_code 25 = .ok (.aload_n 0, 1) := by decide +kernel
theorem d6_26 : decode prog_16_method_9_code 26 = .ok (.iload 7, 2) := by decide +kernel
theorem d6_28 : decode prog_16_method_9_code 28 = .ok (.baload, 1) := by decide +kernel
theorem d6_29 : decode prog_16_method_9_code 29 = .ok (.bipush 48, 2) := by decide +kernel
theorem d6_31 : decode prog_16_method_9_code 31 = .ok (.isub, 1) := by decide +kernel
theorem d6_32 : decode prog_16_method_9_code 32 = .ok (.iload 6, 2) := by decide +kernel
theorem d6_34 : decode prog_16_method_9_code 34 = .ok (.imul, 1) := by decide +kernel
theorem d6_35 : decode prog_16_method_9_code 35 = .ok (.iadd, 1) := by decide +kernel
theorem d6_36 : decode prog_16_method_9_code 36 = .ok (.istore 5, 2) := by decide +kernel
theorem d6_38 : decode prog_16_method_9_code 38 = .ok (.iload 6, 2) := by decide +kernel
theorem d6_40 : decode prog_16_method_9_code 40 = .ok (.iload 4, 2) := by decide +kernel
theorem d6_42 : decode prog_16_method_9_code 42 = .ok (.if_icmp .ne 7, 3) := by decide +kernel
theorem d6_45 : decode prog_16_method_9_code 45 = .ok (.iconst 2, 1) := by decide +kernel
theorem d6_46 : decode prog_16_method_9_code 46 = .ok (.goto 7, 3) := by decide +kernel
theorem d6_53 : decode prog_16_method_9_code 53 = .ok (.istore 6, 2) := by decide +kernel
theorem d6_55 : decode prog_16_method_9_code 55 = .ok (.iinc 7 (-1), 3) := by decide +kernel
theorem d6_58 : decode prog_16_method_9_code 58 = .ok (.goto (-47), 3) := by decide +kernel
theorem d6_49 : decode prog_16_method_9_code 49 = .ok (.iload 6, 2) := by decide +kernel
theorem d6_51 : decode prog_16_method_9_code 51 = .ok (.iconst 1, 1) := by decide +kernel
theorem d6_52 : decode prog_16_method_9_code 52 = .ok (.iadd, 1) := by decide +kernel
theorem ef_6 (m : MethodId) (x0 : Addr) (x1 : Int32) (x2 : Int32) (x3 : Int32) (x4 : Int32) : entryFrame m #[(.ref x0), (.int x1), (.int x2), (.int x3), (.int x4)] 8 = mkF m 0 #[.val (.ref x0), .val (.int x1), .val (.int x2), .val (.int x3), .val (.int x4), .unset, .unset, .unset] [] := by first | (simp [entryFrame, mkF, argsToLocals, Value.category]; done) | rfl
def Q6 (Z : State) (a : Addr) (sa : Int32) (ea : Int32) (sk : Int32) (ta : Int32) (kc : ClassId) (z : Int32) (vs : List Value) (dv : Value) (h0 : Heap) (n0 : Nat) (vα : Option Value) (hα : Heap) (Lα : List Loc) : Prop := vα = some (.int (own_lp vs dv ta (ea.toInt - sa.toInt).toNat (ea - (1 : Int32)) (0 : Int32) (2 : Int32))) ∧ Fr n0 Lα ∧ hα = h0
set_option maxRecDepth 65536 in
set_option maxHeartbeats 40000000 in
theorem rm6 (l : Launch) (Z : State) (a0 : Array Value) (hw : ∀ d ∈ tables_1, d.before a0 Z = true) (ws : List Jvm.Cond) (a : Addr) (sa : Int32) (ea : Int32) (sk : Int32) (ta : Int32) (kc : ClassId) (z : Int32) (vs : List Value) (dv : Value) (h0 : Heap) (n0 : Nat) (Z0 : n0 ≤ h0.size) (V_a : Arv Z h0 a kc .byte z vs dv) (hs0 : 0 ≤ sa.toInt) (hse : sa.toInt ≤ ea.toInt) (hez : ea.toInt ≤ z.toInt) (hsk : (-1 : Int32) = sk) :
    MetFree l (⟨"com/example/campo_livre/campolivre/CheckDigits", "modulo11Sum", "([BIIII)I"⟩ : MethodName) (head1 (Jvm.Cond.code (⟨"com/example/campo_livre/campolivre/CheckDigits", "modulo11Sum", "([BIIII)I"⟩ : MethodName) prog_16_method_9_code 8 (some .int) :: ws) ({ frames := 0, cells := 0, slots := 0, locals := 0 } : Room)) (fun aα U => aα = #[(.ref a), (.int sa), (.int ea), (.int sk), (.int ta)] ∧ Z.Warmed39 U.vm ∧ U.heap = h0) (fun _ _ _ _ _ => True) (fun _ U oα U' => ∃ vα Lα, oα = .returned vα ∧ Q6 Z a sa ea sk ta kc z vs dv h0 n0 vα U'.heap Lα ∧ FrameEnd U oα U' Lα ({ frames := 0, cells := 0, slots := 0, locals := 0 } : Room).cells ({ frames := 0, cells := 0, slots := 0, locals := 0 } : Room).slots) := by
  refine MetFree.of_bodySF (plainFor_of_name pn_1) hisR ?_
  intro p e s m args below meth c s₁ Bd hml0 hP hK
  refine own_wrap ?_
  intro GL hGL
  obtain ⟨rfl, hZ, hh⟩ := hP
  have hx := Bd.exec
  have hby := Bd.bytes
  have hml : c.maxLocals = 8 := hml0
  have hown : s.vm.findClass "com/example/campo_livre/campolivre/CheckDigits" = some m.cls := findClass_of_methodNamed Bd.named
  have hnm := (name_of_methodNamed Bd.named Bd.method).1
  have X0 : Stand p l e ({ frames := 0, cells := 0, slots := 0, locals := 0 } : Room) s m #[(.ref a), (.int sa), (.int ea), (.int sk), (.int ta)] below meth c s₁ [] 0 0 := Stand.of_body Bd
  have e0 : s₁.heap = h0 := by rw [← hh, Bd.state]; rfl
  have N0 := Fr.nil n0
  have pre0 : ∀ τ, Steps p.tables e below (s₁.setTop (mkF m 0 #[.val (.ref a), .val (.int sa), .val (.int ea), .val (.int sk), .val (.int ta), .unset, .unset, .unset] [])) τ → Steps p.tables e below (s₁.setTop (entryFrame m #[(.ref a), (.int sa), (.int ea), (.int sk), (.int ta)] 8)) τ := fun τ κ => castTop (ef_6 m a sa ea sk ta) κ
  obtain ⟨G, hG, pre⟩ : ∃ G : State → Prop, (∀ τ, G τ → Steps p.tables e below (s₁.setTop (entryFrame m #[(.ref a), (.int sa), (.int ea), (.int sk), (.int ta)] 8)) τ) ∧ ∀ τ, Steps p.tables e below (s₁.setTop (mkF m 0 #[.val (.ref a), .val (.int sa), .val (.int ea), .val (.int sk), .val (.int ta), .unset, .unset, .unset] [])) τ → G τ := ⟨_, pre0, fun _ k => k⟩
  have K : Keep h0 h0 [] := Keep.refl h0 _
  have Zn := Z0
  have pre : ∀ τ, Steps p.tables e below (s₁.setTop (mkF m 11 #[.val (.ref a), .val (.int sa), .val (.int ea), .val (.int sk), .val (.int ta), .val (.int (0 : Int32)), .val (.int (2 : Int32)), .val (.int (ea - (1 : Int32)))] [])) τ → G τ := fun τ κ => pre τ (by
    refine XS.iconst X0.here hx rfl (hb hby d6_0) ?_
    show Steps p.tables e below (s₁.setTop (mkF m 1 #[.val (.ref a), .val (.int sa), .val (.int ea), .val (.int sk), .val (.int ta), .unset, .unset, .unset] [(.int (0 : Int32))])) τ
    refine XS.istore X0.here hx rfl (hb hby d6_1) rfl (l' := #[.val (.ref a), .val (.int sa), .val (.int ea), .val (.int sk), .val (.int ta), .val (.int (0 : Int32)), .unset, .unset]) rfl ?_
    show Steps p.tables e below (s₁.setTop (mkF m 3 #[.val (.ref a), .val (.int sa), .val (.int ea), .val (.int sk), .val (.int ta), .val (.int (0 : Int32)), .unset, .unset] [])) τ
    refine XS.iconst X0.here hx rfl (hb hby d6_3) ?_
    show Steps p.tables e below (s₁.setTop (mkF m 4 #[.val (.ref a), .val (.int sa), .val (.int ea), .val (.int sk), .val (.int ta), .val (.int (0 : Int32)), .unset, .unset] [(.int (2 : Int32))])) τ
    refine XS.istore X0.here hx rfl (hb hby d6_4) rfl (l' := #[.val (.ref a), .val (.int sa), .val (.int ea), .val (.int sk), .val (.int ta), .val (.int (0 : Int32)), .val (.int (2 : Int32)), .unset]) rfl ?_
    show Steps p.tables e below (s₁.setTop (mkF m 6 #[.val (.ref a), .val (.int sa), .val (.int ea), .val (.int sk), .val (.int ta), .val (.int (0 : Int32)), .val (.int (2 : Int32)), .unset] [])) τ
    refine XS.iloadN X0.here hx rfl (hb hby d6_6) rfl ?_
    show Steps p.tables e below (s₁.setTop (mkF m 7 #[.val (.ref a), .val (.int sa), .val (.int ea), .val (.int sk), .val (.int ta), .val (.int (0 : Int32)), .val (.int (2 : Int32)), .unset] [(.int ea)])) τ
    refine XS.iconst X0.here hx rfl (hb hby d6_7) ?_
    show Steps p.tables e below (s₁.setTop (mkF m 8 #[.val (.ref a), .val (.int sa), .val (.int ea), .val (.int sk), .val (.int ta), .val (.int (0 : Int32)), .val (.int (2 : Int32)), .unset] [(.int (1 : Int32)), (.int ea)])) τ
    refine XS.isub X0.here hx rfl (hb hby d6_8) rfl ?_
    show Steps p.tables e below (s₁.setTop (mkF m 9 #[.val (.ref a), .val (.int sa), .val (.int ea), .val (.int sk), .val (.int ta), .val (.int (0 : Int32)), .val (.int (2 : Int32)), .unset] [(.int (ea - (1 : Int32)))])) τ
    refine XS.istore X0.here hx rfl (hb hby d6_9) rfl (l' := #[.val (.ref a), .val (.int sa), .val (.int ea), .val (.int sk), .val (.int ta), .val (.int (0 : Int32)), .val (.int (2 : Int32)), .val (.int (ea - (1 : Int32)))]) rfl ?_
    show Steps p.tables e below (s₁.setTop (mkF m 11 #[.val (.ref a), .val (.int sa), .val (.int ea), .val (.int sk), .val (.int ta), .val (.int (0 : Int32)), .val (.int (2 : Int32)), .val (.int (ea - (1 : Int32)))] [])) τ
    exact κ)
  have loop : ∀ (n : Nat) (i : Int32) (sm : Int32) (wt : Int32) (hn : i.toInt = sa.toInt + (n : Int) - 1) (hi : i.toInt < ea.toInt) (hres : own_lp vs dv ta n i sm wt = own_lp vs dv ta (ea.toInt - sa.toInt).toNat (ea - (1 : Int32)) (0 : Int32) (2 : Int32)) (pre : ∀ τ, Steps p.tables e below (s₁.setTop (mkF m 11 #[.val (.ref a), .val (.int sa), .val (.int ea), .val (.int sk), .val (.int ta), .val (.int sm), .val (.int wt), .val (.int i)] [])) τ → G τ), GL := by
    intro n
    induction n with
    | zero =>
      intro i sm wt hn hi hres pre
      have pre : ∀ τ, Steps p.tables e below (s₁.setTop (mkF m 14 #[.val (.ref a), .val (.int sa), .val (.int ea), .val (.int sk), .val (.int ta), .val (.int sm), .val (.int wt), .val (.int i)] [(.int sa), (.int i)])) τ → G τ := fun τ κ => pre τ (by
        refine XS.iload X0.here hx rfl (hb hby d6_11) rfl ?_
        show Steps p.tables e below (s₁.setTop (mkF m 13 #[.val (.ref a), .val (.int sa), .val (.int ea), .val (.int sk), .val (.int ta), .val (.int sm), .val (.int wt), .val (.int i)] [(.int i)])) τ
        refine XS.iloadN X0.here hx rfl (hb hby d6_13) rfl ?_
        show Steps p.tables e below (s₁.setTop (mkF m 14 #[.val (.ref a), .val (.int sa), .val (.int ea), .val (.int sk), .val (.int ta), .val (.int sm), .val (.int wt), .val (.int i)] [(.int sa), (.int i)])) τ
        exact κ)
      have hc1 : i < sa := own_z hn
      have pre : ∀ τ, Steps p.tables e below (s₁.setTop (mkF m 63 #[.val (.ref a), .val (.int sa), .val (.int ea), .val (.int sk), .val (.int ta), .val (.int sm), .val (.int wt), .val (.int i)] [(.int sm)])) τ → G τ := fun τ κ => pre τ (by
        refine XS.icmpYes X0.here hx rfl (pc0 := 14) (pc' := 61) rfl (hb hby d6_14) rfl (tlt hc1).1 (by decide) (by decide) ?_
        show Steps p.tables e below (s₁.setTop (mkF m 61 #[.val (.ref a), .val (.int sa), .val (.int ea), .val (.int sk), .val (.int ta), .val (.int sm), .val (.int wt), .val (.int i)] [])) τ
        refine XS.iload X0.here hx rfl (hb hby d6_61) rfl ?_
        show Steps p.tables e below (s₁.setTop (mkF m 63 #[.val (.ref a), .val (.int sa), .val (.int ea), .val (.int sk), .val (.int ta), .val (.int sm), .val (.int wt), .val (.int i)] [(.int sm)])) τ
        exact κ)
      obtain ⟨fsα, hr, hrun, hended, hW, hsame⟩ := X0.leave (v := some (.int sm)) (fun h => by rw [Bd.returns] at h; cases h)
      refine hGL ⟨_, _, hG _ (pre _ ?_), hrun, hended, _, _, rfl, ?_, ⟨_, rfl⟩, hW, hsame.mono (by decide) (by decide)⟩
      · exact retOut X0 hx Bd.returns rfl (Or.inl ⟨rfl, Or.inl rfl, _, rfl⟩) (hb hby d6_63) hr
      · show Q6 Z a sa ea sk ta kc z vs dv h0 n0 _ s₁.heap _
        rw [e0]
        exact ⟨congrArg (fun q => some (Value.int q)) hres, N0, rfl⟩
    | succ n ih =>
      intro i sm wt hn hi hres pre
      have pre : ∀ τ, Steps p.tables e below (s₁.setTop (mkF m 14 #[.val (.ref a), .val (.int sa), .val (.int ea), .val (.int sk), .val (.int ta), .val (.int sm), .val (.int wt), .val (.int i)] [(.int sa), (.int i)])) τ → G τ := fun τ κ => pre τ (by
        refine XS.iload X0.here hx rfl (hb hby d6_11) rfl ?_
        show Steps p.tables e below (s₁.setTop (mkF m 13 #[.val (.ref a), .val (.int sa), .val (.int ea), .val (.int sk), .val (.int ta), .val (.int sm), .val (.int wt), .val (.int i)] [(.int i)])) τ
        refine XS.iloadN X0.here hx rfl (hb hby d6_13) rfl ?_
        show Steps p.tables e below (s₁.setTop (mkF m 14 #[.val (.ref a), .val (.int sa), .val (.int ea), .val (.int sk), .val (.int ta), .val (.int sm), .val (.int wt), .val (.int i)] [(.int sa), (.int i)])) τ
        exact κ)
      have hc2 : ¬ (i < sa) := own_s hs0 hn
      have pre : ∀ τ, Steps p.tables e below (s₁.setTop (mkF m 20 #[.val (.ref a), .val (.int sa), .val (.int ea), .val (.int sk), .val (.int ta), .val (.int sm), .val (.int wt), .val (.int i)] [(.int sk), (.int i)])) τ → G τ := fun τ κ => pre τ (by
        refine XS.icmpNo X0.here hx rfl (hb hby d6_14) rfl (flt hc2).1 ?_
        show Steps p.tables e below (s₁.setTop (mkF m 17 #[.val (.ref a), .val (.int sa), .val (.int ea), .val (.int sk), .val (.int ta), .val (.int sm), .val (.int wt), .val (.int i)] [])) τ
        refine XS.iload X0.here hx rfl (hb hby d6_17) rfl ?_
        show Steps p.tables e below (s₁.setTop (mkF m 19 #[.val (.ref a), .val (.int sa), .val (.int ea), .val (.int sk), .val (.int ta), .val (.int sm), .val (.int wt), .val (.int i)] [(.int i)])) τ
        refine XS.iloadN X0.here hx rfl (hb hby d6_19) rfl ?_
        show Steps p.tables e below (s₁.setTop (mkF m 20 #[.val (.ref a), .val (.int sa), .val (.int ea), .val (.int sk), .val (.int ta), .val (.int sm), .val (.int wt), .val (.int i)] [(.int sk), (.int i)])) τ
        exact κ)
      have hc3 : ¬ (i = sk) := (hsk ▸ own_n1 hs0 hn)
      have pre : ∀ τ, Steps p.tables e below (s₁.setTop (mkF m 28 #[.val (.ref a), .val (.int sa), .val (.int ea), .val (.int sk), .val (.int ta), .val (.int sm), .val (.int wt), .val (.int i)] [(.int i), (.ref a), (.int sm)])) τ → G τ := fun τ κ => pre τ (by
        refine XS.icmpNo X0.here hx rfl (hb hby d6_20) rfl (feq hc3).1 ?_
        show Steps p.tables e below (s₁.setTop (mkF m 23 #[.val (.ref a), .val (.int sa), .val (.int ea), .val (.int sk), .val (.int ta), .val (.int sm), .val (.int wt), .val (.int i)] [])) τ
        refine XS.iload X0.here hx rfl (hb hby d6_23) rfl ?_
        show Steps p.tables e below (s₁.setTop (mkF m 25 #[.val (.ref a), .val (.int sa), .val (.int ea), .val (.int sk), .val (.int ta), .val (.int sm), .val (.int wt), .val (.int i)] [(.int sm)])) τ
        refine XS.aloadN X0.here hx rfl (hb hby d6_25) rfl rfl ?_
        show Steps p.tables e below (s₁.setTop (mkF m 26 #[.val (.ref a), .val (.int sa), .val (.int ea), .val (.int sk), .val (.int ta), .val (.int sm), .val (.int wt), .val (.int i)] [(.ref a), (.int sm)])) τ
        refine XS.iload X0.here hx rfl (hb hby d6_26) rfl ?_
        show Steps p.tables e below (s₁.setTop (mkF m 28 #[.val (.ref a), .val (.int sa), .val (.int ea), .val (.int sk), .val (.int ta), .val (.int sm), .val (.int wt), .val (.int i)] [(.int i), (.ref a), (.int sm)])) τ
        exact κ)
      obtain ⟨c4, Ar4, q4, S4, Nz4, Hh4, Gg4⟩ := id V_a
      have hin4 : ¬ (i < 0 ∨ c4.slots.size ≤ (i).toNatClampNeg) := inb_of S4 (own_in hs0 hn hi hez)
      have hat4 : c4.slots[(i).toNatClampNeg]? = some (.int (own_at vs dv i)) := own_get Hh4 Gg4 hin4
      have pre : ∀ τ, Steps p.tables e below (s₁.setTop (mkF m 29 #[.val (.ref a), .val (.int sa), .val (.int ea), .val (.int sk), .val (.int ta), .val (.int sm), .val (.int wt), .val (.int i)] [(.int (own_at vs dv i)), (.int sm)])) τ → G τ := fun τ κ => pre τ (X0.baloadBytes hx (j := i) (v := (.int (own_at vs dv i))) (by rw [e0]; exact Ar4.1) (State.isArrayOf_alike hZ.alike Ar4.2.1) Ar4.2.2 hin4 hat4 (g := (mkF m 28 #[.val (.ref a), .val (.int sa), .val (.int ea), .val (.int sk), .val (.int ta), .val (.int sm), .val (.int wt), .val (.int i)] [(.int i), (.ref a), (.int sm)])) rfl rfl (hb hby d6_28) _ κ)
      have pre : ∀ τ, Steps p.tables e below (s₁.setTop (mkF m 42 #[.val (.ref a), .val (.int sa), .val (.int ea), .val (.int sk), .val (.int ta), .val (.int (sm + (((own_at vs dv i) - (48 : Int32)) * wt))), .val (.int wt), .val (.int i)] [(.int ta), (.int wt)])) τ → G τ := fun τ κ => pre τ (by
        refine XS.bipush X0.here hx rfl (hb hby d6_29) ?_
        show Steps p.tables e below (s₁.setTop (mkF m 31 #[.val (.ref a), .val (.int sa), .val (.int ea), .val (.int sk), .val (.int ta), .val (.int sm), .val (.int wt), .val (.int i)] [(.int (48 : Int32)), (.int (own_at vs dv i)), (.int sm)])) τ
        refine XS.isub X0.here hx rfl (hb hby d6_31) rfl ?_
        show Steps p.tables e below (s₁.setTop (mkF m 32 #[.val (.ref a), .val (.int sa), .val (.int ea), .val (.int sk), .val (.int ta), .val (.int sm), .val (.int wt), .val (.int i)] [(.int ((own_at vs dv i) - (48 : Int32))), (.int sm)])) τ
        refine XS.iload X0.here hx rfl (hb hby d6_32) rfl ?_
        show Steps p.tables e below (s₁.setTop (mkF m 34 #[.val (.ref a), .val (.int sa), .val (.int ea), .val (.int sk), .val (.int ta), .val (.int sm), .val (.int wt), .val (.int i)] [(.int wt), (.int ((own_at vs dv i) - (48 : Int32))), (.int sm)])) τ
        refine XS.imul X0.here hx rfl (hb hby d6_34) rfl ?_
        show Steps p.tables e below (s₁.setTop (mkF m 35 #[.val (.ref a), .val (.int sa), .val (.int ea), .val (.int sk), .val (.int ta), .val (.int sm), .val (.int wt), .val (.int i)] [(.int (((own_at vs dv i) - (48 : Int32)) * wt)), (.int sm)])) τ
        refine XS.iadd X0.here hx rfl (hb hby d6_35) rfl ?_
        show Steps p.tables e below (s₁.setTop (mkF m 36 #[.val (.ref a), .val (.int sa), .val (.int ea), .val (.int sk), .val (.int ta), .val (.int sm), .val (.int wt), .val (.int i)] [(.int (sm + (((own_at vs dv i) - (48 : Int32)) * wt)))])) τ
        refine XS.istore X0.here hx rfl (hb hby d6_36) rfl (l' := #[.val (.ref a), .val (.int sa), .val (.int ea), .val (.int sk), .val (.int ta), .val (.int (sm + (((own_at vs dv i) - (48 : Int32)) * wt))), .val (.int wt), .val (.int i)]) rfl ?_
        show Steps p.tables e below (s₁.setTop (mkF m 38 #[.val (.ref a), .val (.int sa), .val (.int ea), .val (.int sk), .val (.int ta), .val (.int (sm + (((own_at vs dv i) - (48 : Int32)) * wt))), .val (.int wt), .val (.int i)] [])) τ
        refine XS.iload X0.here hx rfl (hb hby d6_38) rfl ?_
        show Steps p.tables e below (s₁.setTop (mkF m 40 #[.val (.ref a), .val (.int sa), .val (.int ea), .val (.int sk), .val (.int ta), .val (.int (sm + (((own_at vs dv i) - (48 : Int32)) * wt))), .val (.int wt), .val (.int i)] [(.int wt)])) τ
        refine XS.iload X0.here hx rfl (hb hby d6_40) rfl ?_
        show Steps p.tables e below (s₁.setTop (mkF m 42 #[.val (.ref a), .val (.int sa), .val (.int ea), .val (.int sk), .val (.int ta), .val (.int (sm + (((own_at vs dv i) - (48 : Int32)) * wt))), .val (.int wt), .val (.int i)] [(.int ta), (.int wt)])) τ
        exact κ)
      rcases Classical.em (wt = ta) with hc42_5 | hc42_5
      ·
        have pre : ∀ τ, Steps p.tables e below (s₁.setTop (mkF m 11 #[.val (.ref a), .val (.int sa), .val (.int ea), .val (.int sk), .val (.int ta), .val (.int (sm + (((own_at vs dv i) - (48 : Int32)) * wt))), .val (.int (2 : Int32)), .val (.int (i + (-1 : Int32)))] [])) τ → G τ := fun τ κ => pre τ (by
          refine XS.icmpNo X0.here hx rfl (hb hby d6_42) rfl (teq hc42_5).2 ?_
          show Steps p.tables e below (s₁.setTop (mkF m 45 #[.val (.ref a), .val (.int sa), .val (.int ea), .val (.int sk), .val (.int ta), .val (.int (sm + (((own_at vs dv i) - (48 : Int32)) * wt))), .val (.int wt), .val (.int i)] [])) τ
          refine XS.iconst X0.here hx rfl (hb hby d6_45) ?_
          show Steps p.tables e below (s₁.setTop (mkF m 46 #[.val (.ref a), .val (.int sa), .val (.int ea), .val (.int sk), .val (.int ta), .val (.int (sm + (((own_at vs dv i) - (48 : Int32)) * wt))), .val (.int wt), .val (.int i)] [(.int (2 : Int32))])) τ
          refine XS.goto X0.here hx rfl (pc0 := 46) (pc' := 53) rfl (hb hby d6_46) (by decide) (by decide) ?_
          show Steps p.tables e below (s₁.setTop (mkF m 53 #[.val (.ref a), .val (.int sa), .val (.int ea), .val (.int sk), .val (.int ta), .val (.int (sm + (((own_at vs dv i) - (48 : Int32)) * wt))), .val (.int wt), .val (.int i)] [(.int (2 : Int32))])) τ
          refine XS.istore X0.here hx rfl (hb hby d6_53) rfl (l' := #[.val (.ref a), .val (.int sa), .val (.int ea), .val (.int sk), .val (.int ta), .val (.int (sm + (((own_at vs dv i) - (48 : Int32)) * wt))), .val (.int (2 : Int32)), .val (.int i)]) rfl ?_
          show Steps p.tables e below (s₁.setTop (mkF m 55 #[.val (.ref a), .val (.int sa), .val (.int ea), .val (.int sk), .val (.int ta), .val (.int (sm + (((own_at vs dv i) - (48 : Int32)) * wt))), .val (.int (2 : Int32)), .val (.int i)] [])) τ
          refine XS.iinc X0.here hx rfl (hb hby d6_55) rfl (l' := #[.val (.ref a), .val (.int sa), .val (.int ea), .val (.int sk), .val (.int ta), .val (.int (sm + (((own_at vs dv i) - (48 : Int32)) * wt))), .val (.int (2 : Int32)), .val (.int (i + (-1 : Int32)))]) rfl ?_
          show Steps p.tables e below (s₁.setTop (mkF m 58 #[.val (.ref a), .val (.int sa), .val (.int ea), .val (.int sk), .val (.int ta), .val (.int (sm + (((own_at vs dv i) - (48 : Int32)) * wt))), .val (.int (2 : Int32)), .val (.int (i + (-1 : Int32)))] [])) τ
          refine XS.goto X0.here hx rfl (pc0 := 58) (pc' := 11) rfl (hb hby d6_58) (by decide) (by decide) ?_
          show Steps p.tables e below (s₁.setTop (mkF m 11 #[.val (.ref a), .val (.int sa), .val (.int ea), .val (.int sk), .val (.int ta), .val (.int (sm + (((own_at vs dv i) - (48 : Int32)) * wt))), .val (.int (2 : Int32)), .val (.int (i + (-1 : Int32)))] [])) τ
          exact κ)
        exact ih (i + (-1 : Int32)) (sm + (((own_at vs dv i) - (48 : Int32)) * wt)) (2 : Int32) (own_i2 hs0 hn) (own_i3 hs0 hn hi) (hres ▸ own_lpt vs dv ta n i sm wt hc42_5) pre
      ·
        have pre : ∀ τ, Steps p.tables e below (s₁.setTop (mkF m 11 #[.val (.ref a), .val (.int sa), .val (.int ea), .val (.int sk), .val (.int ta), .val (.int (sm + (((own_at vs dv i) - (48 : Int32)) * wt))), .val (.int (wt + (1 : Int32))), .val (.int (i + (-1 : Int32)))] [])) τ → G τ := fun τ κ => pre τ (by
          refine XS.icmpYes X0.here hx rfl (pc0 := 42) (pc' := 49) rfl (hb hby d6_42) rfl (feq hc42_5).2 (by decide) (by decide) ?_
          show Steps p.tables e below (s₁.setTop (mkF m 49 #[.val (.ref a), .val (.int sa), .val (.int ea), .val (.int sk), .val (.int ta), .val (.int (sm + (((own_at vs dv i) - (48 : Int32)) * wt))), .val (.int wt), .val (.int i)] [])) τ
          refine XS.iload X0.here hx rfl (hb hby d6_49) rfl ?_
          show Steps p.tables e below (s₁.setTop (mkF m 51 #[.val (.ref a), .val (.int sa), .val (.int ea), .val (.int sk), .val (.int ta), .val (.int (sm + (((own_at vs dv i) - (48 : Int32)) * wt))), .val (.int wt), .val (.int i)] [(.int wt)])) τ
          refine XS.iconst X0.here hx rfl (hb hby d6_51) ?_
          show Steps p.tables e below (s₁.setTop (mkF m 52 #[.val (.ref a), .val (.int sa), .val (.int ea), .val (.int sk), .val (.int ta), .val (.int (sm + (((own_at vs dv i) - (48 : Int32)) * wt))), .val (.int wt), .val (.int i)] [(.int (1 : Int32)), (.int wt)])) τ
          refine XS.iadd X0.here hx rfl (hb hby d6_52) rfl ?_
          show Steps p.tables e below (s₁.setTop (mkF m 53 #[.val (.ref a), .val (.int sa), .val (.int ea), .val (.int sk), .val (.int ta), .val (.int (sm + (((own_at vs dv i) - (48 : Int32)) * wt))), .val (.int wt), .val (.int i)] [(.int (wt + (1 : Int32)))])) τ
          refine XS.istore X0.here hx rfl (hb hby d6_53) rfl (l' := #[.val (.ref a), .val (.int sa), .val (.int ea), .val (.int sk), .val (.int ta), .val (.int (sm + (((own_at vs dv i) - (48 : Int32)) * wt))), .val (.int (wt + (1 : Int32))), .val (.int i)]) rfl ?_
          show Steps p.tables e below (s₁.setTop (mkF m 55 #[.val (.ref a), .val (.int sa), .val (.int ea), .val (.int sk), .val (.int ta), .val (.int (sm + (((own_at vs dv i) - (48 : Int32)) * wt))), .val (.int (wt + (1 : Int32))), .val (.int i)] [])) τ
          refine XS.iinc X0.here hx rfl (hb hby d6_55) rfl (l' := #[.val (.ref a), .val (.int sa), .val (.int ea), .val (.int sk), .val (.int ta), .val (.int (sm + (((own_at vs dv i) - (48 : Int32)) * wt))), .val (.int (wt + (1 : Int32))), .val (.int (i + (-1 : Int32)))]) rfl ?_
          show Steps p.tables e below (s₁.setTop (mkF m 58 #[.val (.ref a), .val (.int sa), .val (.int ea), .val (.int sk), .val (.int ta), .val (.int (sm + (((own_at vs dv i) - (48 : Int32)) * wt))), .val (.int (wt + (1 : Int32))), .val (.int (i + (-1 : Int32)))] [])) τ
          refine XS.goto X0.here hx rfl (pc0 := 58) (pc' := 11) rfl (hb hby d6_58) (by decide) (by decide) ?_
          show Steps p.tables e below (s₁.setTop (mkF m 11 #[.val (.ref a), .val (.int sa), .val (.int ea), .val (.int sk), .val (.int ta), .val (.int (sm + (((own_at vs dv i) - (48 : Int32)) * wt))), .val (.int (wt + (1 : Int32))), .val (.int (i + (-1 : Int32)))] [])) τ
          exact κ)
        exact ih (i + (-1 : Int32)) (sm + (((own_at vs dv i) - (48 : Int32)) * wt)) (wt + (1 : Int32)) (own_i2 hs0 hn) (own_i3 hs0 hn hi) (hres ▸ own_lpf vs dv ta n i sm wt hc42_5) pre
  exact loop (ea.toInt - sa.toInt).toNat (ea - (1 : Int32)) (0 : Int32) (2 : Int32) (own_i0 hs0 hse) (own_i1 hs0 hse) rfl pre
theorem d5_0 : decode prog_16_method_7_code 0 = .ok (.bipush 11, 2) := by decide +kernel
theorem d5_2 : decode prog_16_method_7_code 2 = .ok (.aload_n 0, 1) := by decide +kernel
theorem d5_3 : decode prog_16_method_7_code 3 = .ok (.iload_n 1, 1) := by decide +kernel
theorem d5_4 : decode prog_16_method_7_code 4 = .ok (.iload_n 2, 1) := by decide +kernel
theorem d5_5 : decode prog_16_method_7_code 5 = .ok (.iconst (-1), 1) := by decide +kernel
theorem d5_6 : decode prog_16_method_7_code 6 = .ok (.iload_n 3, 1) := by decide +kernel
theorem d5_7 : decode prog_16_method_7_code 7 = .ok (.invokestatic 25, 3) := by decide +kernel
theorem pd_0 : parseMethodDescriptor "([BIIII)I" = some ⟨[(.array .byte), .int, .int, .int, .int], some .int⟩ := by decide +kernel
theorem d5_10 : decode prog_16_method_7_code 10 = .ok (.bipush 11, 2) := by decide +kernel
theorem d5_12 : decode prog_16_method_7_code 12 = .ok (.irem, 1) := by decide +kernel
theorem d5_13 : decode prog_16_method_7_code 13 = .ok (.isub, 1) := by decide +kernel
theorem d5_14 : decode prog_16_method_7_code 14 = .ok (.istore 4, 2) := by decide +kernel
theorem d5_16 : decode prog_16_method_7_code 16 = .ok (.iload 4, 2) := by decide +kernel
theorem d5_18 : decode prog_16_method_7_code 18 = .ok (.bipush 9, 2) := by decide +kernel
theorem d5_20 : decode prog_16_method_7_code 20 = .ok (.if_icmp .le 7, 3) := by decide +kernel
theorem d5_23 : decode prog_16_method_7_code 23 = .ok (.iconst 0, 1) := by decide +kernel
theorem d5_24 : decode prog_16_method_7_code 24 = .ok (.goto 5, 3) := by decide +kernel
theorem d5_29 : decode prog_16_method_7_code 29 = .ok (.ireturn, 1) := by decide +kernel
theorem d5_27 : decode prog_16_method_7_code 27 = .ok (.iload 4, 2) := by decide +kernel
theorem ef_5 (m : MethodId) (x0 : Addr) (x1 : Int32) (x2 : Int32) (x3 : Int32) : entryFrame m #[(.ref x0), (.int x1), (.int x2), (.int x3)] 5 = mkF m 0 #[.val (.ref x0), .val (.int x1), .val (.int x2), .val (.int x3), .unset] [] := by first | (simp [entryFrame, mkF, argsToLocals, Value.category]; done) | rfl
def Q5 (Z : State) (a : Addr) (sa : Int32) (ea : Int32) (ta : Int32) (kc : ClassId) (z : Int32) (vs : List Value) (dv : Value) (h0 : Heap) (n0 : Nat) (vα : Option Value) (hα : Heap) (Lα : List Loc) : Prop := vα = some (.int (own_m11 vs dv ta sa ea)) ∧ Fr n0 Lα ∧ hα = h0
set_option maxRecDepth 65536 in
set_option maxHeartbeats 40000000 in
theorem rm5 (l : Launch) (Z : State) (a0 : Array Value) (hw : ∀ d ∈ tables_1, d.before a0 Z = true) (ws : List Jvm.Cond) (a : Addr) (sa : Int32) (ea : Int32) (ta : Int32) (kc : ClassId) (z : Int32) (vs : List Value) (dv : Value) (h0 : Heap) (n0 : Nat) (Z0 : n0 ≤ h0.size) (V_a : Arv Z h0 a kc .byte z vs dv) (hs0 : 0 ≤ sa.toInt) (hse : sa.toInt ≤ ea.toInt) (hez : ea.toInt ≤ z.toInt) :
    MetFree l (⟨"com/example/campo_livre/campolivre/CheckDigits", "modulo11", "([BIII)I"⟩ : MethodName) (head1 (Jvm.Cond.code (⟨"com/example/campo_livre/campolivre/CheckDigits", "modulo11", "([BIII)I"⟩ : MethodName) prog_16_method_7_code 5 (some .int) :: ws) ({ frames := 1, cells := 0, slots := 0, locals := 20 } : Room)) (fun aα U => aα = #[(.ref a), (.int sa), (.int ea), (.int ta)] ∧ Z.Warmed39 U.vm ∧ U.heap = h0) (fun _ _ _ _ _ => True) (fun _ U oα U' => ∃ vα Lα, oα = .returned vα ∧ Q5 Z a sa ea ta kc z vs dv h0 n0 vα U'.heap Lα ∧ FrameEnd U oα U' Lα ({ frames := 1, cells := 0, slots := 0, locals := 20 } : Room).cells ({ frames := 1, cells := 0, slots := 0, locals := 20 } : Room).slots) := by
  refine MetFree.of_bodySF (plainFor_of_name pn_1) hisR ?_
  intro p e s m args below meth c s₁ Bd hml0 hP hK
  refine own_wrap ?_
  intro GL hGL
  obtain ⟨rfl, hZ, hh⟩ := hP
  have hx := Bd.exec
  have hby := Bd.bytes
  have hml : c.maxLocals = 5 := hml0
  have hown : s.vm.findClass "com/example/campo_livre/campolivre/CheckDigits" = some m.cls := findClass_of_methodNamed Bd.named
  have hnm := (name_of_methodNamed Bd.named Bd.method).1
  have X0 : Stand p l e ({ frames := 1, cells := 0, slots := 0, locals := 20 } : Room) s m #[(.ref a), (.int sa), (.int ea), (.int ta)] below meth c s₁ [] 0 0 := Stand.of_body Bd
  have e0 : s₁.heap = h0 := by rw [← hh, Bd.state]; rfl
  have N0 := Fr.nil n0
  have pre0 : ∀ τ, Steps p.tables e below (s₁.setTop (mkF m 0 #[.val (.ref a), .val (.int sa), .val (.int ea), .val (.int ta), .unset] [])) τ → Steps p.tables e below (s₁.setTop (entryFrame m #[(.ref a), (.int sa), (.int ea), (.int ta)] 5)) τ := fun τ κ => castTop (ef_5 m a sa ea ta) κ
  obtain ⟨G, hG, pre⟩ : ∃ G : State → Prop, (∀ τ, G τ → Steps p.tables e below (s₁.setTop (entryFrame m #[(.ref a), (.int sa), (.int ea), (.int ta)] 5)) τ) ∧ ∀ τ, Steps p.tables e below (s₁.setTop (mkF m 0 #[.val (.ref a), .val (.int sa), .val (.int ea), .val (.int ta), .unset] [])) τ → G τ := ⟨_, pre0, fun _ k => k⟩
  have K : Keep h0 h0 [] := Keep.refl h0 _
  have Zn := Z0
  have pre : ∀ τ, Steps p.tables e below (s₁.setTop (mkF m 7 #[.val (.ref a), .val (.int sa), .val (.int ea), .val (.int ta), .unset] [(.int ta), (.int (-1 : Int32)), (.int ea), (.int sa), (.ref a), (.int (11 : Int32))])) τ → G τ := fun τ κ => pre τ (by
    refine XS.bipush X0.here hx rfl (hb hby d5_0) ?_
    show Steps p.tables e below (s₁.setTop (mkF m 2 #[.val (.ref a), .val (.int sa), .val (.int ea), .val (.int ta), .unset] [(.int (11 : Int32))])) τ
    refine XS.aloadN X0.here hx rfl (hb hby d5_2) rfl rfl ?_
    show Steps p.tables e below (s₁.setTop (mkF m 3 #[.val (.ref a), .val (.int sa), .val (.int ea), .val (.int ta), .unset] [(.ref a), (.int (11 : Int32))])) τ
    refine XS.iloadN X0.here hx rfl (hb hby d5_3) rfl ?_
    show Steps p.tables e below (s₁.setTop (mkF m 4 #[.val (.ref a), .val (.int sa), .val (.int ea), .val (.int ta), .unset] [(.int sa), (.ref a), (.int (11 : Int32))])) τ
    refine XS.iloadN X0.here hx rfl (hb hby d5_4) rfl ?_
    show Steps p.tables e below (s₁.setTop (mkF m 5 #[.val (.ref a), .val (.int sa), .val (.int ea), .val (.int ta), .unset] [(.int ea), (.int sa), (.ref a), (.int (11 : Int32))])) τ
    refine XS.iconst X0.here hx rfl (hb hby d5_5) ?_
    show Steps p.tables e below (s₁.setTop (mkF m 6 #[.val (.ref a), .val (.int sa), .val (.int ea), .val (.int ta), .unset] [(.int (-1 : Int32)), (.int ea), (.int sa), (.ref a), (.int (11 : Int32))])) τ
    refine XS.iloadN X0.here hx rfl (hb hby d5_6) rfl ?_
    show Steps p.tables e below (s₁.setTop (mkF m 7 #[.val (.ref a), .val (.int sa), .val (.int ea), .val (.int ta), .unset] [(.int ta), (.int (-1 : Int32)), (.int ea), (.int sa), (.ref a), (.int (11 : Int32))])) τ
    exact κ)
  obtain ⟨_, _, ⟨T1, Lx1, kx1, nx1⟩, -, X1, ⟨Lc1, hQ1, l1, y1, z1⟩, st1⟩ := Jvm.LawKit.callS X0 hx (y := (⟨"com/example/campo_livre/campolivre/CheckDigits", "modulo11Sum", "([BIIII)I"⟩ : MethodName)) hown (mvT hZ (hw _ (List.mem_of_getElem? (i := 20) rfl))) (mvT hZ (hw _ (List.mem_of_getElem? (i := 21) rfl))) (mvT hZ (hw _ (List.mem_of_getElem? (i := 18) rfl))) (mvT hZ (hw _ (List.mem_of_getElem? (i := 22) rfl))) (by decide) (backOf (W := 1) (rm6 l Z a0 hw [] a sa ea (-1 : Int32) ta kc z vs dv h0 n0 Zn V_a hs0 hse hez rfl) hZ (hw _ (List.mem_of_getElem? (i := 22) rfl)) (hw _ (List.mem_of_getElem? (i := 18) rfl)) (by decide) (by decide)) (g := (mkF m 7 #[.val (.ref a), .val (.int sa), .val (.int ea), .val (.int ta), .unset] [(.int ta), (.int (-1 : Int32)), (.int ea), (.int sa), (.ref a), (.int (11 : Int32))])) rfl (by rw [hml]; rfl) (argsL := [(.ref a), (.int sa), (.int ea), (.int (-1 : Int32)), (.int ta)]) (rest := [(.int (11 : Int32))]) (lenOf pd_0 rfl) rfl (by show 2 * 0 + _ ≤ _; exact Nat.le_of_eq rfl) (hb hby d5_7) (fun _ _ => ⟨rfl, e0, (by decide : 0 + 0 ≤ _), (by decide : 0 + 0 ≤ _)⟩)
  dsimp only [Pt.U, Pt.locs, Pt.cells, Pt.slots] at X1 l1 y1 z1 st1 hQ1
  replace y1 : kx1 = 0 := y1
  replace z1 : nx1 = 0 := z1
  subst y1 z1
  obtain ⟨rfl, Nq1, hs1⟩ := hQ1
  have NN : Fr n0 Lx1 := by rw [l1]; exact Fr.app N0 Nq1
  have pre : ∀ τ, Steps p.tables e below (T1.setTop (mkF m 10 #[.val (.ref a), .val (.int sa), .val (.int ea), .val (.int ta), .unset] [(.int (own_lp vs dv ta (ea.toInt - sa.toInt).toNat (ea - (1 : Int32)) (0 : Int32) (2 : Int32))), (.int (11 : Int32))])) τ → G τ := fun τ κ => pre τ (st1 τ κ)
  have pre : ∀ τ, Steps p.tables e below (T1.setTop (mkF m 20 #[.val (.ref a), .val (.int sa), .val (.int ea), .val (.int ta), .val (.int ((11 : Int32) - ((own_lp vs dv ta (ea.toInt - sa.toInt).toNat (ea - (1 : Int32)) (0 : Int32) (2 : Int32)) % (11 : Int32))))] [(.int (9 : Int32)), (.int ((11 : Int32) - ((own_lp vs dv ta (ea.toInt - sa.toInt).toNat (ea - (1 : Int32)) (0 : Int32) (2 : Int32)) % (11 : Int32))))])) τ → G τ := fun τ κ => pre τ (by
    refine XS.bipush X1.here hx rfl (hb hby d5_10) ?_
    show Steps p.tables e below (T1.setTop (mkF m 12 #[.val (.ref a), .val (.int sa), .val (.int ea), .val (.int ta), .unset] [(.int (11 : Int32)), (.int (own_lp vs dv ta (ea.toInt - sa.toInt).toNat (ea - (1 : Int32)) (0 : Int32) (2 : Int32))), (.int (11 : Int32))])) τ
    refine iremM X1 hx rfl (hb hby d5_12) rfl (by decide) ?_
    show Steps p.tables e below (T1.setTop (mkF m 13 #[.val (.ref a), .val (.int sa), .val (.int ea), .val (.int ta), .unset] [(.int ((own_lp vs dv ta (ea.toInt - sa.toInt).toNat (ea - (1 : Int32)) (0 : Int32) (2 : Int32)) % (11 : Int32))), (.int (11 : Int32))])) τ
    refine XS.isub X1.here hx rfl (hb hby d5_13) rfl ?_
    show Steps p.tables e below (T1.setTop (mkF m 14 #[.val (.ref a), .val (.int sa), .val (.int ea), .val (.int ta), .unset] [(.int ((11 : Int32) - ((own_lp vs dv ta (ea.toInt - sa.toInt).toNat (ea - (1 : Int32)) (0 : Int32) (2 : Int32)) % (11 : Int32))))])) τ
    refine XS.istore X1.here hx rfl (hb hby d5_14) rfl (l' := #[.val (.ref a), .val (.int sa), .val (.int ea), .val (.int ta), .val (.int ((11 : Int32) - ((own_lp vs dv ta (ea.toInt - sa.toInt).toNat (ea - (1 : Int32)) (0 : Int32) (2 : Int32)) % (11 : Int32))))]) rfl ?_
    show Steps p.tables e below (T1.setTop (mkF m 16 #[.val (.ref a), .val (.int sa), .val (.int ea), .val (.int ta), .val (.int ((11 : Int32) - ((own_lp vs dv ta (ea.toInt - sa.toInt).toNat (ea - (1 : Int32)) (0 : Int32) (2 : Int32)) % (11 : Int32))))] [])) τ
    refine XS.iload X1.here hx rfl (hb hby d5_16) rfl ?_
    show Steps p.tables e below (T1.setTop (mkF m 18 #[.val (.ref a), .val (.int sa), .val (.int ea), .val (.int ta), .val (.int ((11 : Int32) - ((own_lp vs dv ta (ea.toInt - sa.toInt).toNat (ea - (1 : Int32)) (0 : Int32) (2 : Int32)) % (11 : Int32))))] [(.int ((11 : Int32) - ((own_lp vs dv ta (ea.toInt - sa.toInt).toNat (ea - (1 : Int32)) (0 : Int32) (2 : Int32)) % (11 : Int32))))])) τ
    refine XS.bipush X1.here hx rfl (hb hby d5_18) ?_
    show Steps p.tables e below (T1.setTop (mkF m 20 #[.val (.ref a), .val (.int sa), .val (.int ea), .val (.int ta), .val (.int ((11 : Int32) - ((own_lp vs dv ta (ea.toInt - sa.toInt).toNat (ea - (1 : Int32)) (0 : Int32) (2 : Int32)) % (11 : Int32))))] [(.int (9 : Int32)), (.int ((11 : Int32) - ((own_lp vs dv ta (ea.toInt - sa.toInt).toNat (ea - (1 : Int32)) (0 : Int32) (2 : Int32)) % (11 : Int32))))])) τ
    exact κ)
  rcases Classical.em ((9 : Int32) < ((11 : Int32) - ((own_lp vs dv ta (ea.toInt - sa.toInt).toNat (ea - (1 : Int32)) (0 : Int32) (2 : Int32)) % (11 : Int32)))) with hc20_2 | hc20_2
  ·
    have pre : ∀ τ, Steps p.tables e below (T1.setTop (mkF m 29 #[.val (.ref a), .val (.int sa), .val (.int ea), .val (.int ta), .val (.int ((11 : Int32) - ((own_lp vs dv ta (ea.toInt - sa.toInt).toNat (ea - (1 : Int32)) (0 : Int32) (2 : Int32)) % (11 : Int32))))] [(.int (0 : Int32))])) τ → G τ := fun τ κ => pre τ (by
      refine XS.icmpNo X1.here hx rfl (hb hby d5_20) rfl (tlt hc20_2).2.2.2 ?_
      show Steps p.tables e below (T1.setTop (mkF m 23 #[.val (.ref a), .val (.int sa), .val (.int ea), .val (.int ta), .val (.int ((11 : Int32) - ((own_lp vs dv ta (ea.toInt - sa.toInt).toNat (ea - (1 : Int32)) (0 : Int32) (2 : Int32)) % (11 : Int32))))] [])) τ
      refine XS.iconst X1.here hx rfl (hb hby d5_23) ?_
      show Steps p.tables e below (T1.setTop (mkF m 24 #[.val (.ref a), .val (.int sa), .val (.int ea), .val (.int ta), .val (.int ((11 : Int32) - ((own_lp vs dv ta (ea.toInt - sa.toInt).toNat (ea - (1 : Int32)) (0 : Int32) (2 : Int32)) % (11 : Int32))))] [(.int (0 : Int32))])) τ
      refine XS.goto X1.here hx rfl (pc0 := 24) (pc' := 29) rfl (hb hby d5_24) (by decide) (by decide) ?_
      show Steps p.tables e below (T1.setTop (mkF m 29 #[.val (.ref a), .val (.int sa), .val (.int ea), .val (.int ta), .val (.int ((11 : Int32) - ((own_lp vs dv ta (ea.toInt - sa.toInt).toNat (ea - (1 : Int32)) (0 : Int32) (2 : Int32)) % (11 : Int32))))] [(.int (0 : Int32))])) τ
      exact κ)
    obtain ⟨fsα, hr, hrun, hended, hW, hsame⟩ := X1.leave (v := some (.int (0 : Int32))) (fun h => by rw [Bd.returns] at h; cases h)
    refine hGL ⟨_, _, hG _ (pre _ ?_), hrun, hended, _, _, rfl, ?_, ⟨_, rfl⟩, hW, hsame.mono (by decide) (by decide)⟩
    · exact retOut X1 hx Bd.returns rfl (Or.inl ⟨rfl, Or.inl rfl, _, rfl⟩) (hb hby d5_29) hr
    · show Q5 Z a sa ea ta kc z vs dv h0 n0 _ T1.heap _
      rw [hs1]
      refine ⟨?_, NN, rfl⟩
      unfold own_m11
      rw [if_pos hc20_2]
  ·
    have pre : ∀ τ, Steps p.tables e below (T1.setTop (mkF m 29 #[.val (.ref a), .val (.int sa), .val (.int ea), .val (.int ta), .val (.int ((11 : Int32) - ((own_lp vs dv ta (ea.toInt - sa.toInt).toNat (ea - (1 : Int32)) (0 : Int32) (2 : Int32)) % (11 : Int32))))] [(.int ((11 : Int32) - ((own_lp vs dv ta (ea.toInt - sa.toInt).toNat (ea - (1 : Int32)) (0 : Int32) (2 : Int32)) % (11 : Int32))))])) τ → G τ := fun τ κ => pre τ (by
      refine XS.icmpYes X1.here hx rfl (pc0 := 20) (pc' := 27) rfl (hb hby d5_20) rfl (flt hc20_2).2.2.2 (by decide) (by decide) ?_
      show Steps p.tables e below (T1.setTop (mkF m 27 #[.val (.ref a), .val (.int sa), .val (.int ea), .val (.int ta), .val (.int ((11 : Int32) - ((own_lp vs dv ta (ea.toInt - sa.toInt).toNat (ea - (1 : Int32)) (0 : Int32) (2 : Int32)) % (11 : Int32))))] [])) τ
      refine XS.iload X1.here hx rfl (hb hby d5_27) rfl ?_
      show Steps p.tables e below (T1.setTop (mkF m 29 #[.val (.ref a), .val (.int sa), .val (.int ea), .val (.int ta), .val (.int ((11 : Int32) - ((own_lp vs dv ta (ea.toInt - sa.toInt).toNat (ea - (1 : Int32)) (0 : Int32) (2 : Int32)) % (11 : Int32))))] [(.int ((11 : Int32) - ((own_lp vs dv ta (ea.toInt - sa.toInt).toNat (ea - (1 : Int32)) (0 : Int32) (2 : Int32)) % (11 : Int32))))])) τ
      exact κ)
    obtain ⟨fsα, hr, hrun, hended, hW, hsame⟩ := X1.leave (v := some (.int ((11 : Int32) - ((own_lp vs dv ta (ea.toInt - sa.toInt).toNat (ea - (1 : Int32)) (0 : Int32) (2 : Int32)) % (11 : Int32))))) (fun h => by rw [Bd.returns] at h; cases h)
    refine hGL ⟨_, _, hG _ (pre _ ?_), hrun, hended, _, _, rfl, ?_, ⟨_, rfl⟩, hW, hsame.mono (by decide) (by decide)⟩
    · exact retOut X1 hx Bd.returns rfl (Or.inl ⟨rfl, Or.inl rfl, _, rfl⟩) (hb hby d5_29) hr
    · show Q5 Z a sa ea ta kc z vs dv h0 n0 _ T1.heap _
      rw [hs1]
      refine ⟨?_, NN, rfl⟩
      unfold own_m11
      rw [if_neg hc20_2]
theorem pd_1 : parseMethodDescriptor "(JI)B" = some ⟨[.long, .int], some .byte⟩ := by decide +kernel
theorem pd_2 : parseMethodDescriptor "(II)I" = some ⟨[.int, .int], some .int⟩ := by decide +kernel
theorem pd_3 : parseMethodDescriptor "([BIII)I" = some ⟨[(.array .byte), .int, .int, .int], some .int⟩ := by decide +kernel
theorem ef_0 (m : MethodId) (x0 : Int64) (x1 : Int32) (x2 : Int32) : entryFrame m #[(.long x0), (.int x1), (.int x2)] maxLocals = mkF m 0 #[.val (.long x0), .second, .val (.int x1), .val (.int x2), .unset, .unset, .unset, .unset, .unset, .unset, .unset, .unset, .unset, .unset] [] := by first | (simp [entryFrame, mkF, argsToLocals, Value.category, maxLocals]; done) | rfl
def Q0 (Z : State) (q1 : Int64) (p2 : Int32) (p3 : Int32) (h0 : Heap) (n0 : Nat) (vα : Option Value) (hα : Heap) (Lα : List Loc) : Prop := vα = some (.int (1 : Int32)) ∧ Fr n0 Lα
set_option maxRecDepth 65536 in
set_option maxHeartbeats 40000000 in
theorem rm0 (l : Launch) (Z : State) (a0 : Array Value) (hw : ∀ d ∈ tables_1, d.before a0 Z = true) (ws : List Jvm.Cond) (q1 : Int64) (p2 : Int32) (p3 : Int32) (h0 : Heap) (n0 : Nat) (Z0 : n0 ≤ h0.size) :
    MetFree l x (head1 (Jvm.Cond.code x code maxLocals ret :: ws) room_1) (fun aα U => aα = #[(.long q1), (.int p2), (.int p3)] ∧ Z.Warmed39 U.vm ∧ U.heap = h0) (fun _ _ _ _ _ => True) (fun _ U oα U' => ∃ vα Lα, oα = .returned vα ∧ Q0 Z q1 p2 p3 h0 n0 vα U'.heap Lα ∧ FrameEnd U oα U' Lα room_1.cells room_1.slots) := by
  refine MetFree.of_bodySF (plainFor_of_name pn_0) hisR ?_
  intro p e s m args below meth c s₁ Bd hml0 hP hK
  refine own_wrap ?_
  intro GL hGL
  obtain ⟨rfl, hZ, hh⟩ := hP
  have hx := Bd.exec
  have hby := Bd.bytes
  have hml : c.maxLocals = 14 := hml0
  have hown : s.vm.findClass "com/example/campo_livre/campolivre/CheckDigitsModulo11PinLaw" = some m.cls := findClass_of_methodNamed Bd.named
  have hnm := (name_of_methodNamed Bd.named Bd.method).1
  have X0 : Stand p l e room_1 s m #[(.long q1), (.int p2), (.int p3)] below meth c s₁ [] 0 0 := Stand.of_body Bd
  have e0 : s₁.heap = h0 := by rw [← hh, Bd.state]; rfl
  have N0 := Fr.nil n0
  have pre0 : ∀ τ, Steps p.tables e below (s₁.setTop (mkF m 0 #[.val (.long q1), .second, .val (.int p2), .val (.int p3), .unset, .unset, .unset, .unset, .unset, .unset, .unset, .unset, .unset, .unset] [])) τ → Steps p.tables e below (s₁.setTop (entryFrame m #[(.long q1), (.int p2), (.int p3)] maxLocals)) τ := fun τ κ => castTop (ef_0 m q1 p2 p3) κ
  obtain ⟨G, hG, pre⟩ : ∃ G : State → Prop, (∀ τ, G τ → Steps p.tables e below (s₁.setTop (entryFrame m #[(.long q1), (.int p2), (.int p3)] maxLocals)) τ) ∧ ∀ τ, Steps p.tables e below (s₁.setTop (mkF m 0 #[.val (.long q1), .second, .val (.int p2), .val (.int p3), .unset, .unset, .unset, .unset, .unset, .unset, .unset, .unset, .unset, .unset] [])) τ → G τ := ⟨_, pre0, fun _ k => k⟩
  have Zn := Z0
  have pre : ∀ τ, Steps p.tables e below (s₁.setTop (mkF m 2 #[.val (.long q1), .second, .val (.int p2), .val (.int p3), .unset, .unset, .unset, .unset, .unset, .unset, .unset, .unset, .unset, .unset] [(.int (8 : Int32))])) τ → G τ := fun τ κ => pre τ (by
    refine XS.bipush X0.here hx rfl (hb hby at_0) ?_
    show Steps p.tables e below (s₁.setTop (mkF m 2 #[.val (.long q1), .second, .val (.int p2), .val (.int p3), .unset, .unset, .unset, .unset, .unset, .unset, .unset, .unset, .unset, .unset] [(.int (8 : Int32))])) τ
    exact κ)
  obtain ⟨T1, h1, k1, X1, e1, E1, A1, st1⟩ := newP X0 hx hZ (hw _ (List.mem_of_getElem? (i := 0) rfl)) e0 (g := (mkF m 2 #[.val (.long q1), .second, .val (.int p2), .val (.int p3), .unset, .unset, .unset, .unset, .unset, .unset, .unset, .unset, .unset, .unset] [(.int (8 : Int32))])) rfl (hb hby at_2) rfl (by decide) (cap := 8) (by decide) (by decide) (by decide) (by decide)
  obtain ⟨b1, gg1⟩ : ∃ z, z = h0.size := ⟨_, rfl⟩
  rw [← gg1] at A1 st1
  have g_b1 : n0 ≤ b1 := Nat.le_trans Zn (Nat.le_of_eq gg1.symm)
  have Zn : n0 ≤ h1.size := Nat.le_trans Zn E1.1
  have V_b1 : Arv Z h1 b1 k1 .byte (8 : Int32) [(.int (0 : Int32)), (.int (0 : Int32)), (.int (0 : Int32)), (.int (0 : Int32)), (.int (0 : Int32)), (.int (0 : Int32)), (.int (0 : Int32)), (.int (0 : Int32))] (.int (0 : Int32)) := (Arv.new A1 (by decide)).pad (pad_rep [] (.int (0 : Int32)) 8)
  have pre : ∀ τ, Steps p.tables e below (T1.setTop (mkF m 4 #[.val (.long q1), .second, .val (.int p2), .val (.int p3), .unset, .unset, .unset, .unset, .unset, .unset, .unset, .unset, .unset, .unset] [(.ref b1)])) τ → G τ := fun τ κ => pre τ (st1 τ κ)
  have pre : ∀ τ, Steps p.tables e below (T1.setTop (mkF m 11 #[.val (.long q1), .second, .val (.int p2), .val (.int p3), .val (.ref b1), .unset, .unset, .unset, .unset, .unset, .unset, .unset, .unset, .unset] [(.int (0 : Int32)), (.long q1), (.int (0 : Int32)), (.ref b1)])) τ → G τ := fun τ κ => pre τ (by
    refine XS.astore X1.here hx rfl (hb hby at_4) rfl rfl (l' := #[.val (.long q1), .second, .val (.int p2), .val (.int p3), .val (.ref b1), .unset, .unset, .unset, .unset, .unset, .unset, .unset, .unset, .unset]) rfl ?_
    show Steps p.tables e below (T1.setTop (mkF m 6 #[.val (.long q1), .second, .val (.int p2), .val (.int p3), .val (.ref b1), .unset, .unset, .unset, .unset, .unset, .unset, .unset, .unset, .unset] [])) τ
    refine XS.aload X1.here hx rfl (hb hby at_6) rfl rfl ?_
    show Steps p.tables e below (T1.setTop (mkF m 8 #[.val (.long q1), .second, .val (.int p2), .val (.int p3), .val (.ref b1), .unset, .unset, .unset, .unset, .unset, .unset, .unset, .unset, .unset] [(.ref b1)])) τ
    refine XS.iconst X1.here hx rfl (hb hby at_8) ?_
    show Steps p.tables e below (T1.setTop (mkF m 9 #[.val (.long q1), .second, .val (.int p2), .val (.int p3), .val (.ref b1), .unset, .unset, .unset, .unset, .unset, .unset, .unset, .unset, .unset] [(.int (0 : Int32)), (.ref b1)])) τ
    refine XS.lloadN X1.here hx rfl (hb hby at_9) rfl ?_
    show Steps p.tables e below (T1.setTop (mkF m 10 #[.val (.long q1), .second, .val (.int p2), .val (.int p3), .val (.ref b1), .unset, .unset, .unset, .unset, .unset, .unset, .unset, .unset, .unset] [(.long q1), (.int (0 : Int32)), (.ref b1)])) τ
    refine XS.iconst X1.here hx rfl (hb hby at_10) ?_
    show Steps p.tables e below (T1.setTop (mkF m 11 #[.val (.long q1), .second, .val (.int p2), .val (.int p3), .val (.ref b1), .unset, .unset, .unset, .unset, .unset, .unset, .unset, .unset, .unset] [(.int (0 : Int32)), (.long q1), (.int (0 : Int32)), (.ref b1)])) τ
    exact κ)
  obtain ⟨_, _, ⟨T2, Lx2, kx2, nx2⟩, -, X2, ⟨Lc2, hQ2, l2, y2, z2⟩, st2⟩ := Jvm.LawKit.callS X1 hx (y := (⟨"com/example/campo_livre/campolivre/CheckDigitsModulo11PinLaw", "ch", "(JI)B"⟩ : MethodName)) hown (mvT hZ (hw _ (List.mem_of_getElem? (i := 1) rfl))) (mvT hZ (hw _ (List.mem_of_getElem? (i := 2) rfl))) (mvT hZ (hw _ (List.mem_of_getElem? (i := 3) rfl))) (mvT hZ (hw _ (List.mem_of_getElem? (i := 4) rfl))) (by decide) (backOf (W := 2) (rm1 l Z a0 hw [] q1 (0 : Int32) h1 n0 Zn) hZ (hw _ (List.mem_of_getElem? (i := 4) rfl)) (hw _ (List.mem_of_getElem? (i := 3) rfl)) (by decide) (by decide)) (g := (mkF m 11 #[.val (.long q1), .second, .val (.int p2), .val (.int p3), .val (.ref b1), .unset, .unset, .unset, .unset, .unset, .unset, .unset, .unset, .unset] [(.int (0 : Int32)), (.long q1), (.int (0 : Int32)), (.ref b1)])) rfl (by rw [hml]; rfl) (argsL := [(.long q1), (.int (0 : Int32))]) (rest := [(.int (0 : Int32)), (.ref b1)]) (lenOf pd_1 rfl) rfl (by show 2 * 0 + _ ≤ _; exact Nat.le_of_eq rfl) (hb hby at_11) (fun _ _ => ⟨rfl, e1, (by decide : 1 + 0 ≤ _), (by decide : 8 + 0 ≤ _)⟩)
  dsimp only [Pt.U, Pt.locs, Pt.cells, Pt.slots] at X2 l2 y2 z2 st2 hQ2
  replace y2 : kx2 = 1 := y2
  replace z2 : nx2 = 8 := z2
  subst y2 z2
  obtain ⟨rfl, Nq2, hs2⟩ := hQ2
  have NN : Fr n0 Lx2 := by rw [l2]; exact Fr.app N0 Nq2
  have pre : ∀ τ, Steps p.tables e below (T2.setTop (mkF m 14 #[.val (.long q1), .second, .val (.int p2), .val (.int p3), .val (.ref b1), .unset, .unset, .unset, .unset, .unset, .unset, .unset, .unset, .unset] [(.int (own_ch q1 (0 : Int32))), (.int (0 : Int32)), (.ref b1)])) τ → G τ := fun τ κ => pre τ (st2 τ κ)
  obtain ⟨c3, Ar3, q3, S3, Nz3, Hh3, Gg3⟩ := id V_b1
  have hin3 : ¬ ((0 : Int32) < 0 ∨ c3.slots.size ≤ ((0 : Int32)).toNatClampNeg) := inb_of S3 ⟨by decide, by decide⟩
  obtain ⟨T3, h3, X3, e3, W3, st3⟩ := stB X2 hx hZ hs2 Ar3 (j := (0 : Int32)) hin3 (g := (mkF m 14 #[.val (.long q1), .second, .val (.int p2), .val (.int p3), .val (.ref b1), .unset, .unset, .unset, .unset, .unset, .unset, .unset, .unset, .unset] [(.int (own_ch q1 (0 : Int32))), (.int (0 : Int32)), (.ref b1)])) rfl rfl (hb hby at_14)
  have V_b1 : Arv Z h3 b1 k1 .byte (8 : Int32) [(.int (nar .byte (own_ch q1 (0 : Int32)))), (.int (0 : Int32)), (.int (0 : Int32)), (.int (0 : Int32)), (.int (0 : Int32)), (.int (0 : Int32)), (.int (0 : Int32)), (.int (0 : Int32))] (.int (0 : Int32)) := Arv.set Ar3 q3 S3 Nz3 Hh3 Gg3 (fits_nar_byte _) W3 0 rfl (Nat.le_of_ble_eq_true rfl)
  have Zn : n0 ≤ h3.size := Nat.le_trans Zn (Keep.of_wr W3).1
  have NN := Fr.snoc X3 NN g_b1
  have pre : ∀ τ, Steps p.tables e below (T3.setTop (mkF m 15 #[.val (.long q1), .second, .val (.int p2), .val (.int p3), .val (.ref b1), .unset, .unset, .unset, .unset, .unset, .unset, .unset, .unset, .unset] [])) τ → G τ := fun τ κ => pre τ (st3 τ κ)
  have pre : ∀ τ, Steps p.tables e below (T3.setTop (mkF m 21 #[.val (.long q1), .second, .val (.int p2), .val (.int p3), .val (.ref b1), .unset, .unset, .unset, .unset, .unset, .unset, .unset, .unset, .unset] [(.int (6 : Int32)), (.long q1), (.int (1 : Int32)), (.ref b1)])) τ → G τ := fun τ κ => pre τ (by
    refine XS.aload X3.here hx rfl (hb hby at_15) rfl rfl ?_
    show Steps p.tables e below (T3.setTop (mkF m 17 #[.val (.long q1), .second, .val (.int p2), .val (.int p3), .val (.ref b1), .unset, .unset, .unset, .unset, .unset, .unset, .unset, .unset, .unset] [(.ref b1)])) τ
    refine XS.iconst X3.here hx rfl (hb hby at_17) ?_
    show Steps p.tables e below (T3.setTop (mkF m 18 #[.val (.long q1), .second, .val (.int p2), .val (.int p3), .val (.ref b1), .unset, .unset, .unset, .unset, .unset, .unset, .unset, .unset, .unset] [(.int (1 : Int32)), (.ref b1)])) τ
    refine XS.lloadN X3.here hx rfl (hb hby at_18) rfl ?_
    show Steps p.tables e below (T3.setTop (mkF m 19 #[.val (.long q1), .second, .val (.int p2), .val (.int p3), .val (.ref b1), .unset, .unset, .unset, .unset, .unset, .unset, .unset, .unset, .unset] [(.long q1), (.int (1 : Int32)), (.ref b1)])) τ
    refine XS.bipush X3.here hx rfl (hb hby at_19) ?_
    show Steps p.tables e below (T3.setTop (mkF m 21 #[.val (.long q1), .second, .val (.int p2), .val (.int p3), .val (.ref b1), .unset, .unset, .unset, .unset, .unset, .unset, .unset, .unset, .unset] [(.int (6 : Int32)), (.long q1), (.int (1 : Int32)), (.ref b1)])) τ
    exact κ)
  obtain ⟨_, _, ⟨T4, Lx4, kx4, nx4⟩, -, X4, ⟨Lc4, hQ4, l4, y4, z4⟩, st4⟩ := Jvm.LawKit.callS X3 hx (y := (⟨"com/example/campo_livre/campolivre/CheckDigitsModulo11PinLaw", "ch", "(JI)B"⟩ : MethodName)) hown (mvT hZ (hw _ (List.mem_of_getElem? (i := 1) rfl))) (mvT hZ (hw _ (List.mem_of_getElem? (i := 2) rfl))) (mvT hZ (hw _ (List.mem_of_getElem? (i := 3) rfl))) (mvT hZ (hw _ (List.mem_of_getElem? (i := 4) rfl))) (by decide) (backOf (W := 2) (rm1 l Z a0 hw [] q1 (6 : Int32) h3 n0 Zn) hZ (hw _ (List.mem_of_getElem? (i := 4) rfl)) (hw _ (List.mem_of_getElem? (i := 3) rfl)) (by decide) (by decide)) (g := (mkF m 21 #[.val (.long q1), .second, .val (.int p2), .val (.int p3), .val (.ref b1), .unset, .unset, .unset, .unset, .unset, .unset, .unset, .unset, .unset] [(.int (6 : Int32)), (.long q1), (.int (1 : Int32)), (.ref b1)])) rfl (by rw [hml]; rfl) (argsL := [(.long q1), (.int (6 : Int32))]) (rest := [(.int (1 : Int32)), (.ref b1)]) (lenOf pd_1 rfl) rfl (by show 2 * 0 + _ ≤ _; exact Nat.le_of_eq rfl) (hb hby at_21) (fun _ _ => ⟨rfl, e3, (by decide : 1 + 0 ≤ _), (by decide : 8 + 0 ≤ _)⟩)
  dsimp only [Pt.U, Pt.locs, Pt.cells, Pt.slots] at X4 l4 y4 z4 st4 hQ4
  replace y4 : kx4 = 1 := y4
  replace z4 : nx4 = 8 := z4
  subst y4 z4
  obtain ⟨rfl, Nq4, hs4⟩ := hQ4
  have NN : Fr n0 Lx4 := by rw [l4]; exact Fr.app NN Nq4
  have pre : ∀ τ, Steps p.tables e below (T4.setTop (mkF m 24 #[.val (.long q1), .second, .val (.int p2), .val (.int p3), .val (.ref b1), .unset, .unset, .unset, .unset, .unset, .unset, .unset, .unset, .unset] [(.int (own_ch q1 (6 : Int32))), (.int (1 : Int32)), (.ref b1)])) τ → G τ := fun τ κ => pre τ (st4 τ κ)
  obtain ⟨c5, Ar5, q5, S5, Nz5, Hh5, Gg5⟩ := id V_b1
  have hin5 : ¬ ((1 : Int32) < 0 ∨ c5.slots.size ≤ ((1 : Int32)).toNatClampNeg) := inb_of S5 ⟨by decide, by decide⟩
  obtain ⟨T5, h5, X5, e5, W5, st5⟩ := stB X4 hx hZ hs4 Ar5 (j := (1 : Int32)) hin5 (g := (mkF m 24 #[.val (.long q1), .second, .val (.int p2), .val (.int p3), .val (.ref b1), .unset, .unset, .unset, .unset, .unset, .unset, .unset, .unset, .unset] [(.int (own_ch q1 (6 : Int32))), (.int (1 : Int32)), (.ref b1)])) rfl rfl (hb hby at_24)
  have V_b1 : Arv Z h5 b1 k1 .byte (8 : Int32) [(.int (nar .byte (own_ch q1 (0 : Int32)))), (.int (nar .byte (own_ch q1 (6 : Int32)))), (.int (0 : Int32)), (.int (0 : Int32)), (.int (0 : Int32)), (.int (0 : Int32)), (.int (0 : Int32)), (.int (0 : Int32))] (.int (0 : Int32)) := Arv.set Ar5 q5 S5 Nz5 Hh5 Gg5 (fits_nar_byte _) W5 1 rfl (Nat.le_of_ble_eq_true rfl)
  have Zn : n0 ≤ h5.size := Nat.le_trans Zn (Keep.of_wr W5).1
  have NN := Fr.snoc X5 NN g_b1
  have pre : ∀ τ, Steps p.tables e below (T5.setTop (mkF m 25 #[.val (.long q1), .second, .val (.int p2), .val (.int p3), .val (.ref b1), .unset, .unset, .unset, .unset, .unset, .unset, .unset, .unset, .unset] [])) τ → G τ := fun τ κ => pre τ (st5 τ κ)
  have pre : ∀ τ, Steps p.tables e below (T5.setTop (mkF m 31 #[.val (.long q1), .second, .val (.int p2), .val (.int p3), .val (.ref b1), .unset, .unset, .unset, .unset, .unset, .unset, .unset, .unset, .unset] [(.int (12 : Int32)), (.long q1), (.int (2 : Int32)), (.ref b1)])) τ → G τ := fun τ κ => pre τ (by
    refine XS.aload X5.here hx rfl (hb hby at_25) rfl rfl ?_
    show Steps p.tables e below (T5.setTop (mkF m 27 #[.val (.long q1), .second, .val (.int p2), .val (.int p3), .val (.ref b1), .unset, .unset, .unset, .unset, .unset, .unset, .unset, .unset, .unset] [(.ref b1)])) τ
    refine XS.iconst X5.here hx rfl (hb hby at_27) ?_
    show Steps p.tables e below (T5.setTop (mkF m 28 #[.val (.long q1), .second, .val (.int p2), .val (.int p3), .val (.ref b1), .unset, .unset, .unset, .unset, .unset, .unset, .unset, .unset, .unset] [(.int (2 : Int32)), (.ref b1)])) τ
    refine XS.lloadN X5.here hx rfl (hb hby at_28) rfl ?_
    show Steps p.tables e below (T5.setTop (mkF m 29 #[.val (.long q1), .second, .val (.int p2), .val (.int p3), .val (.ref b1), .unset, .unset, .unset, .unset, .unset, .unset, .unset, .unset, .unset] [(.long q1), (.int (2 : Int32)), (.ref b1)])) τ
    refine XS.bipush X5.here hx rfl (hb hby at_29) ?_
    show Steps p.tables e below (T5.setTop (mkF m 31 #[.val (.long q1), .second, .val (.int p2), .val (.int p3), .val (.ref b1), .unset, .unset, .unset, .unset, .unset, .unset, .unset, .unset, .unset] [(.int (12 : Int32)), (.long q1), (.int (2 : Int32)), (.ref b1)])) τ
    exact κ)
  obtain ⟨_, _, ⟨T6, Lx6, kx6, nx6⟩, -, X6, ⟨Lc6, hQ6, l6, y6, z6⟩, st6⟩ := Jvm.LawKit.callS X5 hx (y := (⟨"com/example/campo_livre/campolivre/CheckDigitsModulo11PinLaw", "ch", "(JI)B"⟩ : MethodName)) hown (mvT hZ (hw _ (List.mem_of_getElem? (i := 1) rfl))) (mvT hZ (hw _ (List.mem_of_getElem? (i := 2) rfl))) (mvT hZ (hw _ (List.mem_of_getElem? (i := 3) rfl))) (mvT hZ (hw _ (List.mem_of_getElem? (i := 4) rfl))) (by decide) (backOf (W := 2) (rm1 l Z a0 hw [] q1 (12 : Int32) h5 n0 Zn) hZ (hw _ (List.mem_of_getElem? (i := 4) rfl)) (hw _ (List.mem_of_getElem? (i := 3) rfl)) (by decide) (by decide)) (g := (mkF m 31 #[.val (.long q1), .second, .val (.int p2), .val (.int p3), .val (.ref b1), .unset, .unset, .unset, .unset, .unset, .unset, .unset, .unset, .unset] [(.int (12 : Int32)), (.long q1), (.int (2 : Int32)), (.ref b1)])) rfl (by rw [hml]; rfl) (argsL := [(.long q1), (.int (12 : Int32))]) (rest := [(.int (2 : Int32)), (.ref b1)]) (lenOf pd_1 rfl) rfl (by show 2 * 0 + _ ≤ _; exact Nat.le_of_eq rfl) (hb hby at_31) (fun _ _ => ⟨rfl, e5, (by decide : 1 + 0 ≤ _), (by decide : 8 + 0 ≤ _)⟩)
  dsimp only [Pt.U, Pt.locs, Pt.cells, Pt.slots] at X6 l6 y6 z6 st6 hQ6
  replace y6 : kx6 = 1 := y6
  replace z6 : nx6 = 8 := z6
  subst y6 z6
  obtain ⟨rfl, Nq6, hs6⟩ := hQ6
  have NN : Fr n0 Lx6 := by rw [l6]; exact Fr.app NN Nq6
  have pre : ∀ τ, Steps p.tables e below (T6.setTop (mkF m 34 #[.val (.long q1), .second, .val (.int p2), .val (.int p3), .val (.ref b1), .unset, .unset, .unset, .unset, .unset, .unset, .unset, .unset, .unset] [(.int (own_ch q1 (12 : Int32))), (.int (2 : Int32)), (.ref b1)])) τ → G τ := fun τ κ => pre τ (st6 τ κ)
  obtain ⟨c7, Ar7, q7, S7, Nz7, Hh7, Gg7⟩ := id V_b1
  have hin7 : ¬ ((2 : Int32) < 0 ∨ c7.slots.size ≤ ((2 : Int32)).toNatClampNeg) := inb_of S7 ⟨by decide, by decide⟩
  obtain ⟨T7, h7, X7, e7, W7, st7⟩ := stB X6 hx hZ hs6 Ar7 (j := (2 : Int32)) hin7 (g := (mkF m 34 #[.val (.long q1), .second, .val (.int p2), .val (.int p3), .val (.ref b1), .unset, .unset, .unset, .unset, .unset, .unset, .unset, .unset, .unset] [(.int (own_ch q1 (12 : Int32))), (.int (2 : Int32)), (.ref b1)])) rfl rfl (hb hby at_34)
  have V_b1 : Arv Z h7 b1 k1 .byte (8 : Int32) [(.int (nar .byte (own_ch q1 (0 : Int32)))), (.int (nar .byte (own_ch q1 (6 : Int32)))), (.int (nar .byte (own_ch q1 (12 : Int32)))), (.int (0 : Int32)), (.int (0 : Int32)), (.int (0 : Int32)), (.int (0 : Int32)), (.int (0 : Int32))] (.int (0 : Int32)) := Arv.set Ar7 q7 S7 Nz7 Hh7 Gg7 (fits_nar_byte _) W7 2 rfl (Nat.le_of_ble_eq_true rfl)
  have Zn : n0 ≤ h7.size := Nat.le_trans Zn (Keep.of_wr W7).1
  have NN := Fr.snoc X7 NN g_b1
  have pre : ∀ τ, Steps p.tables e below (T7.setTop (mkF m 35 #[.val (.long q1), .second, .val (.int p2), .val (.int p3), .val (.ref b1), .unset, .unset, .unset, .unset, .unset, .unset, .unset, .unset, .unset] [])) τ → G τ := fun τ κ => pre τ (st7 τ κ)
  have pre : ∀ τ, Steps p.tables e below (T7.setTop (mkF m 41 #[.val (.long q1), .second, .val (.int p2), .val (.int p3), .val (.ref b1), .unset, .unset, .unset, .unset, .unset, .unset, .unset, .unset, .unset] [(.int (18 : Int32)), (.long q1), (.int (3 : Int32)), (.ref b1)])) τ → G τ := fun τ κ => pre τ (by
    refine XS.aload X7.here hx rfl (hb hby at_35) rfl rfl ?_
    show Steps p.tables e below (T7.setTop (mkF m 37 #[.val (.long q1), .second, .val (.int p2), .val (.int p3), .val (.ref b1), .unset, .unset, .unset, .unset, .unset, .unset, .unset, .unset, .unset] [(.ref b1)])) τ
    refine XS.iconst X7.here hx rfl (hb hby at_37) ?_
    show Steps p.tables e below (T7.setTop (mkF m 38 #[.val (.long q1), .second, .val (.int p2), .val (.int p3), .val (.ref b1), .unset, .unset, .unset, .unset, .unset, .unset, .unset, .unset, .unset] [(.int (3 : Int32)), (.ref b1)])) τ
    refine XS.lloadN X7.here hx rfl (hb hby at_38) rfl ?_
    show Steps p.tables e below (T7.setTop (mkF m 39 #[.val (.long q1), .second, .val (.int p2), .val (.int p3), .val (.ref b1), .unset, .unset, .unset, .unset, .unset, .unset, .unset, .unset, .unset] [(.long q1), (.int (3 : Int32)), (.ref b1)])) τ
    refine XS.bipush X7.here hx rfl (hb hby at_39) ?_
    show Steps p.tables e below (T7.setTop (mkF m 41 #[.val (.long q1), .second, .val (.int p2), .val (.int p3), .val (.ref b1), .unset, .unset, .unset, .unset, .unset, .unset, .unset, .unset, .unset] [(.int (18 : Int32)), (.long q1), (.int (3 : Int32)), (.ref b1)])) τ
    exact κ)
  obtain ⟨_, _, ⟨T8, Lx8, kx8, nx8⟩, -, X8, ⟨Lc8, hQ8, l8, y8, z8⟩, st8⟩ := Jvm.LawKit.callS X7 hx (y := (⟨"com/example/campo_livre/campolivre/CheckDigitsModulo11PinLaw", "ch", "(JI)B"⟩ : MethodName)) hown (mvT hZ (hw _ (List.mem_of_getElem? (i := 1) rfl))) (mvT hZ (hw _ (List.mem_of_getElem? (i := 2) rfl))) (mvT hZ (hw _ (List.mem_of_getElem? (i := 3) rfl))) (mvT hZ (hw _ (List.mem_of_getElem? (i := 4) rfl))) (by decide) (backOf (W := 2) (rm1 l Z a0 hw [] q1 (18 : Int32) h7 n0 Zn) hZ (hw _ (List.mem_of_getElem? (i := 4) rfl)) (hw _ (List.mem_of_getElem? (i := 3) rfl)) (by decide) (by decide)) (g := (mkF m 41 #[.val (.long q1), .second, .val (.int p2), .val (.int p3), .val (.ref b1), .unset, .unset, .unset, .unset, .unset, .unset, .unset, .unset, .unset] [(.int (18 : Int32)), (.long q1), (.int (3 : Int32)), (.ref b1)])) rfl (by rw [hml]; rfl) (argsL := [(.long q1), (.int (18 : Int32))]) (rest := [(.int (3 : Int32)), (.ref b1)]) (lenOf pd_1 rfl) rfl (by show 2 * 0 + _ ≤ _; exact Nat.le_of_eq rfl) (hb hby at_41) (fun _ _ => ⟨rfl, e7, (by decide : 1 + 0 ≤ _), (by decide : 8 + 0 ≤ _)⟩)
  dsimp only [Pt.U, Pt.locs, Pt.cells, Pt.slots] at X8 l8 y8 z8 st8 hQ8
  replace y8 : kx8 = 1 := y8
  replace z8 : nx8 = 8 := z8
  subst y8 z8
  obtain ⟨rfl, Nq8, hs8⟩ := hQ8
  have NN : Fr n0 Lx8 := by rw [l8]; exact Fr.app NN Nq8
  have pre : ∀ τ, Steps p.tables e below (T8.setTop (mkF m 44 #[.val (.long q1), .second, .val (.int p2), .val (.int p3), .val (.ref b1), .unset, .unset, .unset, .unset, .unset, .unset, .unset, .unset, .unset] [(.int (own_ch q1 (18 : Int32))), (.int (3 : Int32)), (.ref b1)])) τ → G τ := fun τ κ => pre τ (st8 τ κ)
  obtain ⟨c9, Ar9, q9, S9, Nz9, Hh9, Gg9⟩ := id V_b1
  have hin9 : ¬ ((3 : Int32) < 0 ∨ c9.slots.size ≤ ((3 : Int32)).toNatClampNeg) := inb_of S9 ⟨by decide, by decide⟩
  obtain ⟨T9, h9, X9, e9, W9, st9⟩ := stB X8 hx hZ hs8 Ar9 (j := (3 : Int32)) hin9 (g := (mkF m 44 #[.val (.long q1), .second, .val (.int p2), .val (.int p3), .val (.ref b1), .unset, .unset, .unset, .unset, .unset, .unset, .unset, .unset, .unset] [(.int (own_ch q1 (18 : Int32))), (.int (3 : Int32)), (.ref b1)])) rfl rfl (hb hby at_44)
  have V_b1 : Arv Z h9 b1 k1 .byte (8 : Int32) [(.int (nar .byte (own_ch q1 (0 : Int32)))), (.int (nar .byte (own_ch q1 (6 : Int32)))), (.int (nar .byte (own_ch q1 (12 : Int32)))), (.int (nar .byte (own_ch q1 (18 : Int32)))), (.int (0 : Int32)), (.int (0 : Int32)), (.int (0 : Int32)), (.int (0 : Int32))] (.int (0 : Int32)) := Arv.set Ar9 q9 S9 Nz9 Hh9 Gg9 (fits_nar_byte _) W9 3 rfl (Nat.le_of_ble_eq_true rfl)
  have Zn : n0 ≤ h9.size := Nat.le_trans Zn (Keep.of_wr W9).1
  have NN := Fr.snoc X9 NN g_b1
  have pre : ∀ τ, Steps p.tables e below (T9.setTop (mkF m 45 #[.val (.long q1), .second, .val (.int p2), .val (.int p3), .val (.ref b1), .unset, .unset, .unset, .unset, .unset, .unset, .unset, .unset, .unset] [])) τ → G τ := fun τ κ => pre τ (st9 τ κ)
  have pre : ∀ τ, Steps p.tables e below (T9.setTop (mkF m 51 #[.val (.long q1), .second, .val (.int p2), .val (.int p3), .val (.ref b1), .unset, .unset, .unset, .unset, .unset, .unset, .unset, .unset, .unset] [(.int (24 : Int32)), (.long q1), (.int (4 : Int32)), (.ref b1)])) τ → G τ := fun τ κ => pre τ (by
    refine XS.aload X9.here hx rfl (hb hby at_45) rfl rfl ?_
    show Steps p.tables e below (T9.setTop (mkF m 47 #[.val (.long q1), .second, .val (.int p2), .val (.int p3), .val (.ref b1), .unset, .unset, .unset, .unset, .unset, .unset, .unset, .unset, .unset] [(.ref b1)])) τ
    refine XS.iconst X9.here hx rfl (hb hby at_47) ?_
    show Steps p.tables e below (T9.setTop (mkF m 48 #[.val (.long q1), .second, .val (.int p2), .val (.int p3), .val (.ref b1), .unset, .unset, .unset, .unset, .unset, .unset, .unset, .unset, .unset] [(.int (4 : Int32)), (.ref b1)])) τ
    refine XS.lloadN X9.here hx rfl (hb hby at_48) rfl ?_
    show Steps p.tables e below (T9.setTop (mkF m 49 #[.val (.long q1), .second, .val (.int p2), .val (.int p3), .val (.ref b1), .unset, .unset, .unset, .unset, .unset, .unset, .unset, .unset, .unset] [(.long q1), (.int (4 : Int32)), (.ref b1)])) τ
    refine XS.bipush X9.here hx rfl (hb hby at_49) ?_
    show Steps p.tables e below (T9.setTop (mkF m 51 #[.val (.long q1), .second, .val (.int p2), .val (.int p3), .val (.ref b1), .unset, .unset, .unset, .unset, .unset, .unset, .unset, .unset, .unset] [(.int (24 : Int32)), (.long q1), (.int (4 : Int32)), (.ref b1)])) τ
    exact κ)
  obtain ⟨_, _, ⟨T10, Lx10, kx10, nx10⟩, -, X10, ⟨Lc10, hQ10, l10, y10, z10⟩, st10⟩ := Jvm.LawKit.callS X9 hx (y := (⟨"com/example/campo_livre/campolivre/CheckDigitsModulo11PinLaw", "ch", "(JI)B"⟩ : MethodName)) hown (mvT hZ (hw _ (List.mem_of_getElem? (i := 1) rfl))) (mvT hZ (hw _ (List.mem_of_getElem? (i := 2) rfl))) (mvT hZ (hw _ (List.mem_of_getElem? (i := 3) rfl))) (mvT hZ (hw _ (List.mem_of_getElem? (i := 4) rfl))) (by decide) (backOf (W := 2) (rm1 l Z a0 hw [] q1 (24 : Int32) h9 n0 Zn) hZ (hw _ (List.mem_of_getElem? (i := 4) rfl)) (hw _ (List.mem_of_getElem? (i := 3) rfl)) (by decide) (by decide)) (g := (mkF m 51 #[.val (.long q1), .second, .val (.int p2), .val (.int p3), .val (.ref b1), .unset, .unset, .unset, .unset, .unset, .unset, .unset, .unset, .unset] [(.int (24 : Int32)), (.long q1), (.int (4 : Int32)), (.ref b1)])) rfl (by rw [hml]; rfl) (argsL := [(.long q1), (.int (24 : Int32))]) (rest := [(.int (4 : Int32)), (.ref b1)]) (lenOf pd_1 rfl) rfl (by show 2 * 0 + _ ≤ _; exact Nat.le_of_eq rfl) (hb hby at_51) (fun _ _ => ⟨rfl, e9, (by decide : 1 + 0 ≤ _), (by decide : 8 + 0 ≤ _)⟩)
  dsimp only [Pt.U, Pt.locs, Pt.cells, Pt.slots] at X10 l10 y10 z10 st10 hQ10
  replace y10 : kx10 = 1 := y10
  replace z10 : nx10 = 8 := z10
  subst y10 z10
  obtain ⟨rfl, Nq10, hs10⟩ := hQ10
  have NN : Fr n0 Lx10 := by rw [l10]; exact Fr.app NN Nq10
  have pre : ∀ τ, Steps p.tables e below (T10.setTop (mkF m 54 #[.val (.long q1), .second, .val (.int p2), .val (.int p3), .val (.ref b1), .unset, .unset, .unset, .unset, .unset, .unset, .unset, .unset, .unset] [(.int (own_ch q1 (24 : Int32))), (.int (4 : Int32)), (.ref b1)])) τ → G τ := fun τ κ => pre τ (st10 τ κ)
  obtain ⟨c11, Ar11, q11, S11, Nz11, Hh11, Gg11⟩ := id V_b1
  have hin11 : ¬ ((4 : Int32) < 0 ∨ c11.slots.size ≤ ((4 : Int32)).toNatClampNeg) := inb_of S11 ⟨by decide, by decide⟩
  obtain ⟨T11, h11, X11, e11, W11, st11⟩ := stB X10 hx hZ hs10 Ar11 (j := (4 : Int32)) hin11 (g := (mkF m 54 #[.val (.long q1), .second, .val (.int p2), .val (.int p3), .val (.ref b1), .unset, .unset, .unset, .unset, .unset, .unset, .unset, .unset, .unset] [(.int (own_ch q1 (24 : Int32))), (.int (4 : Int32)), (.ref b1)])) rfl rfl (hb hby at_54)
  have V_b1 : Arv Z h11 b1 k1 .byte (8 : Int32) [(.int (nar .byte (own_ch q1 (0 : Int32)))), (.int (nar .byte (own_ch q1 (6 : Int32)))), (.int (nar .byte (own_ch q1 (12 : Int32)))), (.int (nar .byte (own_ch q1 (18 : Int32)))), (.int (nar .byte (own_ch q1 (24 : Int32)))), (.int (0 : Int32)), (.int (0 : Int32)), (.int (0 : Int32))] (.int (0 : Int32)) := Arv.set Ar11 q11 S11 Nz11 Hh11 Gg11 (fits_nar_byte _) W11 4 rfl (Nat.le_of_ble_eq_true rfl)
  have Zn : n0 ≤ h11.size := Nat.le_trans Zn (Keep.of_wr W11).1
  have NN := Fr.snoc X11 NN g_b1
  have pre : ∀ τ, Steps p.tables e below (T11.setTop (mkF m 55 #[.val (.long q1), .second, .val (.int p2), .val (.int p3), .val (.ref b1), .unset, .unset, .unset, .unset, .unset, .unset, .unset, .unset, .unset] [])) τ → G τ := fun τ κ => pre τ (st11 τ κ)
  have pre : ∀ τ, Steps p.tables e below (T11.setTop (mkF m 61 #[.val (.long q1), .second, .val (.int p2), .val (.int p3), .val (.ref b1), .unset, .unset, .unset, .unset, .unset, .unset, .unset, .unset, .unset] [(.int (30 : Int32)), (.long q1), (.int (5 : Int32)), (.ref b1)])) τ → G τ := fun τ κ => pre τ (by
    refine XS.aload X11.here hx rfl (hb hby at_55) rfl rfl ?_
    show Steps p.tables e below (T11.setTop (mkF m 57 #[.val (.long q1), .second, .val (.int p2), .val (.int p3), .val (.ref b1), .unset, .unset, .unset, .unset, .unset, .unset, .unset, .unset, .unset] [(.ref b1)])) τ
    refine XS.iconst X11.here hx rfl (hb hby at_57) ?_
    show Steps p.tables e below (T11.setTop (mkF m 58 #[.val (.long q1), .second, .val (.int p2), .val (.int p3), .val (.ref b1), .unset, .unset, .unset, .unset, .unset, .unset, .unset, .unset, .unset] [(.int (5 : Int32)), (.ref b1)])) τ
    refine XS.lloadN X11.here hx rfl (hb hby at_58) rfl ?_
    show Steps p.tables e below (T11.setTop (mkF m 59 #[.val (.long q1), .second, .val (.int p2), .val (.int p3), .val (.ref b1), .unset, .unset, .unset, .unset, .unset, .unset, .unset, .unset, .unset] [(.long q1), (.int (5 : Int32)), (.ref b1)])) τ
    refine XS.bipush X11.here hx rfl (hb hby at_59) ?_
    show Steps p.tables e below (T11.setTop (mkF m 61 #[.val (.long q1), .second, .val (.int p2), .val (.int p3), .val (.ref b1), .unset, .unset, .unset, .unset, .unset, .unset, .unset, .unset, .unset] [(.int (30 : Int32)), (.long q1), (.int (5 : Int32)), (.ref b1)])) τ
    exact κ)
  obtain ⟨_, _, ⟨T12, Lx12, kx12, nx12⟩, -, X12, ⟨Lc12, hQ12, l12, y12, z12⟩, st12⟩ := Jvm.LawKit.callS X11 hx (y := (⟨"com/example/campo_livre/campolivre/CheckDigitsModulo11PinLaw", "ch", "(JI)B"⟩ : MethodName)) hown (mvT hZ (hw _ (List.mem_of_getElem? (i := 1) rfl))) (mvT hZ (hw _ (List.mem_of_getElem? (i := 2) rfl))) (mvT hZ (hw _ (List.mem_of_getElem? (i := 3) rfl))) (mvT hZ (hw _ (List.mem_of_getElem? (i := 4) rfl))) (by decide) (backOf (W := 2) (rm1 l Z a0 hw [] q1 (30 : Int32) h11 n0 Zn) hZ (hw _ (List.mem_of_getElem? (i := 4) rfl)) (hw _ (List.mem_of_getElem? (i := 3) rfl)) (by decide) (by decide)) (g := (mkF m 61 #[.val (.long q1), .second, .val (.int p2), .val (.int p3), .val (.ref b1), .unset, .unset, .unset, .unset, .unset, .unset, .unset, .unset, .unset] [(.int (30 : Int32)), (.long q1), (.int (5 : Int32)), (.ref b1)])) rfl (by rw [hml]; rfl) (argsL := [(.long q1), (.int (30 : Int32))]) (rest := [(.int (5 : Int32)), (.ref b1)]) (lenOf pd_1 rfl) rfl (by show 2 * 0 + _ ≤ _; exact Nat.le_of_eq rfl) (hb hby at_61) (fun _ _ => ⟨rfl, e11, (by decide : 1 + 0 ≤ _), (by decide : 8 + 0 ≤ _)⟩)
  dsimp only [Pt.U, Pt.locs, Pt.cells, Pt.slots] at X12 l12 y12 z12 st12 hQ12
  replace y12 : kx12 = 1 := y12
  replace z12 : nx12 = 8 := z12
  subst y12 z12
  obtain ⟨rfl, Nq12, hs12⟩ := hQ12
  have NN : Fr n0 Lx12 := by rw [l12]; exact Fr.app NN Nq12
  have pre : ∀ τ, Steps p.tables e below (T12.setTop (mkF m 64 #[.val (.long q1), .second, .val (.int p2), .val (.int p3), .val (.ref b1), .unset, .unset, .unset, .unset, .unset, .unset, .unset, .unset, .unset] [(.int (own_ch q1 (30 : Int32))), (.int (5 : Int32)), (.ref b1)])) τ → G τ := fun τ κ => pre τ (st12 τ κ)
  obtain ⟨c13, Ar13, q13, S13, Nz13, Hh13, Gg13⟩ := id V_b1
  have hin13 : ¬ ((5 : Int32) < 0 ∨ c13.slots.size ≤ ((5 : Int32)).toNatClampNeg) := inb_of S13 ⟨by decide, by decide⟩
  obtain ⟨T13, h13, X13, e13, W13, st13⟩ := stB X12 hx hZ hs12 Ar13 (j := (5 : Int32)) hin13 (g := (mkF m 64 #[.val (.long q1), .second, .val (.int p2), .val (.int p3), .val (.ref b1), .unset, .unset, .unset, .unset, .unset, .unset, .unset, .unset, .unset] [(.int (own_ch q1 (30 : Int32))), (.int (5 : Int32)), (.ref b1)])) rfl rfl (hb hby at_64)
  have V_b1 : Arv Z h13 b1 k1 .byte (8 : Int32) [(.int (nar .byte (own_ch q1 (0 : Int32)))), (.int (nar .byte (own_ch q1 (6 : Int32)))), (.int (nar .byte (own_ch q1 (12 : Int32)))), (.int (nar .byte (own_ch q1 (18 : Int32)))), (.int (nar .byte (own_ch q1 (24 : Int32)))), (.int (nar .byte (own_ch q1 (30 : Int32)))), (.int (0 : Int32)), (.int (0 : Int32))] (.int (0 : Int32)) := Arv.set Ar13 q13 S13 Nz13 Hh13 Gg13 (fits_nar_byte _) W13 5 rfl (Nat.le_of_ble_eq_true rfl)
  have Zn : n0 ≤ h13.size := Nat.le_trans Zn (Keep.of_wr W13).1
  have NN := Fr.snoc X13 NN g_b1
  have pre : ∀ τ, Steps p.tables e below (T13.setTop (mkF m 65 #[.val (.long q1), .second, .val (.int p2), .val (.int p3), .val (.ref b1), .unset, .unset, .unset, .unset, .unset, .unset, .unset, .unset, .unset] [])) τ → G τ := fun τ κ => pre τ (st13 τ κ)
  have pre : ∀ τ, Steps p.tables e below (T13.setTop (mkF m 72 #[.val (.long q1), .second, .val (.int p2), .val (.int p3), .val (.ref b1), .unset, .unset, .unset, .unset, .unset, .unset, .unset, .unset, .unset] [(.int (36 : Int32)), (.long q1), (.int (6 : Int32)), (.ref b1)])) τ → G τ := fun τ κ => pre τ (by
    refine XS.aload X13.here hx rfl (hb hby at_65) rfl rfl ?_
    show Steps p.tables e below (T13.setTop (mkF m 67 #[.val (.long q1), .second, .val (.int p2), .val (.int p3), .val (.ref b1), .unset, .unset, .unset, .unset, .unset, .unset, .unset, .unset, .unset] [(.ref b1)])) τ
    refine XS.bipush X13.here hx rfl (hb hby at_67) ?_
    show Steps p.tables e below (T13.setTop (mkF m 69 #[.val (.long q1), .second, .val (.int p2), .val (.int p3), .val (.ref b1), .unset, .unset, .unset, .unset, .unset, .unset, .unset, .unset, .unset] [(.int (6 : Int32)), (.ref b1)])) τ
    refine XS.lloadN X13.here hx rfl (hb hby at_69) rfl ?_
    show Steps p.tables e below (T13.setTop (mkF m 70 #[.val (.long q1), .second, .val (.int p2), .val (.int p3), .val (.ref b1), .unset, .unset, .unset, .unset, .unset, .unset, .unset, .unset, .unset] [(.long q1), (.int (6 : Int32)), (.ref b1)])) τ
    refine XS.bipush X13.here hx rfl (hb hby at_70) ?_
    show Steps p.tables e below (T13.setTop (mkF m 72 #[.val (.long q1), .second, .val (.int p2), .val (.int p3), .val (.ref b1), .unset, .unset, .unset, .unset, .unset, .unset, .unset, .unset, .unset] [(.int (36 : Int32)), (.long q1), (.int (6 : Int32)), (.ref b1)])) τ
    exact κ)
  obtain ⟨_, _, ⟨T14, Lx14, kx14, nx14⟩, -, X14, ⟨Lc14, hQ14, l14, y14, z14⟩, st14⟩ := Jvm.LawKit.callS X13 hx (y := (⟨"com/example/campo_livre/campolivre/CheckDigitsModulo11PinLaw", "ch", "(JI)B"⟩ : MethodName)) hown (mvT hZ (hw _ (List.mem_of_getElem? (i := 1) rfl))) (mvT hZ (hw _ (List.mem_of_getElem? (i := 2) rfl))) (mvT hZ (hw _ (List.mem_of_getElem? (i := 3) rfl))) (mvT hZ (hw _ (List.mem_of_getElem? (i := 4) rfl))) (by decide) (backOf (W := 2) (rm1 l Z a0 hw [] q1 (36 : Int32) h13 n0 Zn) hZ (hw _ (List.mem_of_getElem? (i := 4) rfl)) (hw _ (List.mem_of_getElem? (i := 3) rfl)) (by decide) (by decide)) (g := (mkF m 72 #[.val (.long q1), .second, .val (.int p2), .val (.int p3), .val (.ref b1), .unset, .unset, .unset, .unset, .unset, .unset, .unset, .unset, .unset] [(.int (36 : Int32)), (.long q1), (.int (6 : Int32)), (.ref b1)])) rfl (by rw [hml]; rfl) (argsL := [(.long q1), (.int (36 : Int32))]) (rest := [(.int (6 : Int32)), (.ref b1)]) (lenOf pd_1 rfl) rfl (by show 2 * 0 + _ ≤ _; exact Nat.le_of_eq rfl) (hb hby at_72) (fun _ _ => ⟨rfl, e13, (by decide : 1 + 0 ≤ _), (by decide : 8 + 0 ≤ _)⟩)
  dsimp only [Pt.U, Pt.locs, Pt.cells, Pt.slots] at X14 l14 y14 z14 st14 hQ14
  replace y14 : kx14 = 1 := y14
  replace z14 : nx14 = 8 := z14
  subst y14 z14
  obtain ⟨rfl, Nq14, hs14⟩ := hQ14
  have NN : Fr n0 Lx14 := by rw [l14]; exact Fr.app NN Nq14
  have pre : ∀ τ, Steps p.tables e below (T14.setTop (mkF m 75 #[.val (.long q1), .second, .val (.int p2), .val (.int p3), .val (.ref b1), .unset, .unset, .unset, .unset, .unset, .unset, .unset, .unset, .unset] [(.int (own_ch q1 (36 : Int32))), (.int (6 : Int32)), (.ref b1)])) τ → G τ := fun τ κ => pre τ (st14 τ κ)
  obtain ⟨c15, Ar15, q15, S15, Nz15, Hh15, Gg15⟩ := id V_b1
  have hin15 : ¬ ((6 : Int32) < 0 ∨ c15.slots.size ≤ ((6 : Int32)).toNatClampNeg) := inb_of S15 ⟨by decide, by decide⟩
  obtain ⟨T15, h15, X15, e15, W15, st15⟩ := stB X14 hx hZ hs14 Ar15 (j := (6 : Int32)) hin15 (g := (mkF m 75 #[.val (.long q1), .second, .val (.int p2), .val (.int p3), .val (.ref b1), .unset, .unset, .unset, .unset, .unset, .unset, .unset, .unset, .unset] [(.int (own_ch q1 (36 : Int32))), (.int (6 : Int32)), (.ref b1)])) rfl rfl (hb hby at_75)
  have V_b1 : Arv Z h15 b1 k1 .byte (8 : Int32) [(.int (nar .byte (own_ch q1 (0 : Int32)))), (.int (nar .byte (own_ch q1 (6 : Int32)))), (.int (nar .byte (own_ch q1 (12 : Int32)))), (.int (nar .byte (own_ch q1 (18 : Int32)))), (.int (nar .byte (own_ch q1 (24 : Int32)))), (.int (nar .byte (own_ch q1 (30 : Int32)))), (.int (nar .byte (own_ch q1 (36 : Int32)))), (.int (0 : Int32))] (.int (0 : Int32)) := Arv.set Ar15 q15 S15 Nz15 Hh15 Gg15 (fits_nar_byte _) W15 6 rfl (Nat.le_of_ble_eq_true rfl)
  have Zn : n0 ≤ h15.size := Nat.le_trans Zn (Keep.of_wr W15).1
  have NN := Fr.snoc X15 NN g_b1
  have pre : ∀ τ, Steps p.tables e below (T15.setTop (mkF m 76 #[.val (.long q1), .second, .val (.int p2), .val (.int p3), .val (.ref b1), .unset, .unset, .unset, .unset, .unset, .unset, .unset, .unset, .unset] [])) τ → G τ := fun τ κ => pre τ (st15 τ κ)
  have pre : ∀ τ, Steps p.tables e below (T15.setTop (mkF m 83 #[.val (.long q1), .second, .val (.int p2), .val (.int p3), .val (.ref b1), .unset, .unset, .unset, .unset, .unset, .unset, .unset, .unset, .unset] [(.int (42 : Int32)), (.long q1), (.int (7 : Int32)), (.ref b1)])) τ → G τ := fun τ κ => pre τ (by
    refine XS.aload X15.here hx rfl (hb hby at_76) rfl rfl ?_
    show Steps p.tables e below (T15.setTop (mkF m 78 #[.val (.long q1), .second, .val (.int p2), .val (.int p3), .val (.ref b1), .unset, .unset, .unset, .unset, .unset, .unset, .unset, .unset, .unset] [(.ref b1)])) τ
    refine XS.bipush X15.here hx rfl (hb hby at_78) ?_
    show Steps p.tables e below (T15.setTop (mkF m 80 #[.val (.long q1), .second, .val (.int p2), .val (.int p3), .val (.ref b1), .unset, .unset, .unset, .unset, .unset, .unset, .unset, .unset, .unset] [(.int (7 : Int32)), (.ref b1)])) τ
    refine XS.lloadN X15.here hx rfl (hb hby at_80) rfl ?_
    show Steps p.tables e below (T15.setTop (mkF m 81 #[.val (.long q1), .second, .val (.int p2), .val (.int p3), .val (.ref b1), .unset, .unset, .unset, .unset, .unset, .unset, .unset, .unset, .unset] [(.long q1), (.int (7 : Int32)), (.ref b1)])) τ
    refine XS.bipush X15.here hx rfl (hb hby at_81) ?_
    show Steps p.tables e below (T15.setTop (mkF m 83 #[.val (.long q1), .second, .val (.int p2), .val (.int p3), .val (.ref b1), .unset, .unset, .unset, .unset, .unset, .unset, .unset, .unset, .unset] [(.int (42 : Int32)), (.long q1), (.int (7 : Int32)), (.ref b1)])) τ
    exact κ)
  obtain ⟨_, _, ⟨T16, Lx16, kx16, nx16⟩, -, X16, ⟨Lc16, hQ16, l16, y16, z16⟩, st16⟩ := Jvm.LawKit.callS X15 hx (y := (⟨"com/example/campo_livre/campolivre/CheckDigitsModulo11PinLaw", "ch", "(JI)B"⟩ : MethodName)) hown (mvT hZ (hw _ (List.mem_of_getElem? (i := 1) rfl))) (mvT hZ (hw _ (List.mem_of_getElem? (i := 2) rfl))) (mvT hZ (hw _ (List.mem_of_getElem? (i := 3) rfl))) (mvT hZ (hw _ (List.mem_of_getElem? (i := 4) rfl))) (by decide) (backOf (W := 2) (rm1 l Z a0 hw [] q1 (42 : Int32) h15 n0 Zn) hZ (hw _ (List.mem_of_getElem? (i := 4) rfl)) (hw _ (List.mem_of_getElem? (i := 3) rfl)) (by decide) (by decide)) (g := (mkF m 83 #[.val (.long q1), .second, .val (.int p2), .val (.int p3), .val (.ref b1), .unset, .unset, .unset, .unset, .unset, .unset, .unset, .unset, .unset] [(.int (42 : Int32)), (.long q1), (.int (7 : Int32)), (.ref b1)])) rfl (by rw [hml]; rfl) (argsL := [(.long q1), (.int (42 : Int32))]) (rest := [(.int (7 : Int32)), (.ref b1)]) (lenOf pd_1 rfl) rfl (by show 2 * 0 + _ ≤ _; exact Nat.le_of_eq rfl) (hb hby at_83) (fun _ _ => ⟨rfl, e15, (by decide : 1 + 0 ≤ _), (by decide : 8 + 0 ≤ _)⟩)
  dsimp only [Pt.U, Pt.locs, Pt.cells, Pt.slots] at X16 l16 y16 z16 st16 hQ16
  replace y16 : kx16 = 1 := y16
  replace z16 : nx16 = 8 := z16
  subst y16 z16
  obtain ⟨rfl, Nq16, hs16⟩ := hQ16
  have NN : Fr n0 Lx16 := by rw [l16]; exact Fr.app NN Nq16
  have pre : ∀ τ, Steps p.tables e below (T16.setTop (mkF m 86 #[.val (.long q1), .second, .val (.int p2), .val (.int p3), .val (.ref b1), .unset, .unset, .unset, .unset, .unset, .unset, .unset, .unset, .unset] [(.int (own_ch q1 (42 : Int32))), (.int (7 : Int32)), (.ref b1)])) τ → G τ := fun τ κ => pre τ (st16 τ κ)
  obtain ⟨c17, Ar17, q17, S17, Nz17, Hh17, Gg17⟩ := id V_b1
  have hin17 : ¬ ((7 : Int32) < 0 ∨ c17.slots.size ≤ ((7 : Int32)).toNatClampNeg) := inb_of S17 ⟨by decide, by decide⟩
  obtain ⟨T17, h17, X17, e17, W17, st17⟩ := stB X16 hx hZ hs16 Ar17 (j := (7 : Int32)) hin17 (g := (mkF m 86 #[.val (.long q1), .second, .val (.int p2), .val (.int p3), .val (.ref b1), .unset, .unset, .unset, .unset, .unset, .unset, .unset, .unset, .unset] [(.int (own_ch q1 (42 : Int32))), (.int (7 : Int32)), (.ref b1)])) rfl rfl (hb hby at_86)
  have V_b1 : Arv Z h17 b1 k1 .byte (8 : Int32) [(.int (nar .byte (own_ch q1 (0 : Int32)))), (.int (nar .byte (own_ch q1 (6 : Int32)))), (.int (nar .byte (own_ch q1 (12 : Int32)))), (.int (nar .byte (own_ch q1 (18 : Int32)))), (.int (nar .byte (own_ch q1 (24 : Int32)))), (.int (nar .byte (own_ch q1 (30 : Int32)))), (.int (nar .byte (own_ch q1 (36 : Int32)))), (.int (nar .byte (own_ch q1 (42 : Int32))))] (.int (0 : Int32)) := Arv.set Ar17 q17 S17 Nz17 Hh17 Gg17 (fits_nar_byte _) W17 7 rfl (Nat.le_of_ble_eq_true rfl)
  have Zn : n0 ≤ h17.size := Nat.le_trans Zn (Keep.of_wr W17).1
  have NN := Fr.snoc X17 NN g_b1
  have pre : ∀ τ, Steps p.tables e below (T17.setTop (mkF m 87 #[.val (.long q1), .second, .val (.int p2), .val (.int p3), .val (.ref b1), .unset, .unset, .unset, .unset, .unset, .unset, .unset, .unset, .unset] [])) τ → G τ := fun τ κ => pre τ (st17 τ κ)
  obtain ⟨vs, hvs⟩ : ∃ z : List Value, z = [(.int (nar .byte (own_ch q1 (0 : Int32)))), (.int (nar .byte (own_ch q1 (6 : Int32)))), (.int (nar .byte (own_ch q1 (12 : Int32)))), (.int (nar .byte (own_ch q1 (18 : Int32)))), (.int (nar .byte (own_ch q1 (24 : Int32)))), (.int (nar .byte (own_ch q1 (30 : Int32)))), (.int (nar .byte (own_ch q1 (36 : Int32)))), (.int (nar .byte (own_ch q1 (42 : Int32))))] := ⟨_, rfl⟩
  rw [← hvs] at V_b1
  have pre : ∀ τ, Steps p.tables e below (T17.setTop (mkF m 111 #[.val (.long q1), .second, .val (.int p2), .val (.int p3), .val (.ref b1), .val (.int ((p2 &&& (15 : Int32)) % (9 : Int32))), .val (.int ((((p2.toUInt32 >>> ((4 : Int32) &&& 31).toUInt32).toInt32) &&& (15 : Int32)) % (9 : Int32))), .unset, .unset, .unset, .unset, .unset, .unset, .unset] [(.int ((((p2.toUInt32 >>> ((4 : Int32) &&& 31).toUInt32).toInt32) &&& (15 : Int32)) % (9 : Int32))), (.int ((p2 &&& (15 : Int32)) % (9 : Int32)))])) τ → G τ := fun τ κ => pre τ (by
    refine XS.iloadN X17.here hx rfl (hb hby at_87) rfl ?_
    show Steps p.tables e below (T17.setTop (mkF m 88 #[.val (.long q1), .second, .val (.int p2), .val (.int p3), .val (.ref b1), .unset, .unset, .unset, .unset, .unset, .unset, .unset, .unset, .unset] [(.int p2)])) τ
    refine XS.bipush X17.here hx rfl (hb hby at_88) ?_
    show Steps p.tables e below (T17.setTop (mkF m 90 #[.val (.long q1), .second, .val (.int p2), .val (.int p3), .val (.ref b1), .unset, .unset, .unset, .unset, .unset, .unset, .unset, .unset, .unset] [(.int (15 : Int32)), (.int p2)])) τ
    refine XS.iand X17.here hx rfl (hb hby at_90) rfl ?_
    show Steps p.tables e below (T17.setTop (mkF m 91 #[.val (.long q1), .second, .val (.int p2), .val (.int p3), .val (.ref b1), .unset, .unset, .unset, .unset, .unset, .unset, .unset, .unset, .unset] [(.int (p2 &&& (15 : Int32)))])) τ
    refine XS.bipush X17.here hx rfl (hb hby at_91) ?_
    show Steps p.tables e below (T17.setTop (mkF m 93 #[.val (.long q1), .second, .val (.int p2), .val (.int p3), .val (.ref b1), .unset, .unset, .unset, .unset, .unset, .unset, .unset, .unset, .unset] [(.int (9 : Int32)), (.int (p2 &&& (15 : Int32)))])) τ
    refine iremM X17 hx rfl (hb hby at_93) rfl (by decide) ?_
    show Steps p.tables e below (T17.setTop (mkF m 94 #[.val (.long q1), .second, .val (.int p2), .val (.int p3), .val (.ref b1), .unset, .unset, .unset, .unset, .unset, .unset, .unset, .unset, .unset] [(.int ((p2 &&& (15 : Int32)) % (9 : Int32)))])) τ
    refine XS.istore X17.here hx rfl (hb hby at_94) rfl (l' := #[.val (.long q1), .second, .val (.int p2), .val (.int p3), .val (.ref b1), .val (.int ((p2 &&& (15 : Int32)) % (9 : Int32))), .unset, .unset, .unset, .unset, .unset, .unset, .unset, .unset]) rfl ?_
    show Steps p.tables e below (T17.setTop (mkF m 96 #[.val (.long q1), .second, .val (.int p2), .val (.int p3), .val (.ref b1), .val (.int ((p2 &&& (15 : Int32)) % (9 : Int32))), .unset, .unset, .unset, .unset, .unset, .unset, .unset, .unset] [])) τ
    refine XS.iloadN X17.here hx rfl (hb hby at_96) rfl ?_
    show Steps p.tables e below (T17.setTop (mkF m 97 #[.val (.long q1), .second, .val (.int p2), .val (.int p3), .val (.ref b1), .val (.int ((p2 &&& (15 : Int32)) % (9 : Int32))), .unset, .unset, .unset, .unset, .unset, .unset, .unset, .unset] [(.int p2)])) τ
    refine XS.iconst X17.here hx rfl (hb hby at_97) ?_
    show Steps p.tables e below (T17.setTop (mkF m 98 #[.val (.long q1), .second, .val (.int p2), .val (.int p3), .val (.ref b1), .val (.int ((p2 &&& (15 : Int32)) % (9 : Int32))), .unset, .unset, .unset, .unset, .unset, .unset, .unset, .unset] [(.int (4 : Int32)), (.int p2)])) τ
    refine XS.iushr X17.here hx rfl (hb hby at_98) rfl ?_
    show Steps p.tables e below (T17.setTop (mkF m 99 #[.val (.long q1), .second, .val (.int p2), .val (.int p3), .val (.ref b1), .val (.int ((p2 &&& (15 : Int32)) % (9 : Int32))), .unset, .unset, .unset, .unset, .unset, .unset, .unset, .unset] [(.int ((p2.toUInt32 >>> ((4 : Int32) &&& 31).toUInt32).toInt32))])) τ
    refine XS.bipush X17.here hx rfl (hb hby at_99) ?_
    show Steps p.tables e below (T17.setTop (mkF m 101 #[.val (.long q1), .second, .val (.int p2), .val (.int p3), .val (.ref b1), .val (.int ((p2 &&& (15 : Int32)) % (9 : Int32))), .unset, .unset, .unset, .unset, .unset, .unset, .unset, .unset] [(.int (15 : Int32)), (.int ((p2.toUInt32 >>> ((4 : Int32) &&& 31).toUInt32).toInt32))])) τ
    refine XS.iand X17.here hx rfl (hb hby at_101) rfl ?_
    show Steps p.tables e below (T17.setTop (mkF m 102 #[.val (.long q1), .second, .val (.int p2), .val (.int p3), .val (.ref b1), .val (.int ((p2 &&& (15 : Int32)) % (9 : Int32))), .unset, .unset, .unset, .unset, .unset, .unset, .unset, .unset] [(.int (((p2.toUInt32 >>> ((4 : Int32) &&& 31).toUInt32).toInt32) &&& (15 : Int32)))])) τ
    refine XS.bipush X17.here hx rfl (hb hby at_102) ?_
    show Steps p.tables e below (T17.setTop (mkF m 104 #[.val (.long q1), .second, .val (.int p2), .val (.int p3), .val (.ref b1), .val (.int ((p2 &&& (15 : Int32)) % (9 : Int32))), .unset, .unset, .unset, .unset, .unset, .unset, .unset, .unset] [(.int (9 : Int32)), (.int (((p2.toUInt32 >>> ((4 : Int32) &&& 31).toUInt32).toInt32) &&& (15 : Int32)))])) τ
    refine iremM X17 hx rfl (hb hby at_104) rfl (by decide) ?_
    show Steps p.tables e below (T17.setTop (mkF m 105 #[.val (.long q1), .second, .val (.int p2), .val (.int p3), .val (.ref b1), .val (.int ((p2 &&& (15 : Int32)) % (9 : Int32))), .unset, .unset, .unset, .unset, .unset, .unset, .unset, .unset] [(.int ((((p2.toUInt32 >>> ((4 : Int32) &&& 31).toUInt32).toInt32) &&& (15 : Int32)) % (9 : Int32)))])) τ
    refine XS.istore X17.here hx rfl (hb hby at_105) rfl (l' := #[.val (.long q1), .second, .val (.int p2), .val (.int p3), .val (.ref b1), .val (.int ((p2 &&& (15 : Int32)) % (9 : Int32))), .val (.int ((((p2.toUInt32 >>> ((4 : Int32) &&& 31).toUInt32).toInt32) &&& (15 : Int32)) % (9 : Int32))), .unset, .unset, .unset, .unset, .unset, .unset, .unset]) rfl ?_
    show Steps p.tables e below (T17.setTop (mkF m 107 #[.val (.long q1), .second, .val (.int p2), .val (.int p3), .val (.ref b1), .val (.int ((p2 &&& (15 : Int32)) % (9 : Int32))), .val (.int ((((p2.toUInt32 >>> ((4 : Int32) &&& 31).toUInt32).toInt32) &&& (15 : Int32)) % (9 : Int32))), .unset, .unset, .unset, .unset, .unset, .unset, .unset] [])) τ
    refine XS.iload X17.here hx rfl (hb hby at_107) rfl ?_
    show Steps p.tables e below (T17.setTop (mkF m 109 #[.val (.long q1), .second, .val (.int p2), .val (.int p3), .val (.ref b1), .val (.int ((p2 &&& (15 : Int32)) % (9 : Int32))), .val (.int ((((p2.toUInt32 >>> ((4 : Int32) &&& 31).toUInt32).toInt32) &&& (15 : Int32)) % (9 : Int32))), .unset, .unset, .unset, .unset, .unset, .unset, .unset] [(.int ((p2 &&& (15 : Int32)) % (9 : Int32)))])) τ
    refine XS.iload X17.here hx rfl (hb hby at_109) rfl ?_
    show Steps p.tables e below (T17.setTop (mkF m 111 #[.val (.long q1), .second, .val (.int p2), .val (.int p3), .val (.ref b1), .val (.int ((p2 &&& (15 : Int32)) % (9 : Int32))), .val (.int ((((p2.toUInt32 >>> ((4 : Int32) &&& 31).toUInt32).toInt32) &&& (15 : Int32)) % (9 : Int32))), .unset, .unset, .unset, .unset, .unset, .unset, .unset] [(.int ((((p2.toUInt32 >>> ((4 : Int32) &&& 31).toUInt32).toInt32) &&& (15 : Int32)) % (9 : Int32))), (.int ((p2 &&& (15 : Int32)) % (9 : Int32)))])) τ
    exact κ)
  obtain ⟨_, _, ⟨T18, Lx18, kx18, nx18⟩, -, X18, ⟨Lc18, hQ18, l18, y18, z18⟩, st18⟩ := Jvm.LawKit.callS X17 hx (y := (⟨"java/lang/Math", "min", "(II)I"⟩ : MethodName)) hown (mvT hZ (hw _ (List.mem_of_getElem? (i := 6) rfl))) (mvT hZ (hw _ (List.mem_of_getElem? (i := 7) rfl))) (mvT hZ (hw _ (List.mem_of_getElem? (i := 8) rfl))) (mvT hZ (hw _ (List.mem_of_getElem? (i := 9) rfl))) (by decide) (backOf (W := 0) (rm2 l Z a0 hw [] ((p2 &&& (15 : Int32)) % (9 : Int32)) ((((p2.toUInt32 >>> ((4 : Int32) &&& 31).toUInt32).toInt32) &&& (15 : Int32)) % (9 : Int32)) h17 n0 Zn) hZ (hw _ (List.mem_of_getElem? (i := 9) rfl)) (hw _ (List.mem_of_getElem? (i := 8) rfl)) (by decide) (by decide)) (g := (mkF m 111 #[.val (.long q1), .second, .val (.int p2), .val (.int p3), .val (.ref b1), .val (.int ((p2 &&& (15 : Int32)) % (9 : Int32))), .val (.int ((((p2.toUInt32 >>> ((4 : Int32) &&& 31).toUInt32).toInt32) &&& (15 : Int32)) % (9 : Int32))), .unset, .unset, .unset, .unset, .unset, .unset, .unset] [(.int ((((p2.toUInt32 >>> ((4 : Int32) &&& 31).toUInt32).toInt32) &&& (15 : Int32)) % (9 : Int32))), (.int ((p2 &&& (15 : Int32)) % (9 : Int32)))])) rfl (by rw [hml]; rfl) (argsL := [(.int ((p2 &&& (15 : Int32)) % (9 : Int32))), (.int ((((p2.toUInt32 >>> ((4 : Int32) &&& 31).toUInt32).toInt32) &&& (15 : Int32)) % (9 : Int32)))]) (rest := []) (lenOf pd_2 rfl) rfl (by show 2 * 0 + _ ≤ _; exact Nat.le_of_eq rfl) (hb hby at_111) (fun _ _ => ⟨rfl, e17, (by decide : 1 + 0 ≤ _), (by decide : 8 + 0 ≤ _)⟩)
  dsimp only [Pt.U, Pt.locs, Pt.cells, Pt.slots] at X18 l18 y18 z18 st18 hQ18
  replace y18 : kx18 = 1 := y18
  replace z18 : nx18 = 8 := z18
  subst y18 z18
  obtain ⟨rfl, Nq18, hs18⟩ := hQ18
  have NN : Fr n0 Lx18 := by rw [l18]; exact Fr.app NN Nq18
  have pre : ∀ τ, Steps p.tables e below (T18.setTop (mkF m 114 #[.val (.long q1), .second, .val (.int p2), .val (.int p3), .val (.ref b1), .val (.int ((p2 &&& (15 : Int32)) % (9 : Int32))), .val (.int ((((p2.toUInt32 >>> ((4 : Int32) &&& 31).toUInt32).toInt32) &&& (15 : Int32)) % (9 : Int32))), .unset, .unset, .unset, .unset, .unset, .unset, .unset] [(.int (own_min ((p2 &&& (15 : Int32)) % (9 : Int32)) ((((p2.toUInt32 >>> ((4 : Int32) &&& 31).toUInt32).toInt32) &&& (15 : Int32)) % (9 : Int32))))])) τ → G τ := fun τ κ => pre τ (st18 τ κ)
  have pre : ∀ τ, Steps p.tables e below (T18.setTop (mkF m 120 #[.val (.long q1), .second, .val (.int p2), .val (.int p3), .val (.ref b1), .val (.int ((p2 &&& (15 : Int32)) % (9 : Int32))), .val (.int ((((p2.toUInt32 >>> ((4 : Int32) &&& 31).toUInt32).toInt32) &&& (15 : Int32)) % (9 : Int32))), .val (.int (own_min ((p2 &&& (15 : Int32)) % (9 : Int32)) ((((p2.toUInt32 >>> ((4 : Int32) &&& 31).toUInt32).toInt32) &&& (15 : Int32)) % (9 : Int32)))), .unset, .unset, .unset, .unset, .unset, .unset] [(.int ((((p2.toUInt32 >>> ((4 : Int32) &&& 31).toUInt32).toInt32) &&& (15 : Int32)) % (9 : Int32))), (.int ((p2 &&& (15 : Int32)) % (9 : Int32)))])) τ → G τ := fun τ κ => pre τ (by
    refine XS.istore X18.here hx rfl (hb hby at_114) rfl (l' := #[.val (.long q1), .second, .val (.int p2), .val (.int p3), .val (.ref b1), .val (.int ((p2 &&& (15 : Int32)) % (9 : Int32))), .val (.int ((((p2.toUInt32 >>> ((4 : Int32) &&& 31).toUInt32).toInt32) &&& (15 : Int32)) % (9 : Int32))), .val (.int (own_min ((p2 &&& (15 : Int32)) % (9 : Int32)) ((((p2.toUInt32 >>> ((4 : Int32) &&& 31).toUInt32).toInt32) &&& (15 : Int32)) % (9 : Int32)))), .unset, .unset, .unset, .unset, .unset, .unset]) rfl ?_
    show Steps p.tables e below (T18.setTop (mkF m 116 #[.val (.long q1), .second, .val (.int p2), .val (.int p3), .val (.ref b1), .val (.int ((p2 &&& (15 : Int32)) % (9 : Int32))), .val (.int ((((p2.toUInt32 >>> ((4 : Int32) &&& 31).toUInt32).toInt32) &&& (15 : Int32)) % (9 : Int32))), .val (.int (own_min ((p2 &&& (15 : Int32)) % (9 : Int32)) ((((p2.toUInt32 >>> ((4 : Int32) &&& 31).toUInt32).toInt32) &&& (15 : Int32)) % (9 : Int32)))), .unset, .unset, .unset, .unset, .unset, .unset] [])) τ
    refine XS.iload X18.here hx rfl (hb hby at_116) rfl ?_
    show Steps p.tables e below (T18.setTop (mkF m 118 #[.val (.long q1), .second, .val (.int p2), .val (.int p3), .val (.ref b1), .val (.int ((p2 &&& (15 : Int32)) % (9 : Int32))), .val (.int ((((p2.toUInt32 >>> ((4 : Int32) &&& 31).toUInt32).toInt32) &&& (15 : Int32)) % (9 : Int32))), .val (.int (own_min ((p2 &&& (15 : Int32)) % (9 : Int32)) ((((p2.toUInt32 >>> ((4 : Int32) &&& 31).toUInt32).toInt32) &&& (15 : Int32)) % (9 : Int32)))), .unset, .unset, .unset, .unset, .unset, .unset] [(.int ((p2 &&& (15 : Int32)) % (9 : Int32)))])) τ
    refine XS.iload X18.here hx rfl (hb hby at_118) rfl ?_
    show Steps p.tables e below (T18.setTop (mkF m 120 #[.val (.long q1), .second, .val (.int p2), .val (.int p3), .val (.ref b1), .val (.int ((p2 &&& (15 : Int32)) % (9 : Int32))), .val (.int ((((p2.toUInt32 >>> ((4 : Int32) &&& 31).toUInt32).toInt32) &&& (15 : Int32)) % (9 : Int32))), .val (.int (own_min ((p2 &&& (15 : Int32)) % (9 : Int32)) ((((p2.toUInt32 >>> ((4 : Int32) &&& 31).toUInt32).toInt32) &&& (15 : Int32)) % (9 : Int32)))), .unset, .unset, .unset, .unset, .unset, .unset] [(.int ((((p2.toUInt32 >>> ((4 : Int32) &&& 31).toUInt32).toInt32) &&& (15 : Int32)) % (9 : Int32))), (.int ((p2 &&& (15 : Int32)) % (9 : Int32)))])) τ
    exact κ)
  obtain ⟨_, _, ⟨T19, Lx19, kx19, nx19⟩, -, X19, ⟨Lc19, hQ19, l19, y19, z19⟩, st19⟩ := Jvm.LawKit.callS X18 hx (y := (⟨"java/lang/Math", "max", "(II)I"⟩ : MethodName)) hown (mvT hZ (hw _ (List.mem_of_getElem? (i := 10) rfl))) (mvT hZ (hw _ (List.mem_of_getElem? (i := 11) rfl))) (mvT hZ (hw _ (List.mem_of_getElem? (i := 8) rfl))) (mvT hZ (hw _ (List.mem_of_getElem? (i := 12) rfl))) (by decide) (backOf (W := 0) (rm3 l Z a0 hw [] ((p2 &&& (15 : Int32)) % (9 : Int32)) ((((p2.toUInt32 >>> ((4 : Int32) &&& 31).toUInt32).toInt32) &&& (15 : Int32)) % (9 : Int32)) h17 n0 Zn) hZ (hw _ (List.mem_of_getElem? (i := 12) rfl)) (hw _ (List.mem_of_getElem? (i := 8) rfl)) (by decide) (by decide)) (g := (mkF m 120 #[.val (.long q1), .second, .val (.int p2), .val (.int p3), .val (.ref b1), .val (.int ((p2 &&& (15 : Int32)) % (9 : Int32))), .val (.int ((((p2.toUInt32 >>> ((4 : Int32) &&& 31).toUInt32).toInt32) &&& (15 : Int32)) % (9 : Int32))), .val (.int (own_min ((p2 &&& (15 : Int32)) % (9 : Int32)) ((((p2.toUInt32 >>> ((4 : Int32) &&& 31).toUInt32).toInt32) &&& (15 : Int32)) % (9 : Int32)))), .unset, .unset, .unset, .unset, .unset, .unset] [(.int ((((p2.toUInt32 >>> ((4 : Int32) &&& 31).toUInt32).toInt32) &&& (15 : Int32)) % (9 : Int32))), (.int ((p2 &&& (15 : Int32)) % (9 : Int32)))])) rfl (by rw [hml]; rfl) (argsL := [(.int ((p2 &&& (15 : Int32)) % (9 : Int32))), (.int ((((p2.toUInt32 >>> ((4 : Int32) &&& 31).toUInt32).toInt32) &&& (15 : Int32)) % (9 : Int32)))]) (rest := []) (lenOf pd_2 rfl) rfl (by show 2 * 0 + _ ≤ _; exact Nat.le_of_eq rfl) (hb hby at_120) (fun _ _ => ⟨rfl, hs18, (by decide : 1 + 0 ≤ _), (by decide : 8 + 0 ≤ _)⟩)
  dsimp only [Pt.U, Pt.locs, Pt.cells, Pt.slots] at X19 l19 y19 z19 st19 hQ19
  replace y19 : kx19 = 1 := y19
  replace z19 : nx19 = 8 := z19
  subst y19 z19
  obtain ⟨rfl, Nq19, hs19⟩ := hQ19
  have NN : Fr n0 Lx19 := by rw [l19]; exact Fr.app NN Nq19
  have pre : ∀ τ, Steps p.tables e below (T19.setTop (mkF m 123 #[.val (.long q1), .second, .val (.int p2), .val (.int p3), .val (.ref b1), .val (.int ((p2 &&& (15 : Int32)) % (9 : Int32))), .val (.int ((((p2.toUInt32 >>> ((4 : Int32) &&& 31).toUInt32).toInt32) &&& (15 : Int32)) % (9 : Int32))), .val (.int (own_min ((p2 &&& (15 : Int32)) % (9 : Int32)) ((((p2.toUInt32 >>> ((4 : Int32) &&& 31).toUInt32).toInt32) &&& (15 : Int32)) % (9 : Int32)))), .unset, .unset, .unset, .unset, .unset, .unset] [(.int (own_max ((p2 &&& (15 : Int32)) % (9 : Int32)) ((((p2.toUInt32 >>> ((4 : Int32) &&& 31).toUInt32).toInt32) &&& (15 : Int32)) % (9 : Int32))))])) τ → G τ := fun τ κ => pre τ (st19 τ κ)
  have pre : ∀ τ, Steps p.tables e below (T19.setTop (mkF m 133 #[.val (.long q1), .second, .val (.int p2), .val (.int p3), .val (.ref b1), .val (.int ((p2 &&& (15 : Int32)) % (9 : Int32))), .val (.int ((((p2.toUInt32 >>> ((4 : Int32) &&& 31).toUInt32).toInt32) &&& (15 : Int32)) % (9 : Int32))), .val (.int (own_min ((p2 &&& (15 : Int32)) % (9 : Int32)) ((((p2.toUInt32 >>> ((4 : Int32) &&& 31).toUInt32).toInt32) &&& (15 : Int32)) % (9 : Int32)))), .val (.int (own_max ((p2 &&& (15 : Int32)) % (9 : Int32)) ((((p2.toUInt32 >>> ((4 : Int32) &&& 31).toUInt32).toInt32) &&& (15 : Int32)) % (9 : Int32)))), .val (.int ((2 : Int32) + (p3 &&& (15 : Int32)))), .unset, .unset, .unset, .unset] [])) τ → G τ := fun τ κ => pre τ (by
    refine XS.istore X19.here hx rfl (hb hby at_123) rfl (l' := #[.val (.long q1), .second, .val (.int p2), .val (.int p3), .val (.ref b1), .val (.int ((p2 &&& (15 : Int32)) % (9 : Int32))), .val (.int ((((p2.toUInt32 >>> ((4 : Int32) &&& 31).toUInt32).toInt32) &&& (15 : Int32)) % (9 : Int32))), .val (.int (own_min ((p2 &&& (15 : Int32)) % (9 : Int32)) ((((p2.toUInt32 >>> ((4 : Int32) &&& 31).toUInt32).toInt32) &&& (15 : Int32)) % (9 : Int32)))), .val (.int (own_max ((p2 &&& (15 : Int32)) % (9 : Int32)) ((((p2.toUInt32 >>> ((4 : Int32) &&& 31).toUInt32).toInt32) &&& (15 : Int32)) % (9 : Int32)))), .unset, .unset, .unset, .unset, .unset]) rfl ?_
    show Steps p.tables e below (T19.setTop (mkF m 125 #[.val (.long q1), .second, .val (.int p2), .val (.int p3), .val (.ref b1), .val (.int ((p2 &&& (15 : Int32)) % (9 : Int32))), .val (.int ((((p2.toUInt32 >>> ((4 : Int32) &&& 31).toUInt32).toInt32) &&& (15 : Int32)) % (9 : Int32))), .val (.int (own_min ((p2 &&& (15 : Int32)) % (9 : Int32)) ((((p2.toUInt32 >>> ((4 : Int32) &&& 31).toUInt32).toInt32) &&& (15 : Int32)) % (9 : Int32)))), .val (.int (own_max ((p2 &&& (15 : Int32)) % (9 : Int32)) ((((p2.toUInt32 >>> ((4 : Int32) &&& 31).toUInt32).toInt32) &&& (15 : Int32)) % (9 : Int32)))), .unset, .unset, .unset, .unset, .unset] [])) τ
    refine XS.iconst X19.here hx rfl (hb hby at_125) ?_
    show Steps p.tables e below (T19.setTop (mkF m 126 #[.val (.long q1), .second, .val (.int p2), .val (.int p3), .val (.ref b1), .val (.int ((p2 &&& (15 : Int32)) % (9 : Int32))), .val (.int ((((p2.toUInt32 >>> ((4 : Int32) &&& 31).toUInt32).toInt32) &&& (15 : Int32)) % (9 : Int32))), .val (.int (own_min ((p2 &&& (15 : Int32)) % (9 : Int32)) ((((p2.toUInt32 >>> ((4 : Int32) &&& 31).toUInt32).toInt32) &&& (15 : Int32)) % (9 : Int32)))), .val (.int (own_max ((p2 &&& (15 : Int32)) % (9 : Int32)) ((((p2.toUInt32 >>> ((4 : Int32) &&& 31).toUInt32).toInt32) &&& (15 : Int32)) % (9 : Int32)))), .unset, .unset, .unset, .unset, .unset] [(.int (2 : Int32))])) τ
    refine XS.iloadN X19.here hx rfl (hb hby at_126) rfl ?_
    show Steps p.tables e below (T19.setTop (mkF m 127 #[.val (.long q1), .second, .val (.int p2), .val (.int p3), .val (.ref b1), .val (.int ((p2 &&& (15 : Int32)) % (9 : Int32))), .val (.int ((((p2.toUInt32 >>> ((4 : Int32) &&& 31).toUInt32).toInt32) &&& (15 : Int32)) % (9 : Int32))), .val (.int (own_min ((p2 &&& (15 : Int32)) % (9 : Int32)) ((((p2.toUInt32 >>> ((4 : Int32) &&& 31).toUInt32).toInt32) &&& (15 : Int32)) % (9 : Int32)))), .val (.int (own_max ((p2 &&& (15 : Int32)) % (9 : Int32)) ((((p2.toUInt32 >>> ((4 : Int32) &&& 31).toUInt32).toInt32) &&& (15 : Int32)) % (9 : Int32)))), .unset, .unset, .unset, .unset, .unset] [(.int p3), (.int (2 : Int32))])) τ
    refine XS.bipush X19.here hx rfl (hb hby at_127) ?_
    show Steps p.tables e below (T19.setTop (mkF m 129 #[.val (.long q1), .second, .val (.int p2), .val (.int p3), .val (.ref b1), .val (.int ((p2 &&& (15 : Int32)) % (9 : Int32))), .val (.int ((((p2.toUInt32 >>> ((4 : Int32) &&& 31).toUInt32).toInt32) &&& (15 : Int32)) % (9 : Int32))), .val (.int (own_min ((p2 &&& (15 : Int32)) % (9 : Int32)) ((((p2.toUInt32 >>> ((4 : Int32) &&& 31).toUInt32).toInt32) &&& (15 : Int32)) % (9 : Int32)))), .val (.int (own_max ((p2 &&& (15 : Int32)) % (9 : Int32)) ((((p2.toUInt32 >>> ((4 : Int32) &&& 31).toUInt32).toInt32) &&& (15 : Int32)) % (9 : Int32)))), .unset, .unset, .unset, .unset, .unset] [(.int (15 : Int32)), (.int p3), (.int (2 : Int32))])) τ
    refine XS.iand X19.here hx rfl (hb hby at_129) rfl ?_
    show Steps p.tables e below (T19.setTop (mkF m 130 #[.val (.long q1), .second, .val (.int p2), .val (.int p3), .val (.ref b1), .val (.int ((p2 &&& (15 : Int32)) % (9 : Int32))), .val (.int ((((p2.toUInt32 >>> ((4 : Int32) &&& 31).toUInt32).toInt32) &&& (15 : Int32)) % (9 : Int32))), .val (.int (own_min ((p2 &&& (15 : Int32)) % (9 : Int32)) ((((p2.toUInt32 >>> ((4 : Int32) &&& 31).toUInt32).toInt32) &&& (15 : Int32)) % (9 : Int32)))), .val (.int (own_max ((p2 &&& (15 : Int32)) % (9 : Int32)) ((((p2.toUInt32 >>> ((4 : Int32) &&& 31).toUInt32).toInt32) &&& (15 : Int32)) % (9 : Int32)))), .unset, .unset, .unset, .unset, .unset] [(.int (p3 &&& (15 : Int32))), (.int (2 : Int32))])) τ
    refine XS.iadd X19.here hx rfl (hb hby at_130) rfl ?_
    show Steps p.tables e below (T19.setTop (mkF m 131 #[.val (.long q1), .second, .val (.int p2), .val (.int p3), .val (.ref b1), .val (.int ((p2 &&& (15 : Int32)) % (9 : Int32))), .val (.int ((((p2.toUInt32 >>> ((4 : Int32) &&& 31).toUInt32).toInt32) &&& (15 : Int32)) % (9 : Int32))), .val (.int (own_min ((p2 &&& (15 : Int32)) % (9 : Int32)) ((((p2.toUInt32 >>> ((4 : Int32) &&& 31).toUInt32).toInt32) &&& (15 : Int32)) % (9 : Int32)))), .val (.int (own_max ((p2 &&& (15 : Int32)) % (9 : Int32)) ((((p2.toUInt32 >>> ((4 : Int32) &&& 31).toUInt32).toInt32) &&& (15 : Int32)) % (9 : Int32)))), .unset, .unset, .unset, .unset, .unset] [(.int ((2 : Int32) + (p3 &&& (15 : Int32))))])) τ
    refine XS.istore X19.here hx rfl (hb hby at_131) rfl (l' := #[.val (.long q1), .second, .val (.int p2), .val (.int p3), .val (.ref b1), .val (.int ((p2 &&& (15 : Int32)) % (9 : Int32))), .val (.int ((((p2.toUInt32 >>> ((4 : Int32) &&& 31).toUInt32).toInt32) &&& (15 : Int32)) % (9 : Int32))), .val (.int (own_min ((p2 &&& (15 : Int32)) % (9 : Int32)) ((((p2.toUInt32 >>> ((4 : Int32) &&& 31).toUInt32).toInt32) &&& (15 : Int32)) % (9 : Int32)))), .val (.int (own_max ((p2 &&& (15 : Int32)) % (9 : Int32)) ((((p2.toUInt32 >>> ((4 : Int32) &&& 31).toUInt32).toInt32) &&& (15 : Int32)) % (9 : Int32)))), .val (.int ((2 : Int32) + (p3 &&& (15 : Int32)))), .unset, .unset, .unset, .unset]) rfl ?_
    show Steps p.tables e below (T19.setTop (mkF m 133 #[.val (.long q1), .second, .val (.int p2), .val (.int p3), .val (.ref b1), .val (.int ((p2 &&& (15 : Int32)) % (9 : Int32))), .val (.int ((((p2.toUInt32 >>> ((4 : Int32) &&& 31).toUInt32).toInt32) &&& (15 : Int32)) % (9 : Int32))), .val (.int (own_min ((p2 &&& (15 : Int32)) % (9 : Int32)) ((((p2.toUInt32 >>> ((4 : Int32) &&& 31).toUInt32).toInt32) &&& (15 : Int32)) % (9 : Int32)))), .val (.int (own_max ((p2 &&& (15 : Int32)) % (9 : Int32)) ((((p2.toUInt32 >>> ((4 : Int32) &&& 31).toUInt32).toInt32) &&& (15 : Int32)) % (9 : Int32)))), .val (.int ((2 : Int32) + (p3 &&& (15 : Int32)))), .unset, .unset, .unset, .unset] [])) τ
    exact κ)
  obtain ⟨sa, hsa⟩ : ∃ z : Int32, z = (own_min ((p2 &&& (15 : Int32)) % (9 : Int32)) ((((p2.toUInt32 >>> ((4 : Int32) &&& 31).toUInt32).toInt32) &&& (15 : Int32)) % (9 : Int32))) := ⟨_, rfl⟩
  have pre : ∀ τ, Steps p.tables e below (T19.setTop (mkF m 133 #[.val (.long q1), .second, .val (.int p2), .val (.int p3), .val (.ref b1), .val (.int ((p2 &&& (15 : Int32)) % (9 : Int32))), .val (.int ((((p2.toUInt32 >>> ((4 : Int32) &&& 31).toUInt32).toInt32) &&& (15 : Int32)) % (9 : Int32))), .val (.int sa), .val (.int (own_max ((p2 &&& (15 : Int32)) % (9 : Int32)) ((((p2.toUInt32 >>> ((4 : Int32) &&& 31).toUInt32).toInt32) &&& (15 : Int32)) % (9 : Int32)))), .val (.int ((2 : Int32) + (p3 &&& (15 : Int32)))), .unset, .unset, .unset, .unset] [])) τ → G τ := by subst hsa; exact pre
  obtain ⟨ea, hea⟩ : ∃ z : Int32, z = (own_max ((p2 &&& (15 : Int32)) % (9 : Int32)) ((((p2.toUInt32 >>> ((4 : Int32) &&& 31).toUInt32).toInt32) &&& (15 : Int32)) % (9 : Int32))) := ⟨_, rfl⟩
  have pre : ∀ τ, Steps p.tables e below (T19.setTop (mkF m 133 #[.val (.long q1), .second, .val (.int p2), .val (.int p3), .val (.ref b1), .val (.int ((p2 &&& (15 : Int32)) % (9 : Int32))), .val (.int ((((p2.toUInt32 >>> ((4 : Int32) &&& 31).toUInt32).toInt32) &&& (15 : Int32)) % (9 : Int32))), .val (.int sa), .val (.int ea), .val (.int ((2 : Int32) + (p3 &&& (15 : Int32)))), .unset, .unset, .unset, .unset] [])) τ → G τ := by subst hea; exact pre
  obtain ⟨ta, hta⟩ : ∃ z : Int32, z = ((2 : Int32) + (p3 &&& (15 : Int32))) := ⟨_, rfl⟩
  have pre : ∀ τ, Steps p.tables e below (T19.setTop (mkF m 133 #[.val (.long q1), .second, .val (.int p2), .val (.int p3), .val (.ref b1), .val (.int ((p2 &&& (15 : Int32)) % (9 : Int32))), .val (.int ((((p2.toUInt32 >>> ((4 : Int32) &&& 31).toUInt32).toInt32) &&& (15 : Int32)) % (9 : Int32))), .val (.int sa), .val (.int ea), .val (.int ta), .unset, .unset, .unset, .unset] [])) τ → G τ := by subst hta; exact pre
  have hse : 0 ≤ sa.toInt ∧ sa.toInt ≤ ea.toInt ∧ ea.toInt ≤ 8 := by subst hea hsa; exact own_se p2
  have hta : 2 ≤ ta.toInt ∧ ta.toInt ≤ 17 := by subst hta; exact own_tb _
  have hta1 := own_t1 hta
  have pre : ∀ τ, Steps p.tables e below (T19.setTop (mkF m 142 #[.val (.long q1), .second, .val (.int p2), .val (.int p3), .val (.ref b1), .val (.int ((p2 &&& (15 : Int32)) % (9 : Int32))), .val (.int ((((p2.toUInt32 >>> ((4 : Int32) &&& 31).toUInt32).toInt32) &&& (15 : Int32)) % (9 : Int32))), .val (.int sa), .val (.int ea), .val (.int ta), .unset, .unset, .unset, .unset] [(.int ta), (.int ea), (.int sa), (.int (0 : Int32)), (.ref b1)])) τ → G τ := fun τ κ => pre τ (by
    refine XS.aload X19.here hx rfl (hb hby at_133) rfl rfl ?_
    show Steps p.tables e below (T19.setTop (mkF m 135 #[.val (.long q1), .second, .val (.int p2), .val (.int p3), .val (.ref b1), .val (.int ((p2 &&& (15 : Int32)) % (9 : Int32))), .val (.int ((((p2.toUInt32 >>> ((4 : Int32) &&& 31).toUInt32).toInt32) &&& (15 : Int32)) % (9 : Int32))), .val (.int sa), .val (.int ea), .val (.int ta), .unset, .unset, .unset, .unset] [(.ref b1)])) τ
    refine XS.iconst X19.here hx rfl (hb hby at_135) ?_
    show Steps p.tables e below (T19.setTop (mkF m 136 #[.val (.long q1), .second, .val (.int p2), .val (.int p3), .val (.ref b1), .val (.int ((p2 &&& (15 : Int32)) % (9 : Int32))), .val (.int ((((p2.toUInt32 >>> ((4 : Int32) &&& 31).toUInt32).toInt32) &&& (15 : Int32)) % (9 : Int32))), .val (.int sa), .val (.int ea), .val (.int ta), .unset, .unset, .unset, .unset] [(.int (0 : Int32)), (.ref b1)])) τ
    refine XS.iload X19.here hx rfl (hb hby at_136) rfl ?_
    show Steps p.tables e below (T19.setTop (mkF m 138 #[.val (.long q1), .second, .val (.int p2), .val (.int p3), .val (.ref b1), .val (.int ((p2 &&& (15 : Int32)) % (9 : Int32))), .val (.int ((((p2.toUInt32 >>> ((4 : Int32) &&& 31).toUInt32).toInt32) &&& (15 : Int32)) % (9 : Int32))), .val (.int sa), .val (.int ea), .val (.int ta), .unset, .unset, .unset, .unset] [(.int sa), (.int (0 : Int32)), (.ref b1)])) τ
    refine XS.iload X19.here hx rfl (hb hby at_138) rfl ?_
    show Steps p.tables e below (T19.setTop (mkF m 140 #[.val (.long q1), .second, .val (.int p2), .val (.int p3), .val (.ref b1), .val (.int ((p2 &&& (15 : Int32)) % (9 : Int32))), .val (.int ((((p2.toUInt32 >>> ((4 : Int32) &&& 31).toUInt32).toInt32) &&& (15 : Int32)) % (9 : Int32))), .val (.int sa), .val (.int ea), .val (.int ta), .unset, .unset, .unset, .unset] [(.int ea), (.int sa), (.int (0 : Int32)), (.ref b1)])) τ
    refine XS.iload X19.here hx rfl (hb hby at_140) rfl ?_
    show Steps p.tables e below (T19.setTop (mkF m 142 #[.val (.long q1), .second, .val (.int p2), .val (.int p3), .val (.ref b1), .val (.int ((p2 &&& (15 : Int32)) % (9 : Int32))), .val (.int ((((p2.toUInt32 >>> ((4 : Int32) &&& 31).toUInt32).toInt32) &&& (15 : Int32)) % (9 : Int32))), .val (.int sa), .val (.int ea), .val (.int ta), .unset, .unset, .unset, .unset] [(.int ta), (.int ea), (.int sa), (.int (0 : Int32)), (.ref b1)])) τ
    exact κ)
  obtain ⟨_, _, ⟨T20, Lx20, kx20, nx20⟩, -, X20, ⟨Lc20, hQ20, l20, y20, z20⟩, st20⟩ := Jvm.LawKit.callS X19 hx (y := (⟨"com/example/campo_livre/campolivre/CheckDigitsModulo11PinLaw", "term", "([BIIII)I"⟩ : MethodName)) hown (mvT hZ (hw _ (List.mem_of_getElem? (i := 13) rfl))) (mvT hZ (hw _ (List.mem_of_getElem? (i := 14) rfl))) (mvT hZ (hw _ (List.mem_of_getElem? (i := 3) rfl))) (mvT hZ (hw _ (List.mem_of_getElem? (i := 15) rfl))) (by decide) (backOf (W := 0) (rm4 l Z a0 hw [] b1 (0 : Int32) sa ea ta k1 (8 : Int32) vs (.int (0 : Int32)) h17 n0 Zn V_b1 (by decide) hta1) hZ (hw _ (List.mem_of_getElem? (i := 15) rfl)) (hw _ (List.mem_of_getElem? (i := 3) rfl)) (by decide) (by decide)) (g := (mkF m 142 #[.val (.long q1), .second, .val (.int p2), .val (.int p3), .val (.ref b1), .val (.int ((p2 &&& (15 : Int32)) % (9 : Int32))), .val (.int ((((p2.toUInt32 >>> ((4 : Int32) &&& 31).toUInt32).toInt32) &&& (15 : Int32)) % (9 : Int32))), .val (.int sa), .val (.int ea), .val (.int ta), .unset, .unset, .unset, .unset] [(.int ta), (.int ea), (.int sa), (.int (0 : Int32)), (.ref b1)])) rfl (by rw [hml]; rfl) (argsL := [(.ref b1), (.int (0 : Int32)), (.int sa), (.int ea), (.int ta)]) (rest := []) (lenOf pd_0 rfl) rfl (by show 2 * 0 + _ ≤ _; exact Nat.le_of_eq rfl) (hb hby at_142) (fun _ _ => ⟨rfl, hs19, (by decide : 1 + 0 ≤ _), (by decide : 8 + 0 ≤ _)⟩)
  dsimp only [Pt.U, Pt.locs, Pt.cells, Pt.slots] at X20 l20 y20 z20 st20 hQ20
  replace y20 : kx20 = 1 := y20
  replace z20 : nx20 = 8 := z20
  subst y20 z20
  obtain ⟨rfl, Nq20, hs20⟩ := hQ20
  have NN : Fr n0 Lx20 := by rw [l20]; exact Fr.app NN Nq20
  have pre : ∀ τ, Steps p.tables e below (T20.setTop (mkF m 145 #[.val (.long q1), .second, .val (.int p2), .val (.int p3), .val (.ref b1), .val (.int ((p2 &&& (15 : Int32)) % (9 : Int32))), .val (.int ((((p2.toUInt32 >>> ((4 : Int32) &&& 31).toUInt32).toInt32) &&& (15 : Int32)) % (9 : Int32))), .val (.int sa), .val (.int ea), .val (.int ta), .unset, .unset, .unset, .unset] [(.int (own_term vs (.int (0 : Int32)) (0 : Int32) sa ea ta))])) τ → G τ := fun τ κ => pre τ (st20 τ κ)
  have pre : ∀ τ, Steps p.tables e below (T20.setTop (mkF m 154 #[.val (.long q1), .second, .val (.int p2), .val (.int p3), .val (.ref b1), .val (.int ((p2 &&& (15 : Int32)) % (9 : Int32))), .val (.int ((((p2.toUInt32 >>> ((4 : Int32) &&& 31).toUInt32).toInt32) &&& (15 : Int32)) % (9 : Int32))), .val (.int sa), .val (.int ea), .val (.int ta), .unset, .unset, .unset, .unset] [(.int ta), (.int ea), (.int sa), (.int (1 : Int32)), (.ref b1), (.int (own_term vs (.int (0 : Int32)) (0 : Int32) sa ea ta))])) τ → G τ := fun τ κ => pre τ (by
    refine XS.aload X20.here hx rfl (hb hby at_145) rfl rfl ?_
    show Steps p.tables e below (T20.setTop (mkF m 147 #[.val (.long q1), .second, .val (.int p2), .val (.int p3), .val (.ref b1), .val (.int ((p2 &&& (15 : Int32)) % (9 : Int32))), .val (.int ((((p2.toUInt32 >>> ((4 : Int32) &&& 31).toUInt32).toInt32) &&& (15 : Int32)) % (9 : Int32))), .val (.int sa), .val (.int ea), .val (.int ta), .unset, .unset, .unset, .unset] [(.ref b1), (.int (own_term vs (.int (0 : Int32)) (0 : Int32) sa ea ta))])) τ
    refine XS.iconst X20.here hx rfl (hb hby at_147) ?_
    show Steps p.tables e below (T20.setTop (mkF m 148 #[.val (.long q1), .second, .val (.int p2), .val (.int p3), .val (.ref b1), .val (.int ((p2 &&& (15 : Int32)) % (9 : Int32))), .val (.int ((((p2.toUInt32 >>> ((4 : Int32) &&& 31).toUInt32).toInt32) &&& (15 : Int32)) % (9 : Int32))), .val (.int sa), .val (.int ea), .val (.int ta), .unset, .unset, .unset, .unset] [(.int (1 : Int32)), (.ref b1), (.int (own_term vs (.int (0 : Int32)) (0 : Int32) sa ea ta))])) τ
    refine XS.iload X20.here hx rfl (hb hby at_148) rfl ?_
    show Steps p.tables e below (T20.setTop (mkF m 150 #[.val (.long q1), .second, .val (.int p2), .val (.int p3), .val (.ref b1), .val (.int ((p2 &&& (15 : Int32)) % (9 : Int32))), .val (.int ((((p2.toUInt32 >>> ((4 : Int32) &&& 31).toUInt32).toInt32) &&& (15 : Int32)) % (9 : Int32))), .val (.int sa), .val (.int ea), .val (.int ta), .unset, .unset, .unset, .unset] [(.int sa), (.int (1 : Int32)), (.ref b1), (.int (own_term vs (.int (0 : Int32)) (0 : Int32) sa ea ta))])) τ
    refine XS.iload X20.here hx rfl (hb hby at_150) rfl ?_
    show Steps p.tables e below (T20.setTop (mkF m 152 #[.val (.long q1), .second, .val (.int p2), .val (.int p3), .val (.ref b1), .val (.int ((p2 &&& (15 : Int32)) % (9 : Int32))), .val (.int ((((p2.toUInt32 >>> ((4 : Int32) &&& 31).toUInt32).toInt32) &&& (15 : Int32)) % (9 : Int32))), .val (.int sa), .val (.int ea), .val (.int ta), .unset, .unset, .unset, .unset] [(.int ea), (.int sa), (.int (1 : Int32)), (.ref b1), (.int (own_term vs (.int (0 : Int32)) (0 : Int32) sa ea ta))])) τ
    refine XS.iload X20.here hx rfl (hb hby at_152) rfl ?_
    show Steps p.tables e below (T20.setTop (mkF m 154 #[.val (.long q1), .second, .val (.int p2), .val (.int p3), .val (.ref b1), .val (.int ((p2 &&& (15 : Int32)) % (9 : Int32))), .val (.int ((((p2.toUInt32 >>> ((4 : Int32) &&& 31).toUInt32).toInt32) &&& (15 : Int32)) % (9 : Int32))), .val (.int sa), .val (.int ea), .val (.int ta), .unset, .unset, .unset, .unset] [(.int ta), (.int ea), (.int sa), (.int (1 : Int32)), (.ref b1), (.int (own_term vs (.int (0 : Int32)) (0 : Int32) sa ea ta))])) τ
    exact κ)
  obtain ⟨_, _, ⟨T21, Lx21, kx21, nx21⟩, -, X21, ⟨Lc21, hQ21, l21, y21, z21⟩, st21⟩ := Jvm.LawKit.callS X20 hx (y := (⟨"com/example/campo_livre/campolivre/CheckDigitsModulo11PinLaw", "term", "([BIIII)I"⟩ : MethodName)) hown (mvT hZ (hw _ (List.mem_of_getElem? (i := 13) rfl))) (mvT hZ (hw _ (List.mem_of_getElem? (i := 14) rfl))) (mvT hZ (hw _ (List.mem_of_getElem? (i := 3) rfl))) (mvT hZ (hw _ (List.mem_of_getElem? (i := 15) rfl))) (by decide) (backOf (W := 1) (rm4 l Z a0 hw [] b1 (1 : Int32) sa ea ta k1 (8 : Int32) vs (.int (0 : Int32)) h17 n0 Zn V_b1 (by decide) hta1) hZ (hw _ (List.mem_of_getElem? (i := 15) rfl)) (hw _ (List.mem_of_getElem? (i := 3) rfl)) (by decide) (by decide)) (g := (mkF m 154 #[.val (.long q1), .second, .val (.int p2), .val (.int p3), .val (.ref b1), .val (.int ((p2 &&& (15 : Int32)) % (9 : Int32))), .val (.int ((((p2.toUInt32 >>> ((4 : Int32) &&& 31).toUInt32).toInt32) &&& (15 : Int32)) % (9 : Int32))), .val (.int sa), .val (.int ea), .val (.int ta), .unset, .unset, .unset, .unset] [(.int ta), (.int ea), (.int sa), (.int (1 : Int32)), (.ref b1), (.int (own_term vs (.int (0 : Int32)) (0 : Int32) sa ea ta))])) rfl (by rw [hml]; rfl) (argsL := [(.ref b1), (.int (1 : Int32)), (.int sa), (.int ea), (.int ta)]) (rest := [(.int (own_term vs (.int (0 : Int32)) (0 : Int32) sa ea ta))]) (lenOf pd_0 rfl) rfl (by show 2 * 0 + _ ≤ _; exact Nat.le_of_eq rfl) (hb hby at_154) (fun _ _ => ⟨rfl, hs20, (by decide : 1 + 0 ≤ _), (by decide : 8 + 0 ≤ _)⟩)
  dsimp only [Pt.U, Pt.locs, Pt.cells, Pt.slots] at X21 l21 y21 z21 st21 hQ21
  replace y21 : kx21 = 1 := y21
  replace z21 : nx21 = 8 := z21
  subst y21 z21
  obtain ⟨rfl, Nq21, hs21⟩ := hQ21
  have NN : Fr n0 Lx21 := by rw [l21]; exact Fr.app NN Nq21
  have pre : ∀ τ, Steps p.tables e below (T21.setTop (mkF m 157 #[.val (.long q1), .second, .val (.int p2), .val (.int p3), .val (.ref b1), .val (.int ((p2 &&& (15 : Int32)) % (9 : Int32))), .val (.int ((((p2.toUInt32 >>> ((4 : Int32) &&& 31).toUInt32).toInt32) &&& (15 : Int32)) % (9 : Int32))), .val (.int sa), .val (.int ea), .val (.int ta), .unset, .unset, .unset, .unset] [(.int (own_term vs (.int (0 : Int32)) (1 : Int32) sa ea ta)), (.int (own_term vs (.int (0 : Int32)) (0 : Int32) sa ea ta))])) τ → G τ := fun τ κ => pre τ (st21 τ κ)
  have pre : ∀ τ, Steps p.tables e below (T21.setTop (mkF m 167 #[.val (.long q1), .second, .val (.int p2), .val (.int p3), .val (.ref b1), .val (.int ((p2 &&& (15 : Int32)) % (9 : Int32))), .val (.int ((((p2.toUInt32 >>> ((4 : Int32) &&& 31).toUInt32).toInt32) &&& (15 : Int32)) % (9 : Int32))), .val (.int sa), .val (.int ea), .val (.int ta), .unset, .unset, .unset, .unset] [(.int ta), (.int ea), (.int sa), (.int (2 : Int32)), (.ref b1), (.int ((own_term vs (.int (0 : Int32)) (0 : Int32) sa ea ta) + (own_term vs (.int (0 : Int32)) (1 : Int32) sa ea ta)))])) τ → G τ := fun τ κ => pre τ (by
    refine XS.iadd X21.here hx rfl (hb hby at_157) rfl ?_
    show Steps p.tables e below (T21.setTop (mkF m 158 #[.val (.long q1), .second, .val (.int p2), .val (.int p3), .val (.ref b1), .val (.int ((p2 &&& (15 : Int32)) % (9 : Int32))), .val (.int ((((p2.toUInt32 >>> ((4 : Int32) &&& 31).toUInt32).toInt32) &&& (15 : Int32)) % (9 : Int32))), .val (.int sa), .val (.int ea), .val (.int ta), .unset, .unset, .unset, .unset] [(.int ((own_term vs (.int (0 : Int32)) (0 : Int32) sa ea ta) + (own_term vs (.int (0 : Int32)) (1 : Int32) sa ea ta)))])) τ
    refine XS.aload X21.here hx rfl (hb hby at_158) rfl rfl ?_
    show Steps p.tables e below (T21.setTop (mkF m 160 #[.val (.long q1), .second, .val (.int p2), .val (.int p3), .val (.ref b1), .val (.int ((p2 &&& (15 : Int32)) % (9 : Int32))), .val (.int ((((p2.toUInt32 >>> ((4 : Int32) &&& 31).toUInt32).toInt32) &&& (15 : Int32)) % (9 : Int32))), .val (.int sa), .val (.int ea), .val (.int ta), .unset, .unset, .unset, .unset] [(.ref b1), (.int ((own_term vs (.int (0 : Int32)) (0 : Int32) sa ea ta) + (own_term vs (.int (0 : Int32)) (1 : Int32) sa ea ta)))])) τ
    refine XS.iconst X21.here hx rfl (hb hby at_160) ?_
    show Steps p.tables e below (T21.setTop (mkF m 161 #[.val (.long q1), .second, .val (.int p2), .val (.int p3), .val (.ref b1), .val (.int ((p2 &&& (15 : Int32)) % (9 : Int32))), .val (.int ((((p2.toUInt32 >>> ((4 : Int32) &&& 31).toUInt32).toInt32) &&& (15 : Int32)) % (9 : Int32))), .val (.int sa), .val (.int ea), .val (.int ta), .unset, .unset, .unset, .unset] [(.int (2 : Int32)), (.ref b1), (.int ((own_term vs (.int (0 : Int32)) (0 : Int32) sa ea ta) + (own_term vs (.int (0 : Int32)) (1 : Int32) sa ea ta)))])) τ
    refine XS.iload X21.here hx rfl (hb hby at_161) rfl ?_
    show Steps p.tables e below (T21.setTop (mkF m 163 #[.val (.long q1), .second, .val (.int p2), .val (.int p3), .val (.ref b1), .val (.int ((p2 &&& (15 : Int32)) % (9 : Int32))), .val (.int ((((p2.toUInt32 >>> ((4 : Int32) &&& 31).toUInt32).toInt32) &&& (15 : Int32)) % (9 : Int32))), .val (.int sa), .val (.int ea), .val (.int ta), .unset, .unset, .unset, .unset] [(.int sa), (.int (2 : Int32)), (.ref b1), (.int ((own_term vs (.int (0 : Int32)) (0 : Int32) sa ea ta) + (own_term vs (.int (0 : Int32)) (1 : Int32) sa ea ta)))])) τ
    refine XS.iload X21.here hx rfl (hb hby at_163) rfl ?_
    show Steps p.tables e below (T21.setTop (mkF m 165 #[.val (.long q1), .second, .val (.int p2), .val (.int p3), .val (.ref b1), .val (.int ((p2 &&& (15 : Int32)) % (9 : Int32))), .val (.int ((((p2.toUInt32 >>> ((4 : Int32) &&& 31).toUInt32).toInt32) &&& (15 : Int32)) % (9 : Int32))), .val (.int sa), .val (.int ea), .val (.int ta), .unset, .unset, .unset, .unset] [(.int ea), (.int sa), (.int (2 : Int32)), (.ref b1), (.int ((own_term vs (.int (0 : Int32)) (0 : Int32) sa ea ta) + (own_term vs (.int (0 : Int32)) (1 : Int32) sa ea ta)))])) τ
    refine XS.iload X21.here hx rfl (hb hby at_165) rfl ?_
    show Steps p.tables e below (T21.setTop (mkF m 167 #[.val (.long q1), .second, .val (.int p2), .val (.int p3), .val (.ref b1), .val (.int ((p2 &&& (15 : Int32)) % (9 : Int32))), .val (.int ((((p2.toUInt32 >>> ((4 : Int32) &&& 31).toUInt32).toInt32) &&& (15 : Int32)) % (9 : Int32))), .val (.int sa), .val (.int ea), .val (.int ta), .unset, .unset, .unset, .unset] [(.int ta), (.int ea), (.int sa), (.int (2 : Int32)), (.ref b1), (.int ((own_term vs (.int (0 : Int32)) (0 : Int32) sa ea ta) + (own_term vs (.int (0 : Int32)) (1 : Int32) sa ea ta)))])) τ
    exact κ)
  obtain ⟨_, _, ⟨T22, Lx22, kx22, nx22⟩, -, X22, ⟨Lc22, hQ22, l22, y22, z22⟩, st22⟩ := Jvm.LawKit.callS X21 hx (y := (⟨"com/example/campo_livre/campolivre/CheckDigitsModulo11PinLaw", "term", "([BIIII)I"⟩ : MethodName)) hown (mvT hZ (hw _ (List.mem_of_getElem? (i := 13) rfl))) (mvT hZ (hw _ (List.mem_of_getElem? (i := 14) rfl))) (mvT hZ (hw _ (List.mem_of_getElem? (i := 3) rfl))) (mvT hZ (hw _ (List.mem_of_getElem? (i := 15) rfl))) (by decide) (backOf (W := 1) (rm4 l Z a0 hw [] b1 (2 : Int32) sa ea ta k1 (8 : Int32) vs (.int (0 : Int32)) h17 n0 Zn V_b1 (by decide) hta1) hZ (hw _ (List.mem_of_getElem? (i := 15) rfl)) (hw _ (List.mem_of_getElem? (i := 3) rfl)) (by decide) (by decide)) (g := (mkF m 167 #[.val (.long q1), .second, .val (.int p2), .val (.int p3), .val (.ref b1), .val (.int ((p2 &&& (15 : Int32)) % (9 : Int32))), .val (.int ((((p2.toUInt32 >>> ((4 : Int32) &&& 31).toUInt32).toInt32) &&& (15 : Int32)) % (9 : Int32))), .val (.int sa), .val (.int ea), .val (.int ta), .unset, .unset, .unset, .unset] [(.int ta), (.int ea), (.int sa), (.int (2 : Int32)), (.ref b1), (.int ((own_term vs (.int (0 : Int32)) (0 : Int32) sa ea ta) + (own_term vs (.int (0 : Int32)) (1 : Int32) sa ea ta)))])) rfl (by rw [hml]; rfl) (argsL := [(.ref b1), (.int (2 : Int32)), (.int sa), (.int ea), (.int ta)]) (rest := [(.int ((own_term vs (.int (0 : Int32)) (0 : Int32) sa ea ta) + (own_term vs (.int (0 : Int32)) (1 : Int32) sa ea ta)))]) (lenOf pd_0 rfl) rfl (by show 2 * 0 + _ ≤ _; exact Nat.le_of_eq rfl) (hb hby at_167) (fun _ _ => ⟨rfl, hs21, (by decide : 1 + 0 ≤ _), (by decide : 8 + 0 ≤ _)⟩)
  dsimp only [Pt.U, Pt.locs, Pt.cells, Pt.slots] at X22 l22 y22 z22 st22 hQ22
  replace y22 : kx22 = 1 := y22
  replace z22 : nx22 = 8 := z22
  subst y22 z22
  obtain ⟨rfl, Nq22, hs22⟩ := hQ22
  have NN : Fr n0 Lx22 := by rw [l22]; exact Fr.app NN Nq22
  have pre : ∀ τ, Steps p.tables e below (T22.setTop (mkF m 170 #[.val (.long q1), .second, .val (.int p2), .val (.int p3), .val (.ref b1), .val (.int ((p2 &&& (15 : Int32)) % (9 : Int32))), .val (.int ((((p2.toUInt32 >>> ((4 : Int32) &&& 31).toUInt32).toInt32) &&& (15 : Int32)) % (9 : Int32))), .val (.int sa), .val (.int ea), .val (.int ta), .unset, .unset, .unset, .unset] [(.int (own_term vs (.int (0 : Int32)) (2 : Int32) sa ea ta)), (.int ((own_term vs (.int (0 : Int32)) (0 : Int32) sa ea ta) + (own_term vs (.int (0 : Int32)) (1 : Int32) sa ea ta)))])) τ → G τ := fun τ κ => pre τ (st22 τ κ)
  have pre : ∀ τ, Steps p.tables e below (T22.setTop (mkF m 180 #[.val (.long q1), .second, .val (.int p2), .val (.int p3), .val (.ref b1), .val (.int ((p2 &&& (15 : Int32)) % (9 : Int32))), .val (.int ((((p2.toUInt32 >>> ((4 : Int32) &&& 31).toUInt32).toInt32) &&& (15 : Int32)) % (9 : Int32))), .val (.int sa), .val (.int ea), .val (.int ta), .unset, .unset, .unset, .unset] [(.int ta), (.int ea), (.int sa), (.int (3 : Int32)), (.ref b1), (.int (((own_term vs (.int (0 : Int32)) (0 : Int32) sa ea ta) + (own_term vs (.int (0 : Int32)) (1 : Int32) sa ea ta)) + (own_term vs (.int (0 : Int32)) (2 : Int32) sa ea ta)))])) τ → G τ := fun τ κ => pre τ (by
    refine XS.iadd X22.here hx rfl (hb hby at_170) rfl ?_
    show Steps p.tables e below (T22.setTop (mkF m 171 #[.val (.long q1), .second, .val (.int p2), .val (.int p3), .val (.ref b1), .val (.int ((p2 &&& (15 : Int32)) % (9 : Int32))), .val (.int ((((p2.toUInt32 >>> ((4 : Int32) &&& 31).toUInt32).toInt32) &&& (15 : Int32)) % (9 : Int32))), .val (.int sa), .val (.int ea), .val (.int ta), .unset, .unset, .unset, .unset] [(.int (((own_term vs (.int (0 : Int32)) (0 : Int32) sa ea ta) + (own_term vs (.int (0 : Int32)) (1 : Int32) sa ea ta)) + (own_term vs (.int (0 : Int32)) (2 : Int32) sa ea ta)))])) τ
    refine XS.aload X22.here hx rfl (hb hby at_171) rfl rfl ?_
    show Steps p.tables e below (T22.setTop (mkF m 173 #[.val (.long q1), .second, .val (.int p2), .val (.int p3), .val (.ref b1), .val (.int ((p2 &&& (15 : Int32)) % (9 : Int32))), .val (.int ((((p2.toUInt32 >>> ((4 : Int32) &&& 31).toUInt32).toInt32) &&& (15 : Int32)) % (9 : Int32))), .val (.int sa), .val (.int ea), .val (.int ta), .unset, .unset, .unset, .unset] [(.ref b1), (.int (((own_term vs (.int (0 : Int32)) (0 : Int32) sa ea ta) + (own_term vs (.int (0 : Int32)) (1 : Int32) sa ea ta)) + (own_term vs (.int (0 : Int32)) (2 : Int32) sa ea ta)))])) τ
    refine XS.iconst X22.here hx rfl (hb hby at_173) ?_
    show Steps p.tables e below (T22.setTop (mkF m 174 #[.val (.long q1), .second, .val (.int p2), .val (.int p3), .val (.ref b1), .val (.int ((p2 &&& (15 : Int32)) % (9 : Int32))), .val (.int ((((p2.toUInt32 >>> ((4 : Int32) &&& 31).toUInt32).toInt32) &&& (15 : Int32)) % (9 : Int32))), .val (.int sa), .val (.int ea), .val (.int ta), .unset, .unset, .unset, .unset] [(.int (3 : Int32)), (.ref b1), (.int (((own_term vs (.int (0 : Int32)) (0 : Int32) sa ea ta) + (own_term vs (.int (0 : Int32)) (1 : Int32) sa ea ta)) + (own_term vs (.int (0 : Int32)) (2 : Int32) sa ea ta)))])) τ
    refine XS.iload X22.here hx rfl (hb hby at_174) rfl ?_
    show Steps p.tables e below (T22.setTop (mkF m 176 #[.val (.long q1), .second, .val (.int p2), .val (.int p3), .val (.ref b1), .val (.int ((p2 &&& (15 : Int32)) % (9 : Int32))), .val (.int ((((p2.toUInt32 >>> ((4 : Int32) &&& 31).toUInt32).toInt32) &&& (15 : Int32)) % (9 : Int32))), .val (.int sa), .val (.int ea), .val (.int ta), .unset, .unset, .unset, .unset] [(.int sa), (.int (3 : Int32)), (.ref b1), (.int (((own_term vs (.int (0 : Int32)) (0 : Int32) sa ea ta) + (own_term vs (.int (0 : Int32)) (1 : Int32) sa ea ta)) + (own_term vs (.int (0 : Int32)) (2 : Int32) sa ea ta)))])) τ
    refine XS.iload X22.here hx rfl (hb hby at_176) rfl ?_
    show Steps p.tables e below (T22.setTop (mkF m 178 #[.val (.long q1), .second, .val (.int p2), .val (.int p3), .val (.ref b1), .val (.int ((p2 &&& (15 : Int32)) % (9 : Int32))), .val (.int ((((p2.toUInt32 >>> ((4 : Int32) &&& 31).toUInt32).toInt32) &&& (15 : Int32)) % (9 : Int32))), .val (.int sa), .val (.int ea), .val (.int ta), .unset, .unset, .unset, .unset] [(.int ea), (.int sa), (.int (3 : Int32)), (.ref b1), (.int (((own_term vs (.int (0 : Int32)) (0 : Int32) sa ea ta) + (own_term vs (.int (0 : Int32)) (1 : Int32) sa ea ta)) + (own_term vs (.int (0 : Int32)) (2 : Int32) sa ea ta)))])) τ
    refine XS.iload X22.here hx rfl (hb hby at_178) rfl ?_
    show Steps p.tables e below (T22.setTop (mkF m 180 #[.val (.long q1), .second, .val (.int p2), .val (.int p3), .val (.ref b1), .val (.int ((p2 &&& (15 : Int32)) % (9 : Int32))), .val (.int ((((p2.toUInt32 >>> ((4 : Int32) &&& 31).toUInt32).toInt32) &&& (15 : Int32)) % (9 : Int32))), .val (.int sa), .val (.int ea), .val (.int ta), .unset, .unset, .unset, .unset] [(.int ta), (.int ea), (.int sa), (.int (3 : Int32)), (.ref b1), (.int (((own_term vs (.int (0 : Int32)) (0 : Int32) sa ea ta) + (own_term vs (.int (0 : Int32)) (1 : Int32) sa ea ta)) + (own_term vs (.int (0 : Int32)) (2 : Int32) sa ea ta)))])) τ
    exact κ)
  obtain ⟨_, _, ⟨T23, Lx23, kx23, nx23⟩, -, X23, ⟨Lc23, hQ23, l23, y23, z23⟩, st23⟩ := Jvm.LawKit.callS X22 hx (y := (⟨"com/example/campo_livre/campolivre/CheckDigitsModulo11PinLaw", "term", "([BIIII)I"⟩ : MethodName)) hown (mvT hZ (hw _ (List.mem_of_getElem? (i := 13) rfl))) (mvT hZ (hw _ (List.mem_of_getElem? (i := 14) rfl))) (mvT hZ (hw _ (List.mem_of_getElem? (i := 3) rfl))) (mvT hZ (hw _ (List.mem_of_getElem? (i := 15) rfl))) (by decide) (backOf (W := 1) (rm4 l Z a0 hw [] b1 (3 : Int32) sa ea ta k1 (8 : Int32) vs (.int (0 : Int32)) h17 n0 Zn V_b1 (by decide) hta1) hZ (hw _ (List.mem_of_getElem? (i := 15) rfl)) (hw _ (List.mem_of_getElem? (i := 3) rfl)) (by decide) (by decide)) (g := (mkF m 180 #[.val (.long q1), .second, .val (.int p2), .val (.int p3), .val (.ref b1), .val (.int ((p2 &&& (15 : Int32)) % (9 : Int32))), .val (.int ((((p2.toUInt32 >>> ((4 : Int32) &&& 31).toUInt32).toInt32) &&& (15 : Int32)) % (9 : Int32))), .val (.int sa), .val (.int ea), .val (.int ta), .unset, .unset, .unset, .unset] [(.int ta), (.int ea), (.int sa), (.int (3 : Int32)), (.ref b1), (.int (((own_term vs (.int (0 : Int32)) (0 : Int32) sa ea ta) + (own_term vs (.int (0 : Int32)) (1 : Int32) sa ea ta)) + (own_term vs (.int (0 : Int32)) (2 : Int32) sa ea ta)))])) rfl (by rw [hml]; rfl) (argsL := [(.ref b1), (.int (3 : Int32)), (.int sa), (.int ea), (.int ta)]) (rest := [(.int (((own_term vs (.int (0 : Int32)) (0 : Int32) sa ea ta) + (own_term vs (.int (0 : Int32)) (1 : Int32) sa ea ta)) + (own_term vs (.int (0 : Int32)) (2 : Int32) sa ea ta)))]) (lenOf pd_0 rfl) rfl (by show 2 * 0 + _ ≤ _; exact Nat.le_of_eq rfl) (hb hby at_180) (fun _ _ => ⟨rfl, hs22, (by decide : 1 + 0 ≤ _), (by decide : 8 + 0 ≤ _)⟩)
  dsimp only [Pt.U, Pt.locs, Pt.cells, Pt.slots] at X23 l23 y23 z23 st23 hQ23
  replace y23 : kx23 = 1 := y23
  replace z23 : nx23 = 8 := z23
  subst y23 z23
  obtain ⟨rfl, Nq23, hs23⟩ := hQ23
  have NN : Fr n0 Lx23 := by rw [l23]; exact Fr.app NN Nq23
  have pre : ∀ τ, Steps p.tables e below (T23.setTop (mkF m 183 #[.val (.long q1), .second, .val (.int p2), .val (.int p3), .val (.ref b1), .val (.int ((p2 &&& (15 : Int32)) % (9 : Int32))), .val (.int ((((p2.toUInt32 >>> ((4 : Int32) &&& 31).toUInt32).toInt32) &&& (15 : Int32)) % (9 : Int32))), .val (.int sa), .val (.int ea), .val (.int ta), .unset, .unset, .unset, .unset] [(.int (own_term vs (.int (0 : Int32)) (3 : Int32) sa ea ta)), (.int (((own_term vs (.int (0 : Int32)) (0 : Int32) sa ea ta) + (own_term vs (.int (0 : Int32)) (1 : Int32) sa ea ta)) + (own_term vs (.int (0 : Int32)) (2 : Int32) sa ea ta)))])) τ → G τ := fun τ κ => pre τ (st23 τ κ)
  have pre : ∀ τ, Steps p.tables e below (T23.setTop (mkF m 193 #[.val (.long q1), .second, .val (.int p2), .val (.int p3), .val (.ref b1), .val (.int ((p2 &&& (15 : Int32)) % (9 : Int32))), .val (.int ((((p2.toUInt32 >>> ((4 : Int32) &&& 31).toUInt32).toInt32) &&& (15 : Int32)) % (9 : Int32))), .val (.int sa), .val (.int ea), .val (.int ta), .unset, .unset, .unset, .unset] [(.int ta), (.int ea), (.int sa), (.int (4 : Int32)), (.ref b1), (.int ((((own_term vs (.int (0 : Int32)) (0 : Int32) sa ea ta) + (own_term vs (.int (0 : Int32)) (1 : Int32) sa ea ta)) + (own_term vs (.int (0 : Int32)) (2 : Int32) sa ea ta)) + (own_term vs (.int (0 : Int32)) (3 : Int32) sa ea ta)))])) τ → G τ := fun τ κ => pre τ (by
    refine XS.iadd X23.here hx rfl (hb hby at_183) rfl ?_
    show Steps p.tables e below (T23.setTop (mkF m 184 #[.val (.long q1), .second, .val (.int p2), .val (.int p3), .val (.ref b1), .val (.int ((p2 &&& (15 : Int32)) % (9 : Int32))), .val (.int ((((p2.toUInt32 >>> ((4 : Int32) &&& 31).toUInt32).toInt32) &&& (15 : Int32)) % (9 : Int32))), .val (.int sa), .val (.int ea), .val (.int ta), .unset, .unset, .unset, .unset] [(.int ((((own_term vs (.int (0 : Int32)) (0 : Int32) sa ea ta) + (own_term vs (.int (0 : Int32)) (1 : Int32) sa ea ta)) + (own_term vs (.int (0 : Int32)) (2 : Int32) sa ea ta)) + (own_term vs (.int (0 : Int32)) (3 : Int32) sa ea ta)))])) τ
    refine XS.aload X23.here hx rfl (hb hby at_184) rfl rfl ?_
    show Steps p.tables e below (T23.setTop (mkF m 186 #[.val (.long q1), .second, .val (.int p2), .val (.int p3), .val (.ref b1), .val (.int ((p2 &&& (15 : Int32)) % (9 : Int32))), .val (.int ((((p2.toUInt32 >>> ((4 : Int32) &&& 31).toUInt32).toInt32) &&& (15 : Int32)) % (9 : Int32))), .val (.int sa), .val (.int ea), .val (.int ta), .unset, .unset, .unset, .unset] [(.ref b1), (.int ((((own_term vs (.int (0 : Int32)) (0 : Int32) sa ea ta) + (own_term vs (.int (0 : Int32)) (1 : Int32) sa ea ta)) + (own_term vs (.int (0 : Int32)) (2 : Int32) sa ea ta)) + (own_term vs (.int (0 : Int32)) (3 : Int32) sa ea ta)))])) τ
    refine XS.iconst X23.here hx rfl (hb hby at_186) ?_
    show Steps p.tables e below (T23.setTop (mkF m 187 #[.val (.long q1), .second, .val (.int p2), .val (.int p3), .val (.ref b1), .val (.int ((p2 &&& (15 : Int32)) % (9 : Int32))), .val (.int ((((p2.toUInt32 >>> ((4 : Int32) &&& 31).toUInt32).toInt32) &&& (15 : Int32)) % (9 : Int32))), .val (.int sa), .val (.int ea), .val (.int ta), .unset, .unset, .unset, .unset] [(.int (4 : Int32)), (.ref b1), (.int ((((own_term vs (.int (0 : Int32)) (0 : Int32) sa ea ta) + (own_term vs (.int (0 : Int32)) (1 : Int32) sa ea ta)) + (own_term vs (.int (0 : Int32)) (2 : Int32) sa ea ta)) + (own_term vs (.int (0 : Int32)) (3 : Int32) sa ea ta)))])) τ
    refine XS.iload X23.here hx rfl (hb hby at_187) rfl ?_
    show Steps p.tables e below (T23.setTop (mkF m 189 #[.val (.long q1), .second, .val (.int p2), .val (.int p3), .val (.ref b1), .val (.int ((p2 &&& (15 : Int32)) % (9 : Int32))), .val (.int ((((p2.toUInt32 >>> ((4 : Int32) &&& 31).toUInt32).toInt32) &&& (15 : Int32)) % (9 : Int32))), .val (.int sa), .val (.int ea), .val (.int ta), .unset, .unset, .unset, .unset] [(.int sa), (.int (4 : Int32)), (.ref b1), (.int ((((own_term vs (.int (0 : Int32)) (0 : Int32) sa ea ta) + (own_term vs (.int (0 : Int32)) (1 : Int32) sa ea ta)) + (own_term vs (.int (0 : Int32)) (2 : Int32) sa ea ta)) + (own_term vs (.int (0 : Int32)) (3 : Int32) sa ea ta)))])) τ
    refine XS.iload X23.here hx rfl (hb hby at_189) rfl ?_
    show Steps p.tables e below (T23.setTop (mkF m 191 #[.val (.long q1), .second, .val (.int p2), .val (.int p3), .val (.ref b1), .val (.int ((p2 &&& (15 : Int32)) % (9 : Int32))), .val (.int ((((p2.toUInt32 >>> ((4 : Int32) &&& 31).toUInt32).toInt32) &&& (15 : Int32)) % (9 : Int32))), .val (.int sa), .val (.int ea), .val (.int ta), .unset, .unset, .unset, .unset] [(.int ea), (.int sa), (.int (4 : Int32)), (.ref b1), (.int ((((own_term vs (.int (0 : Int32)) (0 : Int32) sa ea ta) + (own_term vs (.int (0 : Int32)) (1 : Int32) sa ea ta)) + (own_term vs (.int (0 : Int32)) (2 : Int32) sa ea ta)) + (own_term vs (.int (0 : Int32)) (3 : Int32) sa ea ta)))])) τ
    refine XS.iload X23.here hx rfl (hb hby at_191) rfl ?_
    show Steps p.tables e below (T23.setTop (mkF m 193 #[.val (.long q1), .second, .val (.int p2), .val (.int p3), .val (.ref b1), .val (.int ((p2 &&& (15 : Int32)) % (9 : Int32))), .val (.int ((((p2.toUInt32 >>> ((4 : Int32) &&& 31).toUInt32).toInt32) &&& (15 : Int32)) % (9 : Int32))), .val (.int sa), .val (.int ea), .val (.int ta), .unset, .unset, .unset, .unset] [(.int ta), (.int ea), (.int sa), (.int (4 : Int32)), (.ref b1), (.int ((((own_term vs (.int (0 : Int32)) (0 : Int32) sa ea ta) + (own_term vs (.int (0 : Int32)) (1 : Int32) sa ea ta)) + (own_term vs (.int (0 : Int32)) (2 : Int32) sa ea ta)) + (own_term vs (.int (0 : Int32)) (3 : Int32) sa ea ta)))])) τ
    exact κ)
  obtain ⟨_, _, ⟨T24, Lx24, kx24, nx24⟩, -, X24, ⟨Lc24, hQ24, l24, y24, z24⟩, st24⟩ := Jvm.LawKit.callS X23 hx (y := (⟨"com/example/campo_livre/campolivre/CheckDigitsModulo11PinLaw", "term", "([BIIII)I"⟩ : MethodName)) hown (mvT hZ (hw _ (List.mem_of_getElem? (i := 13) rfl))) (mvT hZ (hw _ (List.mem_of_getElem? (i := 14) rfl))) (mvT hZ (hw _ (List.mem_of_getElem? (i := 3) rfl))) (mvT hZ (hw _ (List.mem_of_getElem? (i := 15) rfl))) (by decide) (backOf (W := 1) (rm4 l Z a0 hw [] b1 (4 : Int32) sa ea ta k1 (8 : Int32) vs (.int (0 : Int32)) h17 n0 Zn V_b1 (by decide) hta1) hZ (hw _ (List.mem_of_getElem? (i := 15) rfl)) (hw _ (List.mem_of_getElem? (i := 3) rfl)) (by decide) (by decide)) (g := (mkF m 193 #[.val (.long q1), .second, .val (.int p2), .val (.int p3), .val (.ref b1), .val (.int ((p2 &&& (15 : Int32)) % (9 : Int32))), .val (.int ((((p2.toUInt32 >>> ((4 : Int32) &&& 31).toUInt32).toInt32) &&& (15 : Int32)) % (9 : Int32))), .val (.int sa), .val (.int ea), .val (.int ta), .unset, .unset, .unset, .unset] [(.int ta), (.int ea), (.int sa), (.int (4 : Int32)), (.ref b1), (.int ((((own_term vs (.int (0 : Int32)) (0 : Int32) sa ea ta) + (own_term vs (.int (0 : Int32)) (1 : Int32) sa ea ta)) + (own_term vs (.int (0 : Int32)) (2 : Int32) sa ea ta)) + (own_term vs (.int (0 : Int32)) (3 : Int32) sa ea ta)))])) rfl (by rw [hml]; rfl) (argsL := [(.ref b1), (.int (4 : Int32)), (.int sa), (.int ea), (.int ta)]) (rest := [(.int ((((own_term vs (.int (0 : Int32)) (0 : Int32) sa ea ta) + (own_term vs (.int (0 : Int32)) (1 : Int32) sa ea ta)) + (own_term vs (.int (0 : Int32)) (2 : Int32) sa ea ta)) + (own_term vs (.int (0 : Int32)) (3 : Int32) sa ea ta)))]) (lenOf pd_0 rfl) rfl (by show 2 * 0 + _ ≤ _; exact Nat.le_of_eq rfl) (hb hby at_193) (fun _ _ => ⟨rfl, hs23, (by decide : 1 + 0 ≤ _), (by decide : 8 + 0 ≤ _)⟩)
  dsimp only [Pt.U, Pt.locs, Pt.cells, Pt.slots] at X24 l24 y24 z24 st24 hQ24
  replace y24 : kx24 = 1 := y24
  replace z24 : nx24 = 8 := z24
  subst y24 z24
  obtain ⟨rfl, Nq24, hs24⟩ := hQ24
  have NN : Fr n0 Lx24 := by rw [l24]; exact Fr.app NN Nq24
  have pre : ∀ τ, Steps p.tables e below (T24.setTop (mkF m 196 #[.val (.long q1), .second, .val (.int p2), .val (.int p3), .val (.ref b1), .val (.int ((p2 &&& (15 : Int32)) % (9 : Int32))), .val (.int ((((p2.toUInt32 >>> ((4 : Int32) &&& 31).toUInt32).toInt32) &&& (15 : Int32)) % (9 : Int32))), .val (.int sa), .val (.int ea), .val (.int ta), .unset, .unset, .unset, .unset] [(.int (own_term vs (.int (0 : Int32)) (4 : Int32) sa ea ta)), (.int ((((own_term vs (.int (0 : Int32)) (0 : Int32) sa ea ta) + (own_term vs (.int (0 : Int32)) (1 : Int32) sa ea ta)) + (own_term vs (.int (0 : Int32)) (2 : Int32) sa ea ta)) + (own_term vs (.int (0 : Int32)) (3 : Int32) sa ea ta)))])) τ → G τ := fun τ κ => pre τ (st24 τ κ)
  have pre : ∀ τ, Steps p.tables e below (T24.setTop (mkF m 206 #[.val (.long q1), .second, .val (.int p2), .val (.int p3), .val (.ref b1), .val (.int ((p2 &&& (15 : Int32)) % (9 : Int32))), .val (.int ((((p2.toUInt32 >>> ((4 : Int32) &&& 31).toUInt32).toInt32) &&& (15 : Int32)) % (9 : Int32))), .val (.int sa), .val (.int ea), .val (.int ta), .unset, .unset, .unset, .unset] [(.int ta), (.int ea), (.int sa), (.int (5 : Int32)), (.ref b1), (.int (((((own_term vs (.int (0 : Int32)) (0 : Int32) sa ea ta) + (own_term vs (.int (0 : Int32)) (1 : Int32) sa ea ta)) + (own_term vs (.int (0 : Int32)) (2 : Int32) sa ea ta)) + (own_term vs (.int (0 : Int32)) (3 : Int32) sa ea ta)) + (own_term vs (.int (0 : Int32)) (4 : Int32) sa ea ta)))])) τ → G τ := fun τ κ => pre τ (by
    refine XS.iadd X24.here hx rfl (hb hby at_196) rfl ?_
    show Steps p.tables e below (T24.setTop (mkF m 197 #[.val (.long q1), .second, .val (.int p2), .val (.int p3), .val (.ref b1), .val (.int ((p2 &&& (15 : Int32)) % (9 : Int32))), .val (.int ((((p2.toUInt32 >>> ((4 : Int32) &&& 31).toUInt32).toInt32) &&& (15 : Int32)) % (9 : Int32))), .val (.int sa), .val (.int ea), .val (.int ta), .unset, .unset, .unset, .unset] [(.int (((((own_term vs (.int (0 : Int32)) (0 : Int32) sa ea ta) + (own_term vs (.int (0 : Int32)) (1 : Int32) sa ea ta)) + (own_term vs (.int (0 : Int32)) (2 : Int32) sa ea ta)) + (own_term vs (.int (0 : Int32)) (3 : Int32) sa ea ta)) + (own_term vs (.int (0 : Int32)) (4 : Int32) sa ea ta)))])) τ
    refine XS.aload X24.here hx rfl (hb hby at_197) rfl rfl ?_
    show Steps p.tables e below (T24.setTop (mkF m 199 #[.val (.long q1), .second, .val (.int p2), .val (.int p3), .val (.ref b1), .val (.int ((p2 &&& (15 : Int32)) % (9 : Int32))), .val (.int ((((p2.toUInt32 >>> ((4 : Int32) &&& 31).toUInt32).toInt32) &&& (15 : Int32)) % (9 : Int32))), .val (.int sa), .val (.int ea), .val (.int ta), .unset, .unset, .unset, .unset] [(.ref b1), (.int (((((own_term vs (.int (0 : Int32)) (0 : Int32) sa ea ta) + (own_term vs (.int (0 : Int32)) (1 : Int32) sa ea ta)) + (own_term vs (.int (0 : Int32)) (2 : Int32) sa ea ta)) + (own_term vs (.int (0 : Int32)) (3 : Int32) sa ea ta)) + (own_term vs (.int (0 : Int32)) (4 : Int32) sa ea ta)))])) τ
    refine XS.iconst X24.here hx rfl (hb hby at_199) ?_
    show Steps p.tables e below (T24.setTop (mkF m 200 #[.val (.long q1), .second, .val (.int p2), .val (.int p3), .val (.ref b1), .val (.int ((p2 &&& (15 : Int32)) % (9 : Int32))), .val (.int ((((p2.toUInt32 >>> ((4 : Int32) &&& 31).toUInt32).toInt32) &&& (15 : Int32)) % (9 : Int32))), .val (.int sa), .val (.int ea), .val (.int ta), .unset, .unset, .unset, .unset] [(.int (5 : Int32)), (.ref b1), (.int (((((own_term vs (.int (0 : Int32)) (0 : Int32) sa ea ta) + (own_term vs (.int (0 : Int32)) (1 : Int32) sa ea ta)) + (own_term vs (.int (0 : Int32)) (2 : Int32) sa ea ta)) + (own_term vs (.int (0 : Int32)) (3 : Int32) sa ea ta)) + (own_term vs (.int (0 : Int32)) (4 : Int32) sa ea ta)))])) τ
    refine XS.iload X24.here hx rfl (hb hby at_200) rfl ?_
    show Steps p.tables e below (T24.setTop (mkF m 202 #[.val (.long q1), .second, .val (.int p2), .val (.int p3), .val (.ref b1), .val (.int ((p2 &&& (15 : Int32)) % (9 : Int32))), .val (.int ((((p2.toUInt32 >>> ((4 : Int32) &&& 31).toUInt32).toInt32) &&& (15 : Int32)) % (9 : Int32))), .val (.int sa), .val (.int ea), .val (.int ta), .unset, .unset, .unset, .unset] [(.int sa), (.int (5 : Int32)), (.ref b1), (.int (((((own_term vs (.int (0 : Int32)) (0 : Int32) sa ea ta) + (own_term vs (.int (0 : Int32)) (1 : Int32) sa ea ta)) + (own_term vs (.int (0 : Int32)) (2 : Int32) sa ea ta)) + (own_term vs (.int (0 : Int32)) (3 : Int32) sa ea ta)) + (own_term vs (.int (0 : Int32)) (4 : Int32) sa ea ta)))])) τ
    refine XS.iload X24.here hx rfl (hb hby at_202) rfl ?_
    show Steps p.tables e below (T24.setTop (mkF m 204 #[.val (.long q1), .second, .val (.int p2), .val (.int p3), .val (.ref b1), .val (.int ((p2 &&& (15 : Int32)) % (9 : Int32))), .val (.int ((((p2.toUInt32 >>> ((4 : Int32) &&& 31).toUInt32).toInt32) &&& (15 : Int32)) % (9 : Int32))), .val (.int sa), .val (.int ea), .val (.int ta), .unset, .unset, .unset, .unset] [(.int ea), (.int sa), (.int (5 : Int32)), (.ref b1), (.int (((((own_term vs (.int (0 : Int32)) (0 : Int32) sa ea ta) + (own_term vs (.int (0 : Int32)) (1 : Int32) sa ea ta)) + (own_term vs (.int (0 : Int32)) (2 : Int32) sa ea ta)) + (own_term vs (.int (0 : Int32)) (3 : Int32) sa ea ta)) + (own_term vs (.int (0 : Int32)) (4 : Int32) sa ea ta)))])) τ
    refine XS.iload X24.here hx rfl (hb hby at_204) rfl ?_
    show Steps p.tables e below (T24.setTop (mkF m 206 #[.val (.long q1), .second, .val (.int p2), .val (.int p3), .val (.ref b1), .val (.int ((p2 &&& (15 : Int32)) % (9 : Int32))), .val (.int ((((p2.toUInt32 >>> ((4 : Int32) &&& 31).toUInt32).toInt32) &&& (15 : Int32)) % (9 : Int32))), .val (.int sa), .val (.int ea), .val (.int ta), .unset, .unset, .unset, .unset] [(.int ta), (.int ea), (.int sa), (.int (5 : Int32)), (.ref b1), (.int (((((own_term vs (.int (0 : Int32)) (0 : Int32) sa ea ta) + (own_term vs (.int (0 : Int32)) (1 : Int32) sa ea ta)) + (own_term vs (.int (0 : Int32)) (2 : Int32) sa ea ta)) + (own_term vs (.int (0 : Int32)) (3 : Int32) sa ea ta)) + (own_term vs (.int (0 : Int32)) (4 : Int32) sa ea ta)))])) τ
    exact κ)
  obtain ⟨_, _, ⟨T25, Lx25, kx25, nx25⟩, -, X25, ⟨Lc25, hQ25, l25, y25, z25⟩, st25⟩ := Jvm.LawKit.callS X24 hx (y := (⟨"com/example/campo_livre/campolivre/CheckDigitsModulo11PinLaw", "term", "([BIIII)I"⟩ : MethodName)) hown (mvT hZ (hw _ (List.mem_of_getElem? (i := 13) rfl))) (mvT hZ (hw _ (List.mem_of_getElem? (i := 14) rfl))) (mvT hZ (hw _ (List.mem_of_getElem? (i := 3) rfl))) (mvT hZ (hw _ (List.mem_of_getElem? (i := 15) rfl))) (by decide) (backOf (W := 1) (rm4 l Z a0 hw [] b1 (5 : Int32) sa ea ta k1 (8 : Int32) vs (.int (0 : Int32)) h17 n0 Zn V_b1 (by decide) hta1) hZ (hw _ (List.mem_of_getElem? (i := 15) rfl)) (hw _ (List.mem_of_getElem? (i := 3) rfl)) (by decide) (by decide)) (g := (mkF m 206 #[.val (.long q1), .second, .val (.int p2), .val (.int p3), .val (.ref b1), .val (.int ((p2 &&& (15 : Int32)) % (9 : Int32))), .val (.int ((((p2.toUInt32 >>> ((4 : Int32) &&& 31).toUInt32).toInt32) &&& (15 : Int32)) % (9 : Int32))), .val (.int sa), .val (.int ea), .val (.int ta), .unset, .unset, .unset, .unset] [(.int ta), (.int ea), (.int sa), (.int (5 : Int32)), (.ref b1), (.int (((((own_term vs (.int (0 : Int32)) (0 : Int32) sa ea ta) + (own_term vs (.int (0 : Int32)) (1 : Int32) sa ea ta)) + (own_term vs (.int (0 : Int32)) (2 : Int32) sa ea ta)) + (own_term vs (.int (0 : Int32)) (3 : Int32) sa ea ta)) + (own_term vs (.int (0 : Int32)) (4 : Int32) sa ea ta)))])) rfl (by rw [hml]; rfl) (argsL := [(.ref b1), (.int (5 : Int32)), (.int sa), (.int ea), (.int ta)]) (rest := [(.int (((((own_term vs (.int (0 : Int32)) (0 : Int32) sa ea ta) + (own_term vs (.int (0 : Int32)) (1 : Int32) sa ea ta)) + (own_term vs (.int (0 : Int32)) (2 : Int32) sa ea ta)) + (own_term vs (.int (0 : Int32)) (3 : Int32) sa ea ta)) + (own_term vs (.int (0 : Int32)) (4 : Int32) sa ea ta)))]) (lenOf pd_0 rfl) rfl (by show 2 * 0 + _ ≤ _; exact Nat.le_of_eq rfl) (hb hby at_206) (fun _ _ => ⟨rfl, hs24, (by decide : 1 + 0 ≤ _), (by decide : 8 + 0 ≤ _)⟩)
  dsimp only [Pt.U, Pt.locs, Pt.cells, Pt.slots] at X25 l25 y25 z25 st25 hQ25
  replace y25 : kx25 = 1 := y25
  replace z25 : nx25 = 8 := z25
  subst y25 z25
  obtain ⟨rfl, Nq25, hs25⟩ := hQ25
  have NN : Fr n0 Lx25 := by rw [l25]; exact Fr.app NN Nq25
  have pre : ∀ τ, Steps p.tables e below (T25.setTop (mkF m 209 #[.val (.long q1), .second, .val (.int p2), .val (.int p3), .val (.ref b1), .val (.int ((p2 &&& (15 : Int32)) % (9 : Int32))), .val (.int ((((p2.toUInt32 >>> ((4 : Int32) &&& 31).toUInt32).toInt32) &&& (15 : Int32)) % (9 : Int32))), .val (.int sa), .val (.int ea), .val (.int ta), .unset, .unset, .unset, .unset] [(.int (own_term vs (.int (0 : Int32)) (5 : Int32) sa ea ta)), (.int (((((own_term vs (.int (0 : Int32)) (0 : Int32) sa ea ta) + (own_term vs (.int (0 : Int32)) (1 : Int32) sa ea ta)) + (own_term vs (.int (0 : Int32)) (2 : Int32) sa ea ta)) + (own_term vs (.int (0 : Int32)) (3 : Int32) sa ea ta)) + (own_term vs (.int (0 : Int32)) (4 : Int32) sa ea ta)))])) τ → G τ := fun τ κ => pre τ (st25 τ κ)
  have pre : ∀ τ, Steps p.tables e below (T25.setTop (mkF m 220 #[.val (.long q1), .second, .val (.int p2), .val (.int p3), .val (.ref b1), .val (.int ((p2 &&& (15 : Int32)) % (9 : Int32))), .val (.int ((((p2.toUInt32 >>> ((4 : Int32) &&& 31).toUInt32).toInt32) &&& (15 : Int32)) % (9 : Int32))), .val (.int sa), .val (.int ea), .val (.int ta), .unset, .unset, .unset, .unset] [(.int ta), (.int ea), (.int sa), (.int (6 : Int32)), (.ref b1), (.int ((((((own_term vs (.int (0 : Int32)) (0 : Int32) sa ea ta) + (own_term vs (.int (0 : Int32)) (1 : Int32) sa ea ta)) + (own_term vs (.int (0 : Int32)) (2 : Int32) sa ea ta)) + (own_term vs (.int (0 : Int32)) (3 : Int32) sa ea ta)) + (own_term vs (.int (0 : Int32)) (4 : Int32) sa ea ta)) + (own_term vs (.int (0 : Int32)) (5 : Int32) sa ea ta)))])) τ → G τ := fun τ κ => pre τ (by
    refine XS.iadd X25.here hx rfl (hb hby at_209) rfl ?_
    show Steps p.tables e below (T25.setTop (mkF m 210 #[.val (.long q1), .second, .val (.int p2), .val (.int p3), .val (.ref b1), .val (.int ((p2 &&& (15 : Int32)) % (9 : Int32))), .val (.int ((((p2.toUInt32 >>> ((4 : Int32) &&& 31).toUInt32).toInt32) &&& (15 : Int32)) % (9 : Int32))), .val (.int sa), .val (.int ea), .val (.int ta), .unset, .unset, .unset, .unset] [(.int ((((((own_term vs (.int (0 : Int32)) (0 : Int32) sa ea ta) + (own_term vs (.int (0 : Int32)) (1 : Int32) sa ea ta)) + (own_term vs (.int (0 : Int32)) (2 : Int32) sa ea ta)) + (own_term vs (.int (0 : Int32)) (3 : Int32) sa ea ta)) + (own_term vs (.int (0 : Int32)) (4 : Int32) sa ea ta)) + (own_term vs (.int (0 : Int32)) (5 : Int32) sa ea ta)))])) τ
    refine XS.aload X25.here hx rfl (hb hby at_210) rfl rfl ?_
    show Steps p.tables e below (T25.setTop (mkF m 212 #[.val (.long q1), .second, .val (.int p2), .val (.int p3), .val (.ref b1), .val (.int ((p2 &&& (15 : Int32)) % (9 : Int32))), .val (.int ((((p2.toUInt32 >>> ((4 : Int32) &&& 31).toUInt32).toInt32) &&& (15 : Int32)) % (9 : Int32))), .val (.int sa), .val (.int ea), .val (.int ta), .unset, .unset, .unset, .unset] [(.ref b1), (.int ((((((own_term vs (.int (0 : Int32)) (0 : Int32) sa ea ta) + (own_term vs (.int (0 : Int32)) (1 : Int32) sa ea ta)) + (own_term vs (.int (0 : Int32)) (2 : Int32) sa ea ta)) + (own_term vs (.int (0 : Int32)) (3 : Int32) sa ea ta)) + (own_term vs (.int (0 : Int32)) (4 : Int32) sa ea ta)) + (own_term vs (.int (0 : Int32)) (5 : Int32) sa ea ta)))])) τ
    refine XS.bipush X25.here hx rfl (hb hby at_212) ?_
    show Steps p.tables e below (T25.setTop (mkF m 214 #[.val (.long q1), .second, .val (.int p2), .val (.int p3), .val (.ref b1), .val (.int ((p2 &&& (15 : Int32)) % (9 : Int32))), .val (.int ((((p2.toUInt32 >>> ((4 : Int32) &&& 31).toUInt32).toInt32) &&& (15 : Int32)) % (9 : Int32))), .val (.int sa), .val (.int ea), .val (.int ta), .unset, .unset, .unset, .unset] [(.int (6 : Int32)), (.ref b1), (.int ((((((own_term vs (.int (0 : Int32)) (0 : Int32) sa ea ta) + (own_term vs (.int (0 : Int32)) (1 : Int32) sa ea ta)) + (own_term vs (.int (0 : Int32)) (2 : Int32) sa ea ta)) + (own_term vs (.int (0 : Int32)) (3 : Int32) sa ea ta)) + (own_term vs (.int (0 : Int32)) (4 : Int32) sa ea ta)) + (own_term vs (.int (0 : Int32)) (5 : Int32) sa ea ta)))])) τ
    refine XS.iload X25.here hx rfl (hb hby at_214) rfl ?_
    show Steps p.tables e below (T25.setTop (mkF m 216 #[.val (.long q1), .second, .val (.int p2), .val (.int p3), .val (.ref b1), .val (.int ((p2 &&& (15 : Int32)) % (9 : Int32))), .val (.int ((((p2.toUInt32 >>> ((4 : Int32) &&& 31).toUInt32).toInt32) &&& (15 : Int32)) % (9 : Int32))), .val (.int sa), .val (.int ea), .val (.int ta), .unset, .unset, .unset, .unset] [(.int sa), (.int (6 : Int32)), (.ref b1), (.int ((((((own_term vs (.int (0 : Int32)) (0 : Int32) sa ea ta) + (own_term vs (.int (0 : Int32)) (1 : Int32) sa ea ta)) + (own_term vs (.int (0 : Int32)) (2 : Int32) sa ea ta)) + (own_term vs (.int (0 : Int32)) (3 : Int32) sa ea ta)) + (own_term vs (.int (0 : Int32)) (4 : Int32) sa ea ta)) + (own_term vs (.int (0 : Int32)) (5 : Int32) sa ea ta)))])) τ
    refine XS.iload X25.here hx rfl (hb hby at_216) rfl ?_
    show Steps p.tables e below (T25.setTop (mkF m 218 #[.val (.long q1), .second, .val (.int p2), .val (.int p3), .val (.ref b1), .val (.int ((p2 &&& (15 : Int32)) % (9 : Int32))), .val (.int ((((p2.toUInt32 >>> ((4 : Int32) &&& 31).toUInt32).toInt32) &&& (15 : Int32)) % (9 : Int32))), .val (.int sa), .val (.int ea), .val (.int ta), .unset, .unset, .unset, .unset] [(.int ea), (.int sa), (.int (6 : Int32)), (.ref b1), (.int ((((((own_term vs (.int (0 : Int32)) (0 : Int32) sa ea ta) + (own_term vs (.int (0 : Int32)) (1 : Int32) sa ea ta)) + (own_term vs (.int (0 : Int32)) (2 : Int32) sa ea ta)) + (own_term vs (.int (0 : Int32)) (3 : Int32) sa ea ta)) + (own_term vs (.int (0 : Int32)) (4 : Int32) sa ea ta)) + (own_term vs (.int (0 : Int32)) (5 : Int32) sa ea ta)))])) τ
    refine XS.iload X25.here hx rfl (hb hby at_218) rfl ?_
    show Steps p.tables e below (T25.setTop (mkF m 220 #[.val (.long q1), .second, .val (.int p2), .val (.int p3), .val (.ref b1), .val (.int ((p2 &&& (15 : Int32)) % (9 : Int32))), .val (.int ((((p2.toUInt32 >>> ((4 : Int32) &&& 31).toUInt32).toInt32) &&& (15 : Int32)) % (9 : Int32))), .val (.int sa), .val (.int ea), .val (.int ta), .unset, .unset, .unset, .unset] [(.int ta), (.int ea), (.int sa), (.int (6 : Int32)), (.ref b1), (.int ((((((own_term vs (.int (0 : Int32)) (0 : Int32) sa ea ta) + (own_term vs (.int (0 : Int32)) (1 : Int32) sa ea ta)) + (own_term vs (.int (0 : Int32)) (2 : Int32) sa ea ta)) + (own_term vs (.int (0 : Int32)) (3 : Int32) sa ea ta)) + (own_term vs (.int (0 : Int32)) (4 : Int32) sa ea ta)) + (own_term vs (.int (0 : Int32)) (5 : Int32) sa ea ta)))])) τ
    exact κ)
  obtain ⟨_, _, ⟨T26, Lx26, kx26, nx26⟩, -, X26, ⟨Lc26, hQ26, l26, y26, z26⟩, st26⟩ := Jvm.LawKit.callS X25 hx (y := (⟨"com/example/campo_livre/campolivre/CheckDigitsModulo11PinLaw", "term", "([BIIII)I"⟩ : MethodName)) hown (mvT hZ (hw _ (List.mem_of_getElem? (i := 13) rfl))) (mvT hZ (hw _ (List.mem_of_getElem? (i := 14) rfl))) (mvT hZ (hw _ (List.mem_of_getElem? (i := 3) rfl))) (mvT hZ (hw _ (List.mem_of_getElem? (i := 15) rfl))) (by decide) (backOf (W := 1) (rm4 l Z a0 hw [] b1 (6 : Int32) sa ea ta k1 (8 : Int32) vs (.int (0 : Int32)) h17 n0 Zn V_b1 (by decide) hta1) hZ (hw _ (List.mem_of_getElem? (i := 15) rfl)) (hw _ (List.mem_of_getElem? (i := 3) rfl)) (by decide) (by decide)) (g := (mkF m 220 #[.val (.long q1), .second, .val (.int p2), .val (.int p3), .val (.ref b1), .val (.int ((p2 &&& (15 : Int32)) % (9 : Int32))), .val (.int ((((p2.toUInt32 >>> ((4 : Int32) &&& 31).toUInt32).toInt32) &&& (15 : Int32)) % (9 : Int32))), .val (.int sa), .val (.int ea), .val (.int ta), .unset, .unset, .unset, .unset] [(.int ta), (.int ea), (.int sa), (.int (6 : Int32)), (.ref b1), (.int ((((((own_term vs (.int (0 : Int32)) (0 : Int32) sa ea ta) + (own_term vs (.int (0 : Int32)) (1 : Int32) sa ea ta)) + (own_term vs (.int (0 : Int32)) (2 : Int32) sa ea ta)) + (own_term vs (.int (0 : Int32)) (3 : Int32) sa ea ta)) + (own_term vs (.int (0 : Int32)) (4 : Int32) sa ea ta)) + (own_term vs (.int (0 : Int32)) (5 : Int32) sa ea ta)))])) rfl (by rw [hml]; rfl) (argsL := [(.ref b1), (.int (6 : Int32)), (.int sa), (.int ea), (.int ta)]) (rest := [(.int ((((((own_term vs (.int (0 : Int32)) (0 : Int32) sa ea ta) + (own_term vs (.int (0 : Int32)) (1 : Int32) sa ea ta)) + (own_term vs (.int (0 : Int32)) (2 : Int32) sa ea ta)) + (own_term vs (.int (0 : Int32)) (3 : Int32) sa ea ta)) + (own_term vs (.int (0 : Int32)) (4 : Int32) sa ea ta)) + (own_term vs (.int (0 : Int32)) (5 : Int32) sa ea ta)))]) (lenOf pd_0 rfl) rfl (by show 2 * 0 + _ ≤ _; exact Nat.le_of_eq rfl) (hb hby at_220) (fun _ _ => ⟨rfl, hs25, (by decide : 1 + 0 ≤ _), (by decide : 8 + 0 ≤ _)⟩)
  dsimp only [Pt.U, Pt.locs, Pt.cells, Pt.slots] at X26 l26 y26 z26 st26 hQ26
  replace y26 : kx26 = 1 := y26
  replace z26 : nx26 = 8 := z26
  subst y26 z26
  obtain ⟨rfl, Nq26, hs26⟩ := hQ26
  have NN : Fr n0 Lx26 := by rw [l26]; exact Fr.app NN Nq26
  have pre : ∀ τ, Steps p.tables e below (T26.setTop (mkF m 223 #[.val (.long q1), .second, .val (.int p2), .val (.int p3), .val (.ref b1), .val (.int ((p2 &&& (15 : Int32)) % (9 : Int32))), .val (.int ((((p2.toUInt32 >>> ((4 : Int32) &&& 31).toUInt32).toInt32) &&& (15 : Int32)) % (9 : Int32))), .val (.int sa), .val (.int ea), .val (.int ta), .unset, .unset, .unset, .unset] [(.int (own_term vs (.int (0 : Int32)) (6 : Int32) sa ea ta)), (.int ((((((own_term vs (.int (0 : Int32)) (0 : Int32) sa ea ta) + (own_term vs (.int (0 : Int32)) (1 : Int32) sa ea ta)) + (own_term vs (.int (0 : Int32)) (2 : Int32) sa ea ta)) + (own_term vs (.int (0 : Int32)) (3 : Int32) sa ea ta)) + (own_term vs (.int (0 : Int32)) (4 : Int32) sa ea ta)) + (own_term vs (.int (0 : Int32)) (5 : Int32) sa ea ta)))])) τ → G τ := fun τ κ => pre τ (st26 τ κ)
  have pre : ∀ τ, Steps p.tables e below (T26.setTop (mkF m 234 #[.val (.long q1), .second, .val (.int p2), .val (.int p3), .val (.ref b1), .val (.int ((p2 &&& (15 : Int32)) % (9 : Int32))), .val (.int ((((p2.toUInt32 >>> ((4 : Int32) &&& 31).toUInt32).toInt32) &&& (15 : Int32)) % (9 : Int32))), .val (.int sa), .val (.int ea), .val (.int ta), .unset, .unset, .unset, .unset] [(.int ta), (.int ea), (.int sa), (.int (7 : Int32)), (.ref b1), (.int (((((((own_term vs (.int (0 : Int32)) (0 : Int32) sa ea ta) + (own_term vs (.int (0 : Int32)) (1 : Int32) sa ea ta)) + (own_term vs (.int (0 : Int32)) (2 : Int32) sa ea ta)) + (own_term vs (.int (0 : Int32)) (3 : Int32) sa ea ta)) + (own_term vs (.int (0 : Int32)) (4 : Int32) sa ea ta)) + (own_term vs (.int (0 : Int32)) (5 : Int32) sa ea ta)) + (own_term vs (.int (0 : Int32)) (6 : Int32) sa ea ta)))])) τ → G τ := fun τ κ => pre τ (by
    refine XS.iadd X26.here hx rfl (hb hby at_223) rfl ?_
    show Steps p.tables e below (T26.setTop (mkF m 224 #[.val (.long q1), .second, .val (.int p2), .val (.int p3), .val (.ref b1), .val (.int ((p2 &&& (15 : Int32)) % (9 : Int32))), .val (.int ((((p2.toUInt32 >>> ((4 : Int32) &&& 31).toUInt32).toInt32) &&& (15 : Int32)) % (9 : Int32))), .val (.int sa), .val (.int ea), .val (.int ta), .unset, .unset, .unset, .unset] [(.int (((((((own_term vs (.int (0 : Int32)) (0 : Int32) sa ea ta) + (own_term vs (.int (0 : Int32)) (1 : Int32) sa ea ta)) + (own_term vs (.int (0 : Int32)) (2 : Int32) sa ea ta)) + (own_term vs (.int (0 : Int32)) (3 : Int32) sa ea ta)) + (own_term vs (.int (0 : Int32)) (4 : Int32) sa ea ta)) + (own_term vs (.int (0 : Int32)) (5 : Int32) sa ea ta)) + (own_term vs (.int (0 : Int32)) (6 : Int32) sa ea ta)))])) τ
    refine XS.aload X26.here hx rfl (hb hby at_224) rfl rfl ?_
    show Steps p.tables e below (T26.setTop (mkF m 226 #[.val (.long q1), .second, .val (.int p2), .val (.int p3), .val (.ref b1), .val (.int ((p2 &&& (15 : Int32)) % (9 : Int32))), .val (.int ((((p2.toUInt32 >>> ((4 : Int32) &&& 31).toUInt32).toInt32) &&& (15 : Int32)) % (9 : Int32))), .val (.int sa), .val (.int ea), .val (.int ta), .unset, .unset, .unset, .unset] [(.ref b1), (.int (((((((own_term vs (.int (0 : Int32)) (0 : Int32) sa ea ta) + (own_term vs (.int (0 : Int32)) (1 : Int32) sa ea ta)) + (own_term vs (.int (0 : Int32)) (2 : Int32) sa ea ta)) + (own_term vs (.int (0 : Int32)) (3 : Int32) sa ea ta)) + (own_term vs (.int (0 : Int32)) (4 : Int32) sa ea ta)) + (own_term vs (.int (0 : Int32)) (5 : Int32) sa ea ta)) + (own_term vs (.int (0 : Int32)) (6 : Int32) sa ea ta)))])) τ
    refine XS.bipush X26.here hx rfl (hb hby at_226) ?_
    show Steps p.tables e below (T26.setTop (mkF m 228 #[.val (.long q1), .second, .val (.int p2), .val (.int p3), .val (.ref b1), .val (.int ((p2 &&& (15 : Int32)) % (9 : Int32))), .val (.int ((((p2.toUInt32 >>> ((4 : Int32) &&& 31).toUInt32).toInt32) &&& (15 : Int32)) % (9 : Int32))), .val (.int sa), .val (.int ea), .val (.int ta), .unset, .unset, .unset, .unset] [(.int (7 : Int32)), (.ref b1), (.int (((((((own_term vs (.int (0 : Int32)) (0 : Int32) sa ea ta) + (own_term vs (.int (0 : Int32)) (1 : Int32) sa ea ta)) + (own_term vs (.int (0 : Int32)) (2 : Int32) sa ea ta)) + (own_term vs (.int (0 : Int32)) (3 : Int32) sa ea ta)) + (own_term vs (.int (0 : Int32)) (4 : Int32) sa ea ta)) + (own_term vs (.int (0 : Int32)) (5 : Int32) sa ea ta)) + (own_term vs (.int (0 : Int32)) (6 : Int32) sa ea ta)))])) τ
    refine XS.iload X26.here hx rfl (hb hby at_228) rfl ?_
    show Steps p.tables e below (T26.setTop (mkF m 230 #[.val (.long q1), .second, .val (.int p2), .val (.int p3), .val (.ref b1), .val (.int ((p2 &&& (15 : Int32)) % (9 : Int32))), .val (.int ((((p2.toUInt32 >>> ((4 : Int32) &&& 31).toUInt32).toInt32) &&& (15 : Int32)) % (9 : Int32))), .val (.int sa), .val (.int ea), .val (.int ta), .unset, .unset, .unset, .unset] [(.int sa), (.int (7 : Int32)), (.ref b1), (.int (((((((own_term vs (.int (0 : Int32)) (0 : Int32) sa ea ta) + (own_term vs (.int (0 : Int32)) (1 : Int32) sa ea ta)) + (own_term vs (.int (0 : Int32)) (2 : Int32) sa ea ta)) + (own_term vs (.int (0 : Int32)) (3 : Int32) sa ea ta)) + (own_term vs (.int (0 : Int32)) (4 : Int32) sa ea ta)) + (own_term vs (.int (0 : Int32)) (5 : Int32) sa ea ta)) + (own_term vs (.int (0 : Int32)) (6 : Int32) sa ea ta)))])) τ
    refine XS.iload X26.here hx rfl (hb hby at_230) rfl ?_
    show Steps p.tables e below (T26.setTop (mkF m 232 #[.val (.long q1), .second, .val (.int p2), .val (.int p3), .val (.ref b1), .val (.int ((p2 &&& (15 : Int32)) % (9 : Int32))), .val (.int ((((p2.toUInt32 >>> ((4 : Int32) &&& 31).toUInt32).toInt32) &&& (15 : Int32)) % (9 : Int32))), .val (.int sa), .val (.int ea), .val (.int ta), .unset, .unset, .unset, .unset] [(.int ea), (.int sa), (.int (7 : Int32)), (.ref b1), (.int (((((((own_term vs (.int (0 : Int32)) (0 : Int32) sa ea ta) + (own_term vs (.int (0 : Int32)) (1 : Int32) sa ea ta)) + (own_term vs (.int (0 : Int32)) (2 : Int32) sa ea ta)) + (own_term vs (.int (0 : Int32)) (3 : Int32) sa ea ta)) + (own_term vs (.int (0 : Int32)) (4 : Int32) sa ea ta)) + (own_term vs (.int (0 : Int32)) (5 : Int32) sa ea ta)) + (own_term vs (.int (0 : Int32)) (6 : Int32) sa ea ta)))])) τ
    refine XS.iload X26.here hx rfl (hb hby at_232) rfl ?_
    show Steps p.tables e below (T26.setTop (mkF m 234 #[.val (.long q1), .second, .val (.int p2), .val (.int p3), .val (.ref b1), .val (.int ((p2 &&& (15 : Int32)) % (9 : Int32))), .val (.int ((((p2.toUInt32 >>> ((4 : Int32) &&& 31).toUInt32).toInt32) &&& (15 : Int32)) % (9 : Int32))), .val (.int sa), .val (.int ea), .val (.int ta), .unset, .unset, .unset, .unset] [(.int ta), (.int ea), (.int sa), (.int (7 : Int32)), (.ref b1), (.int (((((((own_term vs (.int (0 : Int32)) (0 : Int32) sa ea ta) + (own_term vs (.int (0 : Int32)) (1 : Int32) sa ea ta)) + (own_term vs (.int (0 : Int32)) (2 : Int32) sa ea ta)) + (own_term vs (.int (0 : Int32)) (3 : Int32) sa ea ta)) + (own_term vs (.int (0 : Int32)) (4 : Int32) sa ea ta)) + (own_term vs (.int (0 : Int32)) (5 : Int32) sa ea ta)) + (own_term vs (.int (0 : Int32)) (6 : Int32) sa ea ta)))])) τ
    exact κ)
  obtain ⟨_, _, ⟨T27, Lx27, kx27, nx27⟩, -, X27, ⟨Lc27, hQ27, l27, y27, z27⟩, st27⟩ := Jvm.LawKit.callS X26 hx (y := (⟨"com/example/campo_livre/campolivre/CheckDigitsModulo11PinLaw", "term", "([BIIII)I"⟩ : MethodName)) hown (mvT hZ (hw _ (List.mem_of_getElem? (i := 13) rfl))) (mvT hZ (hw _ (List.mem_of_getElem? (i := 14) rfl))) (mvT hZ (hw _ (List.mem_of_getElem? (i := 3) rfl))) (mvT hZ (hw _ (List.mem_of_getElem? (i := 15) rfl))) (by decide) (backOf (W := 1) (rm4 l Z a0 hw [] b1 (7 : Int32) sa ea ta k1 (8 : Int32) vs (.int (0 : Int32)) h17 n0 Zn V_b1 (by decide) hta1) hZ (hw _ (List.mem_of_getElem? (i := 15) rfl)) (hw _ (List.mem_of_getElem? (i := 3) rfl)) (by decide) (by decide)) (g := (mkF m 234 #[.val (.long q1), .second, .val (.int p2), .val (.int p3), .val (.ref b1), .val (.int ((p2 &&& (15 : Int32)) % (9 : Int32))), .val (.int ((((p2.toUInt32 >>> ((4 : Int32) &&& 31).toUInt32).toInt32) &&& (15 : Int32)) % (9 : Int32))), .val (.int sa), .val (.int ea), .val (.int ta), .unset, .unset, .unset, .unset] [(.int ta), (.int ea), (.int sa), (.int (7 : Int32)), (.ref b1), (.int (((((((own_term vs (.int (0 : Int32)) (0 : Int32) sa ea ta) + (own_term vs (.int (0 : Int32)) (1 : Int32) sa ea ta)) + (own_term vs (.int (0 : Int32)) (2 : Int32) sa ea ta)) + (own_term vs (.int (0 : Int32)) (3 : Int32) sa ea ta)) + (own_term vs (.int (0 : Int32)) (4 : Int32) sa ea ta)) + (own_term vs (.int (0 : Int32)) (5 : Int32) sa ea ta)) + (own_term vs (.int (0 : Int32)) (6 : Int32) sa ea ta)))])) rfl (by rw [hml]; rfl) (argsL := [(.ref b1), (.int (7 : Int32)), (.int sa), (.int ea), (.int ta)]) (rest := [(.int (((((((own_term vs (.int (0 : Int32)) (0 : Int32) sa ea ta) + (own_term vs (.int (0 : Int32)) (1 : Int32) sa ea ta)) + (own_term vs (.int (0 : Int32)) (2 : Int32) sa ea ta)) + (own_term vs (.int (0 : Int32)) (3 : Int32) sa ea ta)) + (own_term vs (.int (0 : Int32)) (4 : Int32) sa ea ta)) + (own_term vs (.int (0 : Int32)) (5 : Int32) sa ea ta)) + (own_term vs (.int (0 : Int32)) (6 : Int32) sa ea ta)))]) (lenOf pd_0 rfl) rfl (by show 2 * 0 + _ ≤ _; exact Nat.le_of_eq rfl) (hb hby at_234) (fun _ _ => ⟨rfl, hs26, (by decide : 1 + 0 ≤ _), (by decide : 8 + 0 ≤ _)⟩)
  dsimp only [Pt.U, Pt.locs, Pt.cells, Pt.slots] at X27 l27 y27 z27 st27 hQ27
  replace y27 : kx27 = 1 := y27
  replace z27 : nx27 = 8 := z27
  subst y27 z27
  obtain ⟨rfl, Nq27, hs27⟩ := hQ27
  have NN : Fr n0 Lx27 := by rw [l27]; exact Fr.app NN Nq27
  have pre : ∀ τ, Steps p.tables e below (T27.setTop (mkF m 237 #[.val (.long q1), .second, .val (.int p2), .val (.int p3), .val (.ref b1), .val (.int ((p2 &&& (15 : Int32)) % (9 : Int32))), .val (.int ((((p2.toUInt32 >>> ((4 : Int32) &&& 31).toUInt32).toInt32) &&& (15 : Int32)) % (9 : Int32))), .val (.int sa), .val (.int ea), .val (.int ta), .unset, .unset, .unset, .unset] [(.int (own_term vs (.int (0 : Int32)) (7 : Int32) sa ea ta)), (.int (((((((own_term vs (.int (0 : Int32)) (0 : Int32) sa ea ta) + (own_term vs (.int (0 : Int32)) (1 : Int32) sa ea ta)) + (own_term vs (.int (0 : Int32)) (2 : Int32) sa ea ta)) + (own_term vs (.int (0 : Int32)) (3 : Int32) sa ea ta)) + (own_term vs (.int (0 : Int32)) (4 : Int32) sa ea ta)) + (own_term vs (.int (0 : Int32)) (5 : Int32) sa ea ta)) + (own_term vs (.int (0 : Int32)) (6 : Int32) sa ea ta)))])) τ → G τ := fun τ κ => pre τ (st27 τ κ)
  have pre : ∀ τ, Steps p.tables e below (T27.setTop (mkF m 254 #[.val (.long q1), .second, .val (.int p2), .val (.int p3), .val (.ref b1), .val (.int ((p2 &&& (15 : Int32)) % (9 : Int32))), .val (.int ((((p2.toUInt32 >>> ((4 : Int32) &&& 31).toUInt32).toInt32) &&& (15 : Int32)) % (9 : Int32))), .val (.int sa), .val (.int ea), .val (.int ta), .val (.int ((((((((own_term vs (.int (0 : Int32)) (0 : Int32) sa ea ta) + (own_term vs (.int (0 : Int32)) (1 : Int32) sa ea ta)) + (own_term vs (.int (0 : Int32)) (2 : Int32) sa ea ta)) + (own_term vs (.int (0 : Int32)) (3 : Int32) sa ea ta)) + (own_term vs (.int (0 : Int32)) (4 : Int32) sa ea ta)) + (own_term vs (.int (0 : Int32)) (5 : Int32) sa ea ta)) + (own_term vs (.int (0 : Int32)) (6 : Int32) sa ea ta)) + (own_term vs (.int (0 : Int32)) (7 : Int32) sa ea ta))), .val (.int (((10 : Int32) * ((((((((own_term vs (.int (0 : Int32)) (0 : Int32) sa ea ta) + (own_term vs (.int (0 : Int32)) (1 : Int32) sa ea ta)) + (own_term vs (.int (0 : Int32)) (2 : Int32) sa ea ta)) + (own_term vs (.int (0 : Int32)) (3 : Int32) sa ea ta)) + (own_term vs (.int (0 : Int32)) (4 : Int32) sa ea ta)) + (own_term vs (.int (0 : Int32)) (5 : Int32) sa ea ta)) + (own_term vs (.int (0 : Int32)) (6 : Int32) sa ea ta)) + (own_term vs (.int (0 : Int32)) (7 : Int32) sa ea ta))) % (11 : Int32))), .unset, .unset] [(.int (10 : Int32)), (.int (((10 : Int32) * ((((((((own_term vs (.int (0 : Int32)) (0 : Int32) sa ea ta) + (own_term vs (.int (0 : Int32)) (1 : Int32) sa ea ta)) + (own_term vs (.int (0 : Int32)) (2 : Int32) sa ea ta)) + (own_term vs (.int (0 : Int32)) (3 : Int32) sa ea ta)) + (own_term vs (.int (0 : Int32)) (4 : Int32) sa ea ta)) + (own_term vs (.int (0 : Int32)) (5 : Int32) sa ea ta)) + (own_term vs (.int (0 : Int32)) (6 : Int32) sa ea ta)) + (own_term vs (.int (0 : Int32)) (7 : Int32) sa ea ta))) % (11 : Int32)))])) τ → G τ := fun τ κ => pre τ (by
    refine XS.iadd X27.here hx rfl (hb hby at_237) rfl ?_
    show Steps p.tables e below (T27.setTop (mkF m 238 #[.val (.long q1), .second, .val (.int p2), .val (.int p3), .val (.ref b1), .val (.int ((p2 &&& (15 : Int32)) % (9 : Int32))), .val (.int ((((p2.toUInt32 >>> ((4 : Int32) &&& 31).toUInt32).toInt32) &&& (15 : Int32)) % (9 : Int32))), .val (.int sa), .val (.int ea), .val (.int ta), .unset, .unset, .unset, .unset] [(.int ((((((((own_term vs (.int (0 : Int32)) (0 : Int32) sa ea ta) + (own_term vs (.int (0 : Int32)) (1 : Int32) sa ea ta)) + (own_term vs (.int (0 : Int32)) (2 : Int32) sa ea ta)) + (own_term vs (.int (0 : Int32)) (3 : Int32) sa ea ta)) + (own_term vs (.int (0 : Int32)) (4 : Int32) sa ea ta)) + (own_term vs (.int (0 : Int32)) (5 : Int32) sa ea ta)) + (own_term vs (.int (0 : Int32)) (6 : Int32) sa ea ta)) + (own_term vs (.int (0 : Int32)) (7 : Int32) sa ea ta)))])) τ
    refine XS.istore X27.here hx rfl (hb hby at_238) rfl (l' := #[.val (.long q1), .second, .val (.int p2), .val (.int p3), .val (.ref b1), .val (.int ((p2 &&& (15 : Int32)) % (9 : Int32))), .val (.int ((((p2.toUInt32 >>> ((4 : Int32) &&& 31).toUInt32).toInt32) &&& (15 : Int32)) % (9 : Int32))), .val (.int sa), .val (.int ea), .val (.int ta), .val (.int ((((((((own_term vs (.int (0 : Int32)) (0 : Int32) sa ea ta) + (own_term vs (.int (0 : Int32)) (1 : Int32) sa ea ta)) + (own_term vs (.int (0 : Int32)) (2 : Int32) sa ea ta)) + (own_term vs (.int (0 : Int32)) (3 : Int32) sa ea ta)) + (own_term vs (.int (0 : Int32)) (4 : Int32) sa ea ta)) + (own_term vs (.int (0 : Int32)) (5 : Int32) sa ea ta)) + (own_term vs (.int (0 : Int32)) (6 : Int32) sa ea ta)) + (own_term vs (.int (0 : Int32)) (7 : Int32) sa ea ta))), .unset, .unset, .unset]) rfl ?_
    show Steps p.tables e below (T27.setTop (mkF m 240 #[.val (.long q1), .second, .val (.int p2), .val (.int p3), .val (.ref b1), .val (.int ((p2 &&& (15 : Int32)) % (9 : Int32))), .val (.int ((((p2.toUInt32 >>> ((4 : Int32) &&& 31).toUInt32).toInt32) &&& (15 : Int32)) % (9 : Int32))), .val (.int sa), .val (.int ea), .val (.int ta), .val (.int ((((((((own_term vs (.int (0 : Int32)) (0 : Int32) sa ea ta) + (own_term vs (.int (0 : Int32)) (1 : Int32) sa ea ta)) + (own_term vs (.int (0 : Int32)) (2 : Int32) sa ea ta)) + (own_term vs (.int (0 : Int32)) (3 : Int32) sa ea ta)) + (own_term vs (.int (0 : Int32)) (4 : Int32) sa ea ta)) + (own_term vs (.int (0 : Int32)) (5 : Int32) sa ea ta)) + (own_term vs (.int (0 : Int32)) (6 : Int32) sa ea ta)) + (own_term vs (.int (0 : Int32)) (7 : Int32) sa ea ta))), .unset, .unset, .unset] [])) τ
    refine XS.bipush X27.here hx rfl (hb hby at_240) ?_
    show Steps p.tables e below (T27.setTop (mkF m 242 #[.val (.long q1), .second, .val (.int p2), .val (.int p3), .val (.ref b1), .val (.int ((p2 &&& (15 : Int32)) % (9 : Int32))), .val (.int ((((p2.toUInt32 >>> ((4 : Int32) &&& 31).toUInt32).toInt32) &&& (15 : Int32)) % (9 : Int32))), .val (.int sa), .val (.int ea), .val (.int ta), .val (.int ((((((((own_term vs (.int (0 : Int32)) (0 : Int32) sa ea ta) + (own_term vs (.int (0 : Int32)) (1 : Int32) sa ea ta)) + (own_term vs (.int (0 : Int32)) (2 : Int32) sa ea ta)) + (own_term vs (.int (0 : Int32)) (3 : Int32) sa ea ta)) + (own_term vs (.int (0 : Int32)) (4 : Int32) sa ea ta)) + (own_term vs (.int (0 : Int32)) (5 : Int32) sa ea ta)) + (own_term vs (.int (0 : Int32)) (6 : Int32) sa ea ta)) + (own_term vs (.int (0 : Int32)) (7 : Int32) sa ea ta))), .unset, .unset, .unset] [(.int (10 : Int32))])) τ
    refine XS.iload X27.here hx rfl (hb hby at_242) rfl ?_
    show Steps p.tables e below (T27.setTop (mkF m 244 #[.val (.long q1), .second, .val (.int p2), .val (.int p3), .val (.ref b1), .val (.int ((p2 &&& (15 : Int32)) % (9 : Int32))), .val (.int ((((p2.toUInt32 >>> ((4 : Int32) &&& 31).toUInt32).toInt32) &&& (15 : Int32)) % (9 : Int32))), .val (.int sa), .val (.int ea), .val (.int ta), .val (.int ((((((((own_term vs (.int (0 : Int32)) (0 : Int32) sa ea ta) + (own_term vs (.int (0 : Int32)) (1 : Int32) sa ea ta)) + (own_term vs (.int (0 : Int32)) (2 : Int32) sa ea ta)) + (own_term vs (.int (0 : Int32)) (3 : Int32) sa ea ta)) + (own_term vs (.int (0 : Int32)) (4 : Int32) sa ea ta)) + (own_term vs (.int (0 : Int32)) (5 : Int32) sa ea ta)) + (own_term vs (.int (0 : Int32)) (6 : Int32) sa ea ta)) + (own_term vs (.int (0 : Int32)) (7 : Int32) sa ea ta))), .unset, .unset, .unset] [(.int ((((((((own_term vs (.int (0 : Int32)) (0 : Int32) sa ea ta) + (own_term vs (.int (0 : Int32)) (1 : Int32) sa ea ta)) + (own_term vs (.int (0 : Int32)) (2 : Int32) sa ea ta)) + (own_term vs (.int (0 : Int32)) (3 : Int32) sa ea ta)) + (own_term vs (.int (0 : Int32)) (4 : Int32) sa ea ta)) + (own_term vs (.int (0 : Int32)) (5 : Int32) sa ea ta)) + (own_term vs (.int (0 : Int32)) (6 : Int32) sa ea ta)) + (own_term vs (.int (0 : Int32)) (7 : Int32) sa ea ta))), (.int (10 : Int32))])) τ
    refine XS.imul X27.here hx rfl (hb hby at_244) rfl ?_
    show Steps p.tables e below (T27.setTop (mkF m 245 #[.val (.long q1), .second, .val (.int p2), .val (.int p3), .val (.ref b1), .val (.int ((p2 &&& (15 : Int32)) % (9 : Int32))), .val (.int ((((p2.toUInt32 >>> ((4 : Int32) &&& 31).toUInt32).toInt32) &&& (15 : Int32)) % (9 : Int32))), .val (.int sa), .val (.int ea), .val (.int ta), .val (.int ((((((((own_term vs (.int (0 : Int32)) (0 : Int32) sa ea ta) + (own_term vs (.int (0 : Int32)) (1 : Int32) sa ea ta)) + (own_term vs (.int (0 : Int32)) (2 : Int32) sa ea ta)) + (own_term vs (.int (0 : Int32)) (3 : Int32) sa ea ta)) + (own_term vs (.int (0 : Int32)) (4 : Int32) sa ea ta)) + (own_term vs (.int (0 : Int32)) (5 : Int32) sa ea ta)) + (own_term vs (.int (0 : Int32)) (6 : Int32) sa ea ta)) + (own_term vs (.int (0 : Int32)) (7 : Int32) sa ea ta))), .unset, .unset, .unset] [(.int ((10 : Int32) * ((((((((own_term vs (.int (0 : Int32)) (0 : Int32) sa ea ta) + (own_term vs (.int (0 : Int32)) (1 : Int32) sa ea ta)) + (own_term vs (.int (0 : Int32)) (2 : Int32) sa ea ta)) + (own_term vs (.int (0 : Int32)) (3 : Int32) sa ea ta)) + (own_term vs (.int (0 : Int32)) (4 : Int32) sa ea ta)) + (own_term vs (.int (0 : Int32)) (5 : Int32) sa ea ta)) + (own_term vs (.int (0 : Int32)) (6 : Int32) sa ea ta)) + (own_term vs (.int (0 : Int32)) (7 : Int32) sa ea ta))))])) τ
    refine XS.bipush X27.here hx rfl (hb hby at_245) ?_
    show Steps p.tables e below (T27.setTop (mkF m 247 #[.val (.long q1), .second, .val (.int p2), .val (.int p3), .val (.ref b1), .val (.int ((p2 &&& (15 : Int32)) % (9 : Int32))), .val (.int ((((p2.toUInt32 >>> ((4 : Int32) &&& 31).toUInt32).toInt32) &&& (15 : Int32)) % (9 : Int32))), .val (.int sa), .val (.int ea), .val (.int ta), .val (.int ((((((((own_term vs (.int (0 : Int32)) (0 : Int32) sa ea ta) + (own_term vs (.int (0 : Int32)) (1 : Int32) sa ea ta)) + (own_term vs (.int (0 : Int32)) (2 : Int32) sa ea ta)) + (own_term vs (.int (0 : Int32)) (3 : Int32) sa ea ta)) + (own_term vs (.int (0 : Int32)) (4 : Int32) sa ea ta)) + (own_term vs (.int (0 : Int32)) (5 : Int32) sa ea ta)) + (own_term vs (.int (0 : Int32)) (6 : Int32) sa ea ta)) + (own_term vs (.int (0 : Int32)) (7 : Int32) sa ea ta))), .unset, .unset, .unset] [(.int (11 : Int32)), (.int ((10 : Int32) * ((((((((own_term vs (.int (0 : Int32)) (0 : Int32) sa ea ta) + (own_term vs (.int (0 : Int32)) (1 : Int32) sa ea ta)) + (own_term vs (.int (0 : Int32)) (2 : Int32) sa ea ta)) + (own_term vs (.int (0 : Int32)) (3 : Int32) sa ea ta)) + (own_term vs (.int (0 : Int32)) (4 : Int32) sa ea ta)) + (own_term vs (.int (0 : Int32)) (5 : Int32) sa ea ta)) + (own_term vs (.int (0 : Int32)) (6 : Int32) sa ea ta)) + (own_term vs (.int (0 : Int32)) (7 : Int32) sa ea ta))))])) τ
    refine iremM X27 hx rfl (hb hby at_247) rfl (by decide) ?_
    show Steps p.tables e below (T27.setTop (mkF m 248 #[.val (.long q1), .second, .val (.int p2), .val (.int p3), .val (.ref b1), .val (.int ((p2 &&& (15 : Int32)) % (9 : Int32))), .val (.int ((((p2.toUInt32 >>> ((4 : Int32) &&& 31).toUInt32).toInt32) &&& (15 : Int32)) % (9 : Int32))), .val (.int sa), .val (.int ea), .val (.int ta), .val (.int ((((((((own_term vs (.int (0 : Int32)) (0 : Int32) sa ea ta) + (own_term vs (.int (0 : Int32)) (1 : Int32) sa ea ta)) + (own_term vs (.int (0 : Int32)) (2 : Int32) sa ea ta)) + (own_term vs (.int (0 : Int32)) (3 : Int32) sa ea ta)) + (own_term vs (.int (0 : Int32)) (4 : Int32) sa ea ta)) + (own_term vs (.int (0 : Int32)) (5 : Int32) sa ea ta)) + (own_term vs (.int (0 : Int32)) (6 : Int32) sa ea ta)) + (own_term vs (.int (0 : Int32)) (7 : Int32) sa ea ta))), .unset, .unset, .unset] [(.int (((10 : Int32) * ((((((((own_term vs (.int (0 : Int32)) (0 : Int32) sa ea ta) + (own_term vs (.int (0 : Int32)) (1 : Int32) sa ea ta)) + (own_term vs (.int (0 : Int32)) (2 : Int32) sa ea ta)) + (own_term vs (.int (0 : Int32)) (3 : Int32) sa ea ta)) + (own_term vs (.int (0 : Int32)) (4 : Int32) sa ea ta)) + (own_term vs (.int (0 : Int32)) (5 : Int32) sa ea ta)) + (own_term vs (.int (0 : Int32)) (6 : Int32) sa ea ta)) + (own_term vs (.int (0 : Int32)) (7 : Int32) sa ea ta))) % (11 : Int32)))])) τ
    refine XS.istore X27.here hx rfl (hb hby at_248) rfl (l' := #[.val (.long q1), .second, .val (.int p2), .val (.int p3), .val (.ref b1), .val (.int ((p2 &&& (15 : Int32)) % (9 : Int32))), .val (.int ((((p2.toUInt32 >>> ((4 : Int32) &&& 31).toUInt32).toInt32) &&& (15 : Int32)) % (9 : Int32))), .val (.int sa), .val (.int ea), .val (.int ta), .val (.int ((((((((own_term vs (.int (0 : Int32)) (0 : Int32) sa ea ta) + (own_term vs (.int (0 : Int32)) (1 : Int32) sa ea ta)) + (own_term vs (.int (0 : Int32)) (2 : Int32) sa ea ta)) + (own_term vs (.int (0 : Int32)) (3 : Int32) sa ea ta)) + (own_term vs (.int (0 : Int32)) (4 : Int32) sa ea ta)) + (own_term vs (.int (0 : Int32)) (5 : Int32) sa ea ta)) + (own_term vs (.int (0 : Int32)) (6 : Int32) sa ea ta)) + (own_term vs (.int (0 : Int32)) (7 : Int32) sa ea ta))), .val (.int (((10 : Int32) * ((((((((own_term vs (.int (0 : Int32)) (0 : Int32) sa ea ta) + (own_term vs (.int (0 : Int32)) (1 : Int32) sa ea ta)) + (own_term vs (.int (0 : Int32)) (2 : Int32) sa ea ta)) + (own_term vs (.int (0 : Int32)) (3 : Int32) sa ea ta)) + (own_term vs (.int (0 : Int32)) (4 : Int32) sa ea ta)) + (own_term vs (.int (0 : Int32)) (5 : Int32) sa ea ta)) + (own_term vs (.int (0 : Int32)) (6 : Int32) sa ea ta)) + (own_term vs (.int (0 : Int32)) (7 : Int32) sa ea ta))) % (11 : Int32))), .unset, .unset]) rfl ?_
    show Steps p.tables e below (T27.setTop (mkF m 250 #[.val (.long q1), .second, .val (.int p2), .val (.int p3), .val (.ref b1), .val (.int ((p2 &&& (15 : Int32)) % (9 : Int32))), .val (.int ((((p2.toUInt32 >>> ((4 : Int32) &&& 31).toUInt32).toInt32) &&& (15 : Int32)) % (9 : Int32))), .val (.int sa), .val (.int ea), .val (.int ta), .val (.int ((((((((own_term vs (.int (0 : Int32)) (0 : Int32) sa ea ta) + (own_term vs (.int (0 : Int32)) (1 : Int32) sa ea ta)) + (own_term vs (.int (0 : Int32)) (2 : Int32) sa ea ta)) + (own_term vs (.int (0 : Int32)) (3 : Int32) sa ea ta)) + (own_term vs (.int (0 : Int32)) (4 : Int32) sa ea ta)) + (own_term vs (.int (0 : Int32)) (5 : Int32) sa ea ta)) + (own_term vs (.int (0 : Int32)) (6 : Int32) sa ea ta)) + (own_term vs (.int (0 : Int32)) (7 : Int32) sa ea ta))), .val (.int (((10 : Int32) * ((((((((own_term vs (.int (0 : Int32)) (0 : Int32) sa ea ta) + (own_term vs (.int (0 : Int32)) (1 : Int32) sa ea ta)) + (own_term vs (.int (0 : Int32)) (2 : Int32) sa ea ta)) + (own_term vs (.int (0 : Int32)) (3 : Int32) sa ea ta)) + (own_term vs (.int (0 : Int32)) (4 : Int32) sa ea ta)) + (own_term vs (.int (0 : Int32)) (5 : Int32) sa ea ta)) + (own_term vs (.int (0 : Int32)) (6 : Int32) sa ea ta)) + (own_term vs (.int (0 : Int32)) (7 : Int32) sa ea ta))) % (11 : Int32))), .unset, .unset] [])) τ
    refine XS.iload X27.here hx rfl (hb hby at_250) rfl ?_
    show Steps p.tables e below (T27.setTop (mkF m 252 #[.val (.long q1), .second, .val (.int p2), .val (.int p3), .val (.ref b1), .val (.int ((p2 &&& (15 : Int32)) % (9 : Int32))), .val (.int ((((p2.toUInt32 >>> ((4 : Int32) &&& 31).toUInt32).toInt32) &&& (15 : Int32)) % (9 : Int32))), .val (.int sa), .val (.int ea), .val (.int ta), .val (.int ((((((((own_term vs (.int (0 : Int32)) (0 : Int32) sa ea ta) + (own_term vs (.int (0 : Int32)) (1 : Int32) sa ea ta)) + (own_term vs (.int (0 : Int32)) (2 : Int32) sa ea ta)) + (own_term vs (.int (0 : Int32)) (3 : Int32) sa ea ta)) + (own_term vs (.int (0 : Int32)) (4 : Int32) sa ea ta)) + (own_term vs (.int (0 : Int32)) (5 : Int32) sa ea ta)) + (own_term vs (.int (0 : Int32)) (6 : Int32) sa ea ta)) + (own_term vs (.int (0 : Int32)) (7 : Int32) sa ea ta))), .val (.int (((10 : Int32) * ((((((((own_term vs (.int (0 : Int32)) (0 : Int32) sa ea ta) + (own_term vs (.int (0 : Int32)) (1 : Int32) sa ea ta)) + (own_term vs (.int (0 : Int32)) (2 : Int32) sa ea ta)) + (own_term vs (.int (0 : Int32)) (3 : Int32) sa ea ta)) + (own_term vs (.int (0 : Int32)) (4 : Int32) sa ea ta)) + (own_term vs (.int (0 : Int32)) (5 : Int32) sa ea ta)) + (own_term vs (.int (0 : Int32)) (6 : Int32) sa ea ta)) + (own_term vs (.int (0 : Int32)) (7 : Int32) sa ea ta))) % (11 : Int32))), .unset, .unset] [(.int (((10 : Int32) * ((((((((own_term vs (.int (0 : Int32)) (0 : Int32) sa ea ta) + (own_term vs (.int (0 : Int32)) (1 : Int32) sa ea ta)) + (own_term vs (.int (0 : Int32)) (2 : Int32) sa ea ta)) + (own_term vs (.int (0 : Int32)) (3 : Int32) sa ea ta)) + (own_term vs (.int (0 : Int32)) (4 : Int32) sa ea ta)) + (own_term vs (.int (0 : Int32)) (5 : Int32) sa ea ta)) + (own_term vs (.int (0 : Int32)) (6 : Int32) sa ea ta)) + (own_term vs (.int (0 : Int32)) (7 : Int32) sa ea ta))) % (11 : Int32)))])) τ
    refine XS.bipush X27.here hx rfl (hb hby at_252) ?_
    show Steps p.tables e below (T27.setTop (mkF m 254 #[.val (.long q1), .second, .val (.int p2), .val (.int p3), .val (.ref b1), .val (.int ((p2 &&& (15 : Int32)) % (9 : Int32))), .val (.int ((((p2.toUInt32 >>> ((4 : Int32) &&& 31).toUInt32).toInt32) &&& (15 : Int32)) % (9 : Int32))), .val (.int sa), .val (.int ea), .val (.int ta), .val (.int ((((((((own_term vs (.int (0 : Int32)) (0 : Int32) sa ea ta) + (own_term vs (.int (0 : Int32)) (1 : Int32) sa ea ta)) + (own_term vs (.int (0 : Int32)) (2 : Int32) sa ea ta)) + (own_term vs (.int (0 : Int32)) (3 : Int32) sa ea ta)) + (own_term vs (.int (0 : Int32)) (4 : Int32) sa ea ta)) + (own_term vs (.int (0 : Int32)) (5 : Int32) sa ea ta)) + (own_term vs (.int (0 : Int32)) (6 : Int32) sa ea ta)) + (own_term vs (.int (0 : Int32)) (7 : Int32) sa ea ta))), .val (.int (((10 : Int32) * ((((((((own_term vs (.int (0 : Int32)) (0 : Int32) sa ea ta) + (own_term vs (.int (0 : Int32)) (1 : Int32) sa ea ta)) + (own_term vs (.int (0 : Int32)) (2 : Int32) sa ea ta)) + (own_term vs (.int (0 : Int32)) (3 : Int32) sa ea ta)) + (own_term vs (.int (0 : Int32)) (4 : Int32) sa ea ta)) + (own_term vs (.int (0 : Int32)) (5 : Int32) sa ea ta)) + (own_term vs (.int (0 : Int32)) (6 : Int32) sa ea ta)) + (own_term vs (.int (0 : Int32)) (7 : Int32) sa ea ta))) % (11 : Int32))), .unset, .unset] [(.int (10 : Int32)), (.int (((10 : Int32) * ((((((((own_term vs (.int (0 : Int32)) (0 : Int32) sa ea ta) + (own_term vs (.int (0 : Int32)) (1 : Int32) sa ea ta)) + (own_term vs (.int (0 : Int32)) (2 : Int32) sa ea ta)) + (own_term vs (.int (0 : Int32)) (3 : Int32) sa ea ta)) + (own_term vs (.int (0 : Int32)) (4 : Int32) sa ea ta)) + (own_term vs (.int (0 : Int32)) (5 : Int32) sa ea ta)) + (own_term vs (.int (0 : Int32)) (6 : Int32) sa ea ta)) + (own_term vs (.int (0 : Int32)) (7 : Int32) sa ea ta))) % (11 : Int32)))])) τ
    exact κ)
  rcases Classical.em ((((10 : Int32) * ((((((((own_term vs (.int (0 : Int32)) (0 : Int32) sa ea ta) + (own_term vs (.int (0 : Int32)) (1 : Int32) sa ea ta)) + (own_term vs (.int (0 : Int32)) (2 : Int32) sa ea ta)) + (own_term vs (.int (0 : Int32)) (3 : Int32) sa ea ta)) + (own_term vs (.int (0 : Int32)) (4 : Int32) sa ea ta)) + (own_term vs (.int (0 : Int32)) (5 : Int32) sa ea ta)) + (own_term vs (.int (0 : Int32)) (6 : Int32) sa ea ta)) + (own_term vs (.int (0 : Int32)) (7 : Int32) sa ea ta))) % (11 : Int32)) = (10 : Int32)) with hc254_28 | hc254_28
  ·
    have pre : ∀ τ, Steps p.tables e below (T27.setTop (mkF m 273 #[.val (.long q1), .second, .val (.int p2), .val (.int p3), .val (.ref b1), .val (.int ((p2 &&& (15 : Int32)) % (9 : Int32))), .val (.int ((((p2.toUInt32 >>> ((4 : Int32) &&& 31).toUInt32).toInt32) &&& (15 : Int32)) % (9 : Int32))), .val (.int sa), .val (.int ea), .val (.int ta), .val (.int ((((((((own_term vs (.int (0 : Int32)) (0 : Int32) sa ea ta) + (own_term vs (.int (0 : Int32)) (1 : Int32) sa ea ta)) + (own_term vs (.int (0 : Int32)) (2 : Int32) sa ea ta)) + (own_term vs (.int (0 : Int32)) (3 : Int32) sa ea ta)) + (own_term vs (.int (0 : Int32)) (4 : Int32) sa ea ta)) + (own_term vs (.int (0 : Int32)) (5 : Int32) sa ea ta)) + (own_term vs (.int (0 : Int32)) (6 : Int32) sa ea ta)) + (own_term vs (.int (0 : Int32)) (7 : Int32) sa ea ta))), .val (.int (((10 : Int32) * ((((((((own_term vs (.int (0 : Int32)) (0 : Int32) sa ea ta) + (own_term vs (.int (0 : Int32)) (1 : Int32) sa ea ta)) + (own_term vs (.int (0 : Int32)) (2 : Int32) sa ea ta)) + (own_term vs (.int (0 : Int32)) (3 : Int32) sa ea ta)) + (own_term vs (.int (0 : Int32)) (4 : Int32) sa ea ta)) + (own_term vs (.int (0 : Int32)) (5 : Int32) sa ea ta)) + (own_term vs (.int (0 : Int32)) (6 : Int32) sa ea ta)) + (own_term vs (.int (0 : Int32)) (7 : Int32) sa ea ta))) % (11 : Int32))), .val (.int (0 : Int32)), .unset] [(.int ta), (.int ea), (.int sa), (.ref b1)])) τ → G τ := fun τ κ => pre τ (by
      refine XS.icmpNo X27.here hx rfl (hb hby at_254) rfl (teq hc254_28).2 ?_
      show Steps p.tables e below (T27.setTop (mkF m 257 #[.val (.long q1), .second, .val (.int p2), .val (.int p3), .val (.ref b1), .val (.int ((p2 &&& (15 : Int32)) % (9 : Int32))), .val (.int ((((p2.toUInt32 >>> ((4 : Int32) &&& 31).toUInt32).toInt32) &&& (15 : Int32)) % (9 : Int32))), .val (.int sa), .val (.int ea), .val (.int ta), .val (.int ((((((((own_term vs (.int (0 : Int32)) (0 : Int32) sa ea ta) + (own_term vs (.int (0 : Int32)) (1 : Int32) sa ea ta)) + (own_term vs (.int (0 : Int32)) (2 : Int32) sa ea ta)) + (own_term vs (.int (0 : Int32)) (3 : Int32) sa ea ta)) + (own_term vs (.int (0 : Int32)) (4 : Int32) sa ea ta)) + (own_term vs (.int (0 : Int32)) (5 : Int32) sa ea ta)) + (own_term vs (.int (0 : Int32)) (6 : Int32) sa ea ta)) + (own_term vs (.int (0 : Int32)) (7 : Int32) sa ea ta))), .val (.int (((10 : Int32) * ((((((((own_term vs (.int (0 : Int32)) (0 : Int32) sa ea ta) + (own_term vs (.int (0 : Int32)) (1 : Int32) sa ea ta)) + (own_term vs (.int (0 : Int32)) (2 : Int32) sa ea ta)) + (own_term vs (.int (0 : Int32)) (3 : Int32) sa ea ta)) + (own_term vs (.int (0 : Int32)) (4 : Int32) sa ea ta)) + (own_term vs (.int (0 : Int32)) (5 : Int32) sa ea ta)) + (own_term vs (.int (0 : Int32)) (6 : Int32) sa ea ta)) + (own_term vs (.int (0 : Int32)) (7 : Int32) sa ea ta))) % (11 : Int32))), .unset, .unset] [])) τ
      refine XS.iconst X27.here hx rfl (hb hby at_257) ?_
      show Steps p.tables e below (T27.setTop (mkF m 258 #[.val (.long q1), .second, .val (.int p2), .val (.int p3), .val (.ref b1), .val (.int ((p2 &&& (15 : Int32)) % (9 : Int32))), .val (.int ((((p2.toUInt32 >>> ((4 : Int32) &&& 31).toUInt32).toInt32) &&& (15 : Int32)) % (9 : Int32))), .val (.int sa), .val (.int ea), .val (.int ta), .val (.int ((((((((own_term vs (.int (0 : Int32)) (0 : Int32) sa ea ta) + (own_term vs (.int (0 : Int32)) (1 : Int32) sa ea ta)) + (own_term vs (.int (0 : Int32)) (2 : Int32) sa ea ta)) + (own_term vs (.int (0 : Int32)) (3 : Int32) sa ea ta)) + (own_term vs (.int (0 : Int32)) (4 : Int32) sa ea ta)) + (own_term vs (.int (0 : Int32)) (5 : Int32) sa ea ta)) + (own_term vs (.int (0 : Int32)) (6 : Int32) sa ea ta)) + (own_term vs (.int (0 : Int32)) (7 : Int32) sa ea ta))), .val (.int (((10 : Int32) * ((((((((own_term vs (.int (0 : Int32)) (0 : Int32) sa ea ta) + (own_term vs (.int (0 : Int32)) (1 : Int32) sa ea ta)) + (own_term vs (.int (0 : Int32)) (2 : Int32) sa ea ta)) + (own_term vs (.int (0 : Int32)) (3 : Int32) sa ea ta)) + (own_term vs (.int (0 : Int32)) (4 : Int32) sa ea ta)) + (own_term vs (.int (0 : Int32)) (5 : Int32) sa ea ta)) + (own_term vs (.int (0 : Int32)) (6 : Int32) sa ea ta)) + (own_term vs (.int (0 : Int32)) (7 : Int32) sa ea ta))) % (11 : Int32))), .unset, .unset] [(.int (0 : Int32))])) τ
      refine XS.goto X27.here hx rfl (pc0 := 258) (pc' := 263) rfl (hb hby at_258) (by decide) (by decide) ?_
      show Steps p.tables e below (T27.setTop (mkF m 263 #[.val (.long q1), .second, .val (.int p2), .val (.int p3), .val (.ref b1), .val (.int ((p2 &&& (15 : Int32)) % (9 : Int32))), .val (.int ((((p2.toUInt32 >>> ((4 : Int32) &&& 31).toUInt32).toInt32) &&& (15 : Int32)) % (9 : Int32))), .val (.int sa), .val (.int ea), .val (.int ta), .val (.int ((((((((own_term vs (.int (0 : Int32)) (0 : Int32) sa ea ta) + (own_term vs (.int (0 : Int32)) (1 : Int32) sa ea ta)) + (own_term vs (.int (0 : Int32)) (2 : Int32) sa ea ta)) + (own_term vs (.int (0 : Int32)) (3 : Int32) sa ea ta)) + (own_term vs (.int (0 : Int32)) (4 : Int32) sa ea ta)) + (own_term vs (.int (0 : Int32)) (5 : Int32) sa ea ta)) + (own_term vs (.int (0 : Int32)) (6 : Int32) sa ea ta)) + (own_term vs (.int (0 : Int32)) (7 : Int32) sa ea ta))), .val (.int (((10 : Int32) * ((((((((own_term vs (.int (0 : Int32)) (0 : Int32) sa ea ta) + (own_term vs (.int (0 : Int32)) (1 : Int32) sa ea ta)) + (own_term vs (.int (0 : Int32)) (2 : Int32) sa ea ta)) + (own_term vs (.int (0 : Int32)) (3 : Int32) sa ea ta)) + (own_term vs (.int (0 : Int32)) (4 : Int32) sa ea ta)) + (own_term vs (.int (0 : Int32)) (5 : Int32) sa ea ta)) + (own_term vs (.int (0 : Int32)) (6 : Int32) sa ea ta)) + (own_term vs (.int (0 : Int32)) (7 : Int32) sa ea ta))) % (11 : Int32))), .unset, .unset] [(.int (0 : Int32))])) τ
      refine XS.istore X27.here hx rfl (hb hby at_263) rfl (l' := #[.val (.long q1), .second, .val (.int p2), .val (.int p3), .val (.ref b1), .val (.int ((p2 &&& (15 : Int32)) % (9 : Int32))), .val (.int ((((p2.toUInt32 >>> ((4 : Int32) &&& 31).toUInt32).toInt32) &&& (15 : Int32)) % (9 : Int32))), .val (.int sa), .val (.int ea), .val (.int ta), .val (.int ((((((((own_term vs (.int (0 : Int32)) (0 : Int32) sa ea ta) + (own_term vs (.int (0 : Int32)) (1 : Int32) sa ea ta)) + (own_term vs (.int (0 : Int32)) (2 : Int32) sa ea ta)) + (own_term vs (.int (0 : Int32)) (3 : Int32) sa ea ta)) + (own_term vs (.int (0 : Int32)) (4 : Int32) sa ea ta)) + (own_term vs (.int (0 : Int32)) (5 : Int32) sa ea ta)) + (own_term vs (.int (0 : Int32)) (6 : Int32) sa ea ta)) + (own_term vs (.int (0 : Int32)) (7 : Int32) sa ea ta))), .val (.int (((10 : Int32) * ((((((((own_term vs (.int (0 : Int32)) (0 : Int32) sa ea ta) + (own_term vs (.int (0 : Int32)) (1 : Int32) sa ea ta)) + (own_term vs (.int (0 : Int32)) (2 : Int32) sa ea ta)) + (own_term vs (.int (0 : Int32)) (3 : Int32) sa ea ta)) + (own_term vs (.int (0 : Int32)) (4 : Int32) sa ea ta)) + (own_term vs (.int (0 : Int32)) (5 : Int32) sa ea ta)) + (own_term vs (.int (0 : Int32)) (6 : Int32) sa ea ta)) + (own_term vs (.int (0 : Int32)) (7 : Int32) sa ea ta))) % (11 : Int32))), .val (.int (0 : Int32)), .unset]) rfl ?_
      show Steps p.tables e below (T27.setTop (mkF m 265 #[.val (.long q1), .second, .val (.int p2), .val (.int p3), .val (.ref b1), .val (.int ((p2 &&& (15 : Int32)) % (9 : Int32))), .val (.int ((((p2.toUInt32 >>> ((4 : Int32) &&& 31).toUInt32).toInt32) &&& (15 : Int32)) % (9 : Int32))), .val (.int sa), .val (.int ea), .val (.int ta), .val (.int ((((((((own_term vs (.int (0 : Int32)) (0 : Int32) sa ea ta) + (own_term vs (.int (0 : Int32)) (1 : Int32) sa ea ta)) + (own_term vs (.int (0 : Int32)) (2 : Int32) sa ea ta)) + (own_term vs (.int (0 : Int32)) (3 : Int32) sa ea ta)) + (own_term vs (.int (0 : Int32)) (4 : Int32) sa ea ta)) + (own_term vs (.int (0 : Int32)) (5 : Int32) sa ea ta)) + (own_term vs (.int (0 : Int32)) (6 : Int32) sa ea ta)) + (own_term vs (.int (0 : Int32)) (7 : Int32) sa ea ta))), .val (.int (((10 : Int32) * ((((((((own_term vs (.int (0 : Int32)) (0 : Int32) sa ea ta) + (own_term vs (.int (0 : Int32)) (1 : Int32) sa ea ta)) + (own_term vs (.int (0 : Int32)) (2 : Int32) sa ea ta)) + (own_term vs (.int (0 : Int32)) (3 : Int32) sa ea ta)) + (own_term vs (.int (0 : Int32)) (4 : Int32) sa ea ta)) + (own_term vs (.int (0 : Int32)) (5 : Int32) sa ea ta)) + (own_term vs (.int (0 : Int32)) (6 : Int32) sa ea ta)) + (own_term vs (.int (0 : Int32)) (7 : Int32) sa ea ta))) % (11 : Int32))), .val (.int (0 : Int32)), .unset] [])) τ
      refine XS.aload X27.here hx rfl (hb hby at_265) rfl rfl ?_
      show Steps p.tables e below (T27.setTop (mkF m 267 #[.val (.long q1), .second, .val (.int p2), .val (.int p3), .val (.ref b1), .val (.int ((p2 &&& (15 : Int32)) % (9 : Int32))), .val (.int ((((p2.toUInt32 >>> ((4 : Int32) &&& 31).toUInt32).toInt32) &&& (15 : Int32)) % (9 : Int32))), .val (.int sa), .val (.int ea), .val (.int ta), .val (.int ((((((((own_term vs (.int (0 : Int32)) (0 : Int32) sa ea ta) + (own_term vs (.int (0 : Int32)) (1 : Int32) sa ea ta)) + (own_term vs (.int (0 : Int32)) (2 : Int32) sa ea ta)) + (own_term vs (.int (0 : Int32)) (3 : Int32) sa ea ta)) + (own_term vs (.int (0 : Int32)) (4 : Int32) sa ea ta)) + (own_term vs (.int (0 : Int32)) (5 : Int32) sa ea ta)) + (own_term vs (.int (0 : Int32)) (6 : Int32) sa ea ta)) + (own_term vs (.int (0 : Int32)) (7 : Int32) sa ea ta))), .val (.int (((10 : Int32) * ((((((((own_term vs (.int (0 : Int32)) (0 : Int32) sa ea ta) + (own_term vs (.int (0 : Int32)) (1 : Int32) sa ea ta)) + (own_term vs (.int (0 : Int32)) (2 : Int32) sa ea ta)) + (own_term vs (.int (0 : Int32)) (3 : Int32) sa ea ta)) + (own_term vs (.int (0 : Int32)) (4 : Int32) sa ea ta)) + (own_term vs (.int (0 : Int32)) (5 : Int32) sa ea ta)) + (own_term vs (.int (0 : Int32)) (6 : Int32) sa ea ta)) + (own_term vs (.int (0 : Int32)) (7 : Int32) sa ea ta))) % (11 : Int32))), .val (.int (0 : Int32)), .unset] [(.ref b1)])) τ
      refine XS.iload X27.here hx rfl (hb hby at_267) rfl ?_
      show Steps p.tables e below (T27.setTop (mkF m 269 #[.val (.long q1), .second, .val (.int p2), .val (.int p3), .val (.ref b1), .val (.int ((p2 &&& (15 : Int32)) % (9 : Int32))), .val (.int ((((p2.toUInt32 >>> ((4 : Int32) &&& 31).toUInt32).toInt32) &&& (15 : Int32)) % (9 : Int32))), .val (.int sa), .val (.int ea), .val (.int ta), .val (.int ((((((((own_term vs (.int (0 : Int32)) (0 : Int32) sa ea ta) + (own_term vs (.int (0 : Int32)) (1 : Int32) sa ea ta)) + (own_term vs (.int (0 : Int32)) (2 : Int32) sa ea ta)) + (own_term vs (.int (0 : Int32)) (3 : Int32) sa ea ta)) + (own_term vs (.int (0 : Int32)) (4 : Int32) sa ea ta)) + (own_term vs (.int (0 : Int32)) (5 : Int32) sa ea ta)) + (own_term vs (.int (0 : Int32)) (6 : Int32) sa ea ta)) + (own_term vs (.int (0 : Int32)) (7 : Int32) sa ea ta))), .val (.int (((10 : Int32) * ((((((((own_term vs (.int (0 : Int32)) (0 : Int32) sa ea ta) + (own_term vs (.int (0 : Int32)) (1 : Int32) sa ea ta)) + (own_term vs (.int (0 : Int32)) (2 : Int32) sa ea ta)) + (own_term vs (.int (0 : Int32)) (3 : Int32) sa ea ta)) + (own_term vs (.int (0 : Int32)) (4 : Int32) sa ea ta)) + (own_term vs (.int (0 : Int32)) (5 : Int32) sa ea ta)) + (own_term vs (.int (0 : Int32)) (6 : Int32) sa ea ta)) + (own_term vs (.int (0 : Int32)) (7 : Int32) sa ea ta))) % (11 : Int32))), .val (.int (0 : Int32)), .unset] [(.int sa), (.ref b1)])) τ
      refine XS.iload X27.here hx rfl (hb hby at_269) rfl ?_
      show Steps p.tables e below (T27.setTop (mkF m 271 #[.val (.long q1), .second, .val (.int p2), .val (.int p3), .val (.ref b1), .val (.int ((p2 &&& (15 : Int32)) % (9 : Int32))), .val (.int ((((p2.toUInt32 >>> ((4 : Int32) &&& 31).toUInt32).toInt32) &&& (15 : Int32)) % (9 : Int32))), .val (.int sa), .val (.int ea), .val (.int ta), .val (.int ((((((((own_term vs (.int (0 : Int32)) (0 : Int32) sa ea ta) + (own_term vs (.int (0 : Int32)) (1 : Int32) sa ea ta)) + (own_term vs (.int (0 : Int32)) (2 : Int32) sa ea ta)) + (own_term vs (.int (0 : Int32)) (3 : Int32) sa ea ta)) + (own_term vs (.int (0 : Int32)) (4 : Int32) sa ea ta)) + (own_term vs (.int (0 : Int32)) (5 : Int32) sa ea ta)) + (own_term vs (.int (0 : Int32)) (6 : Int32) sa ea ta)) + (own_term vs (.int (0 : Int32)) (7 : Int32) sa ea ta))), .val (.int (((10 : Int32) * ((((((((own_term vs (.int (0 : Int32)) (0 : Int32) sa ea ta) + (own_term vs (.int (0 : Int32)) (1 : Int32) sa ea ta)) + (own_term vs (.int (0 : Int32)) (2 : Int32) sa ea ta)) + (own_term vs (.int (0 : Int32)) (3 : Int32) sa ea ta)) + (own_term vs (.int (0 : Int32)) (4 : Int32) sa ea ta)) + (own_term vs (.int (0 : Int32)) (5 : Int32) sa ea ta)) + (own_term vs (.int (0 : Int32)) (6 : Int32) sa ea ta)) + (own_term vs (.int (0 : Int32)) (7 : Int32) sa ea ta))) % (11 : Int32))), .val (.int (0 : Int32)), .unset] [(.int ea), (.int sa), (.ref b1)])) τ
      refine XS.iload X27.here hx rfl (hb hby at_271) rfl ?_
      show Steps p.tables e below (T27.setTop (mkF m 273 #[.val (.long q1), .second, .val (.int p2), .val (.int p3), .val (.ref b1), .val (.int ((p2 &&& (15 : Int32)) % (9 : Int32))), .val (.int ((((p2.toUInt32 >>> ((4 : Int32) &&& 31).toUInt32).toInt32) &&& (15 : Int32)) % (9 : Int32))), .val (.int sa), .val (.int ea), .val (.int ta), .val (.int ((((((((own_term vs (.int (0 : Int32)) (0 : Int32) sa ea ta) + (own_term vs (.int (0 : Int32)) (1 : Int32) sa ea ta)) + (own_term vs (.int (0 : Int32)) (2 : Int32) sa ea ta)) + (own_term vs (.int (0 : Int32)) (3 : Int32) sa ea ta)) + (own_term vs (.int (0 : Int32)) (4 : Int32) sa ea ta)) + (own_term vs (.int (0 : Int32)) (5 : Int32) sa ea ta)) + (own_term vs (.int (0 : Int32)) (6 : Int32) sa ea ta)) + (own_term vs (.int (0 : Int32)) (7 : Int32) sa ea ta))), .val (.int (((10 : Int32) * ((((((((own_term vs (.int (0 : Int32)) (0 : Int32) sa ea ta) + (own_term vs (.int (0 : Int32)) (1 : Int32) sa ea ta)) + (own_term vs (.int (0 : Int32)) (2 : Int32) sa ea ta)) + (own_term vs (.int (0 : Int32)) (3 : Int32) sa ea ta)) + (own_term vs (.int (0 : Int32)) (4 : Int32) sa ea ta)) + (own_term vs (.int (0 : Int32)) (5 : Int32) sa ea ta)) + (own_term vs (.int (0 : Int32)) (6 : Int32) sa ea ta)) + (own_term vs (.int (0 : Int32)) (7 : Int32) sa ea ta))) % (11 : Int32))), .val (.int (0 : Int32)), .unset] [(.int ta), (.int ea), (.int sa), (.ref b1)])) τ
      exact κ)
    obtain ⟨_, _, ⟨T29, Lx29, kx29, nx29⟩, -, X29, ⟨Lc29, hQ29, l29, y29, z29⟩, st29⟩ := Jvm.LawKit.callS X27 hx (y := (⟨"com/example/campo_livre/campolivre/CheckDigits", "modulo11", "([BIII)I"⟩ : MethodName)) hown (mvT hZ (hw _ (List.mem_of_getElem? (i := 16) rfl))) (mvT hZ (hw _ (List.mem_of_getElem? (i := 17) rfl))) (mvT hZ (hw _ (List.mem_of_getElem? (i := 18) rfl))) (mvT hZ (hw _ (List.mem_of_getElem? (i := 19) rfl))) (by decide) (backOf (W := 0) (rm5 l Z a0 hw [] b1 sa ea ta k1 (8 : Int32) vs (.int (0 : Int32)) h17 n0 Zn V_b1 hse.1 hse.2.1 hse.2.2) hZ (hw _ (List.mem_of_getElem? (i := 19) rfl)) (hw _ (List.mem_of_getElem? (i := 18) rfl)) (by decide) (by decide)) (g := (mkF m 273 #[.val (.long q1), .second, .val (.int p2), .val (.int p3), .val (.ref b1), .val (.int ((p2 &&& (15 : Int32)) % (9 : Int32))), .val (.int ((((p2.toUInt32 >>> ((4 : Int32) &&& 31).toUInt32).toInt32) &&& (15 : Int32)) % (9 : Int32))), .val (.int sa), .val (.int ea), .val (.int ta), .val (.int ((((((((own_term vs (.int (0 : Int32)) (0 : Int32) sa ea ta) + (own_term vs (.int (0 : Int32)) (1 : Int32) sa ea ta)) + (own_term vs (.int (0 : Int32)) (2 : Int32) sa ea ta)) + (own_term vs (.int (0 : Int32)) (3 : Int32) sa ea ta)) + (own_term vs (.int (0 : Int32)) (4 : Int32) sa ea ta)) + (own_term vs (.int (0 : Int32)) (5 : Int32) sa ea ta)) + (own_term vs (.int (0 : Int32)) (6 : Int32) sa ea ta)) + (own_term vs (.int (0 : Int32)) (7 : Int32) sa ea ta))), .val (.int (((10 : Int32) * ((((((((own_term vs (.int (0 : Int32)) (0 : Int32) sa ea ta) + (own_term vs (.int (0 : Int32)) (1 : Int32) sa ea ta)) + (own_term vs (.int (0 : Int32)) (2 : Int32) sa ea ta)) + (own_term vs (.int (0 : Int32)) (3 : Int32) sa ea ta)) + (own_term vs (.int (0 : Int32)) (4 : Int32) sa ea ta)) + (own_term vs (.int (0 : Int32)) (5 : Int32) sa ea ta)) + (own_term vs (.int (0 : Int32)) (6 : Int32) sa ea ta)) + (own_term vs (.int (0 : Int32)) (7 : Int32) sa ea ta))) % (11 : Int32))), .val (.int (0 : Int32)), .unset] [(.int ta), (.int ea), (.int sa), (.ref b1)])) rfl (by rw [hml]; rfl) (argsL := [(.ref b1), (.int sa), (.int ea), (.int ta)]) (rest := []) (lenOf pd_3 rfl) rfl (by show 2 * 0 + _ ≤ _; exact Nat.le_of_eq rfl) (hb hby at_273) (fun _ _ => ⟨rfl, hs27, (by decide : 1 + 0 ≤ _), (by decide : 8 + 0 ≤ _)⟩)
    dsimp only [Pt.U, Pt.locs, Pt.cells, Pt.slots] at X29 l29 y29 z29 st29 hQ29
    replace y29 : kx29 = 1 := y29
    replace z29 : nx29 = 8 := z29
    subst y29 z29
    obtain ⟨rfl, Nq29, hs29⟩ := hQ29
    have NN : Fr n0 Lx29 := by rw [l29]; exact Fr.app NN Nq29
    have pre : ∀ τ, Steps p.tables e below (T29.setTop (mkF m 276 #[.val (.long q1), .second, .val (.int p2), .val (.int p3), .val (.ref b1), .val (.int ((p2 &&& (15 : Int32)) % (9 : Int32))), .val (.int ((((p2.toUInt32 >>> ((4 : Int32) &&& 31).toUInt32).toInt32) &&& (15 : Int32)) % (9 : Int32))), .val (.int sa), .val (.int ea), .val (.int ta), .val (.int ((((((((own_term vs (.int (0 : Int32)) (0 : Int32) sa ea ta) + (own_term vs (.int (0 : Int32)) (1 : Int32) sa ea ta)) + (own_term vs (.int (0 : Int32)) (2 : Int32) sa ea ta)) + (own_term vs (.int (0 : Int32)) (3 : Int32) sa ea ta)) + (own_term vs (.int (0 : Int32)) (4 : Int32) sa ea ta)) + (own_term vs (.int (0 : Int32)) (5 : Int32) sa ea ta)) + (own_term vs (.int (0 : Int32)) (6 : Int32) sa ea ta)) + (own_term vs (.int (0 : Int32)) (7 : Int32) sa ea ta))), .val (.int (((10 : Int32) * ((((((((own_term vs (.int (0 : Int32)) (0 : Int32) sa ea ta) + (own_term vs (.int (0 : Int32)) (1 : Int32) sa ea ta)) + (own_term vs (.int (0 : Int32)) (2 : Int32) sa ea ta)) + (own_term vs (.int (0 : Int32)) (3 : Int32) sa ea ta)) + (own_term vs (.int (0 : Int32)) (4 : Int32) sa ea ta)) + (own_term vs (.int (0 : Int32)) (5 : Int32) sa ea ta)) + (own_term vs (.int (0 : Int32)) (6 : Int32) sa ea ta)) + (own_term vs (.int (0 : Int32)) (7 : Int32) sa ea ta))) % (11 : Int32))), .val (.int (0 : Int32)), .unset] [(.int (own_m11 vs (.int (0 : Int32)) ta sa ea))])) τ → G τ := fun τ κ => pre τ (st29 τ κ)
    have pre : ∀ τ, Steps p.tables e below (T29.setTop (mkF m 282 #[.val (.long q1), .second, .val (.int p2), .val (.int p3), .val (.ref b1), .val (.int ((p2 &&& (15 : Int32)) % (9 : Int32))), .val (.int ((((p2.toUInt32 >>> ((4 : Int32) &&& 31).toUInt32).toInt32) &&& (15 : Int32)) % (9 : Int32))), .val (.int sa), .val (.int ea), .val (.int ta), .val (.int ((((((((own_term vs (.int (0 : Int32)) (0 : Int32) sa ea ta) + (own_term vs (.int (0 : Int32)) (1 : Int32) sa ea ta)) + (own_term vs (.int (0 : Int32)) (2 : Int32) sa ea ta)) + (own_term vs (.int (0 : Int32)) (3 : Int32) sa ea ta)) + (own_term vs (.int (0 : Int32)) (4 : Int32) sa ea ta)) + (own_term vs (.int (0 : Int32)) (5 : Int32) sa ea ta)) + (own_term vs (.int (0 : Int32)) (6 : Int32) sa ea ta)) + (own_term vs (.int (0 : Int32)) (7 : Int32) sa ea ta))), .val (.int (((10 : Int32) * ((((((((own_term vs (.int (0 : Int32)) (0 : Int32) sa ea ta) + (own_term vs (.int (0 : Int32)) (1 : Int32) sa ea ta)) + (own_term vs (.int (0 : Int32)) (2 : Int32) sa ea ta)) + (own_term vs (.int (0 : Int32)) (3 : Int32) sa ea ta)) + (own_term vs (.int (0 : Int32)) (4 : Int32) sa ea ta)) + (own_term vs (.int (0 : Int32)) (5 : Int32) sa ea ta)) + (own_term vs (.int (0 : Int32)) (6 : Int32) sa ea ta)) + (own_term vs (.int (0 : Int32)) (7 : Int32) sa ea ta))) % (11 : Int32))), .val (.int (0 : Int32)), .val (.int (own_m11 vs (.int (0 : Int32)) ta sa ea))] [(.int (0 : Int32)), (.int (own_m11 vs (.int (0 : Int32)) ta sa ea))])) τ → G τ := fun τ κ => pre τ (by
      refine XS.istore X29.here hx rfl (hb hby at_276) rfl (l' := #[.val (.long q1), .second, .val (.int p2), .val (.int p3), .val (.ref b1), .val (.int ((p2 &&& (15 : Int32)) % (9 : Int32))), .val (.int ((((p2.toUInt32 >>> ((4 : Int32) &&& 31).toUInt32).toInt32) &&& (15 : Int32)) % (9 : Int32))), .val (.int sa), .val (.int ea), .val (.int ta), .val (.int ((((((((own_term vs (.int (0 : Int32)) (0 : Int32) sa ea ta) + (own_term vs (.int (0 : Int32)) (1 : Int32) sa ea ta)) + (own_term vs (.int (0 : Int32)) (2 : Int32) sa ea ta)) + (own_term vs (.int (0 : Int32)) (3 : Int32) sa ea ta)) + (own_term vs (.int (0 : Int32)) (4 : Int32) sa ea ta)) + (own_term vs (.int (0 : Int32)) (5 : Int32) sa ea ta)) + (own_term vs (.int (0 : Int32)) (6 : Int32) sa ea ta)) + (own_term vs (.int (0 : Int32)) (7 : Int32) sa ea ta))), .val (.int (((10 : Int32) * ((((((((own_term vs (.int (0 : Int32)) (0 : Int32) sa ea ta) + (own_term vs (.int (0 : Int32)) (1 : Int32) sa ea ta)) + (own_term vs (.int (0 : Int32)) (2 : Int32) sa ea ta)) + (own_term vs (.int (0 : Int32)) (3 : Int32) sa ea ta)) + (own_term vs (.int (0 : Int32)) (4 : Int32) sa ea ta)) + (own_term vs (.int (0 : Int32)) (5 : Int32) sa ea ta)) + (own_term vs (.int (0 : Int32)) (6 : Int32) sa ea ta)) + (own_term vs (.int (0 : Int32)) (7 : Int32) sa ea ta))) % (11 : Int32))), .val (.int (0 : Int32)), .val (.int (own_m11 vs (.int (0 : Int32)) ta sa ea))]) rfl ?_
      show Steps p.tables e below (T29.setTop (mkF m 278 #[.val (.long q1), .second, .val (.int p2), .val (.int p3), .val (.ref b1), .val (.int ((p2 &&& (15 : Int32)) % (9 : Int32))), .val (.int ((((p2.toUInt32 >>> ((4 : Int32) &&& 31).toUInt32).toInt32) &&& (15 : Int32)) % (9 : Int32))), .val (.int sa), .val (.int ea), .val (.int ta), .val (.int ((((((((own_term vs (.int (0 : Int32)) (0 : Int32) sa ea ta) + (own_term vs (.int (0 : Int32)) (1 : Int32) sa ea ta)) + (own_term vs (.int (0 : Int32)) (2 : Int32) sa ea ta)) + (own_term vs (.int (0 : Int32)) (3 : Int32) sa ea ta)) + (own_term vs (.int (0 : Int32)) (4 : Int32) sa ea ta)) + (own_term vs (.int (0 : Int32)) (5 : Int32) sa ea ta)) + (own_term vs (.int (0 : Int32)) (6 : Int32) sa ea ta)) + (own_term vs (.int (0 : Int32)) (7 : Int32) sa ea ta))), .val (.int (((10 : Int32) * ((((((((own_term vs (.int (0 : Int32)) (0 : Int32) sa ea ta) + (own_term vs (.int (0 : Int32)) (1 : Int32) sa ea ta)) + (own_term vs (.int (0 : Int32)) (2 : Int32) sa ea ta)) + (own_term vs (.int (0 : Int32)) (3 : Int32) sa ea ta)) + (own_term vs (.int (0 : Int32)) (4 : Int32) sa ea ta)) + (own_term vs (.int (0 : Int32)) (5 : Int32) sa ea ta)) + (own_term vs (.int (0 : Int32)) (6 : Int32) sa ea ta)) + (own_term vs (.int (0 : Int32)) (7 : Int32) sa ea ta))) % (11 : Int32))), .val (.int (0 : Int32)), .val (.int (own_m11 vs (.int (0 : Int32)) ta sa ea))] [])) τ
      refine XS.iload X29.here hx rfl (hb hby at_278) rfl ?_
      show Steps p.tables e below (T29.setTop (mkF m 280 #[.val (.long q1), .second, .val (.int p2), .val (.int p3), .val (.ref b1), .val (.int ((p2 &&& (15 : Int32)) % (9 : Int32))), .val (.int ((((p2.toUInt32 >>> ((4 : Int32) &&& 31).toUInt32).toInt32) &&& (15 : Int32)) % (9 : Int32))), .val (.int sa), .val (.int ea), .val (.int ta), .val (.int ((((((((own_term vs (.int (0 : Int32)) (0 : Int32) sa ea ta) + (own_term vs (.int (0 : Int32)) (1 : Int32) sa ea ta)) + (own_term vs (.int (0 : Int32)) (2 : Int32) sa ea ta)) + (own_term vs (.int (0 : Int32)) (3 : Int32) sa ea ta)) + (own_term vs (.int (0 : Int32)) (4 : Int32) sa ea ta)) + (own_term vs (.int (0 : Int32)) (5 : Int32) sa ea ta)) + (own_term vs (.int (0 : Int32)) (6 : Int32) sa ea ta)) + (own_term vs (.int (0 : Int32)) (7 : Int32) sa ea ta))), .val (.int (((10 : Int32) * ((((((((own_term vs (.int (0 : Int32)) (0 : Int32) sa ea ta) + (own_term vs (.int (0 : Int32)) (1 : Int32) sa ea ta)) + (own_term vs (.int (0 : Int32)) (2 : Int32) sa ea ta)) + (own_term vs (.int (0 : Int32)) (3 : Int32) sa ea ta)) + (own_term vs (.int (0 : Int32)) (4 : Int32) sa ea ta)) + (own_term vs (.int (0 : Int32)) (5 : Int32) sa ea ta)) + (own_term vs (.int (0 : Int32)) (6 : Int32) sa ea ta)) + (own_term vs (.int (0 : Int32)) (7 : Int32) sa ea ta))) % (11 : Int32))), .val (.int (0 : Int32)), .val (.int (own_m11 vs (.int (0 : Int32)) ta sa ea))] [(.int (own_m11 vs (.int (0 : Int32)) ta sa ea))])) τ
      refine XS.iload X29.here hx rfl (hb hby at_280) rfl ?_
      show Steps p.tables e below (T29.setTop (mkF m 282 #[.val (.long q1), .second, .val (.int p2), .val (.int p3), .val (.ref b1), .val (.int ((p2 &&& (15 : Int32)) % (9 : Int32))), .val (.int ((((p2.toUInt32 >>> ((4 : Int32) &&& 31).toUInt32).toInt32) &&& (15 : Int32)) % (9 : Int32))), .val (.int sa), .val (.int ea), .val (.int ta), .val (.int ((((((((own_term vs (.int (0 : Int32)) (0 : Int32) sa ea ta) + (own_term vs (.int (0 : Int32)) (1 : Int32) sa ea ta)) + (own_term vs (.int (0 : Int32)) (2 : Int32) sa ea ta)) + (own_term vs (.int (0 : Int32)) (3 : Int32) sa ea ta)) + (own_term vs (.int (0 : Int32)) (4 : Int32) sa ea ta)) + (own_term vs (.int (0 : Int32)) (5 : Int32) sa ea ta)) + (own_term vs (.int (0 : Int32)) (6 : Int32) sa ea ta)) + (own_term vs (.int (0 : Int32)) (7 : Int32) sa ea ta))), .val (.int (((10 : Int32) * ((((((((own_term vs (.int (0 : Int32)) (0 : Int32) sa ea ta) + (own_term vs (.int (0 : Int32)) (1 : Int32) sa ea ta)) + (own_term vs (.int (0 : Int32)) (2 : Int32) sa ea ta)) + (own_term vs (.int (0 : Int32)) (3 : Int32) sa ea ta)) + (own_term vs (.int (0 : Int32)) (4 : Int32) sa ea ta)) + (own_term vs (.int (0 : Int32)) (5 : Int32) sa ea ta)) + (own_term vs (.int (0 : Int32)) (6 : Int32) sa ea ta)) + (own_term vs (.int (0 : Int32)) (7 : Int32) sa ea ta))) % (11 : Int32))), .val (.int (0 : Int32)), .val (.int (own_m11 vs (.int (0 : Int32)) ta sa ea))] [(.int (0 : Int32)), (.int (own_m11 vs (.int (0 : Int32)) ta sa ea))])) τ
      exact κ)
    have hc30 : (own_m11 vs (.int (0 : Int32)) ta sa ea) = (0 : Int32) := own_law_t _ _ _ _ hvs hse hta hc254_28
    have pre : ∀ τ, Steps p.tables e below (T29.setTop (mkF m 290 #[.val (.long q1), .second, .val (.int p2), .val (.int p3), .val (.ref b1), .val (.int ((p2 &&& (15 : Int32)) % (9 : Int32))), .val (.int ((((p2.toUInt32 >>> ((4 : Int32) &&& 31).toUInt32).toInt32) &&& (15 : Int32)) % (9 : Int32))), .val (.int sa), .val (.int ea), .val (.int ta), .val (.int ((((((((own_term vs (.int (0 : Int32)) (0 : Int32) sa ea ta) + (own_term vs (.int (0 : Int32)) (1 : Int32) sa ea ta)) + (own_term vs (.int (0 : Int32)) (2 : Int32) sa ea ta)) + (own_term vs (.int (0 : Int32)) (3 : Int32) sa ea ta)) + (own_term vs (.int (0 : Int32)) (4 : Int32) sa ea ta)) + (own_term vs (.int (0 : Int32)) (5 : Int32) sa ea ta)) + (own_term vs (.int (0 : Int32)) (6 : Int32) sa ea ta)) + (own_term vs (.int (0 : Int32)) (7 : Int32) sa ea ta))), .val (.int (((10 : Int32) * ((((((((own_term vs (.int (0 : Int32)) (0 : Int32) sa ea ta) + (own_term vs (.int (0 : Int32)) (1 : Int32) sa ea ta)) + (own_term vs (.int (0 : Int32)) (2 : Int32) sa ea ta)) + (own_term vs (.int (0 : Int32)) (3 : Int32) sa ea ta)) + (own_term vs (.int (0 : Int32)) (4 : Int32) sa ea ta)) + (own_term vs (.int (0 : Int32)) (5 : Int32) sa ea ta)) + (own_term vs (.int (0 : Int32)) (6 : Int32) sa ea ta)) + (own_term vs (.int (0 : Int32)) (7 : Int32) sa ea ta))) % (11 : Int32))), .val (.int (0 : Int32)), .val (.int (own_m11 vs (.int (0 : Int32)) ta sa ea))] [(.int (1 : Int32))])) τ → G τ := fun τ κ => pre τ (by
      refine XS.icmpNo X29.here hx rfl (hb hby at_282) rfl (teq hc30).2 ?_
      show Steps p.tables e below (T29.setTop (mkF m 285 #[.val (.long q1), .second, .val (.int p2), .val (.int p3), .val (.ref b1), .val (.int ((p2 &&& (15 : Int32)) % (9 : Int32))), .val (.int ((((p2.toUInt32 >>> ((4 : Int32) &&& 31).toUInt32).toInt32) &&& (15 : Int32)) % (9 : Int32))), .val (.int sa), .val (.int ea), .val (.int ta), .val (.int ((((((((own_term vs (.int (0 : Int32)) (0 : Int32) sa ea ta) + (own_term vs (.int (0 : Int32)) (1 : Int32) sa ea ta)) + (own_term vs (.int (0 : Int32)) (2 : Int32) sa ea ta)) + (own_term vs (.int (0 : Int32)) (3 : Int32) sa ea ta)) + (own_term vs (.int (0 : Int32)) (4 : Int32) sa ea ta)) + (own_term vs (.int (0 : Int32)) (5 : Int32) sa ea ta)) + (own_term vs (.int (0 : Int32)) (6 : Int32) sa ea ta)) + (own_term vs (.int (0 : Int32)) (7 : Int32) sa ea ta))), .val (.int (((10 : Int32) * ((((((((own_term vs (.int (0 : Int32)) (0 : Int32) sa ea ta) + (own_term vs (.int (0 : Int32)) (1 : Int32) sa ea ta)) + (own_term vs (.int (0 : Int32)) (2 : Int32) sa ea ta)) + (own_term vs (.int (0 : Int32)) (3 : Int32) sa ea ta)) + (own_term vs (.int (0 : Int32)) (4 : Int32) sa ea ta)) + (own_term vs (.int (0 : Int32)) (5 : Int32) sa ea ta)) + (own_term vs (.int (0 : Int32)) (6 : Int32) sa ea ta)) + (own_term vs (.int (0 : Int32)) (7 : Int32) sa ea ta))) % (11 : Int32))), .val (.int (0 : Int32)), .val (.int (own_m11 vs (.int (0 : Int32)) ta sa ea))] [])) τ
      refine XS.iconst X29.here hx rfl (hb hby at_285) ?_
      show Steps p.tables e below (T29.setTop (mkF m 286 #[.val (.long q1), .second, .val (.int p2), .val (.int p3), .val (.ref b1), .val (.int ((p2 &&& (15 : Int32)) % (9 : Int32))), .val (.int ((((p2.toUInt32 >>> ((4 : Int32) &&& 31).toUInt32).toInt32) &&& (15 : Int32)) % (9 : Int32))), .val (.int sa), .val (.int ea), .val (.int ta), .val (.int ((((((((own_term vs (.int (0 : Int32)) (0 : Int32) sa ea ta) + (own_term vs (.int (0 : Int32)) (1 : Int32) sa ea ta)) + (own_term vs (.int (0 : Int32)) (2 : Int32) sa ea ta)) + (own_term vs (.int (0 : Int32)) (3 : Int32) sa ea ta)) + (own_term vs (.int (0 : Int32)) (4 : Int32) sa ea ta)) + (own_term vs (.int (0 : Int32)) (5 : Int32) sa ea ta)) + (own_term vs (.int (0 : Int32)) (6 : Int32) sa ea ta)) + (own_term vs (.int (0 : Int32)) (7 : Int32) sa ea ta))), .val (.int (((10 : Int32) * ((((((((own_term vs (.int (0 : Int32)) (0 : Int32) sa ea ta) + (own_term vs (.int (0 : Int32)) (1 : Int32) sa ea ta)) + (own_term vs (.int (0 : Int32)) (2 : Int32) sa ea ta)) + (own_term vs (.int (0 : Int32)) (3 : Int32) sa ea ta)) + (own_term vs (.int (0 : Int32)) (4 : Int32) sa ea ta)) + (own_term vs (.int (0 : Int32)) (5 : Int32) sa ea ta)) + (own_term vs (.int (0 : Int32)) (6 : Int32) sa ea ta)) + (own_term vs (.int (0 : Int32)) (7 : Int32) sa ea ta))) % (11 : Int32))), .val (.int (0 : Int32)), .val (.int (own_m11 vs (.int (0 : Int32)) ta sa ea))] [(.int (1 : Int32))])) τ
      refine XS.goto X29.here hx rfl (pc0 := 286) (pc' := 290) rfl (hb hby at_286) (by decide) (by decide) ?_
      show Steps p.tables e below (T29.setTop (mkF m 290 #[.val (.long q1), .second, .val (.int p2), .val (.int p3), .val (.ref b1), .val (.int ((p2 &&& (15 : Int32)) % (9 : Int32))), .val (.int ((((p2.toUInt32 >>> ((4 : Int32) &&& 31).toUInt32).toInt32) &&& (15 : Int32)) % (9 : Int32))), .val (.int sa), .val (.int ea), .val (.int ta), .val (.int ((((((((own_term vs (.int (0 : Int32)) (0 : Int32) sa ea ta) + (own_term vs (.int (0 : Int32)) (1 : Int32) sa ea ta)) + (own_term vs (.int (0 : Int32)) (2 : Int32) sa ea ta)) + (own_term vs (.int (0 : Int32)) (3 : Int32) sa ea ta)) + (own_term vs (.int (0 : Int32)) (4 : Int32) sa ea ta)) + (own_term vs (.int (0 : Int32)) (5 : Int32) sa ea ta)) + (own_term vs (.int (0 : Int32)) (6 : Int32) sa ea ta)) + (own_term vs (.int (0 : Int32)) (7 : Int32) sa ea ta))), .val (.int (((10 : Int32) * ((((((((own_term vs (.int (0 : Int32)) (0 : Int32) sa ea ta) + (own_term vs (.int (0 : Int32)) (1 : Int32) sa ea ta)) + (own_term vs (.int (0 : Int32)) (2 : Int32) sa ea ta)) + (own_term vs (.int (0 : Int32)) (3 : Int32) sa ea ta)) + (own_term vs (.int (0 : Int32)) (4 : Int32) sa ea ta)) + (own_term vs (.int (0 : Int32)) (5 : Int32) sa ea ta)) + (own_term vs (.int (0 : Int32)) (6 : Int32) sa ea ta)) + (own_term vs (.int (0 : Int32)) (7 : Int32) sa ea ta))) % (11 : Int32))), .val (.int (0 : Int32)), .val (.int (own_m11 vs (.int (0 : Int32)) ta sa ea))] [(.int (1 : Int32))])) τ
      exact κ)
    obtain ⟨fsα, hr, hrun, hended, hW, hsame⟩ := X29.leave (v := some (.int (1 : Int32))) (fun h => by rw [Bd.returns] at h; cases h)
    refine hGL ⟨_, _, hG _ (pre _ ?_), hrun, hended, _, _, rfl, ?_, ⟨_, rfl⟩, hW, hsame.mono (by decide) (by decide)⟩
    · exact retN X29 hx (t := .boolean) Bd.returns (by simp) (hb hby at_290) hr
    · show Q0 Z q1 p2 p3 h0 n0 _ T29.heap _
      rw [hs29]
      exact ⟨rfl, NN⟩
  ·
    have pre : ∀ τ, Steps p.tables e below (T27.setTop (mkF m 273 #[.val (.long q1), .second, .val (.int p2), .val (.int p3), .val (.ref b1), .val (.int ((p2 &&& (15 : Int32)) % (9 : Int32))), .val (.int ((((p2.toUInt32 >>> ((4 : Int32) &&& 31).toUInt32).toInt32) &&& (15 : Int32)) % (9 : Int32))), .val (.int sa), .val (.int ea), .val (.int ta), .val (.int ((((((((own_term vs (.int (0 : Int32)) (0 : Int32) sa ea ta) + (own_term vs (.int (0 : Int32)) (1 : Int32) sa ea ta)) + (own_term vs (.int (0 : Int32)) (2 : Int32) sa ea ta)) + (own_term vs (.int (0 : Int32)) (3 : Int32) sa ea ta)) + (own_term vs (.int (0 : Int32)) (4 : Int32) sa ea ta)) + (own_term vs (.int (0 : Int32)) (5 : Int32) sa ea ta)) + (own_term vs (.int (0 : Int32)) (6 : Int32) sa ea ta)) + (own_term vs (.int (0 : Int32)) (7 : Int32) sa ea ta))), .val (.int (((10 : Int32) * ((((((((own_term vs (.int (0 : Int32)) (0 : Int32) sa ea ta) + (own_term vs (.int (0 : Int32)) (1 : Int32) sa ea ta)) + (own_term vs (.int (0 : Int32)) (2 : Int32) sa ea ta)) + (own_term vs (.int (0 : Int32)) (3 : Int32) sa ea ta)) + (own_term vs (.int (0 : Int32)) (4 : Int32) sa ea ta)) + (own_term vs (.int (0 : Int32)) (5 : Int32) sa ea ta)) + (own_term vs (.int (0 : Int32)) (6 : Int32) sa ea ta)) + (own_term vs (.int (0 : Int32)) (7 : Int32) sa ea ta))) % (11 : Int32))), .val (.int (((10 : Int32) * ((((((((own_term vs (.int (0 : Int32)) (0 : Int32) sa ea ta) + (own_term vs (.int (0 : Int32)) (1 : Int32) sa ea ta)) + (own_term vs (.int (0 : Int32)) (2 : Int32) sa ea ta)) + (own_term vs (.int (0 : Int32)) (3 : Int32) sa ea ta)) + (own_term vs (.int (0 : Int32)) (4 : Int32) sa ea ta)) + (own_term vs (.int (0 : Int32)) (5 : Int32) sa ea ta)) + (own_term vs (.int (0 : Int32)) (6 : Int32) sa ea ta)) + (own_term vs (.int (0 : Int32)) (7 : Int32) sa ea ta))) % (11 : Int32))), .unset] [(.int ta), (.int ea), (.int sa), (.ref b1)])) τ → G τ := fun τ κ => pre τ (by
      refine XS.icmpYes X27.here hx rfl (pc0 := 254) (pc' := 261) rfl (hb hby at_254) rfl (feq hc254_28).2 (by decide) (by decide) ?_
      show Steps p.tables e below (T27.setTop (mkF m 261 #[.val (.long q1), .second, .val (.int p2), .val (.int p3), .val (.ref b1), .val (.int ((p2 &&& (15 : Int32)) % (9 : Int32))), .val (.int ((((p2.toUInt32 >>> ((4 : Int32) &&& 31).toUInt32).toInt32) &&& (15 : Int32)) % (9 : Int32))), .val (.int sa), .val (.int ea), .val (.int ta), .val (.int ((((((((own_term vs (.int (0 : Int32)) (0 : Int32) sa ea ta) + (own_term vs (.int (0 : Int32)) (1 : Int32) sa ea ta)) + (own_term vs (.int (0 : Int32)) (2 : Int32) sa ea ta)) + (own_term vs (.int (0 : Int32)) (3 : Int32) sa ea ta)) + (own_term vs (.int (0 : Int32)) (4 : Int32) sa ea ta)) + (own_term vs (.int (0 : Int32)) (5 : Int32) sa ea ta)) + (own_term vs (.int (0 : Int32)) (6 : Int32) sa ea ta)) + (own_term vs (.int (0 : Int32)) (7 : Int32) sa ea ta))), .val (.int (((10 : Int32) * ((((((((own_term vs (.int (0 : Int32)) (0 : Int32) sa ea ta) + (own_term vs (.int (0 : Int32)) (1 : Int32) sa ea ta)) + (own_term vs (.int (0 : Int32)) (2 : Int32) sa ea ta)) + (own_term vs (.int (0 : Int32)) (3 : Int32) sa ea ta)) + (own_term vs (.int (0 : Int32)) (4 : Int32) sa ea ta)) + (own_term vs (.int (0 : Int32)) (5 : Int32) sa ea ta)) + (own_term vs (.int (0 : Int32)) (6 : Int32) sa ea ta)) + (own_term vs (.int (0 : Int32)) (7 : Int32) sa ea ta))) % (11 : Int32))), .unset, .unset] [])) τ
      refine XS.iload X27.here hx rfl (hb hby at_261) rfl ?_
      show Steps p.tables e below (T27.setTop (mkF m 263 #[.val (.long q1), .second, .val (.int p2), .val (.int p3), .val (.ref b1), .val (.int ((p2 &&& (15 : Int32)) % (9 : Int32))), .val (.int ((((p2.toUInt32 >>> ((4 : Int32) &&& 31).toUInt32).toInt32) &&& (15 : Int32)) % (9 : Int32))), .val (.int sa), .val (.int ea), .val (.int ta), .val (.int ((((((((own_term vs (.int (0 : Int32)) (0 : Int32) sa ea ta) + (own_term vs (.int (0 : Int32)) (1 : Int32) sa ea ta)) + (own_term vs (.int (0 : Int32)) (2 : Int32) sa ea ta)) + (own_term vs (.int (0 : Int32)) (3 : Int32) sa ea ta)) + (own_term vs (.int (0 : Int32)) (4 : Int32) sa ea ta)) + (own_term vs (.int (0 : Int32)) (5 : Int32) sa ea ta)) + (own_term vs (.int (0 : Int32)) (6 : Int32) sa ea ta)) + (own_term vs (.int (0 : Int32)) (7 : Int32) sa ea ta))), .val (.int (((10 : Int32) * ((((((((own_term vs (.int (0 : Int32)) (0 : Int32) sa ea ta) + (own_term vs (.int (0 : Int32)) (1 : Int32) sa ea ta)) + (own_term vs (.int (0 : Int32)) (2 : Int32) sa ea ta)) + (own_term vs (.int (0 : Int32)) (3 : Int32) sa ea ta)) + (own_term vs (.int (0 : Int32)) (4 : Int32) sa ea ta)) + (own_term vs (.int (0 : Int32)) (5 : Int32) sa ea ta)) + (own_term vs (.int (0 : Int32)) (6 : Int32) sa ea ta)) + (own_term vs (.int (0 : Int32)) (7 : Int32) sa ea ta))) % (11 : Int32))), .unset, .unset] [(.int (((10 : Int32) * ((((((((own_term vs (.int (0 : Int32)) (0 : Int32) sa ea ta) + (own_term vs (.int (0 : Int32)) (1 : Int32) sa ea ta)) + (own_term vs (.int (0 : Int32)) (2 : Int32) sa ea ta)) + (own_term vs (.int (0 : Int32)) (3 : Int32) sa ea ta)) + (own_term vs (.int (0 : Int32)) (4 : Int32) sa ea ta)) + (own_term vs (.int (0 : Int32)) (5 : Int32) sa ea ta)) + (own_term vs (.int (0 : Int32)) (6 : Int32) sa ea ta)) + (own_term vs (.int (0 : Int32)) (7 : Int32) sa ea ta))) % (11 : Int32)))])) τ
      refine XS.istore X27.here hx rfl (hb hby at_263) rfl (l' := #[.val (.long q1), .second, .val (.int p2), .val (.int p3), .val (.ref b1), .val (.int ((p2 &&& (15 : Int32)) % (9 : Int32))), .val (.int ((((p2.toUInt32 >>> ((4 : Int32) &&& 31).toUInt32).toInt32) &&& (15 : Int32)) % (9 : Int32))), .val (.int sa), .val (.int ea), .val (.int ta), .val (.int ((((((((own_term vs (.int (0 : Int32)) (0 : Int32) sa ea ta) + (own_term vs (.int (0 : Int32)) (1 : Int32) sa ea ta)) + (own_term vs (.int (0 : Int32)) (2 : Int32) sa ea ta)) + (own_term vs (.int (0 : Int32)) (3 : Int32) sa ea ta)) + (own_term vs (.int (0 : Int32)) (4 : Int32) sa ea ta)) + (own_term vs (.int (0 : Int32)) (5 : Int32) sa ea ta)) + (own_term vs (.int (0 : Int32)) (6 : Int32) sa ea ta)) + (own_term vs (.int (0 : Int32)) (7 : Int32) sa ea ta))), .val (.int (((10 : Int32) * ((((((((own_term vs (.int (0 : Int32)) (0 : Int32) sa ea ta) + (own_term vs (.int (0 : Int32)) (1 : Int32) sa ea ta)) + (own_term vs (.int (0 : Int32)) (2 : Int32) sa ea ta)) + (own_term vs (.int (0 : Int32)) (3 : Int32) sa ea ta)) + (own_term vs (.int (0 : Int32)) (4 : Int32) sa ea ta)) + (own_term vs (.int (0 : Int32)) (5 : Int32) sa ea ta)) + (own_term vs (.int (0 : Int32)) (6 : Int32) sa ea ta)) + (own_term vs (.int (0 : Int32)) (7 : Int32) sa ea ta))) % (11 : Int32))), .val (.int (((10 : Int32) * ((((((((own_term vs (.int (0 : Int32)) (0 : Int32) sa ea ta) + (own_term vs (.int (0 : Int32)) (1 : Int32) sa ea ta)) + (own_term vs (.int (0 : Int32)) (2 : Int32) sa ea ta)) + (own_term vs (.int (0 : Int32)) (3 : Int32) sa ea ta)) + (own_term vs (.int (0 : Int32)) (4 : Int32) sa ea ta)) + (own_term vs (.int (0 : Int32)) (5 : Int32) sa ea ta)) + (own_term vs (.int (0 : Int32)) (6 : Int32) sa ea ta)) + (own_term vs (.int (0 : Int32)) (7 : Int32) sa ea ta))) % (11 : Int32))), .unset]) rfl ?_
      show Steps p.tables e below (T27.setTop (mkF m 265 #[.val (.long q1), .second, .val (.int p2), .val (.int p3), .val (.ref b1), .val (.int ((p2 &&& (15 : Int32)) % (9 : Int32))), .val (.int ((((p2.toUInt32 >>> ((4 : Int32) &&& 31).toUInt32).toInt32) &&& (15 : Int32)) % (9 : Int32))), .val (.int sa), .val (.int ea), .val (.int ta), .val (.int ((((((((own_term vs (.int (0 : Int32)) (0 : Int32) sa ea ta) + (own_term vs (.int (0 : Int32)) (1 : Int32) sa ea ta)) + (own_term vs (.int (0 : Int32)) (2 : Int32) sa ea ta)) + (own_term vs (.int (0 : Int32)) (3 : Int32) sa ea ta)) + (own_term vs (.int (0 : Int32)) (4 : Int32) sa ea ta)) + (own_term vs (.int (0 : Int32)) (5 : Int32) sa ea ta)) + (own_term vs (.int (0 : Int32)) (6 : Int32) sa ea ta)) + (own_term vs (.int (0 : Int32)) (7 : Int32) sa ea ta))), .val (.int (((10 : Int32) * ((((((((own_term vs (.int (0 : Int32)) (0 : Int32) sa ea ta) + (own_term vs (.int (0 : Int32)) (1 : Int32) sa ea ta)) + (own_term vs (.int (0 : Int32)) (2 : Int32) sa ea ta)) + (own_term vs (.int (0 : Int32)) (3 : Int32) sa ea ta)) + (own_term vs (.int (0 : Int32)) (4 : Int32) sa ea ta)) + (own_term vs (.int (0 : Int32)) (5 : Int32) sa ea ta)) + (own_term vs (.int (0 : Int32)) (6 : Int32) sa ea ta)) + (own_term vs (.int (0 : Int32)) (7 : Int32) sa ea ta))) % (11 : Int32))), .val (.int (((10 : Int32) * ((((((((own_term vs (.int (0 : Int32)) (0 : Int32) sa ea ta) + (own_term vs (.int (0 : Int32)) (1 : Int32) sa ea ta)) + (own_term vs (.int (0 : Int32)) (2 : Int32) sa ea ta)) + (own_term vs (.int (0 : Int32)) (3 : Int32) sa ea ta)) + (own_term vs (.int (0 : Int32)) (4 : Int32) sa ea ta)) + (own_term vs (.int (0 : Int32)) (5 : Int32) sa ea ta)) + (own_term vs (.int (0 : Int32)) (6 : Int32) sa ea ta)) + (own_term vs (.int (0 : Int32)) (7 : Int32) sa ea ta))) % (11 : Int32))), .unset] [])) τ
      refine XS.aload X27.here hx rfl (hb hby at_265) rfl rfl ?_
      show Steps p.tables e below (T27.setTop (mkF m 267 #[.val (.long q1), .second, .val (.int p2), .val (.int p3), .val (.ref b1), .val (.int ((p2 &&& (15 : Int32)) % (9 : Int32))), .val (.int ((((p2.toUInt32 >>> ((4 : Int32) &&& 31).toUInt32).toInt32) &&& (15 : Int32)) % (9 : Int32))), .val (.int sa), .val (.int ea), .val (.int ta), .val (.int ((((((((own_term vs (.int (0 : Int32)) (0 : Int32) sa ea ta) + (own_term vs (.int (0 : Int32)) (1 : Int32) sa ea ta)) + (own_term vs (.int (0 : Int32)) (2 : Int32) sa ea ta)) + (own_term vs (.int (0 : Int32)) (3 : Int32) sa ea ta)) + (own_term vs (.int (0 : Int32)) (4 : Int32) sa ea ta)) + (own_term vs (.int (0 : Int32)) (5 : Int32) sa ea ta)) + (own_term vs (.int (0 : Int32)) (6 : Int32) sa ea ta)) + (own_term vs (.int (0 : Int32)) (7 : Int32) sa ea ta))), .val (.int (((10 : Int32) * ((((((((own_term vs (.int (0 : Int32)) (0 : Int32) sa ea ta) + (own_term vs (.int (0 : Int32)) (1 : Int32) sa ea ta)) + (own_term vs (.int (0 : Int32)) (2 : Int32) sa ea ta)) + (own_term vs (.int (0 : Int32)) (3 : Int32) sa ea ta)) + (own_term vs (.int (0 : Int32)) (4 : Int32) sa ea ta)) + (own_term vs (.int (0 : Int32)) (5 : Int32) sa ea ta)) + (own_term vs (.int (0 : Int32)) (6 : Int32) sa ea ta)) + (own_term vs (.int (0 : Int32)) (7 : Int32) sa ea ta))) % (11 : Int32))), .val (.int (((10 : Int32) * ((((((((own_term vs (.int (0 : Int32)) (0 : Int32) sa ea ta) + (own_term vs (.int (0 : Int32)) (1 : Int32) sa ea ta)) + (own_term vs (.int (0 : Int32)) (2 : Int32) sa ea ta)) + (own_term vs (.int (0 : Int32)) (3 : Int32) sa ea ta)) + (own_term vs (.int (0 : Int32)) (4 : Int32) sa ea ta)) + (own_term vs (.int (0 : Int32)) (5 : Int32) sa ea ta)) + (own_term vs (.int (0 : Int32)) (6 : Int32) sa ea ta)) + (own_term vs (.int (0 : Int32)) (7 : Int32) sa ea ta))) % (11 : Int32))), .unset] [(.ref b1)])) τ
      refine XS.iload X27.here hx rfl (hb hby at_267) rfl ?_
      show Steps p.tables e below (T27.setTop (mkF m 269 #[.val (.long q1), .second, .val (.int p2), .val (.int p3), .val (.ref b1), .val (.int ((p2 &&& (15 : Int32)) % (9 : Int32))), .val (.int ((((p2.toUInt32 >>> ((4 : Int32) &&& 31).toUInt32).toInt32) &&& (15 : Int32)) % (9 : Int32))), .val (.int sa), .val (.int ea), .val (.int ta), .val (.int ((((((((own_term vs (.int (0 : Int32)) (0 : Int32) sa ea ta) + (own_term vs (.int (0 : Int32)) (1 : Int32) sa ea ta)) + (own_term vs (.int (0 : Int32)) (2 : Int32) sa ea ta)) + (own_term vs (.int (0 : Int32)) (3 : Int32) sa ea ta)) + (own_term vs (.int (0 : Int32)) (4 : Int32) sa ea ta)) + (own_term vs (.int (0 : Int32)) (5 : Int32) sa ea ta)) + (own_term vs (.int (0 : Int32)) (6 : Int32) sa ea ta)) + (own_term vs (.int (0 : Int32)) (7 : Int32) sa ea ta))), .val (.int (((10 : Int32) * ((((((((own_term vs (.int (0 : Int32)) (0 : Int32) sa ea ta) + (own_term vs (.int (0 : Int32)) (1 : Int32) sa ea ta)) + (own_term vs (.int (0 : Int32)) (2 : Int32) sa ea ta)) + (own_term vs (.int (0 : Int32)) (3 : Int32) sa ea ta)) + (own_term vs (.int (0 : Int32)) (4 : Int32) sa ea ta)) + (own_term vs (.int (0 : Int32)) (5 : Int32) sa ea ta)) + (own_term vs (.int (0 : Int32)) (6 : Int32) sa ea ta)) + (own_term vs (.int (0 : Int32)) (7 : Int32) sa ea ta))) % (11 : Int32))), .val (.int (((10 : Int32) * ((((((((own_term vs (.int (0 : Int32)) (0 : Int32) sa ea ta) + (own_term vs (.int (0 : Int32)) (1 : Int32) sa ea ta)) + (own_term vs (.int (0 : Int32)) (2 : Int32) sa ea ta)) + (own_term vs (.int (0 : Int32)) (3 : Int32) sa ea ta)) + (own_term vs (.int (0 : Int32)) (4 : Int32) sa ea ta)) + (own_term vs (.int (0 : Int32)) (5 : Int32) sa ea ta)) + (own_term vs (.int (0 : Int32)) (6 : Int32) sa ea ta)) + (own_term vs (.int (0 : Int32)) (7 : Int32) sa ea ta))) % (11 : Int32))), .unset] [(.int sa), (.ref b1)])) τ
      refine XS.iload X27.here hx rfl (hb hby at_269) rfl ?_
      show Steps p.tables e below (T27.setTop (mkF m 271 #[.val (.long q1), .second, .val (.int p2), .val (.int p3), .val (.ref b1), .val (.int ((p2 &&& (15 : Int32)) % (9 : Int32))), .val (.int ((((p2.toUInt32 >>> ((4 : Int32) &&& 31).toUInt32).toInt32) &&& (15 : Int32)) % (9 : Int32))), .val (.int sa), .val (.int ea), .val (.int ta), .val (.int ((((((((own_term vs (.int (0 : Int32)) (0 : Int32) sa ea ta) + (own_term vs (.int (0 : Int32)) (1 : Int32) sa ea ta)) + (own_term vs (.int (0 : Int32)) (2 : Int32) sa ea ta)) + (own_term vs (.int (0 : Int32)) (3 : Int32) sa ea ta)) + (own_term vs (.int (0 : Int32)) (4 : Int32) sa ea ta)) + (own_term vs (.int (0 : Int32)) (5 : Int32) sa ea ta)) + (own_term vs (.int (0 : Int32)) (6 : Int32) sa ea ta)) + (own_term vs (.int (0 : Int32)) (7 : Int32) sa ea ta))), .val (.int (((10 : Int32) * ((((((((own_term vs (.int (0 : Int32)) (0 : Int32) sa ea ta) + (own_term vs (.int (0 : Int32)) (1 : Int32) sa ea ta)) + (own_term vs (.int (0 : Int32)) (2 : Int32) sa ea ta)) + (own_term vs (.int (0 : Int32)) (3 : Int32) sa ea ta)) + (own_term vs (.int (0 : Int32)) (4 : Int32) sa ea ta)) + (own_term vs (.int (0 : Int32)) (5 : Int32) sa ea ta)) + (own_term vs (.int (0 : Int32)) (6 : Int32) sa ea ta)) + (own_term vs (.int (0 : Int32)) (7 : Int32) sa ea ta))) % (11 : Int32))), .val (.int (((10 : Int32) * ((((((((own_term vs (.int (0 : Int32)) (0 : Int32) sa ea ta) + (own_term vs (.int (0 : Int32)) (1 : Int32) sa ea ta)) + (own_term vs (.int (0 : Int32)) (2 : Int32) sa ea ta)) + (own_term vs (.int (0 : Int32)) (3 : Int32) sa ea ta)) + (own_term vs (.int (0 : Int32)) (4 : Int32) sa ea ta)) + (own_term vs (.int (0 : Int32)) (5 : Int32) sa ea ta)) + (own_term vs (.int (0 : Int32)) (6 : Int32) sa ea ta)) + (own_term vs (.int (0 : Int32)) (7 : Int32) sa ea ta))) % (11 : Int32))), .unset] [(.int ea), (.int sa), (.ref b1)])) τ
      refine XS.iload X27.here hx rfl (hb hby at_271) rfl ?_
      show Steps p.tables e below (T27.setTop (mkF m 273 #[.val (.long q1), .second, .val (.int p2), .val (.int p3), .val (.ref b1), .val (.int ((p2 &&& (15 : Int32)) % (9 : Int32))), .val (.int ((((p2.toUInt32 >>> ((4 : Int32) &&& 31).toUInt32).toInt32) &&& (15 : Int32)) % (9 : Int32))), .val (.int sa), .val (.int ea), .val (.int ta), .val (.int ((((((((own_term vs (.int (0 : Int32)) (0 : Int32) sa ea ta) + (own_term vs (.int (0 : Int32)) (1 : Int32) sa ea ta)) + (own_term vs (.int (0 : Int32)) (2 : Int32) sa ea ta)) + (own_term vs (.int (0 : Int32)) (3 : Int32) sa ea ta)) + (own_term vs (.int (0 : Int32)) (4 : Int32) sa ea ta)) + (own_term vs (.int (0 : Int32)) (5 : Int32) sa ea ta)) + (own_term vs (.int (0 : Int32)) (6 : Int32) sa ea ta)) + (own_term vs (.int (0 : Int32)) (7 : Int32) sa ea ta))), .val (.int (((10 : Int32) * ((((((((own_term vs (.int (0 : Int32)) (0 : Int32) sa ea ta) + (own_term vs (.int (0 : Int32)) (1 : Int32) sa ea ta)) + (own_term vs (.int (0 : Int32)) (2 : Int32) sa ea ta)) + (own_term vs (.int (0 : Int32)) (3 : Int32) sa ea ta)) + (own_term vs (.int (0 : Int32)) (4 : Int32) sa ea ta)) + (own_term vs (.int (0 : Int32)) (5 : Int32) sa ea ta)) + (own_term vs (.int (0 : Int32)) (6 : Int32) sa ea ta)) + (own_term vs (.int (0 : Int32)) (7 : Int32) sa ea ta))) % (11 : Int32))), .val (.int (((10 : Int32) * ((((((((own_term vs (.int (0 : Int32)) (0 : Int32) sa ea ta) + (own_term vs (.int (0 : Int32)) (1 : Int32) sa ea ta)) + (own_term vs (.int (0 : Int32)) (2 : Int32) sa ea ta)) + (own_term vs (.int (0 : Int32)) (3 : Int32) sa ea ta)) + (own_term vs (.int (0 : Int32)) (4 : Int32) sa ea ta)) + (own_term vs (.int (0 : Int32)) (5 : Int32) sa ea ta)) + (own_term vs (.int (0 : Int32)) (6 : Int32) sa ea ta)) + (own_term vs (.int (0 : Int32)) (7 : Int32) sa ea ta))) % (11 : Int32))), .unset] [(.int ta), (.int ea), (.int sa), (.ref b1)])) τ
      exact κ)
    obtain ⟨_, _, ⟨T31, Lx31, kx31, nx31⟩, -, X31, ⟨Lc31, hQ31, l31, y31, z31⟩, st31⟩ := Jvm.LawKit.callS X27 hx (y := (⟨"com/example/campo_livre/campolivre/CheckDigits", "modulo11", "([BIII)I"⟩ : MethodName)) hown (mvT hZ (hw _ (List.mem_of_getElem? (i := 16) rfl))) (mvT hZ (hw _ (List.mem_of_getElem? (i := 17) rfl))) (mvT hZ (hw _ (List.mem_of_getElem? (i := 18) rfl))) (mvT hZ (hw _ (List.mem_of_getElem? (i := 19) rfl))) (by decide) (backOf (W := 0) (rm5 l Z a0 hw [] b1 sa ea ta k1 (8 : Int32) vs (.int (0 : Int32)) h17 n0 Zn V_b1 hse.1 hse.2.1 hse.2.2) hZ (hw _ (List.mem_of_getElem? (i := 19) rfl)) (hw _ (List.mem_of_getElem? (i := 18) rfl)) (by decide) (by decide)) (g := (mkF m 273 #[.val (.long q1), .second, .val (.int p2), .val (.int p3), .val (.ref b1), .val (.int ((p2 &&& (15 : Int32)) % (9 : Int32))), .val (.int ((((p2.toUInt32 >>> ((4 : Int32) &&& 31).toUInt32).toInt32) &&& (15 : Int32)) % (9 : Int32))), .val (.int sa), .val (.int ea), .val (.int ta), .val (.int ((((((((own_term vs (.int (0 : Int32)) (0 : Int32) sa ea ta) + (own_term vs (.int (0 : Int32)) (1 : Int32) sa ea ta)) + (own_term vs (.int (0 : Int32)) (2 : Int32) sa ea ta)) + (own_term vs (.int (0 : Int32)) (3 : Int32) sa ea ta)) + (own_term vs (.int (0 : Int32)) (4 : Int32) sa ea ta)) + (own_term vs (.int (0 : Int32)) (5 : Int32) sa ea ta)) + (own_term vs (.int (0 : Int32)) (6 : Int32) sa ea ta)) + (own_term vs (.int (0 : Int32)) (7 : Int32) sa ea ta))), .val (.int (((10 : Int32) * ((((((((own_term vs (.int (0 : Int32)) (0 : Int32) sa ea ta) + (own_term vs (.int (0 : Int32)) (1 : Int32) sa ea ta)) + (own_term vs (.int (0 : Int32)) (2 : Int32) sa ea ta)) + (own_term vs (.int (0 : Int32)) (3 : Int32) sa ea ta)) + (own_term vs (.int (0 : Int32)) (4 : Int32) sa ea ta)) + (own_term vs (.int (0 : Int32)) (5 : Int32) sa ea ta)) + (own_term vs (.int (0 : Int32)) (6 : Int32) sa ea ta)) + (own_term vs (.int (0 : Int32)) (7 : Int32) sa ea ta))) % (11 : Int32))), .val (.int (((10 : Int32) * ((((((((own_term vs (.int (0 : Int32)) (0 : Int32) sa ea ta) + (own_term vs (.int (0 : Int32)) (1 : Int32) sa ea ta)) + (own_term vs (.int (0 : Int32)) (2 : Int32) sa ea ta)) + (own_term vs (.int (0 : Int32)) (3 : Int32) sa ea ta)) + (own_term vs (.int (0 : Int32)) (4 : Int32) sa ea ta)) + (own_term vs (.int (0 : Int32)) (5 : Int32) sa ea ta)) + (own_term vs (.int (0 : Int32)) (6 : Int32) sa ea ta)) + (own_term vs (.int (0 : Int32)) (7 : Int32) sa ea ta))) % (11 : Int32))), .unset] [(.int ta), (.int ea), (.int sa), (.ref b1)])) rfl (by rw [hml]; rfl) (argsL := [(.ref b1), (.int sa), (.int ea), (.int ta)]) (rest := []) (lenOf pd_3 rfl) rfl (by show 2 * 0 + _ ≤ _; exact Nat.le_of_eq rfl) (hb hby at_273) (fun _ _ => ⟨rfl, hs27, (by decide : 1 + 0 ≤ _), (by decide : 8 + 0 ≤ _)⟩)
    dsimp only [Pt.U, Pt.locs, Pt.cells, Pt.slots] at X31 l31 y31 z31 st31 hQ31
    replace y31 : kx31 = 1 := y31
    replace z31 : nx31 = 8 := z31
    subst y31 z31
    obtain ⟨rfl, Nq31, hs31⟩ := hQ31
    have NN : Fr n0 Lx31 := by rw [l31]; exact Fr.app NN Nq31
    have pre : ∀ τ, Steps p.tables e below (T31.setTop (mkF m 276 #[.val (.long q1), .second, .val (.int p2), .val (.int p3), .val (.ref b1), .val (.int ((p2 &&& (15 : Int32)) % (9 : Int32))), .val (.int ((((p2.toUInt32 >>> ((4 : Int32) &&& 31).toUInt32).toInt32) &&& (15 : Int32)) % (9 : Int32))), .val (.int sa), .val (.int ea), .val (.int ta), .val (.int ((((((((own_term vs (.int (0 : Int32)) (0 : Int32) sa ea ta) + (own_term vs (.int (0 : Int32)) (1 : Int32) sa ea ta)) + (own_term vs (.int (0 : Int32)) (2 : Int32) sa ea ta)) + (own_term vs (.int (0 : Int32)) (3 : Int32) sa ea ta)) + (own_term vs (.int (0 : Int32)) (4 : Int32) sa ea ta)) + (own_term vs (.int (0 : Int32)) (5 : Int32) sa ea ta)) + (own_term vs (.int (0 : Int32)) (6 : Int32) sa ea ta)) + (own_term vs (.int (0 : Int32)) (7 : Int32) sa ea ta))), .val (.int (((10 : Int32) * ((((((((own_term vs (.int (0 : Int32)) (0 : Int32) sa ea ta) + (own_term vs (.int (0 : Int32)) (1 : Int32) sa ea ta)) + (own_term vs (.int (0 : Int32)) (2 : Int32) sa ea ta)) + (own_term vs (.int (0 : Int32)) (3 : Int32) sa ea ta)) + (own_term vs (.int (0 : Int32)) (4 : Int32) sa ea ta)) + (own_term vs (.int (0 : Int32)) (5 : Int32) sa ea ta)) + (own_term vs (.int (0 : Int32)) (6 : Int32) sa ea ta)) + (own_term vs (.int (0 : Int32)) (7 : Int32) sa ea ta))) % (11 : Int32))), .val (.int (((10 : Int32) * ((((((((own_term vs (.int (0 : Int32)) (0 : Int32) sa ea ta) + (own_term vs (.int (0 : Int32)) (1 : Int32) sa ea ta)) + (own_term vs (.int (0 : Int32)) (2 : Int32) sa ea ta)) + (own_term vs (.int (0 : Int32)) (3 : Int32) sa ea ta)) + (own_term vs (.int (0 : Int32)) (4 : Int32) sa ea ta)) + (own_term vs (.int (0 : Int32)) (5 : Int32) sa ea ta)) + (own_term vs (.int (0 : Int32)) (6 : Int32) sa ea ta)) + (own_term vs (.int (0 : Int32)) (7 : Int32) sa ea ta))) % (11 : Int32))), .unset] [(.int (own_m11 vs (.int (0 : Int32)) ta sa ea))])) τ → G τ := fun τ κ => pre τ (st31 τ κ)
    have pre : ∀ τ, Steps p.tables e below (T31.setTop (mkF m 282 #[.val (.long q1), .second, .val (.int p2), .val (.int p3), .val (.ref b1), .val (.int ((p2 &&& (15 : Int32)) % (9 : Int32))), .val (.int ((((p2.toUInt32 >>> ((4 : Int32) &&& 31).toUInt32).toInt32) &&& (15 : Int32)) % (9 : Int32))), .val (.int sa), .val (.int ea), .val (.int ta), .val (.int ((((((((own_term vs (.int (0 : Int32)) (0 : Int32) sa ea ta) + (own_term vs (.int (0 : Int32)) (1 : Int32) sa ea ta)) + (own_term vs (.int (0 : Int32)) (2 : Int32) sa ea ta)) + (own_term vs (.int (0 : Int32)) (3 : Int32) sa ea ta)) + (own_term vs (.int (0 : Int32)) (4 : Int32) sa ea ta)) + (own_term vs (.int (0 : Int32)) (5 : Int32) sa ea ta)) + (own_term vs (.int (0 : Int32)) (6 : Int32) sa ea ta)) + (own_term vs (.int (0 : Int32)) (7 : Int32) sa ea ta))), .val (.int (((10 : Int32) * ((((((((own_term vs (.int (0 : Int32)) (0 : Int32) sa ea ta) + (own_term vs (.int (0 : Int32)) (1 : Int32) sa ea ta)) + (own_term vs (.int (0 : Int32)) (2 : Int32) sa ea ta)) + (own_term vs (.int (0 : Int32)) (3 : Int32) sa ea ta)) + (own_term vs (.int (0 : Int32)) (4 : Int32) sa ea ta)) + (own_term vs (.int (0 : Int32)) (5 : Int32) sa ea ta)) + (own_term vs (.int (0 : Int32)) (6 : Int32) sa ea ta)) + (own_term vs (.int (0 : Int32)) (7 : Int32) sa ea ta))) % (11 : Int32))), .val (.int (((10 : Int32) * ((((((((own_term vs (.int (0 : Int32)) (0 : Int32) sa ea ta) + (own_term vs (.int (0 : Int32)) (1 : Int32) sa ea ta)) + (own_term vs (.int (0 : Int32)) (2 : Int32) sa ea ta)) + (own_term vs (.int (0 : Int32)) (3 : Int32) sa ea ta)) + (own_term vs (.int (0 : Int32)) (4 : Int32) sa ea ta)) + (own_term vs (.int (0 : Int32)) (5 : Int32) sa ea ta)) + (own_term vs (.int (0 : Int32)) (6 : Int32) sa ea ta)) + (own_term vs (.int (0 : Int32)) (7 : Int32) sa ea ta))) % (11 : Int32))), .val (.int (own_m11 vs (.int (0 : Int32)) ta sa ea))] [(.int (((10 : Int32) * ((((((((own_term vs (.int (0 : Int32)) (0 : Int32) sa ea ta) + (own_term vs (.int (0 : Int32)) (1 : Int32) sa ea ta)) + (own_term vs (.int (0 : Int32)) (2 : Int32) sa ea ta)) + (own_term vs (.int (0 : Int32)) (3 : Int32) sa ea ta)) + (own_term vs (.int (0 : Int32)) (4 : Int32) sa ea ta)) + (own_term vs (.int (0 : Int32)) (5 : Int32) sa ea ta)) + (own_term vs (.int (0 : Int32)) (6 : Int32) sa ea ta)) + (own_term vs (.int (0 : Int32)) (7 : Int32) sa ea ta))) % (11 : Int32))), (.int (own_m11 vs (.int (0 : Int32)) ta sa ea))])) τ → G τ := fun τ κ => pre τ (by
      refine XS.istore X31.here hx rfl (hb hby at_276) rfl (l' := #[.val (.long q1), .second, .val (.int p2), .val (.int p3), .val (.ref b1), .val (.int ((p2 &&& (15 : Int32)) % (9 : Int32))), .val (.int ((((p2.toUInt32 >>> ((4 : Int32) &&& 31).toUInt32).toInt32) &&& (15 : Int32)) % (9 : Int32))), .val (.int sa), .val (.int ea), .val (.int ta), .val (.int ((((((((own_term vs (.int (0 : Int32)) (0 : Int32) sa ea ta) + (own_term vs (.int (0 : Int32)) (1 : Int32) sa ea ta)) + (own_term vs (.int (0 : Int32)) (2 : Int32) sa ea ta)) + (own_term vs (.int (0 : Int32)) (3 : Int32) sa ea ta)) + (own_term vs (.int (0 : Int32)) (4 : Int32) sa ea ta)) + (own_term vs (.int (0 : Int32)) (5 : Int32) sa ea ta)) + (own_term vs (.int (0 : Int32)) (6 : Int32) sa ea ta)) + (own_term vs (.int (0 : Int32)) (7 : Int32) sa ea ta))), .val (.int (((10 : Int32) * ((((((((own_term vs (.int (0 : Int32)) (0 : Int32) sa ea ta) + (own_term vs (.int (0 : Int32)) (1 : Int32) sa ea ta)) + (own_term vs (.int (0 : Int32)) (2 : Int32) sa ea ta)) + (own_term vs (.int (0 : Int32)) (3 : Int32) sa ea ta)) + (own_term vs (.int (0 : Int32)) (4 : Int32) sa ea ta)) + (own_term vs (.int (0 : Int32)) (5 : Int32) sa ea ta)) + (own_term vs (.int (0 : Int32)) (6 : Int32) sa ea ta)) + (own_term vs (.int (0 : Int32)) (7 : Int32) sa ea ta))) % (11 : Int32))), .val (.int (((10 : Int32) * ((((((((own_term vs (.int (0 : Int32)) (0 : Int32) sa ea ta) + (own_term vs (.int (0 : Int32)) (1 : Int32) sa ea ta)) + (own_term vs (.int (0 : Int32)) (2 : Int32) sa ea ta)) + (own_term vs (.int (0 : Int32)) (3 : Int32) sa ea ta)) + (own_term vs (.int (0 : Int32)) (4 : Int32) sa ea ta)) + (own_term vs (.int (0 : Int32)) (5 : Int32) sa ea ta)) + (own_term vs (.int (0 : Int32)) (6 : Int32) sa ea ta)) + (own_term vs (.int (0 : Int32)) (7 : Int32) sa ea ta))) % (11 : Int32))), .val (.int (own_m11 vs (.int (0 : Int32)) ta sa ea))]) rfl ?_
      show Steps p.tables e below (T31.setTop (mkF m 278 #[.val (.long q1), .second, .val (.int p2), .val (.int p3), .val (.ref b1), .val (.int ((p2 &&& (15 : Int32)) % (9 : Int32))), .val (.int ((((p2.toUInt32 >>> ((4 : Int32) &&& 31).toUInt32).toInt32) &&& (15 : Int32)) % (9 : Int32))), .val (.int sa), .val (.int ea), .val (.int ta), .val (.int ((((((((own_term vs (.int (0 : Int32)) (0 : Int32) sa ea ta) + (own_term vs (.int (0 : Int32)) (1 : Int32) sa ea ta)) + (own_term vs (.int (0 : Int32)) (2 : Int32) sa ea ta)) + (own_term vs (.int (0 : Int32)) (3 : Int32) sa ea ta)) + (own_term vs (.int (0 : Int32)) (4 : Int32) sa ea ta)) + (own_term vs (.int (0 : Int32)) (5 : Int32) sa ea ta)) + (own_term vs (.int (0 : Int32)) (6 : Int32) sa ea ta)) + (own_term vs (.int (0 : Int32)) (7 : Int32) sa ea ta))), .val (.int (((10 : Int32) * ((((((((own_term vs (.int (0 : Int32)) (0 : Int32) sa ea ta) + (own_term vs (.int (0 : Int32)) (1 : Int32) sa ea ta)) + (own_term vs (.int (0 : Int32)) (2 : Int32) sa ea ta)) + (own_term vs (.int (0 : Int32)) (3 : Int32) sa ea ta)) + (own_term vs (.int (0 : Int32)) (4 : Int32) sa ea ta)) + (own_term vs (.int (0 : Int32)) (5 : Int32) sa ea ta)) + (own_term vs (.int (0 : Int32)) (6 : Int32) sa ea ta)) + (own_term vs (.int (0 : Int32)) (7 : Int32) sa ea ta))) % (11 : Int32))), .val (.int (((10 : Int32) * ((((((((own_term vs (.int (0 : Int32)) (0 : Int32) sa ea ta) + (own_term vs (.int (0 : Int32)) (1 : Int32) sa ea ta)) + (own_term vs (.int (0 : Int32)) (2 : Int32) sa ea ta)) + (own_term vs (.int (0 : Int32)) (3 : Int32) sa ea ta)) + (own_term vs (.int (0 : Int32)) (4 : Int32) sa ea ta)) + (own_term vs (.int (0 : Int32)) (5 : Int32) sa ea ta)) + (own_term vs (.int (0 : Int32)) (6 : Int32) sa ea ta)) + (own_term vs (.int (0 : Int32)) (7 : Int32) sa ea ta))) % (11 : Int32))), .val (.int (own_m11 vs (.int (0 : Int32)) ta sa ea))] [])) τ
      refine XS.iload X31.here hx rfl (hb hby at_278) rfl ?_
      show Steps p.tables e below (T31.setTop (mkF m 280 #[.val (.long q1), .second, .val (.int p2), .val (.int p3), .val (.ref b1), .val (.int ((p2 &&& (15 : Int32)) % (9 : Int32))), .val (.int ((((p2.toUInt32 >>> ((4 : Int32) &&& 31).toUInt32).toInt32) &&& (15 : Int32)) % (9 : Int32))), .val (.int sa), .val (.int ea), .val (.int ta), .val (.int ((((((((own_term vs (.int (0 : Int32)) (0 : Int32) sa ea ta) + (own_term vs (.int (0 : Int32)) (1 : Int32) sa ea ta)) + (own_term vs (.int (0 : Int32)) (2 : Int32) sa ea ta)) + (own_term vs (.int (0 : Int32)) (3 : Int32) sa ea ta)) + (own_term vs (.int (0 : Int32)) (4 : Int32) sa ea ta)) + (own_term vs (.int (0 : Int32)) (5 : Int32) sa ea ta)) + (own_term vs (.int (0 : Int32)) (6 : Int32) sa ea ta)) + (own_term vs (.int (0 : Int32)) (7 : Int32) sa ea ta))), .val (.int (((10 : Int32) * ((((((((own_term vs (.int (0 : Int32)) (0 : Int32) sa ea ta) + (own_term vs (.int (0 : Int32)) (1 : Int32) sa ea ta)) + (own_term vs (.int (0 : Int32)) (2 : Int32) sa ea ta)) + (own_term vs (.int (0 : Int32)) (3 : Int32) sa ea ta)) + (own_term vs (.int (0 : Int32)) (4 : Int32) sa ea ta)) + (own_term vs (.int (0 : Int32)) (5 : Int32) sa ea ta)) + (own_term vs (.int (0 : Int32)) (6 : Int32) sa ea ta)) + (own_term vs (.int (0 : Int32)) (7 : Int32) sa ea ta))) % (11 : Int32))), .val (.int (((10 : Int32) * ((((((((own_term vs (.int (0 : Int32)) (0 : Int32) sa ea ta) + (own_term vs (.int (0 : Int32)) (1 : Int32) sa ea ta)) + (own_term vs (.int (0 : Int32)) (2 : Int32) sa ea ta)) + (own_term vs (.int (0 : Int32)) (3 : Int32) sa ea ta)) + (own_term vs (.int (0 : Int32)) (4 : Int32) sa ea ta)) + (own_term vs (.int (0 : Int32)) (5 : Int32) sa ea ta)) + (own_term vs (.int (0 : Int32)) (6 : Int32) sa ea ta)) + (own_term vs (.int (0 : Int32)) (7 : Int32) sa ea ta))) % (11 : Int32))), .val (.int (own_m11 vs (.int (0 : Int32)) ta sa ea))] [(.int (own_m11 vs (.int (0 : Int32)) ta sa ea))])) τ
      refine XS.iload X31.here hx rfl (hb hby at_280) rfl ?_
      show Steps p.tables e below (T31.setTop (mkF m 282 #[.val (.long q1), .second, .val (.int p2), .val (.int p3), .val (.ref b1), .val (.int ((p2 &&& (15 : Int32)) % (9 : Int32))), .val (.int ((((p2.toUInt32 >>> ((4 : Int32) &&& 31).toUInt32).toInt32) &&& (15 : Int32)) % (9 : Int32))), .val (.int sa), .val (.int ea), .val (.int ta), .val (.int ((((((((own_term vs (.int (0 : Int32)) (0 : Int32) sa ea ta) + (own_term vs (.int (0 : Int32)) (1 : Int32) sa ea ta)) + (own_term vs (.int (0 : Int32)) (2 : Int32) sa ea ta)) + (own_term vs (.int (0 : Int32)) (3 : Int32) sa ea ta)) + (own_term vs (.int (0 : Int32)) (4 : Int32) sa ea ta)) + (own_term vs (.int (0 : Int32)) (5 : Int32) sa ea ta)) + (own_term vs (.int (0 : Int32)) (6 : Int32) sa ea ta)) + (own_term vs (.int (0 : Int32)) (7 : Int32) sa ea ta))), .val (.int (((10 : Int32) * ((((((((own_term vs (.int (0 : Int32)) (0 : Int32) sa ea ta) + (own_term vs (.int (0 : Int32)) (1 : Int32) sa ea ta)) + (own_term vs (.int (0 : Int32)) (2 : Int32) sa ea ta)) + (own_term vs (.int (0 : Int32)) (3 : Int32) sa ea ta)) + (own_term vs (.int (0 : Int32)) (4 : Int32) sa ea ta)) + (own_term vs (.int (0 : Int32)) (5 : Int32) sa ea ta)) + (own_term vs (.int (0 : Int32)) (6 : Int32) sa ea ta)) + (own_term vs (.int (0 : Int32)) (7 : Int32) sa ea ta))) % (11 : Int32))), .val (.int (((10 : Int32) * ((((((((own_term vs (.int (0 : Int32)) (0 : Int32) sa ea ta) + (own_term vs (.int (0 : Int32)) (1 : Int32) sa ea ta)) + (own_term vs (.int (0 : Int32)) (2 : Int32) sa ea ta)) + (own_term vs (.int (0 : Int32)) (3 : Int32) sa ea ta)) + (own_term vs (.int (0 : Int32)) (4 : Int32) sa ea ta)) + (own_term vs (.int (0 : Int32)) (5 : Int32) sa ea ta)) + (own_term vs (.int (0 : Int32)) (6 : Int32) sa ea ta)) + (own_term vs (.int (0 : Int32)) (7 : Int32) sa ea ta))) % (11 : Int32))), .val (.int (own_m11 vs (.int (0 : Int32)) ta sa ea))] [(.int (((10 : Int32) * ((((((((own_term vs (.int (0 : Int32)) (0 : Int32) sa ea ta) + (own_term vs (.int (0 : Int32)) (1 : Int32) sa ea ta)) + (own_term vs (.int (0 : Int32)) (2 : Int32) sa ea ta)) + (own_term vs (.int (0 : Int32)) (3 : Int32) sa ea ta)) + (own_term vs (.int (0 : Int32)) (4 : Int32) sa ea ta)) + (own_term vs (.int (0 : Int32)) (5 : Int32) sa ea ta)) + (own_term vs (.int (0 : Int32)) (6 : Int32) sa ea ta)) + (own_term vs (.int (0 : Int32)) (7 : Int32) sa ea ta))) % (11 : Int32))), (.int (own_m11 vs (.int (0 : Int32)) ta sa ea))])) τ
      exact κ)
    have hc32 : (own_m11 vs (.int (0 : Int32)) ta sa ea) = (((10 : Int32) * ((((((((own_term vs (.int (0 : Int32)) (0 : Int32) sa ea ta) + (own_term vs (.int (0 : Int32)) (1 : Int32) sa ea ta)) + (own_term vs (.int (0 : Int32)) (2 : Int32) sa ea ta)) + (own_term vs (.int (0 : Int32)) (3 : Int32) sa ea ta)) + (own_term vs (.int (0 : Int32)) (4 : Int32) sa ea ta)) + (own_term vs (.int (0 : Int32)) (5 : Int32) sa ea ta)) + (own_term vs (.int (0 : Int32)) (6 : Int32) sa ea ta)) + (own_term vs (.int (0 : Int32)) (7 : Int32) sa ea ta))) % (11 : Int32)) := own_law_f _ _ _ _ hvs hse hta hc254_28
    have pre : ∀ τ, Steps p.tables e below (T31.setTop (mkF m 290 #[.val (.long q1), .second, .val (.int p2), .val (.int p3), .val (.ref b1), .val (.int ((p2 &&& (15 : Int32)) % (9 : Int32))), .val (.int ((((p2.toUInt32 >>> ((4 : Int32) &&& 31).toUInt32).toInt32) &&& (15 : Int32)) % (9 : Int32))), .val (.int sa), .val (.int ea), .val (.int ta), .val (.int ((((((((own_term vs (.int (0 : Int32)) (0 : Int32) sa ea ta) + (own_term vs (.int (0 : Int32)) (1 : Int32) sa ea ta)) + (own_term vs (.int (0 : Int32)) (2 : Int32) sa ea ta)) + (own_term vs (.int (0 : Int32)) (3 : Int32) sa ea ta)) + (own_term vs (.int (0 : Int32)) (4 : Int32) sa ea ta)) + (own_term vs (.int (0 : Int32)) (5 : Int32) sa ea ta)) + (own_term vs (.int (0 : Int32)) (6 : Int32) sa ea ta)) + (own_term vs (.int (0 : Int32)) (7 : Int32) sa ea ta))), .val (.int (((10 : Int32) * ((((((((own_term vs (.int (0 : Int32)) (0 : Int32) sa ea ta) + (own_term vs (.int (0 : Int32)) (1 : Int32) sa ea ta)) + (own_term vs (.int (0 : Int32)) (2 : Int32) sa ea ta)) + (own_term vs (.int (0 : Int32)) (3 : Int32) sa ea ta)) + (own_term vs (.int (0 : Int32)) (4 : Int32) sa ea ta)) + (own_term vs (.int (0 : Int32)) (5 : Int32) sa ea ta)) + (own_term vs (.int (0 : Int32)) (6 : Int32) sa ea ta)) + (own_term vs (.int (0 : Int32)) (7 : Int32) sa ea ta))) % (11 : Int32))), .val (.int (((10 : Int32) * ((((((((own_term vs (.int (0 : Int32)) (0 : Int32) sa ea ta) + (own_term vs (.int (0 : Int32)) (1 : Int32) sa ea ta)) + (own_term vs (.int (0 : Int32)) (2 : Int32) sa ea ta)) + (own_term vs (.int (0 : Int32)) (3 : Int32) sa ea ta)) + (own_term vs (.int (0 : Int32)) (4 : Int32) sa ea ta)) + (own_term vs (.int (0 : Int32)) (5 : Int32) sa ea ta)) + (own_term vs (.int (0 : Int32)) (6 : Int32) sa ea ta)) + (own_term vs (.int (0 : Int32)) (7 : Int32) sa ea ta))) % (11 : Int32))), .val (.int (own_m11 vs (.int (0 : Int32)) ta sa ea))] [(.int (1 : Int32))])) τ → G τ := fun τ κ => pre τ (by
      refine XS.icmpNo X31.here hx rfl (hb hby at_282) rfl (teq hc32).2 ?_
      show Steps p.tables e below (T31.setTop (mkF m 285 #[.val (.long q1), .second, .val (.int p2), .val (.int p3), .val (.ref b1), .val (.int ((p2 &&& (15 : Int32)) % (9 : Int32))), .val (.int ((((p2.toUInt32 >>> ((4 : Int32) &&& 31).toUInt32).toInt32) &&& (15 : Int32)) % (9 : Int32))), .val (.int sa), .val (.int ea), .val (.int ta), .val (.int ((((((((own_term vs (.int (0 : Int32)) (0 : Int32) sa ea ta) + (own_term vs (.int (0 : Int32)) (1 : Int32) sa ea ta)) + (own_term vs (.int (0 : Int32)) (2 : Int32) sa ea ta)) + (own_term vs (.int (0 : Int32)) (3 : Int32) sa ea ta)) + (own_term vs (.int (0 : Int32)) (4 : Int32) sa ea ta)) + (own_term vs (.int (0 : Int32)) (5 : Int32) sa ea ta)) + (own_term vs (.int (0 : Int32)) (6 : Int32) sa ea ta)) + (own_term vs (.int (0 : Int32)) (7 : Int32) sa ea ta))), .val (.int (((10 : Int32) * ((((((((own_term vs (.int (0 : Int32)) (0 : Int32) sa ea ta) + (own_term vs (.int (0 : Int32)) (1 : Int32) sa ea ta)) + (own_term vs (.int (0 : Int32)) (2 : Int32) sa ea ta)) + (own_term vs (.int (0 : Int32)) (3 : Int32) sa ea ta)) + (own_term vs (.int (0 : Int32)) (4 : Int32) sa ea ta)) + (own_term vs (.int (0 : Int32)) (5 : Int32) sa ea ta)) + (own_term vs (.int (0 : Int32)) (6 : Int32) sa ea ta)) + (own_term vs (.int (0 : Int32)) (7 : Int32) sa ea ta))) % (11 : Int32))), .val (.int (((10 : Int32) * ((((((((own_term vs (.int (0 : Int32)) (0 : Int32) sa ea ta) + (own_term vs (.int (0 : Int32)) (1 : Int32) sa ea ta)) + (own_term vs (.int (0 : Int32)) (2 : Int32) sa ea ta)) + (own_term vs (.int (0 : Int32)) (3 : Int32) sa ea ta)) + (own_term vs (.int (0 : Int32)) (4 : Int32) sa ea ta)) + (own_term vs (.int (0 : Int32)) (5 : Int32) sa ea ta)) + (own_term vs (.int (0 : Int32)) (6 : Int32) sa ea ta)) + (own_term vs (.int (0 : Int32)) (7 : Int32) sa ea ta))) % (11 : Int32))), .val (.int (own_m11 vs (.int (0 : Int32)) ta sa ea))] [])) τ
      refine XS.iconst X31.here hx rfl (hb hby at_285) ?_
      show Steps p.tables e below (T31.setTop (mkF m 286 #[.val (.long q1), .second, .val (.int p2), .val (.int p3), .val (.ref b1), .val (.int ((p2 &&& (15 : Int32)) % (9 : Int32))), .val (.int ((((p2.toUInt32 >>> ((4 : Int32) &&& 31).toUInt32).toInt32) &&& (15 : Int32)) % (9 : Int32))), .val (.int sa), .val (.int ea), .val (.int ta), .val (.int ((((((((own_term vs (.int (0 : Int32)) (0 : Int32) sa ea ta) + (own_term vs (.int (0 : Int32)) (1 : Int32) sa ea ta)) + (own_term vs (.int (0 : Int32)) (2 : Int32) sa ea ta)) + (own_term vs (.int (0 : Int32)) (3 : Int32) sa ea ta)) + (own_term vs (.int (0 : Int32)) (4 : Int32) sa ea ta)) + (own_term vs (.int (0 : Int32)) (5 : Int32) sa ea ta)) + (own_term vs (.int (0 : Int32)) (6 : Int32) sa ea ta)) + (own_term vs (.int (0 : Int32)) (7 : Int32) sa ea ta))), .val (.int (((10 : Int32) * ((((((((own_term vs (.int (0 : Int32)) (0 : Int32) sa ea ta) + (own_term vs (.int (0 : Int32)) (1 : Int32) sa ea ta)) + (own_term vs (.int (0 : Int32)) (2 : Int32) sa ea ta)) + (own_term vs (.int (0 : Int32)) (3 : Int32) sa ea ta)) + (own_term vs (.int (0 : Int32)) (4 : Int32) sa ea ta)) + (own_term vs (.int (0 : Int32)) (5 : Int32) sa ea ta)) + (own_term vs (.int (0 : Int32)) (6 : Int32) sa ea ta)) + (own_term vs (.int (0 : Int32)) (7 : Int32) sa ea ta))) % (11 : Int32))), .val (.int (((10 : Int32) * ((((((((own_term vs (.int (0 : Int32)) (0 : Int32) sa ea ta) + (own_term vs (.int (0 : Int32)) (1 : Int32) sa ea ta)) + (own_term vs (.int (0 : Int32)) (2 : Int32) sa ea ta)) + (own_term vs (.int (0 : Int32)) (3 : Int32) sa ea ta)) + (own_term vs (.int (0 : Int32)) (4 : Int32) sa ea ta)) + (own_term vs (.int (0 : Int32)) (5 : Int32) sa ea ta)) + (own_term vs (.int (0 : Int32)) (6 : Int32) sa ea ta)) + (own_term vs (.int (0 : Int32)) (7 : Int32) sa ea ta))) % (11 : Int32))), .val (.int (own_m11 vs (.int (0 : Int32)) ta sa ea))] [(.int (1 : Int32))])) τ
      refine XS.goto X31.here hx rfl (pc0 := 286) (pc' := 290) rfl (hb hby at_286) (by decide) (by decide) ?_
      show Steps p.tables e below (T31.setTop (mkF m 290 #[.val (.long q1), .second, .val (.int p2), .val (.int p3), .val (.ref b1), .val (.int ((p2 &&& (15 : Int32)) % (9 : Int32))), .val (.int ((((p2.toUInt32 >>> ((4 : Int32) &&& 31).toUInt32).toInt32) &&& (15 : Int32)) % (9 : Int32))), .val (.int sa), .val (.int ea), .val (.int ta), .val (.int ((((((((own_term vs (.int (0 : Int32)) (0 : Int32) sa ea ta) + (own_term vs (.int (0 : Int32)) (1 : Int32) sa ea ta)) + (own_term vs (.int (0 : Int32)) (2 : Int32) sa ea ta)) + (own_term vs (.int (0 : Int32)) (3 : Int32) sa ea ta)) + (own_term vs (.int (0 : Int32)) (4 : Int32) sa ea ta)) + (own_term vs (.int (0 : Int32)) (5 : Int32) sa ea ta)) + (own_term vs (.int (0 : Int32)) (6 : Int32) sa ea ta)) + (own_term vs (.int (0 : Int32)) (7 : Int32) sa ea ta))), .val (.int (((10 : Int32) * ((((((((own_term vs (.int (0 : Int32)) (0 : Int32) sa ea ta) + (own_term vs (.int (0 : Int32)) (1 : Int32) sa ea ta)) + (own_term vs (.int (0 : Int32)) (2 : Int32) sa ea ta)) + (own_term vs (.int (0 : Int32)) (3 : Int32) sa ea ta)) + (own_term vs (.int (0 : Int32)) (4 : Int32) sa ea ta)) + (own_term vs (.int (0 : Int32)) (5 : Int32) sa ea ta)) + (own_term vs (.int (0 : Int32)) (6 : Int32) sa ea ta)) + (own_term vs (.int (0 : Int32)) (7 : Int32) sa ea ta))) % (11 : Int32))), .val (.int (((10 : Int32) * ((((((((own_term vs (.int (0 : Int32)) (0 : Int32) sa ea ta) + (own_term vs (.int (0 : Int32)) (1 : Int32) sa ea ta)) + (own_term vs (.int (0 : Int32)) (2 : Int32) sa ea ta)) + (own_term vs (.int (0 : Int32)) (3 : Int32) sa ea ta)) + (own_term vs (.int (0 : Int32)) (4 : Int32) sa ea ta)) + (own_term vs (.int (0 : Int32)) (5 : Int32) sa ea ta)) + (own_term vs (.int (0 : Int32)) (6 : Int32) sa ea ta)) + (own_term vs (.int (0 : Int32)) (7 : Int32) sa ea ta))) % (11 : Int32))), .val (.int (own_m11 vs (.int (0 : Int32)) ta sa ea))] [(.int (1 : Int32))])) τ
      exact κ)
    obtain ⟨fsα, hr, hrun, hended, hW, hsame⟩ := X31.leave (v := some (.int (1 : Int32))) (fun h => by rw [Bd.returns] at h; cases h)
    refine hGL ⟨_, _, hG _ (pre _ ?_), hrun, hended, _, _, rfl, ?_, ⟨_, rfl⟩, hW, hsame.mono (by decide) (by decide)⟩
    · exact retN X31 hx (t := .boolean) Bd.returns (by simp) (hb hby at_290) hr
    · show Q0 Z q1 p2 p3 h0 n0 _ T31.heap _
      rw [hs31]
      exact ⟨rfl, NN⟩
set_option maxRecDepth 65536 in
set_option maxHeartbeats 40000000 in
theorem comes_1 {Post : Tables → Env → Array Value → State → Outcome → State → Prop} (hpost : ∀ tb e args s v u, (limb_1_1.after args s (.returned v) u = true ∧ limb_1_2.after args s (.returned v) u = true ∧ True) → FrameEnd s (.returned v) u (Jvm.fieldLocs frame_1_writes args s ++ Jvm.arrayLocs frame_1_arrays args s ++ Jvm.staticLocs frame_1_statics s) 16 128 → Post tb e args s (.returned v) u) :
    ArmFor flags0 classFile x code maxLocals ret World_1 tables_1 room_1 Calls_1 rest_1 Pre_1 Post := by
  intro l hfl _ _ p e ha hc hk s m args below hf hA hF happ hP
  obtain ⟨hcalls, hrest, hpre⟩ := hP
  obtain ⟨-, -, -, hnamed, -, -, -, hat⟩ := (Spec.applies_iff hf).mp happ
  obtain ⟨hg, hn⟩ := and_e (Cond.before_iff.mp (show (Jvm.Cond.and given_1 narrow_1).before args s = true from hpre))
  obtain ⟨gv1, gv2⟩ := and_e hg
  obtain ⟨gv3, gv4⟩ := and_e gv2
  obtain ⟨gv5, gv6⟩ := and_e gv4
  obtain ⟨w0, w1, w2, rfl⟩ : ∃ w0 w1 w2 : Value, args = #[w0, w1, w2] := by
    have hs : args.size = 3 := by simpa [Cond.value, given_1] using gv1
    obtain ⟨L⟩ := args
    match L, hs with
    | [w0, w1, w2], _ => exact ⟨w0, w1, w2, rfl⟩
  have hw := fun d (hd : d ∈ tables_1) => atoms_spec (ws := Jvm.Cond.code x code maxLocals ret :: tables_1) hat d (List.mem_cons_of_mem _ hd)
  have hfit : Fit s := fun {y c} hc i hi => by
    obtain ⟨ha, rfl⟩ := Array.getElem?_eq_some_iff.mp hc
    have q := List.all_eq_true.mp ((Array.all_eq_true_iff_forall_mem.mp hF) _ (Array.getElem_mem ha)) i (List.mem_range.mpr hi)
    simpa [Array.getElem?_eq_getElem hi] using q
  obtain ⟨i0, ei0⟩ := isL_v gv3
  obtain rfl : w0 = (.long i0) := Option.some.inj ei0
  obtain ⟨i1, ei1⟩ := is_v gv5
  obtain rfl : w1 = (.int i1) := Option.some.inj ei1
  obtain ⟨i2, ei2⟩ := is_v gv6
  obtain rfl : w2 = (.int i2) := Option.some.inj ei2
  obtain ⟨n, o, h1, h2, h3, _, L, rfl, ⟨rfl, N⟩, hq⟩ := rm0 l s _ hw tables_1 i0 i1 i2  s.heap s.heap.size (Nat.le_refl _)  p e ha hc hk s m _ below hf ((Spec.applies_iff_loose hf).mp happ).1 ⟨rfl, State.Warmed39.refl s, rfl⟩ trivial
  refine ⟨n, _, h1, h2, h3, hpost _ _ _ _ _ _ ⟨Cond.after_iff.mpr rfl, Cond.after_iff.mpr (eq_i res_at (Term.int_eval (1)) rfl), trivial⟩ ⟨hq.1, hq.2.1, (hq.2.2.sift fun y hy => Or.inr (N y hy)).mono (by decide) (by decide)⟩⟩
theorem main_1_1 : Claimed_1_1 := comes_1 fun _ _ _ _ _ _ h hF => ⟨h.1, hF⟩
theorem main_1_2 : Claimed_1_2 := comes_1 fun _ _ _ _ _ _ h hF => ⟨h.2.1, hF⟩
end Jvm.Pilot.@@N@@
namespace Jvm.Pilot.@@N@@
open Jvm Jvm.ClassFile Sem Op Lib Jvm.Free Jvm.Stand Jvm.Pilot.@@N@@.Jvm.D
/-! MADE BY PROGRAM (witnessworld.py) out of the Statement's table words and the real class files: 10 classes; the members and pool entries that the words name. The judged class is class 1, her method 1. -/
namespace start1
open Jvm.ClassFile
def u (s : String) : CpInfo := .utf8 (stringToUtf16 s)
/-- a pool by its gaps: so many unusable entries, then the entry; so many at the end -/
def gap : Nat → List CpInfo → List CpInfo
  | 0, r => r
  | n + 1, r => .unusable :: gap n r
def poolList (es : List (Nat × CpInfo)) (last : Nat) : List CpInfo := es.foldr (fun e r => gap e.1 (e.2 :: r)) (gap last [])
def pool (es : List (Nat × CpInfo)) (last : Nat) : Array CpInfo := ⟨poolList es last⟩
def fileOf (pool : Array CpInfo) (this : Nat) (attrs : Array Attribute := #[]) (ms : Array MethodInfo := #[]) (fl : Nat := 33) (sup : Nat := 0) (ifs : Array Nat := #[]) (fds : Array FieldInfo := #[]) : ClassFile where
  minorVersion := 0
  majorVersion := 65
  constantPool := pool
  accessFlags := fl
  thisClass := this
  superClass := sup
  interfaces := ifs
  fields := fds
  methods := ms
  attributes := attrs
def plain (name : String) (sup : Option ClassId) : Class where
  name := name
  kind := .ordinary
  loader := none
  accessFlags := 33
  super := sup
  interfaces := #[]
  cf := none
  fields := #[]
  methods := #[]
  instanceTypes := #[]
  staticTypes := #[]
  resolved := #[]
  callSites := []
  init := .initialized
  statics := none
  mirror := none

def pool0 : Array CpInfo := pool [(5, u "<init>"), (0, u "()V"), (1, .class_ 10), (1, u "java/lang/Object")] 113

def k0m0 : Method := { name := "<init>", desc := "()V", sig := { parameters := [], returnType := none }, accessFlags := 1, code := none }
/-- java/lang/Object -/
def k0 : Class := { plain "java/lang/Object" none with
  accessFlags := 33
  interfaces := #[]
  cf := some (fileOf pool0 8 #[] #[{ accessFlags := 1, nameIndex := 5, descriptorIndex := 6, attributes := #[] }] 33 0 #[] #[])
  fields := #[]
  methods := #[k0m0]
  instanceTypes := #[]
  staticTypes := #[]
  resolved := Array.replicate 124 none
  statics := none }

def pool1 : Array CpInfo := pool [(2, .class_ 4), (1, u "java/lang/Object"), (0, u "<init>"), (0, u "()V"), (0, .methodref 8 9), (0, .class_ 10), (0, .nameAndType 11 12), (0, u "com/example/campo_livre/campolivre/CheckDigitsModulo11PinLaw"), (0, u "ch"), (0, u "(JI)B"), (0, .methodref 14 15), (0, .class_ 16), (0, .nameAndType 17 18), (0, u "java/lang/Math"), (0, u "min"), (0, u "(II)I"), (0, .methodref 14 20), (0, .nameAndType 21 18), (0, u "max"), (0, .methodref 8 23), (0, .nameAndType 24 25), (0, u "term"), (0, u "([BIIII)I"), (0, .methodref 27 28), (0, .class_ 29), (0, .nameAndType 30 31), (0, u "com/example/campo_livre/campolivre/CheckDigits"), (0, u "modulo11"), (0, u "([BIII)I"), (0, .long 63), (3, u "law"), (0, u "(JII)Z")] 5

def k1m0 : Method := { name := "<init>", desc := "()V", sig := { parameters := [], returnType := none }, accessFlags := 1, code := none }
def k1c1 : Code := { maxStack := 6, maxLocals := 14, code := code, exceptionTable := #[], attributes := #[] }
def k1m1 : Method := { name := "law", desc := "(JII)Z", sig := { parameters := [.long, .int, .int], returnType := some .boolean }, accessFlags := 9, code := some k1c1 }
def k1c2 : Code := { maxStack := 4, maxLocals := 4, code := method_3_code, exceptionTable := #[], attributes := #[] }
def k1m2 : Method := { name := "ch", desc := "(JI)B", sig := { parameters := [.long, .int], returnType := some .byte }, accessFlags := 10, code := some k1c2 }
def k1c3 : Code := { maxStack := 5, maxLocals := 6, code := method_4_code, exceptionTable := #[], attributes := #[] }
def k1m3 : Method := { name := "term", desc := "([BIIII)I", sig := { parameters := [(.array .byte), .int, .int, .int, .int], returnType := some .int }, accessFlags := 10, code := some k1c3 }
/-- com/example/campo_livre/campolivre/CheckDigitsModulo11PinLaw -/
def k1 : Class := { plain "com/example/campo_livre/campolivre/CheckDigitsModulo11PinLaw" (some 0) with
  accessFlags := 49
  interfaces := #[]
  cf := some (fileOf pool1 8 #[] #[{ accessFlags := 1, nameIndex := 5, descriptorIndex := 6, attributes := #[] }, { accessFlags := 9, nameIndex := 36, descriptorIndex := 37, attributes := #[] }, { accessFlags := 10, nameIndex := 11, descriptorIndex := 12, attributes := #[] }, { accessFlags := 10, nameIndex := 24, descriptorIndex := 25, attributes := #[] }] 49 2 #[] #[])
  fields := #[]
  methods := #[k1m0, k1m1, k1m2, k1m3]
  instanceTypes := #[]
  staticTypes := #[]
  resolved := Array.replicate 43 none
  statics := none }

def pool2 : Array CpInfo := pool [(1, .class_ 2), (0, u "java/lang/Math"), (1, .class_ 6), (1, u "java/lang/Object"), (0, u "<init>"), (0, u "()V"), (89, .class_ 100), (1, u "java/lang/Math$RandomNumberGeneratorHolder"), (71, u "negativeZeroFloatBits"), (0, u "J"), (2, u "negativeZeroDoubleBits"), (21, u "max"), (2, u "min"), (43, u "$assertionsDisabled"), (0, u "Z"), (88, u "(II)I"), (2, u "twoToTheDoubleScaleDown"), (0, u "D"), (4, u "twoToTheDoubleScaleUp"), (9, u "E"), (3, u "PI"), (2, u "TAU"), (2, u "DEGREES_TO_RADIANS"), (0, u "RADIANS_TO_DEGREES")] 94

def k2m0 : Method := { name := "<init>", desc := "()V", sig := { parameters := [], returnType := none }, accessFlags := 2, code := none }
def k2c1 : Code := { maxStack := 2, maxLocals := 2, code := jdk_29_method_65_code, exceptionTable := #[], attributes := #[] }
def k2m1 : Method := { name := "max", desc := "(II)I", sig := { parameters := [.int, .int], returnType := some .int }, accessFlags := 9, code := some k2c1 }
def k2c2 : Code := { maxStack := 2, maxLocals := 2, code := jdk_29_method_69_code, exceptionTable := #[], attributes := #[] }
def k2m2 : Method := { name := "min", desc := "(II)I", sig := { parameters := [.int, .int], returnType := some .int }, accessFlags := 9, code := some k2c2 }
/-- java/lang/Math -/
def k2 : Class := { plain "java/lang/Math" (some 0) with
  accessFlags := 49
  interfaces := #[]
  cf := some (fileOf pool2 1 #[.nestMembers #[98]] #[{ accessFlags := 2, nameIndex := 7, descriptorIndex := 8, attributes := #[] }, { accessFlags := 9, nameIndex := 198, descriptorIndex := 335, attributes := #[] }, { accessFlags := 9, nameIndex := 201, descriptorIndex := 335, attributes := #[] }] 49 4 #[] #[{ accessFlags := 25, nameIndex := 354, descriptorIndex := 339, attributes := #[] }, { accessFlags := 25, nameIndex := 358, descriptorIndex := 339, attributes := #[] }, { accessFlags := 25, nameIndex := 361, descriptorIndex := 339, attributes := #[] }, { accessFlags := 26, nameIndex := 364, descriptorIndex := 339, attributes := #[] }, { accessFlags := 26, nameIndex := 365, descriptorIndex := 339, attributes := #[] }, { accessFlags := 26, nameIndex := 172, descriptorIndex := 173, attributes := #[] }, { accessFlags := 26, nameIndex := 176, descriptorIndex := 173, attributes := #[] }, { accessFlags := 8, nameIndex := 344, descriptorIndex := 339, attributes := #[] }, { accessFlags := 8, nameIndex := 338, descriptorIndex := 339, attributes := #[] }, { accessFlags := 4120, nameIndex := 245, descriptorIndex := 246, attributes := #[] }])
  fields := #[{ name := "E", type := .double, accessFlags := 25, slot := 0, constantValue := 0 }, { name := "PI", type := .double, accessFlags := 25, slot := 1, constantValue := 0 }, { name := "TAU", type := .double, accessFlags := 25, slot := 2, constantValue := 0 }, { name := "DEGREES_TO_RADIANS", type := .double, accessFlags := 26, slot := 3, constantValue := 0 }, { name := "RADIANS_TO_DEGREES", type := .double, accessFlags := 26, slot := 4, constantValue := 0 }, { name := "negativeZeroFloatBits", type := .long, accessFlags := 26, slot := 5, constantValue := 0 }, { name := "negativeZeroDoubleBits", type := .long, accessFlags := 26, slot := 6, constantValue := 0 }, { name := "twoToTheDoubleScaleUp", type := .double, accessFlags := 8, slot := 7, constantValue := 0 }, { name := "twoToTheDoubleScaleDown", type := .double, accessFlags := 8, slot := 8, constantValue := 0 }, { name := "$assertionsDisabled", type := .boolean, accessFlags := 4120, slot := 9, constantValue := 0 }]
  methods := #[k2m0, k2m1, k2m2]
  instanceTypes := #[]
  staticTypes := #[.double, .double, .double, .double, .double, .long, .long, .double, .double, .boolean]
  resolved := Array.replicate 460 none
  statics := none }

def pool3 : Array CpInfo := pool [(2, .class_ 4), (1, u "java/lang/Object"), (0, u "<init>"), (0, u "()V"), (13, .class_ 22), (1, u "com/example/campo_livre/campolivre/CheckDigits"), (2, .methodref 20 26), (0, .nameAndType 27 28), (0, u "modulo11Sum"), (0, u "([BIIII)I"), (2, u "modulo11"), (0, u "([BIII)I"), (14, u "GENERAL_DIGIT_INDEX"), (0, u "I"), (2, u "NONE"), (1, u "BANKS_TOP_WEIGHT")] 15

def k3m0 : Method := { name := "<init>", desc := "()V", sig := { parameters := [], returnType := none }, accessFlags := 2, code := none }
def k3c1 : Code := { maxStack := 6, maxLocals := 5, code := prog_16_method_7_code, exceptionTable := #[], attributes := #[] }
def k3m1 : Method := { name := "modulo11", desc := "([BIII)I", sig := { parameters := [(.array .byte), .int, .int, .int], returnType := some .int }, accessFlags := 8, code := some k3c1 }
def k3c2 : Code := { maxStack := 3, maxLocals := 8, code := prog_16_method_9_code, exceptionTable := #[], attributes := #[] }
def k3m2 : Method := { name := "modulo11Sum", desc := "([BIIII)I", sig := { parameters := [(.array .byte), .int, .int, .int, .int], returnType := some .int }, accessFlags := 10, code := some k3c2 }
/-- com/example/campo_livre/campolivre/CheckDigits -/
def k3 : Class := { plain "com/example/campo_livre/campolivre/CheckDigits" (some 0) with
  accessFlags := 48
  interfaces := #[]
  cf := some (fileOf pool3 20 #[] #[{ accessFlags := 2, nameIndex := 5, descriptorIndex := 6, attributes := #[] }, { accessFlags := 8, nameIndex := 31, descriptorIndex := 32, attributes := #[] }, { accessFlags := 10, nameIndex := 27, descriptorIndex := 28, attributes := #[] }] 48 2 #[] #[{ accessFlags := 26, nameIndex := 47, descriptorIndex := 48, attributes := #[] }, { accessFlags := 26, nameIndex := 51, descriptorIndex := 48, attributes := #[] }, { accessFlags := 26, nameIndex := 53, descriptorIndex := 48, attributes := #[] }])
  fields := #[{ name := "GENERAL_DIGIT_INDEX", type := .int, accessFlags := 26, slot := 0, constantValue := 0 }, { name := "NONE", type := .int, accessFlags := 26, slot := 1, constantValue := 0 }, { name := "BANKS_TOP_WEIGHT", type := .int, accessFlags := 26, slot := 2, constantValue := 0 }]
  methods := #[k3m0, k3m1, k3m2]
  instanceTypes := #[]
  staticTypes := #[.int, .int, .int]
  resolved := Array.replicate 69 none
  statics := none }

def pool4 : Array CpInfo := pool [(1, u "java/lang/Cloneable"), (0, .class_ 1), (0, u "java/lang/Object"), (0, .class_ 3)] 3

/-- java/lang/Cloneable -/
def k4 : Class := { plain "java/lang/Cloneable" (some 0) with
  accessFlags := 1537
  interfaces := #[]
  cf := some (fileOf pool4 2 #[] #[] 1537 4 #[] #[])
  fields := #[]
  methods := #[]
  instanceTypes := #[]
  staticTypes := #[]
  resolved := Array.replicate 8 none
  statics := none }

def pool5 : Array CpInfo := pool [(1, u "java/io/Serializable"), (0, .class_ 1), (0, u "java/lang/Object"), (0, .class_ 3)] 3

/-- java/io/Serializable -/
def k5 : Class := { plain "java/io/Serializable" (some 0) with
  accessFlags := 1537
  interfaces := #[]
  cf := some (fileOf pool5 2 #[] #[] 1537 4 #[] #[])
  fields := #[]
  methods := #[]
  instanceTypes := #[]
  staticTypes := #[]
  resolved := Array.replicate 8 none
  statics := none }

/-- the primitive byte -/
def k6 : Class := { plain "byte" none with kind := .primitive 'B', accessFlags := 0x411 }
/-- [B -/
def k7 : Class := { plain "[B" (some 0) with kind := .array 6 .byte, interfaces := #[4, 5], accessFlags := 1041 }

/-- the primitive int -/
def k8 : Class := { plain "int" none with kind := .primitive 'I', accessFlags := 0x411 }
/-- [I -/
def k9 : Class := { plain "[I" (some 0) with kind := .array 8 .int, interfaces := #[4, 5], accessFlags := 1041 }

def heap : Heap := #[]
def classes : Array Class := #[k0, k1, k2, k3, k4, k5, k6, k7, k8, k9]
def interned : List (Array UInt16 × Addr) := []
def slotsUsed : Nat := 0
def theMethod : MethodId := ⟨1, 1⟩
def args0 : Array Value := #[.long 1, .int 5, .int 9]
def aboutOver (below : List Frame) : State where
  vm := { classes := classes, interned := interned.toArray }
  heap := heap
  slotsUsed := slotsUsed
  threads := #[{ frames := .invoking theMethod args0 :: below }]
def below0 : List Frame := [.native { method := ⟨0, 0⟩, args := #[] }]
def about1 : State := aboutOver below0
def p0 : Program := .bare "" "" ""
def e0 : Env := launch0.env 0 0 0
theorem w_frames : about1.frames = Frame.invoking theMethod args0 :: below0 := rfl
set_option maxRecDepth 65536 in
theorem w_args : argsFit about1.vm theMethod args0 = true := by decide +kernel
set_option maxRecDepth 65536 in
theorem w_heap : heapFits about1 = true := by decide +kernel
set_option maxRecDepth 65536 in
theorem w_runnable : about1.curStatus? = some .runnable := by decide +kernel
set_option maxRecDepth 65536 in
theorem w_alone : about1.alone = true := by decide +kernel
set_option maxRecDepth 65536 in
theorem w_named : about1.methodNamed? x = some theMethod := by decide +kernel
set_option maxRecDepth 65536 in
theorem w_hears : about1.hears theMethod below0 = true := by decide +kernel
set_option maxRecDepth 65536 in
theorem w_ripe : about1.ripe theMethod args0 below0 = true := by decide +kernel
theorem w_running : about1.status = .running := rfl
set_option maxRecDepth 65536 in
theorem w_room : about1.hasRoom e0.platform room_1 = true :=
  launch0.hasRoom_least _ room_1 (by decide +kernel) (by decide +kernel) (by decide +kernel) (by decide +kernel) (by decide +kernel) (by decide +kernel)
theorem allAtoms_all (ts : List Jvm.Cond) (a : Array Jvm.Value) (st : Jvm.State) : (allAtoms ts).before a st = ts.all (fun c => c.before a st) := by
  induction ts with
  | nil => rfl
  | cons c t ih =>
    show (Jvm.Cond.and c (allAtoms t)).before a st = _
    rw [Jvm.Cond.before_and, ih, List.all_cons]
def words1 : List Jvm.Cond := Jvm.Cond.code x code maxLocals ret :: tables_1
/-- a 'code' word, met by the world's own term for the bytes: nothing is compared byte by byte -/
theorem code_word {y : MethodName} {bytes : ByteArray} {mx : Nat} {rt : Option FieldType} {a : Array Value} {s : State} {m : MethodId} {meth : Method} {c : Code} (h1 : s.methodNamed? y = some m) (h2 : s.vm.method? m = some meth) (h3 : meth.code = some c) (h4 : c.code = bytes)
    (h5 : (c.maxLocals == mx && c.exceptionTable.isEmpty && decide (c.maxStack ≤ mostOperands) && decide (meth.sig.returnType = rt) && !meth.locks && decide (parseMethodDescriptor y.desc = some meth.sig)) = true) : (Jvm.Cond.code y bytes mx rt).before a s = true := by
  simp only [Bool.and_eq_true, beq_iff_eq, Bool.not_eq_true', decide_eq_true_eq] at h5
  obtain ⟨⟨⟨⟨⟨g1, g2⟩, g3⟩, g4⟩, g5⟩, g6⟩ := h5
  simp [Cond.before, Cond.holds, Cond.value, h1, h2, h3, h4, g1, g2, g3, g4, g5, g6]
def isCode : Jvm.Cond → Bool
  | .code _ _ _ _ => true
  | _ => false
theorem all_split {L : List Jvm.Cond} {P : Jvm.Cond → Bool} (h1 : L.all (fun c => isCode c || P c) = true) (h2 : ∀ c ∈ L.filter isCode, P c = true) : L.all P = true := by
  refine List.all_eq_true.mpr fun c hc => ?_
  have h := List.all_eq_true.mp h1 c hc
  rcases Bool.eq_false_or_eq_true (isCode c) with hi | hi
  · exact h2 c (List.mem_filter.mpr ⟨hc, hi⟩)
  · simpa [hi] using h
set_option maxRecDepth 65536 in
theorem w_c0 : (Jvm.Cond.code x code maxLocals ret).before args0 about1 = true := code_word (m := ⟨1, 1⟩) (meth := k1m1) (c := k1c1) (by decide +kernel) rfl rfl rfl (by decide +kernel)
set_option maxRecDepth 65536 in
theorem w_c1 : (Jvm.Cond.code ({ cls := "com/example/campo_livre/campolivre/CheckDigitsModulo11PinLaw", name := "ch", desc := "(JI)B" } : Jvm.MethodName) method_3_code (4 : Nat) (Option.some Jvm.ClassFile.FieldType.byte)).before args0 about1 = true := code_word (m := ⟨1, 2⟩) (meth := k1m2) (c := k1c2) (by decide +kernel) rfl rfl rfl (by decide +kernel)
set_option maxRecDepth 65536 in
theorem w_c2 : (Jvm.Cond.code ({ cls := "java/lang/Math", name := "min", desc := "(II)I" } : Jvm.MethodName) jdk_29_method_69_code (2 : Nat) (Option.some Jvm.ClassFile.FieldType.int)).before args0 about1 = true := code_word (m := ⟨2, 2⟩) (meth := k2m2) (c := k2c2) (by decide +kernel) rfl rfl rfl (by decide +kernel)
set_option maxRecDepth 65536 in
theorem w_c3 : (Jvm.Cond.code ({ cls := "java/lang/Math", name := "max", desc := "(II)I" } : Jvm.MethodName) jdk_29_method_65_code (2 : Nat) (Option.some Jvm.ClassFile.FieldType.int)).before args0 about1 = true := code_word (m := ⟨2, 1⟩) (meth := k2m1) (c := k2c1) (by decide +kernel) rfl rfl rfl (by decide +kernel)
set_option maxRecDepth 65536 in
theorem w_c4 : (Jvm.Cond.code ({ cls := "com/example/campo_livre/campolivre/CheckDigitsModulo11PinLaw", name := "term", desc := "([BIIII)I" } : Jvm.MethodName) method_4_code (6 : Nat) (Option.some Jvm.ClassFile.FieldType.int)).before args0 about1 = true := code_word (m := ⟨1, 3⟩) (meth := k1m3) (c := k1c3) (by decide +kernel) rfl rfl rfl (by decide +kernel)
set_option maxRecDepth 65536 in
theorem w_c5 : (Jvm.Cond.code ({ cls := "com/example/campo_livre/campolivre/CheckDigits", name := "modulo11", desc := "([BIII)I" } : Jvm.MethodName) prog_16_method_7_code (5 : Nat) (Option.some Jvm.ClassFile.FieldType.int)).before args0 about1 = true := code_word (m := ⟨3, 1⟩) (meth := k3m1) (c := k3c1) (by decide +kernel) rfl rfl rfl (by decide +kernel)
set_option maxRecDepth 65536 in
theorem w_c6 : (Jvm.Cond.code ({ cls := "com/example/campo_livre/campolivre/CheckDigits", name := "modulo11Sum", desc := "([BIIII)I" } : Jvm.MethodName) prog_16_method_9_code (8 : Nat) (Option.some Jvm.ClassFile.FieldType.int)).before args0 about1 = true := code_word (m := ⟨3, 2⟩) (meth := k3m2) (c := k3c2) (by decide +kernel) rfl rfl rfl (by decide +kernel)
def codes1 : List Jvm.Cond := [Jvm.Cond.code x code maxLocals ret, Jvm.Cond.code ({ cls := "com/example/campo_livre/campolivre/CheckDigitsModulo11PinLaw", name := "ch", desc := "(JI)B" } : Jvm.MethodName) method_3_code (4 : Nat) (Option.some Jvm.ClassFile.FieldType.byte), Jvm.Cond.code ({ cls := "java/lang/Math", name := "min", desc := "(II)I" } : Jvm.MethodName) jdk_29_method_69_code (2 : Nat) (Option.some Jvm.ClassFile.FieldType.int), Jvm.Cond.code ({ cls := "java/lang/Math", name := "max", desc := "(II)I" } : Jvm.MethodName) jdk_29_method_65_code (2 : Nat) (Option.some Jvm.ClassFile.FieldType.int), Jvm.Cond.code ({ cls := "com/example/campo_livre/campolivre/CheckDigitsModulo11PinLaw", name := "term", desc := "([BIIII)I" } : Jvm.MethodName) method_4_code (6 : Nat) (Option.some Jvm.ClassFile.FieldType.int), Jvm.Cond.code ({ cls := "com/example/campo_livre/campolivre/CheckDigits", name := "modulo11", desc := "([BIII)I" } : Jvm.MethodName) prog_16_method_7_code (5 : Nat) (Option.some Jvm.ClassFile.FieldType.int), Jvm.Cond.code ({ cls := "com/example/campo_livre/campolivre/CheckDigits", name := "modulo11Sum", desc := "([BIIII)I" } : Jvm.MethodName) prog_16_method_9_code (8 : Nat) (Option.some Jvm.ClassFile.FieldType.int)]
set_option maxRecDepth 65536 in
theorem codes_eq : words1.filter isCode = codes1 := rfl
theorem w_codes : ∀ c ∈ words1.filter isCode, c.before args0 about1 = true := by
  rw [codes_eq]
  intro c hc
  simp only [codes1, List.mem_cons, List.not_mem_nil, or_false] at hc
  rcases hc with rfl | rfl | rfl | rfl | rfl | rfl | rfl
  · exact w_c0
  · exact w_c1
  · exact w_c2
  · exact w_c3
  · exact w_c4
  · exact w_c5
  · exact w_c6
set_option maxRecDepth 65536 in
theorem w_t1 : words1.all (fun c => isCode c || c.before args0 about1) = true := by decide +kernel
theorem w_tables : (allAtoms (Jvm.Cond.code x code maxLocals ret :: tables_1)).before args0 about1 = true := by
  rw [allAtoms_all]
  show words1.all (fun c => c.before args0 about1) = true
  refine all_split ?_ w_codes
  rw [w_t1]
set_option maxRecDepth 65536 in
theorem w_case : (Jvm.Cond.and given_1 narrow_1).before args0 about1 = true := by decide +kernel
theorem w_applies : (headSpec (Jvm.Cond.code x code maxLocals ret :: tables_1) room_1).applies x e0.platform about1 = true :=
  (Spec.applies_iff w_frames).mpr ⟨w_running, w_runnable, w_alone, w_named, w_hears, w_ripe, w_room, w_tables⟩
theorem atStart : AtStart classFile x code maxLocals ret World_1 tables_1 room_1 Calls_1 rest_1 Pre_1 launch0 p0 e0 about1 theMethod args0 below0 :=
  ⟨lists_1, trivial, launch0.admits_env _ _ _, launch0.least_env, fairChoices_fair.cas, fairChoices_fair.clock, w_frames, w_args, w_heap, w_applies, trivial, trivial, w_case⟩
end start1
theorem witness_1 : WitnessClaimed_1 := ⟨start1.p0, start1.e0, start1.about1, start1.theMethod, start1.args0, start1.below0, start1.atStart⟩
end Jvm.Pilot.@@N@@
