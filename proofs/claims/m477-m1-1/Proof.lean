import JvmDerived
import JvmDerived.Pilot.@@N@@Statement
import JvmDerived.Pilot.@@N@@Code
set_option linter.unusedVariables false
set_option linter.unusedSimpArgs false
namespace Jvm.Pilot.@@N@@
open Jvm Jvm.ClassFile Sem Op Lib Jvm.Free Jvm.Stand Jvm.LawKit Jvm.RoadKit Bundle Jvm.Pilot.@@N@@.Jvm.D
theorem own_wrap {A : Prop} (h : ∀ GL : Prop, (A → GL) → GL) : A := h A id
theorem own_sta_keep {Z : State} {h h' : Heap} {C n d : String} {v : Value} (F : Sta Z h C n d v) (K : Keep h h' []) : Sta Z h' C n d v := by
  obtain ⟨cf, i, k, f, st, cell, h1, h2, h3, h4, h5, h6⟩ := F
  exact ⟨cf, i, k, f, st, cell, h1, h2, h3, h4, K.2.1 st cell h5 nin0, h6⟩
theorem own_eqI {args : Array Value} {Z : State} {t : Term} {k : Int32} (h : (Jvm.Cond.eq t (.int k)).value args Z none Z [] = some true) : t.eval args Z none [] Z = some (.int k) := by
  obtain ⟨x, y, e1, e2, -, q⟩ := cmp_v (Or.inl h)
  have e2' : (Term.int k).eval args Z none [] Z = some (.int k) := Term.int_eval k
  rw [e2'] at e2
  cases e2
  obtain ⟨z, rfl⟩ : ∃ z, x = .int z := q
  have := gotT (Cond.eq_ints e1 e2') h
  rw [e1, this]
theorem own_eqJ {args : Array Value} {Z : State} {t : Term} {k : Int64} (h : (Jvm.Cond.eq t (.long k)).value args Z none Z [] = some true) : t.eval args Z none [] Z = some (.long k) := by
  obtain ⟨x, y, e1, e2, -, q⟩ := cmp_v (Or.inl h)
  have e2' : (Term.long k).eval args Z none [] Z = some (.long k) := long_at k
  rw [e2'] at e2
  cases e2
  obtain ⟨z, rfl⟩ : ∃ z, x = .long z := q
  have := gotT (eq_L e1 e2') h
  rw [e1, this]
theorem own_eqR {args : Array Value} {Z : State} {t u : Term} {a : Addr} (h : (Jvm.Cond.eq t u).value args Z none Z [] = some true) (hu : u.eval args Z none [] Z = some (.ref a)) : t.eval args Z none [] Z = some (.ref a) := by
  obtain ⟨x, y, e1, e2, -, q⟩ := cmp_v (Or.inl h)
  rw [hu] at e2
  cases e2
  have hr : x.isRef = true := q.2
  have := gotT (eq_R e1 hu hr rfl) h
  rw [e1, this]
theorem own_len {args : Array Value} {Z : State} {t : Term} {a : Addr} {cl : Cell} {ty : FieldType} {k : Int32} (ev : t.eval args Z none [] Z = some (.ref a)) (A : Arr Z Z.heap a cl ty) (h : (Jvm.Cond.eq (.length t) (.int k)).value args Z none Z [] = some true) : cl.slots.size < 2 ^ 31 ∧ cl.slots.size.toInt32 = k := by
  have e := own_eqI h
  have e' : (Term.length t).eval args Z none [] Z = if cl.slots.size < 2 ^ 31 then some (.int cl.slots.size.toInt32) else none := by
    simp only [Term.eval, ev, Arr.fin (Vm.Alike.refl _) A, Option.bind_eq_bind, Option.bind_some, Option.pure_def]
  rw [e'] at e
  split at e
  · rename_i q
    exact ⟨q, by injection e with e; injection e⟩
  · cases e
theorem own_el {args : Array Value} {Z : State} {t : Term} {a : Addr} {cl : Cell} {ty : FieldType} {v : Value} {j : Int32} (ev : t.eval args Z none [] Z = some (.ref a)) (A : Arr Z Z.heap a cl ty) (h : (Term.elem t (.int j)).eval args Z none [] Z = some v) : cl.slots[j.toNatClampNeg]? = some v :=
  (elem_in h ev (Term.int_eval j) A.1).2
theorem own_fl {args : Array Value} {Z : State} {t : Term} {a : Addr} {C n d : String} {k : Int32} (ev : t.eval args Z none [] Z = some (.ref a)) (h : (Jvm.Cond.eq (.field t C n d) (.int k)).value args Z none Z [] = some true) : Fld Z Z.heap a C n d (.int k) := by
  have e := own_eqI h
  rw [fld_at ev] at e
  exact Fld.start e
abbrev own_ps : List Value := [(.long (1 : Int64)), (.long (10 : Int64)), (.long (100 : Int64)), (.long (1000 : Int64)), (.long (10000 : Int64)), (.long (100000 : Int64)), (.long (1000000 : Int64)), (.long (10000000 : Int64)), (.long (100000000 : Int64)), (.long (1000000000 : Int64)), (.long (10000000000 : Int64)), (.long (100000000000 : Int64)), (.long (1000000000000 : Int64)), (.long (10000000000000 : Int64)), (.long (100000000000000 : Int64)), (.long (1000000000000000 : Int64)), (.long (10000000000000000 : Int64)), (.long (100000000000000000 : Int64)), (.long (1000000000000000000 : Int64))]
abbrev own_ss : List Value := [(.long (9223372036854775807 : Int64)), (.long (922337203685477580 : Int64)), (.long (92233720368547758 : Int64)), (.long (9223372036854775 : Int64)), (.long (922337203685477 : Int64)), (.long (92233720368547 : Int64)), (.long (9223372036854 : Int64)), (.long (922337203685 : Int64)), (.long (92233720368 : Int64)), (.long (9223372036 : Int64)), (.long (922337203 : Int64)), (.long (92233720 : Int64)), (.long (9223372 : Int64)), (.long (922337 : Int64)), (.long (92233 : Int64)), (.long (9223 : Int64)), (.long (922 : Int64)), (.long (92 : Int64)), (.long (9 : Int64))]
def own_atL (vs : List Value) (j : Int32) : Int64 := match vs.getD j.toNatClampNeg (.long (0 : Int64)) with | .long x => x | _ => 0
theorem own_getL {c : Cell} {vs : List Value} {j : Int32} (H : Has c vs (.long (0 : Int64))) (G : ∀ i, i < c.slots.size → fits .long (vs.getD i (.long (0 : Int64))) = true) (q : ¬ (j < 0 ∨ c.slots.size ≤ j.toNatClampNeg)) : c.slots[j.toNatClampNeg]? = some (.long (own_atL vs j)) := by
  have hlt : j.toNatClampNeg < c.slots.size := Nat.lt_of_not_le fun y => q (Or.inr y)
  obtain ⟨x, hx⟩ := fit_J (G _ hlt)
  rw [H _ hlt, hx]
  unfold own_atL
  rw [hx]
abbrev own_mn : Int64 := (-9223372036854775808 : Int64)
def own_su (x : Int64) (pl : Int32) : Int64 := if pl = (0 : Int32) then x else if pl < (19 : Int32) then (if own_atL own_ss pl < x then (-9223372036854775808 : Int64) else if x < -own_atL own_ss pl then (-9223372036854775808 : Int64) else x * own_atL own_ps pl) else (if x = (0 : Int64) then (0 : Int64) else (-9223372036854775808 : Int64))
def own_ex (x : Int64) (pl : Int32) : Int64 := if pl = (0 : Int32) then x else if x = (-9223372036854775808 : Int64) then (-9223372036854775808 : Int64) else if (18 : Int32) < pl then (if x = (0 : Int64) then (0 : Int64) else (-9223372036854775808 : Int64)) else (if (x * own_atL own_ps pl) / own_atL own_ps pl = x then x * own_atL own_ps pl else (-9223372036854775808 : Int64))
theorem own_in1 {pl : Int32} (h : 0 ≤ pl.toInt) (h2 : pl < (19 : Int32)) : ¬ pl < 0 ∧ pl < (19 : Int32) := by
  refine ⟨?_, h2⟩
  rw [Int32.lt_iff_toInt_lt]; have k : (0 : Int32).toInt = 0 := by decide
  omega
theorem own_18 {pl : Int32} (h2 : ¬ (18 : Int32) < pl) : pl < (19 : Int32) := by
  rw [Int32.lt_iff_toInt_lt] at *; have k : (18 : Int32).toInt = 18 := by decide
  have k2 : (19 : Int32).toInt = 19 := by decide
  omega
theorem own_n1 (q : Int32) : 0 ≤ (q &&& (2147483647 : Int32)).toInt := by
  have := c_mask q 2147483647 31 (by decide) (by decide); omega
theorem own_n2 (q : Int32) : 0 ≤ (q &&& (31 : Int32)).toInt := by
  have := c_mask q 31 5 (by decide) (by decide); omega
theorem own_gen {x P S : Int64} {p s : Int} (hP : P.toInt = p) (hS : S.toInt = s) (h1 : 2 ≤ p) (hs : 0 ≤ s) (h2 : p * s ≤ 9223372036854775807) (h3 : 9223372036854775808 < p * s + p) (hl : s < 9223372036854775807) :
    (if S < x then (-9223372036854775808 : Int64) else if x < -S then (-9223372036854775808 : Int64) else x * P) = (if x = (-9223372036854775808 : Int64) then (-9223372036854775808 : Int64) else if (x * P) / P = x then x * P else (-9223372036854775808 : Int64)) := by
  have kM : (-9223372036854775808 : Int64).toInt = -9223372036854775808 := by decide
  have m := c_lmul x P
  rw [hP] at m
  have r := rng64 (x * P)
  have ng := c_lneg S
  rw [hS] at ng
  have rn := rng64 (-S)
  have en : (-S).toInt = -s := by omega
  have k1 : (-1 : Int64).toInt = -1 := by decide
  have pne : P ≠ -1 := by intro y; rw [y, k1] at hP; omega
  have dv := c_ldiv (x * P) P p hP pne
  have iA : S < x ↔ s < x.toInt := by rw [Int64.lt_iff_toInt_lt, hS]
  have iB : x < -S ↔ x.toInt < -s := by rw [Int64.lt_iff_toInt_lt, en]
  by_cases a : s < x.toInt
  · rw [if_pos (iA.mpr a), if_neg (by intro y; rw [y, kM] at a; omega), if_neg]
    intro q
    have hy : (s + 1) * p ≤ x.toInt * p := Int.mul_le_mul_of_nonneg_right (by omega) (by omega)
    have e1 : (s + 1) * p = p * s + p := by rw [Int.add_mul, Int.one_mul, Int.mul_comm]
    have qi := congrArg Int64.toInt q
    by_cases c : 0 ≤ (x * P).toInt
    · rw [dv.1 c] at qi
      have e2 := Int.ediv_mul_le (x * P).toInt (b := p) (by omega)
      rw [qi] at e2
      omega
    · rw [dv.2 (by omega)] at qi
      have e2 : 0 ≤ -(x * P).toInt / p := Int.ediv_nonneg (by omega) (by omega)
      omega
  · rw [if_neg (fun q => a (iA.mp q))]
    by_cases b : x.toInt < -s
    · rw [if_pos (iB.mpr b)]
      split
      · rfl
      · rw [if_neg]
        intro q
        have hy : (s + 1) * p ≤ (-x.toInt) * p := Int.mul_le_mul_of_nonneg_right (by omega) (by omega)
        have e1 : (s + 1) * p = p * s + p := by rw [Int.add_mul, Int.one_mul, Int.mul_comm]
        have qi := congrArg Int64.toInt q
        by_cases c : 0 ≤ (x * P).toInt
        · rw [dv.1 c] at qi
          have e2 : 0 ≤ (x * P).toInt / p := Int.ediv_nonneg c (by omega)
          omega
        · rw [dv.2 (by omega)] at qi
          have e2 := Int.ediv_mul_le (-(x * P).toInt) (b := p) (by omega)
          have e3 : -(x * P).toInt / p = -x.toInt := by omega
          rw [e3] at e2
          omega
    · rw [if_neg (fun q => b (iB.mp q))]
      have hy1 : x.toInt * p ≤ s * p := Int.mul_le_mul_of_nonneg_right (by omega) (by omega)
      have hy2 : (-s) * p ≤ x.toInt * p := Int.mul_le_mul_of_nonneg_right (by omega) (by omega)
      rw [Int.neg_mul] at hy2
      rw [Int.mul_comm p s] at h2 h3
      have e : (x * P).toInt = x.toInt * p := by
        generalize x.toInt * p = y at *
        generalize s * p = z at *
        omega
      rw [if_neg (by intro y; rw [y, kM] at b; omega), if_pos]
      apply Int64.toInt_inj.mp
      by_cases c : 0 ≤ (x * P).toInt
      · rw [dv.1 c, e, Int.mul_ediv_cancel _ (by omega)]
      · rw [dv.2 (by omega), e, ← Int.neg_mul, Int.mul_ediv_cancel _ (by omega), Int.neg_neg]
theorem own_g18 {pl : Int32} (h1 : pl < (19 : Int32)) : ¬ (18 : Int32) < pl := by
  rw [Int32.lt_iff_toInt_lt] at *
  have k : (18 : Int32).toInt = 18 := by decide
  have k2 : (19 : Int32).toInt = 19 := by decide
  omega
theorem own_l18 {pl : Int32} (h1 : ¬ pl < (19 : Int32)) : (18 : Int32) < pl := by
  rw [Int32.lt_iff_toInt_lt] at *
  have k : (18 : Int32).toInt = 18 := by decide
  have k2 : (19 : Int32).toInt = 19 := by decide
  omega
theorem own_lit {s : Int32} {k : Int} (h : s.toInt = k) (c : Int32) (hc : c.toInt = k) : s = c := Int32.toInt_inj.mp (by rw [h, hc])
theorem own_cases {pl : Int32} (h : 0 ≤ pl.toInt) (h2 : pl < (19 : Int32)) : pl = 0 ∨ pl = 1 ∨ pl = 2 ∨ pl = 3 ∨ pl = 4 ∨ pl = 5 ∨ pl = 6 ∨ pl = 7 ∨ pl = 8 ∨ pl = 9 ∨ pl = 10 ∨ pl = 11 ∨ pl = 12 ∨ pl = 13 ∨ pl = 14 ∨ pl = 15 ∨ pl = 16 ∨ pl = 17 ∨ pl = 18 := by
  rw [Int32.lt_iff_toInt_lt] at h2
  have k : (19 : Int32).toInt = 19 := by decide
  have : pl.toInt = 0 ∨ pl.toInt = 1 ∨ pl.toInt = 2 ∨ pl.toInt = 3 ∨ pl.toInt = 4 ∨ pl.toInt = 5 ∨ pl.toInt = 6 ∨ pl.toInt = 7 ∨ pl.toInt = 8 ∨ pl.toInt = 9 ∨ pl.toInt = 10 ∨ pl.toInt = 11 ∨ pl.toInt = 12 ∨ pl.toInt = 13 ∨ pl.toInt = 14 ∨ pl.toInt = 15 ∨ pl.toInt = 16 ∨ pl.toInt = 17 ∨ pl.toInt = 18 := by omega
  rcases this with h | h | h | h | h | h | h | h | h | h | h | h | h | h | h | h | h | h | h
  · exact Or.inl (own_lit h 0 (by decide))
  · exact Or.inr (Or.inl (own_lit h 1 (by decide)))
  · exact Or.inr (Or.inr (Or.inl (own_lit h 2 (by decide))))
  · exact Or.inr (Or.inr (Or.inr (Or.inl (own_lit h 3 (by decide)))))
  · exact Or.inr (Or.inr (Or.inr (Or.inr (Or.inl (own_lit h 4 (by decide))))))
  · exact Or.inr (Or.inr (Or.inr (Or.inr (Or.inr (Or.inl (own_lit h 5 (by decide)))))))
  · exact Or.inr (Or.inr (Or.inr (Or.inr (Or.inr (Or.inr (Or.inl (own_lit h 6 (by decide))))))))
  · exact Or.inr (Or.inr (Or.inr (Or.inr (Or.inr (Or.inr (Or.inr (Or.inl (own_lit h 7 (by decide)))))))))
  · exact Or.inr (Or.inr (Or.inr (Or.inr (Or.inr (Or.inr (Or.inr (Or.inr (Or.inl (own_lit h 8 (by decide))))))))))
  · exact Or.inr (Or.inr (Or.inr (Or.inr (Or.inr (Or.inr (Or.inr (Or.inr (Or.inr (Or.inl (own_lit h 9 (by decide)))))))))))
  · exact Or.inr (Or.inr (Or.inr (Or.inr (Or.inr (Or.inr (Or.inr (Or.inr (Or.inr (Or.inr (Or.inl (own_lit h 10 (by decide))))))))))))
  · exact Or.inr (Or.inr (Or.inr (Or.inr (Or.inr (Or.inr (Or.inr (Or.inr (Or.inr (Or.inr (Or.inr (Or.inl (own_lit h 11 (by decide)))))))))))))
  · exact Or.inr (Or.inr (Or.inr (Or.inr (Or.inr (Or.inr (Or.inr (Or.inr (Or.inr (Or.inr (Or.inr (Or.inr (Or.inl (own_lit h 12 (by decide))))))))))))))
  · exact Or.inr (Or.inr (Or.inr (Or.inr (Or.inr (Or.inr (Or.inr (Or.inr (Or.inr (Or.inr (Or.inr (Or.inr (Or.inr (Or.inl (own_lit h 13 (by decide)))))))))))))))
  · exact Or.inr (Or.inr (Or.inr (Or.inr (Or.inr (Or.inr (Or.inr (Or.inr (Or.inr (Or.inr (Or.inr (Or.inr (Or.inr (Or.inr (Or.inl (own_lit h 14 (by decide))))))))))))))))
  · exact Or.inr (Or.inr (Or.inr (Or.inr (Or.inr (Or.inr (Or.inr (Or.inr (Or.inr (Or.inr (Or.inr (Or.inr (Or.inr (Or.inr (Or.inr (Or.inl (own_lit h 15 (by decide)))))))))))))))))
  · exact Or.inr (Or.inr (Or.inr (Or.inr (Or.inr (Or.inr (Or.inr (Or.inr (Or.inr (Or.inr (Or.inr (Or.inr (Or.inr (Or.inr (Or.inr (Or.inr (Or.inl (own_lit h 16 (by decide))))))))))))))))))
  · exact Or.inr (Or.inr (Or.inr (Or.inr (Or.inr (Or.inr (Or.inr (Or.inr (Or.inr (Or.inr (Or.inr (Or.inr (Or.inr (Or.inr (Or.inr (Or.inr (Or.inr (Or.inl (own_lit h 17 (by decide)))))))))))))))))))
  · exact Or.inr (Or.inr (Or.inr (Or.inr (Or.inr (Or.inr (Or.inr (Or.inr (Or.inr (Or.inr (Or.inr (Or.inr (Or.inr (Or.inr (Or.inr (Or.inr (Or.inr (Or.inr ((own_lit h 18 (by decide))))))))))))))))))))
theorem own_pnz {pl : Int32} (h : 0 ≤ pl.toInt) (h2 : pl < (19 : Int32)) : own_atL own_ps pl ≠ 0 := by
  rcases own_cases h h2 with rfl | rfl | rfl | rfl | rfl | rfl | rfl | rfl | rfl | rfl | rfl | rfl | rfl | rfl | rfl | rfl | rfl | rfl | rfl <;> decide
theorem own_law {x : Int64} {pl : Int32} (h : 0 ≤ pl.toInt) : own_su x pl = own_ex x pl := by
  unfold own_su own_ex
  by_cases h0 : pl = (0 : Int32)
  · rw [if_pos h0, if_pos h0]
  · rw [if_neg h0, if_neg h0]
    by_cases h1 : pl < (19 : Int32)
    · rw [if_pos h1, if_neg (own_g18 h1)]
      rcases own_cases h h1 with rfl | rfl | rfl | rfl | rfl | rfl | rfl | rfl | rfl | rfl | rfl | rfl | rfl | rfl | rfl | rfl | rfl | rfl | rfl
      · exact absurd rfl h0
      · exact own_gen (P := 10) (S := 922337203685477580) (p := 10) (s := 922337203685477580) (by decide) (by decide) (by decide) (by decide) (by decide) (by decide) (by decide)
      · exact own_gen (P := 100) (S := 92233720368547758) (p := 100) (s := 92233720368547758) (by decide) (by decide) (by decide) (by decide) (by decide) (by decide) (by decide)
      · exact own_gen (P := 1000) (S := 9223372036854775) (p := 1000) (s := 9223372036854775) (by decide) (by decide) (by decide) (by decide) (by decide) (by decide) (by decide)
      · exact own_gen (P := 10000) (S := 922337203685477) (p := 10000) (s := 922337203685477) (by decide) (by decide) (by decide) (by decide) (by decide) (by decide) (by decide)
      · exact own_gen (P := 100000) (S := 92233720368547) (p := 100000) (s := 92233720368547) (by decide) (by decide) (by decide) (by decide) (by decide) (by decide) (by decide)
      · exact own_gen (P := 1000000) (S := 9223372036854) (p := 1000000) (s := 9223372036854) (by decide) (by decide) (by decide) (by decide) (by decide) (by decide) (by decide)
      · exact own_gen (P := 10000000) (S := 922337203685) (p := 10000000) (s := 922337203685) (by decide) (by decide) (by decide) (by decide) (by decide) (by decide) (by decide)
      · exact own_gen (P := 100000000) (S := 92233720368) (p := 100000000) (s := 92233720368) (by decide) (by decide) (by decide) (by decide) (by decide) (by decide) (by decide)
      · exact own_gen (P := 1000000000) (S := 9223372036) (p := 1000000000) (s := 9223372036) (by decide) (by decide) (by decide) (by decide) (by decide) (by decide) (by decide)
      · exact own_gen (P := 10000000000) (S := 922337203) (p := 10000000000) (s := 922337203) (by decide) (by decide) (by decide) (by decide) (by decide) (by decide) (by decide)
      · exact own_gen (P := 100000000000) (S := 92233720) (p := 100000000000) (s := 92233720) (by decide) (by decide) (by decide) (by decide) (by decide) (by decide) (by decide)
      · exact own_gen (P := 1000000000000) (S := 9223372) (p := 1000000000000) (s := 9223372) (by decide) (by decide) (by decide) (by decide) (by decide) (by decide) (by decide)
      · exact own_gen (P := 10000000000000) (S := 922337) (p := 10000000000000) (s := 922337) (by decide) (by decide) (by decide) (by decide) (by decide) (by decide) (by decide)
      · exact own_gen (P := 100000000000000) (S := 92233) (p := 100000000000000) (s := 92233) (by decide) (by decide) (by decide) (by decide) (by decide) (by decide) (by decide)
      · exact own_gen (P := 1000000000000000) (S := 9223) (p := 1000000000000000) (s := 9223) (by decide) (by decide) (by decide) (by decide) (by decide) (by decide) (by decide)
      · exact own_gen (P := 10000000000000000) (S := 922) (p := 10000000000000000) (s := 922) (by decide) (by decide) (by decide) (by decide) (by decide) (by decide) (by decide)
      · exact own_gen (P := 100000000000000000) (S := 92) (p := 100000000000000000) (s := 92) (by decide) (by decide) (by decide) (by decide) (by decide) (by decide) (by decide)
      · exact own_gen (P := 1000000000000000000) (S := 9) (p := 1000000000000000000) (s := 9) (by decide) (by decide) (by decide) (by decide) (by decide) (by decide) (by decide)
    · rw [if_neg h1, if_pos (own_l18 h1)]
      split
      · rename_i z; subst z; rw [if_neg (by decide)]
      · split <;> rfl
theorem pn_0 : plainName "com/example/switchpoint/switchpoint/core/Values" = true := by first | (simp [plainName, overriddenIn]; done) | decide +kernel
theorem d1_0 : decode prog_14_method_6_code 0 = .ok (.iload_n 2, 1) := by decide +kernel
theorem d1_1 : decode prog_14_method_6_code 1 = .ok (.ifCond .ne 5, 3) := by decide +kernel
theorem d1_4 : decode prog_14_method_6_code 4 = .ok (.lload_n 0, 1) := by decide +kernel
theorem d1_5 : decode prog_14_method_6_code 5 = .ok (.lreturn, 1) := by decide +kernel
theorem d1_6 : decode prog_14_method_6_code 6 = .ok (.iload_n 2, 1) := by decide +kernel
theorem d1_7 : decode prog_14_method_6_code 7 = .ok (.getstatic 68, 3) := by decide +kernel
theorem d1_10 : decode prog_14_method_6_code 10 = .ok (.arraylength, 1) := by decide +kernel
theorem d1_11 : decode prog_14_method_6_code 11 = .ok (.if_icmp .lt 17, 3) := by decide +kernel
theorem d1_28 : decode prog_14_method_6_code 28 = .ok (.getstatic 75, 3) := by decide +kernel
theorem d1_31 : decode prog_14_method_6_code 31 = .ok (.iload_n 2, 1) := by decide +kernel
theorem d1_32 : decode prog_14_method_6_code 32 = .ok (.laload, 1) := by decide +kernel
theorem d1_33 : decode prog_14_method_6_code 33 = .ok (.lstore_n 3, 1) := by decide +kernel
theorem d1_34 : decode prog_14_method_6_code 34 = .ok (.lload_n 0, 1) := by decide +kernel
theorem d1_35 : decode prog_14_method_6_code 35 = .ok (.lload_n 3, 1) := by decide +kernel
theorem d1_36 : decode prog_14_method_6_code 36 = .ok (.lcmp, 1) := by decide +kernel
theorem d1_37 : decode prog_14_method_6_code 37 = .ok (.ifCond .gt 10, 3) := by decide +kernel
theorem d1_47 : decode prog_14_method_6_code 47 = .ok (.ldc2_w 63, 3) := by decide +kernel
theorem d1_50 : decode prog_14_method_6_code 50 = .ok (.goto 10, 3) := by decide +kernel
theorem d1_60 : decode prog_14_method_6_code 60 = .ok (.lreturn, 1) := by decide +kernel
theorem d1_40 : decode prog_14_method_6_code 40 = .ok (.lload_n 0, 1) := by decide +kernel
theorem d1_41 : decode prog_14_method_6_code 41 = .ok (.lload_n 3, 1) := by decide +kernel
theorem d1_42 : decode prog_14_method_6_code 42 = .ok (.lneg, 1) := by decide +kernel
theorem d1_43 : decode prog_14_method_6_code 43 = .ok (.lcmp, 1) := by decide +kernel
theorem d1_44 : decode prog_14_method_6_code 44 = .ok (.ifCond .ge 9, 3) := by decide +kernel
theorem d1_53 : decode prog_14_method_6_code 53 = .ok (.lload_n 0, 1) := by decide +kernel
theorem d1_54 : decode prog_14_method_6_code 54 = .ok (.getstatic 68, 3) := by decide +kernel
theorem d1_57 : decode prog_14_method_6_code 57 = .ok (.iload_n 2, 1) := by decide +kernel
theorem d1_58 : decode prog_14_method_6_code 58 = .ok (.laload, 1) := by decide +kernel
theorem d1_59 : decode prog_14_method_6_code 59 = .ok (.lmul, 1) := by decide +kernel
theorem d1_14 : decode prog_14_method_6_code 14 = .ok (.lload_n 0, 1) := by decide +kernel
theorem d1_15 : decode prog_14_method_6_code 15 = .ok (.lconst 0, 1) := by decide +kernel
theorem d1_16 : decode prog_14_method_6_code 16 = .ok (.lcmp, 1) := by decide +kernel
theorem d1_17 : decode prog_14_method_6_code 17 = .ok (.ifCond .ne 7, 3) := by decide +kernel
theorem d1_20 : decode prog_14_method_6_code 20 = .ok (.lconst 0, 1) := by decide +kernel
theorem d1_21 : decode prog_14_method_6_code 21 = .ok (.goto 6, 3) := by decide +kernel
theorem d1_27 : decode prog_14_method_6_code 27 = .ok (.lreturn, 1) := by decide +kernel
theorem d1_24 : decode prog_14_method_6_code 24 = .ok (.ldc2_w 63, 3) := by decide +kernel
theorem ef_1 (m : MethodId) (x0 : Int64) (x1 : Int32) : entryFrame m #[(.long x0), (.int x1)] 5 = mkF m 0 #[.val (.long x0), .second, .val (.int x1), .unset, .unset] [] := by first | (simp [entryFrame, mkF, argsToLocals, Value.category]; done) | rfl
def Q1 (Z : State) (xx : Int64) (pl : Int32) (pa : Addr) (sc : Addr) (kp : ClassId) (ks : ClassId) (h0 : Heap) (n0 : Nat) (vα : Option Value) (hα : Heap) (Lα : List Loc) : Prop := vα = some (.long (own_su xx pl)) ∧ Fr n0 Lα ∧ hα = h0
set_option maxRecDepth 65536 in
set_option maxHeartbeats 40000000 in
theorem rm1 (l : Launch) (Z : State) (a0 : Array Value) (hw : ∀ d ∈ tables_1, d.before a0 Z = true) (ws : List Jvm.Cond) (xx : Int64) (pl : Int32) (pa : Addr) (sc : Addr) (kp : ClassId) (ks : ClassId) (h0 : Heap) (n0 : Nat) (Z0 : n0 ≤ h0.size) (S_p : Sta Z h0 "com/example/switchpoint/switchpoint/core/Values" "POWERS_OF_TEN" "[J" (.ref pa)) (S_s : Sta Z h0 "com/example/switchpoint/switchpoint/core/Values" "SCALABLE" "[J" (.ref sc)) (V_p : Arv Z h0 pa kp .long (19 : Int32) own_ps (.long (0 : Int64))) (V_s : Arv Z h0 sc ks .long (19 : Int32) own_ss (.long (0 : Int64))) (hpl : 0 ≤ pl.toInt) :
    MetFree l (⟨"com/example/switchpoint/switchpoint/core/Values", "scaleUp", "(JI)J"⟩ : MethodName) (head1 (Jvm.Cond.code (⟨"com/example/switchpoint/switchpoint/core/Values", "scaleUp", "(JI)J"⟩ : MethodName) prog_14_method_6_code 5 (some .long) :: ws) ({ frames := 0, cells := 0, slots := 0, locals := 0 } : Room)) (fun aα U => aα = #[(.long xx), (.int pl)] ∧ Z.Warmed39 U.vm ∧ U.heap = h0) (fun _ _ _ _ _ => True) (fun _ U oα U' => ∃ vα Lα, oα = .returned vα ∧ Q1 Z xx pl pa sc kp ks h0 n0 vα U'.heap Lα ∧ FrameEnd U oα U' Lα ({ frames := 0, cells := 0, slots := 0, locals := 0 } : Room).cells ({ frames := 0, cells := 0, slots := 0, locals := 0 } : Room).slots) := by
  refine MetFree.of_bodySF (plainFor_of_name pn_0) hisR ?_
  intro p e s m args below meth c s₁ Bd hml0 hP hK
  refine own_wrap ?_
  intro GL hGL
  obtain ⟨rfl, hZ, hh⟩ := hP
  have hx := Bd.exec
  have hby := Bd.bytes
  have hml : c.maxLocals = 5 := hml0
  have hown : s.vm.findClass "com/example/switchpoint/switchpoint/core/Values" = some m.cls := findClass_of_methodNamed Bd.named
  have hnm := (name_of_methodNamed Bd.named Bd.method).1
  have X0 : Stand p l e ({ frames := 0, cells := 0, slots := 0, locals := 0 } : Room) s m #[(.long xx), (.int pl)] below meth c s₁ [] 0 0 := Stand.of_body Bd
  have e0 : s₁.heap = h0 := by rw [← hh, Bd.state]; rfl
  have N0 := Fr.nil n0
  have pre0 : ∀ τ, Steps p.tables e below (s₁.setTop (mkF m 0 #[.val (.long xx), .second, .val (.int pl), .unset, .unset] [])) τ → Steps p.tables e below (s₁.setTop (entryFrame m #[(.long xx), (.int pl)] 5)) τ := fun τ κ => castTop (ef_1 m xx pl) κ
  obtain ⟨G, hG, pre⟩ : ∃ G : State → Prop, (∀ τ, G τ → Steps p.tables e below (s₁.setTop (entryFrame m #[(.long xx), (.int pl)] 5)) τ) ∧ ∀ τ, Steps p.tables e below (s₁.setTop (mkF m 0 #[.val (.long xx), .second, .val (.int pl), .unset, .unset] [])) τ → G τ := ⟨_, pre0, fun _ k => k⟩
  have K : Keep h0 h0 [] := Keep.refl h0 _
  have Zn := Z0
  have pre : ∀ τ, Steps p.tables e below (s₁.setTop (mkF m 1 #[.val (.long xx), .second, .val (.int pl), .unset, .unset] [(.int pl)])) τ → G τ := fun τ κ => pre τ (by
    refine XS.iloadN X0.here hx rfl (hb hby d1_0) rfl ?_
    show Steps p.tables e below (s₁.setTop (mkF m 1 #[.val (.long xx), .second, .val (.int pl), .unset, .unset] [(.int pl)])) τ
    exact κ)
  rcases Classical.em (pl = (0 : Int32)) with hc1_1 | hc1_1
  ·
    have pre : ∀ τ, Steps p.tables e below (s₁.setTop (mkF m 5 #[.val (.long xx), .second, .val (.int pl), .unset, .unset] [(.long xx)])) τ → G τ := fun τ κ => pre τ (by
      refine XS.ifNo X0.here hx rfl (hb hby d1_1) rfl ((if0 _ _).trans (teq hc1_1).2) ?_
      show Steps p.tables e below (s₁.setTop (mkF m 4 #[.val (.long xx), .second, .val (.int pl), .unset, .unset] [])) τ
      refine XS.lloadN X0.here hx rfl (hb hby d1_4) rfl ?_
      show Steps p.tables e below (s₁.setTop (mkF m 5 #[.val (.long xx), .second, .val (.int pl), .unset, .unset] [(.long xx)])) τ
      exact κ)
    obtain ⟨fsα, hr, hrun, hended, hW, hsame⟩ := X0.leave (v := some (.long xx)) (fun h => by rw [Bd.returns] at h; cases h)
    refine hGL ⟨_, _, hG _ (pre _ ?_), hrun, hended, _, _, rfl, ?_, ⟨_, rfl⟩, hW, hsame.mono (by decide) (by decide)⟩
    · exact retOut X0 hx Bd.returns rfl (Or.inr (Or.inl ⟨rfl, rfl, _, rfl⟩)) (hb hby d1_5) hr
    · show Q1 Z xx pl pa sc kp ks h0 n0 _ s₁.heap _
      rw [e0]
      refine ⟨?_, N0, rfl⟩
      unfold own_su
      rw [if_pos hc1_1]
  ·
    have pre : ∀ τ, Steps p.tables e below (s₁.setTop (mkF m 7 #[.val (.long xx), .second, .val (.int pl), .unset, .unset] [(.int pl)])) τ → G τ := fun τ κ => pre τ (by
      refine XS.ifYes X0.here hx rfl (pc0 := 1) (pc' := 6) rfl (hb hby d1_1) rfl ((if0 _ _).trans (feq hc1_1).2) (by decide) (by decide) ?_
      show Steps p.tables e below (s₁.setTop (mkF m 6 #[.val (.long xx), .second, .val (.int pl), .unset, .unset] [])) τ
      refine XS.iloadN X0.here hx rfl (hb hby d1_6) rfl ?_
      show Steps p.tables e below (s₁.setTop (mkF m 7 #[.val (.long xx), .second, .val (.int pl), .unset, .unset] [(.int pl)])) τ
      exact κ)
    obtain ⟨T2, X2, e2, st2⟩ := getS2 X0 hx hZ hown (host := "") (Or.inl (hw _ (List.mem_of_getElem? (i := 5) rfl))) Via.refl e0 S_p (g := (mkF m 7 #[.val (.long xx), .second, .val (.int pl), .unset, .unset] [(.int pl)])) rfl (hb hby d1_7)
    have pre : ∀ τ, Steps p.tables e below (T2.setTop (mkF m 10 #[.val (.long xx), .second, .val (.int pl), .unset, .unset] [(.ref pa), (.int pl)])) τ → G τ := fun τ κ => pre τ (st2 τ κ)
    obtain ⟨c3, Ar3, -, S3, N3, -, -⟩ := id V_p
    have pre : ∀ τ, Steps p.tables e below (T2.setTop (mkF m 11 #[.val (.long xx), .second, .val (.int pl), .unset, .unset] [(.int (19 : Int32)), (.int pl)])) τ → G τ := fun τ κ => pre τ (by
      refine X2.arraylength hx (by rw [e2]; exact Ar3.1) (State.isArrayOf_alike hZ.alike Ar3.2.1) (g := (mkF m 10 #[.val (.long xx), .second, .val (.int pl), .unset, .unset] [(.ref pa), (.int pl)])) rfl rfl (hb hby d1_10) _ ?_
      rw [len_of S3 N3]
      exact κ)
    rcases Classical.em (pl < (19 : Int32)) with hc11_4 | hc11_4
    ·
      have pre : ∀ τ, Steps p.tables e below (T2.setTop (mkF m 28 #[.val (.long xx), .second, .val (.int pl), .unset, .unset] [])) τ → G τ := fun τ κ => pre τ (by
        refine XS.icmpYes X2.here hx rfl (pc0 := 11) (pc' := 28) rfl (hb hby d1_11) rfl (tlt hc11_4).1 (by decide) (by decide) ?_
        show Steps p.tables e below (T2.setTop (mkF m 28 #[.val (.long xx), .second, .val (.int pl), .unset, .unset] [])) τ
        exact κ)
      obtain ⟨T5, X5, e5, st5⟩ := getS2 X2 hx hZ hown (host := "") (Or.inl (hw _ (List.mem_of_getElem? (i := 7) rfl))) Via.refl e2 S_s (g := (mkF m 28 #[.val (.long xx), .second, .val (.int pl), .unset, .unset] [])) rfl (hb hby d1_28)
      have pre : ∀ τ, Steps p.tables e below (T5.setTop (mkF m 31 #[.val (.long xx), .second, .val (.int pl), .unset, .unset] [(.ref sc)])) τ → G τ := fun τ κ => pre τ (st5 τ κ)
      have pre : ∀ τ, Steps p.tables e below (T5.setTop (mkF m 32 #[.val (.long xx), .second, .val (.int pl), .unset, .unset] [(.int pl), (.ref sc)])) τ → G τ := fun τ κ => pre τ (by
        refine XS.iloadN X5.here hx rfl (hb hby d1_31) rfl ?_
        show Steps p.tables e below (T5.setTop (mkF m 32 #[.val (.long xx), .second, .val (.int pl), .unset, .unset] [(.int pl), (.ref sc)])) τ
        exact κ)
      obtain ⟨c6, Ar6, q6, S6, Nz6, Hh6, Gg6⟩ := id V_s
      have hin6 : ¬ (pl < 0 ∨ c6.slots.size ≤ (pl).toNatClampNeg) := inb_of S6 (own_in1 hpl hc11_4)
      have hat6 : c6.slots[(pl).toNatClampNeg]? = some (.long (own_atL own_ss pl)) := own_getL Hh6 Gg6 hin6
      have pre : ∀ τ, Steps p.tables e below (T5.setTop (mkF m 33 #[.val (.long xx), .second, .val (.int pl), .unset, .unset] [(.long (own_atL own_ss pl))])) τ → G τ := fun τ κ => pre τ (X5.laload hx (j := pl) (v := (.long (own_atL own_ss pl))) (by rw [e5]; exact Ar6.1) (State.isArrayOf_alike hZ.alike Ar6.2.1) Ar6.2.2 hin6 hat6 (g := (mkF m 32 #[.val (.long xx), .second, .val (.int pl), .unset, .unset] [(.int pl), (.ref sc)])) rfl rfl (hb hby d1_32) _ κ)
      have pre : ∀ τ, Steps p.tables e below (T5.setTop (mkF m 37 #[.val (.long xx), .second, .val (.int pl), .val (.long (own_atL own_ss pl)), .second] [(.int (lcmpW xx (own_atL own_ss pl)))])) τ → G τ := fun τ κ => pre τ (by
        refine XS.lstoreN X5.here hx rfl (hb hby d1_33) rfl (l' := #[.val (.long xx), .second, .val (.int pl), .val (.long (own_atL own_ss pl)), .second]) rfl ?_
        show Steps p.tables e below (T5.setTop (mkF m 34 #[.val (.long xx), .second, .val (.int pl), .val (.long (own_atL own_ss pl)), .second] [])) τ
        refine XS.lloadN X5.here hx rfl (hb hby d1_34) rfl ?_
        show Steps p.tables e below (T5.setTop (mkF m 35 #[.val (.long xx), .second, .val (.int pl), .val (.long (own_atL own_ss pl)), .second] [(.long xx)])) τ
        refine XS.lloadN X5.here hx rfl (hb hby d1_35) rfl ?_
        show Steps p.tables e below (T5.setTop (mkF m 36 #[.val (.long xx), .second, .val (.int pl), .val (.long (own_atL own_ss pl)), .second] [(.long (own_atL own_ss pl)), (.long xx)])) τ
        refine XS.lcmp X5.here hx rfl (hb hby d1_36) rfl ?_
        show Steps p.tables e below (T5.setTop (mkF m 37 #[.val (.long xx), .second, .val (.int pl), .val (.long (own_atL own_ss pl)), .second] [(.int (lcmpW xx (own_atL own_ss pl)))])) τ
        exact κ)
      rcases Classical.em ((own_atL own_ss pl) < xx) with hc37_7 | hc37_7
      ·
        have pre : ∀ τ, Steps p.tables e below (T5.setTop (mkF m 60 #[.val (.long xx), .second, .val (.int pl), .val (.long (own_atL own_ss pl)), .second] [(.long (-9223372036854775808 : Int64))])) τ → G τ := fun τ κ => pre τ (by
          refine XS.ifYes X5.here hx rfl (pc0 := 37) (pc' := 47) rfl (hb hby d1_37) rfl ((if0 _ _).trans (tlt ((lw_gt _ _).mpr hc37_7)).2.2.1) (by decide) (by decide) ?_
          show Steps p.tables e below (T5.setTop (mkF m 47 #[.val (.long xx), .second, .val (.int pl), .val (.long (own_atL own_ss pl)), .second] [])) τ
          refine X5.ldc2Long hx hown (mvT hZ (hw _ (List.mem_of_getElem? (i := 33) rfl))) (g := (mkF m 47 #[.val (.long xx), .second, .val (.int pl), .val (.long (own_atL own_ss pl)), .second] [])) rfl (hb hby d1_47) _ ?_
          show Steps p.tables e below (T5.setTop (mkF m 50 #[.val (.long xx), .second, .val (.int pl), .val (.long (own_atL own_ss pl)), .second] [(.long (-9223372036854775808 : Int64))])) τ
          refine XS.goto X5.here hx rfl (pc0 := 50) (pc' := 60) rfl (hb hby d1_50) (by decide) (by decide) ?_
          show Steps p.tables e below (T5.setTop (mkF m 60 #[.val (.long xx), .second, .val (.int pl), .val (.long (own_atL own_ss pl)), .second] [(.long (-9223372036854775808 : Int64))])) τ
          exact κ)
        obtain ⟨fsα, hr, hrun, hended, hW, hsame⟩ := X5.leave (v := some (.long (-9223372036854775808 : Int64))) (fun h => by rw [Bd.returns] at h; cases h)
        refine hGL ⟨_, _, hG _ (pre _ ?_), hrun, hended, _, _, rfl, ?_, ⟨_, rfl⟩, hW, hsame.mono (by decide) (by decide)⟩
        · exact retOut X5 hx Bd.returns rfl (Or.inr (Or.inl ⟨rfl, rfl, _, rfl⟩)) (hb hby d1_60) hr
        · show Q1 Z xx pl pa sc kp ks h0 n0 _ T5.heap _
          rw [e5]
          refine ⟨?_, N0, rfl⟩
          unfold own_su
          rw [if_neg hc1_1]
          rw [if_pos hc11_4]
          rw [if_pos hc37_7]
      ·
        have pre : ∀ τ, Steps p.tables e below (T5.setTop (mkF m 44 #[.val (.long xx), .second, .val (.int pl), .val (.long (own_atL own_ss pl)), .second] [(.int (lcmpW xx (-(own_atL own_ss pl))))])) τ → G τ := fun τ κ => pre τ (by
          refine XS.ifNo X5.here hx rfl (hb hby d1_37) rfl ((if0 _ _).trans (flt (fun q => hc37_7 ((lw_gt _ _).mp q))).2.2.1) ?_
          show Steps p.tables e below (T5.setTop (mkF m 40 #[.val (.long xx), .second, .val (.int pl), .val (.long (own_atL own_ss pl)), .second] [])) τ
          refine XS.lloadN X5.here hx rfl (hb hby d1_40) rfl ?_
          show Steps p.tables e below (T5.setTop (mkF m 41 #[.val (.long xx), .second, .val (.int pl), .val (.long (own_atL own_ss pl)), .second] [(.long xx)])) τ
          refine XS.lloadN X5.here hx rfl (hb hby d1_41) rfl ?_
          show Steps p.tables e below (T5.setTop (mkF m 42 #[.val (.long xx), .second, .val (.int pl), .val (.long (own_atL own_ss pl)), .second] [(.long (own_atL own_ss pl)), (.long xx)])) τ
          refine XS.lneg X5.here hx rfl (hb hby d1_42) rfl ?_
          show Steps p.tables e below (T5.setTop (mkF m 43 #[.val (.long xx), .second, .val (.int pl), .val (.long (own_atL own_ss pl)), .second] [(.long (-(own_atL own_ss pl))), (.long xx)])) τ
          refine XS.lcmp X5.here hx rfl (hb hby d1_43) rfl ?_
          show Steps p.tables e below (T5.setTop (mkF m 44 #[.val (.long xx), .second, .val (.int pl), .val (.long (own_atL own_ss pl)), .second] [(.int (lcmpW xx (-(own_atL own_ss pl))))])) τ
          exact κ)
        rcases Classical.em (xx < (-(own_atL own_ss pl))) with hc44_8 | hc44_8
        ·
          have pre : ∀ τ, Steps p.tables e below (T5.setTop (mkF m 60 #[.val (.long xx), .second, .val (.int pl), .val (.long (own_atL own_ss pl)), .second] [(.long (-9223372036854775808 : Int64))])) τ → G τ := fun τ κ => pre τ (by
            refine XS.ifNo X5.here hx rfl (hb hby d1_44) rfl ((if0 _ _).trans (tlt ((lw_lt _ _).mpr hc44_8)).2.1) ?_
            show Steps p.tables e below (T5.setTop (mkF m 47 #[.val (.long xx), .second, .val (.int pl), .val (.long (own_atL own_ss pl)), .second] [])) τ
            refine X5.ldc2Long hx hown (mvT hZ (hw _ (List.mem_of_getElem? (i := 33) rfl))) (g := (mkF m 47 #[.val (.long xx), .second, .val (.int pl), .val (.long (own_atL own_ss pl)), .second] [])) rfl (hb hby d1_47) _ ?_
            show Steps p.tables e below (T5.setTop (mkF m 50 #[.val (.long xx), .second, .val (.int pl), .val (.long (own_atL own_ss pl)), .second] [(.long (-9223372036854775808 : Int64))])) τ
            refine XS.goto X5.here hx rfl (pc0 := 50) (pc' := 60) rfl (hb hby d1_50) (by decide) (by decide) ?_
            show Steps p.tables e below (T5.setTop (mkF m 60 #[.val (.long xx), .second, .val (.int pl), .val (.long (own_atL own_ss pl)), .second] [(.long (-9223372036854775808 : Int64))])) τ
            exact κ)
          obtain ⟨fsα, hr, hrun, hended, hW, hsame⟩ := X5.leave (v := some (.long (-9223372036854775808 : Int64))) (fun h => by rw [Bd.returns] at h; cases h)
          refine hGL ⟨_, _, hG _ (pre _ ?_), hrun, hended, _, _, rfl, ?_, ⟨_, rfl⟩, hW, hsame.mono (by decide) (by decide)⟩
          · exact retOut X5 hx Bd.returns rfl (Or.inr (Or.inl ⟨rfl, rfl, _, rfl⟩)) (hb hby d1_60) hr
          · show Q1 Z xx pl pa sc kp ks h0 n0 _ T5.heap _
            rw [e5]
            refine ⟨?_, N0, rfl⟩
            unfold own_su
            rw [if_neg hc1_1]
            rw [if_pos hc11_4]
            rw [if_neg hc37_7]
            rw [if_pos hc44_8]
        ·
          have pre : ∀ τ, Steps p.tables e below (T5.setTop (mkF m 54 #[.val (.long xx), .second, .val (.int pl), .val (.long (own_atL own_ss pl)), .second] [(.long xx)])) τ → G τ := fun τ κ => pre τ (by
            refine XS.ifYes X5.here hx rfl (pc0 := 44) (pc' := 53) rfl (hb hby d1_44) rfl ((if0 _ _).trans (flt (fun q => hc44_8 ((lw_lt _ _).mp q))).2.1) (by decide) (by decide) ?_
            show Steps p.tables e below (T5.setTop (mkF m 53 #[.val (.long xx), .second, .val (.int pl), .val (.long (own_atL own_ss pl)), .second] [])) τ
            refine XS.lloadN X5.here hx rfl (hb hby d1_53) rfl ?_
            show Steps p.tables e below (T5.setTop (mkF m 54 #[.val (.long xx), .second, .val (.int pl), .val (.long (own_atL own_ss pl)), .second] [(.long xx)])) τ
            exact κ)
          obtain ⟨T9, X9, e9, st9⟩ := getS2 X5 hx hZ hown (host := "") (Or.inl (hw _ (List.mem_of_getElem? (i := 5) rfl))) Via.refl e5 S_p (g := (mkF m 54 #[.val (.long xx), .second, .val (.int pl), .val (.long (own_atL own_ss pl)), .second] [(.long xx)])) rfl (hb hby d1_54)
          have pre : ∀ τ, Steps p.tables e below (T9.setTop (mkF m 57 #[.val (.long xx), .second, .val (.int pl), .val (.long (own_atL own_ss pl)), .second] [(.ref pa), (.long xx)])) τ → G τ := fun τ κ => pre τ (st9 τ κ)
          have pre : ∀ τ, Steps p.tables e below (T9.setTop (mkF m 58 #[.val (.long xx), .second, .val (.int pl), .val (.long (own_atL own_ss pl)), .second] [(.int pl), (.ref pa), (.long xx)])) τ → G τ := fun τ κ => pre τ (by
            refine XS.iloadN X9.here hx rfl (hb hby d1_57) rfl ?_
            show Steps p.tables e below (T9.setTop (mkF m 58 #[.val (.long xx), .second, .val (.int pl), .val (.long (own_atL own_ss pl)), .second] [(.int pl), (.ref pa), (.long xx)])) τ
            exact κ)
          obtain ⟨c10, Ar10, q10, S10, Nz10, Hh10, Gg10⟩ := id V_p
          have hin10 : ¬ (pl < 0 ∨ c10.slots.size ≤ (pl).toNatClampNeg) := inb_of S10 (own_in1 hpl hc11_4)
          have hat10 : c10.slots[(pl).toNatClampNeg]? = some (.long (own_atL own_ps pl)) := own_getL Hh10 Gg10 hin10
          have pre : ∀ τ, Steps p.tables e below (T9.setTop (mkF m 59 #[.val (.long xx), .second, .val (.int pl), .val (.long (own_atL own_ss pl)), .second] [(.long (own_atL own_ps pl)), (.long xx)])) τ → G τ := fun τ κ => pre τ (X9.laload hx (j := pl) (v := (.long (own_atL own_ps pl))) (by rw [e9]; exact Ar10.1) (State.isArrayOf_alike hZ.alike Ar10.2.1) Ar10.2.2 hin10 hat10 (g := (mkF m 58 #[.val (.long xx), .second, .val (.int pl), .val (.long (own_atL own_ss pl)), .second] [(.int pl), (.ref pa), (.long xx)])) rfl rfl (hb hby d1_58) _ κ)
          have pre : ∀ τ, Steps p.tables e below (T9.setTop (mkF m 60 #[.val (.long xx), .second, .val (.int pl), .val (.long (own_atL own_ss pl)), .second] [(.long (xx * (own_atL own_ps pl)))])) τ → G τ := fun τ κ => pre τ (by
            refine XS.lmul X9.here hx rfl (hb hby d1_59) rfl ?_
            show Steps p.tables e below (T9.setTop (mkF m 60 #[.val (.long xx), .second, .val (.int pl), .val (.long (own_atL own_ss pl)), .second] [(.long (xx * (own_atL own_ps pl)))])) τ
            exact κ)
          obtain ⟨fsα, hr, hrun, hended, hW, hsame⟩ := X9.leave (v := some (.long (xx * (own_atL own_ps pl)))) (fun h => by rw [Bd.returns] at h; cases h)
          refine hGL ⟨_, _, hG _ (pre _ ?_), hrun, hended, _, _, rfl, ?_, ⟨_, rfl⟩, hW, hsame.mono (by decide) (by decide)⟩
          · exact retOut X9 hx Bd.returns rfl (Or.inr (Or.inl ⟨rfl, rfl, _, rfl⟩)) (hb hby d1_60) hr
          · show Q1 Z xx pl pa sc kp ks h0 n0 _ T9.heap _
            rw [e9]
            refine ⟨?_, N0, rfl⟩
            unfold own_su
            rw [if_neg hc1_1]
            rw [if_pos hc11_4]
            rw [if_neg hc37_7]
            rw [if_neg hc44_8]
    ·
      have pre : ∀ τ, Steps p.tables e below (T2.setTop (mkF m 17 #[.val (.long xx), .second, .val (.int pl), .unset, .unset] [(.int (lcmpW xx (0 : Int64)))])) τ → G τ := fun τ κ => pre τ (by
        refine XS.icmpNo X2.here hx rfl (hb hby d1_11) rfl (flt hc11_4).1 ?_
        show Steps p.tables e below (T2.setTop (mkF m 14 #[.val (.long xx), .second, .val (.int pl), .unset, .unset] [])) τ
        refine XS.lloadN X2.here hx rfl (hb hby d1_14) rfl ?_
        show Steps p.tables e below (T2.setTop (mkF m 15 #[.val (.long xx), .second, .val (.int pl), .unset, .unset] [(.long xx)])) τ
        refine XS.lconst X2.here hx rfl (hb hby d1_15) ?_
        show Steps p.tables e below (T2.setTop (mkF m 16 #[.val (.long xx), .second, .val (.int pl), .unset, .unset] [(.long (0 : Int64)), (.long xx)])) τ
        refine XS.lcmp X2.here hx rfl (hb hby d1_16) rfl ?_
        show Steps p.tables e below (T2.setTop (mkF m 17 #[.val (.long xx), .second, .val (.int pl), .unset, .unset] [(.int (lcmpW xx (0 : Int64)))])) τ
        exact κ)
      rcases Classical.em (xx = (0 : Int64)) with hc17_11 | hc17_11
      ·
        have pre : ∀ τ, Steps p.tables e below (T2.setTop (mkF m 27 #[.val (.long xx), .second, .val (.int pl), .unset, .unset] [(.long (0 : Int64))])) τ → G τ := fun τ κ => pre τ (by
          refine XS.ifNo X2.here hx rfl (hb hby d1_17) rfl ((if0 _ _).trans (teq ((lw_eq _ _).mpr hc17_11)).2) ?_
          show Steps p.tables e below (T2.setTop (mkF m 20 #[.val (.long xx), .second, .val (.int pl), .unset, .unset] [])) τ
          refine XS.lconst X2.here hx rfl (hb hby d1_20) ?_
          show Steps p.tables e below (T2.setTop (mkF m 21 #[.val (.long xx), .second, .val (.int pl), .unset, .unset] [(.long (0 : Int64))])) τ
          refine XS.goto X2.here hx rfl (pc0 := 21) (pc' := 27) rfl (hb hby d1_21) (by decide) (by decide) ?_
          show Steps p.tables e below (T2.setTop (mkF m 27 #[.val (.long xx), .second, .val (.int pl), .unset, .unset] [(.long (0 : Int64))])) τ
          exact κ)
        obtain ⟨fsα, hr, hrun, hended, hW, hsame⟩ := X2.leave (v := some (.long (0 : Int64))) (fun h => by rw [Bd.returns] at h; cases h)
        refine hGL ⟨_, _, hG _ (pre _ ?_), hrun, hended, _, _, rfl, ?_, ⟨_, rfl⟩, hW, hsame.mono (by decide) (by decide)⟩
        · exact retOut X2 hx Bd.returns rfl (Or.inr (Or.inl ⟨rfl, rfl, _, rfl⟩)) (hb hby d1_27) hr
        · show Q1 Z xx pl pa sc kp ks h0 n0 _ T2.heap _
          rw [e2]
          refine ⟨?_, N0, rfl⟩
          unfold own_su
          rw [if_neg hc1_1]
          rw [if_neg hc11_4]
          rw [if_pos hc17_11]
      ·
        have pre : ∀ τ, Steps p.tables e below (T2.setTop (mkF m 27 #[.val (.long xx), .second, .val (.int pl), .unset, .unset] [(.long (-9223372036854775808 : Int64))])) τ → G τ := fun τ κ => pre τ (by
          refine XS.ifYes X2.here hx rfl (pc0 := 17) (pc' := 24) rfl (hb hby d1_17) rfl ((if0 _ _).trans (feq (fun q => hc17_11 ((lw_eq _ _).mp q))).2) (by decide) (by decide) ?_
          show Steps p.tables e below (T2.setTop (mkF m 24 #[.val (.long xx), .second, .val (.int pl), .unset, .unset] [])) τ
          refine X2.ldc2Long hx hown (mvT hZ (hw _ (List.mem_of_getElem? (i := 33) rfl))) (g := (mkF m 24 #[.val (.long xx), .second, .val (.int pl), .unset, .unset] [])) rfl (hb hby d1_24) _ ?_
          show Steps p.tables e below (T2.setTop (mkF m 27 #[.val (.long xx), .second, .val (.int pl), .unset, .unset] [(.long (-9223372036854775808 : Int64))])) τ
          exact κ)
        obtain ⟨fsα, hr, hrun, hended, hW, hsame⟩ := X2.leave (v := some (.long (-9223372036854775808 : Int64))) (fun h => by rw [Bd.returns] at h; cases h)
        refine hGL ⟨_, _, hG _ (pre _ ?_), hrun, hended, _, _, rfl, ?_, ⟨_, rfl⟩, hW, hsame.mono (by decide) (by decide)⟩
        · exact retOut X2 hx Bd.returns rfl (Or.inr (Or.inl ⟨rfl, rfl, _, rfl⟩)) (hb hby d1_27) hr
        · show Q1 Z xx pl pa sc kp ks h0 n0 _ T2.heap _
          rw [e2]
          refine ⟨?_, N0, rfl⟩
          unfold own_su
          rw [if_neg hc1_1]
          rw [if_neg hc11_4]
          rw [if_neg hc17_11]
theorem pn_1 : plainName "com/example/switchpoint/switchpoint/core/ValuesScaleUpPinLaw" = true := by first | (simp [plainName, overriddenIn]; done) | decide +kernel
theorem d2_0 : decode method_3_code 0 = .ok (.iload_n 2, 1) := by decide +kernel
theorem d2_1 : decode method_3_code 1 = .ok (.ifCond .ne 5, 3) := by decide +kernel
theorem d2_4 : decode method_3_code 4 = .ok (.lload_n 0, 1) := by decide +kernel
theorem d2_5 : decode method_3_code 5 = .ok (.lreturn, 1) := by decide +kernel
theorem d2_6 : decode method_3_code 6 = .ok (.lload_n 0, 1) := by decide +kernel
theorem d2_7 : decode method_3_code 7 = .ok (.ldc2_w 21, 3) := by decide +kernel
theorem d2_10 : decode method_3_code 10 = .ok (.lcmp, 1) := by decide +kernel
theorem d2_11 : decode method_3_code 11 = .ok (.ifCond .ne 7, 3) := by decide +kernel
theorem d2_14 : decode method_3_code 14 = .ok (.ldc2_w 21, 3) := by decide +kernel
theorem d2_17 : decode method_3_code 17 = .ok (.lreturn, 1) := by decide +kernel
theorem d2_18 : decode method_3_code 18 = .ok (.iload_n 2, 1) := by decide +kernel
theorem d2_19 : decode method_3_code 19 = .ok (.bipush 18, 2) := by decide +kernel
theorem d2_21 : decode method_3_code 21 = .ok (.if_icmp .le 17, 3) := by decide +kernel
theorem d2_24 : decode method_3_code 24 = .ok (.lload_n 0, 1) := by decide +kernel
theorem d2_25 : decode method_3_code 25 = .ok (.lconst 0, 1) := by decide +kernel
theorem d2_26 : decode method_3_code 26 = .ok (.lcmp, 1) := by decide +kernel
theorem d2_27 : decode method_3_code 27 = .ok (.ifCond .ne 7, 3) := by decide +kernel
theorem d2_30 : decode method_3_code 30 = .ok (.lconst 0, 1) := by decide +kernel
theorem d2_31 : decode method_3_code 31 = .ok (.goto 6, 3) := by decide +kernel
theorem d2_37 : decode method_3_code 37 = .ok (.lreturn, 1) := by decide +kernel
theorem d2_34 : decode method_3_code 34 = .ok (.ldc2_w 21, 3) := by decide +kernel
theorem d2_38 : decode method_3_code 38 = .ok (.bipush 19, 2) := by decide +kernel
theorem d2_40 : decode method_3_code 40 = .ok (.newarray .long, 2) := by decide +kernel
theorem d2_42 : decode method_3_code 42 = .ok (.dup, 1) := by decide +kernel
theorem d2_43 : decode method_3_code 43 = .ok (.iconst 0, 1) := by decide +kernel
theorem d2_44 : decode method_3_code 44 = .ok (.lconst 1, 1) := by decide +kernel
theorem d2_45 : decode method_3_code 45 = .ok (.lastore, 1) := by decide +kernel
theorem d2_46 : decode method_3_code 46 = .ok (.dup, 1) := by decide +kernel
theorem d2_47 : decode method_3_code 47 = .ok (.iconst 1, 1) := by decide +kernel
theorem d2_48 : decode method_3_code 48 = .ok (.ldc2_w 23, 3) := by decide +kernel
theorem d2_51 : decode method_3_code 51 = .ok (.lastore, 1) := by decide +kernel
theorem d2_52 : decode method_3_code 52 = .ok (.dup, 1) := by decide +kernel
theorem d2_53 : decode method_3_code 53 = .ok (.iconst 2, 1) := by decide +kernel
theorem d2_54 : decode method_3_code 54 = .ok (.ldc2_w 25, 3) := by decide +kernel
theorem d2_57 : decode method_3_code 57 = .ok (.lastore, 1) := by decide +kernel
theorem d2_58 : decode method_3_code 58 = .ok (.dup, 1) := by decide +kernel
theorem d2_59 : decode method_3_code 59 = .ok (.iconst 3, 1) := by decide +kernel
theorem d2_60 : decode method_3_code 60 = .ok (.ldc2_w 27, 3) := by decide +kernel
theorem d2_63 : decode method_3_code 63 = .ok (.lastore, 1) := by decide +kernel
theorem d2_64 : decode method_3_code 64 = .ok (.dup, 1) := by decide +kernel
theorem d2_65 : decode method_3_code 65 = .ok (.iconst 4, 1) := by decide +kernel
theorem d2_66 : decode method_3_code 66 = .ok (.ldc2_w 29, 3) := by decide +kernel
theorem d2_69 : decode method_3_code 69 = .ok (.lastore, 1) := by decide +kernel
theorem d2_70 : decode method_3_code 70 = .ok (.dup, 1) := by decide +kernel
theorem d2_71 : decode method_3_code 71 = .ok (.iconst 5, 1) := by decide +kernel
theorem d2_72 : decode method_3_code 72 = .ok (.ldc2_w 31, 3) := by decide +kernel
theorem d2_75 : decode method_3_code 75 = .ok (.lastore, 1) := by decide +kernel
theorem d2_76 : decode method_3_code 76 = .ok (.dup, 1) := by decide +kernel
theorem d2_77 : decode method_3_code 77 = .ok (.bipush 6, 2) := by decide +kernel
theorem d2_79 : decode method_3_code 79 = .ok (.ldc2_w 33, 3) := by decide +kernel
theorem d2_82 : decode method_3_code 82 = .ok (.lastore, 1) := by decide +kernel
theorem d2_83 : decode method_3_code 83 = .ok (.dup, 1) := by decide +kernel
theorem d2_84 : decode method_3_code 84 = .ok (.bipush 7, 2) := by decide +kernel
theorem d2_86 : decode method_3_code 86 = .ok (.ldc2_w 35, 3) := by decide +kernel
theorem d2_89 : decode method_3_code 89 = .ok (.lastore, 1) := by decide +kernel
theorem d2_90 : decode method_3_code 90 = .ok (.dup, 1) := by decide +kernel
theorem d2_91 : decode method_3_code 91 = .ok (.bipush 8, 2) := by decide +kernel
theorem d2_93 : decode method_3_code 93 = .ok (.ldc2_w 37, 3) := by decide +kernel
theorem d2_96 : decode method_3_code 96 = .ok (.lastore, 1) := by decide +kernel
theorem d2_97 : decode method_3_code 97 = .ok (.dup, 1) := by decide +kernel
theorem d2_98 : decode method_3_code 98 = .ok (.bipush 9, 2) := by decide +kernel
theorem d2_100 : decode method_3_code 100 = .ok (.ldc2_w 39, 3) := by decide +kernel
theorem d2_103 : decode method_3_code 103 = .ok (.lastore, 1) := by decide +kernel
theorem d2_104 : decode method_3_code 104 = .ok (.dup, 1) := by decide +kernel
theorem d2_105 : decode method_3_code 105 = .ok (.bipush 10, 2) := by decide +kernel
theorem d2_107 : decode method_3_code 107 = .ok (.ldc2_w 41, 3) := by decide +kernel
theorem d2_110 : decode method_3_code 110 = .ok (.lastore, 1) := by decide +kernel
theorem d2_111 : decode method_3_code 111 = .ok (.dup, 1) := by decide +kernel
theorem d2_112 : decode method_3_code 112 = .ok (.bipush 11, 2) := by decide +kernel
theorem d2_114 : decode method_3_code 114 = .ok (.ldc2_w 43, 3) := by decide +kernel
theorem d2_117 : decode method_3_code 117 = .ok (.lastore, 1) := by decide +kernel
theorem d2_118 : decode method_3_code 118 = .ok (.dup, 1) := by decide +kernel
theorem d2_119 : decode method_3_code 119 = .ok (.bipush 12, 2) := by decide +kernel
theorem d2_121 : decode method_3_code 121 = .ok (.ldc2_w 45, 3) := by decide +kernel
theorem d2_124 : decode method_3_code 124 = .ok (.lastore, 1) := by decide +kernel
theorem d2_125 : decode method_3_code 125 = .ok (.dup, 1) := by decide +kernel
theorem d2_126 : decode method_3_code 126 = .ok (.bipush 13, 2) := by decide +kernel
theorem d2_128 : decode method_3_code 128 = .ok (.ldc2_w 47, 3) := by decide +kernel
theorem d2_131 : decode method_3_code 131 = .ok (.lastore, 1) := by decide +kernel
theorem d2_132 : decode method_3_code 132 = .ok (.dup, 1) := by decide +kernel
theorem d2_133 : decode method_3_code 133 = .ok (.bipush 14, 2) := by decide +kernel
theorem d2_135 : decode method_3_code 135 = .ok (.ldc2_w 49, 3) := by decide +kernel
theorem d2_138 : decode method_3_code 138 = .ok (.lastore, 1) := by decide +kernel
theorem d2_139 : decode method_3_code 139 = .ok (.dup, 1) := by decide +kernel
theorem d2_140 : decode method_3_code 140 = .ok (.bipush 15, 2) := by decide +kernel
theorem d2_142 : decode method_3_code 142 = .ok (.ldc2_w 51, 3) := by decide +kernel
theorem d2_145 : decode method_3_code 145 = .ok (.lastore, 1) := by decide +kernel
theorem d2_146 : decode method_3_code 146 = .ok (.dup, 1) := by decide +kernel
theorem d2_147 : decode method_3_code 147 = .ok (.bipush 16, 2) := by decide +kernel
theorem d2_149 : decode method_3_code 149 = .ok (.ldc2_w 53, 3) := by decide +kernel
theorem d2_152 : decode method_3_code 152 = .ok (.lastore, 1) := by decide +kernel
theorem d2_153 : decode method_3_code 153 = .ok (.dup, 1) := by decide +kernel
theorem d2_154 : decode method_3_code 154 = .ok (.bipush 17, 2) := by decide +kernel
theorem d2_156 : decode method_3_code 156 = .ok (.ldc2_w 55, 3) := by decide +kernel
theorem d2_159 : decode method_3_code 159 = .ok (.lastore, 1) := by decide +kernel
theorem d2_160 : decode method_3_code 160 = .ok (.dup, 1) := by decide +kernel
theorem d2_161 : decode method_3_code 161 = .ok (.bipush 18, 2) := by decide +kernel
theorem d2_163 : decode method_3_code 163 = .ok (.ldc2_w 57, 3) := by decide +kernel
theorem d2_166 : decode method_3_code 166 = .ok (.lastore, 1) := by decide +kernel
theorem d2_167 : decode method_3_code 167 = .ok (.astore_n 3, 1) := by decide +kernel
theorem d2_168 : decode method_3_code 168 = .ok (.aload_n 3, 1) := by decide +kernel
theorem d2_169 : decode method_3_code 169 = .ok (.iload_n 2, 1) := by decide +kernel
theorem d2_170 : decode method_3_code 170 = .ok (.laload, 1) := by decide +kernel
theorem d2_171 : decode method_3_code 171 = .ok (.lstore 4, 2) := by decide +kernel
theorem d2_173 : decode method_3_code 173 = .ok (.lload_n 0, 1) := by decide +kernel
theorem d2_174 : decode method_3_code 174 = .ok (.lload 4, 2) := by decide +kernel
theorem d2_176 : decode method_3_code 176 = .ok (.lmul, 1) := by decide +kernel
theorem d2_177 : decode method_3_code 177 = .ok (.lstore 6, 2) := by decide +kernel
theorem d2_179 : decode method_3_code 179 = .ok (.lload 6, 2) := by decide +kernel
theorem d2_181 : decode method_3_code 181 = .ok (.lload 4, 2) := by decide +kernel
theorem d2_183 : decode method_3_code 183 = .ok (.ldiv, 1) := by decide +kernel
theorem d2_184 : decode method_3_code 184 = .ok (.lload_n 0, 1) := by decide +kernel
theorem d2_185 : decode method_3_code 185 = .ok (.lcmp, 1) := by decide +kernel
theorem d2_186 : decode method_3_code 186 = .ok (.ifCond .ne 8, 3) := by decide +kernel
theorem d2_189 : decode method_3_code 189 = .ok (.lload 6, 2) := by decide +kernel
theorem d2_191 : decode method_3_code 191 = .ok (.goto 6, 3) := by decide +kernel
theorem d2_197 : decode method_3_code 197 = .ok (.lreturn, 1) := by decide +kernel
theorem d2_194 : decode method_3_code 194 = .ok (.ldc2_w 21, 3) := by decide +kernel
theorem ef_2 (m : MethodId) (x0 : Int64) (x1 : Int32) : entryFrame m #[(.long x0), (.int x1)] 8 = mkF m 0 #[.val (.long x0), .second, .val (.int x1), .unset, .unset, .unset, .unset, .unset] [] := by first | (simp [entryFrame, mkF, argsToLocals, Value.category]; done) | rfl
def Q2 (Z : State) (xx : Int64) (pl : Int32) (h0 : Heap) (n0 : Nat) (vα : Option Value) (hα : Heap) (Lα : List Loc) : Prop := vα = some (.long (own_ex xx pl)) ∧ Fr n0 Lα ∧ Keep h0 hα []
set_option maxRecDepth 65536 in
set_option maxHeartbeats 40000000 in
theorem rm2 (l : Launch) (Z : State) (a0 : Array Value) (hw : ∀ d ∈ tables_1, d.before a0 Z = true) (ws : List Jvm.Cond) (xx : Int64) (pl : Int32) (h0 : Heap) (n0 : Nat) (Z0 : n0 ≤ h0.size) (hpl : 0 ≤ pl.toInt) :
    MetFree l (⟨"com/example/switchpoint/switchpoint/core/ValuesScaleUpPinLaw", "expected", "(JI)J"⟩ : MethodName) (head1 (Jvm.Cond.code (⟨"com/example/switchpoint/switchpoint/core/ValuesScaleUpPinLaw", "expected", "(JI)J"⟩ : MethodName) method_3_code 8 (some .long) :: ws) ({ frames := 0, cells := 1, slots := 19, locals := 0 } : Room)) (fun aα U => aα = #[(.long xx), (.int pl)] ∧ Z.Warmed39 U.vm ∧ U.heap = h0) (fun _ _ _ _ _ => True) (fun _ U oα U' => ∃ vα Lα, oα = .returned vα ∧ Q2 Z xx pl h0 n0 vα U'.heap Lα ∧ FrameEnd U oα U' Lα ({ frames := 0, cells := 1, slots := 19, locals := 0 } : Room).cells ({ frames := 0, cells := 1, slots := 19, locals := 0 } : Room).slots) := by
  refine MetFree.of_bodySF (plainFor_of_name pn_1) hisR ?_
  intro p e s m args below meth c s₁ Bd hml0 hP hK
  refine own_wrap ?_
  intro GL hGL
  obtain ⟨rfl, hZ, hh⟩ := hP
  have hx := Bd.exec
  have hby := Bd.bytes
  have hml : c.maxLocals = 8 := hml0
  have hown : s.vm.findClass "com/example/switchpoint/switchpoint/core/ValuesScaleUpPinLaw" = some m.cls := findClass_of_methodNamed Bd.named
  have hnm := (name_of_methodNamed Bd.named Bd.method).1
  have X0 : Stand p l e ({ frames := 0, cells := 1, slots := 19, locals := 0 } : Room) s m #[(.long xx), (.int pl)] below meth c s₁ [] 0 0 := Stand.of_body Bd
  have e0 : s₁.heap = h0 := by rw [← hh, Bd.state]; rfl
  have N0 := Fr.nil n0
  have pre0 : ∀ τ, Steps p.tables e below (s₁.setTop (mkF m 0 #[.val (.long xx), .second, .val (.int pl), .unset, .unset, .unset, .unset, .unset] [])) τ → Steps p.tables e below (s₁.setTop (entryFrame m #[(.long xx), (.int pl)] 8)) τ := fun τ κ => castTop (ef_2 m xx pl) κ
  obtain ⟨G, hG, pre⟩ : ∃ G : State → Prop, (∀ τ, G τ → Steps p.tables e below (s₁.setTop (entryFrame m #[(.long xx), (.int pl)] 8)) τ) ∧ ∀ τ, Steps p.tables e below (s₁.setTop (mkF m 0 #[.val (.long xx), .second, .val (.int pl), .unset, .unset, .unset, .unset, .unset] [])) τ → G τ := ⟨_, pre0, fun _ k => k⟩
  have K : Keep h0 h0 [] := Keep.refl h0 _
  have Zn := Z0
  have pre : ∀ τ, Steps p.tables e below (s₁.setTop (mkF m 1 #[.val (.long xx), .second, .val (.int pl), .unset, .unset, .unset, .unset, .unset] [(.int pl)])) τ → G τ := fun τ κ => pre τ (by
    refine XS.iloadN X0.here hx rfl (hb hby d2_0) rfl ?_
    show Steps p.tables e below (s₁.setTop (mkF m 1 #[.val (.long xx), .second, .val (.int pl), .unset, .unset, .unset, .unset, .unset] [(.int pl)])) τ
    exact κ)
  rcases Classical.em (pl = (0 : Int32)) with hc1_1 | hc1_1
  ·
    have pre : ∀ τ, Steps p.tables e below (s₁.setTop (mkF m 5 #[.val (.long xx), .second, .val (.int pl), .unset, .unset, .unset, .unset, .unset] [(.long xx)])) τ → G τ := fun τ κ => pre τ (by
      refine XS.ifNo X0.here hx rfl (hb hby d2_1) rfl ((if0 _ _).trans (teq hc1_1).2) ?_
      show Steps p.tables e below (s₁.setTop (mkF m 4 #[.val (.long xx), .second, .val (.int pl), .unset, .unset, .unset, .unset, .unset] [])) τ
      refine XS.lloadN X0.here hx rfl (hb hby d2_4) rfl ?_
      show Steps p.tables e below (s₁.setTop (mkF m 5 #[.val (.long xx), .second, .val (.int pl), .unset, .unset, .unset, .unset, .unset] [(.long xx)])) τ
      exact κ)
    obtain ⟨fsα, hr, hrun, hended, hW, hsame⟩ := X0.leave (v := some (.long xx)) (fun h => by rw [Bd.returns] at h; cases h)
    refine hGL ⟨_, _, hG _ (pre _ ?_), hrun, hended, _, _, rfl, ?_, ⟨_, rfl⟩, hW, hsame.mono (by decide) (by decide)⟩
    · exact retOut X0 hx Bd.returns rfl (Or.inr (Or.inl ⟨rfl, rfl, _, rfl⟩)) (hb hby d2_5) hr
    · show Q2 Z xx pl h0 n0 _ s₁.heap _
      rw [e0]
      refine ⟨?_, N0, K⟩
      unfold own_ex
      rw [if_pos hc1_1]
  ·
    have pre : ∀ τ, Steps p.tables e below (s₁.setTop (mkF m 11 #[.val (.long xx), .second, .val (.int pl), .unset, .unset, .unset, .unset, .unset] [(.int (lcmpW xx (-9223372036854775808 : Int64)))])) τ → G τ := fun τ κ => pre τ (by
      refine XS.ifYes X0.here hx rfl (pc0 := 1) (pc' := 6) rfl (hb hby d2_1) rfl ((if0 _ _).trans (feq hc1_1).2) (by decide) (by decide) ?_
      show Steps p.tables e below (s₁.setTop (mkF m 6 #[.val (.long xx), .second, .val (.int pl), .unset, .unset, .unset, .unset, .unset] [])) τ
      refine XS.lloadN X0.here hx rfl (hb hby d2_6) rfl ?_
      show Steps p.tables e below (s₁.setTop (mkF m 7 #[.val (.long xx), .second, .val (.int pl), .unset, .unset, .unset, .unset, .unset] [(.long xx)])) τ
      refine X0.ldc2Long hx hown (mvT hZ (hw _ (List.mem_of_getElem? (i := 13) rfl))) (g := (mkF m 7 #[.val (.long xx), .second, .val (.int pl), .unset, .unset, .unset, .unset, .unset] [(.long xx)])) rfl (hb hby d2_7) _ ?_
      show Steps p.tables e below (s₁.setTop (mkF m 10 #[.val (.long xx), .second, .val (.int pl), .unset, .unset, .unset, .unset, .unset] [(.long (-9223372036854775808 : Int64)), (.long xx)])) τ
      refine XS.lcmp X0.here hx rfl (hb hby d2_10) rfl ?_
      show Steps p.tables e below (s₁.setTop (mkF m 11 #[.val (.long xx), .second, .val (.int pl), .unset, .unset, .unset, .unset, .unset] [(.int (lcmpW xx (-9223372036854775808 : Int64)))])) τ
      exact κ)
    rcases Classical.em (xx = (-9223372036854775808 : Int64)) with hc11_2 | hc11_2
    ·
      have pre : ∀ τ, Steps p.tables e below (s₁.setTop (mkF m 17 #[.val (.long xx), .second, .val (.int pl), .unset, .unset, .unset, .unset, .unset] [(.long (-9223372036854775808 : Int64))])) τ → G τ := fun τ κ => pre τ (by
        refine XS.ifNo X0.here hx rfl (hb hby d2_11) rfl ((if0 _ _).trans (teq ((lw_eq _ _).mpr hc11_2)).2) ?_
        show Steps p.tables e below (s₁.setTop (mkF m 14 #[.val (.long xx), .second, .val (.int pl), .unset, .unset, .unset, .unset, .unset] [])) τ
        refine X0.ldc2Long hx hown (mvT hZ (hw _ (List.mem_of_getElem? (i := 13) rfl))) (g := (mkF m 14 #[.val (.long xx), .second, .val (.int pl), .unset, .unset, .unset, .unset, .unset] [])) rfl (hb hby d2_14) _ ?_
        show Steps p.tables e below (s₁.setTop (mkF m 17 #[.val (.long xx), .second, .val (.int pl), .unset, .unset, .unset, .unset, .unset] [(.long (-9223372036854775808 : Int64))])) τ
        exact κ)
      obtain ⟨fsα, hr, hrun, hended, hW, hsame⟩ := X0.leave (v := some (.long (-9223372036854775808 : Int64))) (fun h => by rw [Bd.returns] at h; cases h)
      refine hGL ⟨_, _, hG _ (pre _ ?_), hrun, hended, _, _, rfl, ?_, ⟨_, rfl⟩, hW, hsame.mono (by decide) (by decide)⟩
      · exact retOut X0 hx Bd.returns rfl (Or.inr (Or.inl ⟨rfl, rfl, _, rfl⟩)) (hb hby d2_17) hr
      · show Q2 Z xx pl h0 n0 _ s₁.heap _
        rw [e0]
        refine ⟨?_, N0, K⟩
        unfold own_ex
        rw [if_neg hc1_1]
        rw [if_pos hc11_2]
    ·
      have pre : ∀ τ, Steps p.tables e below (s₁.setTop (mkF m 21 #[.val (.long xx), .second, .val (.int pl), .unset, .unset, .unset, .unset, .unset] [(.int (18 : Int32)), (.int pl)])) τ → G τ := fun τ κ => pre τ (by
        refine XS.ifYes X0.here hx rfl (pc0 := 11) (pc' := 18) rfl (hb hby d2_11) rfl ((if0 _ _).trans (feq (fun q => hc11_2 ((lw_eq _ _).mp q))).2) (by decide) (by decide) ?_
        show Steps p.tables e below (s₁.setTop (mkF m 18 #[.val (.long xx), .second, .val (.int pl), .unset, .unset, .unset, .unset, .unset] [])) τ
        refine XS.iloadN X0.here hx rfl (hb hby d2_18) rfl ?_
        show Steps p.tables e below (s₁.setTop (mkF m 19 #[.val (.long xx), .second, .val (.int pl), .unset, .unset, .unset, .unset, .unset] [(.int pl)])) τ
        refine XS.bipush X0.here hx rfl (hb hby d2_19) ?_
        show Steps p.tables e below (s₁.setTop (mkF m 21 #[.val (.long xx), .second, .val (.int pl), .unset, .unset, .unset, .unset, .unset] [(.int (18 : Int32)), (.int pl)])) τ
        exact κ)
      rcases Classical.em ((18 : Int32) < pl) with hc21_3 | hc21_3
      ·
        have pre : ∀ τ, Steps p.tables e below (s₁.setTop (mkF m 27 #[.val (.long xx), .second, .val (.int pl), .unset, .unset, .unset, .unset, .unset] [(.int (lcmpW xx (0 : Int64)))])) τ → G τ := fun τ κ => pre τ (by
          refine XS.icmpNo X0.here hx rfl (hb hby d2_21) rfl (tlt hc21_3).2.2.2 ?_
          show Steps p.tables e below (s₁.setTop (mkF m 24 #[.val (.long xx), .second, .val (.int pl), .unset, .unset, .unset, .unset, .unset] [])) τ
          refine XS.lloadN X0.here hx rfl (hb hby d2_24) rfl ?_
          show Steps p.tables e below (s₁.setTop (mkF m 25 #[.val (.long xx), .second, .val (.int pl), .unset, .unset, .unset, .unset, .unset] [(.long xx)])) τ
          refine XS.lconst X0.here hx rfl (hb hby d2_25) ?_
          show Steps p.tables e below (s₁.setTop (mkF m 26 #[.val (.long xx), .second, .val (.int pl), .unset, .unset, .unset, .unset, .unset] [(.long (0 : Int64)), (.long xx)])) τ
          refine XS.lcmp X0.here hx rfl (hb hby d2_26) rfl ?_
          show Steps p.tables e below (s₁.setTop (mkF m 27 #[.val (.long xx), .second, .val (.int pl), .unset, .unset, .unset, .unset, .unset] [(.int (lcmpW xx (0 : Int64)))])) τ
          exact κ)
        rcases Classical.em (xx = (0 : Int64)) with hc27_4 | hc27_4
        ·
          have pre : ∀ τ, Steps p.tables e below (s₁.setTop (mkF m 37 #[.val (.long xx), .second, .val (.int pl), .unset, .unset, .unset, .unset, .unset] [(.long (0 : Int64))])) τ → G τ := fun τ κ => pre τ (by
            refine XS.ifNo X0.here hx rfl (hb hby d2_27) rfl ((if0 _ _).trans (teq ((lw_eq _ _).mpr hc27_4)).2) ?_
            show Steps p.tables e below (s₁.setTop (mkF m 30 #[.val (.long xx), .second, .val (.int pl), .unset, .unset, .unset, .unset, .unset] [])) τ
            refine XS.lconst X0.here hx rfl (hb hby d2_30) ?_
            show Steps p.tables e below (s₁.setTop (mkF m 31 #[.val (.long xx), .second, .val (.int pl), .unset, .unset, .unset, .unset, .unset] [(.long (0 : Int64))])) τ
            refine XS.goto X0.here hx rfl (pc0 := 31) (pc' := 37) rfl (hb hby d2_31) (by decide) (by decide) ?_
            show Steps p.tables e below (s₁.setTop (mkF m 37 #[.val (.long xx), .second, .val (.int pl), .unset, .unset, .unset, .unset, .unset] [(.long (0 : Int64))])) τ
            exact κ)
          obtain ⟨fsα, hr, hrun, hended, hW, hsame⟩ := X0.leave (v := some (.long (0 : Int64))) (fun h => by rw [Bd.returns] at h; cases h)
          refine hGL ⟨_, _, hG _ (pre _ ?_), hrun, hended, _, _, rfl, ?_, ⟨_, rfl⟩, hW, hsame.mono (by decide) (by decide)⟩
          · exact retOut X0 hx Bd.returns rfl (Or.inr (Or.inl ⟨rfl, rfl, _, rfl⟩)) (hb hby d2_37) hr
          · show Q2 Z xx pl h0 n0 _ s₁.heap _
            rw [e0]
            refine ⟨?_, N0, K⟩
            unfold own_ex
            rw [if_neg hc1_1]
            rw [if_neg hc11_2]
            rw [if_pos hc21_3]
            rw [if_pos hc27_4]
        ·
          have pre : ∀ τ, Steps p.tables e below (s₁.setTop (mkF m 37 #[.val (.long xx), .second, .val (.int pl), .unset, .unset, .unset, .unset, .unset] [(.long (-9223372036854775808 : Int64))])) τ → G τ := fun τ κ => pre τ (by
            refine XS.ifYes X0.here hx rfl (pc0 := 27) (pc' := 34) rfl (hb hby d2_27) rfl ((if0 _ _).trans (feq (fun q => hc27_4 ((lw_eq _ _).mp q))).2) (by decide) (by decide) ?_
            show Steps p.tables e below (s₁.setTop (mkF m 34 #[.val (.long xx), .second, .val (.int pl), .unset, .unset, .unset, .unset, .unset] [])) τ
            refine X0.ldc2Long hx hown (mvT hZ (hw _ (List.mem_of_getElem? (i := 13) rfl))) (g := (mkF m 34 #[.val (.long xx), .second, .val (.int pl), .unset, .unset, .unset, .unset, .unset] [])) rfl (hb hby d2_34) _ ?_
            show Steps p.tables e below (s₁.setTop (mkF m 37 #[.val (.long xx), .second, .val (.int pl), .unset, .unset, .unset, .unset, .unset] [(.long (-9223372036854775808 : Int64))])) τ
            exact κ)
          obtain ⟨fsα, hr, hrun, hended, hW, hsame⟩ := X0.leave (v := some (.long (-9223372036854775808 : Int64))) (fun h => by rw [Bd.returns] at h; cases h)
          refine hGL ⟨_, _, hG _ (pre _ ?_), hrun, hended, _, _, rfl, ?_, ⟨_, rfl⟩, hW, hsame.mono (by decide) (by decide)⟩
          · exact retOut X0 hx Bd.returns rfl (Or.inr (Or.inl ⟨rfl, rfl, _, rfl⟩)) (hb hby d2_37) hr
          · show Q2 Z xx pl h0 n0 _ s₁.heap _
            rw [e0]
            refine ⟨?_, N0, K⟩
            unfold own_ex
            rw [if_neg hc1_1]
            rw [if_neg hc11_2]
            rw [if_pos hc21_3]
            rw [if_neg hc27_4]
      ·
        have pre : ∀ τ, Steps p.tables e below (s₁.setTop (mkF m 40 #[.val (.long xx), .second, .val (.int pl), .unset, .unset, .unset, .unset, .unset] [(.int (19 : Int32))])) τ → G τ := fun τ κ => pre τ (by
          refine XS.icmpYes X0.here hx rfl (pc0 := 21) (pc' := 38) rfl (hb hby d2_21) rfl (flt hc21_3).2.2.2 (by decide) (by decide) ?_
          show Steps p.tables e below (s₁.setTop (mkF m 38 #[.val (.long xx), .second, .val (.int pl), .unset, .unset, .unset, .unset, .unset] [])) τ
          refine XS.bipush X0.here hx rfl (hb hby d2_38) ?_
          show Steps p.tables e below (s₁.setTop (mkF m 40 #[.val (.long xx), .second, .val (.int pl), .unset, .unset, .unset, .unset, .unset] [(.int (19 : Int32))])) τ
          exact κ)
        obtain ⟨T5, h5, k5, X5, e5, E5, A5, st5⟩ := newP X0 hx hZ (hw _ (List.mem_of_getElem? (i := 14) rfl)) e0 (g := (mkF m 40 #[.val (.long xx), .second, .val (.int pl), .unset, .unset, .unset, .unset, .unset] [(.int (19 : Int32))])) rfl (hb hby d2_40) rfl (by decide) (cap := 19) (by decide) (by decide) (by decide) (by decide)
        obtain ⟨b5, gg5⟩ : ∃ z, z = h0.size := ⟨_, rfl⟩
        rw [← gg5] at A5 st5
        have g_b5 : n0 ≤ b5 := Nat.le_trans Zn (Nat.le_of_eq gg5.symm)
        have sz_b5 : h0.size ≤ b5 := Nat.le_trans K.1 (Nat.le_of_eq gg5.symm)
        have Zn : n0 ≤ h5.size := Nat.le_trans Zn E5.1
        have K : Keep h0 h5 [] := K.ext E5
        have V_b5 : Arv Z h5 b5 k5 .long (19 : Int32) [(.long (0 : Int64)), (.long (0 : Int64)), (.long (0 : Int64)), (.long (0 : Int64)), (.long (0 : Int64)), (.long (0 : Int64)), (.long (0 : Int64)), (.long (0 : Int64)), (.long (0 : Int64)), (.long (0 : Int64)), (.long (0 : Int64)), (.long (0 : Int64)), (.long (0 : Int64)), (.long (0 : Int64)), (.long (0 : Int64)), (.long (0 : Int64)), (.long (0 : Int64)), (.long (0 : Int64)), (.long (0 : Int64))] (.long (0 : Int64)) := (Arv.new A5 (by decide)).pad (pad_rep [] (.long (0 : Int64)) 19)
        have pre : ∀ τ, Steps p.tables e below (T5.setTop (mkF m 42 #[.val (.long xx), .second, .val (.int pl), .unset, .unset, .unset, .unset, .unset] [(.ref b5)])) τ → G τ := fun τ κ => pre τ (st5 τ κ)
        have pre : ∀ τ, Steps p.tables e below (T5.setTop (mkF m 45 #[.val (.long xx), .second, .val (.int pl), .unset, .unset, .unset, .unset, .unset] [(.long (1 : Int64)), (.int (0 : Int32)), (.ref b5), (.ref b5)])) τ → G τ := fun τ κ => pre τ (by
          refine XS.dup X5.here hx rfl (hb hby d2_42) rfl rfl ?_
          show Steps p.tables e below (T5.setTop (mkF m 43 #[.val (.long xx), .second, .val (.int pl), .unset, .unset, .unset, .unset, .unset] [(.ref b5), (.ref b5)])) τ
          refine XS.iconst X5.here hx rfl (hb hby d2_43) ?_
          show Steps p.tables e below (T5.setTop (mkF m 44 #[.val (.long xx), .second, .val (.int pl), .unset, .unset, .unset, .unset, .unset] [(.int (0 : Int32)), (.ref b5), (.ref b5)])) τ
          refine XS.lconst X5.here hx rfl (hb hby d2_44) ?_
          show Steps p.tables e below (T5.setTop (mkF m 45 #[.val (.long xx), .second, .val (.int pl), .unset, .unset, .unset, .unset, .unset] [(.long (1 : Int64)), (.int (0 : Int32)), (.ref b5), (.ref b5)])) τ
          exact κ)
        obtain ⟨c6, Ar6, q6, S6, Nz6, Hh6, Gg6⟩ := id V_b5
        have hin6 : ¬ ((0 : Int32) < 0 ∨ c6.slots.size ≤ ((0 : Int32)).toNatClampNeg) := inb_of S6 ⟨by decide, by decide⟩
        obtain ⟨T6, h6, X6, e6, W6, st6⟩ := stJ X5 hx hZ e5 Ar6 (j := (0 : Int32)) hin6 (g := (mkF m 45 #[.val (.long xx), .second, .val (.int pl), .unset, .unset, .unset, .unset, .unset] [(.long (1 : Int64)), (.int (0 : Int32)), (.ref b5), (.ref b5)])) rfl rfl (hb hby d2_45)
        have V_b5 : Arv Z h6 b5 k5 .long (19 : Int32) [(.long (1 : Int64)), (.long (0 : Int64)), (.long (0 : Int64)), (.long (0 : Int64)), (.long (0 : Int64)), (.long (0 : Int64)), (.long (0 : Int64)), (.long (0 : Int64)), (.long (0 : Int64)), (.long (0 : Int64)), (.long (0 : Int64)), (.long (0 : Int64)), (.long (0 : Int64)), (.long (0 : Int64)), (.long (0 : Int64)), (.long (0 : Int64)), (.long (0 : Int64)), (.long (0 : Int64)), (.long (0 : Int64))] (.long (0 : Int64)) := Arv.set Ar6 q6 S6 Nz6 Hh6 Gg6 rfl W6 0 rfl (Nat.le_of_ble_eq_true rfl)
        have Zn : n0 ≤ h6.size := Nat.le_trans Zn (Keep.of_wr W6).1
        have K : Keep h0 h6 [] := K.wr W6 (Or.inr sz_b5)
        have NN := Fr.snoc X6 N0 g_b5
        have pre : ∀ τ, Steps p.tables e below (T6.setTop (mkF m 46 #[.val (.long xx), .second, .val (.int pl), .unset, .unset, .unset, .unset, .unset] [(.ref b5)])) τ → G τ := fun τ κ => pre τ (st6 τ κ)
        have pre : ∀ τ, Steps p.tables e below (T6.setTop (mkF m 51 #[.val (.long xx), .second, .val (.int pl), .unset, .unset, .unset, .unset, .unset] [(.long (10 : Int64)), (.int (1 : Int32)), (.ref b5), (.ref b5)])) τ → G τ := fun τ κ => pre τ (by
          refine XS.dup X6.here hx rfl (hb hby d2_46) rfl rfl ?_
          show Steps p.tables e below (T6.setTop (mkF m 47 #[.val (.long xx), .second, .val (.int pl), .unset, .unset, .unset, .unset, .unset] [(.ref b5), (.ref b5)])) τ
          refine XS.iconst X6.here hx rfl (hb hby d2_47) ?_
          show Steps p.tables e below (T6.setTop (mkF m 48 #[.val (.long xx), .second, .val (.int pl), .unset, .unset, .unset, .unset, .unset] [(.int (1 : Int32)), (.ref b5), (.ref b5)])) τ
          refine X6.ldc2Long hx hown (mvT hZ (hw _ (List.mem_of_getElem? (i := 15) rfl))) (g := (mkF m 48 #[.val (.long xx), .second, .val (.int pl), .unset, .unset, .unset, .unset, .unset] [(.int (1 : Int32)), (.ref b5), (.ref b5)])) rfl (hb hby d2_48) _ ?_
          show Steps p.tables e below (T6.setTop (mkF m 51 #[.val (.long xx), .second, .val (.int pl), .unset, .unset, .unset, .unset, .unset] [(.long (10 : Int64)), (.int (1 : Int32)), (.ref b5), (.ref b5)])) τ
          exact κ)
        obtain ⟨c7, Ar7, q7, S7, Nz7, Hh7, Gg7⟩ := id V_b5
        have hin7 : ¬ ((1 : Int32) < 0 ∨ c7.slots.size ≤ ((1 : Int32)).toNatClampNeg) := inb_of S7 ⟨by decide, by decide⟩
        obtain ⟨T7, h7, X7, e7, W7, st7⟩ := stJ X6 hx hZ e6 Ar7 (j := (1 : Int32)) hin7 (g := (mkF m 51 #[.val (.long xx), .second, .val (.int pl), .unset, .unset, .unset, .unset, .unset] [(.long (10 : Int64)), (.int (1 : Int32)), (.ref b5), (.ref b5)])) rfl rfl (hb hby d2_51)
        have V_b5 : Arv Z h7 b5 k5 .long (19 : Int32) [(.long (1 : Int64)), (.long (10 : Int64)), (.long (0 : Int64)), (.long (0 : Int64)), (.long (0 : Int64)), (.long (0 : Int64)), (.long (0 : Int64)), (.long (0 : Int64)), (.long (0 : Int64)), (.long (0 : Int64)), (.long (0 : Int64)), (.long (0 : Int64)), (.long (0 : Int64)), (.long (0 : Int64)), (.long (0 : Int64)), (.long (0 : Int64)), (.long (0 : Int64)), (.long (0 : Int64)), (.long (0 : Int64))] (.long (0 : Int64)) := Arv.set Ar7 q7 S7 Nz7 Hh7 Gg7 rfl W7 1 rfl (Nat.le_of_ble_eq_true rfl)
        have Zn : n0 ≤ h7.size := Nat.le_trans Zn (Keep.of_wr W7).1
        have K : Keep h0 h7 [] := K.wr W7 (Or.inr sz_b5)
        have NN := Fr.snoc X7 NN g_b5
        have pre : ∀ τ, Steps p.tables e below (T7.setTop (mkF m 52 #[.val (.long xx), .second, .val (.int pl), .unset, .unset, .unset, .unset, .unset] [(.ref b5)])) τ → G τ := fun τ κ => pre τ (st7 τ κ)
        have pre : ∀ τ, Steps p.tables e below (T7.setTop (mkF m 57 #[.val (.long xx), .second, .val (.int pl), .unset, .unset, .unset, .unset, .unset] [(.long (100 : Int64)), (.int (2 : Int32)), (.ref b5), (.ref b5)])) τ → G τ := fun τ κ => pre τ (by
          refine XS.dup X7.here hx rfl (hb hby d2_52) rfl rfl ?_
          show Steps p.tables e below (T7.setTop (mkF m 53 #[.val (.long xx), .second, .val (.int pl), .unset, .unset, .unset, .unset, .unset] [(.ref b5), (.ref b5)])) τ
          refine XS.iconst X7.here hx rfl (hb hby d2_53) ?_
          show Steps p.tables e below (T7.setTop (mkF m 54 #[.val (.long xx), .second, .val (.int pl), .unset, .unset, .unset, .unset, .unset] [(.int (2 : Int32)), (.ref b5), (.ref b5)])) τ
          refine X7.ldc2Long hx hown (mvT hZ (hw _ (List.mem_of_getElem? (i := 16) rfl))) (g := (mkF m 54 #[.val (.long xx), .second, .val (.int pl), .unset, .unset, .unset, .unset, .unset] [(.int (2 : Int32)), (.ref b5), (.ref b5)])) rfl (hb hby d2_54) _ ?_
          show Steps p.tables e below (T7.setTop (mkF m 57 #[.val (.long xx), .second, .val (.int pl), .unset, .unset, .unset, .unset, .unset] [(.long (100 : Int64)), (.int (2 : Int32)), (.ref b5), (.ref b5)])) τ
          exact κ)
        obtain ⟨c8, Ar8, q8, S8, Nz8, Hh8, Gg8⟩ := id V_b5
        have hin8 : ¬ ((2 : Int32) < 0 ∨ c8.slots.size ≤ ((2 : Int32)).toNatClampNeg) := inb_of S8 ⟨by decide, by decide⟩
        obtain ⟨T8, h8, X8, e8, W8, st8⟩ := stJ X7 hx hZ e7 Ar8 (j := (2 : Int32)) hin8 (g := (mkF m 57 #[.val (.long xx), .second, .val (.int pl), .unset, .unset, .unset, .unset, .unset] [(.long (100 : Int64)), (.int (2 : Int32)), (.ref b5), (.ref b5)])) rfl rfl (hb hby d2_57)
        have V_b5 : Arv Z h8 b5 k5 .long (19 : Int32) [(.long (1 : Int64)), (.long (10 : Int64)), (.long (100 : Int64)), (.long (0 : Int64)), (.long (0 : Int64)), (.long (0 : Int64)), (.long (0 : Int64)), (.long (0 : Int64)), (.long (0 : Int64)), (.long (0 : Int64)), (.long (0 : Int64)), (.long (0 : Int64)), (.long (0 : Int64)), (.long (0 : Int64)), (.long (0 : Int64)), (.long (0 : Int64)), (.long (0 : Int64)), (.long (0 : Int64)), (.long (0 : Int64))] (.long (0 : Int64)) := Arv.set Ar8 q8 S8 Nz8 Hh8 Gg8 rfl W8 2 rfl (Nat.le_of_ble_eq_true rfl)
        have Zn : n0 ≤ h8.size := Nat.le_trans Zn (Keep.of_wr W8).1
        have K : Keep h0 h8 [] := K.wr W8 (Or.inr sz_b5)
        have NN := Fr.snoc X8 NN g_b5
        have pre : ∀ τ, Steps p.tables e below (T8.setTop (mkF m 58 #[.val (.long xx), .second, .val (.int pl), .unset, .unset, .unset, .unset, .unset] [(.ref b5)])) τ → G τ := fun τ κ => pre τ (st8 τ κ)
        have pre : ∀ τ, Steps p.tables e below (T8.setTop (mkF m 63 #[.val (.long xx), .second, .val (.int pl), .unset, .unset, .unset, .unset, .unset] [(.long (1000 : Int64)), (.int (3 : Int32)), (.ref b5), (.ref b5)])) τ → G τ := fun τ κ => pre τ (by
          refine XS.dup X8.here hx rfl (hb hby d2_58) rfl rfl ?_
          show Steps p.tables e below (T8.setTop (mkF m 59 #[.val (.long xx), .second, .val (.int pl), .unset, .unset, .unset, .unset, .unset] [(.ref b5), (.ref b5)])) τ
          refine XS.iconst X8.here hx rfl (hb hby d2_59) ?_
          show Steps p.tables e below (T8.setTop (mkF m 60 #[.val (.long xx), .second, .val (.int pl), .unset, .unset, .unset, .unset, .unset] [(.int (3 : Int32)), (.ref b5), (.ref b5)])) τ
          refine X8.ldc2Long hx hown (mvT hZ (hw _ (List.mem_of_getElem? (i := 17) rfl))) (g := (mkF m 60 #[.val (.long xx), .second, .val (.int pl), .unset, .unset, .unset, .unset, .unset] [(.int (3 : Int32)), (.ref b5), (.ref b5)])) rfl (hb hby d2_60) _ ?_
          show Steps p.tables e below (T8.setTop (mkF m 63 #[.val (.long xx), .second, .val (.int pl), .unset, .unset, .unset, .unset, .unset] [(.long (1000 : Int64)), (.int (3 : Int32)), (.ref b5), (.ref b5)])) τ
          exact κ)
        obtain ⟨c9, Ar9, q9, S9, Nz9, Hh9, Gg9⟩ := id V_b5
        have hin9 : ¬ ((3 : Int32) < 0 ∨ c9.slots.size ≤ ((3 : Int32)).toNatClampNeg) := inb_of S9 ⟨by decide, by decide⟩
        obtain ⟨T9, h9, X9, e9, W9, st9⟩ := stJ X8 hx hZ e8 Ar9 (j := (3 : Int32)) hin9 (g := (mkF m 63 #[.val (.long xx), .second, .val (.int pl), .unset, .unset, .unset, .unset, .unset] [(.long (1000 : Int64)), (.int (3 : Int32)), (.ref b5), (.ref b5)])) rfl rfl (hb hby d2_63)
        have V_b5 : Arv Z h9 b5 k5 .long (19 : Int32) [(.long (1 : Int64)), (.long (10 : Int64)), (.long (100 : Int64)), (.long (1000 : Int64)), (.long (0 : Int64)), (.long (0 : Int64)), (.long (0 : Int64)), (.long (0 : Int64)), (.long (0 : Int64)), (.long (0 : Int64)), (.long (0 : Int64)), (.long (0 : Int64)), (.long (0 : Int64)), (.long (0 : Int64)), (.long (0 : Int64)), (.long (0 : Int64)), (.long (0 : Int64)), (.long (0 : Int64)), (.long (0 : Int64))] (.long (0 : Int64)) := Arv.set Ar9 q9 S9 Nz9 Hh9 Gg9 rfl W9 3 rfl (Nat.le_of_ble_eq_true rfl)
        have Zn : n0 ≤ h9.size := Nat.le_trans Zn (Keep.of_wr W9).1
        have K : Keep h0 h9 [] := K.wr W9 (Or.inr sz_b5)
        have NN := Fr.snoc X9 NN g_b5
        have pre : ∀ τ, Steps p.tables e below (T9.setTop (mkF m 64 #[.val (.long xx), .second, .val (.int pl), .unset, .unset, .unset, .unset, .unset] [(.ref b5)])) τ → G τ := fun τ κ => pre τ (st9 τ κ)
        have pre : ∀ τ, Steps p.tables e below (T9.setTop (mkF m 69 #[.val (.long xx), .second, .val (.int pl), .unset, .unset, .unset, .unset, .unset] [(.long (10000 : Int64)), (.int (4 : Int32)), (.ref b5), (.ref b5)])) τ → G τ := fun τ κ => pre τ (by
          refine XS.dup X9.here hx rfl (hb hby d2_64) rfl rfl ?_
          show Steps p.tables e below (T9.setTop (mkF m 65 #[.val (.long xx), .second, .val (.int pl), .unset, .unset, .unset, .unset, .unset] [(.ref b5), (.ref b5)])) τ
          refine XS.iconst X9.here hx rfl (hb hby d2_65) ?_
          show Steps p.tables e below (T9.setTop (mkF m 66 #[.val (.long xx), .second, .val (.int pl), .unset, .unset, .unset, .unset, .unset] [(.int (4 : Int32)), (.ref b5), (.ref b5)])) τ
          refine X9.ldc2Long hx hown (mvT hZ (hw _ (List.mem_of_getElem? (i := 18) rfl))) (g := (mkF m 66 #[.val (.long xx), .second, .val (.int pl), .unset, .unset, .unset, .unset, .unset] [(.int (4 : Int32)), (.ref b5), (.ref b5)])) rfl (hb hby d2_66) _ ?_
          show Steps p.tables e below (T9.setTop (mkF m 69 #[.val (.long xx), .second, .val (.int pl), .unset, .unset, .unset, .unset, .unset] [(.long (10000 : Int64)), (.int (4 : Int32)), (.ref b5), (.ref b5)])) τ
          exact κ)
        obtain ⟨c10, Ar10, q10, S10, Nz10, Hh10, Gg10⟩ := id V_b5
        have hin10 : ¬ ((4 : Int32) < 0 ∨ c10.slots.size ≤ ((4 : Int32)).toNatClampNeg) := inb_of S10 ⟨by decide, by decide⟩
        obtain ⟨T10, h10, X10, e10, W10, st10⟩ := stJ X9 hx hZ e9 Ar10 (j := (4 : Int32)) hin10 (g := (mkF m 69 #[.val (.long xx), .second, .val (.int pl), .unset, .unset, .unset, .unset, .unset] [(.long (10000 : Int64)), (.int (4 : Int32)), (.ref b5), (.ref b5)])) rfl rfl (hb hby d2_69)
        have V_b5 : Arv Z h10 b5 k5 .long (19 : Int32) [(.long (1 : Int64)), (.long (10 : Int64)), (.long (100 : Int64)), (.long (1000 : Int64)), (.long (10000 : Int64)), (.long (0 : Int64)), (.long (0 : Int64)), (.long (0 : Int64)), (.long (0 : Int64)), (.long (0 : Int64)), (.long (0 : Int64)), (.long (0 : Int64)), (.long (0 : Int64)), (.long (0 : Int64)), (.long (0 : Int64)), (.long (0 : Int64)), (.long (0 : Int64)), (.long (0 : Int64)), (.long (0 : Int64))] (.long (0 : Int64)) := Arv.set Ar10 q10 S10 Nz10 Hh10 Gg10 rfl W10 4 rfl (Nat.le_of_ble_eq_true rfl)
        have Zn : n0 ≤ h10.size := Nat.le_trans Zn (Keep.of_wr W10).1
        have K : Keep h0 h10 [] := K.wr W10 (Or.inr sz_b5)
        have NN := Fr.snoc X10 NN g_b5
        have pre : ∀ τ, Steps p.tables e below (T10.setTop (mkF m 70 #[.val (.long xx), .second, .val (.int pl), .unset, .unset, .unset, .unset, .unset] [(.ref b5)])) τ → G τ := fun τ κ => pre τ (st10 τ κ)
        have pre : ∀ τ, Steps p.tables e below (T10.setTop (mkF m 75 #[.val (.long xx), .second, .val (.int pl), .unset, .unset, .unset, .unset, .unset] [(.long (100000 : Int64)), (.int (5 : Int32)), (.ref b5), (.ref b5)])) τ → G τ := fun τ κ => pre τ (by
          refine XS.dup X10.here hx rfl (hb hby d2_70) rfl rfl ?_
          show Steps p.tables e below (T10.setTop (mkF m 71 #[.val (.long xx), .second, .val (.int pl), .unset, .unset, .unset, .unset, .unset] [(.ref b5), (.ref b5)])) τ
          refine XS.iconst X10.here hx rfl (hb hby d2_71) ?_
          show Steps p.tables e below (T10.setTop (mkF m 72 #[.val (.long xx), .second, .val (.int pl), .unset, .unset, .unset, .unset, .unset] [(.int (5 : Int32)), (.ref b5), (.ref b5)])) τ
          refine X10.ldc2Long hx hown (mvT hZ (hw _ (List.mem_of_getElem? (i := 19) rfl))) (g := (mkF m 72 #[.val (.long xx), .second, .val (.int pl), .unset, .unset, .unset, .unset, .unset] [(.int (5 : Int32)), (.ref b5), (.ref b5)])) rfl (hb hby d2_72) _ ?_
          show Steps p.tables e below (T10.setTop (mkF m 75 #[.val (.long xx), .second, .val (.int pl), .unset, .unset, .unset, .unset, .unset] [(.long (100000 : Int64)), (.int (5 : Int32)), (.ref b5), (.ref b5)])) τ
          exact κ)
        obtain ⟨c11, Ar11, q11, S11, Nz11, Hh11, Gg11⟩ := id V_b5
        have hin11 : ¬ ((5 : Int32) < 0 ∨ c11.slots.size ≤ ((5 : Int32)).toNatClampNeg) := inb_of S11 ⟨by decide, by decide⟩
        obtain ⟨T11, h11, X11, e11, W11, st11⟩ := stJ X10 hx hZ e10 Ar11 (j := (5 : Int32)) hin11 (g := (mkF m 75 #[.val (.long xx), .second, .val (.int pl), .unset, .unset, .unset, .unset, .unset] [(.long (100000 : Int64)), (.int (5 : Int32)), (.ref b5), (.ref b5)])) rfl rfl (hb hby d2_75)
        have V_b5 : Arv Z h11 b5 k5 .long (19 : Int32) [(.long (1 : Int64)), (.long (10 : Int64)), (.long (100 : Int64)), (.long (1000 : Int64)), (.long (10000 : Int64)), (.long (100000 : Int64)), (.long (0 : Int64)), (.long (0 : Int64)), (.long (0 : Int64)), (.long (0 : Int64)), (.long (0 : Int64)), (.long (0 : Int64)), (.long (0 : Int64)), (.long (0 : Int64)), (.long (0 : Int64)), (.long (0 : Int64)), (.long (0 : Int64)), (.long (0 : Int64)), (.long (0 : Int64))] (.long (0 : Int64)) := Arv.set Ar11 q11 S11 Nz11 Hh11 Gg11 rfl W11 5 rfl (Nat.le_of_ble_eq_true rfl)
        have Zn : n0 ≤ h11.size := Nat.le_trans Zn (Keep.of_wr W11).1
        have K : Keep h0 h11 [] := K.wr W11 (Or.inr sz_b5)
        have NN := Fr.snoc X11 NN g_b5
        have pre : ∀ τ, Steps p.tables e below (T11.setTop (mkF m 76 #[.val (.long xx), .second, .val (.int pl), .unset, .unset, .unset, .unset, .unset] [(.ref b5)])) τ → G τ := fun τ κ => pre τ (st11 τ κ)
        have pre : ∀ τ, Steps p.tables e below (T11.setTop (mkF m 82 #[.val (.long xx), .second, .val (.int pl), .unset, .unset, .unset, .unset, .unset] [(.long (1000000 : Int64)), (.int (6 : Int32)), (.ref b5), (.ref b5)])) τ → G τ := fun τ κ => pre τ (by
          refine XS.dup X11.here hx rfl (hb hby d2_76) rfl rfl ?_
          show Steps p.tables e below (T11.setTop (mkF m 77 #[.val (.long xx), .second, .val (.int pl), .unset, .unset, .unset, .unset, .unset] [(.ref b5), (.ref b5)])) τ
          refine XS.bipush X11.here hx rfl (hb hby d2_77) ?_
          show Steps p.tables e below (T11.setTop (mkF m 79 #[.val (.long xx), .second, .val (.int pl), .unset, .unset, .unset, .unset, .unset] [(.int (6 : Int32)), (.ref b5), (.ref b5)])) τ
          refine X11.ldc2Long hx hown (mvT hZ (hw _ (List.mem_of_getElem? (i := 20) rfl))) (g := (mkF m 79 #[.val (.long xx), .second, .val (.int pl), .unset, .unset, .unset, .unset, .unset] [(.int (6 : Int32)), (.ref b5), (.ref b5)])) rfl (hb hby d2_79) _ ?_
          show Steps p.tables e below (T11.setTop (mkF m 82 #[.val (.long xx), .second, .val (.int pl), .unset, .unset, .unset, .unset, .unset] [(.long (1000000 : Int64)), (.int (6 : Int32)), (.ref b5), (.ref b5)])) τ
          exact κ)
        obtain ⟨c12, Ar12, q12, S12, Nz12, Hh12, Gg12⟩ := id V_b5
        have hin12 : ¬ ((6 : Int32) < 0 ∨ c12.slots.size ≤ ((6 : Int32)).toNatClampNeg) := inb_of S12 ⟨by decide, by decide⟩
        obtain ⟨T12, h12, X12, e12, W12, st12⟩ := stJ X11 hx hZ e11 Ar12 (j := (6 : Int32)) hin12 (g := (mkF m 82 #[.val (.long xx), .second, .val (.int pl), .unset, .unset, .unset, .unset, .unset] [(.long (1000000 : Int64)), (.int (6 : Int32)), (.ref b5), (.ref b5)])) rfl rfl (hb hby d2_82)
        have V_b5 : Arv Z h12 b5 k5 .long (19 : Int32) [(.long (1 : Int64)), (.long (10 : Int64)), (.long (100 : Int64)), (.long (1000 : Int64)), (.long (10000 : Int64)), (.long (100000 : Int64)), (.long (1000000 : Int64)), (.long (0 : Int64)), (.long (0 : Int64)), (.long (0 : Int64)), (.long (0 : Int64)), (.long (0 : Int64)), (.long (0 : Int64)), (.long (0 : Int64)), (.long (0 : Int64)), (.long (0 : Int64)), (.long (0 : Int64)), (.long (0 : Int64)), (.long (0 : Int64))] (.long (0 : Int64)) := Arv.set Ar12 q12 S12 Nz12 Hh12 Gg12 rfl W12 6 rfl (Nat.le_of_ble_eq_true rfl)
        have Zn : n0 ≤ h12.size := Nat.le_trans Zn (Keep.of_wr W12).1
        have K : Keep h0 h12 [] := K.wr W12 (Or.inr sz_b5)
        have NN := Fr.snoc X12 NN g_b5
        have pre : ∀ τ, Steps p.tables e below (T12.setTop (mkF m 83 #[.val (.long xx), .second, .val (.int pl), .unset, .unset, .unset, .unset, .unset] [(.ref b5)])) τ → G τ := fun τ κ => pre τ (st12 τ κ)
        have pre : ∀ τ, Steps p.tables e below (T12.setTop (mkF m 89 #[.val (.long xx), .second, .val (.int pl), .unset, .unset, .unset, .unset, .unset] [(.long (10000000 : Int64)), (.int (7 : Int32)), (.ref b5), (.ref b5)])) τ → G τ := fun τ κ => pre τ (by
          refine XS.dup X12.here hx rfl (hb hby d2_83) rfl rfl ?_
          show Steps p.tables e below (T12.setTop (mkF m 84 #[.val (.long xx), .second, .val (.int pl), .unset, .unset, .unset, .unset, .unset] [(.ref b5), (.ref b5)])) τ
          refine XS.bipush X12.here hx rfl (hb hby d2_84) ?_
          show Steps p.tables e below (T12.setTop (mkF m 86 #[.val (.long xx), .second, .val (.int pl), .unset, .unset, .unset, .unset, .unset] [(.int (7 : Int32)), (.ref b5), (.ref b5)])) τ
          refine X12.ldc2Long hx hown (mvT hZ (hw _ (List.mem_of_getElem? (i := 21) rfl))) (g := (mkF m 86 #[.val (.long xx), .second, .val (.int pl), .unset, .unset, .unset, .unset, .unset] [(.int (7 : Int32)), (.ref b5), (.ref b5)])) rfl (hb hby d2_86) _ ?_
          show Steps p.tables e below (T12.setTop (mkF m 89 #[.val (.long xx), .second, .val (.int pl), .unset, .unset, .unset, .unset, .unset] [(.long (10000000 : Int64)), (.int (7 : Int32)), (.ref b5), (.ref b5)])) τ
          exact κ)
        obtain ⟨c13, Ar13, q13, S13, Nz13, Hh13, Gg13⟩ := id V_b5
        have hin13 : ¬ ((7 : Int32) < 0 ∨ c13.slots.size ≤ ((7 : Int32)).toNatClampNeg) := inb_of S13 ⟨by decide, by decide⟩
        obtain ⟨T13, h13, X13, e13, W13, st13⟩ := stJ X12 hx hZ e12 Ar13 (j := (7 : Int32)) hin13 (g := (mkF m 89 #[.val (.long xx), .second, .val (.int pl), .unset, .unset, .unset, .unset, .unset] [(.long (10000000 : Int64)), (.int (7 : Int32)), (.ref b5), (.ref b5)])) rfl rfl (hb hby d2_89)
        have V_b5 : Arv Z h13 b5 k5 .long (19 : Int32) [(.long (1 : Int64)), (.long (10 : Int64)), (.long (100 : Int64)), (.long (1000 : Int64)), (.long (10000 : Int64)), (.long (100000 : Int64)), (.long (1000000 : Int64)), (.long (10000000 : Int64)), (.long (0 : Int64)), (.long (0 : Int64)), (.long (0 : Int64)), (.long (0 : Int64)), (.long (0 : Int64)), (.long (0 : Int64)), (.long (0 : Int64)), (.long (0 : Int64)), (.long (0 : Int64)), (.long (0 : Int64)), (.long (0 : Int64))] (.long (0 : Int64)) := Arv.set Ar13 q13 S13 Nz13 Hh13 Gg13 rfl W13 7 rfl (Nat.le_of_ble_eq_true rfl)
        have Zn : n0 ≤ h13.size := Nat.le_trans Zn (Keep.of_wr W13).1
        have K : Keep h0 h13 [] := K.wr W13 (Or.inr sz_b5)
        have NN := Fr.snoc X13 NN g_b5
        have pre : ∀ τ, Steps p.tables e below (T13.setTop (mkF m 90 #[.val (.long xx), .second, .val (.int pl), .unset, .unset, .unset, .unset, .unset] [(.ref b5)])) τ → G τ := fun τ κ => pre τ (st13 τ κ)
        have pre : ∀ τ, Steps p.tables e below (T13.setTop (mkF m 96 #[.val (.long xx), .second, .val (.int pl), .unset, .unset, .unset, .unset, .unset] [(.long (100000000 : Int64)), (.int (8 : Int32)), (.ref b5), (.ref b5)])) τ → G τ := fun τ κ => pre τ (by
          refine XS.dup X13.here hx rfl (hb hby d2_90) rfl rfl ?_
          show Steps p.tables e below (T13.setTop (mkF m 91 #[.val (.long xx), .second, .val (.int pl), .unset, .unset, .unset, .unset, .unset] [(.ref b5), (.ref b5)])) τ
          refine XS.bipush X13.here hx rfl (hb hby d2_91) ?_
          show Steps p.tables e below (T13.setTop (mkF m 93 #[.val (.long xx), .second, .val (.int pl), .unset, .unset, .unset, .unset, .unset] [(.int (8 : Int32)), (.ref b5), (.ref b5)])) τ
          refine X13.ldc2Long hx hown (mvT hZ (hw _ (List.mem_of_getElem? (i := 22) rfl))) (g := (mkF m 93 #[.val (.long xx), .second, .val (.int pl), .unset, .unset, .unset, .unset, .unset] [(.int (8 : Int32)), (.ref b5), (.ref b5)])) rfl (hb hby d2_93) _ ?_
          show Steps p.tables e below (T13.setTop (mkF m 96 #[.val (.long xx), .second, .val (.int pl), .unset, .unset, .unset, .unset, .unset] [(.long (100000000 : Int64)), (.int (8 : Int32)), (.ref b5), (.ref b5)])) τ
          exact κ)
        obtain ⟨c14, Ar14, q14, S14, Nz14, Hh14, Gg14⟩ := id V_b5
        have hin14 : ¬ ((8 : Int32) < 0 ∨ c14.slots.size ≤ ((8 : Int32)).toNatClampNeg) := inb_of S14 ⟨by decide, by decide⟩
        obtain ⟨T14, h14, X14, e14, W14, st14⟩ := stJ X13 hx hZ e13 Ar14 (j := (8 : Int32)) hin14 (g := (mkF m 96 #[.val (.long xx), .second, .val (.int pl), .unset, .unset, .unset, .unset, .unset] [(.long (100000000 : Int64)), (.int (8 : Int32)), (.ref b5), (.ref b5)])) rfl rfl (hb hby d2_96)
        have V_b5 : Arv Z h14 b5 k5 .long (19 : Int32) [(.long (1 : Int64)), (.long (10 : Int64)), (.long (100 : Int64)), (.long (1000 : Int64)), (.long (10000 : Int64)), (.long (100000 : Int64)), (.long (1000000 : Int64)), (.long (10000000 : Int64)), (.long (100000000 : Int64)), (.long (0 : Int64)), (.long (0 : Int64)), (.long (0 : Int64)), (.long (0 : Int64)), (.long (0 : Int64)), (.long (0 : Int64)), (.long (0 : Int64)), (.long (0 : Int64)), (.long (0 : Int64)), (.long (0 : Int64))] (.long (0 : Int64)) := Arv.set Ar14 q14 S14 Nz14 Hh14 Gg14 rfl W14 8 rfl (Nat.le_of_ble_eq_true rfl)
        have Zn : n0 ≤ h14.size := Nat.le_trans Zn (Keep.of_wr W14).1
        have K : Keep h0 h14 [] := K.wr W14 (Or.inr sz_b5)
        have NN := Fr.snoc X14 NN g_b5
        have pre : ∀ τ, Steps p.tables e below (T14.setTop (mkF m 97 #[.val (.long xx), .second, .val (.int pl), .unset, .unset, .unset, .unset, .unset] [(.ref b5)])) τ → G τ := fun τ κ => pre τ (st14 τ κ)
        have pre : ∀ τ, Steps p.tables e below (T14.setTop (mkF m 103 #[.val (.long xx), .second, .val (.int pl), .unset, .unset, .unset, .unset, .unset] [(.long (1000000000 : Int64)), (.int (9 : Int32)), (.ref b5), (.ref b5)])) τ → G τ := fun τ κ => pre τ (by
          refine XS.dup X14.here hx rfl (hb hby d2_97) rfl rfl ?_
          show Steps p.tables e below (T14.setTop (mkF m 98 #[.val (.long xx), .second, .val (.int pl), .unset, .unset, .unset, .unset, .unset] [(.ref b5), (.ref b5)])) τ
          refine XS.bipush X14.here hx rfl (hb hby d2_98) ?_
          show Steps p.tables e below (T14.setTop (mkF m 100 #[.val (.long xx), .second, .val (.int pl), .unset, .unset, .unset, .unset, .unset] [(.int (9 : Int32)), (.ref b5), (.ref b5)])) τ
          refine X14.ldc2Long hx hown (mvT hZ (hw _ (List.mem_of_getElem? (i := 23) rfl))) (g := (mkF m 100 #[.val (.long xx), .second, .val (.int pl), .unset, .unset, .unset, .unset, .unset] [(.int (9 : Int32)), (.ref b5), (.ref b5)])) rfl (hb hby d2_100) _ ?_
          show Steps p.tables e below (T14.setTop (mkF m 103 #[.val (.long xx), .second, .val (.int pl), .unset, .unset, .unset, .unset, .unset] [(.long (1000000000 : Int64)), (.int (9 : Int32)), (.ref b5), (.ref b5)])) τ
          exact κ)
        obtain ⟨c15, Ar15, q15, S15, Nz15, Hh15, Gg15⟩ := id V_b5
        have hin15 : ¬ ((9 : Int32) < 0 ∨ c15.slots.size ≤ ((9 : Int32)).toNatClampNeg) := inb_of S15 ⟨by decide, by decide⟩
        obtain ⟨T15, h15, X15, e15, W15, st15⟩ := stJ X14 hx hZ e14 Ar15 (j := (9 : Int32)) hin15 (g := (mkF m 103 #[.val (.long xx), .second, .val (.int pl), .unset, .unset, .unset, .unset, .unset] [(.long (1000000000 : Int64)), (.int (9 : Int32)), (.ref b5), (.ref b5)])) rfl rfl (hb hby d2_103)
        have V_b5 : Arv Z h15 b5 k5 .long (19 : Int32) [(.long (1 : Int64)), (.long (10 : Int64)), (.long (100 : Int64)), (.long (1000 : Int64)), (.long (10000 : Int64)), (.long (100000 : Int64)), (.long (1000000 : Int64)), (.long (10000000 : Int64)), (.long (100000000 : Int64)), (.long (1000000000 : Int64)), (.long (0 : Int64)), (.long (0 : Int64)), (.long (0 : Int64)), (.long (0 : Int64)), (.long (0 : Int64)), (.long (0 : Int64)), (.long (0 : Int64)), (.long (0 : Int64)), (.long (0 : Int64))] (.long (0 : Int64)) := Arv.set Ar15 q15 S15 Nz15 Hh15 Gg15 rfl W15 9 rfl (Nat.le_of_ble_eq_true rfl)
        have Zn : n0 ≤ h15.size := Nat.le_trans Zn (Keep.of_wr W15).1
        have K : Keep h0 h15 [] := K.wr W15 (Or.inr sz_b5)
        have NN := Fr.snoc X15 NN g_b5
        have pre : ∀ τ, Steps p.tables e below (T15.setTop (mkF m 104 #[.val (.long xx), .second, .val (.int pl), .unset, .unset, .unset, .unset, .unset] [(.ref b5)])) τ → G τ := fun τ κ => pre τ (st15 τ κ)
        have pre : ∀ τ, Steps p.tables e below (T15.setTop (mkF m 110 #[.val (.long xx), .second, .val (.int pl), .unset, .unset, .unset, .unset, .unset] [(.long (10000000000 : Int64)), (.int (10 : Int32)), (.ref b5), (.ref b5)])) τ → G τ := fun τ κ => pre τ (by
          refine XS.dup X15.here hx rfl (hb hby d2_104) rfl rfl ?_
          show Steps p.tables e below (T15.setTop (mkF m 105 #[.val (.long xx), .second, .val (.int pl), .unset, .unset, .unset, .unset, .unset] [(.ref b5), (.ref b5)])) τ
          refine XS.bipush X15.here hx rfl (hb hby d2_105) ?_
          show Steps p.tables e below (T15.setTop (mkF m 107 #[.val (.long xx), .second, .val (.int pl), .unset, .unset, .unset, .unset, .unset] [(.int (10 : Int32)), (.ref b5), (.ref b5)])) τ
          refine X15.ldc2Long hx hown (mvT hZ (hw _ (List.mem_of_getElem? (i := 24) rfl))) (g := (mkF m 107 #[.val (.long xx), .second, .val (.int pl), .unset, .unset, .unset, .unset, .unset] [(.int (10 : Int32)), (.ref b5), (.ref b5)])) rfl (hb hby d2_107) _ ?_
          show Steps p.tables e below (T15.setTop (mkF m 110 #[.val (.long xx), .second, .val (.int pl), .unset, .unset, .unset, .unset, .unset] [(.long (10000000000 : Int64)), (.int (10 : Int32)), (.ref b5), (.ref b5)])) τ
          exact κ)
        obtain ⟨c16, Ar16, q16, S16, Nz16, Hh16, Gg16⟩ := id V_b5
        have hin16 : ¬ ((10 : Int32) < 0 ∨ c16.slots.size ≤ ((10 : Int32)).toNatClampNeg) := inb_of S16 ⟨by decide, by decide⟩
        obtain ⟨T16, h16, X16, e16, W16, st16⟩ := stJ X15 hx hZ e15 Ar16 (j := (10 : Int32)) hin16 (g := (mkF m 110 #[.val (.long xx), .second, .val (.int pl), .unset, .unset, .unset, .unset, .unset] [(.long (10000000000 : Int64)), (.int (10 : Int32)), (.ref b5), (.ref b5)])) rfl rfl (hb hby d2_110)
        have V_b5 : Arv Z h16 b5 k5 .long (19 : Int32) [(.long (1 : Int64)), (.long (10 : Int64)), (.long (100 : Int64)), (.long (1000 : Int64)), (.long (10000 : Int64)), (.long (100000 : Int64)), (.long (1000000 : Int64)), (.long (10000000 : Int64)), (.long (100000000 : Int64)), (.long (1000000000 : Int64)), (.long (10000000000 : Int64)), (.long (0 : Int64)), (.long (0 : Int64)), (.long (0 : Int64)), (.long (0 : Int64)), (.long (0 : Int64)), (.long (0 : Int64)), (.long (0 : Int64)), (.long (0 : Int64))] (.long (0 : Int64)) := Arv.set Ar16 q16 S16 Nz16 Hh16 Gg16 rfl W16 10 rfl (Nat.le_of_ble_eq_true rfl)
        have Zn : n0 ≤ h16.size := Nat.le_trans Zn (Keep.of_wr W16).1
        have K : Keep h0 h16 [] := K.wr W16 (Or.inr sz_b5)
        have NN := Fr.snoc X16 NN g_b5
        have pre : ∀ τ, Steps p.tables e below (T16.setTop (mkF m 111 #[.val (.long xx), .second, .val (.int pl), .unset, .unset, .unset, .unset, .unset] [(.ref b5)])) τ → G τ := fun τ κ => pre τ (st16 τ κ)
        have pre : ∀ τ, Steps p.tables e below (T16.setTop (mkF m 117 #[.val (.long xx), .second, .val (.int pl), .unset, .unset, .unset, .unset, .unset] [(.long (100000000000 : Int64)), (.int (11 : Int32)), (.ref b5), (.ref b5)])) τ → G τ := fun τ κ => pre τ (by
          refine XS.dup X16.here hx rfl (hb hby d2_111) rfl rfl ?_
          show Steps p.tables e below (T16.setTop (mkF m 112 #[.val (.long xx), .second, .val (.int pl), .unset, .unset, .unset, .unset, .unset] [(.ref b5), (.ref b5)])) τ
          refine XS.bipush X16.here hx rfl (hb hby d2_112) ?_
          show Steps p.tables e below (T16.setTop (mkF m 114 #[.val (.long xx), .second, .val (.int pl), .unset, .unset, .unset, .unset, .unset] [(.int (11 : Int32)), (.ref b5), (.ref b5)])) τ
          refine X16.ldc2Long hx hown (mvT hZ (hw _ (List.mem_of_getElem? (i := 25) rfl))) (g := (mkF m 114 #[.val (.long xx), .second, .val (.int pl), .unset, .unset, .unset, .unset, .unset] [(.int (11 : Int32)), (.ref b5), (.ref b5)])) rfl (hb hby d2_114) _ ?_
          show Steps p.tables e below (T16.setTop (mkF m 117 #[.val (.long xx), .second, .val (.int pl), .unset, .unset, .unset, .unset, .unset] [(.long (100000000000 : Int64)), (.int (11 : Int32)), (.ref b5), (.ref b5)])) τ
          exact κ)
        obtain ⟨c17, Ar17, q17, S17, Nz17, Hh17, Gg17⟩ := id V_b5
        have hin17 : ¬ ((11 : Int32) < 0 ∨ c17.slots.size ≤ ((11 : Int32)).toNatClampNeg) := inb_of S17 ⟨by decide, by decide⟩
        obtain ⟨T17, h17, X17, e17, W17, st17⟩ := stJ X16 hx hZ e16 Ar17 (j := (11 : Int32)) hin17 (g := (mkF m 117 #[.val (.long xx), .second, .val (.int pl), .unset, .unset, .unset, .unset, .unset] [(.long (100000000000 : Int64)), (.int (11 : Int32)), (.ref b5), (.ref b5)])) rfl rfl (hb hby d2_117)
        have V_b5 : Arv Z h17 b5 k5 .long (19 : Int32) [(.long (1 : Int64)), (.long (10 : Int64)), (.long (100 : Int64)), (.long (1000 : Int64)), (.long (10000 : Int64)), (.long (100000 : Int64)), (.long (1000000 : Int64)), (.long (10000000 : Int64)), (.long (100000000 : Int64)), (.long (1000000000 : Int64)), (.long (10000000000 : Int64)), (.long (100000000000 : Int64)), (.long (0 : Int64)), (.long (0 : Int64)), (.long (0 : Int64)), (.long (0 : Int64)), (.long (0 : Int64)), (.long (0 : Int64)), (.long (0 : Int64))] (.long (0 : Int64)) := Arv.set Ar17 q17 S17 Nz17 Hh17 Gg17 rfl W17 11 rfl (Nat.le_of_ble_eq_true rfl)
        have Zn : n0 ≤ h17.size := Nat.le_trans Zn (Keep.of_wr W17).1
        have K : Keep h0 h17 [] := K.wr W17 (Or.inr sz_b5)
        have NN := Fr.snoc X17 NN g_b5
        have pre : ∀ τ, Steps p.tables e below (T17.setTop (mkF m 118 #[.val (.long xx), .second, .val (.int pl), .unset, .unset, .unset, .unset, .unset] [(.ref b5)])) τ → G τ := fun τ κ => pre τ (st17 τ κ)
        have pre : ∀ τ, Steps p.tables e below (T17.setTop (mkF m 124 #[.val (.long xx), .second, .val (.int pl), .unset, .unset, .unset, .unset, .unset] [(.long (1000000000000 : Int64)), (.int (12 : Int32)), (.ref b5), (.ref b5)])) τ → G τ := fun τ κ => pre τ (by
          refine XS.dup X17.here hx rfl (hb hby d2_118) rfl rfl ?_
          show Steps p.tables e below (T17.setTop (mkF m 119 #[.val (.long xx), .second, .val (.int pl), .unset, .unset, .unset, .unset, .unset] [(.ref b5), (.ref b5)])) τ
          refine XS.bipush X17.here hx rfl (hb hby d2_119) ?_
          show Steps p.tables e below (T17.setTop (mkF m 121 #[.val (.long xx), .second, .val (.int pl), .unset, .unset, .unset, .unset, .unset] [(.int (12 : Int32)), (.ref b5), (.ref b5)])) τ
          refine X17.ldc2Long hx hown (mvT hZ (hw _ (List.mem_of_getElem? (i := 26) rfl))) (g := (mkF m 121 #[.val (.long xx), .second, .val (.int pl), .unset, .unset, .unset, .unset, .unset] [(.int (12 : Int32)), (.ref b5), (.ref b5)])) rfl (hb hby d2_121) _ ?_
          show Steps p.tables e below (T17.setTop (mkF m 124 #[.val (.long xx), .second, .val (.int pl), .unset, .unset, .unset, .unset, .unset] [(.long (1000000000000 : Int64)), (.int (12 : Int32)), (.ref b5), (.ref b5)])) τ
          exact κ)
        obtain ⟨c18, Ar18, q18, S18, Nz18, Hh18, Gg18⟩ := id V_b5
        have hin18 : ¬ ((12 : Int32) < 0 ∨ c18.slots.size ≤ ((12 : Int32)).toNatClampNeg) := inb_of S18 ⟨by decide, by decide⟩
        obtain ⟨T18, h18, X18, e18, W18, st18⟩ := stJ X17 hx hZ e17 Ar18 (j := (12 : Int32)) hin18 (g := (mkF m 124 #[.val (.long xx), .second, .val (.int pl), .unset, .unset, .unset, .unset, .unset] [(.long (1000000000000 : Int64)), (.int (12 : Int32)), (.ref b5), (.ref b5)])) rfl rfl (hb hby d2_124)
        have V_b5 : Arv Z h18 b5 k5 .long (19 : Int32) [(.long (1 : Int64)), (.long (10 : Int64)), (.long (100 : Int64)), (.long (1000 : Int64)), (.long (10000 : Int64)), (.long (100000 : Int64)), (.long (1000000 : Int64)), (.long (10000000 : Int64)), (.long (100000000 : Int64)), (.long (1000000000 : Int64)), (.long (10000000000 : Int64)), (.long (100000000000 : Int64)), (.long (1000000000000 : Int64)), (.long (0 : Int64)), (.long (0 : Int64)), (.long (0 : Int64)), (.long (0 : Int64)), (.long (0 : Int64)), (.long (0 : Int64))] (.long (0 : Int64)) := Arv.set Ar18 q18 S18 Nz18 Hh18 Gg18 rfl W18 12 rfl (Nat.le_of_ble_eq_true rfl)
        have Zn : n0 ≤ h18.size := Nat.le_trans Zn (Keep.of_wr W18).1
        have K : Keep h0 h18 [] := K.wr W18 (Or.inr sz_b5)
        have NN := Fr.snoc X18 NN g_b5
        have pre : ∀ τ, Steps p.tables e below (T18.setTop (mkF m 125 #[.val (.long xx), .second, .val (.int pl), .unset, .unset, .unset, .unset, .unset] [(.ref b5)])) τ → G τ := fun τ κ => pre τ (st18 τ κ)
        have pre : ∀ τ, Steps p.tables e below (T18.setTop (mkF m 131 #[.val (.long xx), .second, .val (.int pl), .unset, .unset, .unset, .unset, .unset] [(.long (10000000000000 : Int64)), (.int (13 : Int32)), (.ref b5), (.ref b5)])) τ → G τ := fun τ κ => pre τ (by
          refine XS.dup X18.here hx rfl (hb hby d2_125) rfl rfl ?_
          show Steps p.tables e below (T18.setTop (mkF m 126 #[.val (.long xx), .second, .val (.int pl), .unset, .unset, .unset, .unset, .unset] [(.ref b5), (.ref b5)])) τ
          refine XS.bipush X18.here hx rfl (hb hby d2_126) ?_
          show Steps p.tables e below (T18.setTop (mkF m 128 #[.val (.long xx), .second, .val (.int pl), .unset, .unset, .unset, .unset, .unset] [(.int (13 : Int32)), (.ref b5), (.ref b5)])) τ
          refine X18.ldc2Long hx hown (mvT hZ (hw _ (List.mem_of_getElem? (i := 27) rfl))) (g := (mkF m 128 #[.val (.long xx), .second, .val (.int pl), .unset, .unset, .unset, .unset, .unset] [(.int (13 : Int32)), (.ref b5), (.ref b5)])) rfl (hb hby d2_128) _ ?_
          show Steps p.tables e below (T18.setTop (mkF m 131 #[.val (.long xx), .second, .val (.int pl), .unset, .unset, .unset, .unset, .unset] [(.long (10000000000000 : Int64)), (.int (13 : Int32)), (.ref b5), (.ref b5)])) τ
          exact κ)
        obtain ⟨c19, Ar19, q19, S19, Nz19, Hh19, Gg19⟩ := id V_b5
        have hin19 : ¬ ((13 : Int32) < 0 ∨ c19.slots.size ≤ ((13 : Int32)).toNatClampNeg) := inb_of S19 ⟨by decide, by decide⟩
        obtain ⟨T19, h19, X19, e19, W19, st19⟩ := stJ X18 hx hZ e18 Ar19 (j := (13 : Int32)) hin19 (g := (mkF m 131 #[.val (.long xx), .second, .val (.int pl), .unset, .unset, .unset, .unset, .unset] [(.long (10000000000000 : Int64)), (.int (13 : Int32)), (.ref b5), (.ref b5)])) rfl rfl (hb hby d2_131)
        have V_b5 : Arv Z h19 b5 k5 .long (19 : Int32) [(.long (1 : Int64)), (.long (10 : Int64)), (.long (100 : Int64)), (.long (1000 : Int64)), (.long (10000 : Int64)), (.long (100000 : Int64)), (.long (1000000 : Int64)), (.long (10000000 : Int64)), (.long (100000000 : Int64)), (.long (1000000000 : Int64)), (.long (10000000000 : Int64)), (.long (100000000000 : Int64)), (.long (1000000000000 : Int64)), (.long (10000000000000 : Int64)), (.long (0 : Int64)), (.long (0 : Int64)), (.long (0 : Int64)), (.long (0 : Int64)), (.long (0 : Int64))] (.long (0 : Int64)) := Arv.set Ar19 q19 S19 Nz19 Hh19 Gg19 rfl W19 13 rfl (Nat.le_of_ble_eq_true rfl)
        have Zn : n0 ≤ h19.size := Nat.le_trans Zn (Keep.of_wr W19).1
        have K : Keep h0 h19 [] := K.wr W19 (Or.inr sz_b5)
        have NN := Fr.snoc X19 NN g_b5
        have pre : ∀ τ, Steps p.tables e below (T19.setTop (mkF m 132 #[.val (.long xx), .second, .val (.int pl), .unset, .unset, .unset, .unset, .unset] [(.ref b5)])) τ → G τ := fun τ κ => pre τ (st19 τ κ)
        have pre : ∀ τ, Steps p.tables e below (T19.setTop (mkF m 138 #[.val (.long xx), .second, .val (.int pl), .unset, .unset, .unset, .unset, .unset] [(.long (100000000000000 : Int64)), (.int (14 : Int32)), (.ref b5), (.ref b5)])) τ → G τ := fun τ κ => pre τ (by
          refine XS.dup X19.here hx rfl (hb hby d2_132) rfl rfl ?_
          show Steps p.tables e below (T19.setTop (mkF m 133 #[.val (.long xx), .second, .val (.int pl), .unset, .unset, .unset, .unset, .unset] [(.ref b5), (.ref b5)])) τ
          refine XS.bipush X19.here hx rfl (hb hby d2_133) ?_
          show Steps p.tables e below (T19.setTop (mkF m 135 #[.val (.long xx), .second, .val (.int pl), .unset, .unset, .unset, .unset, .unset] [(.int (14 : Int32)), (.ref b5), (.ref b5)])) τ
          refine X19.ldc2Long hx hown (mvT hZ (hw _ (List.mem_of_getElem? (i := 28) rfl))) (g := (mkF m 135 #[.val (.long xx), .second, .val (.int pl), .unset, .unset, .unset, .unset, .unset] [(.int (14 : Int32)), (.ref b5), (.ref b5)])) rfl (hb hby d2_135) _ ?_
          show Steps p.tables e below (T19.setTop (mkF m 138 #[.val (.long xx), .second, .val (.int pl), .unset, .unset, .unset, .unset, .unset] [(.long (100000000000000 : Int64)), (.int (14 : Int32)), (.ref b5), (.ref b5)])) τ
          exact κ)
        obtain ⟨c20, Ar20, q20, S20, Nz20, Hh20, Gg20⟩ := id V_b5
        have hin20 : ¬ ((14 : Int32) < 0 ∨ c20.slots.size ≤ ((14 : Int32)).toNatClampNeg) := inb_of S20 ⟨by decide, by decide⟩
        obtain ⟨T20, h20, X20, e20, W20, st20⟩ := stJ X19 hx hZ e19 Ar20 (j := (14 : Int32)) hin20 (g := (mkF m 138 #[.val (.long xx), .second, .val (.int pl), .unset, .unset, .unset, .unset, .unset] [(.long (100000000000000 : Int64)), (.int (14 : Int32)), (.ref b5), (.ref b5)])) rfl rfl (hb hby d2_138)
        have V_b5 : Arv Z h20 b5 k5 .long (19 : Int32) [(.long (1 : Int64)), (.long (10 : Int64)), (.long (100 : Int64)), (.long (1000 : Int64)), (.long (10000 : Int64)), (.long (100000 : Int64)), (.long (1000000 : Int64)), (.long (10000000 : Int64)), (.long (100000000 : Int64)), (.long (1000000000 : Int64)), (.long (10000000000 : Int64)), (.long (100000000000 : Int64)), (.long (1000000000000 : Int64)), (.long (10000000000000 : Int64)), (.long (100000000000000 : Int64)), (.long (0 : Int64)), (.long (0 : Int64)), (.long (0 : Int64)), (.long (0 : Int64))] (.long (0 : Int64)) := Arv.set Ar20 q20 S20 Nz20 Hh20 Gg20 rfl W20 14 rfl (Nat.le_of_ble_eq_true rfl)
        have Zn : n0 ≤ h20.size := Nat.le_trans Zn (Keep.of_wr W20).1
        have K : Keep h0 h20 [] := K.wr W20 (Or.inr sz_b5)
        have NN := Fr.snoc X20 NN g_b5
        have pre : ∀ τ, Steps p.tables e below (T20.setTop (mkF m 139 #[.val (.long xx), .second, .val (.int pl), .unset, .unset, .unset, .unset, .unset] [(.ref b5)])) τ → G τ := fun τ κ => pre τ (st20 τ κ)
        have pre : ∀ τ, Steps p.tables e below (T20.setTop (mkF m 145 #[.val (.long xx), .second, .val (.int pl), .unset, .unset, .unset, .unset, .unset] [(.long (1000000000000000 : Int64)), (.int (15 : Int32)), (.ref b5), (.ref b5)])) τ → G τ := fun τ κ => pre τ (by
          refine XS.dup X20.here hx rfl (hb hby d2_139) rfl rfl ?_
          show Steps p.tables e below (T20.setTop (mkF m 140 #[.val (.long xx), .second, .val (.int pl), .unset, .unset, .unset, .unset, .unset] [(.ref b5), (.ref b5)])) τ
          refine XS.bipush X20.here hx rfl (hb hby d2_140) ?_
          show Steps p.tables e below (T20.setTop (mkF m 142 #[.val (.long xx), .second, .val (.int pl), .unset, .unset, .unset, .unset, .unset] [(.int (15 : Int32)), (.ref b5), (.ref b5)])) τ
          refine X20.ldc2Long hx hown (mvT hZ (hw _ (List.mem_of_getElem? (i := 29) rfl))) (g := (mkF m 142 #[.val (.long xx), .second, .val (.int pl), .unset, .unset, .unset, .unset, .unset] [(.int (15 : Int32)), (.ref b5), (.ref b5)])) rfl (hb hby d2_142) _ ?_
          show Steps p.tables e below (T20.setTop (mkF m 145 #[.val (.long xx), .second, .val (.int pl), .unset, .unset, .unset, .unset, .unset] [(.long (1000000000000000 : Int64)), (.int (15 : Int32)), (.ref b5), (.ref b5)])) τ
          exact κ)
        obtain ⟨c21, Ar21, q21, S21, Nz21, Hh21, Gg21⟩ := id V_b5
        have hin21 : ¬ ((15 : Int32) < 0 ∨ c21.slots.size ≤ ((15 : Int32)).toNatClampNeg) := inb_of S21 ⟨by decide, by decide⟩
        obtain ⟨T21, h21, X21, e21, W21, st21⟩ := stJ X20 hx hZ e20 Ar21 (j := (15 : Int32)) hin21 (g := (mkF m 145 #[.val (.long xx), .second, .val (.int pl), .unset, .unset, .unset, .unset, .unset] [(.long (1000000000000000 : Int64)), (.int (15 : Int32)), (.ref b5), (.ref b5)])) rfl rfl (hb hby d2_145)
        have V_b5 : Arv Z h21 b5 k5 .long (19 : Int32) [(.long (1 : Int64)), (.long (10 : Int64)), (.long (100 : Int64)), (.long (1000 : Int64)), (.long (10000 : Int64)), (.long (100000 : Int64)), (.long (1000000 : Int64)), (.long (10000000 : Int64)), (.long (100000000 : Int64)), (.long (1000000000 : Int64)), (.long (10000000000 : Int64)), (.long (100000000000 : Int64)), (.long (1000000000000 : Int64)), (.long (10000000000000 : Int64)), (.long (100000000000000 : Int64)), (.long (1000000000000000 : Int64)), (.long (0 : Int64)), (.long (0 : Int64)), (.long (0 : Int64))] (.long (0 : Int64)) := Arv.set Ar21 q21 S21 Nz21 Hh21 Gg21 rfl W21 15 rfl (Nat.le_of_ble_eq_true rfl)
        have Zn : n0 ≤ h21.size := Nat.le_trans Zn (Keep.of_wr W21).1
        have K : Keep h0 h21 [] := K.wr W21 (Or.inr sz_b5)
        have NN := Fr.snoc X21 NN g_b5
        have pre : ∀ τ, Steps p.tables e below (T21.setTop (mkF m 146 #[.val (.long xx), .second, .val (.int pl), .unset, .unset, .unset, .unset, .unset] [(.ref b5)])) τ → G τ := fun τ κ => pre τ (st21 τ κ)
        have pre : ∀ τ, Steps p.tables e below (T21.setTop (mkF m 152 #[.val (.long xx), .second, .val (.int pl), .unset, .unset, .unset, .unset, .unset] [(.long (10000000000000000 : Int64)), (.int (16 : Int32)), (.ref b5), (.ref b5)])) τ → G τ := fun τ κ => pre τ (by
          refine XS.dup X21.here hx rfl (hb hby d2_146) rfl rfl ?_
          show Steps p.tables e below (T21.setTop (mkF m 147 #[.val (.long xx), .second, .val (.int pl), .unset, .unset, .unset, .unset, .unset] [(.ref b5), (.ref b5)])) τ
          refine XS.bipush X21.here hx rfl (hb hby d2_147) ?_
          show Steps p.tables e below (T21.setTop (mkF m 149 #[.val (.long xx), .second, .val (.int pl), .unset, .unset, .unset, .unset, .unset] [(.int (16 : Int32)), (.ref b5), (.ref b5)])) τ
          refine X21.ldc2Long hx hown (mvT hZ (hw _ (List.mem_of_getElem? (i := 30) rfl))) (g := (mkF m 149 #[.val (.long xx), .second, .val (.int pl), .unset, .unset, .unset, .unset, .unset] [(.int (16 : Int32)), (.ref b5), (.ref b5)])) rfl (hb hby d2_149) _ ?_
          show Steps p.tables e below (T21.setTop (mkF m 152 #[.val (.long xx), .second, .val (.int pl), .unset, .unset, .unset, .unset, .unset] [(.long (10000000000000000 : Int64)), (.int (16 : Int32)), (.ref b5), (.ref b5)])) τ
          exact κ)
        obtain ⟨c22, Ar22, q22, S22, Nz22, Hh22, Gg22⟩ := id V_b5
        have hin22 : ¬ ((16 : Int32) < 0 ∨ c22.slots.size ≤ ((16 : Int32)).toNatClampNeg) := inb_of S22 ⟨by decide, by decide⟩
        obtain ⟨T22, h22, X22, e22, W22, st22⟩ := stJ X21 hx hZ e21 Ar22 (j := (16 : Int32)) hin22 (g := (mkF m 152 #[.val (.long xx), .second, .val (.int pl), .unset, .unset, .unset, .unset, .unset] [(.long (10000000000000000 : Int64)), (.int (16 : Int32)), (.ref b5), (.ref b5)])) rfl rfl (hb hby d2_152)
        have V_b5 : Arv Z h22 b5 k5 .long (19 : Int32) [(.long (1 : Int64)), (.long (10 : Int64)), (.long (100 : Int64)), (.long (1000 : Int64)), (.long (10000 : Int64)), (.long (100000 : Int64)), (.long (1000000 : Int64)), (.long (10000000 : Int64)), (.long (100000000 : Int64)), (.long (1000000000 : Int64)), (.long (10000000000 : Int64)), (.long (100000000000 : Int64)), (.long (1000000000000 : Int64)), (.long (10000000000000 : Int64)), (.long (100000000000000 : Int64)), (.long (1000000000000000 : Int64)), (.long (10000000000000000 : Int64)), (.long (0 : Int64)), (.long (0 : Int64))] (.long (0 : Int64)) := Arv.set Ar22 q22 S22 Nz22 Hh22 Gg22 rfl W22 16 rfl (Nat.le_of_ble_eq_true rfl)
        have Zn : n0 ≤ h22.size := Nat.le_trans Zn (Keep.of_wr W22).1
        have K : Keep h0 h22 [] := K.wr W22 (Or.inr sz_b5)
        have NN := Fr.snoc X22 NN g_b5
        have pre : ∀ τ, Steps p.tables e below (T22.setTop (mkF m 153 #[.val (.long xx), .second, .val (.int pl), .unset, .unset, .unset, .unset, .unset] [(.ref b5)])) τ → G τ := fun τ κ => pre τ (st22 τ κ)
        have pre : ∀ τ, Steps p.tables e below (T22.setTop (mkF m 159 #[.val (.long xx), .second, .val (.int pl), .unset, .unset, .unset, .unset, .unset] [(.long (100000000000000000 : Int64)), (.int (17 : Int32)), (.ref b5), (.ref b5)])) τ → G τ := fun τ κ => pre τ (by
          refine XS.dup X22.here hx rfl (hb hby d2_153) rfl rfl ?_
          show Steps p.tables e below (T22.setTop (mkF m 154 #[.val (.long xx), .second, .val (.int pl), .unset, .unset, .unset, .unset, .unset] [(.ref b5), (.ref b5)])) τ
          refine XS.bipush X22.here hx rfl (hb hby d2_154) ?_
          show Steps p.tables e below (T22.setTop (mkF m 156 #[.val (.long xx), .second, .val (.int pl), .unset, .unset, .unset, .unset, .unset] [(.int (17 : Int32)), (.ref b5), (.ref b5)])) τ
          refine X22.ldc2Long hx hown (mvT hZ (hw _ (List.mem_of_getElem? (i := 31) rfl))) (g := (mkF m 156 #[.val (.long xx), .second, .val (.int pl), .unset, .unset, .unset, .unset, .unset] [(.int (17 : Int32)), (.ref b5), (.ref b5)])) rfl (hb hby d2_156) _ ?_
          show Steps p.tables e below (T22.setTop (mkF m 159 #[.val (.long xx), .second, .val (.int pl), .unset, .unset, .unset, .unset, .unset] [(.long (100000000000000000 : Int64)), (.int (17 : Int32)), (.ref b5), (.ref b5)])) τ
          exact κ)
        obtain ⟨c23, Ar23, q23, S23, Nz23, Hh23, Gg23⟩ := id V_b5
        have hin23 : ¬ ((17 : Int32) < 0 ∨ c23.slots.size ≤ ((17 : Int32)).toNatClampNeg) := inb_of S23 ⟨by decide, by decide⟩
        obtain ⟨T23, h23, X23, e23, W23, st23⟩ := stJ X22 hx hZ e22 Ar23 (j := (17 : Int32)) hin23 (g := (mkF m 159 #[.val (.long xx), .second, .val (.int pl), .unset, .unset, .unset, .unset, .unset] [(.long (100000000000000000 : Int64)), (.int (17 : Int32)), (.ref b5), (.ref b5)])) rfl rfl (hb hby d2_159)
        have V_b5 : Arv Z h23 b5 k5 .long (19 : Int32) [(.long (1 : Int64)), (.long (10 : Int64)), (.long (100 : Int64)), (.long (1000 : Int64)), (.long (10000 : Int64)), (.long (100000 : Int64)), (.long (1000000 : Int64)), (.long (10000000 : Int64)), (.long (100000000 : Int64)), (.long (1000000000 : Int64)), (.long (10000000000 : Int64)), (.long (100000000000 : Int64)), (.long (1000000000000 : Int64)), (.long (10000000000000 : Int64)), (.long (100000000000000 : Int64)), (.long (1000000000000000 : Int64)), (.long (10000000000000000 : Int64)), (.long (100000000000000000 : Int64)), (.long (0 : Int64))] (.long (0 : Int64)) := Arv.set Ar23 q23 S23 Nz23 Hh23 Gg23 rfl W23 17 rfl (Nat.le_of_ble_eq_true rfl)
        have Zn : n0 ≤ h23.size := Nat.le_trans Zn (Keep.of_wr W23).1
        have K : Keep h0 h23 [] := K.wr W23 (Or.inr sz_b5)
        have NN := Fr.snoc X23 NN g_b5
        have pre : ∀ τ, Steps p.tables e below (T23.setTop (mkF m 160 #[.val (.long xx), .second, .val (.int pl), .unset, .unset, .unset, .unset, .unset] [(.ref b5)])) τ → G τ := fun τ κ => pre τ (st23 τ κ)
        have pre : ∀ τ, Steps p.tables e below (T23.setTop (mkF m 166 #[.val (.long xx), .second, .val (.int pl), .unset, .unset, .unset, .unset, .unset] [(.long (1000000000000000000 : Int64)), (.int (18 : Int32)), (.ref b5), (.ref b5)])) τ → G τ := fun τ κ => pre τ (by
          refine XS.dup X23.here hx rfl (hb hby d2_160) rfl rfl ?_
          show Steps p.tables e below (T23.setTop (mkF m 161 #[.val (.long xx), .second, .val (.int pl), .unset, .unset, .unset, .unset, .unset] [(.ref b5), (.ref b5)])) τ
          refine XS.bipush X23.here hx rfl (hb hby d2_161) ?_
          show Steps p.tables e below (T23.setTop (mkF m 163 #[.val (.long xx), .second, .val (.int pl), .unset, .unset, .unset, .unset, .unset] [(.int (18 : Int32)), (.ref b5), (.ref b5)])) τ
          refine X23.ldc2Long hx hown (mvT hZ (hw _ (List.mem_of_getElem? (i := 32) rfl))) (g := (mkF m 163 #[.val (.long xx), .second, .val (.int pl), .unset, .unset, .unset, .unset, .unset] [(.int (18 : Int32)), (.ref b5), (.ref b5)])) rfl (hb hby d2_163) _ ?_
          show Steps p.tables e below (T23.setTop (mkF m 166 #[.val (.long xx), .second, .val (.int pl), .unset, .unset, .unset, .unset, .unset] [(.long (1000000000000000000 : Int64)), (.int (18 : Int32)), (.ref b5), (.ref b5)])) τ
          exact κ)
        obtain ⟨c24, Ar24, q24, S24, Nz24, Hh24, Gg24⟩ := id V_b5
        have hin24 : ¬ ((18 : Int32) < 0 ∨ c24.slots.size ≤ ((18 : Int32)).toNatClampNeg) := inb_of S24 ⟨by decide, by decide⟩
        obtain ⟨T24, h24, X24, e24, W24, st24⟩ := stJ X23 hx hZ e23 Ar24 (j := (18 : Int32)) hin24 (g := (mkF m 166 #[.val (.long xx), .second, .val (.int pl), .unset, .unset, .unset, .unset, .unset] [(.long (1000000000000000000 : Int64)), (.int (18 : Int32)), (.ref b5), (.ref b5)])) rfl rfl (hb hby d2_166)
        have V_b5 : Arv Z h24 b5 k5 .long (19 : Int32) [(.long (1 : Int64)), (.long (10 : Int64)), (.long (100 : Int64)), (.long (1000 : Int64)), (.long (10000 : Int64)), (.long (100000 : Int64)), (.long (1000000 : Int64)), (.long (10000000 : Int64)), (.long (100000000 : Int64)), (.long (1000000000 : Int64)), (.long (10000000000 : Int64)), (.long (100000000000 : Int64)), (.long (1000000000000 : Int64)), (.long (10000000000000 : Int64)), (.long (100000000000000 : Int64)), (.long (1000000000000000 : Int64)), (.long (10000000000000000 : Int64)), (.long (100000000000000000 : Int64)), (.long (1000000000000000000 : Int64))] (.long (0 : Int64)) := Arv.set Ar24 q24 S24 Nz24 Hh24 Gg24 rfl W24 18 rfl (Nat.le_of_ble_eq_true rfl)
        have Zn : n0 ≤ h24.size := Nat.le_trans Zn (Keep.of_wr W24).1
        have K : Keep h0 h24 [] := K.wr W24 (Or.inr sz_b5)
        have NN := Fr.snoc X24 NN g_b5
        have pre : ∀ τ, Steps p.tables e below (T24.setTop (mkF m 167 #[.val (.long xx), .second, .val (.int pl), .unset, .unset, .unset, .unset, .unset] [(.ref b5)])) τ → G τ := fun τ κ => pre τ (st24 τ κ)
        have V_b5 : Arv Z h24 b5 k5 .long (19 : Int32) own_ps (.long (0 : Int64)) := V_b5
        have pre : ∀ τ, Steps p.tables e below (T24.setTop (mkF m 170 #[.val (.long xx), .second, .val (.int pl), .val (.ref b5), .unset, .unset, .unset, .unset] [(.int pl), (.ref b5)])) τ → G τ := fun τ κ => pre τ (by
          refine XS.astoreN X24.here hx rfl (hb hby d2_167) rfl rfl (l' := #[.val (.long xx), .second, .val (.int pl), .val (.ref b5), .unset, .unset, .unset, .unset]) rfl ?_
          show Steps p.tables e below (T24.setTop (mkF m 168 #[.val (.long xx), .second, .val (.int pl), .val (.ref b5), .unset, .unset, .unset, .unset] [])) τ
          refine XS.aloadN X24.here hx rfl (hb hby d2_168) rfl rfl ?_
          show Steps p.tables e below (T24.setTop (mkF m 169 #[.val (.long xx), .second, .val (.int pl), .val (.ref b5), .unset, .unset, .unset, .unset] [(.ref b5)])) τ
          refine XS.iloadN X24.here hx rfl (hb hby d2_169) rfl ?_
          show Steps p.tables e below (T24.setTop (mkF m 170 #[.val (.long xx), .second, .val (.int pl), .val (.ref b5), .unset, .unset, .unset, .unset] [(.int pl), (.ref b5)])) τ
          exact κ)
        obtain ⟨c25, Ar25, q25, S25, Nz25, Hh25, Gg25⟩ := id V_b5
        have hin25 : ¬ (pl < 0 ∨ c25.slots.size ≤ (pl).toNatClampNeg) := inb_of S25 (own_in1 hpl (own_18 hc21_3))
        have hat25 : c25.slots[(pl).toNatClampNeg]? = some (.long (own_atL own_ps pl)) := own_getL Hh25 Gg25 hin25
        have pre : ∀ τ, Steps p.tables e below (T24.setTop (mkF m 171 #[.val (.long xx), .second, .val (.int pl), .val (.ref b5), .unset, .unset, .unset, .unset] [(.long (own_atL own_ps pl))])) τ → G τ := fun τ κ => pre τ (X24.laload hx (j := pl) (v := (.long (own_atL own_ps pl))) (by rw [e24]; exact Ar25.1) (State.isArrayOf_alike hZ.alike Ar25.2.1) Ar25.2.2 hin25 hat25 (g := (mkF m 170 #[.val (.long xx), .second, .val (.int pl), .val (.ref b5), .unset, .unset, .unset, .unset] [(.int pl), (.ref b5)])) rfl rfl (hb hby d2_170) _ κ)
        have pre : ∀ τ, Steps p.tables e below (T24.setTop (mkF m 186 #[.val (.long xx), .second, .val (.int pl), .val (.ref b5), .val (.long (own_atL own_ps pl)), .second, .val (.long (xx * (own_atL own_ps pl))), .second] [(.int (lcmpW ((xx * (own_atL own_ps pl)) / (own_atL own_ps pl)) xx))])) τ → G τ := fun τ κ => pre τ (by
          refine XS.lstore X24.here hx rfl (hb hby d2_171) rfl (l' := #[.val (.long xx), .second, .val (.int pl), .val (.ref b5), .val (.long (own_atL own_ps pl)), .second, .unset, .unset]) rfl ?_
          show Steps p.tables e below (T24.setTop (mkF m 173 #[.val (.long xx), .second, .val (.int pl), .val (.ref b5), .val (.long (own_atL own_ps pl)), .second, .unset, .unset] [])) τ
          refine XS.lloadN X24.here hx rfl (hb hby d2_173) rfl ?_
          show Steps p.tables e below (T24.setTop (mkF m 174 #[.val (.long xx), .second, .val (.int pl), .val (.ref b5), .val (.long (own_atL own_ps pl)), .second, .unset, .unset] [(.long xx)])) τ
          refine XS.lload X24.here hx rfl (hb hby d2_174) rfl ?_
          show Steps p.tables e below (T24.setTop (mkF m 176 #[.val (.long xx), .second, .val (.int pl), .val (.ref b5), .val (.long (own_atL own_ps pl)), .second, .unset, .unset] [(.long (own_atL own_ps pl)), (.long xx)])) τ
          refine XS.lmul X24.here hx rfl (hb hby d2_176) rfl ?_
          show Steps p.tables e below (T24.setTop (mkF m 177 #[.val (.long xx), .second, .val (.int pl), .val (.ref b5), .val (.long (own_atL own_ps pl)), .second, .unset, .unset] [(.long (xx * (own_atL own_ps pl)))])) τ
          refine XS.lstore X24.here hx rfl (hb hby d2_177) rfl (l' := #[.val (.long xx), .second, .val (.int pl), .val (.ref b5), .val (.long (own_atL own_ps pl)), .second, .val (.long (xx * (own_atL own_ps pl))), .second]) rfl ?_
          show Steps p.tables e below (T24.setTop (mkF m 179 #[.val (.long xx), .second, .val (.int pl), .val (.ref b5), .val (.long (own_atL own_ps pl)), .second, .val (.long (xx * (own_atL own_ps pl))), .second] [])) τ
          refine XS.lload X24.here hx rfl (hb hby d2_179) rfl ?_
          show Steps p.tables e below (T24.setTop (mkF m 181 #[.val (.long xx), .second, .val (.int pl), .val (.ref b5), .val (.long (own_atL own_ps pl)), .second, .val (.long (xx * (own_atL own_ps pl))), .second] [(.long (xx * (own_atL own_ps pl)))])) τ
          refine XS.lload X24.here hx rfl (hb hby d2_181) rfl ?_
          show Steps p.tables e below (T24.setTop (mkF m 183 #[.val (.long xx), .second, .val (.int pl), .val (.ref b5), .val (.long (own_atL own_ps pl)), .second, .val (.long (xx * (own_atL own_ps pl))), .second] [(.long (own_atL own_ps pl)), (.long (xx * (own_atL own_ps pl)))])) τ
          refine XS.ldiv X24.here hx rfl (hb hby d2_183) rfl (own_pnz hpl (own_18 hc21_3)) ?_
          show Steps p.tables e below (T24.setTop (mkF m 184 #[.val (.long xx), .second, .val (.int pl), .val (.ref b5), .val (.long (own_atL own_ps pl)), .second, .val (.long (xx * (own_atL own_ps pl))), .second] [(.long ((xx * (own_atL own_ps pl)) / (own_atL own_ps pl)))])) τ
          refine XS.lloadN X24.here hx rfl (hb hby d2_184) rfl ?_
          show Steps p.tables e below (T24.setTop (mkF m 185 #[.val (.long xx), .second, .val (.int pl), .val (.ref b5), .val (.long (own_atL own_ps pl)), .second, .val (.long (xx * (own_atL own_ps pl))), .second] [(.long xx), (.long ((xx * (own_atL own_ps pl)) / (own_atL own_ps pl)))])) τ
          refine XS.lcmp X24.here hx rfl (hb hby d2_185) rfl ?_
          show Steps p.tables e below (T24.setTop (mkF m 186 #[.val (.long xx), .second, .val (.int pl), .val (.ref b5), .val (.long (own_atL own_ps pl)), .second, .val (.long (xx * (own_atL own_ps pl))), .second] [(.int (lcmpW ((xx * (own_atL own_ps pl)) / (own_atL own_ps pl)) xx))])) τ
          exact κ)
        rcases Classical.em (((xx * (own_atL own_ps pl)) / (own_atL own_ps pl)) = xx) with hc186_26 | hc186_26
        ·
          have pre : ∀ τ, Steps p.tables e below (T24.setTop (mkF m 197 #[.val (.long xx), .second, .val (.int pl), .val (.ref b5), .val (.long (own_atL own_ps pl)), .second, .val (.long (xx * (own_atL own_ps pl))), .second] [(.long (xx * (own_atL own_ps pl)))])) τ → G τ := fun τ κ => pre τ (by
            refine XS.ifNo X24.here hx rfl (hb hby d2_186) rfl ((if0 _ _).trans (teq ((lw_eq _ _).mpr hc186_26)).2) ?_
            show Steps p.tables e below (T24.setTop (mkF m 189 #[.val (.long xx), .second, .val (.int pl), .val (.ref b5), .val (.long (own_atL own_ps pl)), .second, .val (.long (xx * (own_atL own_ps pl))), .second] [])) τ
            refine XS.lload X24.here hx rfl (hb hby d2_189) rfl ?_
            show Steps p.tables e below (T24.setTop (mkF m 191 #[.val (.long xx), .second, .val (.int pl), .val (.ref b5), .val (.long (own_atL own_ps pl)), .second, .val (.long (xx * (own_atL own_ps pl))), .second] [(.long (xx * (own_atL own_ps pl)))])) τ
            refine XS.goto X24.here hx rfl (pc0 := 191) (pc' := 197) rfl (hb hby d2_191) (by decide) (by decide) ?_
            show Steps p.tables e below (T24.setTop (mkF m 197 #[.val (.long xx), .second, .val (.int pl), .val (.ref b5), .val (.long (own_atL own_ps pl)), .second, .val (.long (xx * (own_atL own_ps pl))), .second] [(.long (xx * (own_atL own_ps pl)))])) τ
            exact κ)
          obtain ⟨fsα, hr, hrun, hended, hW, hsame⟩ := X24.leave (v := some (.long (xx * (own_atL own_ps pl)))) (fun h => by rw [Bd.returns] at h; cases h)
          refine hGL ⟨_, _, hG _ (pre _ ?_), hrun, hended, _, _, rfl, ?_, ⟨_, rfl⟩, hW, hsame.mono (by decide) (by decide)⟩
          · exact retOut X24 hx Bd.returns rfl (Or.inr (Or.inl ⟨rfl, rfl, _, rfl⟩)) (hb hby d2_197) hr
          · show Q2 Z xx pl h0 n0 _ T24.heap _
            rw [e24]
            refine ⟨?_, NN, K⟩
            unfold own_ex
            rw [if_neg hc1_1]
            rw [if_neg hc11_2]
            rw [if_neg hc21_3]
            rw [if_pos hc186_26]
        ·
          have pre : ∀ τ, Steps p.tables e below (T24.setTop (mkF m 197 #[.val (.long xx), .second, .val (.int pl), .val (.ref b5), .val (.long (own_atL own_ps pl)), .second, .val (.long (xx * (own_atL own_ps pl))), .second] [(.long (-9223372036854775808 : Int64))])) τ → G τ := fun τ κ => pre τ (by
            refine XS.ifYes X24.here hx rfl (pc0 := 186) (pc' := 194) rfl (hb hby d2_186) rfl ((if0 _ _).trans (feq (fun q => hc186_26 ((lw_eq _ _).mp q))).2) (by decide) (by decide) ?_
            show Steps p.tables e below (T24.setTop (mkF m 194 #[.val (.long xx), .second, .val (.int pl), .val (.ref b5), .val (.long (own_atL own_ps pl)), .second, .val (.long (xx * (own_atL own_ps pl))), .second] [])) τ
            refine X24.ldc2Long hx hown (mvT hZ (hw _ (List.mem_of_getElem? (i := 13) rfl))) (g := (mkF m 194 #[.val (.long xx), .second, .val (.int pl), .val (.ref b5), .val (.long (own_atL own_ps pl)), .second, .val (.long (xx * (own_atL own_ps pl))), .second] [])) rfl (hb hby d2_194) _ ?_
            show Steps p.tables e below (T24.setTop (mkF m 197 #[.val (.long xx), .second, .val (.int pl), .val (.ref b5), .val (.long (own_atL own_ps pl)), .second, .val (.long (xx * (own_atL own_ps pl))), .second] [(.long (-9223372036854775808 : Int64))])) τ
            exact κ)
          obtain ⟨fsα, hr, hrun, hended, hW, hsame⟩ := X24.leave (v := some (.long (-9223372036854775808 : Int64))) (fun h => by rw [Bd.returns] at h; cases h)
          refine hGL ⟨_, _, hG _ (pre _ ?_), hrun, hended, _, _, rfl, ?_, ⟨_, rfl⟩, hW, hsame.mono (by decide) (by decide)⟩
          · exact retOut X24 hx Bd.returns rfl (Or.inr (Or.inl ⟨rfl, rfl, _, rfl⟩)) (hb hby d2_197) hr
          · show Q2 Z xx pl h0 n0 _ T24.heap _
            rw [e24]
            refine ⟨?_, NN, K⟩
            unfold own_ex
            rw [if_neg hc1_1]
            rw [if_neg hc11_2]
            rw [if_neg hc21_3]
            rw [if_neg hc186_26]
theorem pd_0 : parseMethodDescriptor "(JI)J" = some ⟨[.long, .int], some .long⟩ := by decide +kernel
theorem ef_0 (m : MethodId) (x0 : Int64) (x1 : Int32) (x2 : Int32) : entryFrame m #[(.long x0), (.int x1), (.int x2)] maxLocals = mkF m 0 #[.val (.long x0), .second, .val (.int x1), .val (.int x2), .unset, .unset, .unset, .unset, .unset] [] := by first | (simp [entryFrame, mkF, argsToLocals, Value.category, maxLocals]; done) | rfl
def Q0 (Z : State) (q1 : Int64) (p2 : Int32) (p3 : Int32) (pa : Addr) (sc : Addr) (kp : ClassId) (ks : ClassId) (h0 : Heap) (n0 : Nat) (vα : Option Value) (hα : Heap) (Lα : List Loc) : Prop := vα = some (.int (1 : Int32)) ∧ Fr n0 Lα
set_option maxRecDepth 65536 in
set_option maxHeartbeats 40000000 in
theorem rm0 (l : Launch) (Z : State) (a0 : Array Value) (hw : ∀ d ∈ tables_1, d.before a0 Z = true) (ws : List Jvm.Cond) (q1 : Int64) (p2 : Int32) (p3 : Int32) (pa : Addr) (sc : Addr) (kp : ClassId) (ks : ClassId) (h0 : Heap) (n0 : Nat) (Z0 : n0 ≤ h0.size) (S_p : Sta Z h0 "com/example/switchpoint/switchpoint/core/Values" "POWERS_OF_TEN" "[J" (.ref pa)) (S_s : Sta Z h0 "com/example/switchpoint/switchpoint/core/Values" "SCALABLE" "[J" (.ref sc)) (V_p : Arv Z h0 pa kp .long (19 : Int32) own_ps (.long (0 : Int64))) (V_s : Arv Z h0 sc ks .long (19 : Int32) own_ss (.long (0 : Int64))) :
    MetFree l x (head1 (Jvm.Cond.code x code maxLocals ret :: ws) room_1) (fun aα U => aα = #[(.long q1), (.int p2), (.int p3)] ∧ Z.Warmed39 U.vm ∧ U.heap = h0) (fun _ _ _ _ _ => True) (fun _ U oα U' => ∃ vα Lα, oα = .returned vα ∧ Q0 Z q1 p2 p3 pa sc kp ks h0 n0 vα U'.heap Lα ∧ FrameEnd U oα U' Lα room_1.cells room_1.slots) := by
  refine MetFree.of_bodySF (plainFor_of_name pn_1) hisR ?_
  intro p e s m args below meth c s₁ Bd hml0 hP hK
  refine own_wrap ?_
  intro GL hGL
  obtain ⟨rfl, hZ, hh⟩ := hP
  have hx := Bd.exec
  have hby := Bd.bytes
  have hml : c.maxLocals = 9 := hml0
  have hown : s.vm.findClass "com/example/switchpoint/switchpoint/core/ValuesScaleUpPinLaw" = some m.cls := findClass_of_methodNamed Bd.named
  have hnm := (name_of_methodNamed Bd.named Bd.method).1
  have X0 : Stand p l e room_1 s m #[(.long q1), (.int p2), (.int p3)] below meth c s₁ [] 0 0 := Stand.of_body Bd
  have e0 : s₁.heap = h0 := by rw [← hh, Bd.state]; rfl
  have N0 := Fr.nil n0
  have pre0 : ∀ τ, Steps p.tables e below (s₁.setTop (mkF m 0 #[.val (.long q1), .second, .val (.int p2), .val (.int p3), .unset, .unset, .unset, .unset, .unset] [])) τ → Steps p.tables e below (s₁.setTop (entryFrame m #[(.long q1), (.int p2), (.int p3)] maxLocals)) τ := fun τ κ => castTop (ef_0 m q1 p2 p3) κ
  obtain ⟨G, hG, pre⟩ : ∃ G : State → Prop, (∀ τ, G τ → Steps p.tables e below (s₁.setTop (entryFrame m #[(.long q1), (.int p2), (.int p3)] maxLocals)) τ) ∧ ∀ τ, Steps p.tables e below (s₁.setTop (mkF m 0 #[.val (.long q1), .second, .val (.int p2), .val (.int p3), .unset, .unset, .unset, .unset, .unset] [])) τ → G τ := ⟨_, pre0, fun _ k => k⟩
  have Zn := Z0
  have pre : ∀ τ, Steps p.tables e below (s₁.setTop (mkF m 3 #[.val (.long q1), .second, .val (.int p2), .val (.int p3), .unset, .unset, .unset, .unset, .unset] [(.int (p3 &&& (1 : Int32)))])) τ → G τ := fun τ κ => pre τ (by
    refine XS.iloadN X0.here hx rfl (hb hby at_0) rfl ?_
    show Steps p.tables e below (s₁.setTop (mkF m 1 #[.val (.long q1), .second, .val (.int p2), .val (.int p3), .unset, .unset, .unset, .unset, .unset] [(.int p3)])) τ
    refine XS.iconst X0.here hx rfl (hb hby at_1) ?_
    show Steps p.tables e below (s₁.setTop (mkF m 2 #[.val (.long q1), .second, .val (.int p2), .val (.int p3), .unset, .unset, .unset, .unset, .unset] [(.int (1 : Int32)), (.int p3)])) τ
    refine XS.iand X0.here hx rfl (hb hby at_2) rfl ?_
    show Steps p.tables e below (s₁.setTop (mkF m 3 #[.val (.long q1), .second, .val (.int p2), .val (.int p3), .unset, .unset, .unset, .unset, .unset] [(.int (p3 &&& (1 : Int32)))])) τ
    exact κ)
  rcases Classical.em ((p3 &&& (1 : Int32)) = (0 : Int32)) with hc3_1 | hc3_1
  ·
    have pre : ∀ τ, Steps p.tables e below (s₁.setTop (mkF m 19 #[.val (.long q1), .second, .val (.int p2), .val (.int p3), .val (.int (p2 &&& (31 : Int32))), .unset, .unset, .unset, .unset] [])) τ → G τ := fun τ κ => pre τ (by
      refine XS.ifYes X0.here hx rfl (pc0 := 3) (pc' := 13) rfl (hb hby at_3) rfl ((if0 _ _).trans (teq hc3_1).1) (by decide) (by decide) ?_
      show Steps p.tables e below (s₁.setTop (mkF m 13 #[.val (.long q1), .second, .val (.int p2), .val (.int p3), .unset, .unset, .unset, .unset, .unset] [])) τ
      refine XS.iloadN X0.here hx rfl (hb hby at_13) rfl ?_
      show Steps p.tables e below (s₁.setTop (mkF m 14 #[.val (.long q1), .second, .val (.int p2), .val (.int p3), .unset, .unset, .unset, .unset, .unset] [(.int p2)])) τ
      refine XS.bipush X0.here hx rfl (hb hby at_14) ?_
      show Steps p.tables e below (s₁.setTop (mkF m 16 #[.val (.long q1), .second, .val (.int p2), .val (.int p3), .unset, .unset, .unset, .unset, .unset] [(.int (31 : Int32)), (.int p2)])) τ
      refine XS.iand X0.here hx rfl (hb hby at_16) rfl ?_
      show Steps p.tables e below (s₁.setTop (mkF m 17 #[.val (.long q1), .second, .val (.int p2), .val (.int p3), .unset, .unset, .unset, .unset, .unset] [(.int (p2 &&& (31 : Int32)))])) τ
      refine XS.istore X0.here hx rfl (hb hby at_17) rfl (l' := #[.val (.long q1), .second, .val (.int p2), .val (.int p3), .val (.int (p2 &&& (31 : Int32))), .unset, .unset, .unset, .unset]) rfl ?_
      show Steps p.tables e below (s₁.setTop (mkF m 19 #[.val (.long q1), .second, .val (.int p2), .val (.int p3), .val (.int (p2 &&& (31 : Int32))), .unset, .unset, .unset, .unset] [])) τ
      exact κ)
    obtain ⟨pl, hpl⟩ : ∃ z : Int32, z = (p2 &&& (31 : Int32)) := ⟨_, rfl⟩
    have pre : ∀ τ, Steps p.tables e below (s₁.setTop (mkF m 19 #[.val (.long q1), .second, .val (.int p2), .val (.int p3), .val (.int pl), .unset, .unset, .unset, .unset] [])) τ → G τ := by subst hpl; exact pre
    have hpp : 0 ≤ pl.toInt := by rw [hpl]; exact own_n2 _
    have pre : ∀ τ, Steps p.tables e below (s₁.setTop (mkF m 22 #[.val (.long q1), .second, .val (.int p2), .val (.int p3), .val (.int pl), .unset, .unset, .unset, .unset] [(.int (p3 &&& (2 : Int32)))])) τ → G τ := fun τ κ => pre τ (by
      refine XS.iloadN X0.here hx rfl (hb hby at_19) rfl ?_
      show Steps p.tables e below (s₁.setTop (mkF m 20 #[.val (.long q1), .second, .val (.int p2), .val (.int p3), .val (.int pl), .unset, .unset, .unset, .unset] [(.int p3)])) τ
      refine XS.iconst X0.here hx rfl (hb hby at_20) ?_
      show Steps p.tables e below (s₁.setTop (mkF m 21 #[.val (.long q1), .second, .val (.int p2), .val (.int p3), .val (.int pl), .unset, .unset, .unset, .unset] [(.int (2 : Int32)), (.int p3)])) τ
      refine XS.iand X0.here hx rfl (hb hby at_21) rfl ?_
      show Steps p.tables e below (s₁.setTop (mkF m 22 #[.val (.long q1), .second, .val (.int p2), .val (.int p3), .val (.int pl), .unset, .unset, .unset, .unset] [(.int (p3 &&& (2 : Int32)))])) τ
      exact κ)
    rcases Classical.em ((p3 &&& (2 : Int32)) = (0 : Int32)) with hc22_2 | hc22_2
    ·
      have pre : ∀ τ, Steps p.tables e below (s₁.setTop (mkF m 39 #[.val (.long q1), .second, .val (.int p2), .val (.int p3), .val (.int pl), .val (.long (q1 >>> ((((p3.toUInt32 >>> ((2 : Int32) &&& 31).toUInt32).toInt32) &&& (63 : Int32)) &&& 0x3f).toInt64)), .second, .unset, .unset] [])) τ → G τ := fun τ κ => pre τ (by
        refine XS.ifYes X0.here hx rfl (pc0 := 22) (pc' := 29) rfl (hb hby at_22) rfl ((if0 _ _).trans (teq hc22_2).1) (by decide) (by decide) ?_
        show Steps p.tables e below (s₁.setTop (mkF m 29 #[.val (.long q1), .second, .val (.int p2), .val (.int p3), .val (.int pl), .unset, .unset, .unset, .unset] [])) τ
        refine XS.lloadN X0.here hx rfl (hb hby at_29) rfl ?_
        show Steps p.tables e below (s₁.setTop (mkF m 30 #[.val (.long q1), .second, .val (.int p2), .val (.int p3), .val (.int pl), .unset, .unset, .unset, .unset] [(.long q1)])) τ
        refine XS.iloadN X0.here hx rfl (hb hby at_30) rfl ?_
        show Steps p.tables e below (s₁.setTop (mkF m 31 #[.val (.long q1), .second, .val (.int p2), .val (.int p3), .val (.int pl), .unset, .unset, .unset, .unset] [(.int p3), (.long q1)])) τ
        refine XS.iconst X0.here hx rfl (hb hby at_31) ?_
        show Steps p.tables e below (s₁.setTop (mkF m 32 #[.val (.long q1), .second, .val (.int p2), .val (.int p3), .val (.int pl), .unset, .unset, .unset, .unset] [(.int (2 : Int32)), (.int p3), (.long q1)])) τ
        refine XS.iushr X0.here hx rfl (hb hby at_32) rfl ?_
        show Steps p.tables e below (s₁.setTop (mkF m 33 #[.val (.long q1), .second, .val (.int p2), .val (.int p3), .val (.int pl), .unset, .unset, .unset, .unset] [(.int ((p3.toUInt32 >>> ((2 : Int32) &&& 31).toUInt32).toInt32)), (.long q1)])) τ
        refine XS.bipush X0.here hx rfl (hb hby at_33) ?_
        show Steps p.tables e below (s₁.setTop (mkF m 35 #[.val (.long q1), .second, .val (.int p2), .val (.int p3), .val (.int pl), .unset, .unset, .unset, .unset] [(.int (63 : Int32)), (.int ((p3.toUInt32 >>> ((2 : Int32) &&& 31).toUInt32).toInt32)), (.long q1)])) τ
        refine XS.iand X0.here hx rfl (hb hby at_35) rfl ?_
        show Steps p.tables e below (s₁.setTop (mkF m 36 #[.val (.long q1), .second, .val (.int p2), .val (.int p3), .val (.int pl), .unset, .unset, .unset, .unset] [(.int (((p3.toUInt32 >>> ((2 : Int32) &&& 31).toUInt32).toInt32) &&& (63 : Int32))), (.long q1)])) τ
        refine XS.lshr X0.here hx rfl (hb hby at_36) rfl ?_
        show Steps p.tables e below (s₁.setTop (mkF m 37 #[.val (.long q1), .second, .val (.int p2), .val (.int p3), .val (.int pl), .unset, .unset, .unset, .unset] [(.long (q1 >>> ((((p3.toUInt32 >>> ((2 : Int32) &&& 31).toUInt32).toInt32) &&& (63 : Int32)) &&& 0x3f).toInt64))])) τ
        refine XS.lstore X0.here hx rfl (hb hby at_37) rfl (l' := #[.val (.long q1), .second, .val (.int p2), .val (.int p3), .val (.int pl), .val (.long (q1 >>> ((((p3.toUInt32 >>> ((2 : Int32) &&& 31).toUInt32).toInt32) &&& (63 : Int32)) &&& 0x3f).toInt64)), .second, .unset, .unset]) rfl ?_
        show Steps p.tables e below (s₁.setTop (mkF m 39 #[.val (.long q1), .second, .val (.int p2), .val (.int p3), .val (.int pl), .val (.long (q1 >>> ((((p3.toUInt32 >>> ((2 : Int32) &&& 31).toUInt32).toInt32) &&& (63 : Int32)) &&& 0x3f).toInt64)), .second, .unset, .unset] [])) τ
        exact κ)
      obtain ⟨xx, hxx⟩ : ∃ z : Int64, z = (q1 >>> ((((p3.toUInt32 >>> ((2 : Int32) &&& 31).toUInt32).toInt32) &&& (63 : Int32)) &&& 0x3f).toInt64) := ⟨_, rfl⟩
      have pre : ∀ τ, Steps p.tables e below (s₁.setTop (mkF m 39 #[.val (.long q1), .second, .val (.int p2), .val (.int p3), .val (.int pl), .val (.long xx), .second, .unset, .unset] [])) τ → G τ := by subst hxx; exact pre
      have pre : ∀ τ, Steps p.tables e below (s₁.setTop (mkF m 43 #[.val (.long q1), .second, .val (.int p2), .val (.int p3), .val (.int pl), .val (.long xx), .second, .unset, .unset] [(.int pl), (.long xx)])) τ → G τ := fun τ κ => pre τ (by
        refine XS.lload X0.here hx rfl (hb hby at_39) rfl ?_
        show Steps p.tables e below (s₁.setTop (mkF m 41 #[.val (.long q1), .second, .val (.int p2), .val (.int p3), .val (.int pl), .val (.long xx), .second, .unset, .unset] [(.long xx)])) τ
        refine XS.iload X0.here hx rfl (hb hby at_41) rfl ?_
        show Steps p.tables e below (s₁.setTop (mkF m 43 #[.val (.long q1), .second, .val (.int p2), .val (.int p3), .val (.int pl), .val (.long xx), .second, .unset, .unset] [(.int pl), (.long xx)])) τ
        exact κ)
      obtain ⟨_, _, ⟨T3, Lx3, kx3, nx3⟩, -, X3, ⟨Lc3, hQ3, l3, y3, z3⟩, st3⟩ := Jvm.LawKit.callS X0 hx (y := (⟨"com/example/switchpoint/switchpoint/core/Values", "scaleUp", "(JI)J"⟩ : MethodName)) hown (mvT hZ (hw _ (List.mem_of_getElem? (i := 1) rfl))) (mvT hZ (hw _ (List.mem_of_getElem? (i := 2) rfl))) (mvT hZ (hw _ (List.mem_of_getElem? (i := 3) rfl))) (mvT hZ (hw _ (List.mem_of_getElem? (i := 4) rfl))) (by decide) (backOf (W := 0) (rm1 l Z a0 hw [] xx pl pa sc kp ks h0 n0 Zn S_p S_s V_p V_s hpp) hZ (hw _ (List.mem_of_getElem? (i := 4) rfl)) (hw _ (List.mem_of_getElem? (i := 3) rfl)) (by decide) (by decide)) (g := (mkF m 43 #[.val (.long q1), .second, .val (.int p2), .val (.int p3), .val (.int pl), .val (.long xx), .second, .unset, .unset] [(.int pl), (.long xx)])) rfl (by rw [hml]; rfl) (argsL := [(.long xx), (.int pl)]) (rest := []) (lenOf pd_0 rfl) rfl (by show 2 * 0 + _ ≤ _; exact Nat.le_of_eq rfl) (hb hby at_43) (fun _ _ => ⟨rfl, e0, (by decide : 0 + 0 ≤ _), (by decide : 0 + 0 ≤ _)⟩)
      dsimp only [Pt.U, Pt.locs, Pt.cells, Pt.slots] at X3 l3 y3 z3 st3 hQ3
      replace y3 : kx3 = 0 := y3
      replace z3 : nx3 = 0 := z3
      subst y3 z3
      obtain ⟨rfl, Nq3, hs3⟩ := hQ3
      have NN : Fr n0 Lx3 := by rw [l3]; exact Fr.app N0 Nq3
      have pre : ∀ τ, Steps p.tables e below (T3.setTop (mkF m 46 #[.val (.long q1), .second, .val (.int p2), .val (.int p3), .val (.int pl), .val (.long xx), .second, .unset, .unset] [(.long (own_su xx pl))])) τ → G τ := fun τ κ => pre τ (st3 τ κ)
      have pre : ∀ τ, Steps p.tables e below (T3.setTop (mkF m 54 #[.val (.long q1), .second, .val (.int p2), .val (.int p3), .val (.int pl), .val (.long xx), .second, .val (.long (own_su xx pl)), .second] [(.int pl), (.long xx), (.long (own_su xx pl))])) τ → G τ := fun τ κ => pre τ (by
        refine XS.lstore X3.here hx rfl (hb hby at_46) rfl (l' := #[.val (.long q1), .second, .val (.int p2), .val (.int p3), .val (.int pl), .val (.long xx), .second, .val (.long (own_su xx pl)), .second]) rfl ?_
        show Steps p.tables e below (T3.setTop (mkF m 48 #[.val (.long q1), .second, .val (.int p2), .val (.int p3), .val (.int pl), .val (.long xx), .second, .val (.long (own_su xx pl)), .second] [])) τ
        refine XS.lload X3.here hx rfl (hb hby at_48) rfl ?_
        show Steps p.tables e below (T3.setTop (mkF m 50 #[.val (.long q1), .second, .val (.int p2), .val (.int p3), .val (.int pl), .val (.long xx), .second, .val (.long (own_su xx pl)), .second] [(.long (own_su xx pl))])) τ
        refine XS.lload X3.here hx rfl (hb hby at_50) rfl ?_
        show Steps p.tables e below (T3.setTop (mkF m 52 #[.val (.long q1), .second, .val (.int p2), .val (.int p3), .val (.int pl), .val (.long xx), .second, .val (.long (own_su xx pl)), .second] [(.long xx), (.long (own_su xx pl))])) τ
        refine XS.iload X3.here hx rfl (hb hby at_52) rfl ?_
        show Steps p.tables e below (T3.setTop (mkF m 54 #[.val (.long q1), .second, .val (.int p2), .val (.int p3), .val (.int pl), .val (.long xx), .second, .val (.long (own_su xx pl)), .second] [(.int pl), (.long xx), (.long (own_su xx pl))])) τ
        exact κ)
      obtain ⟨_, _, ⟨T4, Lx4, kx4, nx4⟩, -, X4, ⟨Lc4, hQ4, l4, y4, z4⟩, st4⟩ := Jvm.LawKit.callS X3 hx (y := (⟨"com/example/switchpoint/switchpoint/core/ValuesScaleUpPinLaw", "expected", "(JI)J"⟩ : MethodName)) hown (mvT hZ (hw _ (List.mem_of_getElem? (i := 9) rfl))) (mvT hZ (hw _ (List.mem_of_getElem? (i := 10) rfl))) (mvT hZ (hw _ (List.mem_of_getElem? (i := 11) rfl))) (mvT hZ (hw _ (List.mem_of_getElem? (i := 12) rfl))) (by decide) (backOf (W := 2) (rm2 l Z a0 hw [] xx pl h0 n0 Zn hpp) hZ (hw _ (List.mem_of_getElem? (i := 12) rfl)) (hw _ (List.mem_of_getElem? (i := 11) rfl)) (by decide) (by decide)) (g := (mkF m 54 #[.val (.long q1), .second, .val (.int p2), .val (.int p3), .val (.int pl), .val (.long xx), .second, .val (.long (own_su xx pl)), .second] [(.int pl), (.long xx), (.long (own_su xx pl))])) rfl (by rw [hml]; rfl) (argsL := [(.long xx), (.int pl)]) (rest := [(.long (own_su xx pl))]) (lenOf pd_0 rfl) rfl (by show 2 * 0 + _ ≤ _; exact Nat.le_of_eq rfl) (hb hby at_54) (fun _ _ => ⟨rfl, hs3, (by decide : 0 + 1 ≤ _), (by decide : 0 + 19 ≤ _)⟩)
      dsimp only [Pt.U, Pt.locs, Pt.cells, Pt.slots] at X4 l4 y4 z4 st4 hQ4
      replace y4 : kx4 = 1 := y4
      replace z4 : nx4 = 19 := z4
      subst y4 z4
      obtain ⟨rfl, Nq4, Kc4⟩ := hQ4
      have NN : Fr n0 Lx4 := by rw [l4]; exact Fr.app NN Nq4
      have S_p : Sta Z T4.heap "com/example/switchpoint/switchpoint/core/Values" "POWERS_OF_TEN" "[J" (.ref pa) := own_sta_keep S_p Kc4
      have S_s : Sta Z T4.heap "com/example/switchpoint/switchpoint/core/Values" "SCALABLE" "[J" (.ref sc) := own_sta_keep S_s Kc4
      have V_p : Arv Z T4.heap pa kp .long (19 : Int32) own_ps (.long (0 : Int64)) := V_p.keep Kc4 nin0
      have V_s : Arv Z T4.heap sc ks .long (19 : Int32) own_ss (.long (0 : Int64)) := V_s.keep Kc4 nin0
      have Zn : n0 ≤ T4.heap.size := Nat.le_trans Zn Kc4.1
      have pre : ∀ τ, Steps p.tables e below (T4.setTop (mkF m 57 #[.val (.long q1), .second, .val (.int p2), .val (.int p3), .val (.int pl), .val (.long xx), .second, .val (.long (own_su xx pl)), .second] [(.long (own_ex xx pl)), (.long (own_su xx pl))])) τ → G τ := fun τ κ => pre τ (st4 τ κ)
      have pre : ∀ τ, Steps p.tables e below (T4.setTop (mkF m 58 #[.val (.long q1), .second, .val (.int p2), .val (.int p3), .val (.int pl), .val (.long xx), .second, .val (.long (own_su xx pl)), .second] [(.int (lcmpW (own_su xx pl) (own_ex xx pl)))])) τ → G τ := fun τ κ => pre τ (by
        refine XS.lcmp X4.here hx rfl (hb hby at_57) rfl ?_
        show Steps p.tables e below (T4.setTop (mkF m 58 #[.val (.long q1), .second, .val (.int p2), .val (.int p3), .val (.int pl), .val (.long xx), .second, .val (.long (own_su xx pl)), .second] [(.int (lcmpW (own_su xx pl) (own_ex xx pl)))])) τ
        exact κ)
      have hc5 : (own_su xx pl) = (own_ex xx pl) := own_law hpp
      have pre : ∀ τ, Steps p.tables e below (T4.setTop (mkF m 66 #[.val (.long q1), .second, .val (.int p2), .val (.int p3), .val (.int pl), .val (.long xx), .second, .val (.long (own_su xx pl)), .second] [(.int (1 : Int32))])) τ → G τ := fun τ κ => pre τ (by
        refine XS.ifNo X4.here hx rfl (hb hby at_58) rfl ((if0 _ _).trans (teq ((lw_eq _ _).mpr hc5)).2) ?_
        show Steps p.tables e below (T4.setTop (mkF m 61 #[.val (.long q1), .second, .val (.int p2), .val (.int p3), .val (.int pl), .val (.long xx), .second, .val (.long (own_su xx pl)), .second] [])) τ
        refine XS.iconst X4.here hx rfl (hb hby at_61) ?_
        show Steps p.tables e below (T4.setTop (mkF m 62 #[.val (.long q1), .second, .val (.int p2), .val (.int p3), .val (.int pl), .val (.long xx), .second, .val (.long (own_su xx pl)), .second] [(.int (1 : Int32))])) τ
        refine XS.goto X4.here hx rfl (pc0 := 62) (pc' := 66) rfl (hb hby at_62) (by decide) (by decide) ?_
        show Steps p.tables e below (T4.setTop (mkF m 66 #[.val (.long q1), .second, .val (.int p2), .val (.int p3), .val (.int pl), .val (.long xx), .second, .val (.long (own_su xx pl)), .second] [(.int (1 : Int32))])) τ
        exact κ)
      obtain ⟨fsα, hr, hrun, hended, hW, hsame⟩ := X4.leave (v := some (.int (1 : Int32))) (fun h => by rw [Bd.returns] at h; cases h)
      refine hGL ⟨_, _, hG _ (pre _ ?_), hrun, hended, _, _, rfl, ?_, ⟨_, rfl⟩, hW, hsame.mono (by decide) (by decide)⟩
      · exact retN X4 hx (t := .boolean) Bd.returns (by simp) (hb hby at_66) hr
      · show Q0 Z q1 p2 p3 pa sc kp ks h0 n0 _ T4.heap _
        exact ⟨rfl, NN⟩
    ·
      have pre : ∀ τ, Steps p.tables e below (s₁.setTop (mkF m 39 #[.val (.long q1), .second, .val (.int p2), .val (.int p3), .val (.int pl), .val (.long q1), .second, .unset, .unset] [])) τ → G τ := fun τ κ => pre τ (by
        refine XS.ifNo X0.here hx rfl (hb hby at_22) rfl ((if0 _ _).trans (feq hc22_2).1) ?_
        show Steps p.tables e below (s₁.setTop (mkF m 25 #[.val (.long q1), .second, .val (.int p2), .val (.int p3), .val (.int pl), .unset, .unset, .unset, .unset] [])) τ
        refine XS.lloadN X0.here hx rfl (hb hby at_25) rfl ?_
        show Steps p.tables e below (s₁.setTop (mkF m 26 #[.val (.long q1), .second, .val (.int p2), .val (.int p3), .val (.int pl), .unset, .unset, .unset, .unset] [(.long q1)])) τ
        refine XS.goto X0.here hx rfl (pc0 := 26) (pc' := 37) rfl (hb hby at_26) (by decide) (by decide) ?_
        show Steps p.tables e below (s₁.setTop (mkF m 37 #[.val (.long q1), .second, .val (.int p2), .val (.int p3), .val (.int pl), .unset, .unset, .unset, .unset] [(.long q1)])) τ
        refine XS.lstore X0.here hx rfl (hb hby at_37) rfl (l' := #[.val (.long q1), .second, .val (.int p2), .val (.int p3), .val (.int pl), .val (.long q1), .second, .unset, .unset]) rfl ?_
        show Steps p.tables e below (s₁.setTop (mkF m 39 #[.val (.long q1), .second, .val (.int p2), .val (.int p3), .val (.int pl), .val (.long q1), .second, .unset, .unset] [])) τ
        exact κ)
      obtain ⟨xx, hxx⟩ : ∃ z : Int64, z = q1 := ⟨_, rfl⟩
      have pre : ∀ τ, Steps p.tables e below (s₁.setTop (mkF m 39 #[.val (.long q1), .second, .val (.int p2), .val (.int p3), .val (.int pl), .val (.long xx), .second, .unset, .unset] [])) τ → G τ := by subst hxx; exact pre
      have pre : ∀ τ, Steps p.tables e below (s₁.setTop (mkF m 43 #[.val (.long q1), .second, .val (.int p2), .val (.int p3), .val (.int pl), .val (.long xx), .second, .unset, .unset] [(.int pl), (.long xx)])) τ → G τ := fun τ κ => pre τ (by
        refine XS.lload X0.here hx rfl (hb hby at_39) rfl ?_
        show Steps p.tables e below (s₁.setTop (mkF m 41 #[.val (.long q1), .second, .val (.int p2), .val (.int p3), .val (.int pl), .val (.long xx), .second, .unset, .unset] [(.long xx)])) τ
        refine XS.iload X0.here hx rfl (hb hby at_41) rfl ?_
        show Steps p.tables e below (s₁.setTop (mkF m 43 #[.val (.long q1), .second, .val (.int p2), .val (.int p3), .val (.int pl), .val (.long xx), .second, .unset, .unset] [(.int pl), (.long xx)])) τ
        exact κ)
      obtain ⟨_, _, ⟨T6, Lx6, kx6, nx6⟩, -, X6, ⟨Lc6, hQ6, l6, y6, z6⟩, st6⟩ := Jvm.LawKit.callS X0 hx (y := (⟨"com/example/switchpoint/switchpoint/core/Values", "scaleUp", "(JI)J"⟩ : MethodName)) hown (mvT hZ (hw _ (List.mem_of_getElem? (i := 1) rfl))) (mvT hZ (hw _ (List.mem_of_getElem? (i := 2) rfl))) (mvT hZ (hw _ (List.mem_of_getElem? (i := 3) rfl))) (mvT hZ (hw _ (List.mem_of_getElem? (i := 4) rfl))) (by decide) (backOf (W := 0) (rm1 l Z a0 hw [] xx pl pa sc kp ks h0 n0 Zn S_p S_s V_p V_s hpp) hZ (hw _ (List.mem_of_getElem? (i := 4) rfl)) (hw _ (List.mem_of_getElem? (i := 3) rfl)) (by decide) (by decide)) (g := (mkF m 43 #[.val (.long q1), .second, .val (.int p2), .val (.int p3), .val (.int pl), .val (.long xx), .second, .unset, .unset] [(.int pl), (.long xx)])) rfl (by rw [hml]; rfl) (argsL := [(.long xx), (.int pl)]) (rest := []) (lenOf pd_0 rfl) rfl (by show 2 * 0 + _ ≤ _; exact Nat.le_of_eq rfl) (hb hby at_43) (fun _ _ => ⟨rfl, e0, (by decide : 0 + 0 ≤ _), (by decide : 0 + 0 ≤ _)⟩)
      dsimp only [Pt.U, Pt.locs, Pt.cells, Pt.slots] at X6 l6 y6 z6 st6 hQ6
      replace y6 : kx6 = 0 := y6
      replace z6 : nx6 = 0 := z6
      subst y6 z6
      obtain ⟨rfl, Nq6, hs6⟩ := hQ6
      have NN : Fr n0 Lx6 := by rw [l6]; exact Fr.app N0 Nq6
      have pre : ∀ τ, Steps p.tables e below (T6.setTop (mkF m 46 #[.val (.long q1), .second, .val (.int p2), .val (.int p3), .val (.int pl), .val (.long xx), .second, .unset, .unset] [(.long (own_su xx pl))])) τ → G τ := fun τ κ => pre τ (st6 τ κ)
      have pre : ∀ τ, Steps p.tables e below (T6.setTop (mkF m 54 #[.val (.long q1), .second, .val (.int p2), .val (.int p3), .val (.int pl), .val (.long xx), .second, .val (.long (own_su xx pl)), .second] [(.int pl), (.long xx), (.long (own_su xx pl))])) τ → G τ := fun τ κ => pre τ (by
        refine XS.lstore X6.here hx rfl (hb hby at_46) rfl (l' := #[.val (.long q1), .second, .val (.int p2), .val (.int p3), .val (.int pl), .val (.long xx), .second, .val (.long (own_su xx pl)), .second]) rfl ?_
        show Steps p.tables e below (T6.setTop (mkF m 48 #[.val (.long q1), .second, .val (.int p2), .val (.int p3), .val (.int pl), .val (.long xx), .second, .val (.long (own_su xx pl)), .second] [])) τ
        refine XS.lload X6.here hx rfl (hb hby at_48) rfl ?_
        show Steps p.tables e below (T6.setTop (mkF m 50 #[.val (.long q1), .second, .val (.int p2), .val (.int p3), .val (.int pl), .val (.long xx), .second, .val (.long (own_su xx pl)), .second] [(.long (own_su xx pl))])) τ
        refine XS.lload X6.here hx rfl (hb hby at_50) rfl ?_
        show Steps p.tables e below (T6.setTop (mkF m 52 #[.val (.long q1), .second, .val (.int p2), .val (.int p3), .val (.int pl), .val (.long xx), .second, .val (.long (own_su xx pl)), .second] [(.long xx), (.long (own_su xx pl))])) τ
        refine XS.iload X6.here hx rfl (hb hby at_52) rfl ?_
        show Steps p.tables e below (T6.setTop (mkF m 54 #[.val (.long q1), .second, .val (.int p2), .val (.int p3), .val (.int pl), .val (.long xx), .second, .val (.long (own_su xx pl)), .second] [(.int pl), (.long xx), (.long (own_su xx pl))])) τ
        exact κ)
      obtain ⟨_, _, ⟨T7, Lx7, kx7, nx7⟩, -, X7, ⟨Lc7, hQ7, l7, y7, z7⟩, st7⟩ := Jvm.LawKit.callS X6 hx (y := (⟨"com/example/switchpoint/switchpoint/core/ValuesScaleUpPinLaw", "expected", "(JI)J"⟩ : MethodName)) hown (mvT hZ (hw _ (List.mem_of_getElem? (i := 9) rfl))) (mvT hZ (hw _ (List.mem_of_getElem? (i := 10) rfl))) (mvT hZ (hw _ (List.mem_of_getElem? (i := 11) rfl))) (mvT hZ (hw _ (List.mem_of_getElem? (i := 12) rfl))) (by decide) (backOf (W := 2) (rm2 l Z a0 hw [] xx pl h0 n0 Zn hpp) hZ (hw _ (List.mem_of_getElem? (i := 12) rfl)) (hw _ (List.mem_of_getElem? (i := 11) rfl)) (by decide) (by decide)) (g := (mkF m 54 #[.val (.long q1), .second, .val (.int p2), .val (.int p3), .val (.int pl), .val (.long xx), .second, .val (.long (own_su xx pl)), .second] [(.int pl), (.long xx), (.long (own_su xx pl))])) rfl (by rw [hml]; rfl) (argsL := [(.long xx), (.int pl)]) (rest := [(.long (own_su xx pl))]) (lenOf pd_0 rfl) rfl (by show 2 * 0 + _ ≤ _; exact Nat.le_of_eq rfl) (hb hby at_54) (fun _ _ => ⟨rfl, hs6, (by decide : 0 + 1 ≤ _), (by decide : 0 + 19 ≤ _)⟩)
      dsimp only [Pt.U, Pt.locs, Pt.cells, Pt.slots] at X7 l7 y7 z7 st7 hQ7
      replace y7 : kx7 = 1 := y7
      replace z7 : nx7 = 19 := z7
      subst y7 z7
      obtain ⟨rfl, Nq7, Kc7⟩ := hQ7
      have NN : Fr n0 Lx7 := by rw [l7]; exact Fr.app NN Nq7
      have S_p : Sta Z T7.heap "com/example/switchpoint/switchpoint/core/Values" "POWERS_OF_TEN" "[J" (.ref pa) := own_sta_keep S_p Kc7
      have S_s : Sta Z T7.heap "com/example/switchpoint/switchpoint/core/Values" "SCALABLE" "[J" (.ref sc) := own_sta_keep S_s Kc7
      have V_p : Arv Z T7.heap pa kp .long (19 : Int32) own_ps (.long (0 : Int64)) := V_p.keep Kc7 nin0
      have V_s : Arv Z T7.heap sc ks .long (19 : Int32) own_ss (.long (0 : Int64)) := V_s.keep Kc7 nin0
      have Zn : n0 ≤ T7.heap.size := Nat.le_trans Zn Kc7.1
      have pre : ∀ τ, Steps p.tables e below (T7.setTop (mkF m 57 #[.val (.long q1), .second, .val (.int p2), .val (.int p3), .val (.int pl), .val (.long xx), .second, .val (.long (own_su xx pl)), .second] [(.long (own_ex xx pl)), (.long (own_su xx pl))])) τ → G τ := fun τ κ => pre τ (st7 τ κ)
      have pre : ∀ τ, Steps p.tables e below (T7.setTop (mkF m 58 #[.val (.long q1), .second, .val (.int p2), .val (.int p3), .val (.int pl), .val (.long xx), .second, .val (.long (own_su xx pl)), .second] [(.int (lcmpW (own_su xx pl) (own_ex xx pl)))])) τ → G τ := fun τ κ => pre τ (by
        refine XS.lcmp X7.here hx rfl (hb hby at_57) rfl ?_
        show Steps p.tables e below (T7.setTop (mkF m 58 #[.val (.long q1), .second, .val (.int p2), .val (.int p3), .val (.int pl), .val (.long xx), .second, .val (.long (own_su xx pl)), .second] [(.int (lcmpW (own_su xx pl) (own_ex xx pl)))])) τ
        exact κ)
      have hc8 : (own_su xx pl) = (own_ex xx pl) := own_law hpp
      have pre : ∀ τ, Steps p.tables e below (T7.setTop (mkF m 66 #[.val (.long q1), .second, .val (.int p2), .val (.int p3), .val (.int pl), .val (.long xx), .second, .val (.long (own_su xx pl)), .second] [(.int (1 : Int32))])) τ → G τ := fun τ κ => pre τ (by
        refine XS.ifNo X7.here hx rfl (hb hby at_58) rfl ((if0 _ _).trans (teq ((lw_eq _ _).mpr hc8)).2) ?_
        show Steps p.tables e below (T7.setTop (mkF m 61 #[.val (.long q1), .second, .val (.int p2), .val (.int p3), .val (.int pl), .val (.long xx), .second, .val (.long (own_su xx pl)), .second] [])) τ
        refine XS.iconst X7.here hx rfl (hb hby at_61) ?_
        show Steps p.tables e below (T7.setTop (mkF m 62 #[.val (.long q1), .second, .val (.int p2), .val (.int p3), .val (.int pl), .val (.long xx), .second, .val (.long (own_su xx pl)), .second] [(.int (1 : Int32))])) τ
        refine XS.goto X7.here hx rfl (pc0 := 62) (pc' := 66) rfl (hb hby at_62) (by decide) (by decide) ?_
        show Steps p.tables e below (T7.setTop (mkF m 66 #[.val (.long q1), .second, .val (.int p2), .val (.int p3), .val (.int pl), .val (.long xx), .second, .val (.long (own_su xx pl)), .second] [(.int (1 : Int32))])) τ
        exact κ)
      obtain ⟨fsα, hr, hrun, hended, hW, hsame⟩ := X7.leave (v := some (.int (1 : Int32))) (fun h => by rw [Bd.returns] at h; cases h)
      refine hGL ⟨_, _, hG _ (pre _ ?_), hrun, hended, _, _, rfl, ?_, ⟨_, rfl⟩, hW, hsame.mono (by decide) (by decide)⟩
      · exact retN X7 hx (t := .boolean) Bd.returns (by simp) (hb hby at_66) hr
      · show Q0 Z q1 p2 p3 pa sc kp ks h0 n0 _ T7.heap _
        exact ⟨rfl, NN⟩
  ·
    have pre : ∀ τ, Steps p.tables e below (s₁.setTop (mkF m 19 #[.val (.long q1), .second, .val (.int p2), .val (.int p3), .val (.int (p2 &&& (2147483647 : Int32))), .unset, .unset, .unset, .unset] [])) τ → G τ := fun τ κ => pre τ (by
      refine XS.ifNo X0.here hx rfl (hb hby at_3) rfl ((if0 _ _).trans (feq hc3_1).1) ?_
      show Steps p.tables e below (s₁.setTop (mkF m 6 #[.val (.long q1), .second, .val (.int p2), .val (.int p3), .unset, .unset, .unset, .unset, .unset] [])) τ
      refine XS.iloadN X0.here hx rfl (hb hby at_6) rfl ?_
      show Steps p.tables e below (s₁.setTop (mkF m 7 #[.val (.long q1), .second, .val (.int p2), .val (.int p3), .unset, .unset, .unset, .unset, .unset] [(.int p2)])) τ
      refine X0.ldcInt hx hown (mvT hZ (hw _ (List.mem_of_getElem? (i := 0) rfl))) (g := (mkF m 7 #[.val (.long q1), .second, .val (.int p2), .val (.int p3), .unset, .unset, .unset, .unset, .unset] [(.int p2)])) rfl (hb hby at_7) _ ?_
      show Steps p.tables e below (s₁.setTop (mkF m 9 #[.val (.long q1), .second, .val (.int p2), .val (.int p3), .unset, .unset, .unset, .unset, .unset] [(.int (2147483647 : Int32)), (.int p2)])) τ
      refine XS.iand X0.here hx rfl (hb hby at_9) rfl ?_
      show Steps p.tables e below (s₁.setTop (mkF m 10 #[.val (.long q1), .second, .val (.int p2), .val (.int p3), .unset, .unset, .unset, .unset, .unset] [(.int (p2 &&& (2147483647 : Int32)))])) τ
      refine XS.goto X0.here hx rfl (pc0 := 10) (pc' := 17) rfl (hb hby at_10) (by decide) (by decide) ?_
      show Steps p.tables e below (s₁.setTop (mkF m 17 #[.val (.long q1), .second, .val (.int p2), .val (.int p3), .unset, .unset, .unset, .unset, .unset] [(.int (p2 &&& (2147483647 : Int32)))])) τ
      refine XS.istore X0.here hx rfl (hb hby at_17) rfl (l' := #[.val (.long q1), .second, .val (.int p2), .val (.int p3), .val (.int (p2 &&& (2147483647 : Int32))), .unset, .unset, .unset, .unset]) rfl ?_
      show Steps p.tables e below (s₁.setTop (mkF m 19 #[.val (.long q1), .second, .val (.int p2), .val (.int p3), .val (.int (p2 &&& (2147483647 : Int32))), .unset, .unset, .unset, .unset] [])) τ
      exact κ)
    obtain ⟨pl, hpl⟩ : ∃ z : Int32, z = (p2 &&& (2147483647 : Int32)) := ⟨_, rfl⟩
    have pre : ∀ τ, Steps p.tables e below (s₁.setTop (mkF m 19 #[.val (.long q1), .second, .val (.int p2), .val (.int p3), .val (.int pl), .unset, .unset, .unset, .unset] [])) τ → G τ := by subst hpl; exact pre
    have hpp : 0 ≤ pl.toInt := by rw [hpl]; exact own_n1 _
    have pre : ∀ τ, Steps p.tables e below (s₁.setTop (mkF m 22 #[.val (.long q1), .second, .val (.int p2), .val (.int p3), .val (.int pl), .unset, .unset, .unset, .unset] [(.int (p3 &&& (2 : Int32)))])) τ → G τ := fun τ κ => pre τ (by
      refine XS.iloadN X0.here hx rfl (hb hby at_19) rfl ?_
      show Steps p.tables e below (s₁.setTop (mkF m 20 #[.val (.long q1), .second, .val (.int p2), .val (.int p3), .val (.int pl), .unset, .unset, .unset, .unset] [(.int p3)])) τ
      refine XS.iconst X0.here hx rfl (hb hby at_20) ?_
      show Steps p.tables e below (s₁.setTop (mkF m 21 #[.val (.long q1), .second, .val (.int p2), .val (.int p3), .val (.int pl), .unset, .unset, .unset, .unset] [(.int (2 : Int32)), (.int p3)])) τ
      refine XS.iand X0.here hx rfl (hb hby at_21) rfl ?_
      show Steps p.tables e below (s₁.setTop (mkF m 22 #[.val (.long q1), .second, .val (.int p2), .val (.int p3), .val (.int pl), .unset, .unset, .unset, .unset] [(.int (p3 &&& (2 : Int32)))])) τ
      exact κ)
    rcases Classical.em ((p3 &&& (2 : Int32)) = (0 : Int32)) with hc22_9 | hc22_9
    ·
      have pre : ∀ τ, Steps p.tables e below (s₁.setTop (mkF m 39 #[.val (.long q1), .second, .val (.int p2), .val (.int p3), .val (.int pl), .val (.long (q1 >>> ((((p3.toUInt32 >>> ((2 : Int32) &&& 31).toUInt32).toInt32) &&& (63 : Int32)) &&& 0x3f).toInt64)), .second, .unset, .unset] [])) τ → G τ := fun τ κ => pre τ (by
        refine XS.ifYes X0.here hx rfl (pc0 := 22) (pc' := 29) rfl (hb hby at_22) rfl ((if0 _ _).trans (teq hc22_9).1) (by decide) (by decide) ?_
        show Steps p.tables e below (s₁.setTop (mkF m 29 #[.val (.long q1), .second, .val (.int p2), .val (.int p3), .val (.int pl), .unset, .unset, .unset, .unset] [])) τ
        refine XS.lloadN X0.here hx rfl (hb hby at_29) rfl ?_
        show Steps p.tables e below (s₁.setTop (mkF m 30 #[.val (.long q1), .second, .val (.int p2), .val (.int p3), .val (.int pl), .unset, .unset, .unset, .unset] [(.long q1)])) τ
        refine XS.iloadN X0.here hx rfl (hb hby at_30) rfl ?_
        show Steps p.tables e below (s₁.setTop (mkF m 31 #[.val (.long q1), .second, .val (.int p2), .val (.int p3), .val (.int pl), .unset, .unset, .unset, .unset] [(.int p3), (.long q1)])) τ
        refine XS.iconst X0.here hx rfl (hb hby at_31) ?_
        show Steps p.tables e below (s₁.setTop (mkF m 32 #[.val (.long q1), .second, .val (.int p2), .val (.int p3), .val (.int pl), .unset, .unset, .unset, .unset] [(.int (2 : Int32)), (.int p3), (.long q1)])) τ
        refine XS.iushr X0.here hx rfl (hb hby at_32) rfl ?_
        show Steps p.tables e below (s₁.setTop (mkF m 33 #[.val (.long q1), .second, .val (.int p2), .val (.int p3), .val (.int pl), .unset, .unset, .unset, .unset] [(.int ((p3.toUInt32 >>> ((2 : Int32) &&& 31).toUInt32).toInt32)), (.long q1)])) τ
        refine XS.bipush X0.here hx rfl (hb hby at_33) ?_
        show Steps p.tables e below (s₁.setTop (mkF m 35 #[.val (.long q1), .second, .val (.int p2), .val (.int p3), .val (.int pl), .unset, .unset, .unset, .unset] [(.int (63 : Int32)), (.int ((p3.toUInt32 >>> ((2 : Int32) &&& 31).toUInt32).toInt32)), (.long q1)])) τ
        refine XS.iand X0.here hx rfl (hb hby at_35) rfl ?_
        show Steps p.tables e below (s₁.setTop (mkF m 36 #[.val (.long q1), .second, .val (.int p2), .val (.int p3), .val (.int pl), .unset, .unset, .unset, .unset] [(.int (((p3.toUInt32 >>> ((2 : Int32) &&& 31).toUInt32).toInt32) &&& (63 : Int32))), (.long q1)])) τ
        refine XS.lshr X0.here hx rfl (hb hby at_36) rfl ?_
        show Steps p.tables e below (s₁.setTop (mkF m 37 #[.val (.long q1), .second, .val (.int p2), .val (.int p3), .val (.int pl), .unset, .unset, .unset, .unset] [(.long (q1 >>> ((((p3.toUInt32 >>> ((2 : Int32) &&& 31).toUInt32).toInt32) &&& (63 : Int32)) &&& 0x3f).toInt64))])) τ
        refine XS.lstore X0.here hx rfl (hb hby at_37) rfl (l' := #[.val (.long q1), .second, .val (.int p2), .val (.int p3), .val (.int pl), .val (.long (q1 >>> ((((p3.toUInt32 >>> ((2 : Int32) &&& 31).toUInt32).toInt32) &&& (63 : Int32)) &&& 0x3f).toInt64)), .second, .unset, .unset]) rfl ?_
        show Steps p.tables e below (s₁.setTop (mkF m 39 #[.val (.long q1), .second, .val (.int p2), .val (.int p3), .val (.int pl), .val (.long (q1 >>> ((((p3.toUInt32 >>> ((2 : Int32) &&& 31).toUInt32).toInt32) &&& (63 : Int32)) &&& 0x3f).toInt64)), .second, .unset, .unset] [])) τ
        exact κ)
      obtain ⟨xx, hxx⟩ : ∃ z : Int64, z = (q1 >>> ((((p3.toUInt32 >>> ((2 : Int32) &&& 31).toUInt32).toInt32) &&& (63 : Int32)) &&& 0x3f).toInt64) := ⟨_, rfl⟩
      have pre : ∀ τ, Steps p.tables e below (s₁.setTop (mkF m 39 #[.val (.long q1), .second, .val (.int p2), .val (.int p3), .val (.int pl), .val (.long xx), .second, .unset, .unset] [])) τ → G τ := by subst hxx; exact pre
      have pre : ∀ τ, Steps p.tables e below (s₁.setTop (mkF m 43 #[.val (.long q1), .second, .val (.int p2), .val (.int p3), .val (.int pl), .val (.long xx), .second, .unset, .unset] [(.int pl), (.long xx)])) τ → G τ := fun τ κ => pre τ (by
        refine XS.lload X0.here hx rfl (hb hby at_39) rfl ?_
        show Steps p.tables e below (s₁.setTop (mkF m 41 #[.val (.long q1), .second, .val (.int p2), .val (.int p3), .val (.int pl), .val (.long xx), .second, .unset, .unset] [(.long xx)])) τ
        refine XS.iload X0.here hx rfl (hb hby at_41) rfl ?_
        show Steps p.tables e below (s₁.setTop (mkF m 43 #[.val (.long q1), .second, .val (.int p2), .val (.int p3), .val (.int pl), .val (.long xx), .second, .unset, .unset] [(.int pl), (.long xx)])) τ
        exact κ)
      obtain ⟨_, _, ⟨T10, Lx10, kx10, nx10⟩, -, X10, ⟨Lc10, hQ10, l10, y10, z10⟩, st10⟩ := Jvm.LawKit.callS X0 hx (y := (⟨"com/example/switchpoint/switchpoint/core/Values", "scaleUp", "(JI)J"⟩ : MethodName)) hown (mvT hZ (hw _ (List.mem_of_getElem? (i := 1) rfl))) (mvT hZ (hw _ (List.mem_of_getElem? (i := 2) rfl))) (mvT hZ (hw _ (List.mem_of_getElem? (i := 3) rfl))) (mvT hZ (hw _ (List.mem_of_getElem? (i := 4) rfl))) (by decide) (backOf (W := 0) (rm1 l Z a0 hw [] xx pl pa sc kp ks h0 n0 Zn S_p S_s V_p V_s hpp) hZ (hw _ (List.mem_of_getElem? (i := 4) rfl)) (hw _ (List.mem_of_getElem? (i := 3) rfl)) (by decide) (by decide)) (g := (mkF m 43 #[.val (.long q1), .second, .val (.int p2), .val (.int p3), .val (.int pl), .val (.long xx), .second, .unset, .unset] [(.int pl), (.long xx)])) rfl (by rw [hml]; rfl) (argsL := [(.long xx), (.int pl)]) (rest := []) (lenOf pd_0 rfl) rfl (by show 2 * 0 + _ ≤ _; exact Nat.le_of_eq rfl) (hb hby at_43) (fun _ _ => ⟨rfl, e0, (by decide : 0 + 0 ≤ _), (by decide : 0 + 0 ≤ _)⟩)
      dsimp only [Pt.U, Pt.locs, Pt.cells, Pt.slots] at X10 l10 y10 z10 st10 hQ10
      replace y10 : kx10 = 0 := y10
      replace z10 : nx10 = 0 := z10
      subst y10 z10
      obtain ⟨rfl, Nq10, hs10⟩ := hQ10
      have NN : Fr n0 Lx10 := by rw [l10]; exact Fr.app N0 Nq10
      have pre : ∀ τ, Steps p.tables e below (T10.setTop (mkF m 46 #[.val (.long q1), .second, .val (.int p2), .val (.int p3), .val (.int pl), .val (.long xx), .second, .unset, .unset] [(.long (own_su xx pl))])) τ → G τ := fun τ κ => pre τ (st10 τ κ)
      have pre : ∀ τ, Steps p.tables e below (T10.setTop (mkF m 54 #[.val (.long q1), .second, .val (.int p2), .val (.int p3), .val (.int pl), .val (.long xx), .second, .val (.long (own_su xx pl)), .second] [(.int pl), (.long xx), (.long (own_su xx pl))])) τ → G τ := fun τ κ => pre τ (by
        refine XS.lstore X10.here hx rfl (hb hby at_46) rfl (l' := #[.val (.long q1), .second, .val (.int p2), .val (.int p3), .val (.int pl), .val (.long xx), .second, .val (.long (own_su xx pl)), .second]) rfl ?_
        show Steps p.tables e below (T10.setTop (mkF m 48 #[.val (.long q1), .second, .val (.int p2), .val (.int p3), .val (.int pl), .val (.long xx), .second, .val (.long (own_su xx pl)), .second] [])) τ
        refine XS.lload X10.here hx rfl (hb hby at_48) rfl ?_
        show Steps p.tables e below (T10.setTop (mkF m 50 #[.val (.long q1), .second, .val (.int p2), .val (.int p3), .val (.int pl), .val (.long xx), .second, .val (.long (own_su xx pl)), .second] [(.long (own_su xx pl))])) τ
        refine XS.lload X10.here hx rfl (hb hby at_50) rfl ?_
        show Steps p.tables e below (T10.setTop (mkF m 52 #[.val (.long q1), .second, .val (.int p2), .val (.int p3), .val (.int pl), .val (.long xx), .second, .val (.long (own_su xx pl)), .second] [(.long xx), (.long (own_su xx pl))])) τ
        refine XS.iload X10.here hx rfl (hb hby at_52) rfl ?_
        show Steps p.tables e below (T10.setTop (mkF m 54 #[.val (.long q1), .second, .val (.int p2), .val (.int p3), .val (.int pl), .val (.long xx), .second, .val (.long (own_su xx pl)), .second] [(.int pl), (.long xx), (.long (own_su xx pl))])) τ
        exact κ)
      obtain ⟨_, _, ⟨T11, Lx11, kx11, nx11⟩, -, X11, ⟨Lc11, hQ11, l11, y11, z11⟩, st11⟩ := Jvm.LawKit.callS X10 hx (y := (⟨"com/example/switchpoint/switchpoint/core/ValuesScaleUpPinLaw", "expected", "(JI)J"⟩ : MethodName)) hown (mvT hZ (hw _ (List.mem_of_getElem? (i := 9) rfl))) (mvT hZ (hw _ (List.mem_of_getElem? (i := 10) rfl))) (mvT hZ (hw _ (List.mem_of_getElem? (i := 11) rfl))) (mvT hZ (hw _ (List.mem_of_getElem? (i := 12) rfl))) (by decide) (backOf (W := 2) (rm2 l Z a0 hw [] xx pl h0 n0 Zn hpp) hZ (hw _ (List.mem_of_getElem? (i := 12) rfl)) (hw _ (List.mem_of_getElem? (i := 11) rfl)) (by decide) (by decide)) (g := (mkF m 54 #[.val (.long q1), .second, .val (.int p2), .val (.int p3), .val (.int pl), .val (.long xx), .second, .val (.long (own_su xx pl)), .second] [(.int pl), (.long xx), (.long (own_su xx pl))])) rfl (by rw [hml]; rfl) (argsL := [(.long xx), (.int pl)]) (rest := [(.long (own_su xx pl))]) (lenOf pd_0 rfl) rfl (by show 2 * 0 + _ ≤ _; exact Nat.le_of_eq rfl) (hb hby at_54) (fun _ _ => ⟨rfl, hs10, (by decide : 0 + 1 ≤ _), (by decide : 0 + 19 ≤ _)⟩)
      dsimp only [Pt.U, Pt.locs, Pt.cells, Pt.slots] at X11 l11 y11 z11 st11 hQ11
      replace y11 : kx11 = 1 := y11
      replace z11 : nx11 = 19 := z11
      subst y11 z11
      obtain ⟨rfl, Nq11, Kc11⟩ := hQ11
      have NN : Fr n0 Lx11 := by rw [l11]; exact Fr.app NN Nq11
      have S_p : Sta Z T11.heap "com/example/switchpoint/switchpoint/core/Values" "POWERS_OF_TEN" "[J" (.ref pa) := own_sta_keep S_p Kc11
      have S_s : Sta Z T11.heap "com/example/switchpoint/switchpoint/core/Values" "SCALABLE" "[J" (.ref sc) := own_sta_keep S_s Kc11
      have V_p : Arv Z T11.heap pa kp .long (19 : Int32) own_ps (.long (0 : Int64)) := V_p.keep Kc11 nin0
      have V_s : Arv Z T11.heap sc ks .long (19 : Int32) own_ss (.long (0 : Int64)) := V_s.keep Kc11 nin0
      have Zn : n0 ≤ T11.heap.size := Nat.le_trans Zn Kc11.1
      have pre : ∀ τ, Steps p.tables e below (T11.setTop (mkF m 57 #[.val (.long q1), .second, .val (.int p2), .val (.int p3), .val (.int pl), .val (.long xx), .second, .val (.long (own_su xx pl)), .second] [(.long (own_ex xx pl)), (.long (own_su xx pl))])) τ → G τ := fun τ κ => pre τ (st11 τ κ)
      have pre : ∀ τ, Steps p.tables e below (T11.setTop (mkF m 58 #[.val (.long q1), .second, .val (.int p2), .val (.int p3), .val (.int pl), .val (.long xx), .second, .val (.long (own_su xx pl)), .second] [(.int (lcmpW (own_su xx pl) (own_ex xx pl)))])) τ → G τ := fun τ κ => pre τ (by
        refine XS.lcmp X11.here hx rfl (hb hby at_57) rfl ?_
        show Steps p.tables e below (T11.setTop (mkF m 58 #[.val (.long q1), .second, .val (.int p2), .val (.int p3), .val (.int pl), .val (.long xx), .second, .val (.long (own_su xx pl)), .second] [(.int (lcmpW (own_su xx pl) (own_ex xx pl)))])) τ
        exact κ)
      have hc12 : (own_su xx pl) = (own_ex xx pl) := own_law hpp
      have pre : ∀ τ, Steps p.tables e below (T11.setTop (mkF m 66 #[.val (.long q1), .second, .val (.int p2), .val (.int p3), .val (.int pl), .val (.long xx), .second, .val (.long (own_su xx pl)), .second] [(.int (1 : Int32))])) τ → G τ := fun τ κ => pre τ (by
        refine XS.ifNo X11.here hx rfl (hb hby at_58) rfl ((if0 _ _).trans (teq ((lw_eq _ _).mpr hc12)).2) ?_
        show Steps p.tables e below (T11.setTop (mkF m 61 #[.val (.long q1), .second, .val (.int p2), .val (.int p3), .val (.int pl), .val (.long xx), .second, .val (.long (own_su xx pl)), .second] [])) τ
        refine XS.iconst X11.here hx rfl (hb hby at_61) ?_
        show Steps p.tables e below (T11.setTop (mkF m 62 #[.val (.long q1), .second, .val (.int p2), .val (.int p3), .val (.int pl), .val (.long xx), .second, .val (.long (own_su xx pl)), .second] [(.int (1 : Int32))])) τ
        refine XS.goto X11.here hx rfl (pc0 := 62) (pc' := 66) rfl (hb hby at_62) (by decide) (by decide) ?_
        show Steps p.tables e below (T11.setTop (mkF m 66 #[.val (.long q1), .second, .val (.int p2), .val (.int p3), .val (.int pl), .val (.long xx), .second, .val (.long (own_su xx pl)), .second] [(.int (1 : Int32))])) τ
        exact κ)
      obtain ⟨fsα, hr, hrun, hended, hW, hsame⟩ := X11.leave (v := some (.int (1 : Int32))) (fun h => by rw [Bd.returns] at h; cases h)
      refine hGL ⟨_, _, hG _ (pre _ ?_), hrun, hended, _, _, rfl, ?_, ⟨_, rfl⟩, hW, hsame.mono (by decide) (by decide)⟩
      · exact retN X11 hx (t := .boolean) Bd.returns (by simp) (hb hby at_66) hr
      · show Q0 Z q1 p2 p3 pa sc kp ks h0 n0 _ T11.heap _
        exact ⟨rfl, NN⟩
    ·
      have pre : ∀ τ, Steps p.tables e below (s₁.setTop (mkF m 39 #[.val (.long q1), .second, .val (.int p2), .val (.int p3), .val (.int pl), .val (.long q1), .second, .unset, .unset] [])) τ → G τ := fun τ κ => pre τ (by
        refine XS.ifNo X0.here hx rfl (hb hby at_22) rfl ((if0 _ _).trans (feq hc22_9).1) ?_
        show Steps p.tables e below (s₁.setTop (mkF m 25 #[.val (.long q1), .second, .val (.int p2), .val (.int p3), .val (.int pl), .unset, .unset, .unset, .unset] [])) τ
        refine XS.lloadN X0.here hx rfl (hb hby at_25) rfl ?_
        show Steps p.tables e below (s₁.setTop (mkF m 26 #[.val (.long q1), .second, .val (.int p2), .val (.int p3), .val (.int pl), .unset, .unset, .unset, .unset] [(.long q1)])) τ
        refine XS.goto X0.here hx rfl (pc0 := 26) (pc' := 37) rfl (hb hby at_26) (by decide) (by decide) ?_
        show Steps p.tables e below (s₁.setTop (mkF m 37 #[.val (.long q1), .second, .val (.int p2), .val (.int p3), .val (.int pl), .unset, .unset, .unset, .unset] [(.long q1)])) τ
        refine XS.lstore X0.here hx rfl (hb hby at_37) rfl (l' := #[.val (.long q1), .second, .val (.int p2), .val (.int p3), .val (.int pl), .val (.long q1), .second, .unset, .unset]) rfl ?_
        show Steps p.tables e below (s₁.setTop (mkF m 39 #[.val (.long q1), .second, .val (.int p2), .val (.int p3), .val (.int pl), .val (.long q1), .second, .unset, .unset] [])) τ
        exact κ)
      obtain ⟨xx, hxx⟩ : ∃ z : Int64, z = q1 := ⟨_, rfl⟩
      have pre : ∀ τ, Steps p.tables e below (s₁.setTop (mkF m 39 #[.val (.long q1), .second, .val (.int p2), .val (.int p3), .val (.int pl), .val (.long xx), .second, .unset, .unset] [])) τ → G τ := by subst hxx; exact pre
      have pre : ∀ τ, Steps p.tables e below (s₁.setTop (mkF m 43 #[.val (.long q1), .second, .val (.int p2), .val (.int p3), .val (.int pl), .val (.long xx), .second, .unset, .unset] [(.int pl), (.long xx)])) τ → G τ := fun τ κ => pre τ (by
        refine XS.lload X0.here hx rfl (hb hby at_39) rfl ?_
        show Steps p.tables e below (s₁.setTop (mkF m 41 #[.val (.long q1), .second, .val (.int p2), .val (.int p3), .val (.int pl), .val (.long xx), .second, .unset, .unset] [(.long xx)])) τ
        refine XS.iload X0.here hx rfl (hb hby at_41) rfl ?_
        show Steps p.tables e below (s₁.setTop (mkF m 43 #[.val (.long q1), .second, .val (.int p2), .val (.int p3), .val (.int pl), .val (.long xx), .second, .unset, .unset] [(.int pl), (.long xx)])) τ
        exact κ)
      obtain ⟨_, _, ⟨T13, Lx13, kx13, nx13⟩, -, X13, ⟨Lc13, hQ13, l13, y13, z13⟩, st13⟩ := Jvm.LawKit.callS X0 hx (y := (⟨"com/example/switchpoint/switchpoint/core/Values", "scaleUp", "(JI)J"⟩ : MethodName)) hown (mvT hZ (hw _ (List.mem_of_getElem? (i := 1) rfl))) (mvT hZ (hw _ (List.mem_of_getElem? (i := 2) rfl))) (mvT hZ (hw _ (List.mem_of_getElem? (i := 3) rfl))) (mvT hZ (hw _ (List.mem_of_getElem? (i := 4) rfl))) (by decide) (backOf (W := 0) (rm1 l Z a0 hw [] xx pl pa sc kp ks h0 n0 Zn S_p S_s V_p V_s hpp) hZ (hw _ (List.mem_of_getElem? (i := 4) rfl)) (hw _ (List.mem_of_getElem? (i := 3) rfl)) (by decide) (by decide)) (g := (mkF m 43 #[.val (.long q1), .second, .val (.int p2), .val (.int p3), .val (.int pl), .val (.long xx), .second, .unset, .unset] [(.int pl), (.long xx)])) rfl (by rw [hml]; rfl) (argsL := [(.long xx), (.int pl)]) (rest := []) (lenOf pd_0 rfl) rfl (by show 2 * 0 + _ ≤ _; exact Nat.le_of_eq rfl) (hb hby at_43) (fun _ _ => ⟨rfl, e0, (by decide : 0 + 0 ≤ _), (by decide : 0 + 0 ≤ _)⟩)
      dsimp only [Pt.U, Pt.locs, Pt.cells, Pt.slots] at X13 l13 y13 z13 st13 hQ13
      replace y13 : kx13 = 0 := y13
      replace z13 : nx13 = 0 := z13
      subst y13 z13
      obtain ⟨rfl, Nq13, hs13⟩ := hQ13
      have NN : Fr n0 Lx13 := by rw [l13]; exact Fr.app N0 Nq13
      have pre : ∀ τ, Steps p.tables e below (T13.setTop (mkF m 46 #[.val (.long q1), .second, .val (.int p2), .val (.int p3), .val (.int pl), .val (.long xx), .second, .unset, .unset] [(.long (own_su xx pl))])) τ → G τ := fun τ κ => pre τ (st13 τ κ)
      have pre : ∀ τ, Steps p.tables e below (T13.setTop (mkF m 54 #[.val (.long q1), .second, .val (.int p2), .val (.int p3), .val (.int pl), .val (.long xx), .second, .val (.long (own_su xx pl)), .second] [(.int pl), (.long xx), (.long (own_su xx pl))])) τ → G τ := fun τ κ => pre τ (by
        refine XS.lstore X13.here hx rfl (hb hby at_46) rfl (l' := #[.val (.long q1), .second, .val (.int p2), .val (.int p3), .val (.int pl), .val (.long xx), .second, .val (.long (own_su xx pl)), .second]) rfl ?_
        show Steps p.tables e below (T13.setTop (mkF m 48 #[.val (.long q1), .second, .val (.int p2), .val (.int p3), .val (.int pl), .val (.long xx), .second, .val (.long (own_su xx pl)), .second] [])) τ
        refine XS.lload X13.here hx rfl (hb hby at_48) rfl ?_
        show Steps p.tables e below (T13.setTop (mkF m 50 #[.val (.long q1), .second, .val (.int p2), .val (.int p3), .val (.int pl), .val (.long xx), .second, .val (.long (own_su xx pl)), .second] [(.long (own_su xx pl))])) τ
        refine XS.lload X13.here hx rfl (hb hby at_50) rfl ?_
        show Steps p.tables e below (T13.setTop (mkF m 52 #[.val (.long q1), .second, .val (.int p2), .val (.int p3), .val (.int pl), .val (.long xx), .second, .val (.long (own_su xx pl)), .second] [(.long xx), (.long (own_su xx pl))])) τ
        refine XS.iload X13.here hx rfl (hb hby at_52) rfl ?_
        show Steps p.tables e below (T13.setTop (mkF m 54 #[.val (.long q1), .second, .val (.int p2), .val (.int p3), .val (.int pl), .val (.long xx), .second, .val (.long (own_su xx pl)), .second] [(.int pl), (.long xx), (.long (own_su xx pl))])) τ
        exact κ)
      obtain ⟨_, _, ⟨T14, Lx14, kx14, nx14⟩, -, X14, ⟨Lc14, hQ14, l14, y14, z14⟩, st14⟩ := Jvm.LawKit.callS X13 hx (y := (⟨"com/example/switchpoint/switchpoint/core/ValuesScaleUpPinLaw", "expected", "(JI)J"⟩ : MethodName)) hown (mvT hZ (hw _ (List.mem_of_getElem? (i := 9) rfl))) (mvT hZ (hw _ (List.mem_of_getElem? (i := 10) rfl))) (mvT hZ (hw _ (List.mem_of_getElem? (i := 11) rfl))) (mvT hZ (hw _ (List.mem_of_getElem? (i := 12) rfl))) (by decide) (backOf (W := 2) (rm2 l Z a0 hw [] xx pl h0 n0 Zn hpp) hZ (hw _ (List.mem_of_getElem? (i := 12) rfl)) (hw _ (List.mem_of_getElem? (i := 11) rfl)) (by decide) (by decide)) (g := (mkF m 54 #[.val (.long q1), .second, .val (.int p2), .val (.int p3), .val (.int pl), .val (.long xx), .second, .val (.long (own_su xx pl)), .second] [(.int pl), (.long xx), (.long (own_su xx pl))])) rfl (by rw [hml]; rfl) (argsL := [(.long xx), (.int pl)]) (rest := [(.long (own_su xx pl))]) (lenOf pd_0 rfl) rfl (by show 2 * 0 + _ ≤ _; exact Nat.le_of_eq rfl) (hb hby at_54) (fun _ _ => ⟨rfl, hs13, (by decide : 0 + 1 ≤ _), (by decide : 0 + 19 ≤ _)⟩)
      dsimp only [Pt.U, Pt.locs, Pt.cells, Pt.slots] at X14 l14 y14 z14 st14 hQ14
      replace y14 : kx14 = 1 := y14
      replace z14 : nx14 = 19 := z14
      subst y14 z14
      obtain ⟨rfl, Nq14, Kc14⟩ := hQ14
      have NN : Fr n0 Lx14 := by rw [l14]; exact Fr.app NN Nq14
      have S_p : Sta Z T14.heap "com/example/switchpoint/switchpoint/core/Values" "POWERS_OF_TEN" "[J" (.ref pa) := own_sta_keep S_p Kc14
      have S_s : Sta Z T14.heap "com/example/switchpoint/switchpoint/core/Values" "SCALABLE" "[J" (.ref sc) := own_sta_keep S_s Kc14
      have V_p : Arv Z T14.heap pa kp .long (19 : Int32) own_ps (.long (0 : Int64)) := V_p.keep Kc14 nin0
      have V_s : Arv Z T14.heap sc ks .long (19 : Int32) own_ss (.long (0 : Int64)) := V_s.keep Kc14 nin0
      have Zn : n0 ≤ T14.heap.size := Nat.le_trans Zn Kc14.1
      have pre : ∀ τ, Steps p.tables e below (T14.setTop (mkF m 57 #[.val (.long q1), .second, .val (.int p2), .val (.int p3), .val (.int pl), .val (.long xx), .second, .val (.long (own_su xx pl)), .second] [(.long (own_ex xx pl)), (.long (own_su xx pl))])) τ → G τ := fun τ κ => pre τ (st14 τ κ)
      have pre : ∀ τ, Steps p.tables e below (T14.setTop (mkF m 58 #[.val (.long q1), .second, .val (.int p2), .val (.int p3), .val (.int pl), .val (.long xx), .second, .val (.long (own_su xx pl)), .second] [(.int (lcmpW (own_su xx pl) (own_ex xx pl)))])) τ → G τ := fun τ κ => pre τ (by
        refine XS.lcmp X14.here hx rfl (hb hby at_57) rfl ?_
        show Steps p.tables e below (T14.setTop (mkF m 58 #[.val (.long q1), .second, .val (.int p2), .val (.int p3), .val (.int pl), .val (.long xx), .second, .val (.long (own_su xx pl)), .second] [(.int (lcmpW (own_su xx pl) (own_ex xx pl)))])) τ
        exact κ)
      have hc15 : (own_su xx pl) = (own_ex xx pl) := own_law hpp
      have pre : ∀ τ, Steps p.tables e below (T14.setTop (mkF m 66 #[.val (.long q1), .second, .val (.int p2), .val (.int p3), .val (.int pl), .val (.long xx), .second, .val (.long (own_su xx pl)), .second] [(.int (1 : Int32))])) τ → G τ := fun τ κ => pre τ (by
        refine XS.ifNo X14.here hx rfl (hb hby at_58) rfl ((if0 _ _).trans (teq ((lw_eq _ _).mpr hc15)).2) ?_
        show Steps p.tables e below (T14.setTop (mkF m 61 #[.val (.long q1), .second, .val (.int p2), .val (.int p3), .val (.int pl), .val (.long xx), .second, .val (.long (own_su xx pl)), .second] [])) τ
        refine XS.iconst X14.here hx rfl (hb hby at_61) ?_
        show Steps p.tables e below (T14.setTop (mkF m 62 #[.val (.long q1), .second, .val (.int p2), .val (.int p3), .val (.int pl), .val (.long xx), .second, .val (.long (own_su xx pl)), .second] [(.int (1 : Int32))])) τ
        refine XS.goto X14.here hx rfl (pc0 := 62) (pc' := 66) rfl (hb hby at_62) (by decide) (by decide) ?_
        show Steps p.tables e below (T14.setTop (mkF m 66 #[.val (.long q1), .second, .val (.int p2), .val (.int p3), .val (.int pl), .val (.long xx), .second, .val (.long (own_su xx pl)), .second] [(.int (1 : Int32))])) τ
        exact κ)
      obtain ⟨fsα, hr, hrun, hended, hW, hsame⟩ := X14.leave (v := some (.int (1 : Int32))) (fun h => by rw [Bd.returns] at h; cases h)
      refine hGL ⟨_, _, hG _ (pre _ ?_), hrun, hended, _, _, rfl, ?_, ⟨_, rfl⟩, hW, hsame.mono (by decide) (by decide)⟩
      · exact retN X14 hx (t := .boolean) Bd.returns (by simp) (hb hby at_66) hr
      · show Q0 Z q1 p2 p3 pa sc kp ks h0 n0 _ T14.heap _
        exact ⟨rfl, NN⟩
set_option maxRecDepth 65536 in
set_option maxHeartbeats 40000000 in
theorem comes_1 {Post : Tables → Env → Array Value → State → Outcome → State → Prop} (hpost : ∀ tb e args s v u, (limb_1_1.after args s (.returned v) u = true ∧ limb_1_2.after args s (.returned v) u = true ∧ True) → FrameEnd s (.returned v) u (Jvm.fieldLocs frame_1_writes args s ++ Jvm.arrayLocs frame_1_arrays args s ++ Jvm.staticLocs frame_1_statics s) 16 128 → Post tb e args s (.returned v) u) :
    ArmFor flags0 classFile x code maxLocals ret World_1 tables_1 room_1 Calls_1 rest_1 Pre_1 Post := by
  intro l hfl _ _ p e ha hc hk s m args below hf hA hF happ hP
  obtain ⟨hcalls, hrest, hpre⟩ := hP
  obtain ⟨-, -, -, hnamed, -, -, -, hat⟩ := (Spec.applies_iff hf).mp happ
  obtain ⟨hg, hn⟩ := and_e (Cond.before_iff.mp (show (Jvm.Cond.and given_1 narrow_1).before args s = true from hpre))
  obtain ⟨gv1, gv2⟩ := and_e hg
  obtain ⟨gv3, gv4⟩ := and_e gv2
  obtain ⟨gv5, gv6⟩ := and_e gv4
  obtain ⟨w0, w1, w2, rfl⟩ : ∃ w0 w1 w2 : Value, args = #[w0, w1, w2] := by
    have hs : args.size = 3 := by simpa [Cond.value, given_1] using gv1
    obtain ⟨L⟩ := args
    match L, hs with
    | [w0, w1, w2], _ => exact ⟨w0, w1, w2, rfl⟩
  have hw := fun d (hd : d ∈ tables_1) => atoms_spec (ws := Jvm.Cond.code x code maxLocals ret :: tables_1) hat d (List.mem_cons_of_mem _ hd)
  have hfit : Fit s := fun {y c} hc i hi => by
    obtain ⟨ha, rfl⟩ := Array.getElem?_eq_some_iff.mp hc
    have q := List.all_eq_true.mp ((Array.all_eq_true_iff_forall_mem.mp hF) _ (Array.getElem_mem ha)) i (List.mem_range.mpr hi)
    simpa [Array.getElem?_eq_getElem hi] using q
  obtain ⟨i0, ei0⟩ := isL_v gv3
  obtain rfl : w0 = (.long i0) := Option.some.inj ei0
  obtain ⟨i1, ei1⟩ := is_v gv5
  obtain rfl : w1 = (.int i1) := Option.some.inj ei1
  obtain ⟨i2, ei2⟩ := is_v gv6
  obtain rfl : w2 = (.int i2) := Option.some.inj ei2
  have hn' : narrow_1.value _ s none s [] = some true := hn
  unfold narrow_1 at hn'
  obtain ⟨nA, nr0⟩ := and_e hn'
  obtain ⟨nL, nr1⟩ := and_e nr0
  obtain ⟨nB, nr2⟩ := and_e nr1
  obtain ⟨nM, nr3⟩ := and_e nr2
  obtain ⟨np0, nr4⟩ := and_e nr3
  obtain ⟨np1, nr5⟩ := and_e nr4
  obtain ⟨np2, nr6⟩ := and_e nr5
  obtain ⟨np3, nr7⟩ := and_e nr6
  obtain ⟨np4, nr8⟩ := and_e nr7
  obtain ⟨np5, nr9⟩ := and_e nr8
  obtain ⟨np6, nr10⟩ := and_e nr9
  obtain ⟨np7, nr11⟩ := and_e nr10
  obtain ⟨np8, nr12⟩ := and_e nr11
  obtain ⟨np9, nr13⟩ := and_e nr12
  obtain ⟨np10, nr14⟩ := and_e nr13
  obtain ⟨np11, nr15⟩ := and_e nr14
  obtain ⟨np12, nr16⟩ := and_e nr15
  obtain ⟨np13, nr17⟩ := and_e nr16
  obtain ⟨np14, nr18⟩ := and_e nr17
  obtain ⟨np15, nr19⟩ := and_e nr18
  obtain ⟨np16, nr20⟩ := and_e nr19
  obtain ⟨np17, nr21⟩ := and_e nr20
  obtain ⟨np18, nr22⟩ := and_e nr21
  obtain ⟨ns0, nr23⟩ := and_e nr22
  obtain ⟨ns1, nr24⟩ := and_e nr23
  obtain ⟨ns2, nr25⟩ := and_e nr24
  obtain ⟨ns3, nr26⟩ := and_e nr25
  obtain ⟨ns4, nr27⟩ := and_e nr26
  obtain ⟨ns5, nr28⟩ := and_e nr27
  obtain ⟨ns6, nr29⟩ := and_e nr28
  obtain ⟨ns7, nr30⟩ := and_e nr29
  obtain ⟨ns8, nr31⟩ := and_e nr30
  obtain ⟨ns9, nr32⟩ := and_e nr31
  obtain ⟨ns10, nr33⟩ := and_e nr32
  obtain ⟨ns11, nr34⟩ := and_e nr33
  obtain ⟨ns12, nr35⟩ := and_e nr34
  obtain ⟨ns13, nr36⟩ := and_e nr35
  obtain ⟨ns14, nr37⟩ := and_e nr36
  obtain ⟨ns15, nr38⟩ := and_e nr37
  obtain ⟨ns16, nr39⟩ := and_e nr38
  obtain ⟨ns17, ns18⟩ := and_e nr39
  obtain ⟨pa, epa⟩ := arr_v nA
  obtain ⟨sc, esc⟩ := arr_v nB
  have S_p := Sta.start epa (Or.inr ⟨(hw _ (List.mem_of_getElem? (i := 3) rfl)), (hw _ (List.mem_of_getElem? (i := 6) rfl))⟩)
  have S_s := Sta.start esc (Or.inr ⟨(hw _ (List.mem_of_getElem? (i := 3) rfl)), (hw _ (List.mem_of_getElem? (i := 8) rfl))⟩)
  obtain ⟨clp, A⟩ := Arr.start epa nA
  obtain ⟨cls, B⟩ := Arr.start esc nB
  obtain ⟨lz, le⟩ := own_len epa A nL
  obtain ⟨mz, me⟩ := own_len esc B nM
  have V_p : Arv s s.heap pa clp.cls .long (19 : Int32) own_ps (.long (0 : Int64)) := Arv.start hfit A lz le (by decide) rfl ⟨own_el epa A (own_eqJ np0), own_el epa A (own_eqJ np1), own_el epa A (own_eqJ np2), own_el epa A (own_eqJ np3), own_el epa A (own_eqJ np4), own_el epa A (own_eqJ np5), own_el epa A (own_eqJ np6), own_el epa A (own_eqJ np7), own_el epa A (own_eqJ np8), own_el epa A (own_eqJ np9), own_el epa A (own_eqJ np10), own_el epa A (own_eqJ np11), own_el epa A (own_eqJ np12), own_el epa A (own_eqJ np13), own_el epa A (own_eqJ np14), own_el epa A (own_eqJ np15), own_el epa A (own_eqJ np16), own_el epa A (own_eqJ np17), own_el epa A (own_eqJ np18), trivial⟩
  have V_s : Arv s s.heap sc cls.cls .long (19 : Int32) own_ss (.long (0 : Int64)) := Arv.start hfit B mz me (by decide) rfl ⟨own_el esc B (own_eqJ ns0), own_el esc B (own_eqJ ns1), own_el esc B (own_eqJ ns2), own_el esc B (own_eqJ ns3), own_el esc B (own_eqJ ns4), own_el esc B (own_eqJ ns5), own_el esc B (own_eqJ ns6), own_el esc B (own_eqJ ns7), own_el esc B (own_eqJ ns8), own_el esc B (own_eqJ ns9), own_el esc B (own_eqJ ns10), own_el esc B (own_eqJ ns11), own_el esc B (own_eqJ ns12), own_el esc B (own_eqJ ns13), own_el esc B (own_eqJ ns14), own_el esc B (own_eqJ ns15), own_el esc B (own_eqJ ns16), own_el esc B (own_eqJ ns17), own_el esc B (own_eqJ ns18), trivial⟩
  obtain ⟨n, o, h1, h2, h3, _, L, rfl, ⟨rfl, N⟩, hq⟩ := rm0 l s _ hw tables_1 i0 i1 i2 pa sc clp.cls cls.cls s.heap s.heap.size (Nat.le_refl _) S_p S_s V_p V_s p e ha hc hk s m _ below hf ((Spec.applies_iff_loose hf).mp happ).1 ⟨rfl, State.Warmed39.refl s, rfl⟩ trivial
  refine ⟨n, _, h1, h2, h3, hpost _ _ _ _ _ _ ⟨Cond.after_iff.mpr rfl, Cond.after_iff.mpr (eq_i res_at (Term.int_eval (1)) rfl), trivial⟩ ⟨hq.1, hq.2.1, (hq.2.2.sift fun y hy => Or.inr (N y hy)).mono (by decide) (by decide)⟩⟩
theorem main_1_1 : Claimed_1_1 := comes_1 fun _ _ _ _ _ _ h hF => ⟨h.1, hF⟩
theorem main_1_2 : Claimed_1_2 := comes_1 fun _ _ _ _ _ _ h hF => ⟨h.2.1, hF⟩
end Jvm.Pilot.@@N@@
namespace Jvm.Pilot.@@N@@
open Jvm Jvm.ClassFile Sem Op Lib Jvm.Free Jvm.Stand Jvm.Pilot.@@N@@.Jvm.D
/-! MADE BY PROGRAM (witnessworld.py) out of the Statement's table words and the real class files: 11 classes; the members and pool entries that the words name. The judged class is class 1, her method 1. -/
namespace start1
open Jvm.ClassFile
def u (s : String) : CpInfo := .utf8 (stringToUtf16 s)
/-- a pool by its gaps: so many unusable entries, then the entry; so many at the end -/
def gap : Nat → List CpInfo → List CpInfo
  | 0, r => r
  | n + 1, r => .unusable :: gap n r
def poolList (es : List (Nat × CpInfo)) (last : Nat) : List CpInfo := es.foldr (fun e r => gap e.1 (e.2 :: r)) (gap last [])
def pool (es : List (Nat × CpInfo)) (last : Nat) : Array CpInfo := ⟨poolList es last⟩
def fileOf (pool : Array CpInfo) (this : Nat) (attrs : Array Attribute := #[]) (ms : Array MethodInfo := #[]) (fl : Nat := 33) (sup : Nat := 0) (ifs : Array Nat := #[]) (fds : Array FieldInfo := #[]) : ClassFile where
  minorVersion := 0
  majorVersion := 65
  constantPool := pool
  accessFlags := fl
  thisClass := this
  superClass := sup
  interfaces := ifs
  fields := fds
  methods := ms
  attributes := attrs
def plain (name : String) (sup : Option ClassId) : Class where
  name := name
  kind := .ordinary
  loader := none
  accessFlags := 33
  super := sup
  interfaces := #[]
  cf := none
  fields := #[]
  methods := #[]
  instanceTypes := #[]
  staticTypes := #[]
  resolved := #[]
  callSites := []
  init := .initialized
  statics := none
  mirror := none

def pool0 : Array CpInfo := pool [(5, u "<init>"), (0, u "()V"), (1, .class_ 10), (1, u "java/lang/Object")] 113

def k0m0 : Method := { name := "<init>", desc := "()V", sig := { parameters := [], returnType := none }, accessFlags := 1, code := none }
/-- java/lang/Object -/
def k0 : Class := { plain "java/lang/Object" none with
  accessFlags := 33
  interfaces := #[]
  cf := some (fileOf pool0 8 #[] #[{ accessFlags := 1, nameIndex := 5, descriptorIndex := 6, attributes := #[] }] 33 0 #[] #[])
  fields := #[]
  methods := #[k0m0]
  instanceTypes := #[]
  staticTypes := #[]
  resolved := Array.replicate 124 none
  statics := none }

def pool1 : Array CpInfo := pool [(2, .class_ 4), (1, u "java/lang/Object"), (0, u "<init>"), (0, u "()V"), (0, .integer 2147483647), (0, .methodref 9 10), (0, .class_ 11), (0, .nameAndType 12 13), (0, u "com/example/switchpoint/switchpoint/core/Values"), (0, u "scaleUp"), (0, u "(JI)J"), (0, .methodref 15 16), (0, .class_ 17), (0, .nameAndType 18 13), (0, u "com/example/switchpoint/switchpoint/core/ValuesScaleUpPinLaw"), (0, u "expected"), (2, .long 9223372036854775808), (1, .long 10), (1, .long 100), (1, .long 1000), (1, .long 10000), (1, .long 100000), (1, .long 1000000), (1, .long 10000000), (1, .long 100000000), (1, .long 1000000000), (1, .long 10000000000), (1, .long 100000000000), (1, .long 1000000000000), (1, .long 10000000000000), (1, .long 100000000000000), (1, .long 1000000000000000), (1, .long 10000000000000000), (1, .long 100000000000000000), (1, .long 1000000000000000000), (3, u "law"), (0, u "(JII)Z")] 5

def k1m0 : Method := { name := "<init>", desc := "()V", sig := { parameters := [], returnType := none }, accessFlags := 2, code := none }
def k1c1 : Code := { maxStack := 5, maxLocals := 9, code := code, exceptionTable := #[], attributes := #[] }
def k1m1 : Method := { name := "law", desc := "(JII)Z", sig := { parameters := [.long, .int, .int], returnType := some .boolean }, accessFlags := 9, code := some k1c1 }
def k1c2 : Code := { maxStack := 5, maxLocals := 8, code := method_3_code, exceptionTable := #[], attributes := #[] }
def k1m2 : Method := { name := "expected", desc := "(JI)J", sig := { parameters := [.long, .int], returnType := some .long }, accessFlags := 10, code := some k1c2 }
/-- com/example/switchpoint/switchpoint/core/ValuesScaleUpPinLaw -/
def k1 : Class := { plain "com/example/switchpoint/switchpoint/core/ValuesScaleUpPinLaw" (some 0) with
  accessFlags := 49
  interfaces := #[]
  cf := some (fileOf pool1 15 #[] #[{ accessFlags := 2, nameIndex := 5, descriptorIndex := 6, attributes := #[] }, { accessFlags := 9, nameIndex := 61, descriptorIndex := 62, attributes := #[] }, { accessFlags := 10, nameIndex := 18, descriptorIndex := 13, attributes := #[] }] 49 2 #[] #[])
  fields := #[]
  methods := #[k1m0, k1m1, k1m2]
  instanceTypes := #[]
  staticTypes := #[]
  resolved := Array.replicate 68 none
  statics := none }

def pool2 : Array CpInfo := pool [(4, .class_ 6), (1, u "java/lang/Object"), (0, u "<init>"), (0, u "()V"), (11, .class_ 22), (1, u "com/example/switchpoint/switchpoint/core/Values"), (38, u "scaleUp"), (0, u "(JI)J"), (0, .long 9223372036854775808), (4, .fieldref 20 69), (0, .nameAndType 70 71), (0, u "POWERS_OF_TEN"), (0, u "[J"), (3, .fieldref 20 76), (0, .nameAndType 77 71), (0, u "SCALABLE"), (38, u "NO_UNSCALED"), (0, u "J")] 18

def k2m0 : Method := { name := "<init>", desc := "()V", sig := { parameters := [], returnType := none }, accessFlags := 2, code := none }
def k2c1 : Code := { maxStack := 4, maxLocals := 5, code := prog_14_method_6_code, exceptionTable := #[], attributes := #[] }
def k2m1 : Method := { name := "scaleUp", desc := "(JI)J", sig := { parameters := [.long, .int], returnType := some .long }, accessFlags := 9, code := some k2c1 }
/-- com/example/switchpoint/switchpoint/core/Values -/
def k2 : Class := { plain "com/example/switchpoint/switchpoint/core/Values" (some 0) with
  accessFlags := 49
  interfaces := #[]
  cf := some (fileOf pool2 20 #[] #[{ accessFlags := 2, nameIndex := 7, descriptorIndex := 8, attributes := #[] }, { accessFlags := 9, nameIndex := 61, descriptorIndex := 62, attributes := #[] }] 49 4 #[] #[{ accessFlags := 25, nameIndex := 116, descriptorIndex := 117, attributes := #[] }, { accessFlags := 26, nameIndex := 70, descriptorIndex := 71, attributes := #[] }, { accessFlags := 26, nameIndex := 77, descriptorIndex := 71, attributes := #[] }])
  fields := #[{ name := "NO_UNSCALED", type := .long, accessFlags := 25, slot := 0, constantValue := 0 }, { name := "POWERS_OF_TEN", type := (.array .long), accessFlags := 26, slot := 1, constantValue := 0 }, { name := "SCALABLE", type := (.array .long), accessFlags := 26, slot := 2, constantValue := 0 }]
  methods := #[k2m0, k2m1]
  instanceTypes := #[]
  staticTypes := #[.long, (.array .long), (.array .long)]
  resolved := Array.replicate 136 none
  statics := some 0 }

def pool3 : Array CpInfo := pool [(1, u "java/lang/Cloneable"), (0, .class_ 1), (0, u "java/lang/Object"), (0, .class_ 3)] 3

/-- java/lang/Cloneable -/
def k3 : Class := { plain "java/lang/Cloneable" (some 0) with
  accessFlags := 1537
  interfaces := #[]
  cf := some (fileOf pool3 2 #[] #[] 1537 4 #[] #[])
  fields := #[]
  methods := #[]
  instanceTypes := #[]
  staticTypes := #[]
  resolved := Array.replicate 8 none
  statics := none }

def pool4 : Array CpInfo := pool [(1, u "java/io/Serializable"), (0, .class_ 1), (0, u "java/lang/Object"), (0, .class_ 3)] 3

/-- java/io/Serializable -/
def k4 : Class := { plain "java/io/Serializable" (some 0) with
  accessFlags := 1537
  interfaces := #[]
  cf := some (fileOf pool4 2 #[] #[] 1537 4 #[] #[])
  fields := #[]
  methods := #[]
  instanceTypes := #[]
  staticTypes := #[]
  resolved := Array.replicate 8 none
  statics := none }

/-- the primitive byte -/
def k5 : Class := { plain "byte" none with kind := .primitive 'B', accessFlags := 0x411 }
/-- [B -/
def k6 : Class := { plain "[B" (some 0) with kind := .array 5 .byte, interfaces := #[3, 4], accessFlags := 1041 }

/-- the primitive int -/
def k7 : Class := { plain "int" none with kind := .primitive 'I', accessFlags := 0x411 }
/-- [I -/
def k8 : Class := { plain "[I" (some 0) with kind := .array 7 .int, interfaces := #[3, 4], accessFlags := 1041 }

/-- the primitive long -/
def k9 : Class := { plain "long" none with kind := .primitive 'J', accessFlags := 0x411 }
/-- [J -/
def k10 : Class := { plain "[J" (some 0) with kind := .array 9 .long, interfaces := #[3, 4], accessFlags := 1041 }

def heap : Heap := #[{ cls := 2, slots := #[.long 0, .ref 1, .ref 2], vm := .statics 2 },
  { cls := 10, slots := #[.long (1), .long (10), .long (100), .long (1000), .long (10000), .long (100000), .long (1000000), .long (10000000), .long (100000000), .long (1000000000), .long (10000000000), .long (100000000000), .long (1000000000000), .long (10000000000000), .long (100000000000000), .long (1000000000000000), .long (10000000000000000), .long (100000000000000000), .long (1000000000000000000)], vm := .none },
  { cls := 10, slots := #[.long (9223372036854775807), .long (922337203685477580), .long (92233720368547758), .long (9223372036854775), .long (922337203685477), .long (92233720368547), .long (9223372036854), .long (922337203685), .long (92233720368), .long (9223372036), .long (922337203), .long (92233720), .long (9223372), .long (922337), .long (92233), .long (9223), .long (922), .long (92), .long (9)], vm := .none }]
def classes : Array Class := #[k0, k1, k2, k3, k4, k5, k6, k7, k8, k9, k10]
def interned : List (Array UInt16 × Addr) := []
def slotsUsed : Nat := 41
def theMethod : MethodId := ⟨1, 1⟩
def args0 : Array Value := #[.long 7, .int 3, .int 1]
def aboutOver (below : List Frame) : State where
  vm := { classes := classes, interned := interned.toArray }
  heap := heap
  slotsUsed := slotsUsed
  threads := #[{ frames := .invoking theMethod args0 :: below }]
def below0 : List Frame := [.native { method := ⟨0, 0⟩, args := #[] }]
def about1 : State := aboutOver below0
def p0 : Program := .bare "" "" ""
def e0 : Env := launch0.env 0 0 0
theorem w_frames : about1.frames = Frame.invoking theMethod args0 :: below0 := rfl
set_option maxRecDepth 65536 in
theorem w_args : argsFit about1.vm theMethod args0 = true := by decide +kernel
set_option maxRecDepth 65536 in
theorem w_heap : heapFits about1 = true := by decide +kernel
set_option maxRecDepth 65536 in
theorem w_runnable : about1.curStatus? = some .runnable := by decide +kernel
set_option maxRecDepth 65536 in
theorem w_alone : about1.alone = true := by decide +kernel
set_option maxRecDepth 65536 in
theorem w_named : about1.methodNamed? x = some theMethod := by decide +kernel
set_option maxRecDepth 65536 in
theorem w_hears : about1.hears theMethod below0 = true := by decide +kernel
set_option maxRecDepth 65536 in
theorem w_ripe : about1.ripe theMethod args0 below0 = true := by decide +kernel
theorem w_running : about1.status = .running := rfl
set_option maxRecDepth 65536 in
theorem w_room : about1.hasRoom e0.platform room_1 = true :=
  launch0.hasRoom_least _ room_1 (by decide +kernel) (by decide +kernel) (by decide +kernel) (by decide +kernel) (by decide +kernel) (by decide +kernel)
theorem allAtoms_all (ts : List Jvm.Cond) (a : Array Jvm.Value) (st : Jvm.State) : (allAtoms ts).before a st = ts.all (fun c => c.before a st) := by
  induction ts with
  | nil => rfl
  | cons c t ih =>
    show (Jvm.Cond.and c (allAtoms t)).before a st = _
    rw [Jvm.Cond.before_and, ih, List.all_cons]
def words1 : List Jvm.Cond := Jvm.Cond.code x code maxLocals ret :: tables_1
/-- a 'code' word, met by the world's own term for the bytes: nothing is compared byte by byte -/
theorem code_word {y : MethodName} {bytes : ByteArray} {mx : Nat} {rt : Option FieldType} {a : Array Value} {s : State} {m : MethodId} {meth : Method} {c : Code} (h1 : s.methodNamed? y = some m) (h2 : s.vm.method? m = some meth) (h3 : meth.code = some c) (h4 : c.code = bytes)
    (h5 : (c.maxLocals == mx && c.exceptionTable.isEmpty && decide (c.maxStack ≤ mostOperands) && decide (meth.sig.returnType = rt) && !meth.locks && decide (parseMethodDescriptor y.desc = some meth.sig)) = true) : (Jvm.Cond.code y bytes mx rt).before a s = true := by
  simp only [Bool.and_eq_true, beq_iff_eq, Bool.not_eq_true', decide_eq_true_eq] at h5
  obtain ⟨⟨⟨⟨⟨g1, g2⟩, g3⟩, g4⟩, g5⟩, g6⟩ := h5
  simp [Cond.before, Cond.holds, Cond.value, h1, h2, h3, h4, g1, g2, g3, g4, g5, g6]
def isCode : Jvm.Cond → Bool
  | .code _ _ _ _ => true
  | _ => false
theorem all_split {L : List Jvm.Cond} {P : Jvm.Cond → Bool} (h1 : L.all (fun c => isCode c || P c) = true) (h2 : ∀ c ∈ L.filter isCode, P c = true) : L.all P = true := by
  refine List.all_eq_true.mpr fun c hc => ?_
  have h := List.all_eq_true.mp h1 c hc
  rcases Bool.eq_false_or_eq_true (isCode c) with hi | hi
  · exact h2 c (List.mem_filter.mpr ⟨hc, hi⟩)
  · simpa [hi] using h
set_option maxRecDepth 65536 in
theorem w_c0 : (Jvm.Cond.code x code maxLocals ret).before args0 about1 = true := code_word (m := ⟨1, 1⟩) (meth := k1m1) (c := k1c1) (by decide +kernel) rfl rfl rfl (by decide +kernel)
set_option maxRecDepth 65536 in
theorem w_c1 : (Jvm.Cond.code ({ cls := "com/example/switchpoint/switchpoint/core/Values", name := "scaleUp", desc := "(JI)J" } : Jvm.MethodName) prog_14_method_6_code (5 : Nat) (Option.some Jvm.ClassFile.FieldType.long)).before args0 about1 = true := code_word (m := ⟨2, 1⟩) (meth := k2m1) (c := k2c1) (by decide +kernel) rfl rfl rfl (by decide +kernel)
set_option maxRecDepth 65536 in
theorem w_c2 : (Jvm.Cond.code ({ cls := "com/example/switchpoint/switchpoint/core/ValuesScaleUpPinLaw", name := "expected", desc := "(JI)J" } : Jvm.MethodName) method_3_code (8 : Nat) (Option.some Jvm.ClassFile.FieldType.long)).before args0 about1 = true := code_word (m := ⟨1, 2⟩) (meth := k1m2) (c := k1c2) (by decide +kernel) rfl rfl rfl (by decide +kernel)
def codes1 : List Jvm.Cond := [Jvm.Cond.code x code maxLocals ret, Jvm.Cond.code ({ cls := "com/example/switchpoint/switchpoint/core/Values", name := "scaleUp", desc := "(JI)J" } : Jvm.MethodName) prog_14_method_6_code (5 : Nat) (Option.some Jvm.ClassFile.FieldType.long), Jvm.Cond.code ({ cls := "com/example/switchpoint/switchpoint/core/ValuesScaleUpPinLaw", name := "expected", desc := "(JI)J" } : Jvm.MethodName) method_3_code (8 : Nat) (Option.some Jvm.ClassFile.FieldType.long)]
set_option maxRecDepth 65536 in
theorem codes_eq : words1.filter isCode = codes1 := rfl
theorem w_codes : ∀ c ∈ words1.filter isCode, c.before args0 about1 = true := by
  rw [codes_eq]
  intro c hc
  simp only [codes1, List.mem_cons, List.not_mem_nil, or_false] at hc
  rcases hc with rfl | rfl | rfl
  · exact w_c0
  · exact w_c1
  · exact w_c2
set_option maxRecDepth 65536 in
theorem w_t1 : (words1.take 24).all (fun c => isCode c || c.before args0 about1) = true := by decide +kernel
set_option maxRecDepth 65536 in
theorem w_t2 : (words1.drop 24).all (fun c => isCode c || c.before args0 about1) = true := by decide +kernel
theorem w_tables : (allAtoms (Jvm.Cond.code x code maxLocals ret :: tables_1)).before args0 about1 = true := by
  rw [allAtoms_all]
  show words1.all (fun c => c.before args0 about1) = true
  refine all_split ?_ w_codes
  rw [← List.take_append_drop 24 words1, List.all_append, w_t1, w_t2]
  rfl
set_option maxRecDepth 65536 in
theorem w_case : (Jvm.Cond.and given_1 narrow_1).before args0 about1 = true := by decide +kernel
theorem w_applies : (headSpec (Jvm.Cond.code x code maxLocals ret :: tables_1) room_1).applies x e0.platform about1 = true :=
  (Spec.applies_iff w_frames).mpr ⟨w_running, w_runnable, w_alone, w_named, w_hears, w_ripe, w_room, w_tables⟩
theorem atStart : AtStart classFile x code maxLocals ret World_1 tables_1 room_1 Calls_1 rest_1 Pre_1 launch0 p0 e0 about1 theMethod args0 below0 :=
  ⟨lists_1, trivial, launch0.admits_env _ _ _, launch0.least_env, fairChoices_fair.cas, fairChoices_fair.clock, w_frames, w_args, w_heap, w_applies, trivial, trivial, w_case⟩
end start1
theorem witness_1 : WitnessClaimed_1 := ⟨start1.p0, start1.e0, start1.about1, start1.theMethod, start1.args0, start1.below0, start1.atStart⟩
end Jvm.Pilot.@@N@@
