import JvmDerived
import JvmDerived.Pilot.@@N@@Statement
import JvmDerived.Pilot.@@N@@Code
set_option linter.unusedVariables false
set_option linter.unusedSimpArgs false
namespace Jvm.Pilot.@@N@@
open Jvm Jvm.ClassFile Sem Op Lib Jvm.Free Jvm.Stand Jvm.LawKit Jvm.RoadKit Bundle Jvm.Pilot.@@N@@.Jvm.D
theorem own_wrap {A : Prop} (h : ∀ GL : Prop, (A → GL) → GL) : A := h A id
abbrev own_SN : String := "java/lang/String"
def own_S (Z : State) (h : Heap) (v : Value) (o : Option (List Value)) : Prop :=
  (v = .null ∧ o = none) ∨ ∃ (a b : Addr) (k : ClassId) (z : Int32) (vs : List Value) (a0 : Array Value), v = .ref a ∧ o = some vs ∧ (Jvm.Cond.instantiable "java/lang/String" 4).before a0 Z = true ∧ Exa Z h a "java/lang/String" ∧ Fld Z h a "java/lang/String" "coder" "B" (.int (0 : Int32)) ∧ Fld Z h a "java/lang/String" "value" "[B" (.ref b) ∧ Arv Z h b k .byte z vs (.int (0 : Int32)) ∧ z.toNatClampNeg = vs.length
def own_ns (Z : State) (h : Heap) (x : Addr) : Prop :=
  (∃ (C : String) (n : Nat) (a0 : Array Value), Exa Z h x C ∧ C ≠ "java/lang/String" ∧ C ≠ "[B" ∧ (Jvm.Cond.instantiable C n).before a0 Z = true) ∨ ∃ (c : Cell) (ty : FieldType), Arr Z h x c ty ∧ ty ≠ .byte
theorem own_arr_ne {Z : State} {h : Heap} {a b : Addr} {c d : Cell} {t u : FieldType} (A : Arr Z h a c t) (B : Arr Z h b d u) (q : t ≠ u) : a ≠ b := by
  intro e
  subst e
  obtain ⟨a1, a2, -⟩ := A
  obtain ⟨b1, b2, -⟩ := B
  have e := Option.some.inj (a1.symm.trans b1)
  subst e
  obtain ⟨-, m, n, cp, o⟩ := a2
  obtain ⟨-, m', n', cp', o'⟩ := b2
  cases Option.some.inj (n.symm.trans n')
  rw [o] at o'
  injection o' with _ h2
  exact q h2
theorem own_ns_ne {Z : State} {h : Heap} {x a b : Addr} {k : ClassId} {z : Int32} {vs : List Value} {dv : Value} {a0 : Array Value} (N : own_ns Z h x) (w : (Jvm.Cond.instantiable "java/lang/String" 4).before a0 Z = true) (E : Exa Z h a "java/lang/String") (B : Arv Z h b k .byte z vs dv) : a ≠ x ∧ b ≠ x := by
  rcases N with ⟨C, n, a1, Ex, h1, h2, wi⟩ | ⟨c, ty, A, ht⟩
  · exact ⟨fun q => Exa.ne Ex E h1 q.symm, fun q => Exa.neArv Ex B wi q.symm⟩
  · obtain ⟨cb, Ab, -⟩ := B
    exact ⟨ne_arr E w A, own_arr_ne Ab A (Ne.symm ht)⟩
theorem own_S_ext {Z : State} {h h' : Heap} {v : Value} {o : Option (List Value)} (F : own_S Z h v o) (E : Ext h h') : own_S Z h' v o := by
  rcases F with F | ⟨a, b, k, z, vs, a0, e1, e2, w, f1, f2, f3, f4, f5⟩
  · exact Or.inl F
  · exact Or.inr ⟨a, b, k, z, vs, a0, e1, e2, w, f1.ext E, f2.ext E, f3.ext E, f4.ext E, f5⟩
theorem own_S_wr {Z : State} {h h' : Heap} {v w : Value} {x : Addr} {sl : Nat} {o : Option (List Value)} (F : own_S Z h v o) (W : Wr h h' x sl w) (N : own_ns Z h x) : own_S Z h' v o := by
  rcases F with F | ⟨a, b, k, z, vs, a0, e1, e2, wi, f1, f2, f3, f4, f5⟩
  · exact Or.inl F
  · obtain ⟨n1, n2⟩ := own_ns_ne N wi f1 f4
    exact Or.inr ⟨a, b, k, z, vs, a0, e1, e2, wi, f1.wr W, f2.other W (Or.inl n1), f3.other W (Or.inl n1), f4.other W n2, f5⟩
theorem own_S_keep {Z : State} {h h' : Heap} {v : Value} {ws : List Addr} {o : Option (List Value)} (F : own_S Z h v o) (K : Keep h h' ws) (N : ∀ x ∈ ws, own_ns Z h x) : own_S Z h' v o := by
  rcases F with F | ⟨a, b, k, z, vs, a0, e1, e2, wi, f1, f2, f3, f4, f5⟩
  · exact Or.inl F
  · have n1 : a ∉ ws := fun q => (own_ns_ne (N a q) wi f1 f4).1 rfl
    have n2 : b ∉ ws := fun q => (own_ns_ne (N b q) wi f1 f4).2 rfl
    exact Or.inr ⟨a, b, k, z, vs, a0, e1, e2, wi, f1.keep K, f2.keep K n1, f3.keep K n1, f4.keep K n2, f5⟩
theorem own_ns_keep {Z : State} {h h' : Heap} {x : Addr} {ws : List Addr} (N : own_ns Z h x) (K : Keep h h' ws) : own_ns Z h' x := by
  rcases N with ⟨C, n, a1, Ex, r⟩ | ⟨c, ty, A, ht⟩
  · exact Or.inl ⟨C, n, a1, Ex.keep K, r⟩
  · obtain ⟨c', e1, e2, e3, e4⟩ := K.2.2 x c A.1
    refine Or.inr ⟨c', ty, ⟨e1, ?_, by rw [e3]; exact A.2.2⟩, ht⟩
    obtain ⟨k, m, n, o⟩ := A.2.1
    exact ⟨by rw [e3]; exact k, m, by rw [e2]; exact n, o⟩
def own_SL (Z : State) (h : Heap) (vs : List Value) (os : List (Option (List Value))) : Prop := vs.length = os.length ∧ ∀ i, own_S Z h (vs.getD i .null) (os.getD i none)
theorem own_SL_ext {Z : State} {h h' : Heap} {vs : List Value} {os : List (Option (List Value))} (F : own_SL Z h vs os) (E : Ext h h') : own_SL Z h' vs os := ⟨F.1, fun i => own_S_ext (F.2 i) E⟩
theorem own_SL_wr {Z : State} {h h' : Heap} {x : Addr} {sl : Nat} {w : Value} {vs : List Value} {os : List (Option (List Value))} (F : own_SL Z h vs os) (W : Wr h h' x sl w) (N : own_ns Z h x) : own_SL Z h' vs os := ⟨F.1, fun i => own_S_wr (F.2 i) W N⟩
theorem own_SL_keep {Z : State} {h h' : Heap} {ws : List Addr} {vs : List Value} {os : List (Option (List Value))} (F : own_SL Z h vs os) (K : Keep h h' ws) (N : ∀ x ∈ ws, own_ns Z h x) : own_SL Z h' vs os := ⟨F.1, fun i => own_S_keep (F.2 i) K N⟩
theorem own_SL_set {Z : State} {h : Heap} {vs : List Value} {os : List (Option (List Value))} {v : Value} {o : Option (List Value)} (F : own_SL Z h vs os) (G : own_S Z h v o) (j : Nat) : own_SL Z h (vs.set j v) (os.set j o) := by
  refine ⟨by rw [List.length_set, List.length_set]; exact F.1, fun i => ?_⟩
  have q := F.2 i
  have e := F.1
  by_cases c : j = i
  · subst c
    by_cases d : j < vs.length
    · have d' : j < os.length := by omega
      simp [List.getD, d, d']; exact G
    · have d' : ¬ j < os.length := by omega
      simp [List.getD, List.getElem?_set, d, d'] at q ⊢; exact Or.inl ⟨rfl, rfl⟩
  · simp [List.getD, List.getElem?_set, c] at q ⊢; exact q
theorem own_SL_rep {Z : State} {h : Heap} (n : Nat) : own_SL Z h (List.replicate n .null) (List.replicate n none) := by
  refine ⟨by simp, fun i => Or.inl ?_⟩
  by_cases c : i < n <;> simp [List.getD, List.getElem?_replicate, c]
theorem own_safe {Z : State} {EL : List (String × Nat)} {vm : Vm} {h : Heap} {x : Addr} (hal : Z.vm.Alike vm) (N : own_ns Z h x) : Safe Z EL vm h x := by
  rcases N with ⟨C, n, a1, Ex, h1, h2, -⟩ | ⟨c, ty, A, ht⟩
  · exact Safe.exa hal Ex h1 h2
  · exact Safe.arr hal A ht
theorem own_nsE {Z : State} {h : Heap} {x : Addr} {C : String} {n : Nat} {a0 : Array Value} (E : Exa Z h x C) (w : (Jvm.Cond.instantiable C n).before a0 Z = true) (h1 : C ≠ "java/lang/String") (h2 : C ≠ "[B") : own_ns Z h x := Or.inl ⟨C, n, a0, E, h1, h2, w⟩
theorem own_nsV {Z : State} {h : Heap} {x : Addr} {k : ClassId} {ty : FieldType} {z : Int32} {vs : List Value} {d : Value} (V : Arv Z h x k ty z vs d) (ht : ty ≠ .byte) : own_ns Z h x := by
  obtain ⟨c, A, -⟩ := V
  exact Or.inr ⟨c, ty, A, ht⟩
theorem own_S_ref {Z : State} {h : Heap} {v : Value} {o : Option (List Value)} (F : own_S Z h v o) : v.isRef = true := by
  rcases F with ⟨rfl, -⟩ | ⟨a, b, k, z, vs, a0, rfl, -⟩ <;> rfl
theorem own_S_sto {Z : State} {h : Heap} {v : Value} {o : Option (List Value)} {x : Addr} {c : Cell} {k : ClassId} {ty : FieldType} (F : own_S Z h v o) (A : Arr Z h x c ty) (q : c.cls = k) (O : Ovr Z k "java/lang/String") : Sto Z h x v := by
  rcases F with ⟨rfl, -⟩ | ⟨a, b, k', z, vs, a0, rfl, -, -, E, -⟩
  · exact Or.inl rfl
  · exact Sto.ofV A q O (Ins.self E)
theorem own_cat {v : Value} (h : v.isRef = true) : v.category = 1 := by cases v <;> first | rfl | (simp [Value.isRef] at h)
theorem own_S_exa {Z : State} {h : Heap} {a : Addr} {o : Option (List Value)} (F : own_S Z h (.ref a) o) : Exa Z h a "java/lang/String" := by
  rcases F with ⟨q, -⟩ | ⟨a', b, k, z, vs, a0, q, -, -, E, -⟩
  · cases q
  · cases q; exact E
theorem own_S_fit {Z : State} {h : Heap} {v : Value} {o : Option (List Value)} {C : String} (F : own_S Z h v o) : fits (.object C) v = true := by
  rcases F with ⟨rfl, -⟩ | ⟨a, b, k, z, vs, a0, rfl, -⟩ <;> rfl
theorem own_selfp {s : State} {args : Array Value} {y : MethodName} {n : Nat} (wi : (Jvm.Cond.instantiable y.cls n).before args s = true) (hpriv : s.PrivateAt y) (hinst : (Jvm.Cond.instanceMethod y).before args s = true) (hy : y.cls ≠ "java/lang/invoke/MethodHandle" ∧ y.cls ≠ "java/lang/invoke/VarHandle") : (Jvm.Cond.selects y.cls y y).before args s = true := by
  obtain ⟨c, k, hc, hk, h1, h2, h3⟩ := Cond.instantiable_spec wi
  refine selects_self_of_private hc hk ?_ hpriv hinst hy
  simp_all [Class.isInterface]
theorem own_sta_keepN {Z : State} {h h' : Heap} {C n d : String} {v : Value} {ws : List Addr} (F : Sta Z h C n d v) (K : Keep h h' ws) (N : ∀ x ∈ ws, own_ns Z h x) : Sta Z h' C n d v := by
  obtain ⟨cf, i, k, f, st, cell, h1, h2, h3, h4, h5, h6, h7⟩ := F
  refine ⟨cf, i, k, f, st, cell, h1, h2, h3, h4, K.2.1 st cell h5 ?_, h6, h7⟩
  intro q
  rcases N st q with ⟨C, n, a1, ⟨c, k', e1, -, -, e2, -⟩, -⟩ | ⟨c, ty, ⟨e1, ⟨e2, -⟩, -⟩, -⟩
  · cases Option.some.inj (h5.symm.trans e1)
    rw [h6] at e2; cases e2
  · cases Option.some.inj (h5.symm.trans e1)
    cases hv : cell.vm <;> simp [hv, VmData.isStatics] at h6
    exact e2 _ hv
def own_at (vs : List Value) (j : Int32) : Int32 := match vs.getD j.toNatClampNeg (.int (0 : Int32)) with | .int x => x | _ => 0
theorem own_nat {j : Int32} (h : 0 ≤ j.toInt) : (j.toNatClampNeg : Int) = j.toInt := by
  refine (nat_of ?_).symm
  rw [Int32.lt_iff_toInt_lt]
  have k : (0 : Int32).toInt = 0 := by decide
  omega
theorem own_ge {j : Int32} (h : ¬ j < 0) : 0 ≤ j.toInt := by
  rw [Int32.lt_iff_toInt_lt] at h; have k : (0 : Int32).toInt = 0 := by decide
  omega
theorem own_ib {j z : Int32} (h : 0 ≤ j.toInt) (h2 : j.toInt < z.toInt) : ¬ j < 0 ∧ j < z := by
  rw [Int32.lt_iff_toInt_lt, Int32.lt_iff_toInt_lt]; have k : (0 : Int32).toInt = 0 := by decide
  omega
theorem own_getB {c : Cell} {vs : List Value} {j : Int32} (H : Has c vs (.int (0 : Int32))) (G : ∀ i, i < c.slots.size → fits .byte (vs.getD i (.int (0 : Int32))) = true) (q : ¬ (j < 0 ∨ c.slots.size ≤ j.toNatClampNeg)) : c.slots[j.toNatClampNeg]? = some (.int (own_at vs j)) := by
  have hlt : j.toNatClampNeg < c.slots.size := Nat.lt_of_not_le fun y => q (Or.inr y)
  obtain ⟨x, hx⟩ := fit_I (G _ hlt) (Or.inr (Or.inr (Or.inl rfl)))
  rw [H _ hlt, hx]
  unfold own_at
  rw [hx]
theorem own_getI {c : Cell} {vs : List Value} {j : Int32} (H : Has c vs (.int (0 : Int32))) (G : ∀ i, i < c.slots.size → fits .int (vs.getD i (.int (0 : Int32))) = true) (q : ¬ (j < 0 ∨ c.slots.size ≤ j.toNatClampNeg)) : c.slots[j.toNatClampNeg]? = some (.int (own_at vs j)) := by
  have hlt : j.toNatClampNeg < c.slots.size := Nat.lt_of_not_le fun y => q (Or.inr y)
  obtain ⟨x, hx⟩ := fit_I (G _ hlt) (Or.inl rfl)
  rw [H _ hlt, hx]
  unfold own_at
  rw [hx]
theorem own_gd {Z : State} {h : Heap} {a : Addr} {k : ClassId} {z i : Int32} {vs : List Value} (V : Arv Z h a k .byte z vs (.int (0 : Int32))) (hk : ¬ i < 0 ∧ i < z) : vs.getD i.toNatClampNeg (.int (0 : Int32)) = .int (own_at vs i) := by
  obtain ⟨c, A, q, S, N, H, G⟩ := V
  have hin := inb_of S hk
  have hlt : i.toNatClampNeg < c.slots.size := Nat.lt_of_not_le fun y => hin (Or.inr y)
  have e := own_getB H G hin
  rw [H _ hlt] at e
  exact Option.some.inj e
def own_eqb (u v : List Value) : Int32 := if u = v then 1 else 0
theorem own_leq {u v : List Value} (hl : u.length = v.length) (h : ∀ j, j < u.length → u.getD j (.int (0 : Int32)) = v.getD j (.int (0 : Int32))) : u = v := by
  apply List.ext_getElem hl
  intro j h1 h2
  have q := h j h1
  simp only [List.getD, List.getElem?_eq_getElem h1, List.getElem?_eq_getElem h2, Option.getD_some] at q
  exact q
theorem own_nlen {zx zy : Int32} {u v : List Value} (h1 : zx.toNatClampNeg = u.length) (h2 : zy.toNatClampNeg = v.length) (n1 : ¬ zx < 0) (n2 : ¬ zy < 0) (h : ¬ zx = zy) : ¬ u = v := by
  intro q; apply h; apply Int32.toInt_inj.mp
  rw [← own_nat (own_ge n1), ← own_nat (own_ge n2), h1, h2, q]
theorem own_arvn {Z : State} {h : Heap} {a : Addr} {k : ClassId} {ty : FieldType} {z : Int32} {vs : List Value} {d : Value} (V : Arv Z h a k ty z vs d) : ¬ z < 0 := by
  obtain ⟨c, A, q, S, N, -⟩ := V; exact N
theorem own_l0 {z : Int32} (h : ¬ z < 0) : (0 : Int32).toInt + ((z.toInt.toNat : Nat) : Int) = z.toInt := by
  have k : (0 : Int32).toInt = 0 := by decide
  have := own_ge h; omega
theorem own_i1 {i z : Int32} {n : Nat} (h0 : 0 ≤ i.toInt) (hn : i.toInt + ((n + 1 : Nat) : Int) = z.toInt) : (i + (1 : Int32)).toInt = i.toInt + 1 := by
  have h1 := c_iadd i 1; have k : (1 : Int32).toInt = 1 := by decide
  have r := rng32 (i + 1); have r2 := rng32 z; omega
theorem own_l1 {i z : Int32} {n : Nat} (h0 : 0 ≤ i.toInt) (hn : i.toInt + ((n + 1 : Nat) : Int) = z.toInt) : (i + (1 : Int32)).toInt + (n : Int) = z.toInt := by
  rw [own_i1 h0 hn]; omega
theorem own_l2 {i z : Int32} {n : Nat} (h0 : 0 ≤ i.toInt) (hn : i.toInt + ((n + 1 : Nat) : Int) = z.toInt) : 0 ≤ (i + (1 : Int32)).toInt := by
  rw [own_i1 h0 hn]; omega
theorem own_lz {i z : Int32} (hn : i.toInt + ((0 : Nat) : Int) = z.toInt) : ¬ i < z := by
  rw [Int32.lt_iff_toInt_lt]; omega
theorem own_ls {i z : Int32} {n : Nat} (hn : i.toInt + ((n + 1 : Nat) : Int) = z.toInt) : i < z := by
  rw [Int32.lt_iff_toInt_lt]; omega
theorem own_lb {i z : Int32} {n : Nat} (h0 : 0 ≤ i.toInt) (hn : i.toInt + ((n + 1 : Nat) : Int) = z.toInt) : ¬ i < 0 ∧ i < z := own_ib h0 (by omega)
theorem own_heq {i z : Int32} {n : Nat} {u v : List Value} (h0 : 0 ≤ i.toInt) (hn : i.toInt + ((n + 1 : Nat) : Int) = z.toInt) (h : ∀ j, j < i.toNatClampNeg → u.getD j (.int (0 : Int32)) = v.getD j (.int (0 : Int32))) (e1 : u.getD i.toNatClampNeg (.int (0 : Int32)) = .int (own_at u i)) (e2 : v.getD i.toNatClampNeg (.int (0 : Int32)) = .int (own_at v i)) (e : own_at u i = own_at v i) : ∀ j, j < (i + (1 : Int32)).toNatClampNeg → u.getD j (.int (0 : Int32)) = v.getD j (.int (0 : Int32)) := by
  intro j hj
  have a := own_nat h0
  have b := own_nat (own_l2 h0 hn)
  rw [own_i1 h0 hn] at b
  by_cases q : j = i.toNatClampNeg
  · rw [q, e1, e2, e]
  · exact h j (by omega)
theorem own_fineq {i zx zy : Int32} {u v : List Value} (h1 : zx.toNatClampNeg = u.length) (h2 : zy.toNatClampNeg = v.length) (hz : zx = zy) (h0 : 0 ≤ i.toInt) (hn : i.toInt + ((0 : Nat) : Int) = zx.toInt) (h : ∀ j, j < i.toNatClampNeg → u.getD j (.int (0 : Int32)) = v.getD j (.int (0 : Int32))) : u = v := by
  have e : i = zx := Int32.toInt_inj.mp (by omega)
  refine own_leq (by rw [← h1, ← h2, hz]) fun j hj => h j ?_
  rw [e, h1]; exact hj
def own_eqt (t : List Value) (o : Option (List Value)) : Int32 := if o = some t then 1 else 0
theorem own_S_fun {Z : State} {h : Heap} {a : Addr} {t u : List Value} (F : own_S Z h (.ref a) (some t)) (G : own_S Z h (.ref a) (some u)) : t = u := by
  rcases F with ⟨q, -⟩ | ⟨a1, b1, k1, z1, v1, x1, q1, o1, -, E1, -, V1, B1, l1⟩
  · cases q
  rcases G with ⟨q, -⟩ | ⟨a2, b2, k2, z2, v2, x2, q2, o2, -, E2, -, V2, B2, l2⟩
  · cases q
  cases q1; cases q2; cases o1; cases o2
  have hb : b1 = b2 := by
    by_cases q : b1 = b2
    · exact q
    · exact absurd rfl (Fld.ne V1 V2 (fun y => q (Value.ref.inj y)))
  subst hb
  obtain ⟨c1, A1, -, S1, N1, H1, -⟩ := B1
  obtain ⟨c2, A2, -, S2, N2, H2, -⟩ := B2
  have hc : c1 = c2 := Option.some.inj (A1.1.symm.trans A2.1)
  subst hc
  refine own_leq (by rw [← l1, ← l2, ← S1, ← S2]) fun j hj => ?_
  have hj' : j < c1.slots.size := by rw [S1, l1]; exact hj
  exact Option.some.inj ((H1 j hj').symm.trans (H2 j hj'))
abbrev own_T : Type := Option (List Value)
abbrev own_ST : Type := List own_T × List Value × List own_T × Int32
def own_bd (s : own_ST) (i : Int32) (o : own_T) : own_ST := (s.1.set (i).toNatClampNeg o, s.2.1.set (s.2.2.2).toNatClampNeg (.int i), s.2.2.1.set (s.2.2.2).toNatClampNeg (s.1.getD (i).toNatClampNeg none), s.2.2.2 + (1 : Int32))
def own_dl (t : List Value) (ix : Int32) : Nat → Int32 → own_ST → own_ST
  | 0, _, s => s
  | n + 1, i, s => own_dl t ix n (i + (1 : Int32)) (if ¬ i = ix ∧ ¬ own_eqt t (s.1.getD (i).toNatClampNeg none) = (0 : Int32) then own_bd s i none else s)
def own_de (t : List Value) (ix nz : Int32) (s : own_ST) : own_ST := own_bd (own_dl t ix nz.toInt.toNat (0 : Int32) s) ix (some t)
theorem own_dlT {t : List Value} {ix i : Int32} {n : Nat} {s : own_ST} (h1 : ¬ i = ix) (h2 : ¬ own_eqt t (s.1.getD (i).toNatClampNeg none) = (0 : Int32)) : own_dl t ix n (i + (1 : Int32)) (own_bd s i none) = own_dl t ix (n + 1) i s := by
  show _ = own_dl t ix n (i + (1 : Int32)) (if _ then _ else _)
  rw [if_pos ⟨h1, h2⟩]
theorem own_dlF {t : List Value} {ix i : Int32} {n : Nat} {s : own_ST} (h : ¬ (¬ i = ix ∧ ¬ own_eqt t (s.1.getD (i).toNatClampNeg none) = (0 : Int32))) : own_dl t ix n (i + (1 : Int32)) s = own_dl t ix (n + 1) i s := by
  show _ = own_dl t ix n (i + (1 : Int32)) (if _ then _ else _)
  rw [if_neg h]
theorem own_lt2 {k z : Int32} {n : Nat} (hk : ¬ k < 0 ∧ k < z) (hf : n = z.toNatClampNeg) : k.toNatClampNeg < n := by
  have h1 := own_ge hk.1; have h2 := hk.2; rw [Int32.lt_iff_toInt_lt] at h2
  have a := own_nat h1; have b := own_nat (j := z) (by omega); omega
theorem own_u16 {uc : Int32} (h : 0 ≤ uc.toInt ∧ uc.toInt < 16) : ¬ uc < 0 ∧ uc < (16 : Int32) := by
  have k : (16 : Int32).toInt = 16 := by decide
  exact own_ib h.1 (by omega)
theorem own_n16 {uc : Int32} (h : 0 ≤ uc.toInt ∧ uc.toInt < 16) : ¬ uc = (16 : Int32) := by
  intro q; subst q; have k : (16 : Int32).toInt = 16 := by decide
  omega
theorem own_k16 : (16 : Nat) = (16 : Int32).toNatClampNeg := by decide
theorem own_allnull {i z : Int32} {ls : List Value} (hl : ls.length = z.toNatClampNeg) (h0 : 0 ≤ i.toInt) (hn : i.toInt + ((0 : Nat) : Int) = z.toInt) (h : ∀ j, j < i.toNatClampNeg → ls.getD j .null = .null) : ls = List.replicate z.toNatClampNeg .null := by
  have e : i = z := Int32.toInt_inj.mp (by omega)
  apply List.ext_getElem (by rw [hl, List.length_replicate])
  intro j h1 h2
  have q := h j (by rw [e, ← hl]; exact h1)
  simp only [List.getD, List.getElem?_eq_getElem h1, Option.getD_some] at q
  rw [q, List.getElem_replicate]
theorem own_nulls {i z : Int32} {n : Nat} {ls : List Value} (hl : ls.length = z.toNatClampNeg) (h0 : 0 ≤ i.toInt) (hn : i.toInt + ((n + 1 : Nat) : Int) = z.toInt) (h : ∀ j, j < i.toNatClampNeg → ls.getD j .null = .null) : ∀ j, j < (i + (1 : Int32)).toNatClampNeg → (ls.set (i).toNatClampNeg .null).getD j .null = .null := by
  intro j hj
  have a := own_nat h0
  have b := own_nat (own_l2 h0 hn)
  rw [own_i1 h0 hn] at b
  by_cases q : i.toNatClampNeg = j
  · subst q
    by_cases d : i.toNatClampNeg < ls.length
    · simp [List.getD, d]
    · simp [List.getD, List.getElem?_set, d]
  · have := h j (by omega)
    simp [List.getD, List.getElem?_set, q] at this ⊢; exact this
theorem own_ub {uc i nz : Int32} {n : Nat} {b : Int} (hb : b + nz.toInt < 16) (h0 : 0 ≤ i.toInt) (hn : i.toInt + ((n + 1 : Nat) : Int) = nz.toInt) (h : 0 ≤ uc.toInt ∧ uc.toInt ≤ b + i.toInt) : 0 ≤ uc.toInt ∧ uc.toInt < 16 := by omega
theorem own_up1 {uc : Int32} (h : 0 ≤ uc.toInt ∧ uc.toInt < 16) : (uc + (1 : Int32)).toInt = uc.toInt + 1 := by
  have h1 := c_iadd uc 1; have k : (1 : Int32).toInt = 1 := by decide
  have r := rng32 (uc + 1); omega
theorem own_hub {uc i nz : Int32} {n : Nat} {b : Int} (hb : b + nz.toInt < 16) (h0 : 0 ≤ i.toInt) (hn : i.toInt + ((n + 1 : Nat) : Int) = nz.toInt) (h : 0 ≤ uc.toInt ∧ uc.toInt ≤ b + i.toInt) : 0 ≤ (uc + (1 : Int32)).toInt ∧ (uc + (1 : Int32)).toInt ≤ b + (i + (1 : Int32)).toInt := by
  rw [own_up1 (own_ub hb h0 hn h), own_i1 h0 hn]; omega
theorem own_hub0 {uc i nz : Int32} {n : Nat} {b : Int} (h0 : 0 ≤ i.toInt) (hn : i.toInt + ((n + 1 : Nat) : Int) = nz.toInt) (h : 0 ≤ uc.toInt ∧ uc.toInt ≤ b + i.toInt) : 0 ≤ uc.toInt ∧ uc.toInt ≤ b + (i + (1 : Int32)).toInt := by
  rw [own_i1 h0 hn]; omega
theorem own_hub00 {uc : Int32} {b : Int} (h : 0 ≤ uc.toInt ∧ uc.toInt ≤ b) : 0 ≤ uc.toInt ∧ uc.toInt ≤ b + (0 : Int32).toInt := by
  have k : (0 : Int32).toInt = 0 := by decide
  omega
theorem own_ubz {uc i nz : Int32} {b : Int} (hb : b + nz.toInt < 16) (hz : ¬ nz < 0) (hn : i.toInt + ((0 : Nat) : Int) = nz.toInt) (h : 0 ≤ uc.toInt ∧ uc.toInt ≤ b + i.toInt) : 0 ≤ uc.toInt ∧ uc.toInt < 16 := by omega
def own_rs (us : List Value) : Nat → Int32 → List own_T × List own_T → List own_T × List own_T
  | 0, _, s => s
  | n + 1, u, s => own_rs us n (u - (1 : Int32)) (s.1.set (own_at us (u - (1 : Int32))).toNatClampNeg (s.2.getD (u - (1 : Int32)).toNatClampNeg none), s.2.set (u - (1 : Int32)).toNatClampNeg none)
theorem own_m1 {u t : Int32} {n : Nat} (h0 : 0 ≤ t.toInt) (hn : t.toInt + ((n + 1 : Nat) : Int) = u.toInt) : (u - (1 : Int32)).toInt = u.toInt - 1 := by
  have h1 := c_isub u 1; have k : (1 : Int32).toInt = 1 := by decide
  have r := rng32 u; have r2 := rng32 (u - 1); omega
theorem own_rn {u t : Int32} {n : Nat} (h0 : 0 ≤ t.toInt) (hn : t.toInt + ((n + 1 : Nat) : Int) = u.toInt) : t.toInt + (n : Int) = (u - (1 : Int32)).toInt := by
  rw [own_m1 h0 hn]; omega
theorem own_rle {u t w : Int32} {n : Nat} (h0 : 0 ≤ t.toInt) (hn : t.toInt + ((n + 1 : Nat) : Int) = u.toInt) (h : u.toInt ≤ w.toInt) : (u - (1 : Int32)).toInt ≤ w.toInt := by
  rw [own_m1 h0 hn]; omega
theorem own_r16 {u t w : Int32} {n : Nat} (h0 : 0 ≤ t.toInt) (hn : t.toInt + ((n + 1 : Nat) : Int) = u.toInt) (h : u.toInt ≤ w.toInt) (hw : w.toInt ≤ 16) : ¬ (u - (1 : Int32)) < 0 ∧ (u - (1 : Int32)) < (16 : Int32) := by
  have k : (16 : Int32).toInt = 16 := by decide
  have e := own_m1 h0 hn
  exact own_ib (by omega) (by omega)
theorem own_rz {u t : Int32} (hn : t.toInt + ((0 : Nat) : Int) = u.toInt) : ¬ t < u := by
  rw [Int32.lt_iff_toInt_lt]; omega
theorem own_rS {u t : Int32} {n : Nat} (hn : t.toInt + ((n + 1 : Nat) : Int) = u.toInt) : t < u := by
  rw [Int32.lt_iff_toInt_lt]; omega
theorem own_rj {us : List Value} {u t w nz : Int32} {n : Nat} (hm : ∀ j : Int32, 0 ≤ j.toInt → j.toInt < w.toInt → ¬ own_at us j < 0 ∧ own_at us j < nz) (h0 : 0 ≤ t.toInt) (hn : t.toInt + ((n + 1 : Nat) : Int) = u.toInt) (h : u.toInt ≤ w.toInt) : ¬ own_at us (u - (1 : Int32)) < 0 ∧ own_at us (u - (1 : Int32)) < nz := by
  have e := own_m1 h0 hn
  exact hm _ (by omega) (by omega)
theorem own_re {u t : Int32} (hn : t.toInt + ((0 : Nat) : Int) = u.toInt) : u = t := Int32.toInt_inj.mp (by omega)
theorem own_rst {u t : Int32} (h : t.toInt ≤ u.toInt) : t.toInt + (((u.toInt - t.toInt).toNat : Nat) : Int) = u.toInt := by omega
def own_n1 (t : List Value) (ix k : Int32) (os : List own_T) : List own_T := if ¬ ix = k ∧ ¬ own_eqt t (os.getD (k).toNatClampNeg none) = (0 : Int32) then os.set (k).toNatClampNeg none else os
def own_ds (t : List Value) (ix : Int32) (os : List own_T) : List own_T := (own_n1 t ix (2 : Int32) (own_n1 t ix (1 : Int32) (own_n1 t ix (0 : Int32) os))).set (ix).toNatClampNeg (some t)
theorem own_n1T {t : List Value} {ix k : Int32} {os : List own_T} (h1 : ¬ ix = k) (h2 : ¬ own_eqt t (os.getD (k).toNatClampNeg none) = (0 : Int32)) : own_n1 t ix k os = os.set (k).toNatClampNeg none := by unfold own_n1; rw [if_pos ⟨h1, h2⟩]
theorem own_n1a {t : List Value} {ix k : Int32} {os : List own_T} (h1 : ix = k) : own_n1 t ix k os = os := by unfold own_n1; rw [if_neg (fun q => q.1 h1)]
theorem own_n1b {t : List Value} {ix k : Int32} {os : List own_T} (h2 : own_eqt t (os.getD (k).toNatClampNeg none) = (0 : Int32)) : own_n1 t ix k os = os := by unfold own_n1; rw [if_neg (fun q => q.2 h2)]
def own_eqo (a b : own_T) : Int32 := if a = b then 1 else 0
theorem own_eqts {t : List Value} {o : own_T} : own_eqt t o = own_eqo (some t) o := by
  unfold own_eqt own_eqo
  by_cases h : o = some t
  · rw [if_pos h, if_pos h.symm]
  · rw [if_neg h, if_neg (fun q => h q.symm)]
theorem own_narb (t : List Value) (o : own_T) : nar .boolean (own_eqt t o) = own_eqt t o := by
  unfold own_eqt; split <;> decide
theorem own_k3 : (3 : Nat) = (3 : Int32).toNatClampNeg := by decide
abbrev own_te : List Value := []
abbrev own_tx : List Value := [(.int (120 : Int32)), (.int (109 : Int32)), (.int (108 : Int32))]
def own_pk (v : Int32) : List Value := if v &&& (3 : Int32) = (0 : Int32) then [] else if v &&& (3 : Int32) = (1 : Int32) then [(.int (120 : Int32)), (.int (109 : Int32)), (.int (108 : Int32))] else if v &&& (3 : Int32) = (2 : Int32) then [(.int (97 : Int32))] else [(.int (98 : Int32))]
def own_r0 (nz : Int32) : List own_T := ((List.replicate nz.toNatClampNeg (none : own_T)).set ((0 : Int32)).toNatClampNeg (some [])).set ((1 : Int32)).toNatClampNeg (some [(.int (120 : Int32)), (.int (109 : Int32)), (.int (108 : Int32))])
theorem own_b01 {nz : Int32} (h : 2 ≤ nz.toInt) : (¬ (0 : Int32) < 0 ∧ (0 : Int32) < nz) ∧ (¬ (1 : Int32) < 0 ∧ (1 : Int32) < nz) := by
  have k : (0 : Int32).toInt = 0 := by decide
  have k1 : (1 : Int32).toInt = 1 := by decide
  exact ⟨own_ib (by omega) (by omega), own_ib (by omega) (by omega)⟩
theorem own_ngz {nz : Int32} (h : 2 ≤ nz.toInt) : ¬ nz < 0 := by
  rw [Int32.lt_iff_toInt_lt]; have k : (0 : Int32).toInt = 0 := by decide
  omega
theorem own_zeroN {Z : State} {h : Heap} {a : Addr} {k : ClassId} {ty : FieldType} {z : Int32} (F : Arv Z h a k ty z [] .null) : Arv Z h a k ty z (List.replicate z.toNatClampNeg .null) .null := F.pad (pad_rep [] _ _)
def own_I (s : own_ST) (b : Int) : Prop := 0 ≤ s.2.2.2.toInt ∧ s.2.2.2.toInt ≤ b ∧ s.2.1.length = 16 ∧ s.2.2.1.length = 16 ∧ s.1.length = 3 ∧ ∀ j : Int32, 0 ≤ j.toInt → j.toInt < s.2.2.2.toInt → ¬ own_at s.2.1 j < 0 ∧ own_at s.2.1 j < (3 : Int32)
def own_X (s s' : own_ST) : Prop := ∀ P : own_ST → Prop, P s → (∀ (q : own_ST) (i : Int32) (o : own_T), P q → 0 ≤ q.2.2.2.toInt → q.2.2.2.toInt < 16 → q.2.1.length = 16 → q.2.2.1.length = 16 → P (own_bd q i o)) → P s'
theorem own_Xr (s : own_ST) : own_X s s := fun _ h _ => h
theorem own_Xt {a b d : own_ST} (f : own_X a b) (g : own_X b d) : own_X a d := fun P h k => g P (f P h k) k
theorem own_Xb {a : own_ST} {i : Int32} {o : own_T} {b : Int} (I : own_I a b) (hb : b < 16) : own_X a (own_bd a i o) := fun _ h k => k a i o h I.1 (by have := I.2.1; omega) I.2.2.1 I.2.2.2.1
theorem own_Xle {a d : own_ST} (f : own_X a d) : a.2.2.2.toInt ≤ d.2.2.2.toInt :=
  f (fun q => a.2.2.2.toInt ≤ q.2.2.2.toInt) (Int.le_refl _) (fun q i o h h0 h1 _ _ => by
    show _ ≤ (q.2.2.2 + (1 : Int32)).toInt
    rw [own_up1 ⟨h0, h1⟩]; omega)
theorem own_gset {α : Type} {l : List α} {j : Nat} {v d : α} (h : j < l.length) : (l.set j v).getD j d = v := by
  simp [List.getD, h]
theorem own_gne {α : Type} {l : List α} {j k : Nat} {v d : α} (h : ¬ j = k) : (l.set j v).getD k d = l.getD k d := by
  simp [List.getD, List.getElem?_set, h]
theorem own_sself {α : Type} {l : List α} {j : Nat} {v d : α} : (l.set j v).set j (l.getD j d) = l := by
  rw [List.set_set]
  apply List.ext_getElem?
  intro k
  rw [List.getElem?_set]
  by_cases h : j = k
  · subst h
    by_cases q : j < l.length
    · simp [q, List.getD]
    · simp [q]
  · simp [h]
theorem own_atset {us : List Value} {u i : Int32} (h : us.getD u.toNatClampNeg (.int (0 : Int32)) = .int i) : own_at us u = i := by
  unfold own_at; rw [h]
theorem own_undo {a d : own_ST} (f : own_X a d) : 0 ≤ a.2.2.2.toInt → ∀ (us : List Value) (uo : List own_T), (∀ j : Nat, (j : Int) < d.2.2.2.toInt → us.getD j (.int (0 : Int32)) = d.2.1.getD j (.int (0 : Int32)) ∧ uo.getD j none = d.2.2.1.getD j none) → (own_rs us (d.2.2.2.toInt - a.2.2.2.toInt).toNat d.2.2.2 (d.1, uo)).1 = a.1 := by
  refine (f (fun d => a.2.2.2.toInt ≤ d.2.2.2.toInt ∧ (0 ≤ a.2.2.2.toInt → ∀ (us : List Value) (uo : List own_T), (∀ j : Nat, (j : Int) < d.2.2.2.toInt → us.getD j (.int (0 : Int32)) = d.2.1.getD j (.int (0 : Int32)) ∧ uo.getD j none = d.2.2.1.getD j none) → (own_rs us (d.2.2.2.toInt - a.2.2.2.toInt).toNat d.2.2.2 (d.1, uo)).1 = a.1)) ⟨Int.le_refl _, ?_⟩ ?_).2
  · intro h0 us uo h
    have e : (a.2.2.2.toInt - a.2.2.2.toInt).toNat = 0 := by omega
    rw [e]; rfl
  · rintro q i o ⟨hle, ih⟩ h0 h1 hl1 hl2
    have e1 : (q.2.2.2 + (1 : Int32)).toInt = q.2.2.2.toInt + 1 := own_up1 ⟨h0, h1⟩
    have en := own_nat h0
    refine ⟨by show _ ≤ (q.2.2.2 + (1 : Int32)).toInt; omega, ?_⟩
    intro ha us uo h
    show (own_rs us ((q.2.2.2 + (1 : Int32)).toInt - a.2.2.2.toInt).toNat (q.2.2.2 + (1 : Int32)) (q.1.set (i).toNatClampNeg o, uo)).1 = a.1
    have e2 : ((q.2.2.2 + (1 : Int32)).toInt - a.2.2.2.toInt).toNat = (q.2.2.2.toInt - a.2.2.2.toInt).toNat + 1 := by omega
    have e3 : q.2.2.2 + (1 : Int32) - (1 : Int32) = q.2.2.2 := by
      apply Int32.toInt_inj.mp
      have c := c_isub (q.2.2.2 + 1) 1; have k : (1 : Int32).toInt = 1 := by decide
      have r := rng32 q.2.2.2; have r2 := rng32 (q.2.2.2 + 1 - 1); omega
    rw [e2]
    show (own_rs us _ (q.2.2.2 + (1 : Int32) - (1 : Int32)) _).1 = a.1
    simp only [e3]
    have hj := h q.2.2.2.toNatClampNeg (by show _ < (q.2.2.2 + (1 : Int32)).toInt; omega)
    have g1 : us.getD q.2.2.2.toNatClampNeg (.int (0 : Int32)) = .int i := hj.1.trans (own_gset (by rw [hl1]; omega))
    have g2 : uo.getD q.2.2.2.toNatClampNeg none = q.1.getD (i).toNatClampNeg none := hj.2.trans (own_gset (by rw [hl2]; omega))
    rw [own_atset g1, g2, own_sself]
    refine ih ha us _ ?_
    intro j hjl
    have hne : ¬ q.2.2.2.toNatClampNeg = j := by omega
    have hh := h j (by show _ < (q.2.2.2 + (1 : Int32)).toInt; omega)
    rw [own_gne hne]
    exact ⟨hh.1.trans (own_gne hne), hh.2.trans (own_gne hne)⟩
theorem own_und {a d : own_ST} (f : own_X a d) (h : 0 ≤ a.2.2.2.toInt) : (own_rs d.2.1 (d.2.2.2.toInt - a.2.2.2.toInt).toNat d.2.2.2 (d.1, d.2.2.1)).1 = a.1 := own_undo f h _ _ fun _ _ => ⟨rfl, rfl⟩
theorem own_Ib {s : own_ST} {i : Int32} {o : own_T} {b : Int} (I : own_I s b) (hi : ¬ i < 0 ∧ i < (3 : Int32)) (hb : b < 16) : own_I (own_bd s i o) (b + 1) := by
  obtain ⟨h0, h1, l1, l2, l3, hm⟩ := I
  have e1 : (s.2.2.2 + (1 : Int32)).toInt = s.2.2.2.toInt + 1 := own_up1 ⟨h0, by omega⟩
  refine ⟨?_, ?_, ?_, ?_, ?_, ?_⟩
  · show 0 ≤ (s.2.2.2 + (1 : Int32)).toInt; omega
  · show (s.2.2.2 + (1 : Int32)).toInt ≤ _; omega
  · show (s.2.1.set _ _).length = 16; rw [List.length_set]; exact l1
  · show (s.2.2.1.set _ _).length = 16; rw [List.length_set]; exact l2
  · show (s.1.set _ _).length = 3; rw [List.length_set]; exact l3
  · intro j hj hj2
    have hj3 : j.toInt < (s.2.2.2 + (1 : Int32)).toInt := hj2
    have en := own_nat h0
    have ej := own_nat hj
    show ¬ own_at (s.2.1.set s.2.2.2.toNatClampNeg (.int i)) j < 0 ∧ own_at (s.2.1.set s.2.2.2.toNatClampNeg (.int i)) j < (3 : Int32)
    by_cases q : s.2.2.2.toNatClampNeg = j.toNatClampNeg
    · have : own_at (s.2.1.set s.2.2.2.toNatClampNeg (.int i)) j = i := own_atset (by rw [← q]; exact own_gset (by rw [l1]; omega))
      rw [this]; exact hi
    · have : own_at (s.2.1.set s.2.2.2.toNatClampNeg (.int i)) j = own_at s.2.1 j := by unfold own_at; rw [own_gne q]
      rw [this]; exact hm j hj (by omega)
theorem own_Imono {s : own_ST} {b d : Int} (I : own_I s b) (h : b ≤ d) : own_I s d := ⟨I.1, Int.le_trans I.2.1 h, I.2.2⟩
def own_st1 (t : List Value) (ix i : Int32) (s : own_ST) : own_ST := if ¬ i = ix ∧ ¬ own_eqt t (s.1.getD (i).toNatClampNeg none) = (0 : Int32) then own_bd s i none else s
theorem own_st1I {t : List Value} {ix i : Int32} {s : own_ST} {b : Int} (I : own_I s b) (hi : ¬ i < 0 ∧ i < (3 : Int32)) (hb : b < 16) : own_I (own_st1 t ix i s) (b + 1) ∧ own_X s (own_st1 t ix i s) := by
  unfold own_st1
  split
  · exact ⟨own_Ib I hi hb, own_Xb I hb⟩
  · exact ⟨own_Imono I (by omega), own_Xr s⟩
theorem own_de3 (t : List Value) (ix : Int32) (s : own_ST) : own_de t ix (3 : Int32) s = own_bd (own_st1 t ix (2 : Int32) (own_st1 t ix (1 : Int32) (own_st1 t ix (0 : Int32) s))) ix (some t) := by
  unfold own_de
  have e : (3 : Int32).toInt.toNat = 3 := by decide
  rw [e]; rfl
theorem own_IX {t : List Value} {ix : Int32} {s : own_ST} {b : Int} (hi : ¬ ix < 0 ∧ ix < (3 : Int32)) (I : own_I s b) (hb : b < 13) : own_I (own_de t ix (3 : Int32) s) (b + 4) ∧ own_X s (own_de t ix (3 : Int32) s) := by
  rw [own_de3]
  obtain ⟨I1, X1⟩ := own_st1I (t := t) (ix := ix) I (i := 0) ⟨by decide, by decide⟩ (by omega)
  obtain ⟨I2, X2⟩ := own_st1I (t := t) (ix := ix) I1 (i := 1) ⟨by decide, by decide⟩ (by omega)
  obtain ⟨I3, X3⟩ := own_st1I (t := t) (ix := ix) I2 (i := 2) ⟨by decide, by decide⟩ (by omega)
  exact ⟨own_Imono (own_Ib I3 hi (by omega)) (by omega), own_Xt (own_Xt X1 X2) (own_Xt X3 (own_Xb I3 (by omega)))⟩
theorem own_Ide {t : List Value} {ix : Int32} {s : own_ST} {b d : Int} (hi : ¬ ix < 0 ∧ ix < (3 : Int32)) (I : own_I s b) (hb : b < 13 ∧ b + 4 = d) : own_I (own_de t ix (3 : Int32) s) d := hb.2 ▸ (own_IX hi I hb.1).1
theorem own_Xde {t : List Value} {ix : Int32} {s : own_ST} {b : Int} (hi : ¬ ix < 0 ∧ ix < (3 : Int32)) (I : own_I s b) (hb : b < 13) : own_X s (own_de t ix (3 : Int32) s) := (own_IX hi I hb).2
theorem own_st1n {t : List Value} {ix i : Int32} {s : own_ST} : (own_st1 t ix i s).1 = own_n1 t ix i s.1 := by
  unfold own_st1 own_n1
  by_cases h : ¬ i = ix ∧ ¬ own_eqt t (s.1.getD (i).toNatClampNeg none) = (0 : Int32)
  · rw [if_pos h, if_pos ⟨fun q => h.1 q.symm, h.2⟩]; rfl
  · rw [if_neg h, if_neg (fun q => h ⟨fun y => q.1 y.symm, q.2⟩)]
theorem own_dds {t : List Value} {ix : Int32} {s : own_ST} : (own_de t ix (3 : Int32) s).1 = own_ds t ix s.1 := by
  rw [own_de3]
  show ((own_st1 t ix (2 : Int32) (own_st1 t ix (1 : Int32) (own_st1 t ix (0 : Int32) s))).1.set _ _) = _
  rw [own_st1n, own_st1n, own_st1n]; rfl
theorem own_I0 : own_I (own_r0 (3 : Int32), List.replicate 16 (.int (0 : Int32)), List.replicate 16 (none : own_T), (0 : Int32)) 0 := by
  have k : (0 : Int32).toInt = 0 := by decide
  refine ⟨by show 0 ≤ (0 : Int32).toInt; omega, by show (0 : Int32).toInt ≤ 0; omega, List.length_replicate, List.length_replicate, by show (own_r0 (3 : Int32)).length = 3; unfold own_r0; rw [List.length_set, List.length_set, List.length_replicate]; decide, fun j h1 h2 => ?_⟩
  have h3 : j.toInt < (0 : Int32).toInt := h2
  omega
theorem own_eqo1 (a : own_T) : ¬ own_eqo a a = (0 : Int32) := by
  unfold own_eqo; rw [if_pos rfl]; decide
theorem own_ix3 (n : Int32) : 0 ≤ ((n &&& (2147483647 : Int32)) % (3 : Int32)).toInt ∧ ((n &&& (2147483647 : Int32)) % (3 : Int32)).toInt < 3 := by
  have h := c_mask n 2147483647 31 (by decide) (by decide)
  have h2 := (c_irem (n &&& 2147483647) 3 3 (by decide)).1 (by omega)
  omega
theorem own_ix (n : Int32) : ¬ ((n &&& (2147483647 : Int32)) % (3 : Int32)) < 0 ∧ ((n &&& (2147483647 : Int32)) % (3 : Int32)) < (3 : Int32) := by
  have k : (3 : Int32).toInt = 3 := by decide
  have h := own_ix3 n
  exact own_ib h.1 (by omega)
theorem own_r3 (n : Int32) : ((n &&& (2147483647 : Int32)) % (3 : Int32)) = 0 ∨ ((n &&& (2147483647 : Int32)) % (3 : Int32)) = 1 ∨ ((n &&& (2147483647 : Int32)) % (3 : Int32)) = 2 := by
  have h := own_ix3 n
  have k0 : (0 : Int32).toInt = 0 := by decide
  have k1 : (1 : Int32).toInt = 1 := by decide
  have k2 : (2 : Int32).toInt = 2 := by decide
  rcases (show ((n &&& (2147483647 : Int32)) % (3 : Int32)).toInt = 0 ∨ ((n &&& (2147483647 : Int32)) % (3 : Int32)).toInt = 1 ∨ ((n &&& (2147483647 : Int32)) % (3 : Int32)).toInt = 2 by omega) with q | q | q
  · exact Or.inl (Int32.toInt_inj.mp (by omega))
  · exact Or.inr (Or.inl (Int32.toInt_inj.mp (by omega)))
  · exact Or.inr (Or.inr (Int32.toInt_inj.mp (by omega)))

theorem own_eqb1 {u v : List Value} (h : ¬ own_eqb u v = (0 : Int32)) : u = v := by
  unfold own_eqb at h
  by_cases q : u = v
  · exact q
  · rw [if_neg q] at h; exact absurd rfl h
theorem own_eqb0 {u v : List Value} (h : own_eqb u v = (0 : Int32)) : ¬ u = v := by
  intro q
  unfold own_eqb at h
  rw [if_pos q] at h
  exact absurd h (by decide)
abbrev own_EL : List (String × Nat) := consts_1
theorem pn_0 : plainName "java/lang/StringLatin1" = true := by first | (simp [plainName, overriddenIn]; done) | decide +kernel
theorem d5_0 : decode jdk_43_method_13_code 0 = .ok (.aload_n 0, 1) := by decide +kernel
theorem d5_1 : decode jdk_43_method_13_code 1 = .ok (.arraylength, 1) := by decide +kernel
theorem d5_2 : decode jdk_43_method_13_code 2 = .ok (.aload_n 1, 1) := by decide +kernel
theorem d5_3 : decode jdk_43_method_13_code 3 = .ok (.arraylength, 1) := by decide +kernel
theorem d5_4 : decode jdk_43_method_13_code 4 = .ok (.if_icmp .ne 30, 3) := by decide +kernel
theorem d5_7 : decode jdk_43_method_13_code 7 = .ok (.iconst 0, 1) := by decide +kernel
theorem d5_8 : decode jdk_43_method_13_code 8 = .ok (.istore_n 2, 1) := by decide +kernel
theorem d5_9 : decode jdk_43_method_13_code 9 = .ok (.iload_n 2, 1) := by decide +kernel
theorem d5_10 : decode jdk_43_method_13_code 10 = .ok (.aload_n 0, 1) := by decide +kernel
theorem d5_11 : decode jdk_43_method_13_code 11 = .ok (.arraylength, 1) := by decide +kernel
theorem d5_12 : decode jdk_43_method_13_code 12 = .ok (.if_icmp .ge 20, 3) := by decide +kernel
theorem d5_32 : decode jdk_43_method_13_code 32 = .ok (.iconst 1, 1) := by decide +kernel
theorem d5_33 : decode jdk_43_method_13_code 33 = .ok (.ireturn, 1) := by decide +kernel
theorem d5_15 : decode jdk_43_method_13_code 15 = .ok (.aload_n 0, 1) := by decide +kernel
theorem d5_16 : decode jdk_43_method_13_code 16 = .ok (.iload_n 2, 1) := by decide +kernel
theorem d5_17 : decode jdk_43_method_13_code 17 = .ok (.baload, 1) := by decide +kernel
theorem d5_18 : decode jdk_43_method_13_code 18 = .ok (.aload_n 1, 1) := by decide +kernel
theorem d5_19 : decode jdk_43_method_13_code 19 = .ok (.iload_n 2, 1) := by decide +kernel
theorem d5_20 : decode jdk_43_method_13_code 20 = .ok (.baload, 1) := by decide +kernel
theorem d5_21 : decode jdk_43_method_13_code 21 = .ok (.if_icmp .eq 5, 3) := by decide +kernel
theorem d5_26 : decode jdk_43_method_13_code 26 = .ok (.iinc 2 1, 3) := by decide +kernel
theorem d5_29 : decode jdk_43_method_13_code 29 = .ok (.goto (-20), 3) := by decide +kernel
theorem d5_24 : decode jdk_43_method_13_code 24 = .ok (.iconst 0, 1) := by decide +kernel
theorem d5_25 : decode jdk_43_method_13_code 25 = .ok (.ireturn, 1) := by decide +kernel
theorem d5_34 : decode jdk_43_method_13_code 34 = .ok (.iconst 0, 1) := by decide +kernel
theorem d5_35 : decode jdk_43_method_13_code 35 = .ok (.ireturn, 1) := by decide +kernel
theorem ef_5 (m : MethodId) (x0 : Addr) (x1 : Addr) : entryFrame m #[(.ref x0), (.ref x1)] 3 = mkF m 0 #[.val (.ref x0), .val (.ref x1), .unset] [] := by first | (simp [entryFrame, mkF, argsToLocals, Value.category]; done) | rfl
def Q5 (Z : State) (ax : Addr) (ay : Addr) (kx : ClassId) (zx : Int32) (tx : List Value) (ky : ClassId) (zy : Int32) (ty : List Value) (h0 : Heap) (n0 : Nat) (vα : Option Value) (hα : Heap) (Lα : List Loc) : Prop := vα = some (.int (own_eqb tx ty)) ∧ Fr n0 Lα ∧ hα = h0
set_option maxRecDepth 65536 in
set_option maxHeartbeats 40000000 in
theorem rm5 (l : Launch) (Z : State) (a0 : Array Value) (hw : ∀ d ∈ tables_1, d.before a0 Z = true) (ws : List Jvm.Cond) (ax : Addr) (ay : Addr) (kx : ClassId) (zx : Int32) (tx : List Value) (ky : ClassId) (zy : Int32) (ty : List Value) (h0 : Heap) (n0 : Nat) (Z0 : n0 ≤ h0.size) (V_x : Arv Z h0 ax kx .byte zx tx (.int (0 : Int32))) (V_y : Arv Z h0 ay ky .byte zy ty (.int (0 : Int32))) (hlx : zx.toNatClampNeg = tx.length) (hly : zy.toNatClampNeg = ty.length) :
    MetFree l (⟨"java/lang/StringLatin1", "equals", "([B[B)Z"⟩ : MethodName) (head1 (Jvm.Cond.code (⟨"java/lang/StringLatin1", "equals", "([B[B)Z"⟩ : MethodName) jdk_43_method_13_code 3 (some .boolean) :: ws) ({ frames := 0, cells := 0, slots := 0, locals := 0 } : Room)) (fun aα U => aα = #[(.ref ax), (.ref ay)] ∧ Z.Warmed39 U.vm ∧ U.heap = h0) (fun _ _ _ _ _ => True) (fun _ U oα U' => ∃ vα Lα, oα = .returned vα ∧ Q5 Z ax ay kx zx tx ky zy ty h0 n0 vα U'.heap Lα ∧ FrameEnd U oα U' Lα ({ frames := 0, cells := 0, slots := 0, locals := 0 } : Room).cells ({ frames := 0, cells := 0, slots := 0, locals := 0 } : Room).slots) := by
  refine MetFree.of_bodySF (plainFor_of_name pn_0) hisR ?_
  intro p e s m args below meth c s₁ Bd hml0 hP hK
  refine own_wrap ?_
  intro GL hGL
  obtain ⟨rfl, hZ, hh⟩ := hP
  have hx := Bd.exec
  have hby := Bd.bytes
  have hml : c.maxLocals = 3 := hml0
  have hown : s.vm.findClass "java/lang/StringLatin1" = some m.cls := findClass_of_methodNamed Bd.named
  have hnm := (name_of_methodNamed Bd.named Bd.method).1
  have X0 : Stand p l e ({ frames := 0, cells := 0, slots := 0, locals := 0 } : Room) s m #[(.ref ax), (.ref ay)] below meth c s₁ [] 0 0 := Stand.of_body Bd
  have e0 : s₁.heap = h0 := by rw [← hh, Bd.state]; rfl
  have N0 := Fr.nil n0
  have pre0 : ∀ τ, Steps p.tables e below (s₁.setTop (mkF m 0 #[.val (.ref ax), .val (.ref ay), .unset] [])) τ → Steps p.tables e below (s₁.setTop (entryFrame m #[(.ref ax), (.ref ay)] 3)) τ := fun τ κ => castTop (ef_5 m ax ay) κ
  obtain ⟨G, hG, pre⟩ : ∃ G : State → Prop, (∀ τ, G τ → Steps p.tables e below (s₁.setTop (entryFrame m #[(.ref ax), (.ref ay)] 3)) τ) ∧ ∀ τ, Steps p.tables e below (s₁.setTop (mkF m 0 #[.val (.ref ax), .val (.ref ay), .unset] [])) τ → G τ := ⟨_, pre0, fun _ k => k⟩
  have K : Keep h0 h0 [] := Keep.refl h0 _
  have Zn := Z0
  have pre : ∀ τ, Steps p.tables e below (s₁.setTop (mkF m 1 #[.val (.ref ax), .val (.ref ay), .unset] [(.ref ax)])) τ → G τ := fun τ κ => pre τ (by
    refine XS.aloadN X0.here hx rfl (hb hby d5_0) rfl rfl ?_
    show Steps p.tables e below (s₁.setTop (mkF m 1 #[.val (.ref ax), .val (.ref ay), .unset] [(.ref ax)])) τ
    exact κ)
  obtain ⟨c1, Ar1, -, S1, N1, -, -⟩ := id V_x
  have pre : ∀ τ, Steps p.tables e below (s₁.setTop (mkF m 2 #[.val (.ref ax), .val (.ref ay), .unset] [(.int zx)])) τ → G τ := fun τ κ => pre τ (by
    refine X0.arraylength hx (by rw [e0]; exact Ar1.1) (State.isArrayOf_alike hZ.alike Ar1.2.1) (g := (mkF m 1 #[.val (.ref ax), .val (.ref ay), .unset] [(.ref ax)])) rfl rfl (hb hby d5_1) _ ?_
    rw [len_of S1 N1]
    exact κ)
  have pre : ∀ τ, Steps p.tables e below (s₁.setTop (mkF m 3 #[.val (.ref ax), .val (.ref ay), .unset] [(.ref ay), (.int zx)])) τ → G τ := fun τ κ => pre τ (by
    refine XS.aloadN X0.here hx rfl (hb hby d5_2) rfl rfl ?_
    show Steps p.tables e below (s₁.setTop (mkF m 3 #[.val (.ref ax), .val (.ref ay), .unset] [(.ref ay), (.int zx)])) τ
    exact κ)
  obtain ⟨c2, Ar2, -, S2, N2, -, -⟩ := id V_y
  have pre : ∀ τ, Steps p.tables e below (s₁.setTop (mkF m 4 #[.val (.ref ax), .val (.ref ay), .unset] [(.int zy), (.int zx)])) τ → G τ := fun τ κ => pre τ (by
    refine X0.arraylength hx (by rw [e0]; exact Ar2.1) (State.isArrayOf_alike hZ.alike Ar2.2.1) (g := (mkF m 3 #[.val (.ref ax), .val (.ref ay), .unset] [(.ref ay), (.int zx)])) rfl rfl (hb hby d5_3) _ ?_
    rw [len_of S2 N2]
    exact κ)
  rcases Classical.em (zx = zy) with hc4_3 | hc4_3
  ·
    have pre : ∀ τ, Steps p.tables e below (s₁.setTop (mkF m 9 #[.val (.ref ax), .val (.ref ay), .val (.int (0 : Int32))] [])) τ → G τ := fun τ κ => pre τ (by
      refine XS.icmpNo X0.here hx rfl (hb hby d5_4) rfl (teq hc4_3).2 ?_
      show Steps p.tables e below (s₁.setTop (mkF m 7 #[.val (.ref ax), .val (.ref ay), .unset] [])) τ
      refine XS.iconst X0.here hx rfl (hb hby d5_7) ?_
      show Steps p.tables e below (s₁.setTop (mkF m 8 #[.val (.ref ax), .val (.ref ay), .unset] [(.int (0 : Int32))])) τ
      refine XS.istoreN X0.here hx rfl (hb hby d5_8) rfl (l' := #[.val (.ref ax), .val (.ref ay), .val (.int (0 : Int32))]) rfl ?_
      show Steps p.tables e below (s₁.setTop (mkF m 9 #[.val (.ref ax), .val (.ref ay), .val (.int (0 : Int32))] [])) τ
      exact κ)
    have loop : ∀ (n : Nat) (i : Int32) (hn : i.toInt + (n : Int) = zx.toInt) (hi0 : 0 ≤ i.toInt) (heq : ∀ j, j < i.toNatClampNeg → tx.getD j (.int (0 : Int32)) = ty.getD j (.int (0 : Int32))) (pre : ∀ τ, Steps p.tables e below (s₁.setTop (mkF m 9 #[.val (.ref ax), .val (.ref ay), .val (.int i)] [])) τ → G τ), GL := by
      intro n
      induction n with
      | zero =>
        intro i hn hi0 heq pre
        have pre : ∀ τ, Steps p.tables e below (s₁.setTop (mkF m 11 #[.val (.ref ax), .val (.ref ay), .val (.int i)] [(.ref ax), (.int i)])) τ → G τ := fun τ κ => pre τ (by
          refine XS.iloadN X0.here hx rfl (hb hby d5_9) rfl ?_
          show Steps p.tables e below (s₁.setTop (mkF m 10 #[.val (.ref ax), .val (.ref ay), .val (.int i)] [(.int i)])) τ
          refine XS.aloadN X0.here hx rfl (hb hby d5_10) rfl rfl ?_
          show Steps p.tables e below (s₁.setTop (mkF m 11 #[.val (.ref ax), .val (.ref ay), .val (.int i)] [(.ref ax), (.int i)])) τ
          exact κ)
        obtain ⟨c4, Ar4, -, S4, N4, -, -⟩ := id V_x
        have pre : ∀ τ, Steps p.tables e below (s₁.setTop (mkF m 12 #[.val (.ref ax), .val (.ref ay), .val (.int i)] [(.int zx), (.int i)])) τ → G τ := fun τ κ => pre τ (by
          refine X0.arraylength hx (by rw [e0]; exact Ar4.1) (State.isArrayOf_alike hZ.alike Ar4.2.1) (g := (mkF m 11 #[.val (.ref ax), .val (.ref ay), .val (.int i)] [(.ref ax), (.int i)])) rfl rfl (hb hby d5_11) _ ?_
          rw [len_of S4 N4]
          exact κ)
        have hc5 : ¬ (i < zx) := own_lz hn
        have pre : ∀ τ, Steps p.tables e below (s₁.setTop (mkF m 33 #[.val (.ref ax), .val (.ref ay), .val (.int i)] [(.int (1 : Int32))])) τ → G τ := fun τ κ => pre τ (by
          refine XS.icmpYes X0.here hx rfl (pc0 := 12) (pc' := 32) rfl (hb hby d5_12) rfl (flt hc5).2.1 (by decide) (by decide) ?_
          show Steps p.tables e below (s₁.setTop (mkF m 32 #[.val (.ref ax), .val (.ref ay), .val (.int i)] [])) τ
          refine XS.iconst X0.here hx rfl (hb hby d5_32) ?_
          show Steps p.tables e below (s₁.setTop (mkF m 33 #[.val (.ref ax), .val (.ref ay), .val (.int i)] [(.int (1 : Int32))])) τ
          exact κ)
        obtain ⟨fsα, hr, hrun, hended, hW, hsame⟩ := X0.leave (v := some (.int (1 : Int32))) (fun h => by rw [Bd.returns] at h; cases h)
        refine hGL ⟨_, _, hG _ (pre _ ?_), hrun, hended, _, _, rfl, ?_, ⟨_, rfl⟩, hW, hsame.mono (by decide) (by decide)⟩
        · exact retN X0 hx (t := .boolean) Bd.returns (by simp) (hb hby d5_33) hr
        · show Q5 Z ax ay kx zx tx ky zy ty h0 n0 _ s₁.heap _
          rw [e0]
          refine ⟨?_, N0, rfl⟩
          unfold own_eqb
          rw [if_pos (own_fineq hlx hly hc4_3 hi0 hn heq)]
      | succ n ih =>
        intro i hn hi0 heq pre
        have pre : ∀ τ, Steps p.tables e below (s₁.setTop (mkF m 11 #[.val (.ref ax), .val (.ref ay), .val (.int i)] [(.ref ax), (.int i)])) τ → G τ := fun τ κ => pre τ (by
          refine XS.iloadN X0.here hx rfl (hb hby d5_9) rfl ?_
          show Steps p.tables e below (s₁.setTop (mkF m 10 #[.val (.ref ax), .val (.ref ay), .val (.int i)] [(.int i)])) τ
          refine XS.aloadN X0.here hx rfl (hb hby d5_10) rfl rfl ?_
          show Steps p.tables e below (s₁.setTop (mkF m 11 #[.val (.ref ax), .val (.ref ay), .val (.int i)] [(.ref ax), (.int i)])) τ
          exact κ)
        obtain ⟨c6, Ar6, -, S6, N6, -, -⟩ := id V_x
        have pre : ∀ τ, Steps p.tables e below (s₁.setTop (mkF m 12 #[.val (.ref ax), .val (.ref ay), .val (.int i)] [(.int zx), (.int i)])) τ → G τ := fun τ κ => pre τ (by
          refine X0.arraylength hx (by rw [e0]; exact Ar6.1) (State.isArrayOf_alike hZ.alike Ar6.2.1) (g := (mkF m 11 #[.val (.ref ax), .val (.ref ay), .val (.int i)] [(.ref ax), (.int i)])) rfl rfl (hb hby d5_11) _ ?_
          rw [len_of S6 N6]
          exact κ)
        have hc7 : i < zx := own_ls hn
        have pre : ∀ τ, Steps p.tables e below (s₁.setTop (mkF m 17 #[.val (.ref ax), .val (.ref ay), .val (.int i)] [(.int i), (.ref ax)])) τ → G τ := fun τ κ => pre τ (by
          refine XS.icmpNo X0.here hx rfl (hb hby d5_12) rfl (tlt hc7).2.1 ?_
          show Steps p.tables e below (s₁.setTop (mkF m 15 #[.val (.ref ax), .val (.ref ay), .val (.int i)] [])) τ
          refine XS.aloadN X0.here hx rfl (hb hby d5_15) rfl rfl ?_
          show Steps p.tables e below (s₁.setTop (mkF m 16 #[.val (.ref ax), .val (.ref ay), .val (.int i)] [(.ref ax)])) τ
          refine XS.iloadN X0.here hx rfl (hb hby d5_16) rfl ?_
          show Steps p.tables e below (s₁.setTop (mkF m 17 #[.val (.ref ax), .val (.ref ay), .val (.int i)] [(.int i), (.ref ax)])) τ
          exact κ)
        obtain ⟨c8, Ar8, q8, S8, Nz8, Hh8, Gg8⟩ := id V_x
        have hin8 : ¬ (i < 0 ∨ c8.slots.size ≤ (i).toNatClampNeg) := inb_of S8 (own_lb hi0 hn)
        have hat8 : c8.slots[(i).toNatClampNeg]? = some (.int (own_at tx i)) := own_getB Hh8 Gg8 hin8
        have pre : ∀ τ, Steps p.tables e below (s₁.setTop (mkF m 18 #[.val (.ref ax), .val (.ref ay), .val (.int i)] [(.int (own_at tx i))])) τ → G τ := fun τ κ => pre τ (X0.baloadBytes hx (j := i) (v := (.int (own_at tx i))) (by rw [e0]; exact Ar8.1) (State.isArrayOf_alike hZ.alike Ar8.2.1) Ar8.2.2 hin8 hat8 (g := (mkF m 17 #[.val (.ref ax), .val (.ref ay), .val (.int i)] [(.int i), (.ref ax)])) rfl rfl (hb hby d5_17) _ κ)
        have pre : ∀ τ, Steps p.tables e below (s₁.setTop (mkF m 20 #[.val (.ref ax), .val (.ref ay), .val (.int i)] [(.int i), (.ref ay), (.int (own_at tx i))])) τ → G τ := fun τ κ => pre τ (by
          refine XS.aloadN X0.here hx rfl (hb hby d5_18) rfl rfl ?_
          show Steps p.tables e below (s₁.setTop (mkF m 19 #[.val (.ref ax), .val (.ref ay), .val (.int i)] [(.ref ay), (.int (own_at tx i))])) τ
          refine XS.iloadN X0.here hx rfl (hb hby d5_19) rfl ?_
          show Steps p.tables e below (s₁.setTop (mkF m 20 #[.val (.ref ax), .val (.ref ay), .val (.int i)] [(.int i), (.ref ay), (.int (own_at tx i))])) τ
          exact κ)
        obtain ⟨c9, Ar9, q9, S9, Nz9, Hh9, Gg9⟩ := id V_y
        have hin9 : ¬ (i < 0 ∨ c9.slots.size ≤ (i).toNatClampNeg) := inb_of S9 (hc4_3 ▸ own_lb hi0 hn)
        have hat9 : c9.slots[(i).toNatClampNeg]? = some (.int (own_at ty i)) := own_getB Hh9 Gg9 hin9
        have pre : ∀ τ, Steps p.tables e below (s₁.setTop (mkF m 21 #[.val (.ref ax), .val (.ref ay), .val (.int i)] [(.int (own_at ty i)), (.int (own_at tx i))])) τ → G τ := fun τ κ => pre τ (X0.baloadBytes hx (j := i) (v := (.int (own_at ty i))) (by rw [e0]; exact Ar9.1) (State.isArrayOf_alike hZ.alike Ar9.2.1) Ar9.2.2 hin9 hat9 (g := (mkF m 20 #[.val (.ref ax), .val (.ref ay), .val (.int i)] [(.int i), (.ref ay), (.int (own_at tx i))])) rfl rfl (hb hby d5_20) _ κ)
        rcases Classical.em ((own_at tx i) = (own_at ty i)) with hc21_10 | hc21_10
        ·
          have pre : ∀ τ, Steps p.tables e below (s₁.setTop (mkF m 9 #[.val (.ref ax), .val (.ref ay), .val (.int (i + (1 : Int32)))] [])) τ → G τ := fun τ κ => pre τ (by
            refine XS.icmpYes X0.here hx rfl (pc0 := 21) (pc' := 26) rfl (hb hby d5_21) rfl (teq hc21_10).1 (by decide) (by decide) ?_
            show Steps p.tables e below (s₁.setTop (mkF m 26 #[.val (.ref ax), .val (.ref ay), .val (.int i)] [])) τ
            refine XS.iinc X0.here hx rfl (hb hby d5_26) rfl (l' := #[.val (.ref ax), .val (.ref ay), .val (.int (i + (1 : Int32)))]) rfl ?_
            show Steps p.tables e below (s₁.setTop (mkF m 29 #[.val (.ref ax), .val (.ref ay), .val (.int (i + (1 : Int32)))] [])) τ
            refine XS.goto X0.here hx rfl (pc0 := 29) (pc' := 9) rfl (hb hby d5_29) (by decide) (by decide) ?_
            show Steps p.tables e below (s₁.setTop (mkF m 9 #[.val (.ref ax), .val (.ref ay), .val (.int (i + (1 : Int32)))] [])) τ
            exact κ)
          exact ih (i + (1 : Int32)) (own_l1 hi0 hn) (own_l2 hi0 hn) (own_heq hi0 hn heq (own_gd V_x (own_lb hi0 hn)) (own_gd V_y (hc4_3 ▸ own_lb hi0 hn)) hc21_10) pre
        ·
          have pre : ∀ τ, Steps p.tables e below (s₁.setTop (mkF m 25 #[.val (.ref ax), .val (.ref ay), .val (.int i)] [(.int (0 : Int32))])) τ → G τ := fun τ κ => pre τ (by
            refine XS.icmpNo X0.here hx rfl (hb hby d5_21) rfl (feq hc21_10).1 ?_
            show Steps p.tables e below (s₁.setTop (mkF m 24 #[.val (.ref ax), .val (.ref ay), .val (.int i)] [])) τ
            refine XS.iconst X0.here hx rfl (hb hby d5_24) ?_
            show Steps p.tables e below (s₁.setTop (mkF m 25 #[.val (.ref ax), .val (.ref ay), .val (.int i)] [(.int (0 : Int32))])) τ
            exact κ)
          obtain ⟨fsα, hr, hrun, hended, hW, hsame⟩ := X0.leave (v := some (.int (0 : Int32))) (fun h => by rw [Bd.returns] at h; cases h)
          refine hGL ⟨_, _, hG _ (pre _ ?_), hrun, hended, _, _, rfl, ?_, ⟨_, rfl⟩, hW, hsame.mono (by decide) (by decide)⟩
          · exact retN X0 hx (t := .boolean) Bd.returns (by simp) (hb hby d5_25) hr
          · show Q5 Z ax ay kx zx tx ky zy ty h0 n0 _ s₁.heap _
            rw [e0]
            refine ⟨?_, N0, rfl⟩
            unfold own_eqb
            rw [if_neg (fun q => hc21_10 (by rw [q]))]
    exact loop zx.toInt.toNat (0 : Int32) (own_l0 (own_arvn V_x)) (by decide) (fun j hj => absurd hj (Nat.not_lt_zero j)) pre
  ·
    have pre : ∀ τ, Steps p.tables e below (s₁.setTop (mkF m 35 #[.val (.ref ax), .val (.ref ay), .unset] [(.int (0 : Int32))])) τ → G τ := fun τ κ => pre τ (by
      refine XS.icmpYes X0.here hx rfl (pc0 := 4) (pc' := 34) rfl (hb hby d5_4) rfl (feq hc4_3).2 (by decide) (by decide) ?_
      show Steps p.tables e below (s₁.setTop (mkF m 34 #[.val (.ref ax), .val (.ref ay), .unset] [])) τ
      refine XS.iconst X0.here hx rfl (hb hby d5_34) ?_
      show Steps p.tables e below (s₁.setTop (mkF m 35 #[.val (.ref ax), .val (.ref ay), .unset] [(.int (0 : Int32))])) τ
      exact κ)
    obtain ⟨fsα, hr, hrun, hended, hW, hsame⟩ := X0.leave (v := some (.int (0 : Int32))) (fun h => by rw [Bd.returns] at h; cases h)
    refine hGL ⟨_, _, hG _ (pre _ ?_), hrun, hended, _, _, rfl, ?_, ⟨_, rfl⟩, hW, hsame.mono (by decide) (by decide)⟩
    · exact retN X0 hx (t := .boolean) Bd.returns (by simp) (hb hby d5_35) hr
    · show Q5 Z ax ay kx zx tx ky zy ty h0 n0 _ s₁.heap _
      rw [e0]
      refine ⟨?_, N0, rfl⟩
      unfold own_eqb
      rw [if_neg (own_nlen hlx hly (own_arvn V_x) (own_arvn V_y) hc4_3)]
theorem pn_1 : plainName "java/lang/String" = true := by first | (simp [plainName, overriddenIn]; done) | decide +kernel
theorem d4_0 : decode jdk_42_method_66_code 0 = .ok (.aload_n 0, 1) := by decide +kernel
theorem d4_1 : decode jdk_42_method_66_code 1 = .ok (.aload_n 1, 1) := by decide +kernel
theorem d4_2 : decode jdk_42_method_66_code 2 = .ok (.if_acmp .ne 5, 3) := by decide +kernel
theorem d4_7 : decode jdk_42_method_66_code 7 = .ok (.aload_n 1, 1) := by decide +kernel
theorem d4_8 : decode jdk_42_method_66_code 8 = .ok (.instanceof 10, 3) := by decide +kernel
theorem d4_11 : decode jdk_42_method_66_code 11 = .ok (.ifCond .eq 43, 3) := by decide +kernel
theorem d4_54 : decode jdk_42_method_66_code 54 = .ok (.iconst 0, 1) := by decide +kernel
theorem d4_55 : decode jdk_42_method_66_code 55 = .ok (.ireturn, 1) := by decide +kernel
theorem d4_5 : decode jdk_42_method_66_code 5 = .ok (.iconst 1, 1) := by decide +kernel
theorem d4_6 : decode jdk_42_method_66_code 6 = .ok (.ireturn, 1) := by decide +kernel
theorem d4_14 : decode jdk_42_method_66_code 14 = .ok (.aload_n 1, 1) := by decide +kernel
theorem d4_15 : decode jdk_42_method_66_code 15 = .ok (.checkcast 10, 3) := by decide +kernel
theorem d4_18 : decode jdk_42_method_66_code 18 = .ok (.astore_n 2, 1) := by decide +kernel
theorem d4_19 : decode jdk_42_method_66_code 19 = .ok (.getstatic 38, 3) := by decide +kernel
theorem d4_22 : decode jdk_42_method_66_code 22 = .ok (.ifCond .eq 14, 3) := by decide +kernel
theorem d4_25 : decode jdk_42_method_66_code 25 = .ok (.aload_n 0, 1) := by decide +kernel
theorem d4_26 : decode jdk_42_method_66_code 26 = .ok (.getfield 15, 3) := by decide +kernel
theorem d4_29 : decode jdk_42_method_66_code 29 = .ok (.aload_n 2, 1) := by decide +kernel
theorem d4_30 : decode jdk_42_method_66_code 30 = .ok (.getfield 15, 3) := by decide +kernel
theorem d4_33 : decode jdk_42_method_66_code 33 = .ok (.if_icmp .ne 21, 3) := by decide +kernel
theorem d4_36 : decode jdk_42_method_66_code 36 = .ok (.aload_n 0, 1) := by decide +kernel
theorem d4_37 : decode jdk_42_method_66_code 37 = .ok (.getfield 9, 3) := by decide +kernel
theorem d4_40 : decode jdk_42_method_66_code 40 = .ok (.aload_n 2, 1) := by decide +kernel
theorem d4_41 : decode jdk_42_method_66_code 41 = .ok (.getfield 9, 3) := by decide +kernel
theorem d4_44 : decode jdk_42_method_66_code 44 = .ok (.invokestatic 541, 3) := by decide +kernel
theorem pd_0 : parseMethodDescriptor "([B[B)Z" = some ⟨[(.array .byte), (.array .byte)], some .boolean⟩ := by decide +kernel
theorem d4_47 : decode jdk_42_method_66_code 47 = .ok (.ifCond .eq 7, 3) := by decide +kernel
theorem d4_50 : decode jdk_42_method_66_code 50 = .ok (.iconst 1, 1) := by decide +kernel
theorem d4_51 : decode jdk_42_method_66_code 51 = .ok (.goto 4, 3) := by decide +kernel
theorem ef_4 (m : MethodId) (x0 : Addr) (x1 : Value) (hx1 : x1.isRef = true) : entryFrame m #[(.ref x0), x1] 3 = mkF m 0 #[.val (.ref x0), .val x1, .unset] [] := by
  all_goals (cases x1 <;> first | (simp [Value.isRef] at hx1; done) | skip)
  all_goals first | (simp [entryFrame, mkF, argsToLocals, Value.category]; done) | rfl
def Q4 (Z : State) (a : Addr) (vb : Value) (ta : List Value) (ob : Option (List Value)) (cw : Int32) (h0 : Heap) (n0 : Nat) (vα : Option Value) (hα : Heap) (Lα : List Loc) : Prop := vα = some (.int (own_eqt ta ob)) ∧ Fr n0 Lα ∧ hα = h0
set_option maxRecDepth 65536 in
set_option maxHeartbeats 40000000 in
theorem rm4 (l : Launch) (Z : State) (a0 : Array Value) (hw : ∀ d ∈ tables_1, d.before a0 Z = true) (ws : List Jvm.Cond) (a : Addr) (vb : Value) (ta : List Value) (ob : Option (List Value)) (cw : Int32) (h0 : Heap) (n0 : Nat) (Z0 : n0 ≤ h0.size) (F_a : own_S Z h0 (.ref a) (some ta)) (F_b : own_S Z h0 vb ob) (S_c : Sta Z h0 "java/lang/String" "COMPACT_STRINGS" "Z" (.int cw)) (hcw : ¬ cw = (0 : Int32)) :
    MetFree l (⟨"java/lang/String", "equals", "(Ljava/lang/Object;)Z"⟩ : MethodName) (head1 (Jvm.Cond.code (⟨"java/lang/String", "equals", "(Ljava/lang/Object;)Z"⟩ : MethodName) jdk_42_method_66_code 3 (some .boolean) :: ws) ({ frames := 1, cells := 0, slots := 0, locals := 14 } : Room)) (fun aα U => aα = #[(.ref a), vb] ∧ Z.Warmed39 U.vm ∧ U.heap = h0) (fun _ _ _ _ _ => True) (fun _ U oα U' => ∃ vα Lα, oα = .returned vα ∧ Q4 Z a vb ta ob cw h0 n0 vα U'.heap Lα ∧ FrameEnd U oα U' Lα ({ frames := 1, cells := 0, slots := 0, locals := 14 } : Room).cells ({ frames := 1, cells := 0, slots := 0, locals := 14 } : Room).slots) := by
  refine MetFree.of_bodySF (plainFor_of_name pn_1) hisR ?_
  intro p e s m args below meth c s₁ Bd hml0 hP hK
  refine own_wrap ?_
  intro GL hGL
  obtain ⟨rfl, hZ, hh⟩ := hP
  have hx := Bd.exec
  have hby := Bd.bytes
  have hml : c.maxLocals = 3 := hml0
  have hown : s.vm.findClass "java/lang/String" = some m.cls := findClass_of_methodNamed Bd.named
  have hnm := (name_of_methodNamed Bd.named Bd.method).1
  have X0 : Stand p l e ({ frames := 1, cells := 0, slots := 0, locals := 14 } : Room) s m #[(.ref a), vb] below meth c s₁ [] 0 0 := Stand.of_body Bd
  have e0 : s₁.heap = h0 := by rw [← hh, Bd.state]; rfl
  have N0 := Fr.nil n0
  have pre0 : ∀ τ, Steps p.tables e below (s₁.setTop (mkF m 0 #[.val (.ref a), .val vb, .unset] [])) τ → Steps p.tables e below (s₁.setTop (entryFrame m #[(.ref a), vb] 3)) τ := fun τ κ => castTop (ef_4 m a vb (own_S_ref F_b)) κ
  obtain ⟨G, hG, pre⟩ : ∃ G : State → Prop, (∀ τ, G τ → Steps p.tables e below (s₁.setTop (entryFrame m #[(.ref a), vb] 3)) τ) ∧ ∀ τ, Steps p.tables e below (s₁.setTop (mkF m 0 #[.val (.ref a), .val vb, .unset] [])) τ → G τ := ⟨_, pre0, fun _ k => k⟩
  have K : Keep h0 h0 [] := Keep.refl h0 _
  have Zn := Z0
  rcases id F_a with ⟨hx0, -⟩ | ⟨a1, b1, k1, z1, t1, ai1, hv1, ho1, wi1, E_a1, C_a1, V_a1, B_a1, hl1⟩
  · cases hx0
  injection hv1 with hv1
  injection ho1 with ho1
  subst hv1 ho1
  rcases id F_b with ⟨hv2, ho2⟩ | ⟨a2, b2, k2, z2, t2, ai2, hv2, ho2, wi2, E_a2, C_a2, V_a2, B_a2, hl2⟩
  ·
    have hv := hv2
    have pre : ∀ τ, Steps p.tables e below (s₁.setTop (mkF m 0 #[.val (.ref a), .val .null, .unset] [])) τ → G τ := by rw [hv2] at pre; exact pre
    have pre : ∀ τ, Steps p.tables e below (s₁.setTop (mkF m 2 #[.val (.ref a), .val .null, .unset] [.null, (.ref a)])) τ → G τ := fun τ κ => pre τ (by
      refine XS.aloadN X0.here hx rfl (hb hby d4_0) rfl rfl ?_
      show Steps p.tables e below (s₁.setTop (mkF m 1 #[.val (.ref a), .val .null, .unset] [(.ref a)])) τ
      refine XS.aloadN X0.here hx rfl (hb hby d4_1) rfl rfl ?_
      show Steps p.tables e below (s₁.setTop (mkF m 2 #[.val (.ref a), .val .null, .unset] [.null, (.ref a)])) τ
      exact κ)
    have pre : ∀ τ, Steps p.tables e below (s₁.setTop (mkF m 8 #[.val (.ref a), .val .null, .unset] [.null])) τ → G τ := fun τ κ => pre τ (by
      refine Jvm.RoadKit.acmp (g := (mkF m 2 #[.val (.ref a), .val .null, .unset] [.null, (.ref a)])) X0 hx rfl rfl rfl (pc0 := 2) (pc' := 7) (same := false) rfl (hb hby d4_2) rfl (decide_eq_false (by intro h; cases h)) (by decide) (by decide) ?_
      show Steps p.tables e below (s₁.setTop (mkF m 7 #[.val (.ref a), .val .null, .unset] [])) τ
      refine XS.aloadN X0.here hx rfl (hb hby d4_7) rfl rfl ?_
      show Steps p.tables e below (s₁.setTop (mkF m 8 #[.val (.ref a), .val .null, .unset] [.null])) τ
      exact κ)
    have pre : ∀ τ, Steps p.tables e below (s₁.setTop (mkF m 11 #[.val (.ref a), .val .null, .unset] [(.int (0 : Int32))])) τ → G τ := fun τ κ => pre τ (X0.instanceofNull hx (g := (mkF m 8 #[.val (.ref a), .val .null, .unset] [.null])) rfl rfl (hb hby d4_8) _ κ)
    have hc2 : (0 : Int32) = (0 : Int32) := rfl
    have pre : ∀ τ, Steps p.tables e below (s₁.setTop (mkF m 55 #[.val (.ref a), .val .null, .unset] [(.int (0 : Int32))])) τ → G τ := fun τ κ => pre τ (by
      refine XS.ifYes X0.here hx rfl (pc0 := 11) (pc' := 54) rfl (hb hby d4_11) rfl ((if0 _ _).trans (teq hc2).1) (by decide) (by decide) ?_
      show Steps p.tables e below (s₁.setTop (mkF m 54 #[.val (.ref a), .val .null, .unset] [])) τ
      refine XS.iconst X0.here hx rfl (hb hby d4_54) ?_
      show Steps p.tables e below (s₁.setTop (mkF m 55 #[.val (.ref a), .val .null, .unset] [(.int (0 : Int32))])) τ
      exact κ)
    obtain ⟨fsα, hr, hrun, hended, hW, hsame⟩ := X0.leave (v := some (.int (0 : Int32))) (fun h => by rw [Bd.returns] at h; cases h)
    refine hGL ⟨_, _, hG _ (pre _ ?_), hrun, hended, _, _, rfl, ?_, ⟨_, rfl⟩, hW, hsame.mono (by decide) (by decide)⟩
    · exact retN X0 hx (t := .boolean) Bd.returns (by simp) (hb hby d4_55) hr
    · show Q4 Z a vb ta ob cw h0 n0 _ s₁.heap _
      rw [e0]
      refine ⟨?_, N0, rfl⟩
      unfold own_eqt
      rw [if_neg (fun q => by rw [ho2] at q; cases q)]
  ·
    have hv := hv2
    have F_b : own_S Z h0 (.ref a2) (some t2) := by rw [hv2, ho2] at F_b; exact F_b
    have pre : ∀ τ, Steps p.tables e below (s₁.setTop (mkF m 0 #[.val (.ref a), .val (.ref a2), .unset] [])) τ → G τ := by rw [hv2] at pre; exact pre
    have pre : ∀ τ, Steps p.tables e below (s₁.setTop (mkF m 2 #[.val (.ref a), .val (.ref a2), .unset] [(.ref a2), (.ref a)])) τ → G τ := fun τ κ => pre τ (by
      refine XS.aloadN X0.here hx rfl (hb hby d4_0) rfl rfl ?_
      show Steps p.tables e below (s₁.setTop (mkF m 1 #[.val (.ref a), .val (.ref a2), .unset] [(.ref a)])) τ
      refine XS.aloadN X0.here hx rfl (hb hby d4_1) rfl rfl ?_
      show Steps p.tables e below (s₁.setTop (mkF m 2 #[.val (.ref a), .val (.ref a2), .unset] [(.ref a2), (.ref a)])) τ
      exact κ)
    rcases Classical.em (a = a2) with hc2_3 | hc2_3
    ·
      have pre : ∀ τ, Steps p.tables e below (s₁.setTop (mkF m 6 #[.val (.ref a), .val (.ref a2), .unset] [(.int (1 : Int32))])) τ → G τ := fun τ κ => pre τ (by
        refine Jvm.RoadKit.acmp (g := (mkF m 2 #[.val (.ref a), .val (.ref a2), .unset] [(.ref a2), (.ref a)])) X0 hx rfl rfl rfl (pc0 := 2) (pc' := 5) (same := true) rfl (hb hby d4_2) rfl (decide_eq_true (congrArg Value.ref hc2_3)) (by decide) (by decide) ?_
        show Steps p.tables e below (s₁.setTop (mkF m 5 #[.val (.ref a), .val (.ref a2), .unset] [])) τ
        refine XS.iconst X0.here hx rfl (hb hby d4_5) ?_
        show Steps p.tables e below (s₁.setTop (mkF m 6 #[.val (.ref a), .val (.ref a2), .unset] [(.int (1 : Int32))])) τ
        exact κ)
      obtain ⟨fsα, hr, hrun, hended, hW, hsame⟩ := X0.leave (v := some (.int (1 : Int32))) (fun h => by rw [Bd.returns] at h; cases h)
      refine hGL ⟨_, _, hG _ (pre _ ?_), hrun, hended, _, _, rfl, ?_, ⟨_, rfl⟩, hW, hsame.mono (by decide) (by decide)⟩
      · exact retN X0 hx (t := .boolean) Bd.returns (by simp) (hb hby d4_6) hr
      · show Q4 Z a vb ta ob cw h0 n0 _ s₁.heap _
        rw [e0]
        refine ⟨?_, N0, rfl⟩
        unfold own_eqt
        rw [if_pos (by rw [ho2]; exact congrArg some (own_S_fun F_b (hc2_3 ▸ F_a)))]
    ·
      have pre : ∀ τ, Steps p.tables e below (s₁.setTop (mkF m 8 #[.val (.ref a), .val (.ref a2), .unset] [(.ref a2)])) τ → G τ := fun τ κ => pre τ (by
        refine Jvm.RoadKit.acmp (g := (mkF m 2 #[.val (.ref a), .val (.ref a2), .unset] [(.ref a2), (.ref a)])) X0 hx rfl rfl rfl (pc0 := 2) (pc' := 7) (same := false) rfl (hb hby d4_2) rfl (decide_eq_false fun q => hc2_3 (Value.ref.inj q)) (by decide) (by decide) ?_
        show Steps p.tables e below (s₁.setTop (mkF m 7 #[.val (.ref a), .val (.ref a2), .unset] [])) τ
        refine XS.aloadN X0.here hx rfl (hb hby d4_7) rfl rfl ?_
        show Steps p.tables e below (s₁.setTop (mkF m 8 #[.val (.ref a), .val (.ref a2), .unset] [(.ref a2)])) τ
        exact κ)
      obtain ⟨T4, X4, e4, st4⟩ := instY X0 hx hZ hown (hw _ (List.mem_of_getElem? (i := 28) rfl)) e0 (Ins.self E_a2) (g := (mkF m 8 #[.val (.ref a), .val (.ref a2), .unset] [(.ref a2)])) rfl rfl (hb hby d4_8)
      have pre : ∀ τ, Steps p.tables e below (T4.setTop (mkF m 11 #[.val (.ref a), .val (.ref a2), .unset] [(.int (1 : Int32))])) τ → G τ := fun τ κ => pre τ (st4 τ κ)
      have hc5 : ¬ ((1 : Int32) = (0 : Int32)) := (by decide)
      have pre : ∀ τ, Steps p.tables e below (T4.setTop (mkF m 15 #[.val (.ref a), .val (.ref a2), .unset] [(.ref a2)])) τ → G τ := fun τ κ => pre τ (by
        refine XS.ifNo X4.here hx rfl (hb hby d4_11) rfl ((if0 _ _).trans (feq hc5).1) ?_
        show Steps p.tables e below (T4.setTop (mkF m 14 #[.val (.ref a), .val (.ref a2), .unset] [])) τ
        refine XS.aloadN X4.here hx rfl (hb hby d4_14) rfl rfl ?_
        show Steps p.tables e below (T4.setTop (mkF m 15 #[.val (.ref a), .val (.ref a2), .unset] [(.ref a2)])) τ
        exact κ)
      obtain ⟨T6, X6, e6, st6⟩ := castY X4 hx hZ hown (hw _ (List.mem_of_getElem? (i := 28) rfl)) e4 (Ins.self E_a2) (g := (mkF m 15 #[.val (.ref a), .val (.ref a2), .unset] [(.ref a2)])) rfl rfl (hb hby d4_15)
      have pre : ∀ τ, Steps p.tables e below (T6.setTop (mkF m 18 #[.val (.ref a), .val (.ref a2), .unset] [(.ref a2)])) τ → G τ := fun τ κ => pre τ (st6 τ κ)
      have pre : ∀ τ, Steps p.tables e below (T6.setTop (mkF m 19 #[.val (.ref a), .val (.ref a2), .val (.ref a2)] [])) τ → G τ := fun τ κ => pre τ (by
        refine XS.astoreN X6.here hx rfl (hb hby d4_18) rfl rfl (l' := #[.val (.ref a), .val (.ref a2), .val (.ref a2)]) rfl ?_
        show Steps p.tables e below (T6.setTop (mkF m 19 #[.val (.ref a), .val (.ref a2), .val (.ref a2)] [])) τ
        exact κ)
      obtain ⟨T7, X7, e7, st7⟩ := getS2 X6 hx hZ hown (host := "") (Or.inl (hw _ (List.mem_of_getElem? (i := 29) rfl))) Via.refl e6 S_c (g := (mkF m 19 #[.val (.ref a), .val (.ref a2), .val (.ref a2)] [])) rfl (hb hby d4_19)
      have pre : ∀ τ, Steps p.tables e below (T7.setTop (mkF m 22 #[.val (.ref a), .val (.ref a2), .val (.ref a2)] [(.int cw)])) τ → G τ := fun τ κ => pre τ (st7 τ κ)
      have hc8 : ¬ (cw = (0 : Int32)) := hcw
      have pre : ∀ τ, Steps p.tables e below (T7.setTop (mkF m 26 #[.val (.ref a), .val (.ref a2), .val (.ref a2)] [(.ref a)])) τ → G τ := fun τ κ => pre τ (by
        refine XS.ifNo X7.here hx rfl (hb hby d4_22) rfl ((if0 _ _).trans (feq hc8).1) ?_
        show Steps p.tables e below (T7.setTop (mkF m 25 #[.val (.ref a), .val (.ref a2), .val (.ref a2)] [])) τ
        refine XS.aloadN X7.here hx rfl (hb hby d4_25) rfl rfl ?_
        show Steps p.tables e below (T7.setTop (mkF m 26 #[.val (.ref a), .val (.ref a2), .val (.ref a2)] [(.ref a)])) τ
        exact κ)
      obtain ⟨T9, X9, e9, st9⟩ := getF X7 hx hZ hown (host := "") (Or.inl (hw _ (List.mem_of_getElem? (i := 30) rfl))) Via.refl e7 C_a1 (g := (mkF m 26 #[.val (.ref a), .val (.ref a2), .val (.ref a2)] [(.ref a)])) rfl rfl (hb hby d4_26)
      have pre : ∀ τ, Steps p.tables e below (T9.setTop (mkF m 29 #[.val (.ref a), .val (.ref a2), .val (.ref a2)] [(.int (0 : Int32))])) τ → G τ := fun τ κ => pre τ (st9 τ κ)
      have pre : ∀ τ, Steps p.tables e below (T9.setTop (mkF m 30 #[.val (.ref a), .val (.ref a2), .val (.ref a2)] [(.ref a2), (.int (0 : Int32))])) τ → G τ := fun τ κ => pre τ (by
        refine XS.aloadN X9.here hx rfl (hb hby d4_29) rfl rfl ?_
        show Steps p.tables e below (T9.setTop (mkF m 30 #[.val (.ref a), .val (.ref a2), .val (.ref a2)] [(.ref a2), (.int (0 : Int32))])) τ
        exact κ)
      obtain ⟨T10, X10, e10, st10⟩ := getF X9 hx hZ hown (host := "") (Or.inl (hw _ (List.mem_of_getElem? (i := 30) rfl))) Via.refl e9 C_a2 (g := (mkF m 30 #[.val (.ref a), .val (.ref a2), .val (.ref a2)] [(.ref a2), (.int (0 : Int32))])) rfl rfl (hb hby d4_30)
      have pre : ∀ τ, Steps p.tables e below (T10.setTop (mkF m 33 #[.val (.ref a), .val (.ref a2), .val (.ref a2)] [(.int (0 : Int32)), (.int (0 : Int32))])) τ → G τ := fun τ κ => pre τ (st10 τ κ)
      have hc11 : (0 : Int32) = (0 : Int32) := rfl
      have pre : ∀ τ, Steps p.tables e below (T10.setTop (mkF m 37 #[.val (.ref a), .val (.ref a2), .val (.ref a2)] [(.ref a)])) τ → G τ := fun τ κ => pre τ (by
        refine XS.icmpNo X10.here hx rfl (hb hby d4_33) rfl (teq hc11).2 ?_
        show Steps p.tables e below (T10.setTop (mkF m 36 #[.val (.ref a), .val (.ref a2), .val (.ref a2)] [])) τ
        refine XS.aloadN X10.here hx rfl (hb hby d4_36) rfl rfl ?_
        show Steps p.tables e below (T10.setTop (mkF m 37 #[.val (.ref a), .val (.ref a2), .val (.ref a2)] [(.ref a)])) τ
        exact κ)
      obtain ⟨T12, X12, e12, st12⟩ := getF X10 hx hZ hown (host := "") (Or.inl (hw _ (List.mem_of_getElem? (i := 31) rfl))) Via.refl e10 V_a1 (g := (mkF m 37 #[.val (.ref a), .val (.ref a2), .val (.ref a2)] [(.ref a)])) rfl rfl (hb hby d4_37)
      have pre : ∀ τ, Steps p.tables e below (T12.setTop (mkF m 40 #[.val (.ref a), .val (.ref a2), .val (.ref a2)] [(.ref b1)])) τ → G τ := fun τ κ => pre τ (st12 τ κ)
      have pre : ∀ τ, Steps p.tables e below (T12.setTop (mkF m 41 #[.val (.ref a), .val (.ref a2), .val (.ref a2)] [(.ref a2), (.ref b1)])) τ → G τ := fun τ κ => pre τ (by
        refine XS.aloadN X12.here hx rfl (hb hby d4_40) rfl rfl ?_
        show Steps p.tables e below (T12.setTop (mkF m 41 #[.val (.ref a), .val (.ref a2), .val (.ref a2)] [(.ref a2), (.ref b1)])) τ
        exact κ)
      obtain ⟨T13, X13, e13, st13⟩ := getF X12 hx hZ hown (host := "") (Or.inl (hw _ (List.mem_of_getElem? (i := 31) rfl))) Via.refl e12 V_a2 (g := (mkF m 41 #[.val (.ref a), .val (.ref a2), .val (.ref a2)] [(.ref a2), (.ref b1)])) rfl rfl (hb hby d4_41)
      have pre : ∀ τ, Steps p.tables e below (T13.setTop (mkF m 44 #[.val (.ref a), .val (.ref a2), .val (.ref a2)] [(.ref b2), (.ref b1)])) τ → G τ := fun τ κ => pre τ (st13 τ κ)
      obtain ⟨_, _, ⟨T14, Lx14, kx14, nx14⟩, -, X14, ⟨Lc14, hQ14, l14, y14, z14⟩, st14⟩ := Jvm.LawKit.callS X13 hx (y := (⟨"java/lang/StringLatin1", "equals", "([B[B)Z"⟩ : MethodName)) hown (mvT hZ (hw _ (List.mem_of_getElem? (i := 32) rfl))) (mvT hZ (hw _ (List.mem_of_getElem? (i := 33) rfl))) (mvT hZ (hw _ (List.mem_of_getElem? (i := 34) rfl))) (mvT hZ (hw _ (List.mem_of_getElem? (i := 35) rfl))) (by decide) (backOf (W := 0) (rm5 l Z a0 hw [] b1 b2 k1 z1 ta k2 z2 t2 h0 n0 Zn B_a1 B_a2 hl1 hl2) hZ (hw _ (List.mem_of_getElem? (i := 35) rfl)) (hw _ (List.mem_of_getElem? (i := 34) rfl)) (by decide) (by decide)) (g := (mkF m 44 #[.val (.ref a), .val (.ref a2), .val (.ref a2)] [(.ref b2), (.ref b1)])) rfl (by rw [hml]; rfl) (argsL := [(.ref b1), (.ref b2)]) (rest := []) (lenOf pd_0 rfl) rfl (by show 2 * 0 + _ ≤ _; exact Nat.le_of_eq rfl) (hb hby d4_44) (fun _ _ => ⟨rfl, e13, (by decide : 0 + 0 ≤ _), (by decide : 0 + 0 ≤ _)⟩)
      dsimp only [Pt.U, Pt.locs, Pt.cells, Pt.slots] at X14 l14 y14 z14 st14 hQ14
      replace y14 : kx14 = 0 := y14
      replace z14 : nx14 = 0 := z14
      subst y14 z14
      obtain ⟨rfl, Nq14, hs14⟩ := hQ14
      have NN : Fr n0 Lx14 := by rw [l14]; exact Fr.app N0 Nq14
      have pre : ∀ τ, Steps p.tables e below (T14.setTop (mkF m 47 #[.val (.ref a), .val (.ref a2), .val (.ref a2)] [(.int (own_eqb ta t2))])) τ → G τ := fun τ κ => pre τ (st14 τ κ)
      rcases Classical.em ((own_eqb ta t2) = (0 : Int32)) with hc47_15 | hc47_15
      ·
        have pre : ∀ τ, Steps p.tables e below (T14.setTop (mkF m 55 #[.val (.ref a), .val (.ref a2), .val (.ref a2)] [(.int (0 : Int32))])) τ → G τ := fun τ κ => pre τ (by
          refine XS.ifYes X14.here hx rfl (pc0 := 47) (pc' := 54) rfl (hb hby d4_47) rfl ((if0 _ _).trans (teq hc47_15).1) (by decide) (by decide) ?_
          show Steps p.tables e below (T14.setTop (mkF m 54 #[.val (.ref a), .val (.ref a2), .val (.ref a2)] [])) τ
          refine XS.iconst X14.here hx rfl (hb hby d4_54) ?_
          show Steps p.tables e below (T14.setTop (mkF m 55 #[.val (.ref a), .val (.ref a2), .val (.ref a2)] [(.int (0 : Int32))])) τ
          exact κ)
        obtain ⟨fsα, hr, hrun, hended, hW, hsame⟩ := X14.leave (v := some (.int (0 : Int32))) (fun h => by rw [Bd.returns] at h; cases h)
        refine hGL ⟨_, _, hG _ (pre _ ?_), hrun, hended, _, _, rfl, ?_, ⟨_, rfl⟩, hW, hsame.mono (by decide) (by decide)⟩
        · exact retN X14 hx (t := .boolean) Bd.returns (by simp) (hb hby d4_55) hr
        · show Q4 Z a vb ta ob cw h0 n0 _ T14.heap _
          rw [hs14]
          refine ⟨?_, NN, rfl⟩
          unfold own_eqt
          rw [if_neg (fun q => own_eqb0 hc47_15 (Option.some.inj (ho2.symm.trans q)).symm)]
      ·
        have pre : ∀ τ, Steps p.tables e below (T14.setTop (mkF m 55 #[.val (.ref a), .val (.ref a2), .val (.ref a2)] [(.int (1 : Int32))])) τ → G τ := fun τ κ => pre τ (by
          refine XS.ifNo X14.here hx rfl (hb hby d4_47) rfl ((if0 _ _).trans (feq hc47_15).1) ?_
          show Steps p.tables e below (T14.setTop (mkF m 50 #[.val (.ref a), .val (.ref a2), .val (.ref a2)] [])) τ
          refine XS.iconst X14.here hx rfl (hb hby d4_50) ?_
          show Steps p.tables e below (T14.setTop (mkF m 51 #[.val (.ref a), .val (.ref a2), .val (.ref a2)] [(.int (1 : Int32))])) τ
          refine XS.goto X14.here hx rfl (pc0 := 51) (pc' := 55) rfl (hb hby d4_51) (by decide) (by decide) ?_
          show Steps p.tables e below (T14.setTop (mkF m 55 #[.val (.ref a), .val (.ref a2), .val (.ref a2)] [(.int (1 : Int32))])) τ
          exact κ)
        obtain ⟨fsα, hr, hrun, hended, hW, hsame⟩ := X14.leave (v := some (.int (1 : Int32))) (fun h => by rw [Bd.returns] at h; cases h)
        refine hGL ⟨_, _, hG _ (pre _ ?_), hrun, hended, _, _, rfl, ?_, ⟨_, rfl⟩, hW, hsame.mono (by decide) (by decide)⟩
        · exact retN X14 hx (t := .boolean) Bd.returns (by simp) (hb hby d4_55) hr
        · show Q4 Z a vb ta ob cw h0 n0 _ T14.heap _
          rw [hs14]
          refine ⟨?_, NN, rfl⟩
          unfold own_eqt
          rw [if_pos (by rw [ho2]; exact congrArg some (own_eqb1 hc47_15).symm)]
theorem pn_2 : plainName "java/util/Arrays" = true := by first | (simp [plainName, overriddenIn]; done) | decide +kernel
theorem d9_0 : decode jdk_65_method_117_code 0 = .ok (.iconst 0, 1) := by decide +kernel
theorem d9_1 : decode jdk_65_method_117_code 1 = .ok (.istore_n 2, 1) := by decide +kernel
theorem d9_2 : decode jdk_65_method_117_code 2 = .ok (.aload_n 0, 1) := by decide +kernel
theorem d9_3 : decode jdk_65_method_117_code 3 = .ok (.arraylength, 1) := by decide +kernel
theorem d9_4 : decode jdk_65_method_117_code 4 = .ok (.istore_n 3, 1) := by decide +kernel
theorem d9_5 : decode jdk_65_method_117_code 5 = .ok (.iload_n 2, 1) := by decide +kernel
theorem d9_6 : decode jdk_65_method_117_code 6 = .ok (.iload_n 3, 1) := by decide +kernel
theorem d9_7 : decode jdk_65_method_117_code 7 = .ok (.if_icmp .ge 13, 3) := by decide +kernel
theorem d9_20 : decode jdk_65_method_117_code 20 = .ok (.return_, 1) := by decide +kernel
theorem d9_10 : decode jdk_65_method_117_code 10 = .ok (.aload_n 0, 1) := by decide +kernel
theorem d9_11 : decode jdk_65_method_117_code 11 = .ok (.iload_n 2, 1) := by decide +kernel
theorem d9_12 : decode jdk_65_method_117_code 12 = .ok (.aload_n 1, 1) := by decide +kernel
theorem d9_13 : decode jdk_65_method_117_code 13 = .ok (.aastore, 1) := by decide +kernel
theorem d9_14 : decode jdk_65_method_117_code 14 = .ok (.iinc 2 1, 3) := by decide +kernel
theorem d9_17 : decode jdk_65_method_117_code 17 = .ok (.goto (-12), 3) := by decide +kernel
theorem ef_9 (m : MethodId) (x0 : Addr) : entryFrame m #[(.ref x0), .null] 4 = mkF m 0 #[.val (.ref x0), .val .null, .unset, .unset] [] := by first | (simp [entryFrame, mkF, argsToLocals, Value.category]; done) | rfl
def Q9 (Z : State) (arr : Addr) (ka : ClassId) (z : Int32) (ls : List Value) (h0 : Heap) (n0 : Nat) (vα : Option Value) (hα : Heap) (Lα : List Loc) : Prop := vα = none ∧ Fr n0 Lα ∧ Keep h0 hα [arr] ∧ Arv Z hα arr ka (.object "java/lang/String") z (List.replicate z.toNatClampNeg .null) .null
set_option maxRecDepth 65536 in
set_option maxHeartbeats 40000000 in
theorem rm9 (l : Launch) (Z : State) (a0 : Array Value) (hw : ∀ d ∈ tables_1, d.before a0 Z = true) (ws : List Jvm.Cond) (arr : Addr) (ka : ClassId) (z : Int32) (ls : List Value) (h0 : Heap) (n0 : Nat) (Z0 : n0 ≤ h0.size) (g_arr : n0 ≤ arr) (V_arr : Arv Z h0 arr ka (.object "java/lang/String") z ls .null) (hl : ls.length = z.toNatClampNeg) :
    MetFree l (⟨"java/util/Arrays", "fill", "([Ljava/lang/Object;Ljava/lang/Object;)V"⟩ : MethodName) (head1 (Jvm.Cond.code (⟨"java/util/Arrays", "fill", "([Ljava/lang/Object;Ljava/lang/Object;)V"⟩ : MethodName) jdk_65_method_117_code 4 none :: ws) ({ frames := 0, cells := 0, slots := 0, locals := 0 } : Room)) (fun aα U => aα = #[(.ref arr), .null] ∧ Z.Warmed39 U.vm ∧ U.heap = h0) (fun _ _ _ _ _ => True) (fun _ U oα U' => ∃ vα Lα, oα = .returned vα ∧ Q9 Z arr ka z ls h0 n0 vα U'.heap Lα ∧ FrameEnd U oα U' Lα ({ frames := 0, cells := 0, slots := 0, locals := 0 } : Room).cells ({ frames := 0, cells := 0, slots := 0, locals := 0 } : Room).slots) := by
  refine MetFree.of_bodySF (plainFor_of_name pn_2) hisR ?_
  intro p e s m args below meth c s₁ Bd hml0 hP hK
  refine own_wrap ?_
  intro GL hGL
  obtain ⟨rfl, hZ, hh⟩ := hP
  have hx := Bd.exec
  have hby := Bd.bytes
  have hml : c.maxLocals = 4 := hml0
  have hown : s.vm.findClass "java/util/Arrays" = some m.cls := findClass_of_methodNamed Bd.named
  have hnm := (name_of_methodNamed Bd.named Bd.method).1
  have X0 : Stand p l e ({ frames := 0, cells := 0, slots := 0, locals := 0 } : Room) s m #[(.ref arr), .null] below meth c s₁ [] 0 0 := Stand.of_body Bd
  have e0 : s₁.heap = h0 := by rw [← hh, Bd.state]; rfl
  have N0 := Fr.nil n0
  have pre0 : ∀ τ, Steps p.tables e below (s₁.setTop (mkF m 0 #[.val (.ref arr), .val .null, .unset, .unset] [])) τ → Steps p.tables e below (s₁.setTop (entryFrame m #[(.ref arr), .null] 4)) τ := fun τ κ => castTop (ef_9 m arr) κ
  obtain ⟨G, hG, pre⟩ : ∃ G : State → Prop, (∀ τ, G τ → Steps p.tables e below (s₁.setTop (entryFrame m #[(.ref arr), .null] 4)) τ) ∧ ∀ τ, Steps p.tables e below (s₁.setTop (mkF m 0 #[.val (.ref arr), .val .null, .unset, .unset] [])) τ → G τ := ⟨_, pre0, fun _ k => k⟩
  have K : Keep h0 h0 [arr] := Keep.refl h0 _
  have Zn := Z0
  have pre : ∀ τ, Steps p.tables e below (s₁.setTop (mkF m 3 #[.val (.ref arr), .val .null, .val (.int (0 : Int32)), .unset] [(.ref arr)])) τ → G τ := fun τ κ => pre τ (by
    refine XS.iconst X0.here hx rfl (hb hby d9_0) ?_
    show Steps p.tables e below (s₁.setTop (mkF m 1 #[.val (.ref arr), .val .null, .unset, .unset] [(.int (0 : Int32))])) τ
    refine XS.istoreN X0.here hx rfl (hb hby d9_1) rfl (l' := #[.val (.ref arr), .val .null, .val (.int (0 : Int32)), .unset]) rfl ?_
    show Steps p.tables e below (s₁.setTop (mkF m 2 #[.val (.ref arr), .val .null, .val (.int (0 : Int32)), .unset] [])) τ
    refine XS.aloadN X0.here hx rfl (hb hby d9_2) rfl rfl ?_
    show Steps p.tables e below (s₁.setTop (mkF m 3 #[.val (.ref arr), .val .null, .val (.int (0 : Int32)), .unset] [(.ref arr)])) τ
    exact κ)
  obtain ⟨c1, Ar1, -, S1, N1, -, -⟩ := id V_arr
  have pre : ∀ τ, Steps p.tables e below (s₁.setTop (mkF m 4 #[.val (.ref arr), .val .null, .val (.int (0 : Int32)), .unset] [(.int z)])) τ → G τ := fun τ κ => pre τ (by
    refine X0.arraylength hx (by rw [e0]; exact Ar1.1) (State.isArrayOf_alike hZ.alike Ar1.2.1) (g := (mkF m 3 #[.val (.ref arr), .val .null, .val (.int (0 : Int32)), .unset] [(.ref arr)])) rfl rfl (hb hby d9_3) _ ?_
    rw [len_of S1 N1]
    exact κ)
  have pre : ∀ τ, Steps p.tables e below (s₁.setTop (mkF m 5 #[.val (.ref arr), .val .null, .val (.int (0 : Int32)), .val (.int z)] [])) τ → G τ := fun τ κ => pre τ (by
    refine XS.istoreN X0.here hx rfl (hb hby d9_4) rfl (l' := #[.val (.ref arr), .val .null, .val (.int (0 : Int32)), .val (.int z)]) rfl ?_
    show Steps p.tables e below (s₁.setTop (mkF m 5 #[.val (.ref arr), .val .null, .val (.int (0 : Int32)), .val (.int z)] [])) τ
    exact κ)
  have loop : ∀ (n : Nat) (i : Int32) (lsl : List Value) (Tl : State) (ll : List Loc) (hl : Heap) (Xl : Stand p l e ({ frames := 0, cells := 0, slots := 0, locals := 0 } : Room) s m #[(.ref arr), .null] below meth c Tl ll 0 0) (el : Tl.heap = hl) (NNl : Fr n0 ll) (K : Keep h0 hl [arr]) (Zn : n0 ≤ hl.size) (V_arr : Arv Z hl arr ka (.object "java/lang/String") z lsl .null) (hn : i.toInt + (n : Int) = z.toInt) (hi0 : 0 ≤ i.toInt) (hll : lsl.length = z.toNatClampNeg) (hnl : ∀ j, j < i.toNatClampNeg → lsl.getD j .null = .null) (pre : ∀ τ, Steps p.tables e below (Tl.setTop (mkF m 5 #[.val (.ref arr), .val .null, .val (.int i), .val (.int z)] [])) τ → G τ), GL := by
    intro n
    induction n with
    | zero =>
      intro i lsl Tl ll hl Xl el NNl K Zn V_arr hn hi0 hll hnl pre
      have pre : ∀ τ, Steps p.tables e below (Tl.setTop (mkF m 7 #[.val (.ref arr), .val .null, .val (.int i), .val (.int z)] [(.int z), (.int i)])) τ → G τ := fun τ κ => pre τ (by
        refine XS.iloadN Xl.here hx rfl (hb hby d9_5) rfl ?_
        show Steps p.tables e below (Tl.setTop (mkF m 6 #[.val (.ref arr), .val .null, .val (.int i), .val (.int z)] [(.int i)])) τ
        refine XS.iloadN Xl.here hx rfl (hb hby d9_6) rfl ?_
        show Steps p.tables e below (Tl.setTop (mkF m 7 #[.val (.ref arr), .val .null, .val (.int i), .val (.int z)] [(.int z), (.int i)])) τ
        exact κ)
      have hc2 : ¬ (i < z) := own_lz hn
      have pre : ∀ τ, Steps p.tables e below (Tl.setTop (mkF m 20 #[.val (.ref arr), .val .null, .val (.int i), .val (.int z)] [])) τ → G τ := fun τ κ => pre τ (by
        refine XS.icmpYes Xl.here hx rfl (pc0 := 7) (pc' := 20) rfl (hb hby d9_7) rfl (flt hc2).2.1 (by decide) (by decide) ?_
        show Steps p.tables e below (Tl.setTop (mkF m 20 #[.val (.ref arr), .val .null, .val (.int i), .val (.int z)] [])) τ
        exact κ)
      obtain ⟨fsα, hr, hrun, hended, hW, hsame⟩ := Xl.leave (v := none) (fun _ => rfl)
      refine hGL ⟨_, _, hG _ (pre _ ?_), hrun, hended, _, _, rfl, ?_, ⟨_, rfl⟩, hW, hsame.mono (by decide) (by decide)⟩
      · exact Xl.returnOut hx Bd.returns (hb hby d9_20) hr
      · show Q9 Z arr ka z ls h0 n0 _ Tl.heap _
        rw [el]
        exact ⟨rfl, NNl, K, own_allnull hll hi0 hn hnl ▸ V_arr⟩
    | succ n ih =>
      intro i lsl Tl ll hl Xl el NNl K Zn V_arr hn hi0 hll hnl pre
      have pre : ∀ τ, Steps p.tables e below (Tl.setTop (mkF m 7 #[.val (.ref arr), .val .null, .val (.int i), .val (.int z)] [(.int z), (.int i)])) τ → G τ := fun τ κ => pre τ (by
        refine XS.iloadN Xl.here hx rfl (hb hby d9_5) rfl ?_
        show Steps p.tables e below (Tl.setTop (mkF m 6 #[.val (.ref arr), .val .null, .val (.int i), .val (.int z)] [(.int i)])) τ
        refine XS.iloadN Xl.here hx rfl (hb hby d9_6) rfl ?_
        show Steps p.tables e below (Tl.setTop (mkF m 7 #[.val (.ref arr), .val .null, .val (.int i), .val (.int z)] [(.int z), (.int i)])) τ
        exact κ)
      have hc3 : i < z := own_ls hn
      have pre : ∀ τ, Steps p.tables e below (Tl.setTop (mkF m 13 #[.val (.ref arr), .val .null, .val (.int i), .val (.int z)] [.null, (.int i), (.ref arr)])) τ → G τ := fun τ κ => pre τ (by
        refine XS.icmpNo Xl.here hx rfl (hb hby d9_7) rfl (tlt hc3).2.1 ?_
        show Steps p.tables e below (Tl.setTop (mkF m 10 #[.val (.ref arr), .val .null, .val (.int i), .val (.int z)] [])) τ
        refine XS.aloadN Xl.here hx rfl (hb hby d9_10) rfl rfl ?_
        show Steps p.tables e below (Tl.setTop (mkF m 11 #[.val (.ref arr), .val .null, .val (.int i), .val (.int z)] [(.ref arr)])) τ
        refine XS.iloadN Xl.here hx rfl (hb hby d9_11) rfl ?_
        show Steps p.tables e below (Tl.setTop (mkF m 12 #[.val (.ref arr), .val .null, .val (.int i), .val (.int z)] [(.int i), (.ref arr)])) τ
        refine XS.aloadN Xl.here hx rfl (hb hby d9_12) rfl rfl ?_
        show Steps p.tables e below (Tl.setTop (mkF m 13 #[.val (.ref arr), .val .null, .val (.int i), .val (.int z)] [.null, (.int i), (.ref arr)])) τ
        exact κ)
      obtain ⟨c4, Ar4, q4, S4, Nz4, Hh4, Gg4⟩ := id V_arr
      have hin4 : ¬ (i < 0 ∨ c4.slots.size ≤ (i).toNatClampNeg) := inb_of S4 (own_lb hi0 hn)
      obtain ⟨T4, h4, X4, e4, W4, st4⟩ := stR Xl hx hZ el Ar4 (j := i) hin4 rfl (Or.inl rfl) (g := (mkF m 13 #[.val (.ref arr), .val .null, .val (.int i), .val (.int z)] [.null, (.int i), (.ref arr)])) rfl rfl (hb hby d9_13)
      have V_arr : Arv Z h4 arr ka (.object "java/lang/String") z (lsl.set (i).toNatClampNeg .null) .null := Arv.set Ar4 q4 S4 Nz4 Hh4 Gg4 rfl W4 _ rfl (own_lt2 (own_lb hi0 hn) hll)
      have Zn : n0 ≤ h4.size := Nat.le_trans Zn (Keep.of_wr W4).1
      have K : Keep h0 h4 [arr] := K.wr W4 (Or.inl (List.mem_of_getElem? (i := 0) rfl))
      have NN := Fr.snoc X4 NNl g_arr
      have pre : ∀ τ, Steps p.tables e below (T4.setTop (mkF m 14 #[.val (.ref arr), .val .null, .val (.int i), .val (.int z)] [])) τ → G τ := fun τ κ => pre τ (st4 τ κ)
      have pre : ∀ τ, Steps p.tables e below (T4.setTop (mkF m 5 #[.val (.ref arr), .val .null, .val (.int (i + (1 : Int32))), .val (.int z)] [])) τ → G τ := fun τ κ => pre τ (by
        refine XS.iinc X4.here hx rfl (hb hby d9_14) rfl (l' := #[.val (.ref arr), .val .null, .val (.int (i + (1 : Int32))), .val (.int z)]) rfl ?_
        show Steps p.tables e below (T4.setTop (mkF m 17 #[.val (.ref arr), .val .null, .val (.int (i + (1 : Int32))), .val (.int z)] [])) τ
        refine XS.goto X4.here hx rfl (pc0 := 17) (pc' := 5) rfl (hb hby d9_17) (by decide) (by decide) ?_
        show Steps p.tables e below (T4.setTop (mkF m 5 #[.val (.ref arr), .val .null, .val (.int (i + (1 : Int32))), .val (.int z)] [])) τ
        exact κ)
      exact ih (i + (1 : Int32)) (lsl.set (i).toNatClampNeg .null) T4 _ h4 X4 e4 NN K Zn V_arr (own_l1 hi0 hn) (own_l2 hi0 hn) (by rw [List.length_set]; exact hll) (own_nulls hll hi0 hn hnl) pre
  exact loop z.toInt.toNat (0 : Int32) ls s₁ _ h0 X0 e0 N0 K Zn V_arr (own_l0 (own_arvn V_arr)) (by decide) hl (fun j hj => absurd hj (Nat.not_lt_zero j)) pre
theorem pn_3 : plainName "coppice/marshal/context/NamespaceScope" = true := by first | (simp [plainName, overriddenIn]; done) | decide +kernel
theorem d10_0 : decode prog_2_method_4_code 0 = .ok (.aload_n 0, 1) := by decide +kernel
theorem d10_1 : decode prog_2_method_4_code 1 = .ok (.getfield 35, 3) := by decide +kernel
theorem d10_4 : decode prog_2_method_4_code 4 = .ok (.ireturn, 1) := by decide +kernel
theorem ef_10 (m : MethodId) (x0 : Addr) : entryFrame m #[(.ref x0)] 1 = mkF m 0 #[.val (.ref x0)] [] := by first | (simp [entryFrame, mkF, argsToLocals, Value.category]; done) | rfl
def Q10 (Z : State) (o : Addr) (uc : Int32) (h0 : Heap) (n0 : Nat) (vα : Option Value) (hα : Heap) (Lα : List Loc) : Prop := vα = some (.int uc) ∧ Fr n0 Lα ∧ hα = h0
set_option maxRecDepth 65536 in
set_option maxHeartbeats 40000000 in
theorem rm10 (l : Launch) (Z : State) (a0 : Array Value) (hw : ∀ d ∈ tables_1, d.before a0 Z = true) (ws : List Jvm.Cond) (o : Addr) (uc : Int32) (h0 : Heap) (n0 : Nat) (Z0 : n0 ≤ h0.size) (F_uc : Fld Z h0 o "coppice/marshal/context/NamespaceScope" "undoCount" "I" (.int uc)) :
    MetFree l (⟨"coppice/marshal/context/NamespaceScope", "mark", "()I"⟩ : MethodName) (head1 (Jvm.Cond.code (⟨"coppice/marshal/context/NamespaceScope", "mark", "()I"⟩ : MethodName) prog_2_method_4_code 1 (some .int) :: ws) ({ frames := 0, cells := 0, slots := 0, locals := 0 } : Room)) (fun aα U => aα = #[(.ref o)] ∧ Z.Warmed39 U.vm ∧ U.heap = h0) (fun _ _ _ _ _ => True) (fun _ U oα U' => ∃ vα Lα, oα = .returned vα ∧ Q10 Z o uc h0 n0 vα U'.heap Lα ∧ FrameEnd U oα U' Lα ({ frames := 0, cells := 0, slots := 0, locals := 0 } : Room).cells ({ frames := 0, cells := 0, slots := 0, locals := 0 } : Room).slots) := by
  refine MetFree.of_bodySF (plainFor_of_name pn_3) hisR ?_
  intro p e s m args below meth c s₁ Bd hml0 hP hK
  refine own_wrap ?_
  intro GL hGL
  obtain ⟨rfl, hZ, hh⟩ := hP
  have hx := Bd.exec
  have hby := Bd.bytes
  have hml : c.maxLocals = 1 := hml0
  have hown : s.vm.findClass "coppice/marshal/context/NamespaceScope" = some m.cls := findClass_of_methodNamed Bd.named
  have hnm := (name_of_methodNamed Bd.named Bd.method).1
  have X0 : Stand p l e ({ frames := 0, cells := 0, slots := 0, locals := 0 } : Room) s m #[(.ref o)] below meth c s₁ [] 0 0 := Stand.of_body Bd
  have e0 : s₁.heap = h0 := by rw [← hh, Bd.state]; rfl
  have N0 := Fr.nil n0
  have pre0 : ∀ τ, Steps p.tables e below (s₁.setTop (mkF m 0 #[.val (.ref o)] [])) τ → Steps p.tables e below (s₁.setTop (entryFrame m #[(.ref o)] 1)) τ := fun τ κ => castTop (ef_10 m o) κ
  obtain ⟨G, hG, pre⟩ : ∃ G : State → Prop, (∀ τ, G τ → Steps p.tables e below (s₁.setTop (entryFrame m #[(.ref o)] 1)) τ) ∧ ∀ τ, Steps p.tables e below (s₁.setTop (mkF m 0 #[.val (.ref o)] [])) τ → G τ := ⟨_, pre0, fun _ k => k⟩
  have K : Keep h0 h0 [] := Keep.refl h0 _
  have Zn := Z0
  have pre : ∀ τ, Steps p.tables e below (s₁.setTop (mkF m 1 #[.val (.ref o)] [(.ref o)])) τ → G τ := fun τ κ => pre τ (by
    refine XS.aloadN X0.here hx rfl (hb hby d10_0) rfl rfl ?_
    show Steps p.tables e below (s₁.setTop (mkF m 1 #[.val (.ref o)] [(.ref o)])) τ
    exact κ)
  obtain ⟨T1, X1, e1, st1⟩ := getF X0 hx hZ hown (host := "") (Or.inl (hw _ (List.mem_of_getElem? (i := 64) rfl))) Via.refl e0 F_uc (g := (mkF m 1 #[.val (.ref o)] [(.ref o)])) rfl rfl (hb hby d10_1)
  have pre : ∀ τ, Steps p.tables e below (T1.setTop (mkF m 4 #[.val (.ref o)] [(.int uc)])) τ → G τ := fun τ κ => pre τ (st1 τ κ)
  obtain ⟨fsα, hr, hrun, hended, hW, hsame⟩ := X1.leave (v := some (.int uc)) (fun h => by rw [Bd.returns] at h; cases h)
  refine hGL ⟨_, _, hG _ (pre _ ?_), hrun, hended, _, _, rfl, ?_, ⟨_, rfl⟩, hW, hsame.mono (by decide) (by decide)⟩
  · exact retOut X1 hx Bd.returns rfl (Or.inl ⟨rfl, Or.inl rfl, _, rfl⟩) (hb hby d10_4) hr
  · show Q10 Z o uc h0 n0 _ T1.heap _
    rw [e1]
    exact ⟨rfl, N0, rfl⟩
theorem d14_0 : decode prog_2_method_3_code 0 = .ok (.aload_n 0, 1) := by decide +kernel
theorem d14_1 : decode prog_2_method_3_code 1 = .ok (.getfield 19, 3) := by decide +kernel
theorem d14_4 : decode prog_2_method_3_code 4 = .ok (.iload_n 1, 1) := by decide +kernel
theorem d14_5 : decode prog_2_method_3_code 5 = .ok (.aaload, 1) := by decide +kernel
theorem d14_6 : decode prog_2_method_3_code 6 = .ok (.areturn, 1) := by decide +kernel
theorem ef_14 (m : MethodId) (x0 : Addr) (x1 : Int32) : entryFrame m #[(.ref x0), (.int x1)] 2 = mkF m 0 #[.val (.ref x0), .val (.int x1)] [] := by first | (simp [entryFrame, mkF, argsToLocals, Value.category]; done) | rfl
def Q14 (Z : State) (o : Addr) (i : Int32) (pf : Addr) (kf : ClassId) (nz : Int32) (pfs : List Value) (po : List own_T) (h0 : Heap) (n0 : Nat) (vα : Option Value) (hα : Heap) (Lα : List Loc) : Prop := vα = some (pfs.getD (i).toNatClampNeg .null) ∧ Fr n0 Lα ∧ hα = h0 ∧ own_S Z hα (pfs.getD (i).toNatClampNeg .null) (po.getD (i).toNatClampNeg none)
set_option maxRecDepth 65536 in
set_option maxHeartbeats 40000000 in
theorem rm14 (l : Launch) (Z : State) (a0 : Array Value) (hw : ∀ d ∈ tables_1, d.before a0 Z = true) (ws : List Jvm.Cond) (o : Addr) (i : Int32) (pf : Addr) (kf : ClassId) (nz : Int32) (pfs : List Value) (po : List own_T) (h0 : Heap) (n0 : Nat) (Z0 : n0 ≤ h0.size) (F_pf : Fld Z h0 o "coppice/marshal/context/NamespaceScope" "prefixes" "[Ljava/lang/String;" (.ref pf)) (V_pf : Arv Z h0 pf kf (.object "java/lang/String") nz pfs .null) (L_pf : own_SL Z h0 pfs po) (hk : ¬ i < 0 ∧ i < nz) :
    MetFree l (⟨"coppice/marshal/context/NamespaceScope", "prefix", "(I)Ljava/lang/String;"⟩ : MethodName) (head1 (Jvm.Cond.code (⟨"coppice/marshal/context/NamespaceScope", "prefix", "(I)Ljava/lang/String;"⟩ : MethodName) prog_2_method_3_code 2 (some (.object "java/lang/String")) :: ws) ({ frames := 0, cells := 0, slots := 0, locals := 0 } : Room)) (fun aα U => aα = #[(.ref o), (.int i)] ∧ Z.Warmed39 U.vm ∧ U.heap = h0) (fun _ _ _ _ _ => True) (fun _ U oα U' => ∃ vα Lα, oα = .returned vα ∧ Q14 Z o i pf kf nz pfs po h0 n0 vα U'.heap Lα ∧ FrameEnd U oα U' Lα ({ frames := 0, cells := 0, slots := 0, locals := 0 } : Room).cells ({ frames := 0, cells := 0, slots := 0, locals := 0 } : Room).slots) := by
  refine MetFree.of_bodySF (plainFor_of_name pn_3) hisR ?_
  intro p e s m args below meth c s₁ Bd hml0 hP hK
  refine own_wrap ?_
  intro GL hGL
  obtain ⟨rfl, hZ, hh⟩ := hP
  have hx := Bd.exec
  have hby := Bd.bytes
  have hml : c.maxLocals = 2 := hml0
  have hown : s.vm.findClass "coppice/marshal/context/NamespaceScope" = some m.cls := findClass_of_methodNamed Bd.named
  have hnm := (name_of_methodNamed Bd.named Bd.method).1
  have X0 : Stand p l e ({ frames := 0, cells := 0, slots := 0, locals := 0 } : Room) s m #[(.ref o), (.int i)] below meth c s₁ [] 0 0 := Stand.of_body Bd
  have e0 : s₁.heap = h0 := by rw [← hh, Bd.state]; rfl
  have N0 := Fr.nil n0
  have pre0 : ∀ τ, Steps p.tables e below (s₁.setTop (mkF m 0 #[.val (.ref o), .val (.int i)] [])) τ → Steps p.tables e below (s₁.setTop (entryFrame m #[(.ref o), (.int i)] 2)) τ := fun τ κ => castTop (ef_14 m o i) κ
  obtain ⟨G, hG, pre⟩ : ∃ G : State → Prop, (∀ τ, G τ → Steps p.tables e below (s₁.setTop (entryFrame m #[(.ref o), (.int i)] 2)) τ) ∧ ∀ τ, Steps p.tables e below (s₁.setTop (mkF m 0 #[.val (.ref o), .val (.int i)] [])) τ → G τ := ⟨_, pre0, fun _ k => k⟩
  have K : Keep h0 h0 [] := Keep.refl h0 _
  have Zn := Z0
  have pre : ∀ τ, Steps p.tables e below (s₁.setTop (mkF m 1 #[.val (.ref o), .val (.int i)] [(.ref o)])) τ → G τ := fun τ κ => pre τ (by
    refine XS.aloadN X0.here hx rfl (hb hby d14_0) rfl rfl ?_
    show Steps p.tables e below (s₁.setTop (mkF m 1 #[.val (.ref o), .val (.int i)] [(.ref o)])) τ
    exact κ)
  obtain ⟨T1, X1, e1, st1⟩ := getF X0 hx hZ hown (host := "") (Or.inl (hw _ (List.mem_of_getElem? (i := 51) rfl))) Via.refl e0 F_pf (g := (mkF m 1 #[.val (.ref o), .val (.int i)] [(.ref o)])) rfl rfl (hb hby d14_1)
  have pre : ∀ τ, Steps p.tables e below (T1.setTop (mkF m 4 #[.val (.ref o), .val (.int i)] [(.ref pf)])) τ → G τ := fun τ κ => pre τ (st1 τ κ)
  have pre : ∀ τ, Steps p.tables e below (T1.setTop (mkF m 5 #[.val (.ref o), .val (.int i)] [(.int i), (.ref pf)])) τ → G τ := fun τ κ => pre τ (by
    refine XS.iloadN X1.here hx rfl (hb hby d14_4) rfl ?_
    show Steps p.tables e below (T1.setTop (mkF m 5 #[.val (.ref o), .val (.int i)] [(.int i), (.ref pf)])) τ
    exact κ)
  obtain ⟨c2, Ar2, q2, S2, Nz2, Hh2, Gg2⟩ := id V_pf
  have F_r : own_S Z h0 (pfs.getD (i).toNatClampNeg .null) (po.getD (i).toNatClampNeg none) := L_pf.2 _
  have hin2 : ¬ (i < 0 ∨ c2.slots.size ≤ (i).toNatClampNeg) := inb_of S2 hk
  have hat2 : c2.slots[(i).toNatClampNeg]? = some (pfs.getD (i).toNatClampNeg .null) := Hh2.at hin2 rfl
  have pre : ∀ τ, Steps p.tables e below (T1.setTop (mkF m 6 #[.val (.ref o), .val (.int i)] [(pfs.getD (i).toNatClampNeg .null)])) τ → G τ := fun τ κ => pre τ (X1.aaload hx (j := i) (v := (pfs.getD (i).toNatClampNeg .null)) (by rw [e1]; exact Ar2.1) (State.isArrayOf_alike hZ.alike Ar2.2.1) rfl Ar2.2.2 hin2 hat2 (g := (mkF m 5 #[.val (.ref o), .val (.int i)] [(.int i), (.ref pf)])) rfl rfl (hb hby d14_5) _ κ)
  obtain ⟨fsα, hr, hrun, hended, hW, hsame⟩ := X1.leave (v := some (pfs.getD (i).toNatClampNeg .null)) (fun h => by rw [Bd.returns] at h; cases h)
  refine hGL ⟨_, _, hG _ (pre _ ?_), hrun, hended, _, _, rfl, ?_, ⟨_, rfl⟩, hW, hsame.mono (by decide) (by decide)⟩
  · exact retOut X1 hx Bd.returns rfl (Or.inr (Or.inr (Or.inr (Or.inr ⟨rfl, rfl, (own_S_ref F_r)⟩)))) (hb hby d14_6) hr
  · show Q14 Z o i pf kf nz pfs po h0 n0 _ T1.heap _
    rw [e1]
    exact ⟨rfl, N0, rfl, F_r⟩
theorem d12_0 : decode prog_2_method_7_code 0 = .ok (.aload_n 0, 1) := by decide +kernel
theorem d12_1 : decode prog_2_method_7_code 1 = .ok (.getfield 35, 3) := by decide +kernel
theorem d12_4 : decode prog_2_method_7_code 4 = .ok (.aload_n 0, 1) := by decide +kernel
theorem d12_5 : decode prog_2_method_7_code 5 = .ok (.getfield 7, 3) := by decide +kernel
theorem d12_8 : decode prog_2_method_7_code 8 = .ok (.arraylength, 1) := by decide +kernel
theorem d12_9 : decode prog_2_method_7_code 9 = .ok (.if_icmp .ne 40, 3) := by decide +kernel
theorem d12_49 : decode prog_2_method_7_code 49 = .ok (.aload_n 0, 1) := by decide +kernel
theorem d12_50 : decode prog_2_method_7_code 50 = .ok (.getfield 7, 3) := by decide +kernel
theorem d12_53 : decode prog_2_method_7_code 53 = .ok (.aload_n 0, 1) := by decide +kernel
theorem d12_54 : decode prog_2_method_7_code 54 = .ok (.getfield 35, 3) := by decide +kernel
theorem d12_57 : decode prog_2_method_7_code 57 = .ok (.iload_n 1, 1) := by decide +kernel
theorem d12_58 : decode prog_2_method_7_code 58 = .ok (.iastore, 1) := by decide +kernel
theorem d12_59 : decode prog_2_method_7_code 59 = .ok (.aload_n 0, 1) := by decide +kernel
theorem d12_60 : decode prog_2_method_7_code 60 = .ok (.getfield 15, 3) := by decide +kernel
theorem d12_63 : decode prog_2_method_7_code 63 = .ok (.aload_n 0, 1) := by decide +kernel
theorem d12_64 : decode prog_2_method_7_code 64 = .ok (.getfield 35, 3) := by decide +kernel
theorem d12_67 : decode prog_2_method_7_code 67 = .ok (.aload_n 0, 1) := by decide +kernel
theorem d12_68 : decode prog_2_method_7_code 68 = .ok (.getfield 19, 3) := by decide +kernel
theorem d12_71 : decode prog_2_method_7_code 71 = .ok (.iload_n 1, 1) := by decide +kernel
theorem d12_72 : decode prog_2_method_7_code 72 = .ok (.aaload, 1) := by decide +kernel
theorem d12_73 : decode prog_2_method_7_code 73 = .ok (.aastore, 1) := by decide +kernel
theorem d12_74 : decode prog_2_method_7_code 74 = .ok (.aload_n 0, 1) := by decide +kernel
theorem d12_75 : decode prog_2_method_7_code 75 = .ok (.dup, 1) := by decide +kernel
theorem d12_76 : decode prog_2_method_7_code 76 = .ok (.getfield 35, 3) := by decide +kernel
theorem d12_79 : decode prog_2_method_7_code 79 = .ok (.iconst 1, 1) := by decide +kernel
theorem d12_80 : decode prog_2_method_7_code 80 = .ok (.iadd, 1) := by decide +kernel
theorem d12_81 : decode prog_2_method_7_code 81 = .ok (.putfield 35, 3) := by decide +kernel
theorem d12_84 : decode prog_2_method_7_code 84 = .ok (.aload_n 0, 1) := by decide +kernel
theorem d12_85 : decode prog_2_method_7_code 85 = .ok (.getfield 19, 3) := by decide +kernel
theorem d12_88 : decode prog_2_method_7_code 88 = .ok (.iload_n 1, 1) := by decide +kernel
theorem d12_89 : decode prog_2_method_7_code 89 = .ok (.aload_n 2, 1) := by decide +kernel
theorem d12_90 : decode prog_2_method_7_code 90 = .ok (.aastore, 1) := by decide +kernel
theorem d12_91 : decode prog_2_method_7_code 91 = .ok (.return_, 1) := by decide +kernel
theorem ef_12 (m : MethodId) (x0 : Addr) (x1 : Int32) (x2 : Value) (hx2 : x2.isRef = true) : entryFrame m #[(.ref x0), (.int x1), x2] 3 = mkF m 0 #[.val (.ref x0), .val (.int x1), .val x2] [] := by
  all_goals (cases x2 <;> first | (simp [Value.isRef] at hx2; done) | skip)
  all_goals first | (simp [entryFrame, mkF, argsToLocals, Value.category]; done) | rfl
def Q12 (Z : State) (o : Addr) (i : Int32) (v : Value) (un : Addr) (up : Addr) (pf : Addr) (ku : ClassId) (kp : ClassId) (kf : ClassId) (nz : Int32) (uc : Int32) (us : List Value) (ups : List Value) (pfs : List Value) (uo : List own_T) (po : List own_T) (ov : own_T) (h0 : Heap) (n0 : Nat) (vα : Option Value) (hα : Heap) (Lα : List Loc) : Prop := vα = none ∧ Fr n0 Lα ∧ Keep h0 hα [o, un, up, pf] ∧ Exa Z hα o "coppice/marshal/context/NamespaceScope" ∧ Fld Z hα o "coppice/marshal/context/NamespaceScope" "undoNamespaces" "[I" (.ref un) ∧ Fld Z hα o "coppice/marshal/context/NamespaceScope" "undoPrefixes" "[Ljava/lang/String;" (.ref up) ∧ Fld Z hα o "coppice/marshal/context/NamespaceScope" "prefixes" "[Ljava/lang/String;" (.ref pf) ∧ Fld Z hα o "coppice/marshal/context/NamespaceScope" "undoCount" "I" (.int (uc + (1 : Int32))) ∧ Arv Z hα un ku .int (16 : Int32) (us.set (uc).toNatClampNeg (.int i)) (.int (0 : Int32)) ∧ Arv Z hα up kp (.object "java/lang/String") (16 : Int32) (ups.set (uc).toNatClampNeg (pfs.getD (i).toNatClampNeg .null)) .null ∧ Arv Z hα pf kf (.object "java/lang/String") nz (pfs.set (i).toNatClampNeg v) .null ∧ own_SL Z hα (ups.set (uc).toNatClampNeg (pfs.getD (i).toNatClampNeg .null)) (uo.set (uc).toNatClampNeg (po.getD (i).toNatClampNeg none)) ∧ own_SL Z hα (pfs.set (i).toNatClampNeg v) (po.set (i).toNatClampNeg ov)
set_option maxRecDepth 65536 in
set_option maxHeartbeats 40000000 in
theorem rm12 (l : Launch) (Z : State) (a0 : Array Value) (hw : ∀ d ∈ tables_1, d.before a0 Z = true) (ws : List Jvm.Cond) (o : Addr) (i : Int32) (v : Value) (un : Addr) (up : Addr) (pf : Addr) (ku : ClassId) (kp : ClassId) (kf : ClassId) (nz : Int32) (uc : Int32) (us : List Value) (ups : List Value) (pfs : List Value) (uo : List own_T) (po : List own_T) (ov : own_T) (h0 : Heap) (n0 : Nat) (Z0 : n0 ≤ h0.size) (g_o : n0 ≤ o) (g_un : n0 ≤ un) (g_up : n0 ≤ up) (g_pf : n0 ≤ pf) (E_o : Exa Z h0 o "coppice/marshal/context/NamespaceScope") (F_un : Fld Z h0 o "coppice/marshal/context/NamespaceScope" "undoNamespaces" "[I" (.ref un)) (F_up : Fld Z h0 o "coppice/marshal/context/NamespaceScope" "undoPrefixes" "[Ljava/lang/String;" (.ref up)) (F_pf : Fld Z h0 o "coppice/marshal/context/NamespaceScope" "prefixes" "[Ljava/lang/String;" (.ref pf)) (F_uc : Fld Z h0 o "coppice/marshal/context/NamespaceScope" "undoCount" "I" (.int uc)) (V_un : Arv Z h0 un ku .int (16 : Int32) us (.int (0 : Int32))) (V_up : Arv Z h0 up kp (.object "java/lang/String") (16 : Int32) ups .null) (V_pf : Arv Z h0 pf kf (.object "java/lang/String") nz pfs .null) (L_up : own_SL Z h0 ups uo) (L_pf : own_SL Z h0 pfs po) (O_up : Ovr Z kp "java/lang/String") (O_pf : Ovr Z kf "java/lang/String") (ne_o__un : o ≠ un) (ne_o__up : o ≠ up) (ne_o__pf : o ≠ pf) (ne_un__up : un ≠ up) (ne_un__pf : un ≠ pf) (ne_up__pf : up ≠ pf) (F_v : own_S Z h0 v ov) (hk : ¬ i < 0 ∧ i < nz) (huc : 0 ≤ uc.toInt ∧ uc.toInt < 16) (hus : us.length = 16) (hups : ups.length = 16) (hpfs : pfs.length = nz.toNatClampNeg) :
    MetFree l (⟨"coppice/marshal/context/NamespaceScope", "bind", "(ILjava/lang/String;)V"⟩ : MethodName) (head1 (Jvm.Cond.code (⟨"coppice/marshal/context/NamespaceScope", "bind", "(ILjava/lang/String;)V"⟩ : MethodName) prog_2_method_7_code 3 none :: ws) ({ frames := 0, cells := 0, slots := 0, locals := 0 } : Room)) (fun aα U => aα = #[(.ref o), (.int i), v] ∧ Z.Warmed39 U.vm ∧ U.heap = h0) (fun _ _ _ _ _ => True) (fun _ U oα U' => ∃ vα Lα, oα = .returned vα ∧ Q12 Z o i v un up pf ku kp kf nz uc us ups pfs uo po ov h0 n0 vα U'.heap Lα ∧ FrameEnd U oα U' Lα ({ frames := 0, cells := 0, slots := 0, locals := 0 } : Room).cells ({ frames := 0, cells := 0, slots := 0, locals := 0 } : Room).slots) := by
  refine MetFree.of_bodySF (plainFor_of_name pn_3) hisR ?_
  intro p e s m args below meth c s₁ Bd hml0 hP hK
  refine own_wrap ?_
  intro GL hGL
  obtain ⟨rfl, hZ, hh⟩ := hP
  have hx := Bd.exec
  have hby := Bd.bytes
  have hml : c.maxLocals = 3 := hml0
  have hown : s.vm.findClass "coppice/marshal/context/NamespaceScope" = some m.cls := findClass_of_methodNamed Bd.named
  have hnm := (name_of_methodNamed Bd.named Bd.method).1
  have X0 : Stand p l e ({ frames := 0, cells := 0, slots := 0, locals := 0 } : Room) s m #[(.ref o), (.int i), v] below meth c s₁ [] 0 0 := Stand.of_body Bd
  have e0 : s₁.heap = h0 := by rw [← hh, Bd.state]; rfl
  have N0 := Fr.nil n0
  have pre0 : ∀ τ, Steps p.tables e below (s₁.setTop (mkF m 0 #[.val (.ref o), .val (.int i), .val v] [])) τ → Steps p.tables e below (s₁.setTop (entryFrame m #[(.ref o), (.int i), v] 3)) τ := fun τ κ => castTop (ef_12 m o i v (own_S_ref F_v)) κ
  obtain ⟨G, hG, pre⟩ : ∃ G : State → Prop, (∀ τ, G τ → Steps p.tables e below (s₁.setTop (entryFrame m #[(.ref o), (.int i), v] 3)) τ) ∧ ∀ τ, Steps p.tables e below (s₁.setTop (mkF m 0 #[.val (.ref o), .val (.int i), .val v] [])) τ → G τ := ⟨_, pre0, fun _ k => k⟩
  have K : Keep h0 h0 [o, un, up, pf] := Keep.refl h0 _
  have Zn := Z0
  have pre : ∀ τ, Steps p.tables e below (s₁.setTop (mkF m 1 #[.val (.ref o), .val (.int i), .val v] [(.ref o)])) τ → G τ := fun τ κ => pre τ (by
    refine XS.aloadN X0.here hx rfl (hb hby d12_0) rfl rfl ?_
    show Steps p.tables e below (s₁.setTop (mkF m 1 #[.val (.ref o), .val (.int i), .val v] [(.ref o)])) τ
    exact κ)
  obtain ⟨T1, X1, e1, st1⟩ := getF X0 hx hZ hown (host := "") (Or.inl (hw _ (List.mem_of_getElem? (i := 64) rfl))) Via.refl e0 F_uc (g := (mkF m 1 #[.val (.ref o), .val (.int i), .val v] [(.ref o)])) rfl rfl (hb hby d12_1)
  have pre : ∀ τ, Steps p.tables e below (T1.setTop (mkF m 4 #[.val (.ref o), .val (.int i), .val v] [(.int uc)])) τ → G τ := fun τ κ => pre τ (st1 τ κ)
  have pre : ∀ τ, Steps p.tables e below (T1.setTop (mkF m 5 #[.val (.ref o), .val (.int i), .val v] [(.ref o), (.int uc)])) τ → G τ := fun τ κ => pre τ (by
    refine XS.aloadN X1.here hx rfl (hb hby d12_4) rfl rfl ?_
    show Steps p.tables e below (T1.setTop (mkF m 5 #[.val (.ref o), .val (.int i), .val v] [(.ref o), (.int uc)])) τ
    exact κ)
  obtain ⟨T2, X2, e2, st2⟩ := getF X1 hx hZ hown (host := "") (Or.inl (hw _ (List.mem_of_getElem? (i := 46) rfl))) Via.refl e1 F_un (g := (mkF m 5 #[.val (.ref o), .val (.int i), .val v] [(.ref o), (.int uc)])) rfl rfl (hb hby d12_5)
  have pre : ∀ τ, Steps p.tables e below (T2.setTop (mkF m 8 #[.val (.ref o), .val (.int i), .val v] [(.ref un), (.int uc)])) τ → G τ := fun τ κ => pre τ (st2 τ κ)
  obtain ⟨c3, Ar3, -, S3, N3, -, -⟩ := id V_un
  have pre : ∀ τ, Steps p.tables e below (T2.setTop (mkF m 9 #[.val (.ref o), .val (.int i), .val v] [(.int (16 : Int32)), (.int uc)])) τ → G τ := fun τ κ => pre τ (by
    refine X2.arraylength hx (by rw [e2]; exact Ar3.1) (State.isArrayOf_alike hZ.alike Ar3.2.1) (g := (mkF m 8 #[.val (.ref o), .val (.int i), .val v] [(.ref un), (.int uc)])) rfl rfl (hb hby d12_8) _ ?_
    rw [len_of S3 N3]
    exact κ)
  have hc4 : ¬ (uc = (16 : Int32)) := own_n16 huc
  have pre : ∀ τ, Steps p.tables e below (T2.setTop (mkF m 50 #[.val (.ref o), .val (.int i), .val v] [(.ref o)])) τ → G τ := fun τ κ => pre τ (by
    refine XS.icmpYes X2.here hx rfl (pc0 := 9) (pc' := 49) rfl (hb hby d12_9) rfl (feq hc4).2 (by decide) (by decide) ?_
    show Steps p.tables e below (T2.setTop (mkF m 49 #[.val (.ref o), .val (.int i), .val v] [])) τ
    refine XS.aloadN X2.here hx rfl (hb hby d12_49) rfl rfl ?_
    show Steps p.tables e below (T2.setTop (mkF m 50 #[.val (.ref o), .val (.int i), .val v] [(.ref o)])) τ
    exact κ)
  obtain ⟨T5, X5, e5, st5⟩ := getF X2 hx hZ hown (host := "") (Or.inl (hw _ (List.mem_of_getElem? (i := 46) rfl))) Via.refl e2 F_un (g := (mkF m 50 #[.val (.ref o), .val (.int i), .val v] [(.ref o)])) rfl rfl (hb hby d12_50)
  have pre : ∀ τ, Steps p.tables e below (T5.setTop (mkF m 53 #[.val (.ref o), .val (.int i), .val v] [(.ref un)])) τ → G τ := fun τ κ => pre τ (st5 τ κ)
  have pre : ∀ τ, Steps p.tables e below (T5.setTop (mkF m 54 #[.val (.ref o), .val (.int i), .val v] [(.ref o), (.ref un)])) τ → G τ := fun τ κ => pre τ (by
    refine XS.aloadN X5.here hx rfl (hb hby d12_53) rfl rfl ?_
    show Steps p.tables e below (T5.setTop (mkF m 54 #[.val (.ref o), .val (.int i), .val v] [(.ref o), (.ref un)])) τ
    exact κ)
  obtain ⟨T6, X6, e6, st6⟩ := getF X5 hx hZ hown (host := "") (Or.inl (hw _ (List.mem_of_getElem? (i := 64) rfl))) Via.refl e5 F_uc (g := (mkF m 54 #[.val (.ref o), .val (.int i), .val v] [(.ref o), (.ref un)])) rfl rfl (hb hby d12_54)
  have pre : ∀ τ, Steps p.tables e below (T6.setTop (mkF m 57 #[.val (.ref o), .val (.int i), .val v] [(.int uc), (.ref un)])) τ → G τ := fun τ κ => pre τ (st6 τ κ)
  have pre : ∀ τ, Steps p.tables e below (T6.setTop (mkF m 58 #[.val (.ref o), .val (.int i), .val v] [(.int i), (.int uc), (.ref un)])) τ → G τ := fun τ κ => pre τ (by
    refine XS.iloadN X6.here hx rfl (hb hby d12_57) rfl ?_
    show Steps p.tables e below (T6.setTop (mkF m 58 #[.val (.ref o), .val (.int i), .val v] [(.int i), (.int uc), (.ref un)])) τ
    exact κ)
  obtain ⟨c7, Ar7, q7, S7, Nz7, Hh7, Gg7⟩ := id V_un
  have hin7 : ¬ (uc < 0 ∨ c7.slots.size ≤ (uc).toNatClampNeg) := inb_of S7 (own_u16 huc)
  obtain ⟨T7, h7, X7, e7, W7, st7⟩ := stI X6 hx hZ e6 Ar7 (j := uc) hin7 (g := (mkF m 58 #[.val (.ref o), .val (.int i), .val v] [(.int i), (.int uc), (.ref un)])) rfl rfl (hb hby d12_58)
  have V_un : Arv Z h7 un ku .int (16 : Int32) (us.set (uc).toNatClampNeg (.int i)) (.int (0 : Int32)) := Arv.set Ar7 q7 S7 Nz7 Hh7 Gg7 rfl W7 _ rfl (own_lt2 (own_u16 huc) (hus.trans own_k16))
  have Ns := (Or.inr ⟨_, _, Ar7, by decide⟩ : own_ns Z h0 un)
  have E_o : Exa Z h7 o "coppice/marshal/context/NamespaceScope" := E_o.wr W7
  have F_un : Fld Z h7 o "coppice/marshal/context/NamespaceScope" "undoNamespaces" "[I" (.ref un) := F_un.other W7 (Or.inl ne_o__un)
  have F_up : Fld Z h7 o "coppice/marshal/context/NamespaceScope" "undoPrefixes" "[Ljava/lang/String;" (.ref up) := F_up.other W7 (Or.inl ne_o__un)
  have F_pf : Fld Z h7 o "coppice/marshal/context/NamespaceScope" "prefixes" "[Ljava/lang/String;" (.ref pf) := F_pf.other W7 (Or.inl ne_o__un)
  have F_uc : Fld Z h7 o "coppice/marshal/context/NamespaceScope" "undoCount" "I" (.int uc) := F_uc.other W7 (Or.inl ne_o__un)
  have V_up : Arv Z h7 up kp (.object "java/lang/String") (16 : Int32) ups .null := V_up.other W7 (Ne.symm ne_un__up)
  have V_pf : Arv Z h7 pf kf (.object "java/lang/String") nz pfs .null := V_pf.other W7 (Ne.symm ne_un__pf)
  have L_up : own_SL Z h7 ups uo := own_SL_wr L_up W7 Ns
  have L_pf : own_SL Z h7 pfs po := own_SL_wr L_pf W7 Ns
  have F_v : own_S Z h7 v ov := own_S_wr F_v W7 Ns
  have Zn : n0 ≤ h7.size := Nat.le_trans Zn (Keep.of_wr W7).1
  have K : Keep h0 h7 [o, un, up, pf] := K.wr W7 (Or.inl (List.mem_of_getElem? (i := 1) rfl))
  have NN := Fr.snoc X7 N0 g_un
  have pre : ∀ τ, Steps p.tables e below (T7.setTop (mkF m 59 #[.val (.ref o), .val (.int i), .val v] [])) τ → G τ := fun τ κ => pre τ (st7 τ κ)
  have pre : ∀ τ, Steps p.tables e below (T7.setTop (mkF m 60 #[.val (.ref o), .val (.int i), .val v] [(.ref o)])) τ → G τ := fun τ κ => pre τ (by
    refine XS.aloadN X7.here hx rfl (hb hby d12_59) rfl rfl ?_
    show Steps p.tables e below (T7.setTop (mkF m 60 #[.val (.ref o), .val (.int i), .val v] [(.ref o)])) τ
    exact κ)
  obtain ⟨T8, X8, e8, st8⟩ := getF X7 hx hZ hown (host := "") (Or.inl (hw _ (List.mem_of_getElem? (i := 49) rfl))) Via.refl e7 F_up (g := (mkF m 60 #[.val (.ref o), .val (.int i), .val v] [(.ref o)])) rfl rfl (hb hby d12_60)
  have pre : ∀ τ, Steps p.tables e below (T8.setTop (mkF m 63 #[.val (.ref o), .val (.int i), .val v] [(.ref up)])) τ → G τ := fun τ κ => pre τ (st8 τ κ)
  have pre : ∀ τ, Steps p.tables e below (T8.setTop (mkF m 64 #[.val (.ref o), .val (.int i), .val v] [(.ref o), (.ref up)])) τ → G τ := fun τ κ => pre τ (by
    refine XS.aloadN X8.here hx rfl (hb hby d12_63) rfl rfl ?_
    show Steps p.tables e below (T8.setTop (mkF m 64 #[.val (.ref o), .val (.int i), .val v] [(.ref o), (.ref up)])) τ
    exact κ)
  obtain ⟨T9, X9, e9, st9⟩ := getF X8 hx hZ hown (host := "") (Or.inl (hw _ (List.mem_of_getElem? (i := 64) rfl))) Via.refl e8 F_uc (g := (mkF m 64 #[.val (.ref o), .val (.int i), .val v] [(.ref o), (.ref up)])) rfl rfl (hb hby d12_64)
  have pre : ∀ τ, Steps p.tables e below (T9.setTop (mkF m 67 #[.val (.ref o), .val (.int i), .val v] [(.int uc), (.ref up)])) τ → G τ := fun τ κ => pre τ (st9 τ κ)
  have pre : ∀ τ, Steps p.tables e below (T9.setTop (mkF m 68 #[.val (.ref o), .val (.int i), .val v] [(.ref o), (.int uc), (.ref up)])) τ → G τ := fun τ κ => pre τ (by
    refine XS.aloadN X9.here hx rfl (hb hby d12_67) rfl rfl ?_
    show Steps p.tables e below (T9.setTop (mkF m 68 #[.val (.ref o), .val (.int i), .val v] [(.ref o), (.int uc), (.ref up)])) τ
    exact κ)
  obtain ⟨T10, X10, e10, st10⟩ := getF X9 hx hZ hown (host := "") (Or.inl (hw _ (List.mem_of_getElem? (i := 51) rfl))) Via.refl e9 F_pf (g := (mkF m 68 #[.val (.ref o), .val (.int i), .val v] [(.ref o), (.int uc), (.ref up)])) rfl rfl (hb hby d12_68)
  have pre : ∀ τ, Steps p.tables e below (T10.setTop (mkF m 71 #[.val (.ref o), .val (.int i), .val v] [(.ref pf), (.int uc), (.ref up)])) τ → G τ := fun τ κ => pre τ (st10 τ κ)
  have pre : ∀ τ, Steps p.tables e below (T10.setTop (mkF m 72 #[.val (.ref o), .val (.int i), .val v] [(.int i), (.ref pf), (.int uc), (.ref up)])) τ → G τ := fun τ κ => pre τ (by
    refine XS.iloadN X10.here hx rfl (hb hby d12_71) rfl ?_
    show Steps p.tables e below (T10.setTop (mkF m 72 #[.val (.ref o), .val (.int i), .val v] [(.int i), (.ref pf), (.int uc), (.ref up)])) τ
    exact κ)
  obtain ⟨c11, Ar11, q11, S11, Nz11, Hh11, Gg11⟩ := id V_pf
  have F_t : own_S Z h7 (pfs.getD (i).toNatClampNeg .null) (po.getD (i).toNatClampNeg none) := L_pf.2 _
  have hin11 : ¬ (i < 0 ∨ c11.slots.size ≤ (i).toNatClampNeg) := inb_of S11 hk
  have hat11 : c11.slots[(i).toNatClampNeg]? = some (pfs.getD (i).toNatClampNeg .null) := Hh11.at hin11 rfl
  have pre : ∀ τ, Steps p.tables e below (T10.setTop (mkF m 73 #[.val (.ref o), .val (.int i), .val v] [(pfs.getD (i).toNatClampNeg .null), (.int uc), (.ref up)])) τ → G τ := fun τ κ => pre τ (X10.aaload hx (j := i) (v := (pfs.getD (i).toNatClampNeg .null)) (by rw [e10]; exact Ar11.1) (State.isArrayOf_alike hZ.alike Ar11.2.1) rfl Ar11.2.2 hin11 hat11 (g := (mkF m 72 #[.val (.ref o), .val (.int i), .val v] [(.int i), (.ref pf), (.int uc), (.ref up)])) rfl rfl (hb hby d12_72) _ κ)
  obtain ⟨c12, Ar12, q12, S12, Nz12, Hh12, Gg12⟩ := id V_up
  have hin12 : ¬ (uc < 0 ∨ c12.slots.size ≤ (uc).toNatClampNeg) := inb_of S12 (own_u16 huc)
  obtain ⟨T12, h12, X12, e12, W12, st12⟩ := stR X10 hx hZ e10 Ar12 (j := uc) hin12 rfl (own_S_sto F_t Ar12 q12 O_up) (g := (mkF m 73 #[.val (.ref o), .val (.int i), .val v] [(pfs.getD (i).toNatClampNeg .null), (.int uc), (.ref up)])) rfl rfl (hb hby d12_73)
  have V_up : Arv Z h12 up kp (.object "java/lang/String") (16 : Int32) (ups.set (uc).toNatClampNeg (pfs.getD (i).toNatClampNeg .null)) .null := Arv.set Ar12 q12 S12 Nz12 Hh12 Gg12 (own_S_fit F_t) W12 _ rfl (own_lt2 (own_u16 huc) (hups.trans own_k16))
  have Ns := (Or.inr ⟨_, _, Ar12, by decide⟩ : own_ns Z h7 up)
  have E_o : Exa Z h12 o "coppice/marshal/context/NamespaceScope" := E_o.wr W12
  have F_un : Fld Z h12 o "coppice/marshal/context/NamespaceScope" "undoNamespaces" "[I" (.ref un) := F_un.other W12 (Or.inl ne_o__up)
  have F_up : Fld Z h12 o "coppice/marshal/context/NamespaceScope" "undoPrefixes" "[Ljava/lang/String;" (.ref up) := F_up.other W12 (Or.inl ne_o__up)
  have F_pf : Fld Z h12 o "coppice/marshal/context/NamespaceScope" "prefixes" "[Ljava/lang/String;" (.ref pf) := F_pf.other W12 (Or.inl ne_o__up)
  have F_uc : Fld Z h12 o "coppice/marshal/context/NamespaceScope" "undoCount" "I" (.int uc) := F_uc.other W12 (Or.inl ne_o__up)
  have V_un : Arv Z h12 un ku .int (16 : Int32) (us.set (uc).toNatClampNeg (.int i)) (.int (0 : Int32)) := V_un.other W12 ne_un__up
  have V_pf : Arv Z h12 pf kf (.object "java/lang/String") nz pfs .null := V_pf.other W12 (Ne.symm ne_up__pf)
  have L_up : own_SL Z h12 ups uo := own_SL_wr L_up W12 Ns
  have L_pf : own_SL Z h12 pfs po := own_SL_wr L_pf W12 Ns
  have F_v : own_S Z h12 v ov := own_S_wr F_v W12 Ns
  have F_t : own_S Z h12 (pfs.getD (i).toNatClampNeg .null) (po.getD (i).toNatClampNeg none) := own_S_wr F_t W12 Ns
  have Zn : n0 ≤ h12.size := Nat.le_trans Zn (Keep.of_wr W12).1
  have K : Keep h0 h12 [o, un, up, pf] := K.wr W12 (Or.inl (List.mem_of_getElem? (i := 2) rfl))
  have NN := Fr.snoc X12 NN g_up
  have pre : ∀ τ, Steps p.tables e below (T12.setTop (mkF m 74 #[.val (.ref o), .val (.int i), .val v] [])) τ → G τ := fun τ κ => pre τ (st12 τ κ)
  have L_up : own_SL Z h12 (ups.set (uc).toNatClampNeg (pfs.getD (i).toNatClampNeg .null)) (uo.set (uc).toNatClampNeg (po.getD (i).toNatClampNeg none)) := own_SL_set L_up F_t _
  have pre : ∀ τ, Steps p.tables e below (T12.setTop (mkF m 76 #[.val (.ref o), .val (.int i), .val v] [(.ref o), (.ref o)])) τ → G τ := fun τ κ => pre τ (by
    refine XS.aloadN X12.here hx rfl (hb hby d12_74) rfl rfl ?_
    show Steps p.tables e below (T12.setTop (mkF m 75 #[.val (.ref o), .val (.int i), .val v] [(.ref o)])) τ
    refine XS.dup X12.here hx rfl (hb hby d12_75) rfl rfl ?_
    show Steps p.tables e below (T12.setTop (mkF m 76 #[.val (.ref o), .val (.int i), .val v] [(.ref o), (.ref o)])) τ
    exact κ)
  obtain ⟨T13, X13, e13, st13⟩ := getF X12 hx hZ hown (host := "") (Or.inl (hw _ (List.mem_of_getElem? (i := 64) rfl))) Via.refl e12 F_uc (g := (mkF m 76 #[.val (.ref o), .val (.int i), .val v] [(.ref o), (.ref o)])) rfl rfl (hb hby d12_76)
  have pre : ∀ τ, Steps p.tables e below (T13.setTop (mkF m 79 #[.val (.ref o), .val (.int i), .val v] [(.int uc), (.ref o)])) τ → G τ := fun τ κ => pre τ (st13 τ κ)
  have pre : ∀ τ, Steps p.tables e below (T13.setTop (mkF m 81 #[.val (.ref o), .val (.int i), .val v] [(.int (uc + (1 : Int32))), (.ref o)])) τ → G τ := fun τ κ => pre τ (by
    refine XS.iconst X13.here hx rfl (hb hby d12_79) ?_
    show Steps p.tables e below (T13.setTop (mkF m 80 #[.val (.ref o), .val (.int i), .val v] [(.int (1 : Int32)), (.int uc), (.ref o)])) τ
    refine XS.iadd X13.here hx rfl (hb hby d12_80) rfl ?_
    show Steps p.tables e below (T13.setTop (mkF m 81 #[.val (.ref o), .val (.int i), .val v] [(.int (uc + (1 : Int32))), (.ref o)])) τ
    exact κ)
  obtain ⟨T14, h14, X14, e14, W14, st14⟩ := putF X13 hx hZ hown (host := "") (Or.inl (hw _ (List.mem_of_getElem? (i := 64) rfl))) Via.refl e13 F_uc E_o (Or.inl (hw _ (List.mem_of_getElem? (i := 65) rfl))) (hw _ (List.mem_of_getElem? (i := 37) rfl)) (ty := .int) (by decide) rfl rfl (g := (mkF m 81 #[.val (.ref o), .val (.int i), .val v] [(.int (uc + (1 : Int32))), (.ref o)])) rfl rfl (hb hby d12_81)
  have F_uc : Fld Z h14 o "coppice/marshal/context/NamespaceScope" "undoCount" "I" (.int (uc + (1 : Int32))) := F_uc.same W14
  have Ns := (own_nsE E_o (hw _ (List.mem_of_getElem? (i := 37) rfl)) (by decide) (by decide))
  have E_o : Exa Z h14 o "coppice/marshal/context/NamespaceScope" := E_o.wr W14
  have F_un : Fld Z h14 o "coppice/marshal/context/NamespaceScope" "undoNamespaces" "[I" (.ref un) := F_un.other W14 (Or.inr (slot_ne (Or.inl (hw _ (List.mem_of_getElem? (i := 47) rfl))) (Or.inl (hw _ (List.mem_of_getElem? (i := 65) rfl))) (by decide) (t := (.array .int)) (t' := .int) (by decide) (by decide)))
  have F_up : Fld Z h14 o "coppice/marshal/context/NamespaceScope" "undoPrefixes" "[Ljava/lang/String;" (.ref up) := F_up.other W14 (Or.inr (slot_ne (Or.inl (hw _ (List.mem_of_getElem? (i := 50) rfl))) (Or.inl (hw _ (List.mem_of_getElem? (i := 65) rfl))) (by decide) (t := (.array (.object "java/lang/String"))) (t' := .int) (by decide) (by decide)))
  have F_pf : Fld Z h14 o "coppice/marshal/context/NamespaceScope" "prefixes" "[Ljava/lang/String;" (.ref pf) := F_pf.other W14 (Or.inr (slot_ne (Or.inr (hw _ (List.mem_of_getElem? (i := 52) rfl))) (Or.inl (hw _ (List.mem_of_getElem? (i := 65) rfl))) (by decide) (t := (.array (.object "java/lang/String"))) (t' := .int) (by decide) (by decide)))
  have V_un : Arv Z h14 un ku .int (16 : Int32) (us.set (uc).toNatClampNeg (.int i)) (.int (0 : Int32)) := V_un.other W14 (Ne.symm ne_o__un)
  have V_up : Arv Z h14 up kp (.object "java/lang/String") (16 : Int32) (ups.set (uc).toNatClampNeg (pfs.getD (i).toNatClampNeg .null)) .null := V_up.other W14 (Ne.symm ne_o__up)
  have V_pf : Arv Z h14 pf kf (.object "java/lang/String") nz pfs .null := V_pf.other W14 (Ne.symm ne_o__pf)
  have L_up : own_SL Z h14 (ups.set (uc).toNatClampNeg (pfs.getD (i).toNatClampNeg .null)) (uo.set (uc).toNatClampNeg (po.getD (i).toNatClampNeg none)) := own_SL_wr L_up W14 Ns
  have L_pf : own_SL Z h14 pfs po := own_SL_wr L_pf W14 Ns
  have F_v : own_S Z h14 v ov := own_S_wr F_v W14 Ns
  have F_t : own_S Z h14 (pfs.getD (i).toNatClampNeg .null) (po.getD (i).toNatClampNeg none) := own_S_wr F_t W14 Ns
  have Zn : n0 ≤ h14.size := Nat.le_trans Zn (Keep.of_wr W14).1
  have K : Keep h0 h14 [o, un, up, pf] := K.wr W14 (Or.inl (List.mem_of_getElem? (i := 0) rfl))
  have NN := Fr.snoc X14 NN g_o
  have pre : ∀ τ, Steps p.tables e below (T14.setTop (mkF m 84 #[.val (.ref o), .val (.int i), .val v] [])) τ → G τ := fun τ κ => pre τ (st14 τ κ)
  have pre : ∀ τ, Steps p.tables e below (T14.setTop (mkF m 85 #[.val (.ref o), .val (.int i), .val v] [(.ref o)])) τ → G τ := fun τ κ => pre τ (by
    refine XS.aloadN X14.here hx rfl (hb hby d12_84) rfl rfl ?_
    show Steps p.tables e below (T14.setTop (mkF m 85 #[.val (.ref o), .val (.int i), .val v] [(.ref o)])) τ
    exact κ)
  obtain ⟨T15, X15, e15, st15⟩ := getF X14 hx hZ hown (host := "") (Or.inl (hw _ (List.mem_of_getElem? (i := 51) rfl))) Via.refl e14 F_pf (g := (mkF m 85 #[.val (.ref o), .val (.int i), .val v] [(.ref o)])) rfl rfl (hb hby d12_85)
  have pre : ∀ τ, Steps p.tables e below (T15.setTop (mkF m 88 #[.val (.ref o), .val (.int i), .val v] [(.ref pf)])) τ → G τ := fun τ κ => pre τ (st15 τ κ)
  have pre : ∀ τ, Steps p.tables e below (T15.setTop (mkF m 90 #[.val (.ref o), .val (.int i), .val v] [v, (.int i), (.ref pf)])) τ → G τ := fun τ κ => pre τ (by
    refine XS.iloadN X15.here hx rfl (hb hby d12_88) rfl ?_
    show Steps p.tables e below (T15.setTop (mkF m 89 #[.val (.ref o), .val (.int i), .val v] [(.int i), (.ref pf)])) τ
    refine XS.aloadN X15.here hx rfl (hb hby d12_89) rfl (own_S_ref F_v) ?_
    show Steps p.tables e below (T15.setTop (mkF m 90 #[.val (.ref o), .val (.int i), .val v] [v, (.int i), (.ref pf)])) τ
    exact κ)
  obtain ⟨c16, Ar16, q16, S16, Nz16, Hh16, Gg16⟩ := id V_pf
  have hin16 : ¬ (i < 0 ∨ c16.slots.size ≤ (i).toNatClampNeg) := inb_of S16 hk
  obtain ⟨T16, h16, X16, e16, W16, st16⟩ := stR X15 hx hZ e15 Ar16 (j := i) hin16 rfl (own_S_sto F_v Ar16 q16 O_pf) (g := (mkF m 90 #[.val (.ref o), .val (.int i), .val v] [v, (.int i), (.ref pf)])) rfl rfl (hb hby d12_90)
  have V_pf : Arv Z h16 pf kf (.object "java/lang/String") nz (pfs.set (i).toNatClampNeg v) .null := Arv.set Ar16 q16 S16 Nz16 Hh16 Gg16 (own_S_fit F_v) W16 _ rfl (own_lt2 hk hpfs)
  have Ns := (Or.inr ⟨_, _, Ar16, by decide⟩ : own_ns Z h14 pf)
  have E_o : Exa Z h16 o "coppice/marshal/context/NamespaceScope" := E_o.wr W16
  have F_un : Fld Z h16 o "coppice/marshal/context/NamespaceScope" "undoNamespaces" "[I" (.ref un) := F_un.other W16 (Or.inl ne_o__pf)
  have F_up : Fld Z h16 o "coppice/marshal/context/NamespaceScope" "undoPrefixes" "[Ljava/lang/String;" (.ref up) := F_up.other W16 (Or.inl ne_o__pf)
  have F_pf : Fld Z h16 o "coppice/marshal/context/NamespaceScope" "prefixes" "[Ljava/lang/String;" (.ref pf) := F_pf.other W16 (Or.inl ne_o__pf)
  have F_uc : Fld Z h16 o "coppice/marshal/context/NamespaceScope" "undoCount" "I" (.int (uc + (1 : Int32))) := F_uc.other W16 (Or.inl ne_o__pf)
  have V_un : Arv Z h16 un ku .int (16 : Int32) (us.set (uc).toNatClampNeg (.int i)) (.int (0 : Int32)) := V_un.other W16 ne_un__pf
  have V_up : Arv Z h16 up kp (.object "java/lang/String") (16 : Int32) (ups.set (uc).toNatClampNeg (pfs.getD (i).toNatClampNeg .null)) .null := V_up.other W16 ne_up__pf
  have L_up : own_SL Z h16 (ups.set (uc).toNatClampNeg (pfs.getD (i).toNatClampNeg .null)) (uo.set (uc).toNatClampNeg (po.getD (i).toNatClampNeg none)) := own_SL_wr L_up W16 Ns
  have L_pf : own_SL Z h16 pfs po := own_SL_wr L_pf W16 Ns
  have F_v : own_S Z h16 v ov := own_S_wr F_v W16 Ns
  have F_t : own_S Z h16 (pfs.getD (i).toNatClampNeg .null) (po.getD (i).toNatClampNeg none) := own_S_wr F_t W16 Ns
  have Zn : n0 ≤ h16.size := Nat.le_trans Zn (Keep.of_wr W16).1
  have K : Keep h0 h16 [o, un, up, pf] := K.wr W16 (Or.inl (List.mem_of_getElem? (i := 3) rfl))
  have NN := Fr.snoc X16 NN g_pf
  have pre : ∀ τ, Steps p.tables e below (T16.setTop (mkF m 91 #[.val (.ref o), .val (.int i), .val v] [])) τ → G τ := fun τ κ => pre τ (st16 τ κ)
  have L_pf : own_SL Z h16 (pfs.set (i).toNatClampNeg v) (po.set (i).toNatClampNeg ov) := own_SL_set L_pf F_v _
  obtain ⟨fsα, hr, hrun, hended, hW, hsame⟩ := X16.leave (v := none) (fun _ => rfl)
  refine hGL ⟨_, _, hG _ (pre _ ?_), hrun, hended, _, _, rfl, ?_, ⟨_, rfl⟩, hW, hsame.mono (by decide) (by decide)⟩
  · exact X16.returnOut hx Bd.returns (hb hby d12_91) hr
  · show Q12 Z o i v un up pf ku kp kf nz uc us ups pfs uo po ov h0 n0 _ T16.heap _
    rw [e16]
    exact ⟨rfl, NN, K, E_o, F_un, F_up, F_pf, F_uc, V_un, V_up, V_pf, L_up, L_pf⟩
theorem d11_0 : decode prog_2_method_5_code 0 = .ok (.iconst 0, 1) := by decide +kernel
theorem d11_1 : decode prog_2_method_5_code 1 = .ok (.istore_n 3, 1) := by decide +kernel
theorem d11_2 : decode prog_2_method_5_code 2 = .ok (.iload_n 3, 1) := by decide +kernel
theorem d11_3 : decode prog_2_method_5_code 3 = .ok (.aload_n 0, 1) := by decide +kernel
theorem d11_4 : decode prog_2_method_5_code 4 = .ok (.getfield 19, 3) := by decide +kernel
theorem d11_7 : decode prog_2_method_5_code 7 = .ok (.arraylength, 1) := by decide +kernel
theorem d11_8 : decode prog_2_method_5_code 8 = .ok (.if_icmp .ge 33, 3) := by decide +kernel
theorem d11_41 : decode prog_2_method_5_code 41 = .ok (.aload_n 0, 1) := by decide +kernel
theorem d11_42 : decode prog_2_method_5_code 42 = .ok (.iload_n 1, 1) := by decide +kernel
theorem d11_43 : decode prog_2_method_5_code 43 = .ok (.aload_n 2, 1) := by decide +kernel
theorem d11_44 : decode prog_2_method_5_code 44 = .ok (.invokevirtual 43, 3) := by decide +kernel
theorem pd_1 : parseMethodDescriptor "(ILjava/lang/String;)V" = some ⟨[.int, (.object "java/lang/String")], none⟩ := by decide +kernel
theorem d11_47 : decode prog_2_method_5_code 47 = .ok (.return_, 1) := by decide +kernel
theorem d11_11 : decode prog_2_method_5_code 11 = .ok (.iload_n 3, 1) := by decide +kernel
theorem d11_12 : decode prog_2_method_5_code 12 = .ok (.iload_n 1, 1) := by decide +kernel
theorem d11_13 : decode prog_2_method_5_code 13 = .ok (.if_icmp .eq 22, 3) := by decide +kernel
theorem d11_35 : decode prog_2_method_5_code 35 = .ok (.iinc 3 1, 3) := by decide +kernel
theorem d11_38 : decode prog_2_method_5_code 38 = .ok (.goto (-36), 3) := by decide +kernel
theorem d11_16 : decode prog_2_method_5_code 16 = .ok (.aload_n 2, 1) := by decide +kernel
theorem d11_17 : decode prog_2_method_5_code 17 = .ok (.aload_n 0, 1) := by decide +kernel
theorem d11_18 : decode prog_2_method_5_code 18 = .ok (.getfield 19, 3) := by decide +kernel
theorem d11_21 : decode prog_2_method_5_code 21 = .ok (.iload_n 3, 1) := by decide +kernel
theorem d11_22 : decode prog_2_method_5_code 22 = .ok (.aaload, 1) := by decide +kernel
theorem d11_23 : decode prog_2_method_5_code 23 = .ok (.invokevirtual 39, 3) := by decide +kernel
theorem pd_2 : parseMethodDescriptor "(Ljava/lang/Object;)Z" = some ⟨[(.object "java/lang/Object")], some .boolean⟩ := by decide +kernel
theorem d11_26 : decode prog_2_method_5_code 26 = .ok (.ifCond .eq 9, 3) := by decide +kernel
theorem d11_29 : decode prog_2_method_5_code 29 = .ok (.aload_n 0, 1) := by decide +kernel
theorem d11_30 : decode prog_2_method_5_code 30 = .ok (.iload_n 3, 1) := by decide +kernel
theorem d11_31 : decode prog_2_method_5_code 31 = .ok (.aconst_null, 1) := by decide +kernel
theorem d11_32 : decode prog_2_method_5_code 32 = .ok (.invokevirtual 43, 3) := by decide +kernel
theorem ef_11 (m : MethodId) (x0 : Addr) (x1 : Int32) (x2 : Addr) : entryFrame m #[(.ref x0), (.int x1), (.ref x2)] 4 = mkF m 0 #[.val (.ref x0), .val (.int x1), .val (.ref x2), .unset] [] := by first | (simp [entryFrame, mkF, argsToLocals, Value.category]; done) | rfl
def Q11 (Z : State) (o : Addr) (ix : Int32) (a : Addr) (un : Addr) (up : Addr) (pf : Addr) (ku : ClassId) (kp : ClassId) (kf : ClassId) (nz : Int32) (s0 : own_ST) (ups : List Value) (pfs : List Value) (tp : List Value) (cw : Int32) (b0 : Int) (h0 : Heap) (n0 : Nat) (vα : Option Value) (hα : Heap) (Lα : List Loc) : Prop := ∃ (upz : List Value) (pfz : List Value), vα = none ∧ Fr n0 Lα ∧ Keep h0 hα [o, un, up, pf] ∧ Exa Z hα o "coppice/marshal/context/NamespaceScope" ∧ Fld Z hα o "coppice/marshal/context/NamespaceScope" "undoNamespaces" "[I" (.ref un) ∧ Fld Z hα o "coppice/marshal/context/NamespaceScope" "undoPrefixes" "[Ljava/lang/String;" (.ref up) ∧ Fld Z hα o "coppice/marshal/context/NamespaceScope" "prefixes" "[Ljava/lang/String;" (.ref pf) ∧ Fld Z hα o "coppice/marshal/context/NamespaceScope" "undoCount" "I" (.int (own_de tp ix nz s0).2.2.2) ∧ Arv Z hα un ku .int (16 : Int32) (own_de tp ix nz s0).2.1 (.int (0 : Int32)) ∧ Arv Z hα up kp (.object "java/lang/String") (16 : Int32) upz .null ∧ Arv Z hα pf kf (.object "java/lang/String") nz pfz .null ∧ own_SL Z hα upz (own_de tp ix nz s0).2.2.1 ∧ own_SL Z hα pfz (own_de tp ix nz s0).1 ∧ upz.length = 16 ∧ pfz.length = nz.toNatClampNeg
set_option maxRecDepth 65536 in
set_option maxHeartbeats 40000000 in
theorem rm11 (l : Launch) (Z : State) (a0 : Array Value) (hw : ∀ d ∈ tables_1, d.before a0 Z = true) (ws : List Jvm.Cond) (o : Addr) (ix : Int32) (a : Addr) (un : Addr) (up : Addr) (pf : Addr) (ku : ClassId) (kp : ClassId) (kf : ClassId) (nz : Int32) (s0 : own_ST) (ups : List Value) (pfs : List Value) (tp : List Value) (cw : Int32) (b0 : Int) (h0 : Heap) (n0 : Nat) (Z0 : n0 ≤ h0.size) (g_o : n0 ≤ o) (g_un : n0 ≤ un) (g_up : n0 ≤ up) (g_pf : n0 ≤ pf) (E_o : Exa Z h0 o "coppice/marshal/context/NamespaceScope") (F_un : Fld Z h0 o "coppice/marshal/context/NamespaceScope" "undoNamespaces" "[I" (.ref un)) (F_up : Fld Z h0 o "coppice/marshal/context/NamespaceScope" "undoPrefixes" "[Ljava/lang/String;" (.ref up)) (F_pf : Fld Z h0 o "coppice/marshal/context/NamespaceScope" "prefixes" "[Ljava/lang/String;" (.ref pf)) (F_uc : Fld Z h0 o "coppice/marshal/context/NamespaceScope" "undoCount" "I" (.int s0.2.2.2)) (V_un : Arv Z h0 un ku .int (16 : Int32) s0.2.1 (.int (0 : Int32))) (V_up : Arv Z h0 up kp (.object "java/lang/String") (16 : Int32) ups .null) (V_pf : Arv Z h0 pf kf (.object "java/lang/String") nz pfs .null) (L_up : own_SL Z h0 ups s0.2.2.1) (L_pf : own_SL Z h0 pfs s0.1) (O_up : Ovr Z kp "java/lang/String") (O_pf : Ovr Z kf "java/lang/String") (ne_o__un : o ≠ un) (ne_o__up : o ≠ up) (ne_o__pf : o ≠ pf) (ne_un__up : un ≠ up) (ne_un__pf : un ≠ pf) (ne_up__pf : up ≠ pf) (F_p : own_S Z h0 (.ref a) (some tp)) (S_c : Sta Z h0 "java/lang/String" "COMPACT_STRINGS" "Z" (.int cw)) (hcw : ¬ cw = (0 : Int32)) (hk : ¬ ix < 0 ∧ ix < nz) (huc : 0 ≤ s0.2.2.2.toInt ∧ s0.2.2.2.toInt ≤ b0) (hb0 : b0 + nz.toInt < 16) (hus : s0.2.1.length = 16) (hups : ups.length = 16) (hpfs : pfs.length = nz.toNatClampNeg) :
    MetFree l (⟨"coppice/marshal/context/NamespaceScope", "declare", "(ILjava/lang/String;)V"⟩ : MethodName) (head1 (Jvm.Cond.code (⟨"coppice/marshal/context/NamespaceScope", "declare", "(ILjava/lang/String;)V"⟩ : MethodName) prog_2_method_5_code 4 none :: ws) ({ frames := 2, cells := 0, slots := 0, locals := 28 } : Room)) (fun aα U => aα = #[(.ref o), (.int ix), (.ref a)] ∧ Z.Warmed39 U.vm ∧ U.heap = h0) (fun _ _ _ _ _ => True) (fun _ U oα U' => ∃ vα Lα, oα = .returned vα ∧ Q11 Z o ix a un up pf ku kp kf nz s0 ups pfs tp cw b0 h0 n0 vα U'.heap Lα ∧ FrameEnd U oα U' Lα ({ frames := 2, cells := 0, slots := 0, locals := 28 } : Room).cells ({ frames := 2, cells := 0, slots := 0, locals := 28 } : Room).slots) := by
  refine MetFree.of_bodySF (plainFor_of_name pn_3) hisR ?_
  intro p e s m args below meth c s₁ Bd hml0 hP hK
  refine own_wrap ?_
  intro GL hGL
  obtain ⟨rfl, hZ, hh⟩ := hP
  have hx := Bd.exec
  have hby := Bd.bytes
  have hml : c.maxLocals = 4 := hml0
  have hown : s.vm.findClass "coppice/marshal/context/NamespaceScope" = some m.cls := findClass_of_methodNamed Bd.named
  have hnm := (name_of_methodNamed Bd.named Bd.method).1
  have X0 : Stand p l e ({ frames := 2, cells := 0, slots := 0, locals := 28 } : Room) s m #[(.ref o), (.int ix), (.ref a)] below meth c s₁ [] 0 0 := Stand.of_body Bd
  have e0 : s₁.heap = h0 := by rw [← hh, Bd.state]; rfl
  have N0 := Fr.nil n0
  have pre0 : ∀ τ, Steps p.tables e below (s₁.setTop (mkF m 0 #[.val (.ref o), .val (.int ix), .val (.ref a), .unset] [])) τ → Steps p.tables e below (s₁.setTop (entryFrame m #[(.ref o), (.int ix), (.ref a)] 4)) τ := fun τ κ => castTop (ef_11 m o ix a) κ
  obtain ⟨G, hG, pre⟩ : ∃ G : State → Prop, (∀ τ, G τ → Steps p.tables e below (s₁.setTop (entryFrame m #[(.ref o), (.int ix), (.ref a)] 4)) τ) ∧ ∀ τ, Steps p.tables e below (s₁.setTop (mkF m 0 #[.val (.ref o), .val (.int ix), .val (.ref a), .unset] [])) τ → G τ := ⟨_, pre0, fun _ k => k⟩
  have K : Keep h0 h0 [o, un, up, pf] := Keep.refl h0 _
  have Zn := Z0
  have pre : ∀ τ, Steps p.tables e below (s₁.setTop (mkF m 2 #[.val (.ref o), .val (.int ix), .val (.ref a), .val (.int (0 : Int32))] [])) τ → G τ := fun τ κ => pre τ (by
    refine XS.iconst X0.here hx rfl (hb hby d11_0) ?_
    show Steps p.tables e below (s₁.setTop (mkF m 1 #[.val (.ref o), .val (.int ix), .val (.ref a), .unset] [(.int (0 : Int32))])) τ
    refine XS.istoreN X0.here hx rfl (hb hby d11_1) rfl (l' := #[.val (.ref o), .val (.int ix), .val (.ref a), .val (.int (0 : Int32))]) rfl ?_
    show Steps p.tables e below (s₁.setTop (mkF m 2 #[.val (.ref o), .val (.int ix), .val (.ref a), .val (.int (0 : Int32))] [])) τ
    exact κ)
  have loop : ∀ (n : Nat) (i : Int32) (sl : own_ST) (pfl : List Value) (upl : List Value) (Tl : State) (ll : List Loc) (hl : Heap) (Xl : Stand p l e ({ frames := 2, cells := 0, slots := 0, locals := 28 } : Room) s m #[(.ref o), (.int ix), (.ref a)] below meth c Tl ll 0 0) (el : Tl.heap = hl) (NNl : Fr n0 ll) (K : Keep h0 hl [o, un, up, pf]) (Zn : n0 ≤ hl.size) (E_o : Exa Z hl o "coppice/marshal/context/NamespaceScope") (F_un : Fld Z hl o "coppice/marshal/context/NamespaceScope" "undoNamespaces" "[I" (.ref un)) (F_up : Fld Z hl o "coppice/marshal/context/NamespaceScope" "undoPrefixes" "[Ljava/lang/String;" (.ref up)) (F_pf : Fld Z hl o "coppice/marshal/context/NamespaceScope" "prefixes" "[Ljava/lang/String;" (.ref pf)) (F_uc : Fld Z hl o "coppice/marshal/context/NamespaceScope" "undoCount" "I" (.int sl.2.2.2)) (V_un : Arv Z hl un ku .int (16 : Int32) sl.2.1 (.int (0 : Int32))) (V_up : Arv Z hl up kp (.object "java/lang/String") (16 : Int32) upl .null) (V_pf : Arv Z hl pf kf (.object "java/lang/String") nz pfl .null) (L_up : own_SL Z hl upl sl.2.2.1) (L_pf : own_SL Z hl pfl sl.1) (F_p : own_S Z hl (.ref a) (some tp)) (S_c : Sta Z hl "java/lang/String" "COMPACT_STRINGS" "Z" (.int cw)) (hn : i.toInt + (n : Int) = nz.toInt) (hi0 : 0 ≤ i.toInt) (hub : 0 ≤ sl.2.2.2.toInt ∧ sl.2.2.2.toInt ≤ b0 + i.toInt) (husl : sl.2.1.length = 16) (hupl : upl.length = 16) (hpfl : pfl.length = nz.toNatClampNeg) (hres : own_dl tp ix n i sl = own_dl tp ix nz.toInt.toNat (0 : Int32) s0) (pre : ∀ τ, Steps p.tables e below (Tl.setTop (mkF m 2 #[.val (.ref o), .val (.int ix), .val (.ref a), .val (.int i)] [])) τ → G τ), GL := by
    intro n
    induction n with
    | zero =>
      intro i sl pfl upl Tl ll hl Xl el NNl K Zn E_o F_un F_up F_pf F_uc V_un V_up V_pf L_up L_pf F_p S_c hn hi0 hub husl hupl hpfl hres pre
      have pre : ∀ τ, Steps p.tables e below (Tl.setTop (mkF m 4 #[.val (.ref o), .val (.int ix), .val (.ref a), .val (.int i)] [(.ref o), (.int i)])) τ → G τ := fun τ κ => pre τ (by
        refine XS.iloadN Xl.here hx rfl (hb hby d11_2) rfl ?_
        show Steps p.tables e below (Tl.setTop (mkF m 3 #[.val (.ref o), .val (.int ix), .val (.ref a), .val (.int i)] [(.int i)])) τ
        refine XS.aloadN Xl.here hx rfl (hb hby d11_3) rfl rfl ?_
        show Steps p.tables e below (Tl.setTop (mkF m 4 #[.val (.ref o), .val (.int ix), .val (.ref a), .val (.int i)] [(.ref o), (.int i)])) τ
        exact κ)
      obtain ⟨T1, X1, e1, st1⟩ := getF Xl hx hZ hown (host := "") (Or.inl (hw _ (List.mem_of_getElem? (i := 51) rfl))) Via.refl el F_pf (g := (mkF m 4 #[.val (.ref o), .val (.int ix), .val (.ref a), .val (.int i)] [(.ref o), (.int i)])) rfl rfl (hb hby d11_4)
      have pre : ∀ τ, Steps p.tables e below (T1.setTop (mkF m 7 #[.val (.ref o), .val (.int ix), .val (.ref a), .val (.int i)] [(.ref pf), (.int i)])) τ → G τ := fun τ κ => pre τ (st1 τ κ)
      obtain ⟨c2, Ar2, -, S2, N2, -, -⟩ := id V_pf
      have pre : ∀ τ, Steps p.tables e below (T1.setTop (mkF m 8 #[.val (.ref o), .val (.int ix), .val (.ref a), .val (.int i)] [(.int nz), (.int i)])) τ → G τ := fun τ κ => pre τ (by
        refine X1.arraylength hx (by rw [e1]; exact Ar2.1) (State.isArrayOf_alike hZ.alike Ar2.2.1) (g := (mkF m 7 #[.val (.ref o), .val (.int ix), .val (.ref a), .val (.int i)] [(.ref pf), (.int i)])) rfl rfl (hb hby d11_7) _ ?_
        rw [len_of S2 N2]
        exact κ)
      have hc3 : ¬ (i < nz) := own_lz hn
      have pre : ∀ τ, Steps p.tables e below (T1.setTop (mkF m 44 #[.val (.ref o), .val (.int ix), .val (.ref a), .val (.int i)] [(.ref a), (.int ix), (.ref o)])) τ → G τ := fun τ κ => pre τ (by
        refine XS.icmpYes X1.here hx rfl (pc0 := 8) (pc' := 41) rfl (hb hby d11_8) rfl (flt hc3).2.1 (by decide) (by decide) ?_
        show Steps p.tables e below (T1.setTop (mkF m 41 #[.val (.ref o), .val (.int ix), .val (.ref a), .val (.int i)] [])) τ
        refine XS.aloadN X1.here hx rfl (hb hby d11_41) rfl rfl ?_
        show Steps p.tables e below (T1.setTop (mkF m 42 #[.val (.ref o), .val (.int ix), .val (.ref a), .val (.int i)] [(.ref o)])) τ
        refine XS.iloadN X1.here hx rfl (hb hby d11_42) rfl ?_
        show Steps p.tables e below (T1.setTop (mkF m 43 #[.val (.ref o), .val (.int ix), .val (.ref a), .val (.int i)] [(.int ix), (.ref o)])) τ
        refine XS.aloadN X1.here hx rfl (hb hby d11_43) rfl rfl ?_
        show Steps p.tables e below (T1.setTop (mkF m 44 #[.val (.ref o), .val (.int ix), .val (.ref a), .val (.int i)] [(.ref a), (.int ix), (.ref o)])) τ
        exact κ)
      obtain ⟨cq4, q4, q4'⟩ := E_o.cell
      obtain ⟨_, _, ⟨T4, Lx4, kx4, nx4⟩, -, X4, ⟨Lc4, hQ4, l4, y4, z4⟩, st4⟩ := X1.privateBack hx (y := (⟨"coppice/marshal/context/NamespaceScope", "bind", "(ILjava/lang/String;)V"⟩ : MethodName)) hown (mvT hZ (hw _ (List.mem_of_getElem? (i := 77) rfl))) (mvT hZ (hw _ (List.mem_of_getElem? (i := 78) rfl))) (own_selfp (y := (⟨"coppice/marshal/context/NamespaceScope", "bind", "(ILjava/lang/String;)V"⟩ : MethodName)) (mvT hZ (hw _ (List.mem_of_getElem? (i := 37) rfl))) (Cond.privateMethod_at (mvP hZ (hw _ (List.mem_of_getElem? (i := 79) rfl)) (args := #[]))) (mvT hZ (hw _ (List.mem_of_getElem? (i := 78) rfl))) (by decide)) (Cond.privateMethod_at (mvP hZ (hw _ (List.mem_of_getElem? (i := 79) rfl)) (args := #[]))) (mvT hZ (hw _ (List.mem_of_getElem? (i := 80) rfl))) (by decide) (backOf (W := 0) (rm12 l Z a0 hw [] o ix (.ref a) un up pf ku kp kf nz sl.2.2.2 sl.2.1 upl pfl sl.2.2.1 sl.1 (some tp) hl n0 Zn g_o g_un g_up g_pf E_o F_un F_up F_pf F_uc V_un V_up V_pf L_up L_pf O_up O_pf ne_o__un ne_o__up ne_o__pf ne_un__up ne_un__pf ne_up__pf F_p hk (own_ubz hb0 (own_arvn V_pf) hn hub) husl hupl hpfl) hZ (hw _ (List.mem_of_getElem? (i := 80) rfl)) (hw _ (List.mem_of_getElem? (i := 38) rfl)) (by decide) (by decide)) (g := (mkF m 44 #[.val (.ref o), .val (.int ix), .val (.ref a), .val (.int i)] [(.ref a), (.int ix), (.ref o)])) rfl (by rw [hml]; rfl) (Steps.refl _) (a := o) (by rw [e1]; exact q4) q4' (argsL := [(.int ix), (.ref a)]) (rest := []) (lenOf pd_1 rfl) rfl (by show 2 * 0 + _ ≤ _; exact Nat.le_of_eq rfl) (hb hby d11_44) (fun _ _ => ⟨rfl, e1, (by decide : 0 + 0 ≤ _), (by decide : 0 + 0 ≤ _)⟩)
      dsimp only [Pt.U, Pt.locs, Pt.cells, Pt.slots] at X4 l4 y4 z4 st4 hQ4
      replace y4 : kx4 = 0 := y4
      replace z4 : nx4 = 0 := z4
      subst y4 z4
      obtain ⟨rfl, Nq4, Kc4, E_o_4, F_un_4, F_up_4, F_pf_4, F_uc_4, V_un_4, V_up_4, V_pf_4, L_up_4, L_pf_4⟩ := hQ4
      have NN : Fr n0 Lx4 := by rw [l4]; exact Fr.app NNl Nq4
      have Nss : ∀ x ∈ [o, un, up, pf], own_ns Z hl x := (allS (own_nsE E_o (hw _ (List.mem_of_getElem? (i := 37) rfl)) (by decide) (by decide)) (allS (own_nsV V_un (by decide)) (allS (own_nsV V_up (by decide)) (allS (own_nsV V_pf (by decide)) all0))))
      have E_o : Exa Z T4.heap o "coppice/marshal/context/NamespaceScope" := E_o.keep Kc4
      have L_up : own_SL Z T4.heap upl sl.2.2.1 := own_SL_keep L_up Kc4 Nss
      have L_pf : own_SL Z T4.heap pfl sl.1 := own_SL_keep L_pf Kc4 Nss
      have F_p : own_S Z T4.heap (.ref a) (some tp) := own_S_keep F_p Kc4 Nss
      have S_c : Sta Z T4.heap "java/lang/String" "COMPACT_STRINGS" "Z" (.int cw) := own_sta_keepN S_c Kc4 Nss
      have Zn : n0 ≤ T4.heap.size := Nat.le_trans Zn Kc4.1
      have K : Keep h0 T4.heap [o, un, up, pf] := K.trans Kc4 (allS (Or.inl (List.mem_of_getElem? (i := 0) rfl)) (allS (Or.inl (List.mem_of_getElem? (i := 1) rfl)) (allS (Or.inl (List.mem_of_getElem? (i := 2) rfl)) (allS (Or.inl (List.mem_of_getElem? (i := 3) rfl)) all0))))
      have pre : ∀ τ, Steps p.tables e below (T4.setTop (mkF m 47 #[.val (.ref o), .val (.int ix), .val (.ref a), .val (.int i)] [])) τ → G τ := fun τ κ => pre τ (st4.trans κ)
      obtain ⟨fsα, hr, hrun, hended, hW, hsame⟩ := X4.leave (v := none) (fun _ => rfl)
      refine hGL ⟨_, _, hG _ (pre _ ?_), hrun, hended, _, _, rfl, ?_, ⟨_, rfl⟩, hW, hsame.mono (by decide) (by decide)⟩
      · exact X4.returnOut hx Bd.returns (hb hby d11_47) hr
      · show Q11 Z o ix a un up pf ku kp kf nz s0 ups pfs tp cw b0 h0 n0 _ T4.heap _
        have hQ : own_de tp ix nz s0 = own_bd sl ix (some tp) := by unfold own_de; rw [← hres]; rfl
        unfold Q11
        rw [hQ]
        exact ⟨_, _, rfl, NN, K, E_o_4, F_un_4, F_up_4, F_pf_4, F_uc_4, V_un_4, V_up_4, V_pf_4, L_up_4, L_pf_4, (by rw [List.length_set]; exact hupl), (by rw [List.length_set]; exact hpfl)⟩
    | succ n ih =>
      intro i sl pfl upl Tl ll hl Xl el NNl K Zn E_o F_un F_up F_pf F_uc V_un V_up V_pf L_up L_pf F_p S_c hn hi0 hub husl hupl hpfl hres pre
      have pre : ∀ τ, Steps p.tables e below (Tl.setTop (mkF m 4 #[.val (.ref o), .val (.int ix), .val (.ref a), .val (.int i)] [(.ref o), (.int i)])) τ → G τ := fun τ κ => pre τ (by
        refine XS.iloadN Xl.here hx rfl (hb hby d11_2) rfl ?_
        show Steps p.tables e below (Tl.setTop (mkF m 3 #[.val (.ref o), .val (.int ix), .val (.ref a), .val (.int i)] [(.int i)])) τ
        refine XS.aloadN Xl.here hx rfl (hb hby d11_3) rfl rfl ?_
        show Steps p.tables e below (Tl.setTop (mkF m 4 #[.val (.ref o), .val (.int ix), .val (.ref a), .val (.int i)] [(.ref o), (.int i)])) τ
        exact κ)
      obtain ⟨T5, X5, e5, st5⟩ := getF Xl hx hZ hown (host := "") (Or.inl (hw _ (List.mem_of_getElem? (i := 51) rfl))) Via.refl el F_pf (g := (mkF m 4 #[.val (.ref o), .val (.int ix), .val (.ref a), .val (.int i)] [(.ref o), (.int i)])) rfl rfl (hb hby d11_4)
      have pre : ∀ τ, Steps p.tables e below (T5.setTop (mkF m 7 #[.val (.ref o), .val (.int ix), .val (.ref a), .val (.int i)] [(.ref pf), (.int i)])) τ → G τ := fun τ κ => pre τ (st5 τ κ)
      obtain ⟨c6, Ar6, -, S6, N6, -, -⟩ := id V_pf
      have pre : ∀ τ, Steps p.tables e below (T5.setTop (mkF m 8 #[.val (.ref o), .val (.int ix), .val (.ref a), .val (.int i)] [(.int nz), (.int i)])) τ → G τ := fun τ κ => pre τ (by
        refine X5.arraylength hx (by rw [e5]; exact Ar6.1) (State.isArrayOf_alike hZ.alike Ar6.2.1) (g := (mkF m 7 #[.val (.ref o), .val (.int ix), .val (.ref a), .val (.int i)] [(.ref pf), (.int i)])) rfl rfl (hb hby d11_7) _ ?_
        rw [len_of S6 N6]
        exact κ)
      have hc7 : i < nz := own_ls hn
      have pre : ∀ τ, Steps p.tables e below (T5.setTop (mkF m 13 #[.val (.ref o), .val (.int ix), .val (.ref a), .val (.int i)] [(.int ix), (.int i)])) τ → G τ := fun τ κ => pre τ (by
        refine XS.icmpNo X5.here hx rfl (hb hby d11_8) rfl (tlt hc7).2.1 ?_
        show Steps p.tables e below (T5.setTop (mkF m 11 #[.val (.ref o), .val (.int ix), .val (.ref a), .val (.int i)] [])) τ
        refine XS.iloadN X5.here hx rfl (hb hby d11_11) rfl ?_
        show Steps p.tables e below (T5.setTop (mkF m 12 #[.val (.ref o), .val (.int ix), .val (.ref a), .val (.int i)] [(.int i)])) τ
        refine XS.iloadN X5.here hx rfl (hb hby d11_12) rfl ?_
        show Steps p.tables e below (T5.setTop (mkF m 13 #[.val (.ref o), .val (.int ix), .val (.ref a), .val (.int i)] [(.int ix), (.int i)])) τ
        exact κ)
      rcases Classical.em (i = ix) with hc13_8 | hc13_8
      ·
        have pre : ∀ τ, Steps p.tables e below (T5.setTop (mkF m 2 #[.val (.ref o), .val (.int ix), .val (.ref a), .val (.int (i + (1 : Int32)))] [])) τ → G τ := fun τ κ => pre τ (by
          refine XS.icmpYes X5.here hx rfl (pc0 := 13) (pc' := 35) rfl (hb hby d11_13) rfl (teq hc13_8).1 (by decide) (by decide) ?_
          show Steps p.tables e below (T5.setTop (mkF m 35 #[.val (.ref o), .val (.int ix), .val (.ref a), .val (.int i)] [])) τ
          refine XS.iinc X5.here hx rfl (hb hby d11_35) rfl (l' := #[.val (.ref o), .val (.int ix), .val (.ref a), .val (.int (i + (1 : Int32)))]) rfl ?_
          show Steps p.tables e below (T5.setTop (mkF m 38 #[.val (.ref o), .val (.int ix), .val (.ref a), .val (.int (i + (1 : Int32)))] [])) τ
          refine XS.goto X5.here hx rfl (pc0 := 38) (pc' := 2) rfl (hb hby d11_38) (by decide) (by decide) ?_
          show Steps p.tables e below (T5.setTop (mkF m 2 #[.val (.ref o), .val (.int ix), .val (.ref a), .val (.int (i + (1 : Int32)))] [])) τ
          exact κ)
        exact ih (i + (1 : Int32)) sl pfl upl T5 _ hl X5 e5 NNl K Zn E_o F_un F_up F_pf F_uc V_un V_up V_pf L_up L_pf F_p S_c (own_l1 hi0 hn) (own_l2 hi0 hn) (own_hub0 hi0 hn hub) husl hupl hpfl (hres ▸ own_dlF (fun q => q.1 hc13_8)) pre
      ·
        have pre : ∀ τ, Steps p.tables e below (T5.setTop (mkF m 18 #[.val (.ref o), .val (.int ix), .val (.ref a), .val (.int i)] [(.ref o), (.ref a)])) τ → G τ := fun τ κ => pre τ (by
          refine XS.icmpNo X5.here hx rfl (hb hby d11_13) rfl (feq hc13_8).1 ?_
          show Steps p.tables e below (T5.setTop (mkF m 16 #[.val (.ref o), .val (.int ix), .val (.ref a), .val (.int i)] [])) τ
          refine XS.aloadN X5.here hx rfl (hb hby d11_16) rfl rfl ?_
          show Steps p.tables e below (T5.setTop (mkF m 17 #[.val (.ref o), .val (.int ix), .val (.ref a), .val (.int i)] [(.ref a)])) τ
          refine XS.aloadN X5.here hx rfl (hb hby d11_17) rfl rfl ?_
          show Steps p.tables e below (T5.setTop (mkF m 18 #[.val (.ref o), .val (.int ix), .val (.ref a), .val (.int i)] [(.ref o), (.ref a)])) τ
          exact κ)
        obtain ⟨T9, X9, e9, st9⟩ := getF X5 hx hZ hown (host := "") (Or.inl (hw _ (List.mem_of_getElem? (i := 51) rfl))) Via.refl e5 F_pf (g := (mkF m 18 #[.val (.ref o), .val (.int ix), .val (.ref a), .val (.int i)] [(.ref o), (.ref a)])) rfl rfl (hb hby d11_18)
        have pre : ∀ τ, Steps p.tables e below (T9.setTop (mkF m 21 #[.val (.ref o), .val (.int ix), .val (.ref a), .val (.int i)] [(.ref pf), (.ref a)])) τ → G τ := fun τ κ => pre τ (st9 τ κ)
        have pre : ∀ τ, Steps p.tables e below (T9.setTop (mkF m 22 #[.val (.ref o), .val (.int ix), .val (.ref a), .val (.int i)] [(.int i), (.ref pf), (.ref a)])) τ → G τ := fun τ κ => pre τ (by
          refine XS.iloadN X9.here hx rfl (hb hby d11_21) rfl ?_
          show Steps p.tables e below (T9.setTop (mkF m 22 #[.val (.ref o), .val (.int ix), .val (.ref a), .val (.int i)] [(.int i), (.ref pf), (.ref a)])) τ
          exact κ)
        obtain ⟨c10, Ar10, q10, S10, Nz10, Hh10, Gg10⟩ := id V_pf
        have F_t : own_S Z hl (pfl.getD (i).toNatClampNeg .null) (sl.1.getD (i).toNatClampNeg none) := L_pf.2 _
        have hin10 : ¬ (i < 0 ∨ c10.slots.size ≤ (i).toNatClampNeg) := inb_of S10 (own_lb hi0 hn)
        have hat10 : c10.slots[(i).toNatClampNeg]? = some (pfl.getD (i).toNatClampNeg .null) := Hh10.at hin10 rfl
        have pre : ∀ τ, Steps p.tables e below (T9.setTop (mkF m 23 #[.val (.ref o), .val (.int ix), .val (.ref a), .val (.int i)] [(pfl.getD (i).toNatClampNeg .null), (.ref a)])) τ → G τ := fun τ κ => pre τ (X9.aaload hx (j := i) (v := (pfl.getD (i).toNatClampNeg .null)) (by rw [e9]; exact Ar10.1) (State.isArrayOf_alike hZ.alike Ar10.2.1) rfl Ar10.2.2 hin10 hat10 (g := (mkF m 22 #[.val (.ref o), .val (.int ix), .val (.ref a), .val (.int i)] [(.int i), (.ref pf), (.ref a)])) rfl rfl (hb hby d11_22) _ κ)
        obtain ⟨cq11, kq11, q11a, q11b, q11c⟩ := isOf hZ e9 (own_S_exa F_p)
        obtain ⟨_, _, ⟨T11, Lx11, kx11, nx11⟩, -, X11, ⟨Lc11, hQ11, l11, y11, z11⟩, st11⟩ := X9.virtualBack hx (y := (⟨"java/lang/String", "equals", "(Ljava/lang/Object;)Z"⟩ : MethodName)) (z := (⟨"java/lang/String", "equals", "(Ljava/lang/Object;)Z"⟩ : MethodName)) hown (mvT hZ (hw _ (List.mem_of_getElem? (i := 76) rfl))) (mvT hZ (hw _ (List.mem_of_getElem? (i := 24) rfl))) (notFace_of_selects (args := #[]) (mvT hZ (hw _ (List.mem_of_getElem? (i := 26) rfl)))) (mvT hZ (hw _ (List.mem_of_getElem? (i := 26) rfl))) (mvT hZ (hw _ (List.mem_of_getElem? (i := 25) rfl))) (by decide) (backOf (W := 0) (rm4 l Z a0 hw [] a (pfl.getD (i).toNatClampNeg .null) tp (sl.1.getD (i).toNatClampNeg none) cw hl n0 Zn F_p F_t S_c hcw) hZ (hw _ (List.mem_of_getElem? (i := 27) rfl)) (hw _ (List.mem_of_getElem? (i := 9) rfl)) (by decide) (by decide)) q11a q11c (g := (mkF m 23 #[.val (.ref o), .val (.int ix), .val (.ref a), .val (.int i)] [(pfl.getD (i).toNatClampNeg .null), (.ref a)])) rfl (by rw [hml]; rfl) (Steps.refl _) (argsL := [(pfl.getD (i).toNatClampNeg .null)]) (rest := []) (lenOf pd_2 rfl) rfl (by show 2 * 0 + _ ≤ _; exact Nat.le_of_eq rfl) (hb hby d11_23) (fun _ _ => ⟨rfl, e9, (by decide : 0 + 0 ≤ _), (by decide : 0 + 0 ≤ _)⟩)
        dsimp only [Pt.U, Pt.locs, Pt.cells, Pt.slots] at X11 l11 y11 z11 st11 hQ11
        replace y11 : kx11 = 0 := y11
        replace z11 : nx11 = 0 := z11
        subst y11 z11
        obtain ⟨rfl, Nq11, hs11⟩ := hQ11
        have NN : Fr n0 Lx11 := by rw [l11]; exact Fr.app NNl Nq11
        have pre : ∀ τ, Steps p.tables e below (T11.setTop (mkF m 26 #[.val (.ref o), .val (.int ix), .val (.ref a), .val (.int i)] [(.int (own_eqt tp (sl.1.getD (i).toNatClampNeg none)))])) τ → G τ := fun τ κ => pre τ (st11.trans κ)
        rcases Classical.em ((own_eqt tp (sl.1.getD (i).toNatClampNeg none)) = (0 : Int32)) with hc26_12 | hc26_12
        ·
          have pre : ∀ τ, Steps p.tables e below (T11.setTop (mkF m 2 #[.val (.ref o), .val (.int ix), .val (.ref a), .val (.int (i + (1 : Int32)))] [])) τ → G τ := fun τ κ => pre τ (by
            refine XS.ifYes X11.here hx rfl (pc0 := 26) (pc' := 35) rfl (hb hby d11_26) rfl ((if0 _ _).trans (teq hc26_12).1) (by decide) (by decide) ?_
            show Steps p.tables e below (T11.setTop (mkF m 35 #[.val (.ref o), .val (.int ix), .val (.ref a), .val (.int i)] [])) τ
            refine XS.iinc X11.here hx rfl (hb hby d11_35) rfl (l' := #[.val (.ref o), .val (.int ix), .val (.ref a), .val (.int (i + (1 : Int32)))]) rfl ?_
            show Steps p.tables e below (T11.setTop (mkF m 38 #[.val (.ref o), .val (.int ix), .val (.ref a), .val (.int (i + (1 : Int32)))] [])) τ
            refine XS.goto X11.here hx rfl (pc0 := 38) (pc' := 2) rfl (hb hby d11_38) (by decide) (by decide) ?_
            show Steps p.tables e below (T11.setTop (mkF m 2 #[.val (.ref o), .val (.int ix), .val (.ref a), .val (.int (i + (1 : Int32)))] [])) τ
            exact κ)
          exact ih (i + (1 : Int32)) sl pfl upl T11 _ hl X11 hs11 NN K Zn E_o F_un F_up F_pf F_uc V_un V_up V_pf L_up L_pf F_p S_c (own_l1 hi0 hn) (own_l2 hi0 hn) (own_hub0 hi0 hn hub) husl hupl hpfl (hres ▸ own_dlF (fun q => q.2 hc26_12)) pre
        ·
          have pre : ∀ τ, Steps p.tables e below (T11.setTop (mkF m 32 #[.val (.ref o), .val (.int ix), .val (.ref a), .val (.int i)] [.null, (.int i), (.ref o)])) τ → G τ := fun τ κ => pre τ (by
            refine XS.ifNo X11.here hx rfl (hb hby d11_26) rfl ((if0 _ _).trans (feq hc26_12).1) ?_
            show Steps p.tables e below (T11.setTop (mkF m 29 #[.val (.ref o), .val (.int ix), .val (.ref a), .val (.int i)] [])) τ
            refine XS.aloadN X11.here hx rfl (hb hby d11_29) rfl rfl ?_
            show Steps p.tables e below (T11.setTop (mkF m 30 #[.val (.ref o), .val (.int ix), .val (.ref a), .val (.int i)] [(.ref o)])) τ
            refine XS.iloadN X11.here hx rfl (hb hby d11_30) rfl ?_
            show Steps p.tables e below (T11.setTop (mkF m 31 #[.val (.ref o), .val (.int ix), .val (.ref a), .val (.int i)] [(.int i), (.ref o)])) τ
            refine XS.aconstNull X11.here hx rfl (hb hby d11_31) ?_
            show Steps p.tables e below (T11.setTop (mkF m 32 #[.val (.ref o), .val (.int ix), .val (.ref a), .val (.int i)] [.null, (.int i), (.ref o)])) τ
            exact κ)
          obtain ⟨cq13, q13, q13'⟩ := E_o.cell
          obtain ⟨_, _, ⟨T13, Lx13, kx13, nx13⟩, -, X13, ⟨Lc13, hQ13, l13, y13, z13⟩, st13⟩ := X11.privateBack hx (y := (⟨"coppice/marshal/context/NamespaceScope", "bind", "(ILjava/lang/String;)V"⟩ : MethodName)) hown (mvT hZ (hw _ (List.mem_of_getElem? (i := 77) rfl))) (mvT hZ (hw _ (List.mem_of_getElem? (i := 78) rfl))) (own_selfp (y := (⟨"coppice/marshal/context/NamespaceScope", "bind", "(ILjava/lang/String;)V"⟩ : MethodName)) (mvT hZ (hw _ (List.mem_of_getElem? (i := 37) rfl))) (Cond.privateMethod_at (mvP hZ (hw _ (List.mem_of_getElem? (i := 79) rfl)) (args := #[]))) (mvT hZ (hw _ (List.mem_of_getElem? (i := 78) rfl))) (by decide)) (Cond.privateMethod_at (mvP hZ (hw _ (List.mem_of_getElem? (i := 79) rfl)) (args := #[]))) (mvT hZ (hw _ (List.mem_of_getElem? (i := 80) rfl))) (by decide) (backOf (W := 0) (rm12 l Z a0 hw [] o i .null un up pf ku kp kf nz sl.2.2.2 sl.2.1 upl pfl sl.2.2.1 sl.1 none hl n0 Zn g_o g_un g_up g_pf E_o F_un F_up F_pf F_uc V_un V_up V_pf L_up L_pf O_up O_pf ne_o__un ne_o__up ne_o__pf ne_un__up ne_un__pf ne_up__pf (Or.inl ⟨rfl, rfl⟩) (own_lb hi0 hn) (own_ub hb0 hi0 hn hub) husl hupl hpfl) hZ (hw _ (List.mem_of_getElem? (i := 80) rfl)) (hw _ (List.mem_of_getElem? (i := 38) rfl)) (by decide) (by decide)) (g := (mkF m 32 #[.val (.ref o), .val (.int ix), .val (.ref a), .val (.int i)] [.null, (.int i), (.ref o)])) rfl (by rw [hml]; rfl) (Steps.refl _) (a := o) (by rw [hs11]; exact q13) q13' (argsL := [(.int i), .null]) (rest := []) (lenOf pd_1 rfl) rfl (by show 2 * 0 + _ ≤ _; exact Nat.le_of_eq rfl) (hb hby d11_32) (fun _ _ => ⟨rfl, hs11, (by decide : 0 + 0 ≤ _), (by decide : 0 + 0 ≤ _)⟩)
          dsimp only [Pt.U, Pt.locs, Pt.cells, Pt.slots] at X13 l13 y13 z13 st13 hQ13
          replace y13 : kx13 = 0 := y13
          replace z13 : nx13 = 0 := z13
          subst y13 z13
          obtain ⟨rfl, Nq13, Kc13, E_o_13, F_un_13, F_up_13, F_pf_13, F_uc_13, V_un_13, V_up_13, V_pf_13, L_up_13, L_pf_13⟩ := hQ13
          have NN : Fr n0 Lx13 := by rw [l13]; exact Fr.app NN Nq13
          have Nss : ∀ x ∈ [o, un, up, pf], own_ns Z hl x := (allS (own_nsE E_o (hw _ (List.mem_of_getElem? (i := 37) rfl)) (by decide) (by decide)) (allS (own_nsV V_un (by decide)) (allS (own_nsV V_up (by decide)) (allS (own_nsV V_pf (by decide)) all0))))
          have E_o : Exa Z T13.heap o "coppice/marshal/context/NamespaceScope" := E_o.keep Kc13
          have L_up : own_SL Z T13.heap upl sl.2.2.1 := own_SL_keep L_up Kc13 Nss
          have L_pf : own_SL Z T13.heap pfl sl.1 := own_SL_keep L_pf Kc13 Nss
          have F_p : own_S Z T13.heap (.ref a) (some tp) := own_S_keep F_p Kc13 Nss
          have S_c : Sta Z T13.heap "java/lang/String" "COMPACT_STRINGS" "Z" (.int cw) := own_sta_keepN S_c Kc13 Nss
          have F_t : own_S Z T13.heap (pfl.getD (i).toNatClampNeg .null) (sl.1.getD (i).toNatClampNeg none) := own_S_keep F_t Kc13 Nss
          have Zn : n0 ≤ T13.heap.size := Nat.le_trans Zn Kc13.1
          have K : Keep h0 T13.heap [o, un, up, pf] := K.trans Kc13 (allS (Or.inl (List.mem_of_getElem? (i := 0) rfl)) (allS (Or.inl (List.mem_of_getElem? (i := 1) rfl)) (allS (Or.inl (List.mem_of_getElem? (i := 2) rfl)) (allS (Or.inl (List.mem_of_getElem? (i := 3) rfl)) all0))))
          have pre : ∀ τ, Steps p.tables e below (T13.setTop (mkF m 35 #[.val (.ref o), .val (.int ix), .val (.ref a), .val (.int i)] [])) τ → G τ := fun τ κ => pre τ (st13.trans κ)
          have E_o := E_o_13
          have F_un := F_un_13
          have F_up := F_up_13
          have F_pf := F_pf_13
          have F_uc := F_uc_13
          have V_un := V_un_13
          have V_up := V_up_13
          have V_pf := V_pf_13
          have L_up := L_up_13
          have L_pf := L_pf_13
          have pre : ∀ τ, Steps p.tables e below (T13.setTop (mkF m 2 #[.val (.ref o), .val (.int ix), .val (.ref a), .val (.int (i + (1 : Int32)))] [])) τ → G τ := fun τ κ => pre τ (by
            refine XS.iinc X13.here hx rfl (hb hby d11_35) rfl (l' := #[.val (.ref o), .val (.int ix), .val (.ref a), .val (.int (i + (1 : Int32)))]) rfl ?_
            show Steps p.tables e below (T13.setTop (mkF m 38 #[.val (.ref o), .val (.int ix), .val (.ref a), .val (.int (i + (1 : Int32)))] [])) τ
            refine XS.goto X13.here hx rfl (pc0 := 38) (pc' := 2) rfl (hb hby d11_38) (by decide) (by decide) ?_
            show Steps p.tables e below (T13.setTop (mkF m 2 #[.val (.ref o), .val (.int ix), .val (.ref a), .val (.int (i + (1 : Int32)))] [])) τ
            exact κ)
          exact ih (i + (1 : Int32)) (own_bd sl i none) (pfl.set (i).toNatClampNeg .null) (upl.set (sl.2.2.2).toNatClampNeg (pfl.getD (i).toNatClampNeg .null)) T13 _ T13.heap X13 rfl NN K Zn E_o F_un F_up F_pf F_uc V_un V_up V_pf L_up L_pf F_p S_c (own_l1 hi0 hn) (own_l2 hi0 hn) (own_hub hb0 hi0 hn hub) (by show (sl.2.1.set _ _).length = 16; rw [List.length_set]; exact husl) (by rw [List.length_set]; exact hupl) (by rw [List.length_set]; exact hpfl) (hres ▸ own_dlT hc13_8 hc26_12) pre
  exact loop nz.toInt.toNat (0 : Int32) s0 pfs ups s₁ _ h0 X0 e0 N0 K Zn E_o F_un F_up F_pf F_uc V_un V_up V_pf L_up L_pf F_p S_c (own_l0 (own_arvn V_pf)) (by decide) (own_hub00 huc) hus hups hpfs rfl pre
theorem d13_0 : decode prog_2_method_6_code 0 = .ok (.aload_n 0, 1) := by decide +kernel
theorem d13_1 : decode prog_2_method_6_code 1 = .ok (.getfield 35, 3) := by decide +kernel
theorem d13_4 : decode prog_2_method_6_code 4 = .ok (.iload_n 1, 1) := by decide +kernel
theorem d13_5 : decode prog_2_method_6_code 5 = .ok (.if_icmp .le 49, 3) := by decide +kernel
theorem d13_54 : decode prog_2_method_6_code 54 = .ok (.return_, 1) := by decide +kernel
theorem d13_8 : decode prog_2_method_6_code 8 = .ok (.aload_n 0, 1) := by decide +kernel
theorem d13_9 : decode prog_2_method_6_code 9 = .ok (.dup, 1) := by decide +kernel
theorem d13_10 : decode prog_2_method_6_code 10 = .ok (.getfield 35, 3) := by decide +kernel
theorem d13_13 : decode prog_2_method_6_code 13 = .ok (.iconst 1, 1) := by decide +kernel
theorem d13_14 : decode prog_2_method_6_code 14 = .ok (.isub, 1) := by decide +kernel
theorem d13_15 : decode prog_2_method_6_code 15 = .ok (.putfield 35, 3) := by decide +kernel
theorem d13_18 : decode prog_2_method_6_code 18 = .ok (.aload_n 0, 1) := by decide +kernel
theorem d13_19 : decode prog_2_method_6_code 19 = .ok (.getfield 19, 3) := by decide +kernel
theorem d13_22 : decode prog_2_method_6_code 22 = .ok (.aload_n 0, 1) := by decide +kernel
theorem d13_23 : decode prog_2_method_6_code 23 = .ok (.getfield 7, 3) := by decide +kernel
theorem d13_26 : decode prog_2_method_6_code 26 = .ok (.aload_n 0, 1) := by decide +kernel
theorem d13_27 : decode prog_2_method_6_code 27 = .ok (.getfield 35, 3) := by decide +kernel
theorem d13_30 : decode prog_2_method_6_code 30 = .ok (.iaload, 1) := by decide +kernel
theorem d13_31 : decode prog_2_method_6_code 31 = .ok (.aload_n 0, 1) := by decide +kernel
theorem d13_32 : decode prog_2_method_6_code 32 = .ok (.getfield 15, 3) := by decide +kernel
theorem d13_35 : decode prog_2_method_6_code 35 = .ok (.aload_n 0, 1) := by decide +kernel
theorem d13_36 : decode prog_2_method_6_code 36 = .ok (.getfield 35, 3) := by decide +kernel
theorem d13_39 : decode prog_2_method_6_code 39 = .ok (.aaload, 1) := by decide +kernel
theorem d13_40 : decode prog_2_method_6_code 40 = .ok (.aastore, 1) := by decide +kernel
theorem d13_41 : decode prog_2_method_6_code 41 = .ok (.aload_n 0, 1) := by decide +kernel
theorem d13_42 : decode prog_2_method_6_code 42 = .ok (.getfield 15, 3) := by decide +kernel
theorem d13_45 : decode prog_2_method_6_code 45 = .ok (.aload_n 0, 1) := by decide +kernel
theorem d13_46 : decode prog_2_method_6_code 46 = .ok (.getfield 35, 3) := by decide +kernel
theorem d13_49 : decode prog_2_method_6_code 49 = .ok (.aconst_null, 1) := by decide +kernel
theorem d13_50 : decode prog_2_method_6_code 50 = .ok (.aastore, 1) := by decide +kernel
theorem d13_51 : decode prog_2_method_6_code 51 = .ok (.goto (-51), 3) := by decide +kernel
theorem ef_13 (m : MethodId) (x0 : Addr) (x1 : Int32) : entryFrame m #[(.ref x0), (.int x1)] 2 = mkF m 0 #[.val (.ref x0), .val (.int x1)] [] := by first | (simp [entryFrame, mkF, argsToLocals, Value.category]; done) | rfl
def Q13 (Z : State) (o : Addr) (tg : Int32) (un : Addr) (up : Addr) (pf : Addr) (ku : ClassId) (kp : ClassId) (kf : ClassId) (nz : Int32) (uc : Int32) (us : List Value) (ups : List Value) (pfs : List Value) (uo : List own_T) (po : List own_T) (h0 : Heap) (n0 : Nat) (vα : Option Value) (hα : Heap) (Lα : List Loc) : Prop := ∃ (upz : List Value) (pfz : List Value), vα = none ∧ Fr n0 Lα ∧ Keep h0 hα [o, up, pf] ∧ Exa Z hα o "coppice/marshal/context/NamespaceScope" ∧ Fld Z hα o "coppice/marshal/context/NamespaceScope" "undoNamespaces" "[I" (.ref un) ∧ Fld Z hα o "coppice/marshal/context/NamespaceScope" "undoPrefixes" "[Ljava/lang/String;" (.ref up) ∧ Fld Z hα o "coppice/marshal/context/NamespaceScope" "prefixes" "[Ljava/lang/String;" (.ref pf) ∧ Fld Z hα o "coppice/marshal/context/NamespaceScope" "undoCount" "I" (.int tg) ∧ Arv Z hα un ku .int (16 : Int32) us (.int (0 : Int32)) ∧ Arv Z hα up kp (.object "java/lang/String") (16 : Int32) upz .null ∧ Arv Z hα pf kf (.object "java/lang/String") nz pfz .null ∧ own_SL Z hα upz (own_rs us (uc.toInt - tg.toInt).toNat uc (po, uo)).2 ∧ own_SL Z hα pfz (own_rs us (uc.toInt - tg.toInt).toNat uc (po, uo)).1 ∧ upz.length = 16 ∧ pfz.length = nz.toNatClampNeg
set_option maxRecDepth 65536 in
set_option maxHeartbeats 40000000 in
theorem rm13 (l : Launch) (Z : State) (a0 : Array Value) (hw : ∀ d ∈ tables_1, d.before a0 Z = true) (ws : List Jvm.Cond) (o : Addr) (tg : Int32) (un : Addr) (up : Addr) (pf : Addr) (ku : ClassId) (kp : ClassId) (kf : ClassId) (nz : Int32) (uc : Int32) (us : List Value) (ups : List Value) (pfs : List Value) (uo : List own_T) (po : List own_T) (h0 : Heap) (n0 : Nat) (Z0 : n0 ≤ h0.size) (g_o : n0 ≤ o) (g_up : n0 ≤ up) (g_pf : n0 ≤ pf) (E_o : Exa Z h0 o "coppice/marshal/context/NamespaceScope") (F_un : Fld Z h0 o "coppice/marshal/context/NamespaceScope" "undoNamespaces" "[I" (.ref un)) (F_up : Fld Z h0 o "coppice/marshal/context/NamespaceScope" "undoPrefixes" "[Ljava/lang/String;" (.ref up)) (F_pf : Fld Z h0 o "coppice/marshal/context/NamespaceScope" "prefixes" "[Ljava/lang/String;" (.ref pf)) (F_uc : Fld Z h0 o "coppice/marshal/context/NamespaceScope" "undoCount" "I" (.int uc)) (V_un : Arv Z h0 un ku .int (16 : Int32) us (.int (0 : Int32))) (V_up : Arv Z h0 up kp (.object "java/lang/String") (16 : Int32) ups .null) (V_pf : Arv Z h0 pf kf (.object "java/lang/String") nz pfs .null) (L_up : own_SL Z h0 ups uo) (L_pf : own_SL Z h0 pfs po) (O_up : Ovr Z kp "java/lang/String") (O_pf : Ovr Z kf "java/lang/String") (ne_o__un : o ≠ un) (ne_o__up : o ≠ up) (ne_o__pf : o ≠ pf) (ne_un__up : un ≠ up) (ne_un__pf : un ≠ pf) (ne_up__pf : up ≠ pf) (ht0 : 0 ≤ tg.toInt) (htu : tg.toInt ≤ uc.toInt) (hu16 : uc.toInt ≤ 16) (hups : ups.length = 16) (hpfs : pfs.length = nz.toNatClampNeg) (hmz : ∀ j : Int32, 0 ≤ j.toInt → j.toInt < uc.toInt → ¬ own_at us j < 0 ∧ own_at us j < nz) :
    MetFree l (⟨"coppice/marshal/context/NamespaceScope", "restore", "(I)V"⟩ : MethodName) (head1 (Jvm.Cond.code (⟨"coppice/marshal/context/NamespaceScope", "restore", "(I)V"⟩ : MethodName) prog_2_method_6_code 2 none :: ws) ({ frames := 0, cells := 0, slots := 0, locals := 0 } : Room)) (fun aα U => aα = #[(.ref o), (.int tg)] ∧ Z.Warmed39 U.vm ∧ U.heap = h0) (fun _ _ _ _ _ => True) (fun _ U oα U' => ∃ vα Lα, oα = .returned vα ∧ Q13 Z o tg un up pf ku kp kf nz uc us ups pfs uo po h0 n0 vα U'.heap Lα ∧ FrameEnd U oα U' Lα ({ frames := 0, cells := 0, slots := 0, locals := 0 } : Room).cells ({ frames := 0, cells := 0, slots := 0, locals := 0 } : Room).slots) := by
  refine MetFree.of_bodySF (plainFor_of_name pn_3) hisR ?_
  intro p e s m args below meth c s₁ Bd hml0 hP hK
  refine own_wrap ?_
  intro GL hGL
  obtain ⟨rfl, hZ, hh⟩ := hP
  have hx := Bd.exec
  have hby := Bd.bytes
  have hml : c.maxLocals = 2 := hml0
  have hown : s.vm.findClass "coppice/marshal/context/NamespaceScope" = some m.cls := findClass_of_methodNamed Bd.named
  have hnm := (name_of_methodNamed Bd.named Bd.method).1
  have X0 : Stand p l e ({ frames := 0, cells := 0, slots := 0, locals := 0 } : Room) s m #[(.ref o), (.int tg)] below meth c s₁ [] 0 0 := Stand.of_body Bd
  have e0 : s₁.heap = h0 := by rw [← hh, Bd.state]; rfl
  have N0 := Fr.nil n0
  have pre0 : ∀ τ, Steps p.tables e below (s₁.setTop (mkF m 0 #[.val (.ref o), .val (.int tg)] [])) τ → Steps p.tables e below (s₁.setTop (entryFrame m #[(.ref o), (.int tg)] 2)) τ := fun τ κ => castTop (ef_13 m o tg) κ
  obtain ⟨G, hG, pre⟩ : ∃ G : State → Prop, (∀ τ, G τ → Steps p.tables e below (s₁.setTop (entryFrame m #[(.ref o), (.int tg)] 2)) τ) ∧ ∀ τ, Steps p.tables e below (s₁.setTop (mkF m 0 #[.val (.ref o), .val (.int tg)] [])) τ → G τ := ⟨_, pre0, fun _ k => k⟩
  have K : Keep h0 h0 [o, up, pf] := Keep.refl h0 _
  have Zn := Z0
  have loop : ∀ (n : Nat) (ucl : Int32) (sl : List own_T × List own_T) (pfl : List Value) (upl : List Value) (Tl : State) (ll : List Loc) (hl : Heap) (Xl : Stand p l e ({ frames := 0, cells := 0, slots := 0, locals := 0 } : Room) s m #[(.ref o), (.int tg)] below meth c Tl ll 0 0) (el : Tl.heap = hl) (NNl : Fr n0 ll) (K : Keep h0 hl [o, up, pf]) (Zn : n0 ≤ hl.size) (E_o : Exa Z hl o "coppice/marshal/context/NamespaceScope") (F_un : Fld Z hl o "coppice/marshal/context/NamespaceScope" "undoNamespaces" "[I" (.ref un)) (F_up : Fld Z hl o "coppice/marshal/context/NamespaceScope" "undoPrefixes" "[Ljava/lang/String;" (.ref up)) (F_pf : Fld Z hl o "coppice/marshal/context/NamespaceScope" "prefixes" "[Ljava/lang/String;" (.ref pf)) (F_uc : Fld Z hl o "coppice/marshal/context/NamespaceScope" "undoCount" "I" (.int ucl)) (V_un : Arv Z hl un ku .int (16 : Int32) us (.int (0 : Int32))) (V_up : Arv Z hl up kp (.object "java/lang/String") (16 : Int32) upl .null) (V_pf : Arv Z hl pf kf (.object "java/lang/String") nz pfl .null) (L_up : own_SL Z hl upl sl.2) (L_pf : own_SL Z hl pfl sl.1) (hn : tg.toInt + (n : Int) = ucl.toInt) (hle : ucl.toInt ≤ uc.toInt) (hupl : upl.length = 16) (hpfl : pfl.length = nz.toNatClampNeg) (hres : own_rs us n ucl sl = own_rs us (uc.toInt - tg.toInt).toNat uc (po, uo)) (pre : ∀ τ, Steps p.tables e below (Tl.setTop (mkF m 0 #[.val (.ref o), .val (.int tg)] [])) τ → G τ), GL := by
    intro n
    induction n with
    | zero =>
      intro ucl sl pfl upl Tl ll hl Xl el NNl K Zn E_o F_un F_up F_pf F_uc V_un V_up V_pf L_up L_pf hn hle hupl hpfl hres pre
      have pre : ∀ τ, Steps p.tables e below (Tl.setTop (mkF m 1 #[.val (.ref o), .val (.int tg)] [(.ref o)])) τ → G τ := fun τ κ => pre τ (by
        refine XS.aloadN Xl.here hx rfl (hb hby d13_0) rfl rfl ?_
        show Steps p.tables e below (Tl.setTop (mkF m 1 #[.val (.ref o), .val (.int tg)] [(.ref o)])) τ
        exact κ)
      obtain ⟨T1, X1, e1, st1⟩ := getF Xl hx hZ hown (host := "") (Or.inl (hw _ (List.mem_of_getElem? (i := 64) rfl))) Via.refl el F_uc (g := (mkF m 1 #[.val (.ref o), .val (.int tg)] [(.ref o)])) rfl rfl (hb hby d13_1)
      have pre : ∀ τ, Steps p.tables e below (T1.setTop (mkF m 4 #[.val (.ref o), .val (.int tg)] [(.int ucl)])) τ → G τ := fun τ κ => pre τ (st1 τ κ)
      have pre : ∀ τ, Steps p.tables e below (T1.setTop (mkF m 5 #[.val (.ref o), .val (.int tg)] [(.int tg), (.int ucl)])) τ → G τ := fun τ κ => pre τ (by
        refine XS.iloadN X1.here hx rfl (hb hby d13_4) rfl ?_
        show Steps p.tables e below (T1.setTop (mkF m 5 #[.val (.ref o), .val (.int tg)] [(.int tg), (.int ucl)])) τ
        exact κ)
      have hc2 : ¬ (tg < ucl) := own_rz hn
      have pre : ∀ τ, Steps p.tables e below (T1.setTop (mkF m 54 #[.val (.ref o), .val (.int tg)] [])) τ → G τ := fun τ κ => pre τ (by
        refine XS.icmpYes X1.here hx rfl (pc0 := 5) (pc' := 54) rfl (hb hby d13_5) rfl (flt hc2).2.2.2 (by decide) (by decide) ?_
        show Steps p.tables e below (T1.setTop (mkF m 54 #[.val (.ref o), .val (.int tg)] [])) τ
        exact κ)
      obtain ⟨fsα, hr, hrun, hended, hW, hsame⟩ := X1.leave (v := none) (fun _ => rfl)
      refine hGL ⟨_, _, hG _ (pre _ ?_), hrun, hended, _, _, rfl, ?_, ⟨_, rfl⟩, hW, hsame.mono (by decide) (by decide)⟩
      · exact X1.returnOut hx Bd.returns (hb hby d13_54) hr
      · show Q13 Z o tg un up pf ku kp kf nz uc us ups pfs uo po h0 n0 _ T1.heap _
        rw [e1]
        have hQ : (own_rs us (uc.toInt - tg.toInt).toNat uc (po, uo)) = sl := hres.symm
        unfold Q13
        rw [hQ]
        exact ⟨upl, pfl, rfl, NNl, K, E_o, F_un, F_up, F_pf, own_re hn ▸ F_uc, V_un, V_up, V_pf, L_up, L_pf, hupl, hpfl⟩
    | succ n ih =>
      intro ucl sl pfl upl Tl ll hl Xl el NNl K Zn E_o F_un F_up F_pf F_uc V_un V_up V_pf L_up L_pf hn hle hupl hpfl hres pre
      have pre : ∀ τ, Steps p.tables e below (Tl.setTop (mkF m 1 #[.val (.ref o), .val (.int tg)] [(.ref o)])) τ → G τ := fun τ κ => pre τ (by
        refine XS.aloadN Xl.here hx rfl (hb hby d13_0) rfl rfl ?_
        show Steps p.tables e below (Tl.setTop (mkF m 1 #[.val (.ref o), .val (.int tg)] [(.ref o)])) τ
        exact κ)
      obtain ⟨T3, X3, e3, st3⟩ := getF Xl hx hZ hown (host := "") (Or.inl (hw _ (List.mem_of_getElem? (i := 64) rfl))) Via.refl el F_uc (g := (mkF m 1 #[.val (.ref o), .val (.int tg)] [(.ref o)])) rfl rfl (hb hby d13_1)
      have pre : ∀ τ, Steps p.tables e below (T3.setTop (mkF m 4 #[.val (.ref o), .val (.int tg)] [(.int ucl)])) τ → G τ := fun τ κ => pre τ (st3 τ κ)
      have pre : ∀ τ, Steps p.tables e below (T3.setTop (mkF m 5 #[.val (.ref o), .val (.int tg)] [(.int tg), (.int ucl)])) τ → G τ := fun τ κ => pre τ (by
        refine XS.iloadN X3.here hx rfl (hb hby d13_4) rfl ?_
        show Steps p.tables e below (T3.setTop (mkF m 5 #[.val (.ref o), .val (.int tg)] [(.int tg), (.int ucl)])) τ
        exact κ)
      have hc4 : tg < ucl := own_rS hn
      have pre : ∀ τ, Steps p.tables e below (T3.setTop (mkF m 10 #[.val (.ref o), .val (.int tg)] [(.ref o), (.ref o)])) τ → G τ := fun τ κ => pre τ (by
        refine XS.icmpNo X3.here hx rfl (hb hby d13_5) rfl (tlt hc4).2.2.2 ?_
        show Steps p.tables e below (T3.setTop (mkF m 8 #[.val (.ref o), .val (.int tg)] [])) τ
        refine XS.aloadN X3.here hx rfl (hb hby d13_8) rfl rfl ?_
        show Steps p.tables e below (T3.setTop (mkF m 9 #[.val (.ref o), .val (.int tg)] [(.ref o)])) τ
        refine XS.dup X3.here hx rfl (hb hby d13_9) rfl rfl ?_
        show Steps p.tables e below (T3.setTop (mkF m 10 #[.val (.ref o), .val (.int tg)] [(.ref o), (.ref o)])) τ
        exact κ)
      obtain ⟨T5, X5, e5, st5⟩ := getF X3 hx hZ hown (host := "") (Or.inl (hw _ (List.mem_of_getElem? (i := 64) rfl))) Via.refl e3 F_uc (g := (mkF m 10 #[.val (.ref o), .val (.int tg)] [(.ref o), (.ref o)])) rfl rfl (hb hby d13_10)
      have pre : ∀ τ, Steps p.tables e below (T5.setTop (mkF m 13 #[.val (.ref o), .val (.int tg)] [(.int ucl), (.ref o)])) τ → G τ := fun τ κ => pre τ (st5 τ κ)
      have pre : ∀ τ, Steps p.tables e below (T5.setTop (mkF m 15 #[.val (.ref o), .val (.int tg)] [(.int (ucl - (1 : Int32))), (.ref o)])) τ → G τ := fun τ κ => pre τ (by
        refine XS.iconst X5.here hx rfl (hb hby d13_13) ?_
        show Steps p.tables e below (T5.setTop (mkF m 14 #[.val (.ref o), .val (.int tg)] [(.int (1 : Int32)), (.int ucl), (.ref o)])) τ
        refine XS.isub X5.here hx rfl (hb hby d13_14) rfl ?_
        show Steps p.tables e below (T5.setTop (mkF m 15 #[.val (.ref o), .val (.int tg)] [(.int (ucl - (1 : Int32))), (.ref o)])) τ
        exact κ)
      obtain ⟨T6, h6, X6, e6, W6, st6⟩ := putF X5 hx hZ hown (host := "") (Or.inl (hw _ (List.mem_of_getElem? (i := 64) rfl))) Via.refl e5 F_uc E_o (Or.inl (hw _ (List.mem_of_getElem? (i := 65) rfl))) (hw _ (List.mem_of_getElem? (i := 37) rfl)) (ty := .int) (by decide) rfl rfl (g := (mkF m 15 #[.val (.ref o), .val (.int tg)] [(.int (ucl - (1 : Int32))), (.ref o)])) rfl rfl (hb hby d13_15)
      have F_uc : Fld Z h6 o "coppice/marshal/context/NamespaceScope" "undoCount" "I" (.int (ucl - (1 : Int32))) := F_uc.same W6
      have Ns := (own_nsE E_o (hw _ (List.mem_of_getElem? (i := 37) rfl)) (by decide) (by decide))
      have E_o : Exa Z h6 o "coppice/marshal/context/NamespaceScope" := E_o.wr W6
      have F_un : Fld Z h6 o "coppice/marshal/context/NamespaceScope" "undoNamespaces" "[I" (.ref un) := F_un.other W6 (Or.inr (slot_ne (Or.inl (hw _ (List.mem_of_getElem? (i := 47) rfl))) (Or.inl (hw _ (List.mem_of_getElem? (i := 65) rfl))) (by decide) (t := (.array .int)) (t' := .int) (by decide) (by decide)))
      have F_up : Fld Z h6 o "coppice/marshal/context/NamespaceScope" "undoPrefixes" "[Ljava/lang/String;" (.ref up) := F_up.other W6 (Or.inr (slot_ne (Or.inl (hw _ (List.mem_of_getElem? (i := 50) rfl))) (Or.inl (hw _ (List.mem_of_getElem? (i := 65) rfl))) (by decide) (t := (.array (.object "java/lang/String"))) (t' := .int) (by decide) (by decide)))
      have F_pf : Fld Z h6 o "coppice/marshal/context/NamespaceScope" "prefixes" "[Ljava/lang/String;" (.ref pf) := F_pf.other W6 (Or.inr (slot_ne (Or.inr (hw _ (List.mem_of_getElem? (i := 52) rfl))) (Or.inl (hw _ (List.mem_of_getElem? (i := 65) rfl))) (by decide) (t := (.array (.object "java/lang/String"))) (t' := .int) (by decide) (by decide)))
      have V_un : Arv Z h6 un ku .int (16 : Int32) us (.int (0 : Int32)) := V_un.other W6 (Ne.symm ne_o__un)
      have V_up : Arv Z h6 up kp (.object "java/lang/String") (16 : Int32) upl .null := V_up.other W6 (Ne.symm ne_o__up)
      have V_pf : Arv Z h6 pf kf (.object "java/lang/String") nz pfl .null := V_pf.other W6 (Ne.symm ne_o__pf)
      have L_up : own_SL Z h6 upl sl.2 := own_SL_wr L_up W6 Ns
      have L_pf : own_SL Z h6 pfl sl.1 := own_SL_wr L_pf W6 Ns
      have Zn : n0 ≤ h6.size := Nat.le_trans Zn (Keep.of_wr W6).1
      have K : Keep h0 h6 [o, up, pf] := K.wr W6 (Or.inl (List.mem_of_getElem? (i := 0) rfl))
      have NN := Fr.snoc X6 NNl g_o
      have pre : ∀ τ, Steps p.tables e below (T6.setTop (mkF m 18 #[.val (.ref o), .val (.int tg)] [])) τ → G τ := fun τ κ => pre τ (st6 τ κ)
      have pre : ∀ τ, Steps p.tables e below (T6.setTop (mkF m 19 #[.val (.ref o), .val (.int tg)] [(.ref o)])) τ → G τ := fun τ κ => pre τ (by
        refine XS.aloadN X6.here hx rfl (hb hby d13_18) rfl rfl ?_
        show Steps p.tables e below (T6.setTop (mkF m 19 #[.val (.ref o), .val (.int tg)] [(.ref o)])) τ
        exact κ)
      obtain ⟨T7, X7, e7, st7⟩ := getF X6 hx hZ hown (host := "") (Or.inl (hw _ (List.mem_of_getElem? (i := 51) rfl))) Via.refl e6 F_pf (g := (mkF m 19 #[.val (.ref o), .val (.int tg)] [(.ref o)])) rfl rfl (hb hby d13_19)
      have pre : ∀ τ, Steps p.tables e below (T7.setTop (mkF m 22 #[.val (.ref o), .val (.int tg)] [(.ref pf)])) τ → G τ := fun τ κ => pre τ (st7 τ κ)
      have pre : ∀ τ, Steps p.tables e below (T7.setTop (mkF m 23 #[.val (.ref o), .val (.int tg)] [(.ref o), (.ref pf)])) τ → G τ := fun τ κ => pre τ (by
        refine XS.aloadN X7.here hx rfl (hb hby d13_22) rfl rfl ?_
        show Steps p.tables e below (T7.setTop (mkF m 23 #[.val (.ref o), .val (.int tg)] [(.ref o), (.ref pf)])) τ
        exact κ)
      obtain ⟨T8, X8, e8, st8⟩ := getF X7 hx hZ hown (host := "") (Or.inl (hw _ (List.mem_of_getElem? (i := 46) rfl))) Via.refl e7 F_un (g := (mkF m 23 #[.val (.ref o), .val (.int tg)] [(.ref o), (.ref pf)])) rfl rfl (hb hby d13_23)
      have pre : ∀ τ, Steps p.tables e below (T8.setTop (mkF m 26 #[.val (.ref o), .val (.int tg)] [(.ref un), (.ref pf)])) τ → G τ := fun τ κ => pre τ (st8 τ κ)
      have pre : ∀ τ, Steps p.tables e below (T8.setTop (mkF m 27 #[.val (.ref o), .val (.int tg)] [(.ref o), (.ref un), (.ref pf)])) τ → G τ := fun τ κ => pre τ (by
        refine XS.aloadN X8.here hx rfl (hb hby d13_26) rfl rfl ?_
        show Steps p.tables e below (T8.setTop (mkF m 27 #[.val (.ref o), .val (.int tg)] [(.ref o), (.ref un), (.ref pf)])) τ
        exact κ)
      obtain ⟨T9, X9, e9, st9⟩ := getF X8 hx hZ hown (host := "") (Or.inl (hw _ (List.mem_of_getElem? (i := 64) rfl))) Via.refl e8 F_uc (g := (mkF m 27 #[.val (.ref o), .val (.int tg)] [(.ref o), (.ref un), (.ref pf)])) rfl rfl (hb hby d13_27)
      have pre : ∀ τ, Steps p.tables e below (T9.setTop (mkF m 30 #[.val (.ref o), .val (.int tg)] [(.int (ucl - (1 : Int32))), (.ref un), (.ref pf)])) τ → G τ := fun τ κ => pre τ (st9 τ κ)
      obtain ⟨c10, Ar10, q10, S10, Nz10, Hh10, Gg10⟩ := id V_un
      have hin10 : ¬ ((ucl - (1 : Int32)) < 0 ∨ c10.slots.size ≤ ((ucl - (1 : Int32))).toNatClampNeg) := inb_of S10 (own_r16 ht0 hn hle hu16)
      have hat10 : c10.slots[((ucl - (1 : Int32))).toNatClampNeg]? = some (.int (own_at us (ucl - (1 : Int32)))) := own_getI Hh10 Gg10 hin10
      have pre : ∀ τ, Steps p.tables e below (T9.setTop (mkF m 31 #[.val (.ref o), .val (.int tg)] [(.int (own_at us (ucl - (1 : Int32)))), (.ref pf)])) τ → G τ := fun τ κ => pre τ (X9.iaload hx (j := (ucl - (1 : Int32))) (v := (.int (own_at us (ucl - (1 : Int32))))) (by rw [e9]; exact Ar10.1) (State.isArrayOf_alike hZ.alike Ar10.2.1) Ar10.2.2 hin10 hat10 (g := (mkF m 30 #[.val (.ref o), .val (.int tg)] [(.int (ucl - (1 : Int32))), (.ref un), (.ref pf)])) rfl rfl (hb hby d13_30) _ κ)
      have pre : ∀ τ, Steps p.tables e below (T9.setTop (mkF m 32 #[.val (.ref o), .val (.int tg)] [(.ref o), (.int (own_at us (ucl - (1 : Int32)))), (.ref pf)])) τ → G τ := fun τ κ => pre τ (by
        refine XS.aloadN X9.here hx rfl (hb hby d13_31) rfl rfl ?_
        show Steps p.tables e below (T9.setTop (mkF m 32 #[.val (.ref o), .val (.int tg)] [(.ref o), (.int (own_at us (ucl - (1 : Int32)))), (.ref pf)])) τ
        exact κ)
      obtain ⟨T11, X11, e11, st11⟩ := getF X9 hx hZ hown (host := "") (Or.inl (hw _ (List.mem_of_getElem? (i := 49) rfl))) Via.refl e9 F_up (g := (mkF m 32 #[.val (.ref o), .val (.int tg)] [(.ref o), (.int (own_at us (ucl - (1 : Int32)))), (.ref pf)])) rfl rfl (hb hby d13_32)
      have pre : ∀ τ, Steps p.tables e below (T11.setTop (mkF m 35 #[.val (.ref o), .val (.int tg)] [(.ref up), (.int (own_at us (ucl - (1 : Int32)))), (.ref pf)])) τ → G τ := fun τ κ => pre τ (st11 τ κ)
      have pre : ∀ τ, Steps p.tables e below (T11.setTop (mkF m 36 #[.val (.ref o), .val (.int tg)] [(.ref o), (.ref up), (.int (own_at us (ucl - (1 : Int32)))), (.ref pf)])) τ → G τ := fun τ κ => pre τ (by
        refine XS.aloadN X11.here hx rfl (hb hby d13_35) rfl rfl ?_
        show Steps p.tables e below (T11.setTop (mkF m 36 #[.val (.ref o), .val (.int tg)] [(.ref o), (.ref up), (.int (own_at us (ucl - (1 : Int32)))), (.ref pf)])) τ
        exact κ)
      obtain ⟨T12, X12, e12, st12⟩ := getF X11 hx hZ hown (host := "") (Or.inl (hw _ (List.mem_of_getElem? (i := 64) rfl))) Via.refl e11 F_uc (g := (mkF m 36 #[.val (.ref o), .val (.int tg)] [(.ref o), (.ref up), (.int (own_at us (ucl - (1 : Int32)))), (.ref pf)])) rfl rfl (hb hby d13_36)
      have pre : ∀ τ, Steps p.tables e below (T12.setTop (mkF m 39 #[.val (.ref o), .val (.int tg)] [(.int (ucl - (1 : Int32))), (.ref up), (.int (own_at us (ucl - (1 : Int32)))), (.ref pf)])) τ → G τ := fun τ κ => pre τ (st12 τ κ)
      obtain ⟨c13, Ar13, q13, S13, Nz13, Hh13, Gg13⟩ := id V_up
      have F_t : own_S Z h6 (upl.getD ((ucl - (1 : Int32))).toNatClampNeg .null) (sl.2.getD ((ucl - (1 : Int32))).toNatClampNeg none) := L_up.2 _
      have hin13 : ¬ ((ucl - (1 : Int32)) < 0 ∨ c13.slots.size ≤ ((ucl - (1 : Int32))).toNatClampNeg) := inb_of S13 (own_r16 ht0 hn hle hu16)
      have hat13 : c13.slots[((ucl - (1 : Int32))).toNatClampNeg]? = some (upl.getD ((ucl - (1 : Int32))).toNatClampNeg .null) := Hh13.at hin13 rfl
      have pre : ∀ τ, Steps p.tables e below (T12.setTop (mkF m 40 #[.val (.ref o), .val (.int tg)] [(upl.getD ((ucl - (1 : Int32))).toNatClampNeg .null), (.int (own_at us (ucl - (1 : Int32)))), (.ref pf)])) τ → G τ := fun τ κ => pre τ (X12.aaload hx (j := (ucl - (1 : Int32))) (v := (upl.getD ((ucl - (1 : Int32))).toNatClampNeg .null)) (by rw [e12]; exact Ar13.1) (State.isArrayOf_alike hZ.alike Ar13.2.1) rfl Ar13.2.2 hin13 hat13 (g := (mkF m 39 #[.val (.ref o), .val (.int tg)] [(.int (ucl - (1 : Int32))), (.ref up), (.int (own_at us (ucl - (1 : Int32)))), (.ref pf)])) rfl rfl (hb hby d13_39) _ κ)
      obtain ⟨c14, Ar14, q14, S14, Nz14, Hh14, Gg14⟩ := id V_pf
      have hin14 : ¬ ((own_at us (ucl - (1 : Int32))) < 0 ∨ c14.slots.size ≤ ((own_at us (ucl - (1 : Int32)))).toNatClampNeg) := inb_of S14 (own_rj hmz ht0 hn hle)
      obtain ⟨T14, h14, X14, e14, W14, st14⟩ := stR X12 hx hZ e12 Ar14 (j := (own_at us (ucl - (1 : Int32)))) hin14 rfl (own_S_sto F_t Ar14 q14 O_pf) (g := (mkF m 40 #[.val (.ref o), .val (.int tg)] [(upl.getD ((ucl - (1 : Int32))).toNatClampNeg .null), (.int (own_at us (ucl - (1 : Int32)))), (.ref pf)])) rfl rfl (hb hby d13_40)
      have V_pf : Arv Z h14 pf kf (.object "java/lang/String") nz (pfl.set ((own_at us (ucl - (1 : Int32)))).toNatClampNeg (upl.getD ((ucl - (1 : Int32))).toNatClampNeg .null)) .null := Arv.set Ar14 q14 S14 Nz14 Hh14 Gg14 (own_S_fit F_t) W14 _ rfl (own_lt2 (own_rj hmz ht0 hn hle) hpfl)
      have Ns := (Or.inr ⟨_, _, Ar14, by decide⟩ : own_ns Z h6 pf)
      have E_o : Exa Z h14 o "coppice/marshal/context/NamespaceScope" := E_o.wr W14
      have F_un : Fld Z h14 o "coppice/marshal/context/NamespaceScope" "undoNamespaces" "[I" (.ref un) := F_un.other W14 (Or.inl ne_o__pf)
      have F_up : Fld Z h14 o "coppice/marshal/context/NamespaceScope" "undoPrefixes" "[Ljava/lang/String;" (.ref up) := F_up.other W14 (Or.inl ne_o__pf)
      have F_pf : Fld Z h14 o "coppice/marshal/context/NamespaceScope" "prefixes" "[Ljava/lang/String;" (.ref pf) := F_pf.other W14 (Or.inl ne_o__pf)
      have F_uc : Fld Z h14 o "coppice/marshal/context/NamespaceScope" "undoCount" "I" (.int (ucl - (1 : Int32))) := F_uc.other W14 (Or.inl ne_o__pf)
      have V_un : Arv Z h14 un ku .int (16 : Int32) us (.int (0 : Int32)) := V_un.other W14 ne_un__pf
      have V_up : Arv Z h14 up kp (.object "java/lang/String") (16 : Int32) upl .null := V_up.other W14 ne_up__pf
      have L_up : own_SL Z h14 upl sl.2 := own_SL_wr L_up W14 Ns
      have L_pf : own_SL Z h14 pfl sl.1 := own_SL_wr L_pf W14 Ns
      have F_t : own_S Z h14 (upl.getD ((ucl - (1 : Int32))).toNatClampNeg .null) (sl.2.getD ((ucl - (1 : Int32))).toNatClampNeg none) := own_S_wr F_t W14 Ns
      have Zn : n0 ≤ h14.size := Nat.le_trans Zn (Keep.of_wr W14).1
      have K : Keep h0 h14 [o, up, pf] := K.wr W14 (Or.inl (List.mem_of_getElem? (i := 2) rfl))
      have NN := Fr.snoc X14 NN g_pf
      have pre : ∀ τ, Steps p.tables e below (T14.setTop (mkF m 41 #[.val (.ref o), .val (.int tg)] [])) τ → G τ := fun τ κ => pre τ (st14 τ κ)
      have L_pf : own_SL Z h14 (pfl.set ((own_at us (ucl - (1 : Int32)))).toNatClampNeg (upl.getD ((ucl - (1 : Int32))).toNatClampNeg .null)) (sl.1.set ((own_at us (ucl - (1 : Int32)))).toNatClampNeg (sl.2.getD ((ucl - (1 : Int32))).toNatClampNeg none)) := own_SL_set L_pf F_t _
      have pre : ∀ τ, Steps p.tables e below (T14.setTop (mkF m 42 #[.val (.ref o), .val (.int tg)] [(.ref o)])) τ → G τ := fun τ κ => pre τ (by
        refine XS.aloadN X14.here hx rfl (hb hby d13_41) rfl rfl ?_
        show Steps p.tables e below (T14.setTop (mkF m 42 #[.val (.ref o), .val (.int tg)] [(.ref o)])) τ
        exact κ)
      obtain ⟨T15, X15, e15, st15⟩ := getF X14 hx hZ hown (host := "") (Or.inl (hw _ (List.mem_of_getElem? (i := 49) rfl))) Via.refl e14 F_up (g := (mkF m 42 #[.val (.ref o), .val (.int tg)] [(.ref o)])) rfl rfl (hb hby d13_42)
      have pre : ∀ τ, Steps p.tables e below (T15.setTop (mkF m 45 #[.val (.ref o), .val (.int tg)] [(.ref up)])) τ → G τ := fun τ κ => pre τ (st15 τ κ)
      have pre : ∀ τ, Steps p.tables e below (T15.setTop (mkF m 46 #[.val (.ref o), .val (.int tg)] [(.ref o), (.ref up)])) τ → G τ := fun τ κ => pre τ (by
        refine XS.aloadN X15.here hx rfl (hb hby d13_45) rfl rfl ?_
        show Steps p.tables e below (T15.setTop (mkF m 46 #[.val (.ref o), .val (.int tg)] [(.ref o), (.ref up)])) τ
        exact κ)
      obtain ⟨T16, X16, e16, st16⟩ := getF X15 hx hZ hown (host := "") (Or.inl (hw _ (List.mem_of_getElem? (i := 64) rfl))) Via.refl e15 F_uc (g := (mkF m 46 #[.val (.ref o), .val (.int tg)] [(.ref o), (.ref up)])) rfl rfl (hb hby d13_46)
      have pre : ∀ τ, Steps p.tables e below (T16.setTop (mkF m 49 #[.val (.ref o), .val (.int tg)] [(.int (ucl - (1 : Int32))), (.ref up)])) τ → G τ := fun τ κ => pre τ (st16 τ κ)
      have pre : ∀ τ, Steps p.tables e below (T16.setTop (mkF m 50 #[.val (.ref o), .val (.int tg)] [.null, (.int (ucl - (1 : Int32))), (.ref up)])) τ → G τ := fun τ κ => pre τ (by
        refine XS.aconstNull X16.here hx rfl (hb hby d13_49) ?_
        show Steps p.tables e below (T16.setTop (mkF m 50 #[.val (.ref o), .val (.int tg)] [.null, (.int (ucl - (1 : Int32))), (.ref up)])) τ
        exact κ)
      obtain ⟨c17, Ar17, q17, S17, Nz17, Hh17, Gg17⟩ := id V_up
      have hin17 : ¬ ((ucl - (1 : Int32)) < 0 ∨ c17.slots.size ≤ ((ucl - (1 : Int32))).toNatClampNeg) := inb_of S17 (own_r16 ht0 hn hle hu16)
      obtain ⟨T17, h17, X17, e17, W17, st17⟩ := stR X16 hx hZ e16 Ar17 (j := (ucl - (1 : Int32))) hin17 rfl (Or.inl rfl) (g := (mkF m 50 #[.val (.ref o), .val (.int tg)] [.null, (.int (ucl - (1 : Int32))), (.ref up)])) rfl rfl (hb hby d13_50)
      have V_up : Arv Z h17 up kp (.object "java/lang/String") (16 : Int32) (upl.set ((ucl - (1 : Int32))).toNatClampNeg .null) .null := Arv.set Ar17 q17 S17 Nz17 Hh17 Gg17 rfl W17 _ rfl (own_lt2 (own_r16 ht0 hn hle hu16) (hupl.trans own_k16))
      have Ns := (Or.inr ⟨_, _, Ar17, by decide⟩ : own_ns Z h14 up)
      have E_o : Exa Z h17 o "coppice/marshal/context/NamespaceScope" := E_o.wr W17
      have F_un : Fld Z h17 o "coppice/marshal/context/NamespaceScope" "undoNamespaces" "[I" (.ref un) := F_un.other W17 (Or.inl ne_o__up)
      have F_up : Fld Z h17 o "coppice/marshal/context/NamespaceScope" "undoPrefixes" "[Ljava/lang/String;" (.ref up) := F_up.other W17 (Or.inl ne_o__up)
      have F_pf : Fld Z h17 o "coppice/marshal/context/NamespaceScope" "prefixes" "[Ljava/lang/String;" (.ref pf) := F_pf.other W17 (Or.inl ne_o__up)
      have F_uc : Fld Z h17 o "coppice/marshal/context/NamespaceScope" "undoCount" "I" (.int (ucl - (1 : Int32))) := F_uc.other W17 (Or.inl ne_o__up)
      have V_un : Arv Z h17 un ku .int (16 : Int32) us (.int (0 : Int32)) := V_un.other W17 ne_un__up
      have V_pf : Arv Z h17 pf kf (.object "java/lang/String") nz (pfl.set ((own_at us (ucl - (1 : Int32)))).toNatClampNeg (upl.getD ((ucl - (1 : Int32))).toNatClampNeg .null)) .null := V_pf.other W17 (Ne.symm ne_up__pf)
      have L_up : own_SL Z h17 upl sl.2 := own_SL_wr L_up W17 Ns
      have L_pf : own_SL Z h17 (pfl.set ((own_at us (ucl - (1 : Int32)))).toNatClampNeg (upl.getD ((ucl - (1 : Int32))).toNatClampNeg .null)) (sl.1.set ((own_at us (ucl - (1 : Int32)))).toNatClampNeg (sl.2.getD ((ucl - (1 : Int32))).toNatClampNeg none)) := own_SL_wr L_pf W17 Ns
      have F_t : own_S Z h17 (upl.getD ((ucl - (1 : Int32))).toNatClampNeg .null) (sl.2.getD ((ucl - (1 : Int32))).toNatClampNeg none) := own_S_wr F_t W17 Ns
      have Zn : n0 ≤ h17.size := Nat.le_trans Zn (Keep.of_wr W17).1
      have K : Keep h0 h17 [o, up, pf] := K.wr W17 (Or.inl (List.mem_of_getElem? (i := 1) rfl))
      have NN := Fr.snoc X17 NN g_up
      have pre : ∀ τ, Steps p.tables e below (T17.setTop (mkF m 51 #[.val (.ref o), .val (.int tg)] [])) τ → G τ := fun τ κ => pre τ (st17 τ κ)
      have L_up : own_SL Z h17 (upl.set ((ucl - (1 : Int32))).toNatClampNeg .null) (sl.2.set ((ucl - (1 : Int32))).toNatClampNeg none) := own_SL_set L_up (Or.inl ⟨rfl, rfl⟩) _
      have pre : ∀ τ, Steps p.tables e below (T17.setTop (mkF m 0 #[.val (.ref o), .val (.int tg)] [])) τ → G τ := fun τ κ => pre τ (by
        refine XS.goto X17.here hx rfl (pc0 := 51) (pc' := 0) rfl (hb hby d13_51) (by decide) (by decide) ?_
        show Steps p.tables e below (T17.setTop (mkF m 0 #[.val (.ref o), .val (.int tg)] [])) τ
        exact κ)
      exact ih (ucl - (1 : Int32)) (sl.1.set (own_at us (ucl - (1 : Int32))).toNatClampNeg (sl.2.getD (ucl - (1 : Int32)).toNatClampNeg none), sl.2.set (ucl - (1 : Int32)).toNatClampNeg none) (pfl.set ((own_at us (ucl - (1 : Int32)))).toNatClampNeg (upl.getD ((ucl - (1 : Int32))).toNatClampNeg .null)) (upl.set ((ucl - (1 : Int32))).toNatClampNeg .null) T17 _ h17 X17 e17 NN K Zn E_o F_un F_up F_pf F_uc V_un V_up V_pf L_up L_pf (own_rn ht0 hn) (own_rle ht0 hn hle) (by rw [List.length_set]; exact hupl) (by rw [List.length_set]; exact hpfl) hres pre
  exact loop (uc.toInt - tg.toInt).toNat uc (po, uo) pfs ups s₁ _ h0 X0 e0 N0 K Zn E_o F_un F_up F_pf F_uc V_un V_up V_pf L_up L_pf (own_rst htu) (Int.le_refl _) hups hpfs rfl pre
theorem pn_4 : plainName "coppice/marshal/context/NamespaceScopeRestorePinLaw" = true := by first | (simp [plainName, overriddenIn]; done) | decide +kernel
theorem d15_0 : decode method_6_code 0 = .ok (.aload_n 0, 1) := by decide +kernel
theorem d15_1 : decode method_6_code 1 = .ok (.ifnonnull 13, 3) := by decide +kernel
theorem d15_4 : decode method_6_code 4 = .ok (.aload_n 1, 1) := by decide +kernel
theorem d15_5 : decode method_6_code 5 = .ok (.ifnonnull 7, 3) := by decide +kernel
theorem d15_8 : decode method_6_code 8 = .ok (.iconst 1, 1) := by decide +kernel
theorem d15_9 : decode method_6_code 9 = .ok (.goto 4, 3) := by decide +kernel
theorem d15_13 : decode method_6_code 13 = .ok (.ireturn, 1) := by decide +kernel
theorem d15_12 : decode method_6_code 12 = .ok (.iconst 0, 1) := by decide +kernel
theorem d15_14 : decode method_6_code 14 = .ok (.aload_n 0, 1) := by decide +kernel
theorem d15_15 : decode method_6_code 15 = .ok (.aload_n 1, 1) := by decide +kernel
theorem d15_16 : decode method_6_code 16 = .ok (.invokevirtual 55, 3) := by decide +kernel
theorem d15_19 : decode method_6_code 19 = .ok (.ireturn, 1) := by decide +kernel
theorem ef_15 (m : MethodId) (x0 : Value) (x1 : Value) (hx0 : x0.isRef = true) (hx1 : x1.isRef = true) : entryFrame m #[x0, x1] 2 = mkF m 0 #[.val x0, .val x1] [] := by
  all_goals (cases x0 <;> first | (simp [Value.isRef] at hx0; done) | skip)
  all_goals (cases x1 <;> first | (simp [Value.isRef] at hx1; done) | skip)
  all_goals first | (simp [entryFrame, mkF, argsToLocals, Value.category]; done) | rfl
def Q15 (Z : State) (va : Value) (vb : Value) (oa : own_T) (ob : own_T) (cw : Int32) (h0 : Heap) (n0 : Nat) (vα : Option Value) (hα : Heap) (Lα : List Loc) : Prop := vα = some (.int (own_eqo oa ob)) ∧ Fr n0 Lα ∧ hα = h0
set_option maxRecDepth 65536 in
set_option maxHeartbeats 40000000 in
theorem rm15 (l : Launch) (Z : State) (a0 : Array Value) (hw : ∀ d ∈ tables_1, d.before a0 Z = true) (ws : List Jvm.Cond) (va : Value) (vb : Value) (oa : own_T) (ob : own_T) (cw : Int32) (h0 : Heap) (n0 : Nat) (Z0 : n0 ≤ h0.size) (F_a : own_S Z h0 va oa) (F_b : own_S Z h0 vb ob) (S_c : Sta Z h0 "java/lang/String" "COMPACT_STRINGS" "Z" (.int cw)) (hcw : ¬ cw = (0 : Int32)) :
    MetFree l (⟨"coppice/marshal/context/NamespaceScopeRestorePinLaw", "eq", "(Ljava/lang/String;Ljava/lang/String;)Z"⟩ : MethodName) (head1 (Jvm.Cond.code (⟨"coppice/marshal/context/NamespaceScopeRestorePinLaw", "eq", "(Ljava/lang/String;Ljava/lang/String;)Z"⟩ : MethodName) method_6_code 2 (some .boolean) :: ws) ({ frames := 2, cells := 0, slots := 0, locals := 28 } : Room)) (fun aα U => aα = #[va, vb] ∧ Z.Warmed39 U.vm ∧ U.heap = h0) (fun _ _ _ _ _ => True) (fun _ U oα U' => ∃ vα Lα, oα = .returned vα ∧ Q15 Z va vb oa ob cw h0 n0 vα U'.heap Lα ∧ FrameEnd U oα U' Lα ({ frames := 2, cells := 0, slots := 0, locals := 28 } : Room).cells ({ frames := 2, cells := 0, slots := 0, locals := 28 } : Room).slots) := by
  refine MetFree.of_bodySF (plainFor_of_name pn_4) hisR ?_
  intro p e s m args below meth c s₁ Bd hml0 hP hK
  refine own_wrap ?_
  intro GL hGL
  obtain ⟨rfl, hZ, hh⟩ := hP
  have hx := Bd.exec
  have hby := Bd.bytes
  have hml : c.maxLocals = 2 := hml0
  have hown : s.vm.findClass "coppice/marshal/context/NamespaceScopeRestorePinLaw" = some m.cls := findClass_of_methodNamed Bd.named
  have hnm := (name_of_methodNamed Bd.named Bd.method).1
  have X0 : Stand p l e ({ frames := 2, cells := 0, slots := 0, locals := 28 } : Room) s m #[va, vb] below meth c s₁ [] 0 0 := Stand.of_body Bd
  have e0 : s₁.heap = h0 := by rw [← hh, Bd.state]; rfl
  have N0 := Fr.nil n0
  have pre0 : ∀ τ, Steps p.tables e below (s₁.setTop (mkF m 0 #[.val va, .val vb] [])) τ → Steps p.tables e below (s₁.setTop (entryFrame m #[va, vb] 2)) τ := fun τ κ => castTop (ef_15 m va vb (own_S_ref F_a) (own_S_ref F_b)) κ
  obtain ⟨G, hG, pre⟩ : ∃ G : State → Prop, (∀ τ, G τ → Steps p.tables e below (s₁.setTop (entryFrame m #[va, vb] 2)) τ) ∧ ∀ τ, Steps p.tables e below (s₁.setTop (mkF m 0 #[.val va, .val vb] [])) τ → G τ := ⟨_, pre0, fun _ k => k⟩
  have K : Keep h0 h0 [] := Keep.refl h0 _
  have Zn := Z0
  rcases id F_a with ⟨hv1, ho1⟩ | ⟨a1, b1, k1, z1, t1, ai1, hv1, ho1, wi1, E_a1, C_a1, V_a1, B_a1, hl1⟩
  ·
    have hv := hv1
    have pre : ∀ τ, Steps p.tables e below (s₁.setTop (mkF m 0 #[.val .null, .val vb] [])) τ → G τ := by rw [hv1] at pre; exact pre
    have ho1' := ho1
    rcases id F_b with ⟨hv2, ho2⟩ | ⟨a2, b2, k2, z2, t2, ai2, hv2, ho2, wi2, E_a2, C_a2, V_a2, B_a2, hl2⟩
    ·
      have hv := hv2
      have pre : ∀ τ, Steps p.tables e below (s₁.setTop (mkF m 0 #[.val .null, .val .null] [])) τ → G τ := by rw [hv2] at pre; exact pre
      have pre : ∀ τ, Steps p.tables e below (s₁.setTop (mkF m 1 #[.val .null, .val .null] [.null])) τ → G τ := fun τ κ => pre τ (by
        refine XS.aloadN X0.here hx rfl (hb hby d15_0) rfl rfl ?_
        show Steps p.tables e below (s₁.setTop (mkF m 1 #[.val .null, .val .null] [.null])) τ
        exact κ)
      have pre : ∀ τ, Steps p.tables e below (s₁.setTop (mkF m 5 #[.val .null, .val .null] [.null])) τ → G τ := fun τ κ => pre τ (by
        refine XS.ifnonnullNo X0.here hx rfl (hb hby d15_1) rfl ?_
        show Steps p.tables e below (s₁.setTop (mkF m 4 #[.val .null, .val .null] [])) τ
        refine XS.aloadN X0.here hx rfl (hb hby d15_4) rfl rfl ?_
        show Steps p.tables e below (s₁.setTop (mkF m 5 #[.val .null, .val .null] [.null])) τ
        exact κ)
      have pre : ∀ τ, Steps p.tables e below (s₁.setTop (mkF m 13 #[.val .null, .val .null] [(.int (1 : Int32))])) τ → G τ := fun τ κ => pre τ (by
        refine XS.ifnonnullNo X0.here hx rfl (hb hby d15_5) rfl ?_
        show Steps p.tables e below (s₁.setTop (mkF m 8 #[.val .null, .val .null] [])) τ
        refine XS.iconst X0.here hx rfl (hb hby d15_8) ?_
        show Steps p.tables e below (s₁.setTop (mkF m 9 #[.val .null, .val .null] [(.int (1 : Int32))])) τ
        refine XS.goto X0.here hx rfl (pc0 := 9) (pc' := 13) rfl (hb hby d15_9) (by decide) (by decide) ?_
        show Steps p.tables e below (s₁.setTop (mkF m 13 #[.val .null, .val .null] [(.int (1 : Int32))])) τ
        exact κ)
      obtain ⟨fsα, hr, hrun, hended, hW, hsame⟩ := X0.leave (v := some (.int (1 : Int32))) (fun h => by rw [Bd.returns] at h; cases h)
      refine hGL ⟨_, _, hG _ (pre _ ?_), hrun, hended, _, _, rfl, ?_, ⟨_, rfl⟩, hW, hsame.mono (by decide) (by decide)⟩
      · exact retN X0 hx (t := .boolean) Bd.returns (by simp) (hb hby d15_13) hr
      · show Q15 Z va vb oa ob cw h0 n0 _ s₁.heap _
        rw [e0]
        refine ⟨?_, N0, rfl⟩
        unfold own_eqo
        rw [if_pos (ho1.trans ho2.symm)]
    ·
      have hv := hv2
      have F_b : own_S Z h0 (.ref a2) (some t2) := by rw [hv2, ho2] at F_b; exact F_b
      have pre : ∀ τ, Steps p.tables e below (s₁.setTop (mkF m 0 #[.val .null, .val (.ref a2)] [])) τ → G τ := by rw [hv2] at pre; exact pre
      have pre : ∀ τ, Steps p.tables e below (s₁.setTop (mkF m 1 #[.val .null, .val (.ref a2)] [.null])) τ → G τ := fun τ κ => pre τ (by
        refine XS.aloadN X0.here hx rfl (hb hby d15_0) rfl rfl ?_
        show Steps p.tables e below (s₁.setTop (mkF m 1 #[.val .null, .val (.ref a2)] [.null])) τ
        exact κ)
      have pre : ∀ τ, Steps p.tables e below (s₁.setTop (mkF m 5 #[.val .null, .val (.ref a2)] [(.ref a2)])) τ → G τ := fun τ κ => pre τ (by
        refine XS.ifnonnullNo X0.here hx rfl (hb hby d15_1) rfl ?_
        show Steps p.tables e below (s₁.setTop (mkF m 4 #[.val .null, .val (.ref a2)] [])) τ
        refine XS.aloadN X0.here hx rfl (hb hby d15_4) rfl rfl ?_
        show Steps p.tables e below (s₁.setTop (mkF m 5 #[.val .null, .val (.ref a2)] [(.ref a2)])) τ
        exact κ)
      have pre : ∀ τ, Steps p.tables e below (s₁.setTop (mkF m 13 #[.val .null, .val (.ref a2)] [(.int (0 : Int32))])) τ → G τ := fun τ κ => pre τ (by
        refine XS.ifnonnullYes X0.here hx rfl (pc0 := 5) (pc' := 12) rfl (hb hby d15_5) rfl (by decide) (by decide) ?_
        show Steps p.tables e below (s₁.setTop (mkF m 12 #[.val .null, .val (.ref a2)] [])) τ
        refine XS.iconst X0.here hx rfl (hb hby d15_12) ?_
        show Steps p.tables e below (s₁.setTop (mkF m 13 #[.val .null, .val (.ref a2)] [(.int (0 : Int32))])) τ
        exact κ)
      obtain ⟨fsα, hr, hrun, hended, hW, hsame⟩ := X0.leave (v := some (.int (0 : Int32))) (fun h => by rw [Bd.returns] at h; cases h)
      refine hGL ⟨_, _, hG _ (pre _ ?_), hrun, hended, _, _, rfl, ?_, ⟨_, rfl⟩, hW, hsame.mono (by decide) (by decide)⟩
      · exact retN X0 hx (t := .boolean) Bd.returns (by simp) (hb hby d15_13) hr
      · show Q15 Z va vb oa ob cw h0 n0 _ s₁.heap _
        rw [e0]
        refine ⟨?_, N0, rfl⟩
        unfold own_eqo
        rw [if_neg (fun q => by rw [ho1, ho2] at q; cases q)]
  ·
    have hv := hv1
    have F_a : own_S Z h0 (.ref a1) (some t1) := by rw [hv1, ho1] at F_a; exact F_a
    have pre : ∀ τ, Steps p.tables e below (s₁.setTop (mkF m 0 #[.val (.ref a1), .val vb] [])) τ → G τ := by rw [hv1] at pre; exact pre
    have pre : ∀ τ, Steps p.tables e below (s₁.setTop (mkF m 1 #[.val (.ref a1), .val vb] [(.ref a1)])) τ → G τ := fun τ κ => pre τ (by
      refine XS.aloadN X0.here hx rfl (hb hby d15_0) rfl rfl ?_
      show Steps p.tables e below (s₁.setTop (mkF m 1 #[.val (.ref a1), .val vb] [(.ref a1)])) τ
      exact κ)
    have pre : ∀ τ, Steps p.tables e below (s₁.setTop (mkF m 16 #[.val (.ref a1), .val vb] [vb, (.ref a1)])) τ → G τ := fun τ κ => pre τ (by
      refine XS.ifnonnullYes X0.here hx rfl (pc0 := 1) (pc' := 14) rfl (hb hby d15_1) rfl (by decide) (by decide) ?_
      show Steps p.tables e below (s₁.setTop (mkF m 14 #[.val (.ref a1), .val vb] [])) τ
      refine XS.aloadN X0.here hx rfl (hb hby d15_14) rfl rfl ?_
      show Steps p.tables e below (s₁.setTop (mkF m 15 #[.val (.ref a1), .val vb] [(.ref a1)])) τ
      refine XS.aloadN X0.here hx rfl (hb hby d15_15) rfl (own_S_ref F_b) ?_
      show Steps p.tables e below (s₁.setTop (mkF m 16 #[.val (.ref a1), .val vb] [vb, (.ref a1)])) τ
      exact κ)
    obtain ⟨cq1, kq1, q1a, q1b, q1c⟩ := isOf hZ e0 E_a1
    obtain ⟨_, _, ⟨T1, Lx1, kx1, nx1⟩, -, X1, ⟨Lc1, hQ1, l1, y1, z1⟩, st1⟩ := X0.virtualBack hx (y := (⟨"java/lang/String", "equals", "(Ljava/lang/Object;)Z"⟩ : MethodName)) (z := (⟨"java/lang/String", "equals", "(Ljava/lang/Object;)Z"⟩ : MethodName)) hown (mvT hZ (hw _ (List.mem_of_getElem? (i := 23) rfl))) (mvT hZ (hw _ (List.mem_of_getElem? (i := 24) rfl))) (notFace_of_selects (args := #[]) (mvT hZ (hw _ (List.mem_of_getElem? (i := 26) rfl)))) (mvT hZ (hw _ (List.mem_of_getElem? (i := 26) rfl))) (mvT hZ (hw _ (List.mem_of_getElem? (i := 25) rfl))) (by decide) (backOf (W := 0) (rm4 l Z a0 hw [] a1 vb t1 ob cw h0 n0 Zn F_a F_b S_c hcw) hZ (hw _ (List.mem_of_getElem? (i := 27) rfl)) (hw _ (List.mem_of_getElem? (i := 9) rfl)) (by decide) (by decide)) q1a q1c (g := (mkF m 16 #[.val (.ref a1), .val vb] [vb, (.ref a1)])) rfl (by rw [hml]; rfl) (Steps.refl _) (argsL := [vb]) (rest := []) (lenOf pd_2 rfl) rfl (by show 2 * 0 + _ ≤ _; exact Nat.le_of_eq rfl) (hb hby d15_16) (fun _ _ => ⟨rfl, e0, (by decide : 0 + 0 ≤ _), (by decide : 0 + 0 ≤ _)⟩)
    dsimp only [Pt.U, Pt.locs, Pt.cells, Pt.slots] at X1 l1 y1 z1 st1 hQ1
    replace y1 : kx1 = 0 := y1
    replace z1 : nx1 = 0 := z1
    subst y1 z1
    obtain ⟨rfl, Nq1, hs1⟩ := hQ1
    have NN : Fr n0 Lx1 := by rw [l1]; exact Fr.app N0 Nq1
    have pre : ∀ τ, Steps p.tables e below (T1.setTop (mkF m 19 #[.val (.ref a1), .val vb] [(.int (own_eqt t1 ob))])) τ → G τ := fun τ κ => pre τ (st1.trans κ)
    obtain ⟨fsα, hr, hrun, hended, hW, hsame⟩ := X1.leave (v := some (.int (nar .boolean (own_eqt t1 ob)))) (fun h => by rw [Bd.returns] at h; cases h)
    refine hGL ⟨_, _, hG _ (pre _ ?_), hrun, hended, _, _, rfl, ?_, ⟨_, rfl⟩, hW, hsame.mono (by decide) (by decide)⟩
    · exact retN X1 hx (t := .boolean) Bd.returns (by simp) (hb hby d15_19) hr
    · show Q15 Z va vb oa ob cw h0 n0 _ T1.heap _
      rw [hs1]
      refine ⟨?_, NN, rfl⟩
      rw [own_narb, ho1, own_eqts]
theorem d3_0 : decode method_5_code 0 = .ok (.iload_n 1, 1) := by decide +kernel
theorem d3_1 : decode method_5_code 1 = .ok (.ifCond .eq 17, 3) := by decide +kernel
theorem d3_4 : decode method_5_code 4 = .ok (.aload_n 2, 1) := by decide +kernel
theorem d3_5 : decode method_5_code 5 = .ok (.aload_n 0, 1) := by decide +kernel
theorem d3_6 : decode method_5_code 6 = .ok (.iconst 0, 1) := by decide +kernel
theorem d3_7 : decode method_5_code 7 = .ok (.aaload, 1) := by decide +kernel
theorem d3_8 : decode method_5_code 8 = .ok (.invokevirtual 55, 3) := by decide +kernel
theorem d3_11 : decode method_5_code 11 = .ok (.ifCond .eq 7, 3) := by decide +kernel
theorem d3_14 : decode method_5_code 14 = .ok (.aload_n 0, 1) := by decide +kernel
theorem d3_15 : decode method_5_code 15 = .ok (.iconst 0, 1) := by decide +kernel
theorem d3_16 : decode method_5_code 16 = .ok (.aconst_null, 1) := by decide +kernel
theorem d3_17 : decode method_5_code 17 = .ok (.aastore, 1) := by decide +kernel
theorem d3_18 : decode method_5_code 18 = .ok (.iload_n 1, 1) := by decide +kernel
theorem d3_19 : decode method_5_code 19 = .ok (.iconst 1, 1) := by decide +kernel
theorem d3_20 : decode method_5_code 20 = .ok (.if_icmp .eq 17, 3) := by decide +kernel
theorem d3_23 : decode method_5_code 23 = .ok (.aload_n 2, 1) := by decide +kernel
theorem d3_24 : decode method_5_code 24 = .ok (.aload_n 0, 1) := by decide +kernel
theorem d3_25 : decode method_5_code 25 = .ok (.iconst 1, 1) := by decide +kernel
theorem d3_26 : decode method_5_code 26 = .ok (.aaload, 1) := by decide +kernel
theorem d3_27 : decode method_5_code 27 = .ok (.invokevirtual 55, 3) := by decide +kernel
theorem d3_30 : decode method_5_code 30 = .ok (.ifCond .eq 7, 3) := by decide +kernel
theorem d3_33 : decode method_5_code 33 = .ok (.aload_n 0, 1) := by decide +kernel
theorem d3_34 : decode method_5_code 34 = .ok (.iconst 1, 1) := by decide +kernel
theorem d3_35 : decode method_5_code 35 = .ok (.aconst_null, 1) := by decide +kernel
theorem d3_36 : decode method_5_code 36 = .ok (.aastore, 1) := by decide +kernel
theorem d3_37 : decode method_5_code 37 = .ok (.iload_n 1, 1) := by decide +kernel
theorem d3_38 : decode method_5_code 38 = .ok (.iconst 2, 1) := by decide +kernel
theorem d3_39 : decode method_5_code 39 = .ok (.if_icmp .eq 17, 3) := by decide +kernel
theorem d3_42 : decode method_5_code 42 = .ok (.aload_n 2, 1) := by decide +kernel
theorem d3_43 : decode method_5_code 43 = .ok (.aload_n 0, 1) := by decide +kernel
theorem d3_44 : decode method_5_code 44 = .ok (.iconst 2, 1) := by decide +kernel
theorem d3_45 : decode method_5_code 45 = .ok (.aaload, 1) := by decide +kernel
theorem d3_46 : decode method_5_code 46 = .ok (.invokevirtual 55, 3) := by decide +kernel
theorem d3_49 : decode method_5_code 49 = .ok (.ifCond .eq 7, 3) := by decide +kernel
theorem d3_52 : decode method_5_code 52 = .ok (.aload_n 0, 1) := by decide +kernel
theorem d3_53 : decode method_5_code 53 = .ok (.iconst 2, 1) := by decide +kernel
theorem d3_54 : decode method_5_code 54 = .ok (.aconst_null, 1) := by decide +kernel
theorem d3_55 : decode method_5_code 55 = .ok (.aastore, 1) := by decide +kernel
theorem d3_56 : decode method_5_code 56 = .ok (.aload_n 0, 1) := by decide +kernel
theorem d3_57 : decode method_5_code 57 = .ok (.iload_n 1, 1) := by decide +kernel
theorem d3_58 : decode method_5_code 58 = .ok (.aload_n 2, 1) := by decide +kernel
theorem d3_59 : decode method_5_code 59 = .ok (.aastore, 1) := by decide +kernel
theorem d3_60 : decode method_5_code 60 = .ok (.return_, 1) := by decide +kernel
theorem ef_3 (m : MethodId) (x0 : Addr) (x1 : Int32) (x2 : Addr) : entryFrame m #[(.ref x0), (.int x1), (.ref x2)] 3 = mkF m 0 #[.val (.ref x0), .val (.int x1), .val (.ref x2)] [] := by first | (simp [entryFrame, mkF, argsToLocals, Value.category]; done) | rfl
def Q3 (Z : State) (st : Addr) (ix : Int32) (a : Addr) (kst : ClassId) (sts : List Value) (so : List own_T) (tp : List Value) (cw : Int32) (h0 : Heap) (n0 : Nat) (vα : Option Value) (hα : Heap) (Lα : List Loc) : Prop := ∃ (stz : List Value), vα = none ∧ Fr n0 Lα ∧ Keep h0 hα [st] ∧ Arv Z hα st kst (.object "java/lang/String") (3 : Int32) stz .null ∧ own_SL Z hα stz (own_ds tp ix so) ∧ stz.length = 3
set_option maxRecDepth 65536 in
set_option maxHeartbeats 40000000 in
theorem rm3 (l : Launch) (Z : State) (a0 : Array Value) (hw : ∀ d ∈ tables_1, d.before a0 Z = true) (ws : List Jvm.Cond) (st : Addr) (ix : Int32) (a : Addr) (kst : ClassId) (sts : List Value) (so : List own_T) (tp : List Value) (cw : Int32) (h0 : Heap) (n0 : Nat) (Z0 : n0 ≤ h0.size) (g_st : n0 ≤ st) (V_st : Arv Z h0 st kst (.object "java/lang/String") (3 : Int32) sts .null) (L_st : own_SL Z h0 sts so) (O_st : Ovr Z kst "java/lang/String") (F_p : own_S Z h0 (.ref a) (some tp)) (S_c : Sta Z h0 "java/lang/String" "COMPACT_STRINGS" "Z" (.int cw)) (hcw : ¬ cw = (0 : Int32)) (hk : ¬ ix < 0 ∧ ix < (3 : Int32)) (hsl : sts.length = 3) :
    MetFree l (⟨"coppice/marshal/context/NamespaceScopeRestorePinLaw", "decl", "([Ljava/lang/String;ILjava/lang/String;)V"⟩ : MethodName) (head1 (Jvm.Cond.code (⟨"coppice/marshal/context/NamespaceScopeRestorePinLaw", "decl", "([Ljava/lang/String;ILjava/lang/String;)V"⟩ : MethodName) method_5_code 3 none :: ws) ({ frames := 2, cells := 0, slots := 0, locals := 28 } : Room)) (fun aα U => aα = #[(.ref st), (.int ix), (.ref a)] ∧ Z.Warmed39 U.vm ∧ U.heap = h0) (fun _ _ _ _ _ => True) (fun _ U oα U' => ∃ vα Lα, oα = .returned vα ∧ Q3 Z st ix a kst sts so tp cw h0 n0 vα U'.heap Lα ∧ FrameEnd U oα U' Lα ({ frames := 2, cells := 0, slots := 0, locals := 28 } : Room).cells ({ frames := 2, cells := 0, slots := 0, locals := 28 } : Room).slots) := by
  refine MetFree.of_bodySF (plainFor_of_name pn_4) hisR ?_
  intro p e s m args below meth c s₁ Bd hml0 hP hK
  refine own_wrap ?_
  intro GL hGL
  obtain ⟨rfl, hZ, hh⟩ := hP
  have hx := Bd.exec
  have hby := Bd.bytes
  have hml : c.maxLocals = 3 := hml0
  have hown : s.vm.findClass "coppice/marshal/context/NamespaceScopeRestorePinLaw" = some m.cls := findClass_of_methodNamed Bd.named
  have hnm := (name_of_methodNamed Bd.named Bd.method).1
  have X0 : Stand p l e ({ frames := 2, cells := 0, slots := 0, locals := 28 } : Room) s m #[(.ref st), (.int ix), (.ref a)] below meth c s₁ [] 0 0 := Stand.of_body Bd
  have e0 : s₁.heap = h0 := by rw [← hh, Bd.state]; rfl
  have N0 := Fr.nil n0
  have pre0 : ∀ τ, Steps p.tables e below (s₁.setTop (mkF m 0 #[.val (.ref st), .val (.int ix), .val (.ref a)] [])) τ → Steps p.tables e below (s₁.setTop (entryFrame m #[(.ref st), (.int ix), (.ref a)] 3)) τ := fun τ κ => castTop (ef_3 m st ix a) κ
  obtain ⟨G, hG, pre⟩ : ∃ G : State → Prop, (∀ τ, G τ → Steps p.tables e below (s₁.setTop (entryFrame m #[(.ref st), (.int ix), (.ref a)] 3)) τ) ∧ ∀ τ, Steps p.tables e below (s₁.setTop (mkF m 0 #[.val (.ref st), .val (.int ix), .val (.ref a)] [])) τ → G τ := ⟨_, pre0, fun _ k => k⟩
  have K : Keep h0 h0 [st] := Keep.refl h0 _
  have Zn := Z0
  have seg : (∀ (sts0 : List Value) (T1 : State) (ll1 : List Loc) (h1 : Heap) (X1 : Stand p l e ({ frames := 2, cells := 0, slots := 0, locals := 28 } : Room) s m #[(.ref st), (.int ix), (.ref a)] below meth c T1 ll1 0 0) (e1 : T1.heap = h1) (NN1 : Fr n0 ll1) (K : Keep h0 h1 [st]) (Zn : n0 ≤ h1.size) (V_st : Arv Z h1 st kst (.object "java/lang/String") (3 : Int32) sts0 .null) (L_st : own_SL Z h1 sts0 (own_n1 tp ix (0 : Int32) so)) (F_p : own_S Z h1 (.ref a) (some tp)) (S_c : Sta Z h1 "java/lang/String" "COMPACT_STRINGS" "Z" (.int cw)) (hsl0 : sts0.length = 3) (pre : ∀ τ, Steps p.tables e below (T1.setTop (mkF m 18 #[.val (.ref st), .val (.int ix), .val (.ref a)] [])) τ → G τ), GL) → GL := by
    intro cont
    have pre : ∀ τ, Steps p.tables e below (s₁.setTop (mkF m 1 #[.val (.ref st), .val (.int ix), .val (.ref a)] [(.int ix)])) τ → G τ := fun τ κ => pre τ (by
      refine XS.iloadN X0.here hx rfl (hb hby d3_0) rfl ?_
      show Steps p.tables e below (s₁.setTop (mkF m 1 #[.val (.ref st), .val (.int ix), .val (.ref a)] [(.int ix)])) τ
      exact κ)
    rcases Classical.em (ix = (0 : Int32)) with hc1_2 | hc1_2
    ·
      have pre : ∀ τ, Steps p.tables e below (s₁.setTop (mkF m 18 #[.val (.ref st), .val (.int ix), .val (.ref a)] [])) τ → G τ := fun τ κ => pre τ (by
        refine XS.ifYes X0.here hx rfl (pc0 := 1) (pc' := 18) rfl (hb hby d3_1) rfl ((if0 _ _).trans (teq hc1_2).1) (by decide) (by decide) ?_
        show Steps p.tables e below (s₁.setTop (mkF m 18 #[.val (.ref st), .val (.int ix), .val (.ref a)] [])) τ
        exact κ)
      exact cont sts s₁ _ h0 X0 e0 N0 K Zn V_st (by rw [own_n1a hc1_2]; exact L_st) F_p S_c hsl pre
    ·
      have pre : ∀ τ, Steps p.tables e below (s₁.setTop (mkF m 7 #[.val (.ref st), .val (.int ix), .val (.ref a)] [(.int (0 : Int32)), (.ref st), (.ref a)])) τ → G τ := fun τ κ => pre τ (by
        refine XS.ifNo X0.here hx rfl (hb hby d3_1) rfl ((if0 _ _).trans (feq hc1_2).1) ?_
        show Steps p.tables e below (s₁.setTop (mkF m 4 #[.val (.ref st), .val (.int ix), .val (.ref a)] [])) τ
        refine XS.aloadN X0.here hx rfl (hb hby d3_4) rfl rfl ?_
        show Steps p.tables e below (s₁.setTop (mkF m 5 #[.val (.ref st), .val (.int ix), .val (.ref a)] [(.ref a)])) τ
        refine XS.aloadN X0.here hx rfl (hb hby d3_5) rfl rfl ?_
        show Steps p.tables e below (s₁.setTop (mkF m 6 #[.val (.ref st), .val (.int ix), .val (.ref a)] [(.ref st), (.ref a)])) τ
        refine XS.iconst X0.here hx rfl (hb hby d3_6) ?_
        show Steps p.tables e below (s₁.setTop (mkF m 7 #[.val (.ref st), .val (.int ix), .val (.ref a)] [(.int (0 : Int32)), (.ref st), (.ref a)])) τ
        exact κ)
      obtain ⟨c3, Ar3, q3, S3, Nz3, Hh3, Gg3⟩ := id V_st
      have F_t : own_S Z h0 (sts.getD ((0 : Int32)).toNatClampNeg .null) (so.getD ((0 : Int32)).toNatClampNeg none) := L_st.2 _
      have hin3 : ¬ ((0 : Int32) < 0 ∨ c3.slots.size ≤ ((0 : Int32)).toNatClampNeg) := inb_of S3 ⟨by decide, by decide⟩
      have hat3 : c3.slots[((0 : Int32)).toNatClampNeg]? = some (sts.getD ((0 : Int32)).toNatClampNeg .null) := Hh3.at hin3 rfl
      have pre : ∀ τ, Steps p.tables e below (s₁.setTop (mkF m 8 #[.val (.ref st), .val (.int ix), .val (.ref a)] [(sts.getD ((0 : Int32)).toNatClampNeg .null), (.ref a)])) τ → G τ := fun τ κ => pre τ (X0.aaload hx (j := (0 : Int32)) (v := (sts.getD ((0 : Int32)).toNatClampNeg .null)) (by rw [e0]; exact Ar3.1) (State.isArrayOf_alike hZ.alike Ar3.2.1) rfl Ar3.2.2 hin3 hat3 (g := (mkF m 7 #[.val (.ref st), .val (.int ix), .val (.ref a)] [(.int (0 : Int32)), (.ref st), (.ref a)])) rfl rfl (hb hby d3_7) _ κ)
      obtain ⟨cq4, kq4, q4a, q4b, q4c⟩ := isOf hZ e0 (own_S_exa F_p)
      obtain ⟨_, _, ⟨T4, Lx4, kx4, nx4⟩, -, X4, ⟨Lc4, hQ4, l4, y4, z4⟩, st4⟩ := X0.virtualBack hx (y := (⟨"java/lang/String", "equals", "(Ljava/lang/Object;)Z"⟩ : MethodName)) (z := (⟨"java/lang/String", "equals", "(Ljava/lang/Object;)Z"⟩ : MethodName)) hown (mvT hZ (hw _ (List.mem_of_getElem? (i := 23) rfl))) (mvT hZ (hw _ (List.mem_of_getElem? (i := 24) rfl))) (notFace_of_selects (args := #[]) (mvT hZ (hw _ (List.mem_of_getElem? (i := 26) rfl)))) (mvT hZ (hw _ (List.mem_of_getElem? (i := 26) rfl))) (mvT hZ (hw _ (List.mem_of_getElem? (i := 25) rfl))) (by decide) (backOf (W := 0) (rm4 l Z a0 hw [] a (sts.getD ((0 : Int32)).toNatClampNeg .null) tp (so.getD ((0 : Int32)).toNatClampNeg none) cw h0 n0 Zn F_p F_t S_c hcw) hZ (hw _ (List.mem_of_getElem? (i := 27) rfl)) (hw _ (List.mem_of_getElem? (i := 9) rfl)) (by decide) (by decide)) q4a q4c (g := (mkF m 8 #[.val (.ref st), .val (.int ix), .val (.ref a)] [(sts.getD ((0 : Int32)).toNatClampNeg .null), (.ref a)])) rfl (by rw [hml]; rfl) (Steps.refl _) (argsL := [(sts.getD ((0 : Int32)).toNatClampNeg .null)]) (rest := []) (lenOf pd_2 rfl) rfl (by show 2 * 0 + _ ≤ _; exact Nat.le_of_eq rfl) (hb hby d3_8) (fun _ _ => ⟨rfl, e0, (by decide : 0 + 0 ≤ _), (by decide : 0 + 0 ≤ _)⟩)
      dsimp only [Pt.U, Pt.locs, Pt.cells, Pt.slots] at X4 l4 y4 z4 st4 hQ4
      replace y4 : kx4 = 0 := y4
      replace z4 : nx4 = 0 := z4
      subst y4 z4
      obtain ⟨rfl, Nq4, hs4⟩ := hQ4
      have NN : Fr n0 Lx4 := by rw [l4]; exact Fr.app N0 Nq4
      have pre : ∀ τ, Steps p.tables e below (T4.setTop (mkF m 11 #[.val (.ref st), .val (.int ix), .val (.ref a)] [(.int (own_eqt tp (so.getD ((0 : Int32)).toNatClampNeg none)))])) τ → G τ := fun τ κ => pre τ (st4.trans κ)
      rcases Classical.em ((own_eqt tp (so.getD ((0 : Int32)).toNatClampNeg none)) = (0 : Int32)) with hc11_5 | hc11_5
      ·
        have pre : ∀ τ, Steps p.tables e below (T4.setTop (mkF m 18 #[.val (.ref st), .val (.int ix), .val (.ref a)] [])) τ → G τ := fun τ κ => pre τ (by
          refine XS.ifYes X4.here hx rfl (pc0 := 11) (pc' := 18) rfl (hb hby d3_11) rfl ((if0 _ _).trans (teq hc11_5).1) (by decide) (by decide) ?_
          show Steps p.tables e below (T4.setTop (mkF m 18 #[.val (.ref st), .val (.int ix), .val (.ref a)] [])) τ
          exact κ)
        exact cont sts T4 _ h0 X4 hs4 NN K Zn V_st (by rw [own_n1b hc11_5]; exact L_st) F_p S_c hsl pre
      ·
        have pre : ∀ τ, Steps p.tables e below (T4.setTop (mkF m 17 #[.val (.ref st), .val (.int ix), .val (.ref a)] [.null, (.int (0 : Int32)), (.ref st)])) τ → G τ := fun τ κ => pre τ (by
          refine XS.ifNo X4.here hx rfl (hb hby d3_11) rfl ((if0 _ _).trans (feq hc11_5).1) ?_
          show Steps p.tables e below (T4.setTop (mkF m 14 #[.val (.ref st), .val (.int ix), .val (.ref a)] [])) τ
          refine XS.aloadN X4.here hx rfl (hb hby d3_14) rfl rfl ?_
          show Steps p.tables e below (T4.setTop (mkF m 15 #[.val (.ref st), .val (.int ix), .val (.ref a)] [(.ref st)])) τ
          refine XS.iconst X4.here hx rfl (hb hby d3_15) ?_
          show Steps p.tables e below (T4.setTop (mkF m 16 #[.val (.ref st), .val (.int ix), .val (.ref a)] [(.int (0 : Int32)), (.ref st)])) τ
          refine XS.aconstNull X4.here hx rfl (hb hby d3_16) ?_
          show Steps p.tables e below (T4.setTop (mkF m 17 #[.val (.ref st), .val (.int ix), .val (.ref a)] [.null, (.int (0 : Int32)), (.ref st)])) τ
          exact κ)
        obtain ⟨c6, Ar6, q6, S6, Nz6, Hh6, Gg6⟩ := id V_st
        have hin6 : ¬ ((0 : Int32) < 0 ∨ c6.slots.size ≤ ((0 : Int32)).toNatClampNeg) := inb_of S6 ⟨by decide, by decide⟩
        obtain ⟨T6, h6, X6, e6, W6, st6⟩ := stR X4 hx hZ hs4 Ar6 (j := (0 : Int32)) hin6 rfl (Or.inl rfl) (g := (mkF m 17 #[.val (.ref st), .val (.int ix), .val (.ref a)] [.null, (.int (0 : Int32)), (.ref st)])) rfl rfl (hb hby d3_17)
        have V_st : Arv Z h6 st kst (.object "java/lang/String") (3 : Int32) (sts.set ((0 : Int32)).toNatClampNeg .null) .null := Arv.set Ar6 q6 S6 Nz6 Hh6 Gg6 rfl W6 _ rfl (own_lt2 (z := (3 : Int32)) ⟨by decide, by decide⟩ (hsl.trans own_k3))
        have Ns := (Or.inr ⟨_, _, Ar6, by decide⟩ : own_ns Z h0 st)
        have L_st : own_SL Z h6 sts so := own_SL_wr L_st W6 Ns
        have F_p : own_S Z h6 (.ref a) (some tp) := own_S_wr F_p W6 Ns
        have S_c : Sta Z h6 "java/lang/String" "COMPACT_STRINGS" "Z" (.int cw) := S_c.wr W6
        have F_t : own_S Z h6 (sts.getD ((0 : Int32)).toNatClampNeg .null) (so.getD ((0 : Int32)).toNatClampNeg none) := own_S_wr F_t W6 Ns
        have Zn : n0 ≤ h6.size := Nat.le_trans Zn (Keep.of_wr W6).1
        have K : Keep h0 h6 [st] := K.wr W6 (Or.inl (List.mem_of_getElem? (i := 0) rfl))
        have NN := Fr.snoc X6 NN g_st
        have pre : ∀ τ, Steps p.tables e below (T6.setTop (mkF m 18 #[.val (.ref st), .val (.int ix), .val (.ref a)] [])) τ → G τ := fun τ κ => pre τ (st6 τ κ)
        have L_st : own_SL Z h6 (sts.set ((0 : Int32)).toNatClampNeg .null) (so.set ((0 : Int32)).toNatClampNeg none) := own_SL_set L_st (Or.inl ⟨rfl, rfl⟩) _
        exact cont (sts.set ((0 : Int32)).toNatClampNeg .null) T6 _ h6 X6 e6 NN K Zn V_st (by rw [own_n1T hc1_2 hc11_5]; exact L_st) F_p S_c (by rw [List.length_set]; exact hsl) pre
  refine seg ?_
  intro sts0 T1 ll1 h1 X1 e1 NN1 K Zn V_st L_st F_p S_c hsl0 pre
  have seg : (∀ (sts1 : List Value) (T7 : State) (ll7 : List Loc) (h7 : Heap) (X7 : Stand p l e ({ frames := 2, cells := 0, slots := 0, locals := 28 } : Room) s m #[(.ref st), (.int ix), (.ref a)] below meth c T7 ll7 0 0) (e7 : T7.heap = h7) (NN7 : Fr n0 ll7) (K : Keep h0 h7 [st]) (Zn : n0 ≤ h7.size) (V_st : Arv Z h7 st kst (.object "java/lang/String") (3 : Int32) sts1 .null) (L_st : own_SL Z h7 sts1 (own_n1 tp ix (1 : Int32) (own_n1 tp ix (0 : Int32) so))) (F_p : own_S Z h7 (.ref a) (some tp)) (S_c : Sta Z h7 "java/lang/String" "COMPACT_STRINGS" "Z" (.int cw)) (hsl1 : sts1.length = 3) (pre : ∀ τ, Steps p.tables e below (T7.setTop (mkF m 37 #[.val (.ref st), .val (.int ix), .val (.ref a)] [])) τ → G τ), GL) → GL := by
    intro cont
    have pre : ∀ τ, Steps p.tables e below (T1.setTop (mkF m 20 #[.val (.ref st), .val (.int ix), .val (.ref a)] [(.int (1 : Int32)), (.int ix)])) τ → G τ := fun τ κ => pre τ (by
      refine XS.iloadN X1.here hx rfl (hb hby d3_18) rfl ?_
      show Steps p.tables e below (T1.setTop (mkF m 19 #[.val (.ref st), .val (.int ix), .val (.ref a)] [(.int ix)])) τ
      refine XS.iconst X1.here hx rfl (hb hby d3_19) ?_
      show Steps p.tables e below (T1.setTop (mkF m 20 #[.val (.ref st), .val (.int ix), .val (.ref a)] [(.int (1 : Int32)), (.int ix)])) τ
      exact κ)
    rcases Classical.em (ix = (1 : Int32)) with hc20_8 | hc20_8
    ·
      have pre : ∀ τ, Steps p.tables e below (T1.setTop (mkF m 37 #[.val (.ref st), .val (.int ix), .val (.ref a)] [])) τ → G τ := fun τ κ => pre τ (by
        refine XS.icmpYes X1.here hx rfl (pc0 := 20) (pc' := 37) rfl (hb hby d3_20) rfl (teq hc20_8).1 (by decide) (by decide) ?_
        show Steps p.tables e below (T1.setTop (mkF m 37 #[.val (.ref st), .val (.int ix), .val (.ref a)] [])) τ
        exact κ)
      exact cont sts0 T1 _ h1 X1 e1 NN1 K Zn V_st (by rw [own_n1a hc20_8]; exact L_st) F_p S_c hsl0 pre
    ·
      have pre : ∀ τ, Steps p.tables e below (T1.setTop (mkF m 26 #[.val (.ref st), .val (.int ix), .val (.ref a)] [(.int (1 : Int32)), (.ref st), (.ref a)])) τ → G τ := fun τ κ => pre τ (by
        refine XS.icmpNo X1.here hx rfl (hb hby d3_20) rfl (feq hc20_8).1 ?_
        show Steps p.tables e below (T1.setTop (mkF m 23 #[.val (.ref st), .val (.int ix), .val (.ref a)] [])) τ
        refine XS.aloadN X1.here hx rfl (hb hby d3_23) rfl rfl ?_
        show Steps p.tables e below (T1.setTop (mkF m 24 #[.val (.ref st), .val (.int ix), .val (.ref a)] [(.ref a)])) τ
        refine XS.aloadN X1.here hx rfl (hb hby d3_24) rfl rfl ?_
        show Steps p.tables e below (T1.setTop (mkF m 25 #[.val (.ref st), .val (.int ix), .val (.ref a)] [(.ref st), (.ref a)])) τ
        refine XS.iconst X1.here hx rfl (hb hby d3_25) ?_
        show Steps p.tables e below (T1.setTop (mkF m 26 #[.val (.ref st), .val (.int ix), .val (.ref a)] [(.int (1 : Int32)), (.ref st), (.ref a)])) τ
        exact κ)
      obtain ⟨c9, Ar9, q9, S9, Nz9, Hh9, Gg9⟩ := id V_st
      have F_t : own_S Z h1 (sts0.getD ((1 : Int32)).toNatClampNeg .null) ((own_n1 tp ix (0 : Int32) so).getD ((1 : Int32)).toNatClampNeg none) := L_st.2 _
      have hin9 : ¬ ((1 : Int32) < 0 ∨ c9.slots.size ≤ ((1 : Int32)).toNatClampNeg) := inb_of S9 ⟨by decide, by decide⟩
      have hat9 : c9.slots[((1 : Int32)).toNatClampNeg]? = some (sts0.getD ((1 : Int32)).toNatClampNeg .null) := Hh9.at hin9 rfl
      have pre : ∀ τ, Steps p.tables e below (T1.setTop (mkF m 27 #[.val (.ref st), .val (.int ix), .val (.ref a)] [(sts0.getD ((1 : Int32)).toNatClampNeg .null), (.ref a)])) τ → G τ := fun τ κ => pre τ (X1.aaload hx (j := (1 : Int32)) (v := (sts0.getD ((1 : Int32)).toNatClampNeg .null)) (by rw [e1]; exact Ar9.1) (State.isArrayOf_alike hZ.alike Ar9.2.1) rfl Ar9.2.2 hin9 hat9 (g := (mkF m 26 #[.val (.ref st), .val (.int ix), .val (.ref a)] [(.int (1 : Int32)), (.ref st), (.ref a)])) rfl rfl (hb hby d3_26) _ κ)
      obtain ⟨cq10, kq10, q10a, q10b, q10c⟩ := isOf hZ e1 (own_S_exa F_p)
      obtain ⟨_, _, ⟨T10, Lx10, kx10, nx10⟩, -, X10, ⟨Lc10, hQ10, l10, y10, z10⟩, st10⟩ := X1.virtualBack hx (y := (⟨"java/lang/String", "equals", "(Ljava/lang/Object;)Z"⟩ : MethodName)) (z := (⟨"java/lang/String", "equals", "(Ljava/lang/Object;)Z"⟩ : MethodName)) hown (mvT hZ (hw _ (List.mem_of_getElem? (i := 23) rfl))) (mvT hZ (hw _ (List.mem_of_getElem? (i := 24) rfl))) (notFace_of_selects (args := #[]) (mvT hZ (hw _ (List.mem_of_getElem? (i := 26) rfl)))) (mvT hZ (hw _ (List.mem_of_getElem? (i := 26) rfl))) (mvT hZ (hw _ (List.mem_of_getElem? (i := 25) rfl))) (by decide) (backOf (W := 0) (rm4 l Z a0 hw [] a (sts0.getD ((1 : Int32)).toNatClampNeg .null) tp ((own_n1 tp ix (0 : Int32) so).getD ((1 : Int32)).toNatClampNeg none) cw h1 n0 Zn F_p F_t S_c hcw) hZ (hw _ (List.mem_of_getElem? (i := 27) rfl)) (hw _ (List.mem_of_getElem? (i := 9) rfl)) (by decide) (by decide)) q10a q10c (g := (mkF m 27 #[.val (.ref st), .val (.int ix), .val (.ref a)] [(sts0.getD ((1 : Int32)).toNatClampNeg .null), (.ref a)])) rfl (by rw [hml]; rfl) (Steps.refl _) (argsL := [(sts0.getD ((1 : Int32)).toNatClampNeg .null)]) (rest := []) (lenOf pd_2 rfl) rfl (by show 2 * 0 + _ ≤ _; exact Nat.le_of_eq rfl) (hb hby d3_27) (fun _ _ => ⟨rfl, e1, (by decide : 0 + 0 ≤ _), (by decide : 0 + 0 ≤ _)⟩)
      dsimp only [Pt.U, Pt.locs, Pt.cells, Pt.slots] at X10 l10 y10 z10 st10 hQ10
      replace y10 : kx10 = 0 := y10
      replace z10 : nx10 = 0 := z10
      subst y10 z10
      obtain ⟨rfl, Nq10, hs10⟩ := hQ10
      have NN : Fr n0 Lx10 := by rw [l10]; exact Fr.app NN1 Nq10
      have pre : ∀ τ, Steps p.tables e below (T10.setTop (mkF m 30 #[.val (.ref st), .val (.int ix), .val (.ref a)] [(.int (own_eqt tp ((own_n1 tp ix (0 : Int32) so).getD ((1 : Int32)).toNatClampNeg none)))])) τ → G τ := fun τ κ => pre τ (st10.trans κ)
      rcases Classical.em ((own_eqt tp ((own_n1 tp ix (0 : Int32) so).getD ((1 : Int32)).toNatClampNeg none)) = (0 : Int32)) with hc30_11 | hc30_11
      ·
        have pre : ∀ τ, Steps p.tables e below (T10.setTop (mkF m 37 #[.val (.ref st), .val (.int ix), .val (.ref a)] [])) τ → G τ := fun τ κ => pre τ (by
          refine XS.ifYes X10.here hx rfl (pc0 := 30) (pc' := 37) rfl (hb hby d3_30) rfl ((if0 _ _).trans (teq hc30_11).1) (by decide) (by decide) ?_
          show Steps p.tables e below (T10.setTop (mkF m 37 #[.val (.ref st), .val (.int ix), .val (.ref a)] [])) τ
          exact κ)
        exact cont sts0 T10 _ h1 X10 hs10 NN K Zn V_st (by rw [own_n1b hc30_11]; exact L_st) F_p S_c hsl0 pre
      ·
        have pre : ∀ τ, Steps p.tables e below (T10.setTop (mkF m 36 #[.val (.ref st), .val (.int ix), .val (.ref a)] [.null, (.int (1 : Int32)), (.ref st)])) τ → G τ := fun τ κ => pre τ (by
          refine XS.ifNo X10.here hx rfl (hb hby d3_30) rfl ((if0 _ _).trans (feq hc30_11).1) ?_
          show Steps p.tables e below (T10.setTop (mkF m 33 #[.val (.ref st), .val (.int ix), .val (.ref a)] [])) τ
          refine XS.aloadN X10.here hx rfl (hb hby d3_33) rfl rfl ?_
          show Steps p.tables e below (T10.setTop (mkF m 34 #[.val (.ref st), .val (.int ix), .val (.ref a)] [(.ref st)])) τ
          refine XS.iconst X10.here hx rfl (hb hby d3_34) ?_
          show Steps p.tables e below (T10.setTop (mkF m 35 #[.val (.ref st), .val (.int ix), .val (.ref a)] [(.int (1 : Int32)), (.ref st)])) τ
          refine XS.aconstNull X10.here hx rfl (hb hby d3_35) ?_
          show Steps p.tables e below (T10.setTop (mkF m 36 #[.val (.ref st), .val (.int ix), .val (.ref a)] [.null, (.int (1 : Int32)), (.ref st)])) τ
          exact κ)
        obtain ⟨c12, Ar12, q12, S12, Nz12, Hh12, Gg12⟩ := id V_st
        have hin12 : ¬ ((1 : Int32) < 0 ∨ c12.slots.size ≤ ((1 : Int32)).toNatClampNeg) := inb_of S12 ⟨by decide, by decide⟩
        obtain ⟨T12, h12, X12, e12, W12, st12⟩ := stR X10 hx hZ hs10 Ar12 (j := (1 : Int32)) hin12 rfl (Or.inl rfl) (g := (mkF m 36 #[.val (.ref st), .val (.int ix), .val (.ref a)] [.null, (.int (1 : Int32)), (.ref st)])) rfl rfl (hb hby d3_36)
        have V_st : Arv Z h12 st kst (.object "java/lang/String") (3 : Int32) (sts0.set ((1 : Int32)).toNatClampNeg .null) .null := Arv.set Ar12 q12 S12 Nz12 Hh12 Gg12 rfl W12 _ rfl (own_lt2 (z := (3 : Int32)) ⟨by decide, by decide⟩ (hsl0.trans own_k3))
        have Ns := (Or.inr ⟨_, _, Ar12, by decide⟩ : own_ns Z h1 st)
        have L_st : own_SL Z h12 sts0 (own_n1 tp ix (0 : Int32) so) := own_SL_wr L_st W12 Ns
        have F_p : own_S Z h12 (.ref a) (some tp) := own_S_wr F_p W12 Ns
        have S_c : Sta Z h12 "java/lang/String" "COMPACT_STRINGS" "Z" (.int cw) := S_c.wr W12
        have F_t : own_S Z h12 (sts0.getD ((1 : Int32)).toNatClampNeg .null) ((own_n1 tp ix (0 : Int32) so).getD ((1 : Int32)).toNatClampNeg none) := own_S_wr F_t W12 Ns
        have Zn : n0 ≤ h12.size := Nat.le_trans Zn (Keep.of_wr W12).1
        have K : Keep h0 h12 [st] := K.wr W12 (Or.inl (List.mem_of_getElem? (i := 0) rfl))
        have NN := Fr.snoc X12 NN g_st
        have pre : ∀ τ, Steps p.tables e below (T12.setTop (mkF m 37 #[.val (.ref st), .val (.int ix), .val (.ref a)] [])) τ → G τ := fun τ κ => pre τ (st12 τ κ)
        have L_st : own_SL Z h12 (sts0.set ((1 : Int32)).toNatClampNeg .null) ((own_n1 tp ix (0 : Int32) so).set ((1 : Int32)).toNatClampNeg none) := own_SL_set L_st (Or.inl ⟨rfl, rfl⟩) _
        exact cont (sts0.set ((1 : Int32)).toNatClampNeg .null) T12 _ h12 X12 e12 NN K Zn V_st (by rw [own_n1T hc20_8 hc30_11]; exact L_st) F_p S_c (by rw [List.length_set]; exact hsl0) pre
  refine seg ?_
  intro sts1 T7 ll7 h7 X7 e7 NN7 K Zn V_st L_st F_p S_c hsl1 pre
  have seg : (∀ (sts2 : List Value) (T13 : State) (ll13 : List Loc) (h13 : Heap) (X13 : Stand p l e ({ frames := 2, cells := 0, slots := 0, locals := 28 } : Room) s m #[(.ref st), (.int ix), (.ref a)] below meth c T13 ll13 0 0) (e13 : T13.heap = h13) (NN13 : Fr n0 ll13) (K : Keep h0 h13 [st]) (Zn : n0 ≤ h13.size) (V_st : Arv Z h13 st kst (.object "java/lang/String") (3 : Int32) sts2 .null) (L_st : own_SL Z h13 sts2 (own_n1 tp ix (2 : Int32) (own_n1 tp ix (1 : Int32) (own_n1 tp ix (0 : Int32) so)))) (F_p : own_S Z h13 (.ref a) (some tp)) (S_c : Sta Z h13 "java/lang/String" "COMPACT_STRINGS" "Z" (.int cw)) (hsl2 : sts2.length = 3) (pre : ∀ τ, Steps p.tables e below (T13.setTop (mkF m 56 #[.val (.ref st), .val (.int ix), .val (.ref a)] [])) τ → G τ), GL) → GL := by
    intro cont
    have pre : ∀ τ, Steps p.tables e below (T7.setTop (mkF m 39 #[.val (.ref st), .val (.int ix), .val (.ref a)] [(.int (2 : Int32)), (.int ix)])) τ → G τ := fun τ κ => pre τ (by
      refine XS.iloadN X7.here hx rfl (hb hby d3_37) rfl ?_
      show Steps p.tables e below (T7.setTop (mkF m 38 #[.val (.ref st), .val (.int ix), .val (.ref a)] [(.int ix)])) τ
      refine XS.iconst X7.here hx rfl (hb hby d3_38) ?_
      show Steps p.tables e below (T7.setTop (mkF m 39 #[.val (.ref st), .val (.int ix), .val (.ref a)] [(.int (2 : Int32)), (.int ix)])) τ
      exact κ)
    rcases Classical.em (ix = (2 : Int32)) with hc39_14 | hc39_14
    ·
      have pre : ∀ τ, Steps p.tables e below (T7.setTop (mkF m 56 #[.val (.ref st), .val (.int ix), .val (.ref a)] [])) τ → G τ := fun τ κ => pre τ (by
        refine XS.icmpYes X7.here hx rfl (pc0 := 39) (pc' := 56) rfl (hb hby d3_39) rfl (teq hc39_14).1 (by decide) (by decide) ?_
        show Steps p.tables e below (T7.setTop (mkF m 56 #[.val (.ref st), .val (.int ix), .val (.ref a)] [])) τ
        exact κ)
      exact cont sts1 T7 _ h7 X7 e7 NN7 K Zn V_st (by rw [own_n1a hc39_14]; exact L_st) F_p S_c hsl1 pre
    ·
      have pre : ∀ τ, Steps p.tables e below (T7.setTop (mkF m 45 #[.val (.ref st), .val (.int ix), .val (.ref a)] [(.int (2 : Int32)), (.ref st), (.ref a)])) τ → G τ := fun τ κ => pre τ (by
        refine XS.icmpNo X7.here hx rfl (hb hby d3_39) rfl (feq hc39_14).1 ?_
        show Steps p.tables e below (T7.setTop (mkF m 42 #[.val (.ref st), .val (.int ix), .val (.ref a)] [])) τ
        refine XS.aloadN X7.here hx rfl (hb hby d3_42) rfl rfl ?_
        show Steps p.tables e below (T7.setTop (mkF m 43 #[.val (.ref st), .val (.int ix), .val (.ref a)] [(.ref a)])) τ
        refine XS.aloadN X7.here hx rfl (hb hby d3_43) rfl rfl ?_
        show Steps p.tables e below (T7.setTop (mkF m 44 #[.val (.ref st), .val (.int ix), .val (.ref a)] [(.ref st), (.ref a)])) τ
        refine XS.iconst X7.here hx rfl (hb hby d3_44) ?_
        show Steps p.tables e below (T7.setTop (mkF m 45 #[.val (.ref st), .val (.int ix), .val (.ref a)] [(.int (2 : Int32)), (.ref st), (.ref a)])) τ
        exact κ)
      obtain ⟨c15, Ar15, q15, S15, Nz15, Hh15, Gg15⟩ := id V_st
      have F_t : own_S Z h7 (sts1.getD ((2 : Int32)).toNatClampNeg .null) ((own_n1 tp ix (1 : Int32) (own_n1 tp ix (0 : Int32) so)).getD ((2 : Int32)).toNatClampNeg none) := L_st.2 _
      have hin15 : ¬ ((2 : Int32) < 0 ∨ c15.slots.size ≤ ((2 : Int32)).toNatClampNeg) := inb_of S15 ⟨by decide, by decide⟩
      have hat15 : c15.slots[((2 : Int32)).toNatClampNeg]? = some (sts1.getD ((2 : Int32)).toNatClampNeg .null) := Hh15.at hin15 rfl
      have pre : ∀ τ, Steps p.tables e below (T7.setTop (mkF m 46 #[.val (.ref st), .val (.int ix), .val (.ref a)] [(sts1.getD ((2 : Int32)).toNatClampNeg .null), (.ref a)])) τ → G τ := fun τ κ => pre τ (X7.aaload hx (j := (2 : Int32)) (v := (sts1.getD ((2 : Int32)).toNatClampNeg .null)) (by rw [e7]; exact Ar15.1) (State.isArrayOf_alike hZ.alike Ar15.2.1) rfl Ar15.2.2 hin15 hat15 (g := (mkF m 45 #[.val (.ref st), .val (.int ix), .val (.ref a)] [(.int (2 : Int32)), (.ref st), (.ref a)])) rfl rfl (hb hby d3_45) _ κ)
      obtain ⟨cq16, kq16, q16a, q16b, q16c⟩ := isOf hZ e7 (own_S_exa F_p)
      obtain ⟨_, _, ⟨T16, Lx16, kx16, nx16⟩, -, X16, ⟨Lc16, hQ16, l16, y16, z16⟩, st16⟩ := X7.virtualBack hx (y := (⟨"java/lang/String", "equals", "(Ljava/lang/Object;)Z"⟩ : MethodName)) (z := (⟨"java/lang/String", "equals", "(Ljava/lang/Object;)Z"⟩ : MethodName)) hown (mvT hZ (hw _ (List.mem_of_getElem? (i := 23) rfl))) (mvT hZ (hw _ (List.mem_of_getElem? (i := 24) rfl))) (notFace_of_selects (args := #[]) (mvT hZ (hw _ (List.mem_of_getElem? (i := 26) rfl)))) (mvT hZ (hw _ (List.mem_of_getElem? (i := 26) rfl))) (mvT hZ (hw _ (List.mem_of_getElem? (i := 25) rfl))) (by decide) (backOf (W := 0) (rm4 l Z a0 hw [] a (sts1.getD ((2 : Int32)).toNatClampNeg .null) tp ((own_n1 tp ix (1 : Int32) (own_n1 tp ix (0 : Int32) so)).getD ((2 : Int32)).toNatClampNeg none) cw h7 n0 Zn F_p F_t S_c hcw) hZ (hw _ (List.mem_of_getElem? (i := 27) rfl)) (hw _ (List.mem_of_getElem? (i := 9) rfl)) (by decide) (by decide)) q16a q16c (g := (mkF m 46 #[.val (.ref st), .val (.int ix), .val (.ref a)] [(sts1.getD ((2 : Int32)).toNatClampNeg .null), (.ref a)])) rfl (by rw [hml]; rfl) (Steps.refl _) (argsL := [(sts1.getD ((2 : Int32)).toNatClampNeg .null)]) (rest := []) (lenOf pd_2 rfl) rfl (by show 2 * 0 + _ ≤ _; exact Nat.le_of_eq rfl) (hb hby d3_46) (fun _ _ => ⟨rfl, e7, (by decide : 0 + 0 ≤ _), (by decide : 0 + 0 ≤ _)⟩)
      dsimp only [Pt.U, Pt.locs, Pt.cells, Pt.slots] at X16 l16 y16 z16 st16 hQ16
      replace y16 : kx16 = 0 := y16
      replace z16 : nx16 = 0 := z16
      subst y16 z16
      obtain ⟨rfl, Nq16, hs16⟩ := hQ16
      have NN : Fr n0 Lx16 := by rw [l16]; exact Fr.app NN7 Nq16
      have pre : ∀ τ, Steps p.tables e below (T16.setTop (mkF m 49 #[.val (.ref st), .val (.int ix), .val (.ref a)] [(.int (own_eqt tp ((own_n1 tp ix (1 : Int32) (own_n1 tp ix (0 : Int32) so)).getD ((2 : Int32)).toNatClampNeg none)))])) τ → G τ := fun τ κ => pre τ (st16.trans κ)
      rcases Classical.em ((own_eqt tp ((own_n1 tp ix (1 : Int32) (own_n1 tp ix (0 : Int32) so)).getD ((2 : Int32)).toNatClampNeg none)) = (0 : Int32)) with hc49_17 | hc49_17
      ·
        have pre : ∀ τ, Steps p.tables e below (T16.setTop (mkF m 56 #[.val (.ref st), .val (.int ix), .val (.ref a)] [])) τ → G τ := fun τ κ => pre τ (by
          refine XS.ifYes X16.here hx rfl (pc0 := 49) (pc' := 56) rfl (hb hby d3_49) rfl ((if0 _ _).trans (teq hc49_17).1) (by decide) (by decide) ?_
          show Steps p.tables e below (T16.setTop (mkF m 56 #[.val (.ref st), .val (.int ix), .val (.ref a)] [])) τ
          exact κ)
        exact cont sts1 T16 _ h7 X16 hs16 NN K Zn V_st (by rw [own_n1b hc49_17]; exact L_st) F_p S_c hsl1 pre
      ·
        have pre : ∀ τ, Steps p.tables e below (T16.setTop (mkF m 55 #[.val (.ref st), .val (.int ix), .val (.ref a)] [.null, (.int (2 : Int32)), (.ref st)])) τ → G τ := fun τ κ => pre τ (by
          refine XS.ifNo X16.here hx rfl (hb hby d3_49) rfl ((if0 _ _).trans (feq hc49_17).1) ?_
          show Steps p.tables e below (T16.setTop (mkF m 52 #[.val (.ref st), .val (.int ix), .val (.ref a)] [])) τ
          refine XS.aloadN X16.here hx rfl (hb hby d3_52) rfl rfl ?_
          show Steps p.tables e below (T16.setTop (mkF m 53 #[.val (.ref st), .val (.int ix), .val (.ref a)] [(.ref st)])) τ
          refine XS.iconst X16.here hx rfl (hb hby d3_53) ?_
          show Steps p.tables e below (T16.setTop (mkF m 54 #[.val (.ref st), .val (.int ix), .val (.ref a)] [(.int (2 : Int32)), (.ref st)])) τ
          refine XS.aconstNull X16.here hx rfl (hb hby d3_54) ?_
          show Steps p.tables e below (T16.setTop (mkF m 55 #[.val (.ref st), .val (.int ix), .val (.ref a)] [.null, (.int (2 : Int32)), (.ref st)])) τ
          exact κ)
        obtain ⟨c18, Ar18, q18, S18, Nz18, Hh18, Gg18⟩ := id V_st
        have hin18 : ¬ ((2 : Int32) < 0 ∨ c18.slots.size ≤ ((2 : Int32)).toNatClampNeg) := inb_of S18 ⟨by decide, by decide⟩
        obtain ⟨T18, h18, X18, e18, W18, st18⟩ := stR X16 hx hZ hs16 Ar18 (j := (2 : Int32)) hin18 rfl (Or.inl rfl) (g := (mkF m 55 #[.val (.ref st), .val (.int ix), .val (.ref a)] [.null, (.int (2 : Int32)), (.ref st)])) rfl rfl (hb hby d3_55)
        have V_st : Arv Z h18 st kst (.object "java/lang/String") (3 : Int32) (sts1.set ((2 : Int32)).toNatClampNeg .null) .null := Arv.set Ar18 q18 S18 Nz18 Hh18 Gg18 rfl W18 _ rfl (own_lt2 (z := (3 : Int32)) ⟨by decide, by decide⟩ (hsl1.trans own_k3))
        have Ns := (Or.inr ⟨_, _, Ar18, by decide⟩ : own_ns Z h7 st)
        have L_st : own_SL Z h18 sts1 (own_n1 tp ix (1 : Int32) (own_n1 tp ix (0 : Int32) so)) := own_SL_wr L_st W18 Ns
        have F_p : own_S Z h18 (.ref a) (some tp) := own_S_wr F_p W18 Ns
        have S_c : Sta Z h18 "java/lang/String" "COMPACT_STRINGS" "Z" (.int cw) := S_c.wr W18
        have F_t : own_S Z h18 (sts1.getD ((2 : Int32)).toNatClampNeg .null) ((own_n1 tp ix (1 : Int32) (own_n1 tp ix (0 : Int32) so)).getD ((2 : Int32)).toNatClampNeg none) := own_S_wr F_t W18 Ns
        have Zn : n0 ≤ h18.size := Nat.le_trans Zn (Keep.of_wr W18).1
        have K : Keep h0 h18 [st] := K.wr W18 (Or.inl (List.mem_of_getElem? (i := 0) rfl))
        have NN := Fr.snoc X18 NN g_st
        have pre : ∀ τ, Steps p.tables e below (T18.setTop (mkF m 56 #[.val (.ref st), .val (.int ix), .val (.ref a)] [])) τ → G τ := fun τ κ => pre τ (st18 τ κ)
        have L_st : own_SL Z h18 (sts1.set ((2 : Int32)).toNatClampNeg .null) ((own_n1 tp ix (1 : Int32) (own_n1 tp ix (0 : Int32) so)).set ((2 : Int32)).toNatClampNeg none) := own_SL_set L_st (Or.inl ⟨rfl, rfl⟩) _
        exact cont (sts1.set ((2 : Int32)).toNatClampNeg .null) T18 _ h18 X18 e18 NN K Zn V_st (by rw [own_n1T hc39_14 hc49_17]; exact L_st) F_p S_c (by rw [List.length_set]; exact hsl1) pre
  refine seg ?_
  intro sts2 T13 ll13 h13 X13 e13 NN13 K Zn V_st L_st F_p S_c hsl2 pre
  have pre : ∀ τ, Steps p.tables e below (T13.setTop (mkF m 59 #[.val (.ref st), .val (.int ix), .val (.ref a)] [(.ref a), (.int ix), (.ref st)])) τ → G τ := fun τ κ => pre τ (by
    refine XS.aloadN X13.here hx rfl (hb hby d3_56) rfl rfl ?_
    show Steps p.tables e below (T13.setTop (mkF m 57 #[.val (.ref st), .val (.int ix), .val (.ref a)] [(.ref st)])) τ
    refine XS.iloadN X13.here hx rfl (hb hby d3_57) rfl ?_
    show Steps p.tables e below (T13.setTop (mkF m 58 #[.val (.ref st), .val (.int ix), .val (.ref a)] [(.int ix), (.ref st)])) τ
    refine XS.aloadN X13.here hx rfl (hb hby d3_58) rfl rfl ?_
    show Steps p.tables e below (T13.setTop (mkF m 59 #[.val (.ref st), .val (.int ix), .val (.ref a)] [(.ref a), (.int ix), (.ref st)])) τ
    exact κ)
  obtain ⟨c19, Ar19, q19, S19, Nz19, Hh19, Gg19⟩ := id V_st
  have hin19 : ¬ (ix < 0 ∨ c19.slots.size ≤ (ix).toNatClampNeg) := inb_of S19 hk
  obtain ⟨T19, h19, X19, e19, W19, st19⟩ := stR X13 hx hZ e13 Ar19 (j := ix) hin19 rfl (own_S_sto F_p Ar19 q19 O_st) (g := (mkF m 59 #[.val (.ref st), .val (.int ix), .val (.ref a)] [(.ref a), (.int ix), (.ref st)])) rfl rfl (hb hby d3_59)
  have V_st : Arv Z h19 st kst (.object "java/lang/String") (3 : Int32) (sts2.set (ix).toNatClampNeg (.ref a)) .null := Arv.set Ar19 q19 S19 Nz19 Hh19 Gg19 (own_S_fit F_p) W19 _ rfl (own_lt2 hk (hsl2.trans own_k3))
  have Ns := (Or.inr ⟨_, _, Ar19, by decide⟩ : own_ns Z h13 st)
  have L_st : own_SL Z h19 sts2 (own_n1 tp ix (2 : Int32) (own_n1 tp ix (1 : Int32) (own_n1 tp ix (0 : Int32) so))) := own_SL_wr L_st W19 Ns
  have F_p : own_S Z h19 (.ref a) (some tp) := own_S_wr F_p W19 Ns
  have S_c : Sta Z h19 "java/lang/String" "COMPACT_STRINGS" "Z" (.int cw) := S_c.wr W19
  have Zn : n0 ≤ h19.size := Nat.le_trans Zn (Keep.of_wr W19).1
  have K : Keep h0 h19 [st] := K.wr W19 (Or.inl (List.mem_of_getElem? (i := 0) rfl))
  have NN := Fr.snoc X19 NN13 g_st
  have pre : ∀ τ, Steps p.tables e below (T19.setTop (mkF m 60 #[.val (.ref st), .val (.int ix), .val (.ref a)] [])) τ → G τ := fun τ κ => pre τ (st19 τ κ)
  have L_st : own_SL Z h19 (sts2.set (ix).toNatClampNeg (.ref a)) ((own_n1 tp ix (2 : Int32) (own_n1 tp ix (1 : Int32) (own_n1 tp ix (0 : Int32) so))).set (ix).toNatClampNeg (some tp)) := own_SL_set L_st F_p _
  obtain ⟨fsα, hr, hrun, hended, hW, hsame⟩ := X19.leave (v := none) (fun _ => rfl)
  refine hGL ⟨_, _, hG _ (pre _ ?_), hrun, hended, _, _, rfl, ?_, ⟨_, rfl⟩, hW, hsame.mono (by decide) (by decide)⟩
  · exact X19.returnOut hx Bd.returns (hb hby d3_60) hr
  · show Q3 Z st ix a kst sts so tp cw h0 n0 _ T19.heap _
    rw [e19]
    exact ⟨_, rfl, NN, K, V_st, L_st, by rw [List.length_set]; exact hsl2⟩
theorem d1_0 : decode method_3_code 0 = .ok (.iload_n 0, 1) := by decide +kernel
theorem d1_1 : decode method_3_code 1 = .ok (.ldc 40, 2) := by decide +kernel
theorem d1_3 : decode method_3_code 3 = .ok (.iand, 1) := by decide +kernel
theorem d1_4 : decode method_3_code 4 = .ok (.iconst 3, 1) := by decide +kernel
theorem d1_5 : decode method_3_code 5 = .ok (.irem, 1) := by decide +kernel
theorem d1_6 : decode method_3_code 6 = .ok (.ireturn, 1) := by decide +kernel
theorem ef_1 (m : MethodId) (x0 : Int32) : entryFrame m #[(.int x0)] 1 = mkF m 0 #[.val (.int x0)] [] := by first | (simp [entryFrame, mkF, argsToLocals, Value.category]; done) | rfl
def Q1 (Z : State) (nn : Int32) (h0 : Heap) (n0 : Nat) (vα : Option Value) (hα : Heap) (Lα : List Loc) : Prop := vα = some (.int ((nn &&& (2147483647 : Int32)) % (3 : Int32))) ∧ Fr n0 Lα ∧ hα = h0
set_option maxRecDepth 65536 in
set_option maxHeartbeats 40000000 in
theorem rm1 (l : Launch) (Z : State) (a0 : Array Value) (hw : ∀ d ∈ tables_1, d.before a0 Z = true) (ws : List Jvm.Cond) (nn : Int32) (h0 : Heap) (n0 : Nat) (Z0 : n0 ≤ h0.size) :
    MetFree l (⟨"coppice/marshal/context/NamespaceScopeRestorePinLaw", "idx", "(I)I"⟩ : MethodName) (head1 (Jvm.Cond.code (⟨"coppice/marshal/context/NamespaceScopeRestorePinLaw", "idx", "(I)I"⟩ : MethodName) method_3_code 1 (some .int) :: ws) ({ frames := 0, cells := 0, slots := 0, locals := 0 } : Room)) (fun aα U => aα = #[(.int nn)] ∧ Z.Warmed39 U.vm ∧ U.heap = h0) (fun _ _ _ _ _ => True) (fun _ U oα U' => ∃ vα Lα, oα = .returned vα ∧ Q1 Z nn h0 n0 vα U'.heap Lα ∧ FrameEnd U oα U' Lα ({ frames := 0, cells := 0, slots := 0, locals := 0 } : Room).cells ({ frames := 0, cells := 0, slots := 0, locals := 0 } : Room).slots) := by
  refine MetFree.of_bodySF (plainFor_of_name pn_4) hisR ?_
  intro p e s m args below meth c s₁ Bd hml0 hP hK
  refine own_wrap ?_
  intro GL hGL
  obtain ⟨rfl, hZ, hh⟩ := hP
  have hx := Bd.exec
  have hby := Bd.bytes
  have hml : c.maxLocals = 1 := hml0
  have hown : s.vm.findClass "coppice/marshal/context/NamespaceScopeRestorePinLaw" = some m.cls := findClass_of_methodNamed Bd.named
  have hnm := (name_of_methodNamed Bd.named Bd.method).1
  have X0 : Stand p l e ({ frames := 0, cells := 0, slots := 0, locals := 0 } : Room) s m #[(.int nn)] below meth c s₁ [] 0 0 := Stand.of_body Bd
  have e0 : s₁.heap = h0 := by rw [← hh, Bd.state]; rfl
  have N0 := Fr.nil n0
  have pre0 : ∀ τ, Steps p.tables e below (s₁.setTop (mkF m 0 #[.val (.int nn)] [])) τ → Steps p.tables e below (s₁.setTop (entryFrame m #[(.int nn)] 1)) τ := fun τ κ => castTop (ef_1 m nn) κ
  obtain ⟨G, hG, pre⟩ : ∃ G : State → Prop, (∀ τ, G τ → Steps p.tables e below (s₁.setTop (entryFrame m #[(.int nn)] 1)) τ) ∧ ∀ τ, Steps p.tables e below (s₁.setTop (mkF m 0 #[.val (.int nn)] [])) τ → G τ := ⟨_, pre0, fun _ k => k⟩
  have K : Keep h0 h0 [] := Keep.refl h0 _
  have Zn := Z0
  have pre : ∀ τ, Steps p.tables e below (s₁.setTop (mkF m 6 #[.val (.int nn)] [(.int ((nn &&& (2147483647 : Int32)) % (3 : Int32)))])) τ → G τ := fun τ κ => pre τ (by
    refine XS.iloadN X0.here hx rfl (hb hby d1_0) rfl ?_
    show Steps p.tables e below (s₁.setTop (mkF m 1 #[.val (.int nn)] [(.int nn)])) τ
    refine X0.ldcInt hx hown (mvT hZ (hw _ (List.mem_of_getElem? (i := 4) rfl))) (g := (mkF m 1 #[.val (.int nn)] [(.int nn)])) rfl (hb hby d1_1) _ ?_
    show Steps p.tables e below (s₁.setTop (mkF m 3 #[.val (.int nn)] [(.int (2147483647 : Int32)), (.int nn)])) τ
    refine XS.iand X0.here hx rfl (hb hby d1_3) rfl ?_
    show Steps p.tables e below (s₁.setTop (mkF m 4 #[.val (.int nn)] [(.int (nn &&& (2147483647 : Int32)))])) τ
    refine XS.iconst X0.here hx rfl (hb hby d1_4) ?_
    show Steps p.tables e below (s₁.setTop (mkF m 5 #[.val (.int nn)] [(.int (3 : Int32)), (.int (nn &&& (2147483647 : Int32)))])) τ
    refine iremM X0 hx rfl (hb hby d1_5) rfl (by decide) ?_
    show Steps p.tables e below (s₁.setTop (mkF m 6 #[.val (.int nn)] [(.int ((nn &&& (2147483647 : Int32)) % (3 : Int32)))])) τ
    exact κ)
  obtain ⟨fsα, hr, hrun, hended, hW, hsame⟩ := X0.leave (v := some (.int ((nn &&& (2147483647 : Int32)) % (3 : Int32)))) (fun h => by rw [Bd.returns] at h; cases h)
  refine hGL ⟨_, _, hG _ (pre _ ?_), hrun, hended, _, _, rfl, ?_, ⟨_, rfl⟩, hW, hsame.mono (by decide) (by decide)⟩
  · exact retOut X0 hx Bd.returns rfl (Or.inl ⟨rfl, Or.inl rfl, _, rfl⟩) (hb hby d1_6) hr
  · show Q1 Z nn h0 n0 _ s₁.heap _
    rw [e0]
    exact ⟨rfl, N0, rfl⟩
theorem d2_0 : decode method_4_code 0 = .ok (.iload_n 0, 1) := by decide +kernel
theorem d2_1 : decode method_4_code 1 = .ok (.iconst 3, 1) := by decide +kernel
theorem d2_2 : decode method_4_code 2 = .ok (.iand, 1) := by decide +kernel
theorem d2_3 : decode method_4_code 3 = .ok (.istore_n 1, 1) := by decide +kernel
theorem d2_4 : decode method_4_code 4 = .ok (.iload_n 1, 1) := by decide +kernel
theorem d2_5 : decode method_4_code 5 = .ok (.ifCond .ne 6, 3) := by decide +kernel
theorem d2_8 : decode method_4_code 8 = .ok (.ldc 19, 2) := by decide +kernel
theorem d2_10 : decode method_4_code 10 = .ok (.areturn, 1) := by decide +kernel
theorem d2_11 : decode method_4_code 11 = .ok (.iload_n 1, 1) := by decide +kernel
theorem d2_12 : decode method_4_code 12 = .ok (.iconst 1, 1) := by decide +kernel
theorem d2_13 : decode method_4_code 13 = .ok (.if_icmp .ne 6, 3) := by decide +kernel
theorem d2_16 : decode method_4_code 16 = .ok (.ldc 21, 2) := by decide +kernel
theorem d2_18 : decode method_4_code 18 = .ok (.areturn, 1) := by decide +kernel
theorem d2_19 : decode method_4_code 19 = .ok (.iload_n 1, 1) := by decide +kernel
theorem d2_20 : decode method_4_code 20 = .ok (.iconst 2, 1) := by decide +kernel
theorem d2_21 : decode method_4_code 21 = .ok (.if_icmp .ne 6, 3) := by decide +kernel
theorem d2_24 : decode method_4_code 24 = .ok (.ldc 51, 2) := by decide +kernel
theorem d2_26 : decode method_4_code 26 = .ok (.areturn, 1) := by decide +kernel
theorem d2_27 : decode method_4_code 27 = .ok (.ldc 53, 2) := by decide +kernel
theorem d2_29 : decode method_4_code 29 = .ok (.areturn, 1) := by decide +kernel
theorem ef_2 (m : MethodId) (x0 : Int32) : entryFrame m #[(.int x0)] 2 = mkF m 0 #[.val (.int x0), .unset] [] := by first | (simp [entryFrame, mkF, argsToLocals, Value.category]; done) | rfl
def Q2 (Z : State) (vv : Int32) (h0 : Heap) (n0 : Nat) (vα : Option Value) (hα : Heap) (Lα : List Loc) : Prop := ∃ (r : Addr), vα = some (.ref r) ∧ Fr n0 Lα ∧ Keep h0 hα [] ∧ own_S Z hα (.ref r) (some (own_pk vv))
set_option maxRecDepth 65536 in
set_option maxHeartbeats 40000000 in
theorem rm2 (l : Launch) (Z : State) (a0 : Array Value) (hw : ∀ d ∈ tables_1, d.before a0 Z = true) (hEL : EW Z a0 own_EL) (wS : ∀ a ∈ Bundle.stringAtoms, a.before a0 Z = true) (ws : List Jvm.Cond) (vv : Int32) (h0 : Heap) (n0 : Nat) (Z0 : n0 ≤ h0.size) :
    MetFree l (⟨"coppice/marshal/context/NamespaceScopeRestorePinLaw", "pick", "(I)Ljava/lang/String;"⟩ : MethodName) (head1 (Jvm.Cond.code (⟨"coppice/marshal/context/NamespaceScopeRestorePinLaw", "pick", "(I)Ljava/lang/String;"⟩ : MethodName) method_4_code 2 (some (.object "java/lang/String")) :: ws) ({ frames := 0, cells := 2, slots := 16, locals := 0 } : Room)) (fun aα U => aα = #[(.int vv)] ∧ Z.Warmed39 U.vm ∧ U.heap = h0 ∧ CHv Z own_EL U.vm h0) (fun _ _ _ _ _ => True) (fun _ U oα U' => ∃ vα Lα, oα = .returned vα ∧ Q2 Z vv h0 n0 vα U'.heap Lα ∧ CHr Z own_EL U.vm U.heap U'.vm U'.heap ∧ ReturnedEndW U oα U' Lα ({ frames := 0, cells := 2, slots := 16, locals := 0 } : Room).cells ({ frames := 0, cells := 2, slots := 16, locals := 0 } : Room).slots) := by
  refine MetFree.of_bodySF (plainFor_of_name pn_4) hisR ?_
  intro p e s m args below meth c s₁ Bd hml0 hP hK
  refine own_wrap ?_
  intro GL hGL
  obtain ⟨rfl, hZ, hh, hCH⟩ := hP
  have hx := Bd.exec
  have hby := Bd.bytes
  have hml : c.maxLocals = 2 := hml0
  have hown : s.vm.findClass "coppice/marshal/context/NamespaceScopeRestorePinLaw" = some m.cls := findClass_of_methodNamed Bd.named
  have hnm := (name_of_methodNamed Bd.named Bd.method).1
  have X0 : Stand p l e ({ frames := 0, cells := 2, slots := 16, locals := 0 } : Room) (s.setVm s.vm) m #[(.int vv)] below meth c s₁ [] 0 0 := Stand.of_body Bd
  have e0 : s₁.heap = h0 := by rw [← hh, Bd.state]; rfl
  have N0 := Fr.nil n0
  have pre0 : ∀ τ, Steps p.tables e below (s₁.setTop (mkF m 0 #[.val (.int vv), .unset] [])) τ → Steps p.tables e below (s₁.setTop (entryFrame m #[(.int vv)] 2)) τ := fun τ κ => castTop (ef_2 m vv) κ
  obtain ⟨G, hG, pre⟩ : ∃ G : State → Prop, (∀ τ, G τ → Steps p.tables e below (s₁.setTop (entryFrame m #[(.int vv)] 2)) τ) ∧ ∀ τ, Steps p.tables e below (s₁.setTop (mkF m 0 #[.val (.int vv), .unset] [])) τ → G τ := ⟨_, pre0, fun _ k => k⟩
  have K : Keep h0 h0 [] := Keep.refl h0 _
  have Zn := Z0
  have hS : s.Since s.vm h0.size := (State.WarmedH.refl s).since _
  have hk : h0.size ≤ h0.size := Nat.le_refl _
  have H : CHv Z own_EL s.vm h0 := hCH
  have HR : CHr Z own_EL s.vm h0 s.vm h0 := CHr.refl H
  have pre : ∀ τ, Steps p.tables e below (s₁.setTop (mkF m 5 #[.val (.int vv), .val (.int (vv &&& (3 : Int32)))] [(.int (vv &&& (3 : Int32)))])) τ → G τ := fun τ κ => pre τ (by
    refine XS.iloadN X0.here hx rfl (hb hby d2_0) rfl ?_
    show Steps p.tables e below (s₁.setTop (mkF m 1 #[.val (.int vv), .unset] [(.int vv)])) τ
    refine XS.iconst X0.here hx rfl (hb hby d2_1) ?_
    show Steps p.tables e below (s₁.setTop (mkF m 2 #[.val (.int vv), .unset] [(.int (3 : Int32)), (.int vv)])) τ
    refine XS.iand X0.here hx rfl (hb hby d2_2) rfl ?_
    show Steps p.tables e below (s₁.setTop (mkF m 3 #[.val (.int vv), .unset] [(.int (vv &&& (3 : Int32)))])) τ
    refine XS.istoreN X0.here hx rfl (hb hby d2_3) rfl (l' := #[.val (.int vv), .val (.int (vv &&& (3 : Int32)))]) rfl ?_
    show Steps p.tables e below (s₁.setTop (mkF m 4 #[.val (.int vv), .val (.int (vv &&& (3 : Int32)))] [])) τ
    refine XS.iloadN X0.here hx rfl (hb hby d2_4) rfl ?_
    show Steps p.tables e below (s₁.setTop (mkF m 5 #[.val (.int vv), .val (.int (vv &&& (3 : Int32)))] [(.int (vv &&& (3 : Int32)))])) τ
    exact κ)
  rcases Classical.em ((vv &&& (3 : Int32)) = (0 : Int32)) with hc5_1 | hc5_1
  ·
    have pre : ∀ τ, Steps p.tables e below (s₁.setTop (mkF m 8 #[.val (.int vv), .val (.int (vv &&& (3 : Int32)))] [])) τ → G τ := fun τ κ => pre τ (by
      refine XS.ifNo X0.here hx rfl (hb hby d2_5) rfl ((if0 _ _).trans (teq hc5_1).2) ?_
      show Steps p.tables e below (s₁.setTop (mkF m 8 #[.val (.int vv), .val (.int (vv &&& (3 : Int32)))] [])) τ
      exact κ)
    obtain ⟨as2, T2, h2, kn2, bs2, kc2, X2, e2, E2, hS, hk, hZ, hown, Ea2, Ca2, Va2, Ba2, la2, lb2, HRn2, Li2, sf2, st2⟩ := ldcCH X0 hx hZ hown (hw _ (List.mem_of_getElem? (i := 8) rfl)) wS e0 hS hk hEL (List.mem_of_getElem? (i := 2) rfl) H (vs := []) (z := (0 : Int32)) ⟨by decide, rfl⟩ (by decide) rfl (g := (mkF m 8 #[.val (.int vv), .val (.int (vv &&& (3 : Int32)))] [])) rfl (hb hby d2_8) (n := 0) (by decide) (by decide) (by decide) (by decide)
    have Zn : n0 ≤ h2.size := Nat.le_trans Zn E2.1
    have K : Keep h0 h2 [] := K.ext E2
    have HR := HR.trans HRn2
    have H := HR.1
    have F_s2 : own_S Z h2 (.ref as2) (some []) := Or.inr ⟨_, _, _, _, _, _, rfl, rfl, (hw _ (List.mem_of_getElem? (i := 10) rfl)), Ea2, Ca2, Va2, Ba2, rfl⟩
    have pre : ∀ τ, Steps p.tables e below (T2.setTop (mkF m 10 #[.val (.int vv), .val (.int (vv &&& (3 : Int32)))] [(.ref as2)])) τ → G τ := fun τ κ => pre τ (st2 τ κ)
    have hkT := Nat.le_trans hk (Nat.le_of_eq (congrArg Array.size (Eq.symm e2)))
    obtain ⟨fsα, hr, hrun, hended, hRE⟩ := X2.leaveW hS hkT (v := some (.ref as2)) (fun h => by rw [Bd.returns] at h; cases h)
    refine hGL ⟨_, _, hG _ (pre _ ?_), hrun, hended, _, _, rfl, ?_, ?_, ⟨_, rfl⟩, hRE.2.1, hRE.2.2.1, hRE.2.2.2.mono (by decide) (by decide)⟩
    · exact retOut X2 hx Bd.returns rfl (Or.inr (Or.inr (Or.inr (Or.inr ⟨rfl, rfl, rfl⟩)))) (hb hby d2_10) hr
    · show Q2 Z vv h0 n0 _ T2.heap _
      rw [e2]
      refine ⟨as2, rfl, N0, K, ?_⟩
      unfold own_pk
      rw [if_pos hc5_1]
      exact F_s2
    · show CHr Z own_EL s.vm s.heap T2.vm T2.heap
      rw [hh, e2]
      exact HR.trans (CHv.at X2 hZ hEL H)
  ·
    have pre : ∀ τ, Steps p.tables e below (s₁.setTop (mkF m 13 #[.val (.int vv), .val (.int (vv &&& (3 : Int32)))] [(.int (1 : Int32)), (.int (vv &&& (3 : Int32)))])) τ → G τ := fun τ κ => pre τ (by
      refine XS.ifYes X0.here hx rfl (pc0 := 5) (pc' := 11) rfl (hb hby d2_5) rfl ((if0 _ _).trans (feq hc5_1).2) (by decide) (by decide) ?_
      show Steps p.tables e below (s₁.setTop (mkF m 11 #[.val (.int vv), .val (.int (vv &&& (3 : Int32)))] [])) τ
      refine XS.iloadN X0.here hx rfl (hb hby d2_11) rfl ?_
      show Steps p.tables e below (s₁.setTop (mkF m 12 #[.val (.int vv), .val (.int (vv &&& (3 : Int32)))] [(.int (vv &&& (3 : Int32)))])) τ
      refine XS.iconst X0.here hx rfl (hb hby d2_12) ?_
      show Steps p.tables e below (s₁.setTop (mkF m 13 #[.val (.int vv), .val (.int (vv &&& (3 : Int32)))] [(.int (1 : Int32)), (.int (vv &&& (3 : Int32)))])) τ
      exact κ)
    rcases Classical.em ((vv &&& (3 : Int32)) = (1 : Int32)) with hc13_3 | hc13_3
    ·
      have pre : ∀ τ, Steps p.tables e below (s₁.setTop (mkF m 16 #[.val (.int vv), .val (.int (vv &&& (3 : Int32)))] [])) τ → G τ := fun τ κ => pre τ (by
        refine XS.icmpNo X0.here hx rfl (hb hby d2_13) rfl (teq hc13_3).2 ?_
        show Steps p.tables e below (s₁.setTop (mkF m 16 #[.val (.int vv), .val (.int (vv &&& (3 : Int32)))] [])) τ
        exact κ)
      obtain ⟨as4, T4, h4, kn4, bs4, kc4, X4, e4, E4, hS, hk, hZ, hown, Ea4, Ca4, Va4, Ba4, la4, lb4, HRn4, Li4, sf4, st4⟩ := ldcCH X0 hx hZ hown (hw _ (List.mem_of_getElem? (i := 19) rfl)) wS e0 hS hk hEL (List.mem_of_getElem? (i := 3) rfl) H (vs := [(.int (120 : Int32)), (.int (109 : Int32)), (.int (108 : Int32))]) (z := (3 : Int32)) ⟨by decide, rfl⟩ (by decide) rfl (g := (mkF m 16 #[.val (.int vv), .val (.int (vv &&& (3 : Int32)))] [])) rfl (hb hby d2_16) (n := 12) (by decide) (by decide) (by decide) (by decide)
      have Zn : n0 ≤ h4.size := Nat.le_trans Zn E4.1
      have K : Keep h0 h4 [] := K.ext E4
      have HR := HR.trans HRn4
      have H := HR.1
      have F_s4 : own_S Z h4 (.ref as4) (some [(.int (120 : Int32)), (.int (109 : Int32)), (.int (108 : Int32))]) := Or.inr ⟨_, _, _, _, _, _, rfl, rfl, (hw _ (List.mem_of_getElem? (i := 10) rfl)), Ea4, Ca4, Va4, Ba4, rfl⟩
      have pre : ∀ τ, Steps p.tables e below (T4.setTop (mkF m 18 #[.val (.int vv), .val (.int (vv &&& (3 : Int32)))] [(.ref as4)])) τ → G τ := fun τ κ => pre τ (st4 τ κ)
      have hkT := Nat.le_trans hk (Nat.le_of_eq (congrArg Array.size (Eq.symm e4)))
      obtain ⟨fsα, hr, hrun, hended, hRE⟩ := X4.leaveW hS hkT (v := some (.ref as4)) (fun h => by rw [Bd.returns] at h; cases h)
      refine hGL ⟨_, _, hG _ (pre _ ?_), hrun, hended, _, _, rfl, ?_, ?_, ⟨_, rfl⟩, hRE.2.1, hRE.2.2.1, hRE.2.2.2.mono (by decide) (by decide)⟩
      · exact retOut X4 hx Bd.returns rfl (Or.inr (Or.inr (Or.inr (Or.inr ⟨rfl, rfl, rfl⟩)))) (hb hby d2_18) hr
      · show Q2 Z vv h0 n0 _ T4.heap _
        rw [e4]
        refine ⟨as4, rfl, N0, K, ?_⟩
        unfold own_pk
        rw [if_neg hc5_1]
        rw [if_pos hc13_3]
        exact F_s4
      · show CHr Z own_EL s.vm s.heap T4.vm T4.heap
        rw [hh, e4]
        exact HR.trans (CHv.at X4 hZ hEL H)
    ·
      have pre : ∀ τ, Steps p.tables e below (s₁.setTop (mkF m 21 #[.val (.int vv), .val (.int (vv &&& (3 : Int32)))] [(.int (2 : Int32)), (.int (vv &&& (3 : Int32)))])) τ → G τ := fun τ κ => pre τ (by
        refine XS.icmpYes X0.here hx rfl (pc0 := 13) (pc' := 19) rfl (hb hby d2_13) rfl (feq hc13_3).2 (by decide) (by decide) ?_
        show Steps p.tables e below (s₁.setTop (mkF m 19 #[.val (.int vv), .val (.int (vv &&& (3 : Int32)))] [])) τ
        refine XS.iloadN X0.here hx rfl (hb hby d2_19) rfl ?_
        show Steps p.tables e below (s₁.setTop (mkF m 20 #[.val (.int vv), .val (.int (vv &&& (3 : Int32)))] [(.int (vv &&& (3 : Int32)))])) τ
        refine XS.iconst X0.here hx rfl (hb hby d2_20) ?_
        show Steps p.tables e below (s₁.setTop (mkF m 21 #[.val (.int vv), .val (.int (vv &&& (3 : Int32)))] [(.int (2 : Int32)), (.int (vv &&& (3 : Int32)))])) τ
        exact κ)
      rcases Classical.em ((vv &&& (3 : Int32)) = (2 : Int32)) with hc21_5 | hc21_5
      ·
        have pre : ∀ τ, Steps p.tables e below (s₁.setTop (mkF m 24 #[.val (.int vv), .val (.int (vv &&& (3 : Int32)))] [])) τ → G τ := fun τ κ => pre τ (by
          refine XS.icmpNo X0.here hx rfl (hb hby d2_21) rfl (teq hc21_5).2 ?_
          show Steps p.tables e below (s₁.setTop (mkF m 24 #[.val (.int vv), .val (.int (vv &&& (3 : Int32)))] [])) τ
          exact κ)
        obtain ⟨as6, T6, h6, kn6, bs6, kc6, X6, e6, E6, hS, hk, hZ, hown, Ea6, Ca6, Va6, Ba6, la6, lb6, HRn6, Li6, sf6, st6⟩ := ldcCH X0 hx hZ hown (hw _ (List.mem_of_getElem? (i := 94) rfl)) wS e0 hS hk hEL (List.mem_of_getElem? (i := 4) rfl) H (vs := [(.int (97 : Int32))]) (z := (1 : Int32)) ⟨by decide, rfl⟩ (by decide) rfl (g := (mkF m 24 #[.val (.int vv), .val (.int (vv &&& (3 : Int32)))] [])) rfl (hb hby d2_24) (n := 4) (by decide) (by decide) (by decide) (by decide)
        have Zn : n0 ≤ h6.size := Nat.le_trans Zn E6.1
        have K : Keep h0 h6 [] := K.ext E6
        have HR := HR.trans HRn6
        have H := HR.1
        have F_s6 : own_S Z h6 (.ref as6) (some [(.int (97 : Int32))]) := Or.inr ⟨_, _, _, _, _, _, rfl, rfl, (hw _ (List.mem_of_getElem? (i := 10) rfl)), Ea6, Ca6, Va6, Ba6, rfl⟩
        have pre : ∀ τ, Steps p.tables e below (T6.setTop (mkF m 26 #[.val (.int vv), .val (.int (vv &&& (3 : Int32)))] [(.ref as6)])) τ → G τ := fun τ κ => pre τ (st6 τ κ)
        have hkT := Nat.le_trans hk (Nat.le_of_eq (congrArg Array.size (Eq.symm e6)))
        obtain ⟨fsα, hr, hrun, hended, hRE⟩ := X6.leaveW hS hkT (v := some (.ref as6)) (fun h => by rw [Bd.returns] at h; cases h)
        refine hGL ⟨_, _, hG _ (pre _ ?_), hrun, hended, _, _, rfl, ?_, ?_, ⟨_, rfl⟩, hRE.2.1, hRE.2.2.1, hRE.2.2.2.mono (by decide) (by decide)⟩
        · exact retOut X6 hx Bd.returns rfl (Or.inr (Or.inr (Or.inr (Or.inr ⟨rfl, rfl, rfl⟩)))) (hb hby d2_26) hr
        · show Q2 Z vv h0 n0 _ T6.heap _
          rw [e6]
          refine ⟨as6, rfl, N0, K, ?_⟩
          unfold own_pk
          rw [if_neg hc5_1]
          rw [if_neg hc13_3]
          rw [if_pos hc21_5]
          exact F_s6
        · show CHr Z own_EL s.vm s.heap T6.vm T6.heap
          rw [hh, e6]
          exact HR.trans (CHv.at X6 hZ hEL H)
      ·
        have pre : ∀ τ, Steps p.tables e below (s₁.setTop (mkF m 27 #[.val (.int vv), .val (.int (vv &&& (3 : Int32)))] [])) τ → G τ := fun τ κ => pre τ (by
          refine XS.icmpYes X0.here hx rfl (pc0 := 21) (pc' := 27) rfl (hb hby d2_21) rfl (feq hc21_5).2 (by decide) (by decide) ?_
          show Steps p.tables e below (s₁.setTop (mkF m 27 #[.val (.int vv), .val (.int (vv &&& (3 : Int32)))] [])) τ
          exact κ)
        obtain ⟨as7, T7, h7, kn7, bs7, kc7, X7, e7, E7, hS, hk, hZ, hown, Ea7, Ca7, Va7, Ba7, la7, lb7, HRn7, Li7, sf7, st7⟩ := ldcCH X0 hx hZ hown (hw _ (List.mem_of_getElem? (i := 95) rfl)) wS e0 hS hk hEL (List.mem_of_getElem? (i := 5) rfl) H (vs := [(.int (98 : Int32))]) (z := (1 : Int32)) ⟨by decide, rfl⟩ (by decide) rfl (g := (mkF m 27 #[.val (.int vv), .val (.int (vv &&& (3 : Int32)))] [])) rfl (hb hby d2_27) (n := 4) (by decide) (by decide) (by decide) (by decide)
        have Zn : n0 ≤ h7.size := Nat.le_trans Zn E7.1
        have K : Keep h0 h7 [] := K.ext E7
        have HR := HR.trans HRn7
        have H := HR.1
        have F_s7 : own_S Z h7 (.ref as7) (some [(.int (98 : Int32))]) := Or.inr ⟨_, _, _, _, _, _, rfl, rfl, (hw _ (List.mem_of_getElem? (i := 10) rfl)), Ea7, Ca7, Va7, Ba7, rfl⟩
        have pre : ∀ τ, Steps p.tables e below (T7.setTop (mkF m 29 #[.val (.int vv), .val (.int (vv &&& (3 : Int32)))] [(.ref as7)])) τ → G τ := fun τ κ => pre τ (st7 τ κ)
        have hkT := Nat.le_trans hk (Nat.le_of_eq (congrArg Array.size (Eq.symm e7)))
        obtain ⟨fsα, hr, hrun, hended, hRE⟩ := X7.leaveW hS hkT (v := some (.ref as7)) (fun h => by rw [Bd.returns] at h; cases h)
        refine hGL ⟨_, _, hG _ (pre _ ?_), hrun, hended, _, _, rfl, ?_, ?_, ⟨_, rfl⟩, hRE.2.1, hRE.2.2.1, hRE.2.2.2.mono (by decide) (by decide)⟩
        · exact retOut X7 hx Bd.returns rfl (Or.inr (Or.inr (Or.inr (Or.inr ⟨rfl, rfl, rfl⟩)))) (hb hby d2_29) hr
        · show Q2 Z vv h0 n0 _ T7.heap _
          rw [e7]
          refine ⟨as7, rfl, N0, K, ?_⟩
          unfold own_pk
          rw [if_neg hc5_1]
          rw [if_neg hc13_3]
          rw [if_neg hc21_5]
          exact F_s7
        · show CHr Z own_EL s.vm s.heap T7.vm T7.heap
          rw [hh, e7]
          exact HR.trans (CHv.at X7 hZ hEL H)
theorem d8_0 : decode prog_2_method_2_code 0 = .ok (.aload_n 0, 1) := by decide +kernel
theorem d8_1 : decode prog_2_method_2_code 1 = .ok (.getfield 19, 3) := by decide +kernel
theorem d8_4 : decode prog_2_method_2_code 4 = .ok (.aconst_null, 1) := by decide +kernel
theorem d8_5 : decode prog_2_method_2_code 5 = .ok (.invokestatic 25, 3) := by decide +kernel
theorem pd_3 : parseMethodDescriptor "([Ljava/lang/Object;Ljava/lang/Object;)V" = some ⟨[(.array (.object "java/lang/Object")), (.object "java/lang/Object")], none⟩ := by decide +kernel
theorem d8_8 : decode prog_2_method_2_code 8 = .ok (.aload_n 0, 1) := by decide +kernel
theorem d8_9 : decode prog_2_method_2_code 9 = .ok (.getfield 19, 3) := by decide +kernel
theorem d8_12 : decode prog_2_method_2_code 12 = .ok (.iconst 0, 1) := by decide +kernel
theorem d8_13 : decode prog_2_method_2_code 13 = .ok (.ldc 31, 2) := by decide +kernel
theorem d8_15 : decode prog_2_method_2_code 15 = .ok (.aastore, 1) := by decide +kernel
theorem d8_16 : decode prog_2_method_2_code 16 = .ok (.aload_n 0, 1) := by decide +kernel
theorem d8_17 : decode prog_2_method_2_code 17 = .ok (.getfield 19, 3) := by decide +kernel
theorem d8_20 : decode prog_2_method_2_code 20 = .ok (.iconst 1, 1) := by decide +kernel
theorem d8_21 : decode prog_2_method_2_code 21 = .ok (.ldc 33, 2) := by decide +kernel
theorem d8_23 : decode prog_2_method_2_code 23 = .ok (.aastore, 1) := by decide +kernel
theorem d8_24 : decode prog_2_method_2_code 24 = .ok (.aload_n 0, 1) := by decide +kernel
theorem d8_25 : decode prog_2_method_2_code 25 = .ok (.iconst 0, 1) := by decide +kernel
theorem d8_26 : decode prog_2_method_2_code 26 = .ok (.putfield 35, 3) := by decide +kernel
theorem d8_29 : decode prog_2_method_2_code 29 = .ok (.return_, 1) := by decide +kernel
theorem ef_8 (m : MethodId) (x0 : Addr) : entryFrame m #[(.ref x0)] 1 = mkF m 0 #[.val (.ref x0)] [] := by first | (simp [entryFrame, mkF, argsToLocals, Value.category]; done) | rfl
def Q8 (Z : State) (o : Addr) (un : Addr) (up : Addr) (pf : Addr) (kf : ClassId) (nz : Int32) (pfs : List Value) (u4 : Value) (h0 : Heap) (n0 : Nat) (vα : Option Value) (hα : Heap) (Lα : List Loc) : Prop := ∃ (pfz : List Value), vα = none ∧ Fr n0 Lα ∧ Keep h0 hα [o, pf] ∧ Exa Z hα o "coppice/marshal/context/NamespaceScope" ∧ Fld Z hα o "coppice/marshal/context/NamespaceScope" "undoNamespaces" "[I" (.ref un) ∧ Fld Z hα o "coppice/marshal/context/NamespaceScope" "undoPrefixes" "[Ljava/lang/String;" (.ref up) ∧ Fld Z hα o "coppice/marshal/context/NamespaceScope" "prefixes" "[Ljava/lang/String;" (.ref pf) ∧ Fld Z hα o "coppice/marshal/context/NamespaceScope" "undoCount" "I" (.int (0 : Int32)) ∧ Arv Z hα pf kf (.object "java/lang/String") nz pfz .null ∧ own_SL Z hα pfz (own_r0 nz) ∧ pfz.length = nz.toNatClampNeg
set_option maxRecDepth 65536 in
set_option maxHeartbeats 40000000 in
theorem rm8 (l : Launch) (Z : State) (a0 : Array Value) (hw : ∀ d ∈ tables_1, d.before a0 Z = true) (hEL : EW Z a0 own_EL) (wS : ∀ a ∈ Bundle.stringAtoms, a.before a0 Z = true) (ws : List Jvm.Cond) (o : Addr) (un : Addr) (up : Addr) (pf : Addr) (kf : ClassId) (nz : Int32) (pfs : List Value) (u4 : Value) (h0 : Heap) (n0 : Nat) (Z0 : n0 ≤ h0.size) (g_o : n0 ≤ o) (g_pf : n0 ≤ pf) (E_o : Exa Z h0 o "coppice/marshal/context/NamespaceScope") (F_un : Fld Z h0 o "coppice/marshal/context/NamespaceScope" "undoNamespaces" "[I" (.ref un)) (F_up : Fld Z h0 o "coppice/marshal/context/NamespaceScope" "undoPrefixes" "[Ljava/lang/String;" (.ref up)) (F_pf : Fld Z h0 o "coppice/marshal/context/NamespaceScope" "prefixes" "[Ljava/lang/String;" (.ref pf)) (F_uc : Fld Z h0 o "coppice/marshal/context/NamespaceScope" "undoCount" "I" u4) (V_pf : Arv Z h0 pf kf (.object "java/lang/String") nz pfs .null) (O_pf : Ovr Z kf "java/lang/String") (ne_o__pf : o ≠ pf) (hnz : 2 ≤ nz.toInt) (hpfs : pfs.length = nz.toNatClampNeg) :
    MetFree l (⟨"coppice/marshal/context/NamespaceScope", "reset", "()V"⟩ : MethodName) (head1 (Jvm.Cond.code (⟨"coppice/marshal/context/NamespaceScope", "reset", "()V"⟩ : MethodName) prog_2_method_2_code 1 none :: ws) ({ frames := 1, cells := 4, slots := 20, locals := 15 } : Room)) (fun aα U => aα = #[(.ref o)] ∧ Z.Warmed39 U.vm ∧ U.heap = h0 ∧ CHv Z own_EL U.vm h0) (fun _ _ _ _ _ => True) (fun _ U oα U' => ∃ vα Lα, oα = .returned vα ∧ Q8 Z o un up pf kf nz pfs u4 h0 n0 vα U'.heap Lα ∧ CHr Z own_EL U.vm U.heap U'.vm U'.heap ∧ ReturnedEndW U oα U' Lα ({ frames := 1, cells := 4, slots := 20, locals := 15 } : Room).cells ({ frames := 1, cells := 4, slots := 20, locals := 15 } : Room).slots) := by
  refine MetFree.of_bodySF (plainFor_of_name pn_3) hisR ?_
  intro p e s m args below meth c s₁ Bd hml0 hP hK
  refine own_wrap ?_
  intro GL hGL
  obtain ⟨rfl, hZ, hh, hCH⟩ := hP
  have hx := Bd.exec
  have hby := Bd.bytes
  have hml : c.maxLocals = 1 := hml0
  have hown : s.vm.findClass "coppice/marshal/context/NamespaceScope" = some m.cls := findClass_of_methodNamed Bd.named
  have hnm := (name_of_methodNamed Bd.named Bd.method).1
  have X0 : Stand p l e ({ frames := 1, cells := 4, slots := 20, locals := 15 } : Room) (s.setVm s.vm) m #[(.ref o)] below meth c s₁ [] 0 0 := Stand.of_body Bd
  have e0 : s₁.heap = h0 := by rw [← hh, Bd.state]; rfl
  have N0 := Fr.nil n0
  have pre0 : ∀ τ, Steps p.tables e below (s₁.setTop (mkF m 0 #[.val (.ref o)] [])) τ → Steps p.tables e below (s₁.setTop (entryFrame m #[(.ref o)] 1)) τ := fun τ κ => castTop (ef_8 m o) κ
  obtain ⟨G, hG, pre⟩ : ∃ G : State → Prop, (∀ τ, G τ → Steps p.tables e below (s₁.setTop (entryFrame m #[(.ref o)] 1)) τ) ∧ ∀ τ, Steps p.tables e below (s₁.setTop (mkF m 0 #[.val (.ref o)] [])) τ → G τ := ⟨_, pre0, fun _ k => k⟩
  have K : Keep h0 h0 [o, pf] := Keep.refl h0 _
  have Zn := Z0
  have hS : s.Since s.vm h0.size := (State.WarmedH.refl s).since _
  have hk : h0.size ≤ h0.size := Nat.le_refl _
  have H : CHv Z own_EL s.vm h0 := hCH
  have HR : CHr Z own_EL s.vm h0 s.vm h0 := CHr.refl H
  have pre : ∀ τ, Steps p.tables e below (s₁.setTop (mkF m 1 #[.val (.ref o)] [(.ref o)])) τ → G τ := fun τ κ => pre τ (by
    refine XS.aloadN X0.here hx rfl (hb hby d8_0) rfl rfl ?_
    show Steps p.tables e below (s₁.setTop (mkF m 1 #[.val (.ref o)] [(.ref o)])) τ
    exact κ)
  obtain ⟨T1, X1, e1, st1⟩ := getF X0 hx hZ hown (host := "") (Or.inl (hw _ (List.mem_of_getElem? (i := 51) rfl))) Via.refl e0 F_pf (g := (mkF m 1 #[.val (.ref o)] [(.ref o)])) rfl rfl (hb hby d8_1)
  have pre : ∀ τ, Steps p.tables e below (T1.setTop (mkF m 4 #[.val (.ref o)] [(.ref pf)])) τ → G τ := fun τ κ => pre τ (st1 τ κ)
  have pre : ∀ τ, Steps p.tables e below (T1.setTop (mkF m 5 #[.val (.ref o)] [.null, (.ref pf)])) τ → G τ := fun τ κ => pre τ (by
    refine XS.aconstNull X1.here hx rfl (hb hby d8_4) ?_
    show Steps p.tables e below (T1.setTop (mkF m 5 #[.val (.ref o)] [.null, (.ref pf)])) τ
    exact κ)
  obtain ⟨_, _, ⟨T2, Lx2, kx2, nx2⟩, -, X2, ⟨Lc2, hQ2, l2, y2, z2⟩, st2⟩ := Jvm.LawKit.callS X1 hx (y := (⟨"java/util/Arrays", "fill", "([Ljava/lang/Object;Ljava/lang/Object;)V"⟩ : MethodName)) hown (mvT hZ (hw _ (List.mem_of_getElem? (i := 58) rfl))) (mvT hZ (hw _ (List.mem_of_getElem? (i := 59) rfl))) (mvT hZ (hw _ (List.mem_of_getElem? (i := 60) rfl))) (mvT hZ (hw _ (List.mem_of_getElem? (i := 61) rfl))) (by decide) (backOf (W := 0) (rm9 l Z a0 hw [] pf kf nz pfs h0 n0 Zn g_pf V_pf hpfs) hZ (hw _ (List.mem_of_getElem? (i := 61) rfl)) (hw _ (List.mem_of_getElem? (i := 60) rfl)) (by decide) (by decide)) (g := (mkF m 5 #[.val (.ref o)] [.null, (.ref pf)])) rfl (by rw [hml]; rfl) (argsL := [(.ref pf), .null]) (rest := []) (lenOf pd_3 rfl) rfl (by show 2 * 0 + _ ≤ _; exact Nat.le_of_eq rfl) (hb hby d8_5) (fun _ _ => ⟨rfl, e1, (by decide : 0 + 0 ≤ _), (by decide : 0 + 0 ≤ _)⟩)
  dsimp only [Pt.U, Pt.locs, Pt.cells, Pt.slots] at X2 l2 y2 z2 st2 hQ2
  replace y2 : kx2 = 0 := y2
  replace z2 : nx2 = 0 := z2
  subst y2 z2
  obtain ⟨rfl, Nq2, Kc2, V_arr_2⟩ := hQ2
  have NN : Fr n0 Lx2 := by rw [l2]; exact Fr.app N0 Nq2
  have Nss : ∀ x ∈ [pf], own_ns Z h0 x := (allS (own_nsV V_pf (by decide)) all0)
  have hk := Nat.le_trans hk Kc2.1
  have HR := HR.trans (CHr.keep Kc2 (fun x hx => own_safe hZ.alike (Nss x hx)) H)
  have H := HR.1
  have E_o : Exa Z T2.heap o "coppice/marshal/context/NamespaceScope" := E_o.keep Kc2
  have F_un : Fld Z T2.heap o "coppice/marshal/context/NamespaceScope" "undoNamespaces" "[I" (.ref un) := F_un.keep Kc2 (ninS ne_o__pf nin0)
  have F_up : Fld Z T2.heap o "coppice/marshal/context/NamespaceScope" "undoPrefixes" "[Ljava/lang/String;" (.ref up) := F_up.keep Kc2 (ninS ne_o__pf nin0)
  have F_pf : Fld Z T2.heap o "coppice/marshal/context/NamespaceScope" "prefixes" "[Ljava/lang/String;" (.ref pf) := F_pf.keep Kc2 (ninS ne_o__pf nin0)
  have F_uc : Fld Z T2.heap o "coppice/marshal/context/NamespaceScope" "undoCount" "I" u4 := F_uc.keep Kc2 (ninS ne_o__pf nin0)
  have Zn : n0 ≤ T2.heap.size := Nat.le_trans Zn Kc2.1
  have K : Keep h0 T2.heap [o, pf] := K.trans Kc2 (allS (Or.inl (List.mem_of_getElem? (i := 1) rfl)) all0)
  have pre : ∀ τ, Steps p.tables e below (T2.setTop (mkF m 8 #[.val (.ref o)] [])) τ → G τ := fun τ κ => pre τ (st2 τ κ)
  have L_pf : own_SL Z T2.heap (List.replicate nz.toNatClampNeg .null) (List.replicate nz.toNatClampNeg (none : own_T)) := own_SL_rep _
  have pre : ∀ τ, Steps p.tables e below (T2.setTop (mkF m 9 #[.val (.ref o)] [(.ref o)])) τ → G τ := fun τ κ => pre τ (by
    refine XS.aloadN X2.here hx rfl (hb hby d8_8) rfl rfl ?_
    show Steps p.tables e below (T2.setTop (mkF m 9 #[.val (.ref o)] [(.ref o)])) τ
    exact κ)
  obtain ⟨T3, X3, e3, st3⟩ := getF X2 hx hZ hown (host := "") (Or.inl (hw _ (List.mem_of_getElem? (i := 51) rfl))) Via.refl rfl F_pf (g := (mkF m 9 #[.val (.ref o)] [(.ref o)])) rfl rfl (hb hby d8_9)
  have pre : ∀ τ, Steps p.tables e below (T3.setTop (mkF m 12 #[.val (.ref o)] [(.ref pf)])) τ → G τ := fun τ κ => pre τ (st3 τ κ)
  have pre : ∀ τ, Steps p.tables e below (T3.setTop (mkF m 13 #[.val (.ref o)] [(.int (0 : Int32)), (.ref pf)])) τ → G τ := fun τ κ => pre τ (by
    refine XS.iconst X3.here hx rfl (hb hby d8_12) ?_
    show Steps p.tables e below (T3.setTop (mkF m 13 #[.val (.ref o)] [(.int (0 : Int32)), (.ref pf)])) τ
    exact κ)
  obtain ⟨as4, T4, h4, kn4, bs4, kc4, X4, e4, E4, hS, hk, hZ, hown, Ea4, Ca4, Va4, Ba4, la4, lb4, HRn4, Li4, sf4, st4⟩ := ldcCH X3 hx hZ hown (hw _ (List.mem_of_getElem? (i := 62) rfl)) wS e3 hS hk hEL (List.mem_of_getElem? (i := 0) rfl) H (vs := []) (z := (0 : Int32)) ⟨by decide, rfl⟩ (by decide) rfl (g := (mkF m 13 #[.val (.ref o)] [(.int (0 : Int32)), (.ref pf)])) rfl (hb hby d8_13) (n := 0) (by decide) (by decide) (by decide) (by decide)
  have E_o : Exa Z h4 o "coppice/marshal/context/NamespaceScope" := E_o.ext E4
  have F_un : Fld Z h4 o "coppice/marshal/context/NamespaceScope" "undoNamespaces" "[I" (.ref un) := F_un.ext E4
  have F_up : Fld Z h4 o "coppice/marshal/context/NamespaceScope" "undoPrefixes" "[Ljava/lang/String;" (.ref up) := F_up.ext E4
  have F_pf : Fld Z h4 o "coppice/marshal/context/NamespaceScope" "prefixes" "[Ljava/lang/String;" (.ref pf) := F_pf.ext E4
  have F_uc : Fld Z h4 o "coppice/marshal/context/NamespaceScope" "undoCount" "I" u4 := F_uc.ext E4
  have V_arr_2 : Arv Z h4 pf kf (.object "java/lang/String") nz (List.replicate nz.toNatClampNeg .null) .null := V_arr_2.ext E4
  have L_pf : own_SL Z h4 (List.replicate nz.toNatClampNeg .null) (List.replicate nz.toNatClampNeg (none : own_T)) := own_SL_ext L_pf E4
  have Zn : n0 ≤ h4.size := Nat.le_trans Zn E4.1
  have K : Keep h0 h4 [o, pf] := K.ext E4
  have HR := HR.trans HRn4
  have H := HR.1
  have F_s4 : own_S Z h4 (.ref as4) (some []) := Or.inr ⟨_, _, _, _, _, _, rfl, rfl, (hw _ (List.mem_of_getElem? (i := 10) rfl)), Ea4, Ca4, Va4, Ba4, rfl⟩
  have pre : ∀ τ, Steps p.tables e below (T4.setTop (mkF m 15 #[.val (.ref o)] [(.ref as4), (.int (0 : Int32)), (.ref pf)])) τ → G τ := fun τ κ => pre τ (st4 τ κ)
  obtain ⟨c5, Ar5, q5, S5, Nz5, Hh5, Gg5⟩ := id V_arr_2
  have hin5 : ¬ ((0 : Int32) < 0 ∨ c5.slots.size ≤ ((0 : Int32)).toNatClampNeg) := inb_of S5 (own_b01 hnz).1
  obtain ⟨T5, h5, X5, e5, W5, st5⟩ := stR X4 hx hZ e4 Ar5 (j := (0 : Int32)) hin5 rfl (own_S_sto F_s4 Ar5 q5 O_pf) (g := (mkF m 15 #[.val (.ref o)] [(.ref as4), (.int (0 : Int32)), (.ref pf)])) rfl rfl (hb hby d8_15)
  have V_arr_2 : Arv Z h5 pf kf (.object "java/lang/String") nz ((List.replicate nz.toNatClampNeg .null).set ((0 : Int32)).toNatClampNeg (.ref as4)) .null := Arv.set Ar5 q5 S5 Nz5 Hh5 Gg5 (own_S_fit F_s4) W5 _ rfl (own_lt2 (own_b01 hnz).1 (by rw [List.length_replicate]))
  have Ns := (Or.inr ⟨_, _, Ar5, by decide⟩ : own_ns Z h4 pf)
  have hk := Nat.le_trans hk (Keep.of_wr W5).1
  have HR := HR.trans (CHr.wr W5 (own_safe hZ.alike Ns) H)
  have H := HR.1
  have E_o : Exa Z h5 o "coppice/marshal/context/NamespaceScope" := E_o.wr W5
  have F_un : Fld Z h5 o "coppice/marshal/context/NamespaceScope" "undoNamespaces" "[I" (.ref un) := F_un.other W5 (Or.inl ne_o__pf)
  have F_up : Fld Z h5 o "coppice/marshal/context/NamespaceScope" "undoPrefixes" "[Ljava/lang/String;" (.ref up) := F_up.other W5 (Or.inl ne_o__pf)
  have F_pf : Fld Z h5 o "coppice/marshal/context/NamespaceScope" "prefixes" "[Ljava/lang/String;" (.ref pf) := F_pf.other W5 (Or.inl ne_o__pf)
  have F_uc : Fld Z h5 o "coppice/marshal/context/NamespaceScope" "undoCount" "I" u4 := F_uc.other W5 (Or.inl ne_o__pf)
  have L_pf : own_SL Z h5 (List.replicate nz.toNatClampNeg .null) (List.replicate nz.toNatClampNeg (none : own_T)) := own_SL_wr L_pf W5 Ns
  have F_s4 : own_S Z h5 (.ref as4) (some []) := own_S_wr F_s4 W5 Ns
  have Zn : n0 ≤ h5.size := Nat.le_trans Zn (Keep.of_wr W5).1
  have K : Keep h0 h5 [o, pf] := K.wr W5 (Or.inl (List.mem_of_getElem? (i := 1) rfl))
  have NN := Fr.snoc X5 NN g_pf
  have pre : ∀ τ, Steps p.tables e below (T5.setTop (mkF m 16 #[.val (.ref o)] [])) τ → G τ := fun τ κ => pre τ (st5 τ κ)
  have L_pf : own_SL Z h5 ((List.replicate nz.toNatClampNeg .null).set ((0 : Int32)).toNatClampNeg (.ref as4)) ((List.replicate nz.toNatClampNeg (none : own_T)).set ((0 : Int32)).toNatClampNeg (some [])) := own_SL_set L_pf F_s4 _
  have pre : ∀ τ, Steps p.tables e below (T5.setTop (mkF m 17 #[.val (.ref o)] [(.ref o)])) τ → G τ := fun τ κ => pre τ (by
    refine XS.aloadN X5.here hx rfl (hb hby d8_16) rfl rfl ?_
    show Steps p.tables e below (T5.setTop (mkF m 17 #[.val (.ref o)] [(.ref o)])) τ
    exact κ)
  obtain ⟨T6, X6, e6, st6⟩ := getF X5 hx hZ hown (host := "") (Or.inl (hw _ (List.mem_of_getElem? (i := 51) rfl))) Via.refl e5 F_pf (g := (mkF m 17 #[.val (.ref o)] [(.ref o)])) rfl rfl (hb hby d8_17)
  have pre : ∀ τ, Steps p.tables e below (T6.setTop (mkF m 20 #[.val (.ref o)] [(.ref pf)])) τ → G τ := fun τ κ => pre τ (st6 τ κ)
  have pre : ∀ τ, Steps p.tables e below (T6.setTop (mkF m 21 #[.val (.ref o)] [(.int (1 : Int32)), (.ref pf)])) τ → G τ := fun τ κ => pre τ (by
    refine XS.iconst X6.here hx rfl (hb hby d8_20) ?_
    show Steps p.tables e below (T6.setTop (mkF m 21 #[.val (.ref o)] [(.int (1 : Int32)), (.ref pf)])) τ
    exact κ)
  obtain ⟨as7, T7, h7, kn7, bs7, kc7, X7, e7, E7, hS, hk, hZ, hown, Ea7, Ca7, Va7, Ba7, la7, lb7, HRn7, Li7, sf7, st7⟩ := ldcCH X6 hx hZ hown (hw _ (List.mem_of_getElem? (i := 63) rfl)) wS e6 hS hk hEL (List.mem_of_getElem? (i := 1) rfl) H (vs := [(.int (120 : Int32)), (.int (109 : Int32)), (.int (108 : Int32))]) (z := (3 : Int32)) ⟨by decide, rfl⟩ (by decide) rfl (g := (mkF m 21 #[.val (.ref o)] [(.int (1 : Int32)), (.ref pf)])) rfl (hb hby d8_21) (n := 12) (by decide) (by decide) (by decide) (by decide)
  have E_o : Exa Z h7 o "coppice/marshal/context/NamespaceScope" := E_o.ext E7
  have F_un : Fld Z h7 o "coppice/marshal/context/NamespaceScope" "undoNamespaces" "[I" (.ref un) := F_un.ext E7
  have F_up : Fld Z h7 o "coppice/marshal/context/NamespaceScope" "undoPrefixes" "[Ljava/lang/String;" (.ref up) := F_up.ext E7
  have F_pf : Fld Z h7 o "coppice/marshal/context/NamespaceScope" "prefixes" "[Ljava/lang/String;" (.ref pf) := F_pf.ext E7
  have F_uc : Fld Z h7 o "coppice/marshal/context/NamespaceScope" "undoCount" "I" u4 := F_uc.ext E7
  have V_arr_2 : Arv Z h7 pf kf (.object "java/lang/String") nz ((List.replicate nz.toNatClampNeg .null).set ((0 : Int32)).toNatClampNeg (.ref as4)) .null := V_arr_2.ext E7
  have L_pf : own_SL Z h7 ((List.replicate nz.toNatClampNeg .null).set ((0 : Int32)).toNatClampNeg (.ref as4)) ((List.replicate nz.toNatClampNeg (none : own_T)).set ((0 : Int32)).toNatClampNeg (some [])) := own_SL_ext L_pf E7
  have F_s4 : own_S Z h7 (.ref as4) (some []) := own_S_ext F_s4 E7
  have Zn : n0 ≤ h7.size := Nat.le_trans Zn E7.1
  have K : Keep h0 h7 [o, pf] := K.ext E7
  have HR := HR.trans HRn7
  have H := HR.1
  have F_s7 : own_S Z h7 (.ref as7) (some [(.int (120 : Int32)), (.int (109 : Int32)), (.int (108 : Int32))]) := Or.inr ⟨_, _, _, _, _, _, rfl, rfl, (hw _ (List.mem_of_getElem? (i := 10) rfl)), Ea7, Ca7, Va7, Ba7, rfl⟩
  have pre : ∀ τ, Steps p.tables e below (T7.setTop (mkF m 23 #[.val (.ref o)] [(.ref as7), (.int (1 : Int32)), (.ref pf)])) τ → G τ := fun τ κ => pre τ (st7 τ κ)
  obtain ⟨c8, Ar8, q8, S8, Nz8, Hh8, Gg8⟩ := id V_arr_2
  have hin8 : ¬ ((1 : Int32) < 0 ∨ c8.slots.size ≤ ((1 : Int32)).toNatClampNeg) := inb_of S8 (own_b01 hnz).2
  obtain ⟨T8, h8, X8, e8, W8, st8⟩ := stR X7 hx hZ e7 Ar8 (j := (1 : Int32)) hin8 rfl (own_S_sto F_s7 Ar8 q8 O_pf) (g := (mkF m 23 #[.val (.ref o)] [(.ref as7), (.int (1 : Int32)), (.ref pf)])) rfl rfl (hb hby d8_23)
  have V_arr_2 : Arv Z h8 pf kf (.object "java/lang/String") nz (((List.replicate nz.toNatClampNeg .null).set ((0 : Int32)).toNatClampNeg (.ref as4)).set ((1 : Int32)).toNatClampNeg (.ref as7)) .null := Arv.set Ar8 q8 S8 Nz8 Hh8 Gg8 (own_S_fit F_s7) W8 _ rfl (own_lt2 (own_b01 hnz).2 (by rw [List.length_set, List.length_replicate]))
  have Ns := (Or.inr ⟨_, _, Ar8, by decide⟩ : own_ns Z h7 pf)
  have hk := Nat.le_trans hk (Keep.of_wr W8).1
  have HR := HR.trans (CHr.wr W8 (own_safe hZ.alike Ns) H)
  have H := HR.1
  have E_o : Exa Z h8 o "coppice/marshal/context/NamespaceScope" := E_o.wr W8
  have F_un : Fld Z h8 o "coppice/marshal/context/NamespaceScope" "undoNamespaces" "[I" (.ref un) := F_un.other W8 (Or.inl ne_o__pf)
  have F_up : Fld Z h8 o "coppice/marshal/context/NamespaceScope" "undoPrefixes" "[Ljava/lang/String;" (.ref up) := F_up.other W8 (Or.inl ne_o__pf)
  have F_pf : Fld Z h8 o "coppice/marshal/context/NamespaceScope" "prefixes" "[Ljava/lang/String;" (.ref pf) := F_pf.other W8 (Or.inl ne_o__pf)
  have F_uc : Fld Z h8 o "coppice/marshal/context/NamespaceScope" "undoCount" "I" u4 := F_uc.other W8 (Or.inl ne_o__pf)
  have L_pf : own_SL Z h8 ((List.replicate nz.toNatClampNeg .null).set ((0 : Int32)).toNatClampNeg (.ref as4)) ((List.replicate nz.toNatClampNeg (none : own_T)).set ((0 : Int32)).toNatClampNeg (some [])) := own_SL_wr L_pf W8 Ns
  have F_s4 : own_S Z h8 (.ref as4) (some []) := own_S_wr F_s4 W8 Ns
  have F_s7 : own_S Z h8 (.ref as7) (some [(.int (120 : Int32)), (.int (109 : Int32)), (.int (108 : Int32))]) := own_S_wr F_s7 W8 Ns
  have Zn : n0 ≤ h8.size := Nat.le_trans Zn (Keep.of_wr W8).1
  have K : Keep h0 h8 [o, pf] := K.wr W8 (Or.inl (List.mem_of_getElem? (i := 1) rfl))
  have NN := Fr.snoc X8 NN g_pf
  have pre : ∀ τ, Steps p.tables e below (T8.setTop (mkF m 24 #[.val (.ref o)] [])) τ → G τ := fun τ κ => pre τ (st8 τ κ)
  have L_pf : own_SL Z h8 (((List.replicate nz.toNatClampNeg .null).set ((0 : Int32)).toNatClampNeg (.ref as4)).set ((1 : Int32)).toNatClampNeg (.ref as7)) (((List.replicate nz.toNatClampNeg (none : own_T)).set ((0 : Int32)).toNatClampNeg (some [])).set ((1 : Int32)).toNatClampNeg (some [(.int (120 : Int32)), (.int (109 : Int32)), (.int (108 : Int32))])) := own_SL_set L_pf F_s7 _
  have pre : ∀ τ, Steps p.tables e below (T8.setTop (mkF m 26 #[.val (.ref o)] [(.int (0 : Int32)), (.ref o)])) τ → G τ := fun τ κ => pre τ (by
    refine XS.aloadN X8.here hx rfl (hb hby d8_24) rfl rfl ?_
    show Steps p.tables e below (T8.setTop (mkF m 25 #[.val (.ref o)] [(.ref o)])) τ
    refine XS.iconst X8.here hx rfl (hb hby d8_25) ?_
    show Steps p.tables e below (T8.setTop (mkF m 26 #[.val (.ref o)] [(.int (0 : Int32)), (.ref o)])) τ
    exact κ)
  obtain ⟨T9, h9, X9, e9, W9, st9⟩ := putF X8 hx hZ hown (host := "") (Or.inl (hw _ (List.mem_of_getElem? (i := 64) rfl))) Via.refl e8 F_uc E_o (Or.inl (hw _ (List.mem_of_getElem? (i := 65) rfl))) (hw _ (List.mem_of_getElem? (i := 37) rfl)) (ty := .int) (by decide) rfl rfl (g := (mkF m 26 #[.val (.ref o)] [(.int (0 : Int32)), (.ref o)])) rfl rfl (hb hby d8_26)
  have F_uc : Fld Z h9 o "coppice/marshal/context/NamespaceScope" "undoCount" "I" (.int (0 : Int32)) := F_uc.same W9
  have Ns := (own_nsE E_o (hw _ (List.mem_of_getElem? (i := 37) rfl)) (by decide) (by decide))
  have hk := Nat.le_trans hk (Keep.of_wr W9).1
  have HR := HR.trans (CHr.wr W9 (own_safe hZ.alike Ns) H)
  have H := HR.1
  have E_o : Exa Z h9 o "coppice/marshal/context/NamespaceScope" := E_o.wr W9
  have F_un : Fld Z h9 o "coppice/marshal/context/NamespaceScope" "undoNamespaces" "[I" (.ref un) := F_un.other W9 (Or.inr (slot_ne (Or.inl (hw _ (List.mem_of_getElem? (i := 47) rfl))) (Or.inl (hw _ (List.mem_of_getElem? (i := 65) rfl))) (by decide) (t := (.array .int)) (t' := .int) (by decide) (by decide)))
  have F_up : Fld Z h9 o "coppice/marshal/context/NamespaceScope" "undoPrefixes" "[Ljava/lang/String;" (.ref up) := F_up.other W9 (Or.inr (slot_ne (Or.inl (hw _ (List.mem_of_getElem? (i := 50) rfl))) (Or.inl (hw _ (List.mem_of_getElem? (i := 65) rfl))) (by decide) (t := (.array (.object "java/lang/String"))) (t' := .int) (by decide) (by decide)))
  have F_pf : Fld Z h9 o "coppice/marshal/context/NamespaceScope" "prefixes" "[Ljava/lang/String;" (.ref pf) := F_pf.other W9 (Or.inr (slot_ne (Or.inr (hw _ (List.mem_of_getElem? (i := 52) rfl))) (Or.inl (hw _ (List.mem_of_getElem? (i := 65) rfl))) (by decide) (t := (.array (.object "java/lang/String"))) (t' := .int) (by decide) (by decide)))
  have V_arr_2 : Arv Z h9 pf kf (.object "java/lang/String") nz (((List.replicate nz.toNatClampNeg .null).set ((0 : Int32)).toNatClampNeg (.ref as4)).set ((1 : Int32)).toNatClampNeg (.ref as7)) .null := V_arr_2.other W9 (Ne.symm ne_o__pf)
  have L_pf : own_SL Z h9 (((List.replicate nz.toNatClampNeg .null).set ((0 : Int32)).toNatClampNeg (.ref as4)).set ((1 : Int32)).toNatClampNeg (.ref as7)) (((List.replicate nz.toNatClampNeg (none : own_T)).set ((0 : Int32)).toNatClampNeg (some [])).set ((1 : Int32)).toNatClampNeg (some [(.int (120 : Int32)), (.int (109 : Int32)), (.int (108 : Int32))])) := own_SL_wr L_pf W9 Ns
  have F_s4 : own_S Z h9 (.ref as4) (some []) := own_S_wr F_s4 W9 Ns
  have F_s7 : own_S Z h9 (.ref as7) (some [(.int (120 : Int32)), (.int (109 : Int32)), (.int (108 : Int32))]) := own_S_wr F_s7 W9 Ns
  have Zn : n0 ≤ h9.size := Nat.le_trans Zn (Keep.of_wr W9).1
  have K : Keep h0 h9 [o, pf] := K.wr W9 (Or.inl (List.mem_of_getElem? (i := 0) rfl))
  have NN := Fr.snoc X9 NN g_o
  have pre : ∀ τ, Steps p.tables e below (T9.setTop (mkF m 29 #[.val (.ref o)] [])) τ → G τ := fun τ κ => pre τ (st9 τ κ)
  have hkT := Nat.le_trans hk (Nat.le_of_eq (congrArg Array.size (Eq.symm e9)))
  obtain ⟨fsα, hr, hrun, hended, hRE⟩ := X9.leaveW hS hkT (v := none) (fun _ => rfl)
  refine hGL ⟨_, _, hG _ (pre _ ?_), hrun, hended, _, _, rfl, ?_, ?_, ⟨_, rfl⟩, hRE.2.1, hRE.2.2.1, hRE.2.2.2.mono (by decide) (by decide)⟩
  · exact X9.returnOut hx Bd.returns (hb hby d8_29) hr
  · show Q8 Z o un up pf kf nz pfs u4 h0 n0 _ T9.heap _
    rw [e9]
    exact ⟨_, rfl, NN, K, E_o, F_un, F_up, F_pf, F_uc, V_arr_2, L_pf, by rw [List.length_set, List.length_set, List.length_replicate]⟩
  · show CHr Z own_EL s.vm s.heap T9.vm T9.heap
    rw [hh, e9]
    exact HR.trans (CHv.at X9 hZ hEL H)
theorem d6_0 : decode prog_2_method_1_code 0 = .ok (.aload_n 0, 1) := by decide +kernel
theorem d6_1 : decode prog_2_method_1_code 1 = .ok (.invokespecial 1, 3) := by decide +kernel
theorem d6_4 : decode prog_2_method_1_code 4 = .ok (.aload_n 0, 1) := by decide +kernel
theorem d6_5 : decode prog_2_method_1_code 5 = .ok (.bipush 16, 2) := by decide +kernel
theorem d6_7 : decode prog_2_method_1_code 7 = .ok (.newarray .int, 2) := by decide +kernel
theorem d6_9 : decode prog_2_method_1_code 9 = .ok (.putfield 7, 3) := by decide +kernel
theorem d6_12 : decode prog_2_method_1_code 12 = .ok (.aload_n 0, 1) := by decide +kernel
theorem d6_13 : decode prog_2_method_1_code 13 = .ok (.bipush 16, 2) := by decide +kernel
theorem d6_15 : decode prog_2_method_1_code 15 = .ok (.anewarray 13, 3) := by decide +kernel
theorem d6_18 : decode prog_2_method_1_code 18 = .ok (.putfield 15, 3) := by decide +kernel
theorem d6_21 : decode prog_2_method_1_code 21 = .ok (.aload_n 0, 1) := by decide +kernel
theorem d6_22 : decode prog_2_method_1_code 22 = .ok (.iload_n 1, 1) := by decide +kernel
theorem d6_23 : decode prog_2_method_1_code 23 = .ok (.anewarray 13, 3) := by decide +kernel
theorem d6_26 : decode prog_2_method_1_code 26 = .ok (.putfield 19, 3) := by decide +kernel
theorem d6_29 : decode prog_2_method_1_code 29 = .ok (.aload_n 0, 1) := by decide +kernel
theorem d6_30 : decode prog_2_method_1_code 30 = .ok (.invokevirtual 22, 3) := by decide +kernel
theorem pd_4 : parseMethodDescriptor "()V" = some ⟨[], none⟩ := by decide +kernel
theorem d6_33 : decode prog_2_method_1_code 33 = .ok (.return_, 1) := by decide +kernel
theorem ef_6 (m : MethodId) (x0 : Addr) (x1 : Int32) : entryFrame m #[(.ref x0), (.int x1)] 2 = mkF m 0 #[.val (.ref x0), .val (.int x1)] [] := by first | (simp [entryFrame, mkF, argsToLocals, Value.category]; done) | rfl
def Q6 (Z : State) (o : Addr) (nz : Int32) (u1 : Value) (u2 : Value) (u3 : Value) (u4 : Value) (h0 : Heap) (n0 : Nat) (vα : Option Value) (hα : Heap) (Lα : List Loc) : Prop := ∃ (un : Addr) (up : Addr) (pf : Addr) (ku : ClassId) (kp : ClassId) (kf : ClassId) (pfz : List Value), vα = none ∧ Fr n0 Lα ∧ Keep h0 hα [o] ∧ n0 ≤ un ∧ h0.size ≤ un ∧ n0 ≤ up ∧ h0.size ≤ up ∧ n0 ≤ pf ∧ h0.size ≤ pf ∧ un ≠ up ∧ un ≠ pf ∧ up ≠ pf ∧ Ovr Z kp "java/lang/String" ∧ Ovr Z kf "java/lang/String" ∧ Exa Z hα o "coppice/marshal/context/NamespaceScope" ∧ Fld Z hα o "coppice/marshal/context/NamespaceScope" "undoNamespaces" "[I" (.ref un) ∧ Fld Z hα o "coppice/marshal/context/NamespaceScope" "undoPrefixes" "[Ljava/lang/String;" (.ref up) ∧ Fld Z hα o "coppice/marshal/context/NamespaceScope" "prefixes" "[Ljava/lang/String;" (.ref pf) ∧ Fld Z hα o "coppice/marshal/context/NamespaceScope" "undoCount" "I" (.int (0 : Int32)) ∧ Arv Z hα un ku .int (16 : Int32) (List.replicate 16 (.int (0 : Int32))) (.int (0 : Int32)) ∧ Arv Z hα up kp (.object "java/lang/String") (16 : Int32) (List.replicate 16 .null) .null ∧ Arv Z hα pf kf (.object "java/lang/String") nz pfz .null ∧ own_SL Z hα (List.replicate 16 .null) (List.replicate 16 (none : own_T)) ∧ own_SL Z hα pfz (own_r0 nz) ∧ pfz.length = nz.toNatClampNeg
set_option maxRecDepth 65536 in
set_option maxHeartbeats 40000000 in
theorem rm6 (l : Launch) (Z : State) (a0 : Array Value) (hw : ∀ d ∈ tables_1, d.before a0 Z = true) (hEL : EW Z a0 own_EL) (wS : ∀ a ∈ Bundle.stringAtoms, a.before a0 Z = true) (ws : List Jvm.Cond) (o : Addr) (nz : Int32) (u1 : Value) (u2 : Value) (u3 : Value) (u4 : Value) (h0 : Heap) (n0 : Nat) (Z0 : n0 ≤ h0.size) (g_o : n0 ≤ o) (E_o : Exa Z h0 o "coppice/marshal/context/NamespaceScope") (F_un : Fld Z h0 o "coppice/marshal/context/NamespaceScope" "undoNamespaces" "[I" u1) (F_up : Fld Z h0 o "coppice/marshal/context/NamespaceScope" "undoPrefixes" "[Ljava/lang/String;" u2) (F_pf : Fld Z h0 o "coppice/marshal/context/NamespaceScope" "prefixes" "[Ljava/lang/String;" u3) (F_uc : Fld Z h0 o "coppice/marshal/context/NamespaceScope" "undoCount" "I" u4) (hnz : 2 ≤ nz.toInt) (hcap : nz.toNatClampNeg ≤ 3) :
    MetFree l (⟨"coppice/marshal/context/NamespaceScope", "<init>", "(I)V"⟩ : MethodName) (head1 (Jvm.Cond.code (⟨"coppice/marshal/context/NamespaceScope", "<init>", "(I)V"⟩ : MethodName) prog_2_method_1_code 2 none :: ws) ({ frames := 2, cells := 7, slots := 55, locals := 27 } : Room)) (fun aα U => aα = #[(.ref o), (.int nz)] ∧ Z.Warmed39 U.vm ∧ U.heap = h0 ∧ CHv Z own_EL U.vm h0) (fun _ _ _ _ _ => True) (fun _ U oα U' => ∃ vα Lα, oα = .returned vα ∧ Q6 Z o nz u1 u2 u3 u4 h0 n0 vα U'.heap Lα ∧ CHr Z own_EL U.vm U.heap U'.vm U'.heap ∧ ReturnedEndW U oα U' Lα ({ frames := 2, cells := 7, slots := 55, locals := 27 } : Room).cells ({ frames := 2, cells := 7, slots := 55, locals := 27 } : Room).slots) := by
  refine MetFree.of_bodySF (plainFor_of_name pn_3) hisR ?_
  intro p e s m args below meth c s₁ Bd hml0 hP hK
  refine own_wrap ?_
  intro GL hGL
  obtain ⟨rfl, hZ, hh, hCH⟩ := hP
  have hx := Bd.exec
  have hby := Bd.bytes
  have hml : c.maxLocals = 2 := hml0
  have hown : s.vm.findClass "coppice/marshal/context/NamespaceScope" = some m.cls := findClass_of_methodNamed Bd.named
  have hnm := (name_of_methodNamed Bd.named Bd.method).1
  have X0 : Stand p l e ({ frames := 2, cells := 7, slots := 55, locals := 27 } : Room) (s.setVm s.vm) m #[(.ref o), (.int nz)] below meth c s₁ [] 0 0 := Stand.of_body Bd
  have e0 : s₁.heap = h0 := by rw [← hh, Bd.state]; rfl
  have N0 := Fr.nil n0
  have pre0 : ∀ τ, Steps p.tables e below (s₁.setTop (mkF m 0 #[.val (.ref o), .val (.int nz)] [])) τ → Steps p.tables e below (s₁.setTop (entryFrame m #[(.ref o), (.int nz)] 2)) τ := fun τ κ => castTop (ef_6 m o nz) κ
  obtain ⟨G, hG, pre⟩ : ∃ G : State → Prop, (∀ τ, G τ → Steps p.tables e below (s₁.setTop (entryFrame m #[(.ref o), (.int nz)] 2)) τ) ∧ ∀ τ, Steps p.tables e below (s₁.setTop (mkF m 0 #[.val (.ref o), .val (.int nz)] [])) τ → G τ := ⟨_, pre0, fun _ k => k⟩
  have K : Keep h0 h0 [o] := Keep.refl h0 _
  have Zn := Z0
  have hS : s.Since s.vm h0.size := (State.WarmedH.refl s).since _
  have hk : h0.size ≤ h0.size := Nat.le_refl _
  have H : CHv Z own_EL s.vm h0 := hCH
  have HR : CHr Z own_EL s.vm h0 s.vm h0 := CHr.refl H
  have pre : ∀ τ, Steps p.tables e below (s₁.setTop (mkF m 1 #[.val (.ref o), .val (.int nz)] [(.ref o)])) τ → G τ := fun τ κ => pre τ (by
    refine XS.aloadN X0.here hx rfl (hb hby d6_0) rfl rfl ?_
    show Steps p.tables e below (s₁.setTop (mkF m 1 #[.val (.ref o), .val (.int nz)] [(.ref o)])) τ
    exact κ)
  obtain ⟨T1, X1, e1, st1⟩ := initO X0 hx hZ hown (hw _ (List.mem_of_getElem? (i := 42) rfl)) (hw _ (List.mem_of_getElem? (i := 43) rfl)) (hw _ (List.mem_of_getElem? (i := 44) rfl)) e0 (g := (mkF m 1 #[.val (.ref o), .val (.int nz)] [(.ref o)])) rfl (by rw [hml]; rfl) rfl (hb hby d6_1) (by decide) (W := 0) (by show 2 * 0 + _ ≤ _; exact Nat.le_of_eq rfl) (by decide)
  have pre : ∀ τ, Steps p.tables e below (T1.setTop (mkF m 4 #[.val (.ref o), .val (.int nz)] [])) τ → G τ := fun τ κ => pre τ (st1 τ κ)
  have pre : ∀ τ, Steps p.tables e below (T1.setTop (mkF m 7 #[.val (.ref o), .val (.int nz)] [(.int (16 : Int32)), (.ref o)])) τ → G τ := fun τ κ => pre τ (by
    refine XS.aloadN X1.here hx rfl (hb hby d6_4) rfl rfl ?_
    show Steps p.tables e below (T1.setTop (mkF m 5 #[.val (.ref o), .val (.int nz)] [(.ref o)])) τ
    refine XS.bipush X1.here hx rfl (hb hby d6_5) ?_
    show Steps p.tables e below (T1.setTop (mkF m 7 #[.val (.ref o), .val (.int nz)] [(.int (16 : Int32)), (.ref o)])) τ
    exact κ)
  obtain ⟨T2, h2, k2, X2, e2, E2, A2, st2⟩ := newP X1 hx hZ (hw _ (List.mem_of_getElem? (i := 45) rfl)) e1 (g := (mkF m 7 #[.val (.ref o), .val (.int nz)] [(.int (16 : Int32)), (.ref o)])) rfl (hb hby d6_7) rfl (by decide) (cap := 16) (by decide) (by decide) (by decide) (by decide)
  obtain ⟨b2, gg2⟩ : ∃ z, z = h0.size := ⟨_, rfl⟩
  rw [← gg2] at A2 st2
  have ne_o_b2 : o ≠ b2 := Nat.ne_of_lt (Nat.lt_of_lt_of_le E_o.lt (Nat.le_of_eq gg2.symm))
  have g_b2 : n0 ≤ b2 := Nat.le_trans Zn (Nat.le_of_eq gg2.symm)
  have sz_b2 : h0.size ≤ b2 := Nat.le_trans K.1 (Nat.le_of_eq gg2.symm)
  have hk := Nat.le_trans hk E2.1
  have HR := HR.trans (CHr.ext E2 H)
  have H := HR.1
  have E_o : Exa Z h2 o "coppice/marshal/context/NamespaceScope" := E_o.ext E2
  have F_un : Fld Z h2 o "coppice/marshal/context/NamespaceScope" "undoNamespaces" "[I" u1 := F_un.ext E2
  have F_up : Fld Z h2 o "coppice/marshal/context/NamespaceScope" "undoPrefixes" "[Ljava/lang/String;" u2 := F_up.ext E2
  have F_pf : Fld Z h2 o "coppice/marshal/context/NamespaceScope" "prefixes" "[Ljava/lang/String;" u3 := F_pf.ext E2
  have F_uc : Fld Z h2 o "coppice/marshal/context/NamespaceScope" "undoCount" "I" u4 := F_uc.ext E2
  have Zn : n0 ≤ h2.size := Nat.le_trans Zn E2.1
  have K : Keep h0 h2 [o] := K.ext E2
  have V_b2 : Arv Z h2 b2 k2 .int (16 : Int32) [(.int (0 : Int32)), (.int (0 : Int32)), (.int (0 : Int32)), (.int (0 : Int32)), (.int (0 : Int32)), (.int (0 : Int32)), (.int (0 : Int32)), (.int (0 : Int32)), (.int (0 : Int32)), (.int (0 : Int32)), (.int (0 : Int32)), (.int (0 : Int32)), (.int (0 : Int32)), (.int (0 : Int32)), (.int (0 : Int32)), (.int (0 : Int32))] (.int (0 : Int32)) := (Arv.new A2 (by decide)).pad (pad_rep [] (.int (0 : Int32)) 16)
  have pre : ∀ τ, Steps p.tables e below (T2.setTop (mkF m 9 #[.val (.ref o), .val (.int nz)] [(.ref b2), (.ref o)])) τ → G τ := fun τ κ => pre τ (st2 τ κ)
  obtain ⟨T3, h3, X3, e3, W3, st3⟩ := putF X2 hx hZ hown (host := "") (Or.inl (hw _ (List.mem_of_getElem? (i := 46) rfl))) Via.refl e2 F_un E_o (Or.inl (hw _ (List.mem_of_getElem? (i := 47) rfl))) (hw _ (List.mem_of_getElem? (i := 37) rfl)) (ty := (.array .int)) (by decide) rfl rfl (g := (mkF m 9 #[.val (.ref o), .val (.int nz)] [(.ref b2), (.ref o)])) rfl rfl (hb hby d6_9)
  have F_un : Fld Z h3 o "coppice/marshal/context/NamespaceScope" "undoNamespaces" "[I" (.ref b2) := F_un.same W3
  have Ns := (own_nsE E_o (hw _ (List.mem_of_getElem? (i := 37) rfl)) (by decide) (by decide))
  have hk := Nat.le_trans hk (Keep.of_wr W3).1
  have HR := HR.trans (CHr.wr W3 (own_safe hZ.alike Ns) H)
  have H := HR.1
  have E_o : Exa Z h3 o "coppice/marshal/context/NamespaceScope" := E_o.wr W3
  have F_up : Fld Z h3 o "coppice/marshal/context/NamespaceScope" "undoPrefixes" "[Ljava/lang/String;" u2 := F_up.other W3 (Or.inr (slot_ne (Or.inl (hw _ (List.mem_of_getElem? (i := 50) rfl))) (Or.inl (hw _ (List.mem_of_getElem? (i := 47) rfl))) (by decide) (t := (.array (.object "java/lang/String"))) (t' := (.array .int)) (by decide) (by decide)))
  have F_pf : Fld Z h3 o "coppice/marshal/context/NamespaceScope" "prefixes" "[Ljava/lang/String;" u3 := F_pf.other W3 (Or.inr (slot_ne (Or.inr (hw _ (List.mem_of_getElem? (i := 52) rfl))) (Or.inl (hw _ (List.mem_of_getElem? (i := 47) rfl))) (by decide) (t := (.array (.object "java/lang/String"))) (t' := (.array .int)) (by decide) (by decide)))
  have F_uc : Fld Z h3 o "coppice/marshal/context/NamespaceScope" "undoCount" "I" u4 := F_uc.other W3 (Or.inr (slot_ne (Or.inl (hw _ (List.mem_of_getElem? (i := 65) rfl))) (Or.inl (hw _ (List.mem_of_getElem? (i := 47) rfl))) (by decide) (t := .int) (t' := (.array .int)) (by decide) (by decide)))
  have V_b2 : Arv Z h3 b2 k2 .int (16 : Int32) [(.int (0 : Int32)), (.int (0 : Int32)), (.int (0 : Int32)), (.int (0 : Int32)), (.int (0 : Int32)), (.int (0 : Int32)), (.int (0 : Int32)), (.int (0 : Int32)), (.int (0 : Int32)), (.int (0 : Int32)), (.int (0 : Int32)), (.int (0 : Int32)), (.int (0 : Int32)), (.int (0 : Int32)), (.int (0 : Int32)), (.int (0 : Int32))] (.int (0 : Int32)) := V_b2.other W3 (Ne.symm ne_o_b2)
  have Zn : n0 ≤ h3.size := Nat.le_trans Zn (Keep.of_wr W3).1
  have K : Keep h0 h3 [o] := K.wr W3 (Or.inl (List.mem_of_getElem? (i := 0) rfl))
  have NN := Fr.snoc X3 N0 g_o
  have pre : ∀ τ, Steps p.tables e below (T3.setTop (mkF m 12 #[.val (.ref o), .val (.int nz)] [])) τ → G τ := fun τ κ => pre τ (st3 τ κ)
  have pre : ∀ τ, Steps p.tables e below (T3.setTop (mkF m 15 #[.val (.ref o), .val (.int nz)] [(.int (16 : Int32)), (.ref o)])) τ → G τ := fun τ κ => pre τ (by
    refine XS.aloadN X3.here hx rfl (hb hby d6_12) rfl rfl ?_
    show Steps p.tables e below (T3.setTop (mkF m 13 #[.val (.ref o), .val (.int nz)] [(.ref o)])) τ
    refine XS.bipush X3.here hx rfl (hb hby d6_13) ?_
    show Steps p.tables e below (T3.setTop (mkF m 15 #[.val (.ref o), .val (.int nz)] [(.int (16 : Int32)), (.ref o)])) τ
    exact κ)
  obtain ⟨T4, h4, k4, X4, e4, E4, A4, O4, st4⟩ := newR X3 hx hZ hown (hw _ (List.mem_of_getElem? (i := 48) rfl)) (hw _ (List.mem_of_getElem? (i := 17) rfl)) e3 (g := (mkF m 15 #[.val (.ref o), .val (.int nz)] [(.int (16 : Int32)), (.ref o)])) rfl (hb hby d6_15) rfl (by decide) (cap := 16) (by decide) (by decide) (by decide) (by decide)
  obtain ⟨b4, gg4⟩ : ∃ z, z = h3.size := ⟨_, rfl⟩
  rw [← gg4] at A4 st4
  have ne_o_b4 : o ≠ b4 := Nat.ne_of_lt (Nat.lt_of_lt_of_le E_o.lt (Nat.le_of_eq gg4.symm))
  have ne_b2_b4 : b2 ≠ b4 := Nat.ne_of_lt (Nat.lt_of_lt_of_le V_b2.lt (Nat.le_of_eq gg4.symm))
  have g_b4 : n0 ≤ b4 := Nat.le_trans Zn (Nat.le_of_eq gg4.symm)
  have sz_b4 : h0.size ≤ b4 := Nat.le_trans K.1 (Nat.le_of_eq gg4.symm)
  have hk := Nat.le_trans hk E4.1
  have HR := HR.trans (CHr.ext E4 H)
  have H := HR.1
  have E_o : Exa Z h4 o "coppice/marshal/context/NamespaceScope" := E_o.ext E4
  have F_un : Fld Z h4 o "coppice/marshal/context/NamespaceScope" "undoNamespaces" "[I" (.ref b2) := F_un.ext E4
  have F_up : Fld Z h4 o "coppice/marshal/context/NamespaceScope" "undoPrefixes" "[Ljava/lang/String;" u2 := F_up.ext E4
  have F_pf : Fld Z h4 o "coppice/marshal/context/NamespaceScope" "prefixes" "[Ljava/lang/String;" u3 := F_pf.ext E4
  have F_uc : Fld Z h4 o "coppice/marshal/context/NamespaceScope" "undoCount" "I" u4 := F_uc.ext E4
  have V_b2 : Arv Z h4 b2 k2 .int (16 : Int32) [(.int (0 : Int32)), (.int (0 : Int32)), (.int (0 : Int32)), (.int (0 : Int32)), (.int (0 : Int32)), (.int (0 : Int32)), (.int (0 : Int32)), (.int (0 : Int32)), (.int (0 : Int32)), (.int (0 : Int32)), (.int (0 : Int32)), (.int (0 : Int32)), (.int (0 : Int32)), (.int (0 : Int32)), (.int (0 : Int32)), (.int (0 : Int32))] (.int (0 : Int32)) := V_b2.ext E4
  have Zn : n0 ≤ h4.size := Nat.le_trans Zn E4.1
  have K : Keep h0 h4 [o] := K.ext E4
  have V_b4 : Arv Z h4 b4 k4 (.object "java/lang/String") (16 : Int32) [.null, .null, .null, .null, .null, .null, .null, .null, .null, .null, .null, .null, .null, .null, .null, .null] .null := (Arv.new A4 (by decide)).pad (pad_rep [] .null 16)
  have pre : ∀ τ, Steps p.tables e below (T4.setTop (mkF m 18 #[.val (.ref o), .val (.int nz)] [(.ref b4), (.ref o)])) τ → G τ := fun τ κ => pre τ (st4 τ κ)
  obtain ⟨T5, h5, X5, e5, W5, st5⟩ := putF X4 hx hZ hown (host := "") (Or.inl (hw _ (List.mem_of_getElem? (i := 49) rfl))) Via.refl e4 F_up E_o (Or.inl (hw _ (List.mem_of_getElem? (i := 50) rfl))) (hw _ (List.mem_of_getElem? (i := 37) rfl)) (ty := (.array (.object "java/lang/String"))) (by decide) rfl rfl (g := (mkF m 18 #[.val (.ref o), .val (.int nz)] [(.ref b4), (.ref o)])) rfl rfl (hb hby d6_18)
  have F_up : Fld Z h5 o "coppice/marshal/context/NamespaceScope" "undoPrefixes" "[Ljava/lang/String;" (.ref b4) := F_up.same W5
  have Ns := (own_nsE E_o (hw _ (List.mem_of_getElem? (i := 37) rfl)) (by decide) (by decide))
  have hk := Nat.le_trans hk (Keep.of_wr W5).1
  have HR := HR.trans (CHr.wr W5 (own_safe hZ.alike Ns) H)
  have H := HR.1
  have E_o : Exa Z h5 o "coppice/marshal/context/NamespaceScope" := E_o.wr W5
  have F_un : Fld Z h5 o "coppice/marshal/context/NamespaceScope" "undoNamespaces" "[I" (.ref b2) := F_un.other W5 (Or.inr (slot_ne (Or.inl (hw _ (List.mem_of_getElem? (i := 47) rfl))) (Or.inl (hw _ (List.mem_of_getElem? (i := 50) rfl))) (by decide) (t := (.array .int)) (t' := (.array (.object "java/lang/String"))) (by decide) (by decide)))
  have F_pf : Fld Z h5 o "coppice/marshal/context/NamespaceScope" "prefixes" "[Ljava/lang/String;" u3 := F_pf.other W5 (Or.inr (slot_ne (Or.inr (hw _ (List.mem_of_getElem? (i := 52) rfl))) (Or.inl (hw _ (List.mem_of_getElem? (i := 50) rfl))) (by decide) (t := (.array (.object "java/lang/String"))) (t' := (.array (.object "java/lang/String"))) (by decide) (by decide)))
  have F_uc : Fld Z h5 o "coppice/marshal/context/NamespaceScope" "undoCount" "I" u4 := F_uc.other W5 (Or.inr (slot_ne (Or.inl (hw _ (List.mem_of_getElem? (i := 65) rfl))) (Or.inl (hw _ (List.mem_of_getElem? (i := 50) rfl))) (by decide) (t := .int) (t' := (.array (.object "java/lang/String"))) (by decide) (by decide)))
  have V_b2 : Arv Z h5 b2 k2 .int (16 : Int32) [(.int (0 : Int32)), (.int (0 : Int32)), (.int (0 : Int32)), (.int (0 : Int32)), (.int (0 : Int32)), (.int (0 : Int32)), (.int (0 : Int32)), (.int (0 : Int32)), (.int (0 : Int32)), (.int (0 : Int32)), (.int (0 : Int32)), (.int (0 : Int32)), (.int (0 : Int32)), (.int (0 : Int32)), (.int (0 : Int32)), (.int (0 : Int32))] (.int (0 : Int32)) := V_b2.other W5 (Ne.symm ne_o_b2)
  have V_b4 : Arv Z h5 b4 k4 (.object "java/lang/String") (16 : Int32) [.null, .null, .null, .null, .null, .null, .null, .null, .null, .null, .null, .null, .null, .null, .null, .null] .null := V_b4.other W5 (Ne.symm ne_o_b4)
  have Zn : n0 ≤ h5.size := Nat.le_trans Zn (Keep.of_wr W5).1
  have K : Keep h0 h5 [o] := K.wr W5 (Or.inl (List.mem_of_getElem? (i := 0) rfl))
  have NN := Fr.snoc X5 NN g_o
  have pre : ∀ τ, Steps p.tables e below (T5.setTop (mkF m 21 #[.val (.ref o), .val (.int nz)] [])) τ → G τ := fun τ κ => pre τ (st5 τ κ)
  have pre : ∀ τ, Steps p.tables e below (T5.setTop (mkF m 23 #[.val (.ref o), .val (.int nz)] [(.int nz), (.ref o)])) τ → G τ := fun τ κ => pre τ (by
    refine XS.aloadN X5.here hx rfl (hb hby d6_21) rfl rfl ?_
    show Steps p.tables e below (T5.setTop (mkF m 22 #[.val (.ref o), .val (.int nz)] [(.ref o)])) τ
    refine XS.iloadN X5.here hx rfl (hb hby d6_22) rfl ?_
    show Steps p.tables e below (T5.setTop (mkF m 23 #[.val (.ref o), .val (.int nz)] [(.int nz), (.ref o)])) τ
    exact κ)
  obtain ⟨T6, h6, k6, X6, e6, E6, A6, O6, st6⟩ := newR X5 hx hZ hown (hw _ (List.mem_of_getElem? (i := 48) rfl)) (hw _ (List.mem_of_getElem? (i := 17) rfl)) e5 (g := (mkF m 23 #[.val (.ref o), .val (.int nz)] [(.int nz), (.ref o)])) rfl (hb hby d6_23) rfl (own_ngz hnz) (cap := 3) hcap (by decide) (by decide) (by decide)
  obtain ⟨b6, gg6⟩ : ∃ z, z = h5.size := ⟨_, rfl⟩
  rw [← gg6] at A6 st6
  have ne_o_b6 : o ≠ b6 := Nat.ne_of_lt (Nat.lt_of_lt_of_le E_o.lt (Nat.le_of_eq gg6.symm))
  have ne_b2_b6 : b2 ≠ b6 := Nat.ne_of_lt (Nat.lt_of_lt_of_le V_b2.lt (Nat.le_of_eq gg6.symm))
  have ne_b4_b6 : b4 ≠ b6 := Nat.ne_of_lt (Nat.lt_of_lt_of_le V_b4.lt (Nat.le_of_eq gg6.symm))
  have g_b6 : n0 ≤ b6 := Nat.le_trans Zn (Nat.le_of_eq gg6.symm)
  have sz_b6 : h0.size ≤ b6 := Nat.le_trans K.1 (Nat.le_of_eq gg6.symm)
  have hk := Nat.le_trans hk E6.1
  have HR := HR.trans (CHr.ext E6 H)
  have H := HR.1
  have E_o : Exa Z h6 o "coppice/marshal/context/NamespaceScope" := E_o.ext E6
  have F_un : Fld Z h6 o "coppice/marshal/context/NamespaceScope" "undoNamespaces" "[I" (.ref b2) := F_un.ext E6
  have F_up : Fld Z h6 o "coppice/marshal/context/NamespaceScope" "undoPrefixes" "[Ljava/lang/String;" (.ref b4) := F_up.ext E6
  have F_pf : Fld Z h6 o "coppice/marshal/context/NamespaceScope" "prefixes" "[Ljava/lang/String;" u3 := F_pf.ext E6
  have F_uc : Fld Z h6 o "coppice/marshal/context/NamespaceScope" "undoCount" "I" u4 := F_uc.ext E6
  have V_b2 : Arv Z h6 b2 k2 .int (16 : Int32) [(.int (0 : Int32)), (.int (0 : Int32)), (.int (0 : Int32)), (.int (0 : Int32)), (.int (0 : Int32)), (.int (0 : Int32)), (.int (0 : Int32)), (.int (0 : Int32)), (.int (0 : Int32)), (.int (0 : Int32)), (.int (0 : Int32)), (.int (0 : Int32)), (.int (0 : Int32)), (.int (0 : Int32)), (.int (0 : Int32)), (.int (0 : Int32))] (.int (0 : Int32)) := V_b2.ext E6
  have V_b4 : Arv Z h6 b4 k4 (.object "java/lang/String") (16 : Int32) [.null, .null, .null, .null, .null, .null, .null, .null, .null, .null, .null, .null, .null, .null, .null, .null] .null := V_b4.ext E6
  have Zn : n0 ≤ h6.size := Nat.le_trans Zn E6.1
  have K : Keep h0 h6 [o] := K.ext E6
  have V_b6 : Arv Z h6 b6 k6 (.object "java/lang/String") nz [] .null := Arv.new A6 (own_ngz hnz)
  have pre : ∀ τ, Steps p.tables e below (T6.setTop (mkF m 26 #[.val (.ref o), .val (.int nz)] [(.ref b6), (.ref o)])) τ → G τ := fun τ κ => pre τ (st6 τ κ)
  obtain ⟨T7, h7, X7, e7, W7, st7⟩ := putF X6 hx hZ hown (host := "") (Or.inl (hw _ (List.mem_of_getElem? (i := 51) rfl))) Via.refl e6 F_pf E_o (Or.inr ⟨(hw _ (List.mem_of_getElem? (i := 52) rfl)), rfl, hnm⟩) (hw _ (List.mem_of_getElem? (i := 37) rfl)) (ty := (.array (.object "java/lang/String"))) (by decide) rfl rfl (g := (mkF m 26 #[.val (.ref o), .val (.int nz)] [(.ref b6), (.ref o)])) rfl rfl (hb hby d6_26)
  have F_pf : Fld Z h7 o "coppice/marshal/context/NamespaceScope" "prefixes" "[Ljava/lang/String;" (.ref b6) := F_pf.same W7
  have Ns := (own_nsE E_o (hw _ (List.mem_of_getElem? (i := 37) rfl)) (by decide) (by decide))
  have hk := Nat.le_trans hk (Keep.of_wr W7).1
  have HR := HR.trans (CHr.wr W7 (own_safe hZ.alike Ns) H)
  have H := HR.1
  have E_o : Exa Z h7 o "coppice/marshal/context/NamespaceScope" := E_o.wr W7
  have F_un : Fld Z h7 o "coppice/marshal/context/NamespaceScope" "undoNamespaces" "[I" (.ref b2) := F_un.other W7 (Or.inr (slot_ne (Or.inl (hw _ (List.mem_of_getElem? (i := 47) rfl))) (Or.inr (hw _ (List.mem_of_getElem? (i := 52) rfl))) (by decide) (t := (.array .int)) (t' := (.array (.object "java/lang/String"))) (by decide) (by decide)))
  have F_up : Fld Z h7 o "coppice/marshal/context/NamespaceScope" "undoPrefixes" "[Ljava/lang/String;" (.ref b4) := F_up.other W7 (Or.inr (slot_ne (Or.inl (hw _ (List.mem_of_getElem? (i := 50) rfl))) (Or.inr (hw _ (List.mem_of_getElem? (i := 52) rfl))) (by decide) (t := (.array (.object "java/lang/String"))) (t' := (.array (.object "java/lang/String"))) (by decide) (by decide)))
  have F_uc : Fld Z h7 o "coppice/marshal/context/NamespaceScope" "undoCount" "I" u4 := F_uc.other W7 (Or.inr (slot_ne (Or.inl (hw _ (List.mem_of_getElem? (i := 65) rfl))) (Or.inr (hw _ (List.mem_of_getElem? (i := 52) rfl))) (by decide) (t := .int) (t' := (.array (.object "java/lang/String"))) (by decide) (by decide)))
  have V_b2 : Arv Z h7 b2 k2 .int (16 : Int32) [(.int (0 : Int32)), (.int (0 : Int32)), (.int (0 : Int32)), (.int (0 : Int32)), (.int (0 : Int32)), (.int (0 : Int32)), (.int (0 : Int32)), (.int (0 : Int32)), (.int (0 : Int32)), (.int (0 : Int32)), (.int (0 : Int32)), (.int (0 : Int32)), (.int (0 : Int32)), (.int (0 : Int32)), (.int (0 : Int32)), (.int (0 : Int32))] (.int (0 : Int32)) := V_b2.other W7 (Ne.symm ne_o_b2)
  have V_b4 : Arv Z h7 b4 k4 (.object "java/lang/String") (16 : Int32) [.null, .null, .null, .null, .null, .null, .null, .null, .null, .null, .null, .null, .null, .null, .null, .null] .null := V_b4.other W7 (Ne.symm ne_o_b4)
  have V_b6 : Arv Z h7 b6 k6 (.object "java/lang/String") nz [] .null := V_b6.other W7 (Ne.symm ne_o_b6)
  have Zn : n0 ≤ h7.size := Nat.le_trans Zn (Keep.of_wr W7).1
  have K : Keep h0 h7 [o] := K.wr W7 (Or.inl (List.mem_of_getElem? (i := 0) rfl))
  have NN := Fr.snoc X7 NN g_o
  have pre : ∀ τ, Steps p.tables e below (T7.setTop (mkF m 29 #[.val (.ref o), .val (.int nz)] [])) τ → G τ := fun τ κ => pre τ (st7 τ κ)
  have pre : ∀ τ, Steps p.tables e below (T7.setTop (mkF m 30 #[.val (.ref o), .val (.int nz)] [(.ref o)])) τ → G τ := fun τ κ => pre τ (by
    refine XS.aloadN X7.here hx rfl (hb hby d6_29) rfl rfl ?_
    show Steps p.tables e below (T7.setTop (mkF m 30 #[.val (.ref o), .val (.int nz)] [(.ref o)])) τ
    exact κ)
  have V_b6 : Arv Z h7 b6 k6 (.object "java/lang/String") nz (List.replicate nz.toNatClampNeg .null) .null := own_zeroN V_b6
  obtain ⟨cq8, kq8, q8a, q8b, q8c⟩ := isOf hZ e7 E_o
  obtain ⟨_, _, ⟨T8, Lx8, kx8, nx8⟩, -, X8, hS2, hg2, ⟨Lc8, hQ8, l8, y8, z8, HRc⟩, st8⟩ := X7.virtualBackS hx (y := (⟨"coppice/marshal/context/NamespaceScope", "reset", "()V"⟩ : MethodName)) (z := (⟨"coppice/marshal/context/NamespaceScope", "reset", "()V"⟩ : MethodName)) hown (mvT hZ (hw _ (List.mem_of_getElem? (i := 53) rfl))) (mvT hZ (hw _ (List.mem_of_getElem? (i := 54) rfl))) (notFace_of_selects (args := #[]) (mvT hZ (hw _ (List.mem_of_getElem? (i := 56) rfl)))) (mvT hZ (hw _ (List.mem_of_getElem? (i := 56) rfl))) (mvT hZ (hw _ (List.mem_of_getElem? (i := 55) rfl))) (by decide) (backOfSH (W := 0) (rm8 l Z a0 hw hEL wS [] o b2 b4 b6 k6 nz (List.replicate nz.toNatClampNeg .null) u4 h7 n0 Zn g_o g_b6 E_o F_un F_up F_pf F_uc V_b6 O6 ne_o_b6 hnz List.length_replicate) hZ (hw _ (List.mem_of_getElem? (i := 57) rfl)) (hw _ (List.mem_of_getElem? (i := 38) rfl)) (by decide) (by decide) hEL H) q8a q8c (g := (mkF m 30 #[.val (.ref o), .val (.int nz)] [(.ref o)])) rfl (by rw [hml]; rfl) (Steps.refl _) (argsL := []) (rest := []) (lenOf pd_4 rfl) rfl (by show 2 * 0 + _ ≤ _; exact Nat.le_of_eq rfl) (hb hby d6_30) (fun _ _ => ⟨rfl, e7, (by decide : 3 + 4 ≤ _), (by decide : 35 + 20 ≤ _)⟩)
  dsimp only [Pt.U, Pt.locs, Pt.cells, Pt.slots] at hS2 hg2 HRc
  have hkT := Nat.le_trans hk (Nat.le_of_eq (congrArg Array.size (Eq.symm e7)))
  dsimp only [Pt.U, Pt.locs, Pt.cells, Pt.slots] at X8 l8 y8 z8 st8 hQ8
  replace y8 : kx8 = 7 := y8
  replace z8 : nx8 = 55 := z8
  subst y8 z8
  obtain ⟨pfz_8, rfl, Nq8, Kc8, E_o_8, F_un_8, F_up_8, F_pf_8, F_uc_8, V_pf_8, L_pf_8, hlz_8⟩ := hQ8
  have NN : Fr n0 Lx8 := by rw [l8]; exact Fr.app NN Nq8
  obtain ⟨X8, hS, hZ, hown⟩ := rebS hS hkT X8 hS2 hg2 hZ hown
  have hk := Nat.le_refl T8.heap.size
  have HR := HR.trans HRc
  have H := HR.1
  have Nss : ∀ x ∈ [o, b6], own_ns Z h7 x := (allS (own_nsE E_o (hw _ (List.mem_of_getElem? (i := 37) rfl)) (by decide) (by decide)) (allS (own_nsV V_b6 (by decide)) all0))
  have E_o : Exa Z T8.heap o "coppice/marshal/context/NamespaceScope" := E_o.keep Kc8
  have V_b2 : Arv Z T8.heap b2 k2 .int (16 : Int32) [(.int (0 : Int32)), (.int (0 : Int32)), (.int (0 : Int32)), (.int (0 : Int32)), (.int (0 : Int32)), (.int (0 : Int32)), (.int (0 : Int32)), (.int (0 : Int32)), (.int (0 : Int32)), (.int (0 : Int32)), (.int (0 : Int32)), (.int (0 : Int32)), (.int (0 : Int32)), (.int (0 : Int32)), (.int (0 : Int32)), (.int (0 : Int32))] (.int (0 : Int32)) := V_b2.keep Kc8 (ninS (Ne.symm ne_o_b2) (ninS ne_b2_b6 nin0))
  have V_b4 : Arv Z T8.heap b4 k4 (.object "java/lang/String") (16 : Int32) [.null, .null, .null, .null, .null, .null, .null, .null, .null, .null, .null, .null, .null, .null, .null, .null] .null := V_b4.keep Kc8 (ninS (Ne.symm ne_o_b4) (ninS ne_b4_b6 nin0))
  have Zn : n0 ≤ T8.heap.size := Nat.le_trans Zn Kc8.1
  have K : Keep h0 T8.heap [o] := K.trans Kc8 (allS (Or.inl (List.mem_of_getElem? (i := 0) rfl)) (allS (Or.inr sz_b6) all0))
  have pre : ∀ τ, Steps p.tables e below (T8.setTop (mkF m 33 #[.val (.ref o), .val (.int nz)] [])) τ → G τ := fun τ κ => pre τ (st8.trans κ)
  have hkT := hk
  obtain ⟨fsα, hr, hrun, hended, hRE⟩ := X8.leaveW hS hkT (v := none) (fun _ => rfl)
  refine hGL ⟨_, _, hG _ (pre _ ?_), hrun, hended, _, _, rfl, ?_, ?_, ⟨_, rfl⟩, hRE.2.1, hRE.2.2.1, hRE.2.2.2.mono (by decide) (by decide)⟩
  · exact X8.returnOut hx Bd.returns (hb hby d6_33) hr
  · show Q6 Z o nz u1 u2 u3 u4 h0 n0 _ T8.heap _
    exact ⟨b2, b4, b6, _, _, _, _, rfl, NN, K, g_b2, sz_b2, g_b4, sz_b4, g_b6, sz_b6, ne_b2_b4, ne_b2_b6, ne_b4_b6, O4, O6, E_o_8, F_un_8, F_up_8, F_pf_8, F_uc_8, V_b2, V_b4, V_pf_8, own_SL_rep 16, L_pf_8, hlz_8⟩
  · show CHr Z own_EL s.vm s.heap T8.vm T8.heap
    rw [hh]
    exact HR.trans (CHv.at X8 hZ hEL H)
theorem pd_5 : parseMethodDescriptor "(I)I" = some ⟨[.int], some .int⟩ := by decide +kernel
theorem pd_6 : parseMethodDescriptor "(I)Ljava/lang/String;" = some ⟨[.int], some (.object "java/lang/String")⟩ := by decide +kernel
theorem pd_7 : parseMethodDescriptor "([Ljava/lang/String;ILjava/lang/String;)V" = some ⟨[(.array (.object "java/lang/String")), .int, (.object "java/lang/String")], none⟩ := by decide +kernel
theorem pd_8 : parseMethodDescriptor "(I)V" = some ⟨[.int], none⟩ := by decide +kernel
theorem pd_9 : parseMethodDescriptor "()I" = some ⟨[], some .int⟩ := by decide +kernel
theorem pd_10 : parseMethodDescriptor "(Ljava/lang/String;Ljava/lang/String;)Z" = some ⟨[(.object "java/lang/String"), (.object "java/lang/String")], some .boolean⟩ := by decide +kernel
theorem ef_0 (m : MethodId) (x0 : Int32) (x1 : Int32) (x2 : Int32) (x3 : Int32) : entryFrame m #[(.int x0), (.int x1), (.int x2), (.int x3)] maxLocals = mkF m 0 #[.val (.int x0), .val (.int x1), .val (.int x2), .val (.int x3), .unset, .unset, .unset, .unset, .unset, .unset, .unset, .unset, .unset, .unset, .unset, .unset, .unset, .unset, .unset, .unset, .unset, .unset, .unset, .unset, .unset, .unset, .unset, .unset, .unset] [] := by first | (simp [entryFrame, mkF, argsToLocals, Value.category, maxLocals]; done) | rfl
def Q0 (Z : State) (p1 : Int32) (p2 : Int32) (p3 : Int32) (p4 : Int32) (cw : Int32) (h0 : Heap) (n0 : Nat) (vα : Option Value) (hα : Heap) (Lα : List Loc) : Prop := vα = some (.int (1 : Int32)) ∧ Fr n0 Lα
set_option maxRecDepth 65536 in
set_option maxHeartbeats 40000000 in
theorem rm0 (l : Launch) (Z : State) (a0 : Array Value) (hw : ∀ d ∈ tables_1, d.before a0 Z = true) (hEL : EW Z a0 own_EL) (wS : ∀ a ∈ Bundle.stringAtoms, a.before a0 Z = true) (ws : List Jvm.Cond) (p1 : Int32) (p2 : Int32) (p3 : Int32) (p4 : Int32) (cw : Int32) (h0 : Heap) (n0 : Nat) (Z0 : n0 ≤ h0.size) (S_c : Sta Z h0 "java/lang/String" "COMPACT_STRINGS" "Z" (.int cw)) (hcw : ¬ cw = (0 : Int32)) :
    MetFree l x (head1 (Jvm.Cond.code x code maxLocals ret :: ws) room_1) (fun aα U => aα = #[(.int p1), (.int p2), (.int p3), (.int p4)] ∧ Z.Warmed39 U.vm ∧ U.heap = h0 ∧ CHv Z own_EL U.vm h0) (fun _ _ _ _ _ => True) (fun _ U oα U' => ∃ vα Lα, oα = .returned vα ∧ Q0 Z p1 p2 p3 p4 cw h0 n0 vα U'.heap Lα ∧ CHr Z own_EL U.vm U.heap U'.vm U'.heap ∧ ReturnedEndW U oα U' Lα room_1.cells room_1.slots) := by
  refine MetFree.of_bodySF (plainFor_of_name pn_4) hisR ?_
  intro p e s m args below meth c s₁ Bd hml0 hP hK
  refine own_wrap ?_
  intro GL hGL
  obtain ⟨rfl, hZ, hh, hCH⟩ := hP
  have hx := Bd.exec
  have hby := Bd.bytes
  have hml : c.maxLocals = 29 := hml0
  have hown : s.vm.findClass "coppice/marshal/context/NamespaceScopeRestorePinLaw" = some m.cls := findClass_of_methodNamed Bd.named
  have hnm := (name_of_methodNamed Bd.named Bd.method).1
  have X0 : Stand p l e room_1 (s.setVm s.vm) m #[(.int p1), (.int p2), (.int p3), (.int p4)] below meth c s₁ [] 0 0 := Stand.of_body Bd
  have e0 : s₁.heap = h0 := by rw [← hh, Bd.state]; rfl
  have N0 := Fr.nil n0
  have pre0 : ∀ τ, Steps p.tables e below (s₁.setTop (mkF m 0 #[.val (.int p1), .val (.int p2), .val (.int p3), .val (.int p4), .unset, .unset, .unset, .unset, .unset, .unset, .unset, .unset, .unset, .unset, .unset, .unset, .unset, .unset, .unset, .unset, .unset, .unset, .unset, .unset, .unset, .unset, .unset, .unset, .unset] [])) τ → Steps p.tables e below (s₁.setTop (entryFrame m #[(.int p1), (.int p2), (.int p3), (.int p4)] maxLocals)) τ := fun τ κ => castTop (ef_0 m p1 p2 p3 p4) κ
  obtain ⟨G, hG, pre⟩ : ∃ G : State → Prop, (∀ τ, G τ → Steps p.tables e below (s₁.setTop (entryFrame m #[(.int p1), (.int p2), (.int p3), (.int p4)] maxLocals)) τ) ∧ ∀ τ, Steps p.tables e below (s₁.setTop (mkF m 0 #[.val (.int p1), .val (.int p2), .val (.int p3), .val (.int p4), .unset, .unset, .unset, .unset, .unset, .unset, .unset, .unset, .unset, .unset, .unset, .unset, .unset, .unset, .unset, .unset, .unset, .unset, .unset, .unset, .unset, .unset, .unset, .unset, .unset] [])) τ → G τ := ⟨_, pre0, fun _ k => k⟩
  have Zn := Z0
  have hS : s.Since s.vm h0.size := (State.WarmedH.refl s).since _
  have hk : h0.size ≤ h0.size := Nat.le_refl _
  have H : CHv Z own_EL s.vm h0 := hCH
  have HR : CHr Z own_EL s.vm h0 s.vm h0 := CHr.refl H
  have pre : ∀ τ, Steps p.tables e below (s₁.setTop (mkF m 1 #[.val (.int p1), .val (.int p2), .val (.int p3), .val (.int p4), .unset, .unset, .unset, .unset, .unset, .unset, .unset, .unset, .unset, .unset, .unset, .unset, .unset, .unset, .unset, .unset, .unset, .unset, .unset, .unset, .unset, .unset, .unset, .unset, .unset] [(.int p1)])) τ → G τ := fun τ κ => pre τ (by
    refine XS.iloadN X0.here hx rfl (hb hby at_0) rfl ?_
    show Steps p.tables e below (s₁.setTop (mkF m 1 #[.val (.int p1), .val (.int p2), .val (.int p3), .val (.int p4), .unset, .unset, .unset, .unset, .unset, .unset, .unset, .unset, .unset, .unset, .unset, .unset, .unset, .unset, .unset, .unset, .unset, .unset, .unset, .unset, .unset, .unset, .unset, .unset, .unset] [(.int p1)])) τ
    exact κ)
  obtain ⟨_, _, ⟨T1, Lx1, kx1, nx1⟩, -, X1, ⟨Lc1, hQ1, l1, y1, z1⟩, st1⟩ := Jvm.LawKit.callS X0 hx (y := (⟨"coppice/marshal/context/NamespaceScopeRestorePinLaw", "idx", "(I)I"⟩ : MethodName)) hown (mvT hZ (hw _ (List.mem_of_getElem? (i := 0) rfl))) (mvT hZ (hw _ (List.mem_of_getElem? (i := 1) rfl))) (mvT hZ (hw _ (List.mem_of_getElem? (i := 2) rfl))) (mvT hZ (hw _ (List.mem_of_getElem? (i := 3) rfl))) (by decide) (backOf (W := 0) (rm1 l Z a0 hw [] p1 h0 n0 Zn) hZ (hw _ (List.mem_of_getElem? (i := 3) rfl)) (hw _ (List.mem_of_getElem? (i := 2) rfl)) (by decide) (by decide)) (g := (mkF m 1 #[.val (.int p1), .val (.int p2), .val (.int p3), .val (.int p4), .unset, .unset, .unset, .unset, .unset, .unset, .unset, .unset, .unset, .unset, .unset, .unset, .unset, .unset, .unset, .unset, .unset, .unset, .unset, .unset, .unset, .unset, .unset, .unset, .unset] [(.int p1)])) rfl (by rw [hml]; rfl) (argsL := [(.int p1)]) (rest := []) (lenOf pd_5 rfl) rfl (by show 2 * 0 + _ ≤ _; exact Nat.le_of_eq rfl) (hb hby at_1) (fun _ _ => ⟨rfl, e0, (by decide : 0 + 0 ≤ _), (by decide : 0 + 0 ≤ _)⟩)
  dsimp only [Pt.U, Pt.locs, Pt.cells, Pt.slots] at X1 l1 y1 z1 st1 hQ1
  replace y1 : kx1 = 0 := y1
  replace z1 : nx1 = 0 := z1
  subst y1 z1
  obtain ⟨rfl, Nq1, hs1⟩ := hQ1
  have NN : Fr n0 Lx1 := by rw [l1]; exact Fr.app N0 Nq1
  have pre : ∀ τ, Steps p.tables e below (T1.setTop (mkF m 4 #[.val (.int p1), .val (.int p2), .val (.int p3), .val (.int p4), .unset, .unset, .unset, .unset, .unset, .unset, .unset, .unset, .unset, .unset, .unset, .unset, .unset, .unset, .unset, .unset, .unset, .unset, .unset, .unset, .unset, .unset, .unset, .unset, .unset] [(.int ((p1 &&& (2147483647 : Int32)) % (3 : Int32)))])) τ → G τ := fun τ κ => pre τ (st1 τ κ)
  have pre : ∀ τ, Steps p.tables e below (T1.setTop (mkF m 7 #[.val (.int p1), .val (.int p2), .val (.int p3), .val (.int p4), .val (.int ((p1 &&& (2147483647 : Int32)) % (3 : Int32))), .unset, .unset, .unset, .unset, .unset, .unset, .unset, .unset, .unset, .unset, .unset, .unset, .unset, .unset, .unset, .unset, .unset, .unset, .unset, .unset, .unset, .unset, .unset, .unset] [(.int p2)])) τ → G τ := fun τ κ => pre τ (by
    refine XS.istore X1.here hx rfl (hb hby at_4) rfl (l' := #[.val (.int p1), .val (.int p2), .val (.int p3), .val (.int p4), .val (.int ((p1 &&& (2147483647 : Int32)) % (3 : Int32))), .unset, .unset, .unset, .unset, .unset, .unset, .unset, .unset, .unset, .unset, .unset, .unset, .unset, .unset, .unset, .unset, .unset, .unset, .unset, .unset, .unset, .unset, .unset, .unset]) rfl ?_
    show Steps p.tables e below (T1.setTop (mkF m 6 #[.val (.int p1), .val (.int p2), .val (.int p3), .val (.int p4), .val (.int ((p1 &&& (2147483647 : Int32)) % (3 : Int32))), .unset, .unset, .unset, .unset, .unset, .unset, .unset, .unset, .unset, .unset, .unset, .unset, .unset, .unset, .unset, .unset, .unset, .unset, .unset, .unset, .unset, .unset, .unset, .unset] [])) τ
    refine XS.iloadN X1.here hx rfl (hb hby at_6) rfl ?_
    show Steps p.tables e below (T1.setTop (mkF m 7 #[.val (.int p1), .val (.int p2), .val (.int p3), .val (.int p4), .val (.int ((p1 &&& (2147483647 : Int32)) % (3 : Int32))), .unset, .unset, .unset, .unset, .unset, .unset, .unset, .unset, .unset, .unset, .unset, .unset, .unset, .unset, .unset, .unset, .unset, .unset, .unset, .unset, .unset, .unset, .unset, .unset] [(.int p2)])) τ
    exact κ)
  obtain ⟨_, _, ⟨T2, Lx2, kx2, nx2⟩, -, X2, ⟨Lc2, hQ2, l2, y2, z2⟩, st2⟩ := Jvm.LawKit.callS X1 hx (y := (⟨"coppice/marshal/context/NamespaceScopeRestorePinLaw", "idx", "(I)I"⟩ : MethodName)) hown (mvT hZ (hw _ (List.mem_of_getElem? (i := 0) rfl))) (mvT hZ (hw _ (List.mem_of_getElem? (i := 1) rfl))) (mvT hZ (hw _ (List.mem_of_getElem? (i := 2) rfl))) (mvT hZ (hw _ (List.mem_of_getElem? (i := 3) rfl))) (by decide) (backOf (W := 0) (rm1 l Z a0 hw [] p2 h0 n0 Zn) hZ (hw _ (List.mem_of_getElem? (i := 3) rfl)) (hw _ (List.mem_of_getElem? (i := 2) rfl)) (by decide) (by decide)) (g := (mkF m 7 #[.val (.int p1), .val (.int p2), .val (.int p3), .val (.int p4), .val (.int ((p1 &&& (2147483647 : Int32)) % (3 : Int32))), .unset, .unset, .unset, .unset, .unset, .unset, .unset, .unset, .unset, .unset, .unset, .unset, .unset, .unset, .unset, .unset, .unset, .unset, .unset, .unset, .unset, .unset, .unset, .unset] [(.int p2)])) rfl (by rw [hml]; rfl) (argsL := [(.int p2)]) (rest := []) (lenOf pd_5 rfl) rfl (by show 2 * 0 + _ ≤ _; exact Nat.le_of_eq rfl) (hb hby at_7) (fun _ _ => ⟨rfl, hs1, (by decide : 0 + 0 ≤ _), (by decide : 0 + 0 ≤ _)⟩)
  dsimp only [Pt.U, Pt.locs, Pt.cells, Pt.slots] at X2 l2 y2 z2 st2 hQ2
  replace y2 : kx2 = 0 := y2
  replace z2 : nx2 = 0 := z2
  subst y2 z2
  obtain ⟨rfl, Nq2, hs2⟩ := hQ2
  have NN : Fr n0 Lx2 := by rw [l2]; exact Fr.app NN Nq2
  have pre : ∀ τ, Steps p.tables e below (T2.setTop (mkF m 10 #[.val (.int p1), .val (.int p2), .val (.int p3), .val (.int p4), .val (.int ((p1 &&& (2147483647 : Int32)) % (3 : Int32))), .unset, .unset, .unset, .unset, .unset, .unset, .unset, .unset, .unset, .unset, .unset, .unset, .unset, .unset, .unset, .unset, .unset, .unset, .unset, .unset, .unset, .unset, .unset, .unset] [(.int ((p2 &&& (2147483647 : Int32)) % (3 : Int32)))])) τ → G τ := fun τ κ => pre τ (st2 τ κ)
  have pre : ∀ τ, Steps p.tables e below (T2.setTop (mkF m 13 #[.val (.int p1), .val (.int p2), .val (.int p3), .val (.int p4), .val (.int ((p1 &&& (2147483647 : Int32)) % (3 : Int32))), .val (.int ((p2 &&& (2147483647 : Int32)) % (3 : Int32))), .unset, .unset, .unset, .unset, .unset, .unset, .unset, .unset, .unset, .unset, .unset, .unset, .unset, .unset, .unset, .unset, .unset, .unset, .unset, .unset, .unset, .unset, .unset] [(.int p3)])) τ → G τ := fun τ κ => pre τ (by
    refine XS.istore X2.here hx rfl (hb hby at_10) rfl (l' := #[.val (.int p1), .val (.int p2), .val (.int p3), .val (.int p4), .val (.int ((p1 &&& (2147483647 : Int32)) % (3 : Int32))), .val (.int ((p2 &&& (2147483647 : Int32)) % (3 : Int32))), .unset, .unset, .unset, .unset, .unset, .unset, .unset, .unset, .unset, .unset, .unset, .unset, .unset, .unset, .unset, .unset, .unset, .unset, .unset, .unset, .unset, .unset, .unset]) rfl ?_
    show Steps p.tables e below (T2.setTop (mkF m 12 #[.val (.int p1), .val (.int p2), .val (.int p3), .val (.int p4), .val (.int ((p1 &&& (2147483647 : Int32)) % (3 : Int32))), .val (.int ((p2 &&& (2147483647 : Int32)) % (3 : Int32))), .unset, .unset, .unset, .unset, .unset, .unset, .unset, .unset, .unset, .unset, .unset, .unset, .unset, .unset, .unset, .unset, .unset, .unset, .unset, .unset, .unset, .unset, .unset] [])) τ
    refine XS.iloadN X2.here hx rfl (hb hby at_12) rfl ?_
    show Steps p.tables e below (T2.setTop (mkF m 13 #[.val (.int p1), .val (.int p2), .val (.int p3), .val (.int p4), .val (.int ((p1 &&& (2147483647 : Int32)) % (3 : Int32))), .val (.int ((p2 &&& (2147483647 : Int32)) % (3 : Int32))), .unset, .unset, .unset, .unset, .unset, .unset, .unset, .unset, .unset, .unset, .unset, .unset, .unset, .unset, .unset, .unset, .unset, .unset, .unset, .unset, .unset, .unset, .unset] [(.int p3)])) τ
    exact κ)
  obtain ⟨_, _, ⟨T3, Lx3, kx3, nx3⟩, -, X3, ⟨Lc3, hQ3, l3, y3, z3⟩, st3⟩ := Jvm.LawKit.callS X2 hx (y := (⟨"coppice/marshal/context/NamespaceScopeRestorePinLaw", "idx", "(I)I"⟩ : MethodName)) hown (mvT hZ (hw _ (List.mem_of_getElem? (i := 0) rfl))) (mvT hZ (hw _ (List.mem_of_getElem? (i := 1) rfl))) (mvT hZ (hw _ (List.mem_of_getElem? (i := 2) rfl))) (mvT hZ (hw _ (List.mem_of_getElem? (i := 3) rfl))) (by decide) (backOf (W := 0) (rm1 l Z a0 hw [] p3 h0 n0 Zn) hZ (hw _ (List.mem_of_getElem? (i := 3) rfl)) (hw _ (List.mem_of_getElem? (i := 2) rfl)) (by decide) (by decide)) (g := (mkF m 13 #[.val (.int p1), .val (.int p2), .val (.int p3), .val (.int p4), .val (.int ((p1 &&& (2147483647 : Int32)) % (3 : Int32))), .val (.int ((p2 &&& (2147483647 : Int32)) % (3 : Int32))), .unset, .unset, .unset, .unset, .unset, .unset, .unset, .unset, .unset, .unset, .unset, .unset, .unset, .unset, .unset, .unset, .unset, .unset, .unset, .unset, .unset, .unset, .unset] [(.int p3)])) rfl (by rw [hml]; rfl) (argsL := [(.int p3)]) (rest := []) (lenOf pd_5 rfl) rfl (by show 2 * 0 + _ ≤ _; exact Nat.le_of_eq rfl) (hb hby at_13) (fun _ _ => ⟨rfl, hs2, (by decide : 0 + 0 ≤ _), (by decide : 0 + 0 ≤ _)⟩)
  dsimp only [Pt.U, Pt.locs, Pt.cells, Pt.slots] at X3 l3 y3 z3 st3 hQ3
  replace y3 : kx3 = 0 := y3
  replace z3 : nx3 = 0 := z3
  subst y3 z3
  obtain ⟨rfl, Nq3, hs3⟩ := hQ3
  have NN : Fr n0 Lx3 := by rw [l3]; exact Fr.app NN Nq3
  have pre : ∀ τ, Steps p.tables e below (T3.setTop (mkF m 16 #[.val (.int p1), .val (.int p2), .val (.int p3), .val (.int p4), .val (.int ((p1 &&& (2147483647 : Int32)) % (3 : Int32))), .val (.int ((p2 &&& (2147483647 : Int32)) % (3 : Int32))), .unset, .unset, .unset, .unset, .unset, .unset, .unset, .unset, .unset, .unset, .unset, .unset, .unset, .unset, .unset, .unset, .unset, .unset, .unset, .unset, .unset, .unset, .unset] [(.int ((p3 &&& (2147483647 : Int32)) % (3 : Int32)))])) τ → G τ := fun τ κ => pre τ (st3 τ κ)
  have pre : ∀ τ, Steps p.tables e below (T3.setTop (mkF m 18 #[.val (.int p1), .val (.int p2), .val (.int p3), .val (.int p4), .val (.int ((p1 &&& (2147483647 : Int32)) % (3 : Int32))), .val (.int ((p2 &&& (2147483647 : Int32)) % (3 : Int32))), .val (.int ((p3 &&& (2147483647 : Int32)) % (3 : Int32))), .unset, .unset, .unset, .unset, .unset, .unset, .unset, .unset, .unset, .unset, .unset, .unset, .unset, .unset, .unset, .unset, .unset, .unset, .unset, .unset, .unset, .unset] [])) τ → G τ := fun τ κ => pre τ (by
    refine XS.istore X3.here hx rfl (hb hby at_16) rfl (l' := #[.val (.int p1), .val (.int p2), .val (.int p3), .val (.int p4), .val (.int ((p1 &&& (2147483647 : Int32)) % (3 : Int32))), .val (.int ((p2 &&& (2147483647 : Int32)) % (3 : Int32))), .val (.int ((p3 &&& (2147483647 : Int32)) % (3 : Int32))), .unset, .unset, .unset, .unset, .unset, .unset, .unset, .unset, .unset, .unset, .unset, .unset, .unset, .unset, .unset, .unset, .unset, .unset, .unset, .unset, .unset, .unset]) rfl ?_
    show Steps p.tables e below (T3.setTop (mkF m 18 #[.val (.int p1), .val (.int p2), .val (.int p3), .val (.int p4), .val (.int ((p1 &&& (2147483647 : Int32)) % (3 : Int32))), .val (.int ((p2 &&& (2147483647 : Int32)) % (3 : Int32))), .val (.int ((p3 &&& (2147483647 : Int32)) % (3 : Int32))), .unset, .unset, .unset, .unset, .unset, .unset, .unset, .unset, .unset, .unset, .unset, .unset, .unset, .unset, .unset, .unset, .unset, .unset, .unset, .unset, .unset, .unset] [])) τ
    exact κ)
  obtain ⟨i1, hi1⟩ : ∃ z : Int32, z = ((p1 &&& (2147483647 : Int32)) % (3 : Int32)) := ⟨_, rfl⟩
  have pre : ∀ τ, Steps p.tables e below (T3.setTop (mkF m 18 #[.val (.int p1), .val (.int p2), .val (.int p3), .val (.int p4), .val (.int i1), .val (.int ((p2 &&& (2147483647 : Int32)) % (3 : Int32))), .val (.int ((p3 &&& (2147483647 : Int32)) % (3 : Int32))), .unset, .unset, .unset, .unset, .unset, .unset, .unset, .unset, .unset, .unset, .unset, .unset, .unset, .unset, .unset, .unset, .unset, .unset, .unset, .unset, .unset, .unset] [])) τ → G τ := by subst hi1; exact pre
  have bi1 : ¬ i1 < 0 ∧ i1 < (3 : Int32) := by rw [hi1]; exact own_ix _
  obtain ⟨i2, hi2⟩ : ∃ z : Int32, z = ((p2 &&& (2147483647 : Int32)) % (3 : Int32)) := ⟨_, rfl⟩
  have pre : ∀ τ, Steps p.tables e below (T3.setTop (mkF m 18 #[.val (.int p1), .val (.int p2), .val (.int p3), .val (.int p4), .val (.int i1), .val (.int i2), .val (.int ((p3 &&& (2147483647 : Int32)) % (3 : Int32))), .unset, .unset, .unset, .unset, .unset, .unset, .unset, .unset, .unset, .unset, .unset, .unset, .unset, .unset, .unset, .unset, .unset, .unset, .unset, .unset, .unset, .unset] [])) τ → G τ := by subst hi2; exact pre
  have bi2 : ¬ i2 < 0 ∧ i2 < (3 : Int32) := by rw [hi2]; exact own_ix _
  obtain ⟨i3, hi3⟩ : ∃ z : Int32, z = ((p3 &&& (2147483647 : Int32)) % (3 : Int32)) := ⟨_, rfl⟩
  have pre : ∀ τ, Steps p.tables e below (T3.setTop (mkF m 18 #[.val (.int p1), .val (.int p2), .val (.int p3), .val (.int p4), .val (.int i1), .val (.int i2), .val (.int i3), .unset, .unset, .unset, .unset, .unset, .unset, .unset, .unset, .unset, .unset, .unset, .unset, .unset, .unset, .unset, .unset, .unset, .unset, .unset, .unset, .unset, .unset] [])) τ → G τ := by subst hi3; exact pre
  have bi3 : ¬ i3 < 0 ∧ i3 < (3 : Int32) := by rw [hi3]; exact own_ix _
  have pre : ∀ τ, Steps p.tables e below (T3.setTop (mkF m 22 #[.val (.int p1), .val (.int p2), .val (.int p3), .val (.int p4), .val (.int i1), .val (.int i2), .val (.int i3), .unset, .unset, .unset, .unset, .unset, .unset, .unset, .unset, .unset, .unset, .unset, .unset, .unset, .unset, .unset, .unset, .unset, .unset, .unset, .unset, .unset, .unset] [(.int ((p1.toUInt32 >>> ((8 : Int32) &&& 31).toUInt32).toInt32))])) τ → G τ := fun τ κ => pre τ (by
    refine XS.iloadN X3.here hx rfl (hb hby at_18) rfl ?_
    show Steps p.tables e below (T3.setTop (mkF m 19 #[.val (.int p1), .val (.int p2), .val (.int p3), .val (.int p4), .val (.int i1), .val (.int i2), .val (.int i3), .unset, .unset, .unset, .unset, .unset, .unset, .unset, .unset, .unset, .unset, .unset, .unset, .unset, .unset, .unset, .unset, .unset, .unset, .unset, .unset, .unset, .unset] [(.int p1)])) τ
    refine XS.bipush X3.here hx rfl (hb hby at_19) ?_
    show Steps p.tables e below (T3.setTop (mkF m 21 #[.val (.int p1), .val (.int p2), .val (.int p3), .val (.int p4), .val (.int i1), .val (.int i2), .val (.int i3), .unset, .unset, .unset, .unset, .unset, .unset, .unset, .unset, .unset, .unset, .unset, .unset, .unset, .unset, .unset, .unset, .unset, .unset, .unset, .unset, .unset, .unset] [(.int (8 : Int32)), (.int p1)])) τ
    refine XS.iushr X3.here hx rfl (hb hby at_21) rfl ?_
    show Steps p.tables e below (T3.setTop (mkF m 22 #[.val (.int p1), .val (.int p2), .val (.int p3), .val (.int p4), .val (.int i1), .val (.int i2), .val (.int i3), .unset, .unset, .unset, .unset, .unset, .unset, .unset, .unset, .unset, .unset, .unset, .unset, .unset, .unset, .unset, .unset, .unset, .unset, .unset, .unset, .unset, .unset] [(.int ((p1.toUInt32 >>> ((8 : Int32) &&& 31).toUInt32).toInt32))])) τ
    exact κ)
  obtain ⟨_, _, ⟨T4, Lx4, kx4, nx4⟩, -, X4, hS2, hg2, ⟨Lc4, hQ4, l4, y4, z4, HRc⟩, st4⟩ := Jvm.RoadKit.callSS X3 hx (y := (⟨"coppice/marshal/context/NamespaceScopeRestorePinLaw", "pick", "(I)Ljava/lang/String;"⟩ : MethodName)) hown (mvT hZ (hw _ (List.mem_of_getElem? (i := 5) rfl))) (mvT hZ (hw _ (List.mem_of_getElem? (i := 6) rfl))) (mvT hZ (hw _ (List.mem_of_getElem? (i := 2) rfl))) (mvT hZ (hw _ (List.mem_of_getElem? (i := 7) rfl))) (by decide) (backOfSH (W := 0) (rm2 l Z a0 hw hEL wS [] ((p1.toUInt32 >>> ((8 : Int32) &&& 31).toUInt32).toInt32) h0 n0 Zn) hZ (hw _ (List.mem_of_getElem? (i := 7) rfl)) (hw _ (List.mem_of_getElem? (i := 2) rfl)) (by decide) (by decide) hEL H) (g := (mkF m 22 #[.val (.int p1), .val (.int p2), .val (.int p3), .val (.int p4), .val (.int i1), .val (.int i2), .val (.int i3), .unset, .unset, .unset, .unset, .unset, .unset, .unset, .unset, .unset, .unset, .unset, .unset, .unset, .unset, .unset, .unset, .unset, .unset, .unset, .unset, .unset, .unset] [(.int ((p1.toUInt32 >>> ((8 : Int32) &&& 31).toUInt32).toInt32))])) rfl (by rw [hml]; rfl) (argsL := [(.int ((p1.toUInt32 >>> ((8 : Int32) &&& 31).toUInt32).toInt32))]) (rest := []) (lenOf pd_6 rfl) rfl (by show 2 * 0 + _ ≤ _; exact Nat.le_of_eq rfl) (hb hby at_22) (fun _ _ => ⟨rfl, hs3, (by decide : 0 + 2 ≤ _), (by decide : 0 + 16 ≤ _)⟩)
  dsimp only [Pt.U, Pt.locs, Pt.cells, Pt.slots] at hS2 hg2 HRc
  have hkT := Nat.le_trans hk (Nat.le_of_eq (congrArg Array.size (Eq.symm hs3)))
  dsimp only [Pt.U, Pt.locs, Pt.cells, Pt.slots] at X4 l4 y4 z4 st4 hQ4
  replace y4 : kx4 = 2 := y4
  replace z4 : nx4 = 16 := z4
  subst y4 z4
  obtain ⟨r_4, rfl, Nq4, Kc4, F_r_4⟩ := hQ4
  have NN : Fr n0 Lx4 := by rw [l4]; exact Fr.app NN Nq4
  obtain ⟨X4, hS, hZ, hown⟩ := rebS hS hkT X4 hS2 hg2 hZ hown
  have hk := Nat.le_refl T4.heap.size
  have HR := HR.trans HRc
  have H := HR.1
  have Nss : ∀ x ∈ ([] : List Addr), own_ns Z h0 x := all0
  have S_c : Sta Z T4.heap "java/lang/String" "COMPACT_STRINGS" "Z" (.int cw) := own_sta_keepN S_c Kc4 Nss
  have Zn : n0 ≤ T4.heap.size := Nat.le_trans Zn Kc4.1
  have pre : ∀ τ, Steps p.tables e below (T4.setTop (mkF m 25 #[.val (.int p1), .val (.int p2), .val (.int p3), .val (.int p4), .val (.int i1), .val (.int i2), .val (.int i3), .unset, .unset, .unset, .unset, .unset, .unset, .unset, .unset, .unset, .unset, .unset, .unset, .unset, .unset, .unset, .unset, .unset, .unset, .unset, .unset, .unset, .unset] [(.ref r_4)])) τ → G τ := fun τ κ => pre τ (st4.trans κ)
  have pre : ∀ τ, Steps p.tables e below (T4.setTop (mkF m 31 #[.val (.int p1), .val (.int p2), .val (.int p3), .val (.int p4), .val (.int i1), .val (.int i2), .val (.int i3), .val (.ref r_4), .unset, .unset, .unset, .unset, .unset, .unset, .unset, .unset, .unset, .unset, .unset, .unset, .unset, .unset, .unset, .unset, .unset, .unset, .unset, .unset, .unset] [(.int ((p2.toUInt32 >>> ((8 : Int32) &&& 31).toUInt32).toInt32))])) τ → G τ := fun τ κ => pre τ (by
    refine XS.astore X4.here hx rfl (hb hby at_25) rfl rfl (l' := #[.val (.int p1), .val (.int p2), .val (.int p3), .val (.int p4), .val (.int i1), .val (.int i2), .val (.int i3), .val (.ref r_4), .unset, .unset, .unset, .unset, .unset, .unset, .unset, .unset, .unset, .unset, .unset, .unset, .unset, .unset, .unset, .unset, .unset, .unset, .unset, .unset, .unset]) rfl ?_
    show Steps p.tables e below (T4.setTop (mkF m 27 #[.val (.int p1), .val (.int p2), .val (.int p3), .val (.int p4), .val (.int i1), .val (.int i2), .val (.int i3), .val (.ref r_4), .unset, .unset, .unset, .unset, .unset, .unset, .unset, .unset, .unset, .unset, .unset, .unset, .unset, .unset, .unset, .unset, .unset, .unset, .unset, .unset, .unset] [])) τ
    refine XS.iloadN X4.here hx rfl (hb hby at_27) rfl ?_
    show Steps p.tables e below (T4.setTop (mkF m 28 #[.val (.int p1), .val (.int p2), .val (.int p3), .val (.int p4), .val (.int i1), .val (.int i2), .val (.int i3), .val (.ref r_4), .unset, .unset, .unset, .unset, .unset, .unset, .unset, .unset, .unset, .unset, .unset, .unset, .unset, .unset, .unset, .unset, .unset, .unset, .unset, .unset, .unset] [(.int p2)])) τ
    refine XS.bipush X4.here hx rfl (hb hby at_28) ?_
    show Steps p.tables e below (T4.setTop (mkF m 30 #[.val (.int p1), .val (.int p2), .val (.int p3), .val (.int p4), .val (.int i1), .val (.int i2), .val (.int i3), .val (.ref r_4), .unset, .unset, .unset, .unset, .unset, .unset, .unset, .unset, .unset, .unset, .unset, .unset, .unset, .unset, .unset, .unset, .unset, .unset, .unset, .unset, .unset] [(.int (8 : Int32)), (.int p2)])) τ
    refine XS.iushr X4.here hx rfl (hb hby at_30) rfl ?_
    show Steps p.tables e below (T4.setTop (mkF m 31 #[.val (.int p1), .val (.int p2), .val (.int p3), .val (.int p4), .val (.int i1), .val (.int i2), .val (.int i3), .val (.ref r_4), .unset, .unset, .unset, .unset, .unset, .unset, .unset, .unset, .unset, .unset, .unset, .unset, .unset, .unset, .unset, .unset, .unset, .unset, .unset, .unset, .unset] [(.int ((p2.toUInt32 >>> ((8 : Int32) &&& 31).toUInt32).toInt32))])) τ
    exact κ)
  obtain ⟨_, _, ⟨T5, Lx5, kx5, nx5⟩, -, X5, hS2, hg2, ⟨Lc5, hQ5, l5, y5, z5, HRc⟩, st5⟩ := Jvm.RoadKit.callSS X4 hx (y := (⟨"coppice/marshal/context/NamespaceScopeRestorePinLaw", "pick", "(I)Ljava/lang/String;"⟩ : MethodName)) hown (mvT hZ (hw _ (List.mem_of_getElem? (i := 5) rfl))) (mvT hZ (hw _ (List.mem_of_getElem? (i := 6) rfl))) (mvT hZ (hw _ (List.mem_of_getElem? (i := 2) rfl))) (mvT hZ (hw _ (List.mem_of_getElem? (i := 7) rfl))) (by decide) (backOfSH (W := 0) (rm2 l Z a0 hw hEL wS [] ((p2.toUInt32 >>> ((8 : Int32) &&& 31).toUInt32).toInt32) T4.heap n0 Zn) hZ (hw _ (List.mem_of_getElem? (i := 7) rfl)) (hw _ (List.mem_of_getElem? (i := 2) rfl)) (by decide) (by decide) hEL H) (g := (mkF m 31 #[.val (.int p1), .val (.int p2), .val (.int p3), .val (.int p4), .val (.int i1), .val (.int i2), .val (.int i3), .val (.ref r_4), .unset, .unset, .unset, .unset, .unset, .unset, .unset, .unset, .unset, .unset, .unset, .unset, .unset, .unset, .unset, .unset, .unset, .unset, .unset, .unset, .unset] [(.int ((p2.toUInt32 >>> ((8 : Int32) &&& 31).toUInt32).toInt32))])) rfl (by rw [hml]; rfl) (argsL := [(.int ((p2.toUInt32 >>> ((8 : Int32) &&& 31).toUInt32).toInt32))]) (rest := []) (lenOf pd_6 rfl) rfl (by show 2 * 0 + _ ≤ _; exact Nat.le_of_eq rfl) (hb hby at_31) (fun _ _ => ⟨rfl, rfl, (by decide : 2 + 2 ≤ _), (by decide : 16 + 16 ≤ _)⟩)
  dsimp only [Pt.U, Pt.locs, Pt.cells, Pt.slots] at hS2 hg2 HRc
  have hkT := hk
  dsimp only [Pt.U, Pt.locs, Pt.cells, Pt.slots] at X5 l5 y5 z5 st5 hQ5
  replace y5 : kx5 = 4 := y5
  replace z5 : nx5 = 32 := z5
  subst y5 z5
  obtain ⟨r_5, rfl, Nq5, Kc5, F_r_5⟩ := hQ5
  have NN : Fr n0 Lx5 := by rw [l5]; exact Fr.app NN Nq5
  obtain ⟨X5, hS, hZ, hown⟩ := rebS hS hkT X5 hS2 hg2 hZ hown
  have hk := Nat.le_refl T5.heap.size
  have HR := HR.trans HRc
  have H := HR.1
  have Nss : ∀ x ∈ ([] : List Addr), own_ns Z T4.heap x := all0
  have S_c : Sta Z T5.heap "java/lang/String" "COMPACT_STRINGS" "Z" (.int cw) := own_sta_keepN S_c Kc5 Nss
  have F_r_4 : own_S Z T5.heap (.ref r_4) (some (own_pk ((p1.toUInt32 >>> ((8 : Int32) &&& 31).toUInt32).toInt32))) := own_S_keep F_r_4 Kc5 Nss
  have Zn : n0 ≤ T5.heap.size := Nat.le_trans Zn Kc5.1
  have pre : ∀ τ, Steps p.tables e below (T5.setTop (mkF m 34 #[.val (.int p1), .val (.int p2), .val (.int p3), .val (.int p4), .val (.int i1), .val (.int i2), .val (.int i3), .val (.ref r_4), .unset, .unset, .unset, .unset, .unset, .unset, .unset, .unset, .unset, .unset, .unset, .unset, .unset, .unset, .unset, .unset, .unset, .unset, .unset, .unset, .unset] [(.ref r_5)])) τ → G τ := fun τ κ => pre τ (st5.trans κ)
  have pre : ∀ τ, Steps p.tables e below (T5.setTop (mkF m 40 #[.val (.int p1), .val (.int p2), .val (.int p3), .val (.int p4), .val (.int i1), .val (.int i2), .val (.int i3), .val (.ref r_4), .val (.ref r_5), .unset, .unset, .unset, .unset, .unset, .unset, .unset, .unset, .unset, .unset, .unset, .unset, .unset, .unset, .unset, .unset, .unset, .unset, .unset, .unset] [(.int ((p3.toUInt32 >>> ((8 : Int32) &&& 31).toUInt32).toInt32))])) τ → G τ := fun τ κ => pre τ (by
    refine XS.astore X5.here hx rfl (hb hby at_34) rfl rfl (l' := #[.val (.int p1), .val (.int p2), .val (.int p3), .val (.int p4), .val (.int i1), .val (.int i2), .val (.int i3), .val (.ref r_4), .val (.ref r_5), .unset, .unset, .unset, .unset, .unset, .unset, .unset, .unset, .unset, .unset, .unset, .unset, .unset, .unset, .unset, .unset, .unset, .unset, .unset, .unset]) rfl ?_
    show Steps p.tables e below (T5.setTop (mkF m 36 #[.val (.int p1), .val (.int p2), .val (.int p3), .val (.int p4), .val (.int i1), .val (.int i2), .val (.int i3), .val (.ref r_4), .val (.ref r_5), .unset, .unset, .unset, .unset, .unset, .unset, .unset, .unset, .unset, .unset, .unset, .unset, .unset, .unset, .unset, .unset, .unset, .unset, .unset, .unset] [])) τ
    refine XS.iloadN X5.here hx rfl (hb hby at_36) rfl ?_
    show Steps p.tables e below (T5.setTop (mkF m 37 #[.val (.int p1), .val (.int p2), .val (.int p3), .val (.int p4), .val (.int i1), .val (.int i2), .val (.int i3), .val (.ref r_4), .val (.ref r_5), .unset, .unset, .unset, .unset, .unset, .unset, .unset, .unset, .unset, .unset, .unset, .unset, .unset, .unset, .unset, .unset, .unset, .unset, .unset, .unset] [(.int p3)])) τ
    refine XS.bipush X5.here hx rfl (hb hby at_37) ?_
    show Steps p.tables e below (T5.setTop (mkF m 39 #[.val (.int p1), .val (.int p2), .val (.int p3), .val (.int p4), .val (.int i1), .val (.int i2), .val (.int i3), .val (.ref r_4), .val (.ref r_5), .unset, .unset, .unset, .unset, .unset, .unset, .unset, .unset, .unset, .unset, .unset, .unset, .unset, .unset, .unset, .unset, .unset, .unset, .unset, .unset] [(.int (8 : Int32)), (.int p3)])) τ
    refine XS.iushr X5.here hx rfl (hb hby at_39) rfl ?_
    show Steps p.tables e below (T5.setTop (mkF m 40 #[.val (.int p1), .val (.int p2), .val (.int p3), .val (.int p4), .val (.int i1), .val (.int i2), .val (.int i3), .val (.ref r_4), .val (.ref r_5), .unset, .unset, .unset, .unset, .unset, .unset, .unset, .unset, .unset, .unset, .unset, .unset, .unset, .unset, .unset, .unset, .unset, .unset, .unset, .unset] [(.int ((p3.toUInt32 >>> ((8 : Int32) &&& 31).toUInt32).toInt32))])) τ
    exact κ)
  obtain ⟨_, _, ⟨T6, Lx6, kx6, nx6⟩, -, X6, hS2, hg2, ⟨Lc6, hQ6, l6, y6, z6, HRc⟩, st6⟩ := Jvm.RoadKit.callSS X5 hx (y := (⟨"coppice/marshal/context/NamespaceScopeRestorePinLaw", "pick", "(I)Ljava/lang/String;"⟩ : MethodName)) hown (mvT hZ (hw _ (List.mem_of_getElem? (i := 5) rfl))) (mvT hZ (hw _ (List.mem_of_getElem? (i := 6) rfl))) (mvT hZ (hw _ (List.mem_of_getElem? (i := 2) rfl))) (mvT hZ (hw _ (List.mem_of_getElem? (i := 7) rfl))) (by decide) (backOfSH (W := 0) (rm2 l Z a0 hw hEL wS [] ((p3.toUInt32 >>> ((8 : Int32) &&& 31).toUInt32).toInt32) T5.heap n0 Zn) hZ (hw _ (List.mem_of_getElem? (i := 7) rfl)) (hw _ (List.mem_of_getElem? (i := 2) rfl)) (by decide) (by decide) hEL H) (g := (mkF m 40 #[.val (.int p1), .val (.int p2), .val (.int p3), .val (.int p4), .val (.int i1), .val (.int i2), .val (.int i3), .val (.ref r_4), .val (.ref r_5), .unset, .unset, .unset, .unset, .unset, .unset, .unset, .unset, .unset, .unset, .unset, .unset, .unset, .unset, .unset, .unset, .unset, .unset, .unset, .unset] [(.int ((p3.toUInt32 >>> ((8 : Int32) &&& 31).toUInt32).toInt32))])) rfl (by rw [hml]; rfl) (argsL := [(.int ((p3.toUInt32 >>> ((8 : Int32) &&& 31).toUInt32).toInt32))]) (rest := []) (lenOf pd_6 rfl) rfl (by show 2 * 0 + _ ≤ _; exact Nat.le_of_eq rfl) (hb hby at_40) (fun _ _ => ⟨rfl, rfl, (by decide : 4 + 2 ≤ _), (by decide : 32 + 16 ≤ _)⟩)
  dsimp only [Pt.U, Pt.locs, Pt.cells, Pt.slots] at hS2 hg2 HRc
  have hkT := hk
  dsimp only [Pt.U, Pt.locs, Pt.cells, Pt.slots] at X6 l6 y6 z6 st6 hQ6
  replace y6 : kx6 = 6 := y6
  replace z6 : nx6 = 48 := z6
  subst y6 z6
  obtain ⟨r_6, rfl, Nq6, Kc6, F_r_6⟩ := hQ6
  have NN : Fr n0 Lx6 := by rw [l6]; exact Fr.app NN Nq6
  obtain ⟨X6, hS, hZ, hown⟩ := rebS hS hkT X6 hS2 hg2 hZ hown
  have hk := Nat.le_refl T6.heap.size
  have HR := HR.trans HRc
  have H := HR.1
  have Nss : ∀ x ∈ ([] : List Addr), own_ns Z T5.heap x := all0
  have S_c : Sta Z T6.heap "java/lang/String" "COMPACT_STRINGS" "Z" (.int cw) := own_sta_keepN S_c Kc6 Nss
  have F_r_4 : own_S Z T6.heap (.ref r_4) (some (own_pk ((p1.toUInt32 >>> ((8 : Int32) &&& 31).toUInt32).toInt32))) := own_S_keep F_r_4 Kc6 Nss
  have F_r_5 : own_S Z T6.heap (.ref r_5) (some (own_pk ((p2.toUInt32 >>> ((8 : Int32) &&& 31).toUInt32).toInt32))) := own_S_keep F_r_5 Kc6 Nss
  have Zn : n0 ≤ T6.heap.size := Nat.le_trans Zn Kc6.1
  have pre : ∀ τ, Steps p.tables e below (T6.setTop (mkF m 43 #[.val (.int p1), .val (.int p2), .val (.int p3), .val (.int p4), .val (.int i1), .val (.int i2), .val (.int i3), .val (.ref r_4), .val (.ref r_5), .unset, .unset, .unset, .unset, .unset, .unset, .unset, .unset, .unset, .unset, .unset, .unset, .unset, .unset, .unset, .unset, .unset, .unset, .unset, .unset] [(.ref r_6)])) τ → G τ := fun τ κ => pre τ (st6.trans κ)
  have pre : ∀ τ, Steps p.tables e below (T6.setTop (mkF m 46 #[.val (.int p1), .val (.int p2), .val (.int p3), .val (.int p4), .val (.int i1), .val (.int i2), .val (.int i3), .val (.ref r_4), .val (.ref r_5), .val (.ref r_6), .unset, .unset, .unset, .unset, .unset, .unset, .unset, .unset, .unset, .unset, .unset, .unset, .unset, .unset, .unset, .unset, .unset, .unset, .unset] [(.int (3 : Int32))])) τ → G τ := fun τ κ => pre τ (by
    refine XS.astore X6.here hx rfl (hb hby at_43) rfl rfl (l' := #[.val (.int p1), .val (.int p2), .val (.int p3), .val (.int p4), .val (.int i1), .val (.int i2), .val (.int i3), .val (.ref r_4), .val (.ref r_5), .val (.ref r_6), .unset, .unset, .unset, .unset, .unset, .unset, .unset, .unset, .unset, .unset, .unset, .unset, .unset, .unset, .unset, .unset, .unset, .unset, .unset]) rfl ?_
    show Steps p.tables e below (T6.setTop (mkF m 45 #[.val (.int p1), .val (.int p2), .val (.int p3), .val (.int p4), .val (.int i1), .val (.int i2), .val (.int i3), .val (.ref r_4), .val (.ref r_5), .val (.ref r_6), .unset, .unset, .unset, .unset, .unset, .unset, .unset, .unset, .unset, .unset, .unset, .unset, .unset, .unset, .unset, .unset, .unset, .unset, .unset] [])) τ
    refine XS.iconst X6.here hx rfl (hb hby at_45) ?_
    show Steps p.tables e below (T6.setTop (mkF m 46 #[.val (.int p1), .val (.int p2), .val (.int p3), .val (.int p4), .val (.int i1), .val (.int i2), .val (.int i3), .val (.ref r_4), .val (.ref r_5), .val (.ref r_6), .unset, .unset, .unset, .unset, .unset, .unset, .unset, .unset, .unset, .unset, .unset, .unset, .unset, .unset, .unset, .unset, .unset, .unset, .unset] [(.int (3 : Int32))])) τ
    exact κ)
  obtain ⟨T7, h7, k7, X7, e7, E7, A7, O7, st7⟩ := newR X6 hx hZ hown (hw _ (List.mem_of_getElem? (i := 16) rfl)) (hw _ (List.mem_of_getElem? (i := 17) rfl)) rfl (g := (mkF m 46 #[.val (.int p1), .val (.int p2), .val (.int p3), .val (.int p4), .val (.int i1), .val (.int i2), .val (.int i3), .val (.ref r_4), .val (.ref r_5), .val (.ref r_6), .unset, .unset, .unset, .unset, .unset, .unset, .unset, .unset, .unset, .unset, .unset, .unset, .unset, .unset, .unset, .unset, .unset, .unset, .unset] [(.int (3 : Int32))])) rfl (hb hby at_46) rfl (by decide) (cap := 3) (by decide) (by decide) (by decide) (by decide)
  obtain ⟨b7, gg7⟩ : ∃ z, z = T6.heap.size := ⟨_, rfl⟩
  rw [← gg7] at A7 st7
  have g_b7 : n0 ≤ b7 := Nat.le_trans Zn (Nat.le_of_eq gg7.symm)
  have hk := Nat.le_trans hk E7.1
  have HR := HR.trans (CHr.ext E7 H)
  have H := HR.1
  have S_c : Sta Z h7 "java/lang/String" "COMPACT_STRINGS" "Z" (.int cw) := S_c.ext E7
  have F_r_4 : own_S Z h7 (.ref r_4) (some (own_pk ((p1.toUInt32 >>> ((8 : Int32) &&& 31).toUInt32).toInt32))) := own_S_ext F_r_4 E7
  have F_r_5 : own_S Z h7 (.ref r_5) (some (own_pk ((p2.toUInt32 >>> ((8 : Int32) &&& 31).toUInt32).toInt32))) := own_S_ext F_r_5 E7
  have F_r_6 : own_S Z h7 (.ref r_6) (some (own_pk ((p3.toUInt32 >>> ((8 : Int32) &&& 31).toUInt32).toInt32))) := own_S_ext F_r_6 E7
  have Zn : n0 ≤ h7.size := Nat.le_trans Zn E7.1
  have V_b7 : Arv Z h7 b7 k7 (.object "java/lang/String") (3 : Int32) [.null, .null, .null] .null := (Arv.new A7 (by decide)).pad (pad_rep [] .null 3)
  have pre : ∀ τ, Steps p.tables e below (T7.setTop (mkF m 49 #[.val (.int p1), .val (.int p2), .val (.int p3), .val (.int p4), .val (.int i1), .val (.int i2), .val (.int i3), .val (.ref r_4), .val (.ref r_5), .val (.ref r_6), .unset, .unset, .unset, .unset, .unset, .unset, .unset, .unset, .unset, .unset, .unset, .unset, .unset, .unset, .unset, .unset, .unset, .unset, .unset] [(.ref b7)])) τ → G τ := fun τ κ => pre τ (st7 τ κ)
  have V_st : Arv Z h7 b7 k7 (.object "java/lang/String") (3 : Int32) (List.replicate 3 .null) .null := V_b7
  have L_st : own_SL Z h7 (List.replicate 3 .null) (List.replicate 3 (none : own_T)) := own_SL_rep 3
  have pre : ∀ τ, Steps p.tables e below (T7.setTop (mkF m 54 #[.val (.int p1), .val (.int p2), .val (.int p3), .val (.int p4), .val (.int i1), .val (.int i2), .val (.int i3), .val (.ref r_4), .val (.ref r_5), .val (.ref r_6), .val (.ref b7), .unset, .unset, .unset, .unset, .unset, .unset, .unset, .unset, .unset, .unset, .unset, .unset, .unset, .unset, .unset, .unset, .unset, .unset] [(.int (0 : Int32)), (.ref b7)])) τ → G τ := fun τ κ => pre τ (by
    refine XS.astore X7.here hx rfl (hb hby at_49) rfl rfl (l' := #[.val (.int p1), .val (.int p2), .val (.int p3), .val (.int p4), .val (.int i1), .val (.int i2), .val (.int i3), .val (.ref r_4), .val (.ref r_5), .val (.ref r_6), .val (.ref b7), .unset, .unset, .unset, .unset, .unset, .unset, .unset, .unset, .unset, .unset, .unset, .unset, .unset, .unset, .unset, .unset, .unset, .unset]) rfl ?_
    show Steps p.tables e below (T7.setTop (mkF m 51 #[.val (.int p1), .val (.int p2), .val (.int p3), .val (.int p4), .val (.int i1), .val (.int i2), .val (.int i3), .val (.ref r_4), .val (.ref r_5), .val (.ref r_6), .val (.ref b7), .unset, .unset, .unset, .unset, .unset, .unset, .unset, .unset, .unset, .unset, .unset, .unset, .unset, .unset, .unset, .unset, .unset, .unset] [])) τ
    refine XS.aload X7.here hx rfl (hb hby at_51) rfl rfl ?_
    show Steps p.tables e below (T7.setTop (mkF m 53 #[.val (.int p1), .val (.int p2), .val (.int p3), .val (.int p4), .val (.int i1), .val (.int i2), .val (.int i3), .val (.ref r_4), .val (.ref r_5), .val (.ref r_6), .val (.ref b7), .unset, .unset, .unset, .unset, .unset, .unset, .unset, .unset, .unset, .unset, .unset, .unset, .unset, .unset, .unset, .unset, .unset, .unset] [(.ref b7)])) τ
    refine XS.iconst X7.here hx rfl (hb hby at_53) ?_
    show Steps p.tables e below (T7.setTop (mkF m 54 #[.val (.int p1), .val (.int p2), .val (.int p3), .val (.int p4), .val (.int i1), .val (.int i2), .val (.int i3), .val (.ref r_4), .val (.ref r_5), .val (.ref r_6), .val (.ref b7), .unset, .unset, .unset, .unset, .unset, .unset, .unset, .unset, .unset, .unset, .unset, .unset, .unset, .unset, .unset, .unset, .unset, .unset] [(.int (0 : Int32)), (.ref b7)])) τ
    exact κ)
  obtain ⟨as8, T8, h8, kn8, bs8, kc8, X8, e8, E8, hS, hk, hZ, hown, Ea8, Ca8, Va8, Ba8, la8, lb8, HRn8, Li8, sf8, st8⟩ := ldcCH X7 hx hZ hown (hw _ (List.mem_of_getElem? (i := 8) rfl)) wS e7 hS hk hEL (List.mem_of_getElem? (i := 2) rfl) H (vs := []) (z := (0 : Int32)) ⟨by decide, rfl⟩ (by decide) rfl (g := (mkF m 54 #[.val (.int p1), .val (.int p2), .val (.int p3), .val (.int p4), .val (.int i1), .val (.int i2), .val (.int i3), .val (.ref r_4), .val (.ref r_5), .val (.ref r_6), .val (.ref b7), .unset, .unset, .unset, .unset, .unset, .unset, .unset, .unset, .unset, .unset, .unset, .unset, .unset, .unset, .unset, .unset, .unset, .unset] [(.int (0 : Int32)), (.ref b7)])) rfl (hb hby at_54) (n := 0) (by decide) (by decide) (by decide) (by decide)
  have S_c : Sta Z h8 "java/lang/String" "COMPACT_STRINGS" "Z" (.int cw) := S_c.ext E8
  have F_r_4 : own_S Z h8 (.ref r_4) (some (own_pk ((p1.toUInt32 >>> ((8 : Int32) &&& 31).toUInt32).toInt32))) := own_S_ext F_r_4 E8
  have F_r_5 : own_S Z h8 (.ref r_5) (some (own_pk ((p2.toUInt32 >>> ((8 : Int32) &&& 31).toUInt32).toInt32))) := own_S_ext F_r_5 E8
  have F_r_6 : own_S Z h8 (.ref r_6) (some (own_pk ((p3.toUInt32 >>> ((8 : Int32) &&& 31).toUInt32).toInt32))) := own_S_ext F_r_6 E8
  have V_st : Arv Z h8 b7 k7 (.object "java/lang/String") (3 : Int32) (List.replicate 3 .null) .null := V_st.ext E8
  have L_st : own_SL Z h8 (List.replicate 3 .null) (List.replicate 3 (none : own_T)) := own_SL_ext L_st E8
  have Zn : n0 ≤ h8.size := Nat.le_trans Zn E8.1
  have HR := HR.trans HRn8
  have H := HR.1
  have F_s8 : own_S Z h8 (.ref as8) (some []) := Or.inr ⟨_, _, _, _, _, _, rfl, rfl, (hw _ (List.mem_of_getElem? (i := 10) rfl)), Ea8, Ca8, Va8, Ba8, rfl⟩
  have pre : ∀ τ, Steps p.tables e below (T8.setTop (mkF m 56 #[.val (.int p1), .val (.int p2), .val (.int p3), .val (.int p4), .val (.int i1), .val (.int i2), .val (.int i3), .val (.ref r_4), .val (.ref r_5), .val (.ref r_6), .val (.ref b7), .unset, .unset, .unset, .unset, .unset, .unset, .unset, .unset, .unset, .unset, .unset, .unset, .unset, .unset, .unset, .unset, .unset, .unset] [(.ref as8), (.int (0 : Int32)), (.ref b7)])) τ → G τ := fun τ κ => pre τ (st8 τ κ)
  obtain ⟨c9, Ar9, q9, S9, Nz9, Hh9, Gg9⟩ := id V_st
  have hin9 : ¬ ((0 : Int32) < 0 ∨ c9.slots.size ≤ ((0 : Int32)).toNatClampNeg) := inb_of S9 ⟨by decide, by decide⟩
  obtain ⟨T9, h9, X9, e9, W9, st9⟩ := stR X8 hx hZ e8 Ar9 (j := (0 : Int32)) hin9 rfl (own_S_sto F_s8 Ar9 q9 O7) (g := (mkF m 56 #[.val (.int p1), .val (.int p2), .val (.int p3), .val (.int p4), .val (.int i1), .val (.int i2), .val (.int i3), .val (.ref r_4), .val (.ref r_5), .val (.ref r_6), .val (.ref b7), .unset, .unset, .unset, .unset, .unset, .unset, .unset, .unset, .unset, .unset, .unset, .unset, .unset, .unset, .unset, .unset, .unset, .unset] [(.ref as8), (.int (0 : Int32)), (.ref b7)])) rfl rfl (hb hby at_56)
  have V_st : Arv Z h9 b7 k7 (.object "java/lang/String") (3 : Int32) ((List.replicate 3 .null).set ((0 : Int32)).toNatClampNeg (.ref as8)) .null := Arv.set Ar9 q9 S9 Nz9 Hh9 Gg9 (own_S_fit F_s8) W9 _ rfl (by decide)
  have Ns := (Or.inr ⟨_, _, Ar9, by decide⟩ : own_ns Z h8 b7)
  have hk := Nat.le_trans hk (Keep.of_wr W9).1
  have HR := HR.trans (CHr.wr W9 (own_safe hZ.alike Ns) H)
  have H := HR.1
  have S_c : Sta Z h9 "java/lang/String" "COMPACT_STRINGS" "Z" (.int cw) := S_c.wr W9
  have F_r_4 : own_S Z h9 (.ref r_4) (some (own_pk ((p1.toUInt32 >>> ((8 : Int32) &&& 31).toUInt32).toInt32))) := own_S_wr F_r_4 W9 Ns
  have F_r_5 : own_S Z h9 (.ref r_5) (some (own_pk ((p2.toUInt32 >>> ((8 : Int32) &&& 31).toUInt32).toInt32))) := own_S_wr F_r_5 W9 Ns
  have F_r_6 : own_S Z h9 (.ref r_6) (some (own_pk ((p3.toUInt32 >>> ((8 : Int32) &&& 31).toUInt32).toInt32))) := own_S_wr F_r_6 W9 Ns
  have L_st : own_SL Z h9 (List.replicate 3 .null) (List.replicate 3 (none : own_T)) := own_SL_wr L_st W9 Ns
  have F_s8 : own_S Z h9 (.ref as8) (some []) := own_S_wr F_s8 W9 Ns
  have Zn : n0 ≤ h9.size := Nat.le_trans Zn (Keep.of_wr W9).1
  have NN := Fr.snoc X9 NN g_b7
  have pre : ∀ τ, Steps p.tables e below (T9.setTop (mkF m 57 #[.val (.int p1), .val (.int p2), .val (.int p3), .val (.int p4), .val (.int i1), .val (.int i2), .val (.int i3), .val (.ref r_4), .val (.ref r_5), .val (.ref r_6), .val (.ref b7), .unset, .unset, .unset, .unset, .unset, .unset, .unset, .unset, .unset, .unset, .unset, .unset, .unset, .unset, .unset, .unset, .unset, .unset] [])) τ → G τ := fun τ κ => pre τ (st9 τ κ)
  have L_st : own_SL Z h9 ((List.replicate 3 .null).set ((0 : Int32)).toNatClampNeg (.ref as8)) ((List.replicate 3 (none : own_T)).set ((0 : Int32)).toNatClampNeg (some [])) := own_SL_set L_st F_s8 _
  have pre : ∀ τ, Steps p.tables e below (T9.setTop (mkF m 60 #[.val (.int p1), .val (.int p2), .val (.int p3), .val (.int p4), .val (.int i1), .val (.int i2), .val (.int i3), .val (.ref r_4), .val (.ref r_5), .val (.ref r_6), .val (.ref b7), .unset, .unset, .unset, .unset, .unset, .unset, .unset, .unset, .unset, .unset, .unset, .unset, .unset, .unset, .unset, .unset, .unset, .unset] [(.int (1 : Int32)), (.ref b7)])) τ → G τ := fun τ κ => pre τ (by
    refine XS.aload X9.here hx rfl (hb hby at_57) rfl rfl ?_
    show Steps p.tables e below (T9.setTop (mkF m 59 #[.val (.int p1), .val (.int p2), .val (.int p3), .val (.int p4), .val (.int i1), .val (.int i2), .val (.int i3), .val (.ref r_4), .val (.ref r_5), .val (.ref r_6), .val (.ref b7), .unset, .unset, .unset, .unset, .unset, .unset, .unset, .unset, .unset, .unset, .unset, .unset, .unset, .unset, .unset, .unset, .unset, .unset] [(.ref b7)])) τ
    refine XS.iconst X9.here hx rfl (hb hby at_59) ?_
    show Steps p.tables e below (T9.setTop (mkF m 60 #[.val (.int p1), .val (.int p2), .val (.int p3), .val (.int p4), .val (.int i1), .val (.int i2), .val (.int i3), .val (.ref r_4), .val (.ref r_5), .val (.ref r_6), .val (.ref b7), .unset, .unset, .unset, .unset, .unset, .unset, .unset, .unset, .unset, .unset, .unset, .unset, .unset, .unset, .unset, .unset, .unset, .unset] [(.int (1 : Int32)), (.ref b7)])) τ
    exact κ)
  obtain ⟨as10, T10, h10, kn10, bs10, kc10, X10, e10, E10, hS, hk, hZ, hown, Ea10, Ca10, Va10, Ba10, la10, lb10, HRn10, Li10, sf10, st10⟩ := ldcCH X9 hx hZ hown (hw _ (List.mem_of_getElem? (i := 19) rfl)) wS e9 hS hk hEL (List.mem_of_getElem? (i := 3) rfl) H (vs := [(.int (120 : Int32)), (.int (109 : Int32)), (.int (108 : Int32))]) (z := (3 : Int32)) ⟨by decide, rfl⟩ (by decide) rfl (g := (mkF m 60 #[.val (.int p1), .val (.int p2), .val (.int p3), .val (.int p4), .val (.int i1), .val (.int i2), .val (.int i3), .val (.ref r_4), .val (.ref r_5), .val (.ref r_6), .val (.ref b7), .unset, .unset, .unset, .unset, .unset, .unset, .unset, .unset, .unset, .unset, .unset, .unset, .unset, .unset, .unset, .unset, .unset, .unset] [(.int (1 : Int32)), (.ref b7)])) rfl (hb hby at_60) (n := 12) (by decide) (by decide) (by decide) (by decide)
  have S_c : Sta Z h10 "java/lang/String" "COMPACT_STRINGS" "Z" (.int cw) := S_c.ext E10
  have F_r_4 : own_S Z h10 (.ref r_4) (some (own_pk ((p1.toUInt32 >>> ((8 : Int32) &&& 31).toUInt32).toInt32))) := own_S_ext F_r_4 E10
  have F_r_5 : own_S Z h10 (.ref r_5) (some (own_pk ((p2.toUInt32 >>> ((8 : Int32) &&& 31).toUInt32).toInt32))) := own_S_ext F_r_5 E10
  have F_r_6 : own_S Z h10 (.ref r_6) (some (own_pk ((p3.toUInt32 >>> ((8 : Int32) &&& 31).toUInt32).toInt32))) := own_S_ext F_r_6 E10
  have V_st : Arv Z h10 b7 k7 (.object "java/lang/String") (3 : Int32) ((List.replicate 3 .null).set ((0 : Int32)).toNatClampNeg (.ref as8)) .null := V_st.ext E10
  have L_st : own_SL Z h10 ((List.replicate 3 .null).set ((0 : Int32)).toNatClampNeg (.ref as8)) ((List.replicate 3 (none : own_T)).set ((0 : Int32)).toNatClampNeg (some [])) := own_SL_ext L_st E10
  have F_s8 : own_S Z h10 (.ref as8) (some []) := own_S_ext F_s8 E10
  have Zn : n0 ≤ h10.size := Nat.le_trans Zn E10.1
  have HR := HR.trans HRn10
  have H := HR.1
  have F_s10 : own_S Z h10 (.ref as10) (some [(.int (120 : Int32)), (.int (109 : Int32)), (.int (108 : Int32))]) := Or.inr ⟨_, _, _, _, _, _, rfl, rfl, (hw _ (List.mem_of_getElem? (i := 10) rfl)), Ea10, Ca10, Va10, Ba10, rfl⟩
  have pre : ∀ τ, Steps p.tables e below (T10.setTop (mkF m 62 #[.val (.int p1), .val (.int p2), .val (.int p3), .val (.int p4), .val (.int i1), .val (.int i2), .val (.int i3), .val (.ref r_4), .val (.ref r_5), .val (.ref r_6), .val (.ref b7), .unset, .unset, .unset, .unset, .unset, .unset, .unset, .unset, .unset, .unset, .unset, .unset, .unset, .unset, .unset, .unset, .unset, .unset] [(.ref as10), (.int (1 : Int32)), (.ref b7)])) τ → G τ := fun τ κ => pre τ (st10 τ κ)
  obtain ⟨c11, Ar11, q11, S11, Nz11, Hh11, Gg11⟩ := id V_st
  have hin11 : ¬ ((1 : Int32) < 0 ∨ c11.slots.size ≤ ((1 : Int32)).toNatClampNeg) := inb_of S11 ⟨by decide, by decide⟩
  obtain ⟨T11, h11, X11, e11, W11, st11⟩ := stR X10 hx hZ e10 Ar11 (j := (1 : Int32)) hin11 rfl (own_S_sto F_s10 Ar11 q11 O7) (g := (mkF m 62 #[.val (.int p1), .val (.int p2), .val (.int p3), .val (.int p4), .val (.int i1), .val (.int i2), .val (.int i3), .val (.ref r_4), .val (.ref r_5), .val (.ref r_6), .val (.ref b7), .unset, .unset, .unset, .unset, .unset, .unset, .unset, .unset, .unset, .unset, .unset, .unset, .unset, .unset, .unset, .unset, .unset, .unset] [(.ref as10), (.int (1 : Int32)), (.ref b7)])) rfl rfl (hb hby at_62)
  have V_st : Arv Z h11 b7 k7 (.object "java/lang/String") (3 : Int32) (((List.replicate 3 .null).set ((0 : Int32)).toNatClampNeg (.ref as8)).set ((1 : Int32)).toNatClampNeg (.ref as10)) .null := Arv.set Ar11 q11 S11 Nz11 Hh11 Gg11 (own_S_fit F_s10) W11 _ rfl (by rw [List.length_set]; decide)
  have Ns := (Or.inr ⟨_, _, Ar11, by decide⟩ : own_ns Z h10 b7)
  have hk := Nat.le_trans hk (Keep.of_wr W11).1
  have HR := HR.trans (CHr.wr W11 (own_safe hZ.alike Ns) H)
  have H := HR.1
  have S_c : Sta Z h11 "java/lang/String" "COMPACT_STRINGS" "Z" (.int cw) := S_c.wr W11
  have F_r_4 : own_S Z h11 (.ref r_4) (some (own_pk ((p1.toUInt32 >>> ((8 : Int32) &&& 31).toUInt32).toInt32))) := own_S_wr F_r_4 W11 Ns
  have F_r_5 : own_S Z h11 (.ref r_5) (some (own_pk ((p2.toUInt32 >>> ((8 : Int32) &&& 31).toUInt32).toInt32))) := own_S_wr F_r_5 W11 Ns
  have F_r_6 : own_S Z h11 (.ref r_6) (some (own_pk ((p3.toUInt32 >>> ((8 : Int32) &&& 31).toUInt32).toInt32))) := own_S_wr F_r_6 W11 Ns
  have L_st : own_SL Z h11 ((List.replicate 3 .null).set ((0 : Int32)).toNatClampNeg (.ref as8)) ((List.replicate 3 (none : own_T)).set ((0 : Int32)).toNatClampNeg (some [])) := own_SL_wr L_st W11 Ns
  have F_s8 : own_S Z h11 (.ref as8) (some []) := own_S_wr F_s8 W11 Ns
  have F_s10 : own_S Z h11 (.ref as10) (some [(.int (120 : Int32)), (.int (109 : Int32)), (.int (108 : Int32))]) := own_S_wr F_s10 W11 Ns
  have Zn : n0 ≤ h11.size := Nat.le_trans Zn (Keep.of_wr W11).1
  have NN := Fr.snoc X11 NN g_b7
  have pre : ∀ τ, Steps p.tables e below (T11.setTop (mkF m 63 #[.val (.int p1), .val (.int p2), .val (.int p3), .val (.int p4), .val (.int i1), .val (.int i2), .val (.int i3), .val (.ref r_4), .val (.ref r_5), .val (.ref r_6), .val (.ref b7), .unset, .unset, .unset, .unset, .unset, .unset, .unset, .unset, .unset, .unset, .unset, .unset, .unset, .unset, .unset, .unset, .unset, .unset] [])) τ → G τ := fun τ κ => pre τ (st11 τ κ)
  have L_st : own_SL Z h11 (((List.replicate 3 .null).set ((0 : Int32)).toNatClampNeg (.ref as8)).set ((1 : Int32)).toNatClampNeg (.ref as10)) (((List.replicate 3 (none : own_T)).set ((0 : Int32)).toNatClampNeg (some [])).set ((1 : Int32)).toNatClampNeg (some [(.int (120 : Int32)), (.int (109 : Int32)), (.int (108 : Int32))])) := own_SL_set L_st F_s10 _
  have pre : ∀ τ, Steps p.tables e below (T11.setTop (mkF m 67 #[.val (.int p1), .val (.int p2), .val (.int p3), .val (.int p4), .val (.int i1), .val (.int i2), .val (.int i3), .val (.ref r_4), .val (.ref r_5), .val (.ref r_6), .val (.ref b7), .unset, .unset, .unset, .unset, .unset, .unset, .unset, .unset, .unset, .unset, .unset, .unset, .unset, .unset, .unset, .unset, .unset, .unset] [.null, (.int (2 : Int32)), (.ref b7)])) τ → G τ := fun τ κ => pre τ (by
    refine XS.aload X11.here hx rfl (hb hby at_63) rfl rfl ?_
    show Steps p.tables e below (T11.setTop (mkF m 65 #[.val (.int p1), .val (.int p2), .val (.int p3), .val (.int p4), .val (.int i1), .val (.int i2), .val (.int i3), .val (.ref r_4), .val (.ref r_5), .val (.ref r_6), .val (.ref b7), .unset, .unset, .unset, .unset, .unset, .unset, .unset, .unset, .unset, .unset, .unset, .unset, .unset, .unset, .unset, .unset, .unset, .unset] [(.ref b7)])) τ
    refine XS.iconst X11.here hx rfl (hb hby at_65) ?_
    show Steps p.tables e below (T11.setTop (mkF m 66 #[.val (.int p1), .val (.int p2), .val (.int p3), .val (.int p4), .val (.int i1), .val (.int i2), .val (.int i3), .val (.ref r_4), .val (.ref r_5), .val (.ref r_6), .val (.ref b7), .unset, .unset, .unset, .unset, .unset, .unset, .unset, .unset, .unset, .unset, .unset, .unset, .unset, .unset, .unset, .unset, .unset, .unset] [(.int (2 : Int32)), (.ref b7)])) τ
    refine XS.aconstNull X11.here hx rfl (hb hby at_66) ?_
    show Steps p.tables e below (T11.setTop (mkF m 67 #[.val (.int p1), .val (.int p2), .val (.int p3), .val (.int p4), .val (.int i1), .val (.int i2), .val (.int i3), .val (.ref r_4), .val (.ref r_5), .val (.ref r_6), .val (.ref b7), .unset, .unset, .unset, .unset, .unset, .unset, .unset, .unset, .unset, .unset, .unset, .unset, .unset, .unset, .unset, .unset, .unset, .unset] [.null, (.int (2 : Int32)), (.ref b7)])) τ
    exact κ)
  obtain ⟨c12, Ar12, q12, S12, Nz12, Hh12, Gg12⟩ := id V_st
  have hin12 : ¬ ((2 : Int32) < 0 ∨ c12.slots.size ≤ ((2 : Int32)).toNatClampNeg) := inb_of S12 ⟨by decide, by decide⟩
  obtain ⟨T12, h12, X12, e12, W12, st12⟩ := stR X11 hx hZ e11 Ar12 (j := (2 : Int32)) hin12 rfl (Or.inl rfl) (g := (mkF m 67 #[.val (.int p1), .val (.int p2), .val (.int p3), .val (.int p4), .val (.int i1), .val (.int i2), .val (.int i3), .val (.ref r_4), .val (.ref r_5), .val (.ref r_6), .val (.ref b7), .unset, .unset, .unset, .unset, .unset, .unset, .unset, .unset, .unset, .unset, .unset, .unset, .unset, .unset, .unset, .unset, .unset, .unset] [.null, (.int (2 : Int32)), (.ref b7)])) rfl rfl (hb hby at_67)
  have V_st : Arv Z h12 b7 k7 (.object "java/lang/String") (3 : Int32) ((((List.replicate 3 .null).set ((0 : Int32)).toNatClampNeg (.ref as8)).set ((1 : Int32)).toNatClampNeg (.ref as10)).set ((2 : Int32)).toNatClampNeg .null) .null := Arv.set Ar12 q12 S12 Nz12 Hh12 Gg12 rfl W12 _ rfl (by rw [List.length_set, List.length_set]; decide)
  have Ns := (Or.inr ⟨_, _, Ar12, by decide⟩ : own_ns Z h11 b7)
  have hk := Nat.le_trans hk (Keep.of_wr W12).1
  have HR := HR.trans (CHr.wr W12 (own_safe hZ.alike Ns) H)
  have H := HR.1
  have S_c : Sta Z h12 "java/lang/String" "COMPACT_STRINGS" "Z" (.int cw) := S_c.wr W12
  have F_r_4 : own_S Z h12 (.ref r_4) (some (own_pk ((p1.toUInt32 >>> ((8 : Int32) &&& 31).toUInt32).toInt32))) := own_S_wr F_r_4 W12 Ns
  have F_r_5 : own_S Z h12 (.ref r_5) (some (own_pk ((p2.toUInt32 >>> ((8 : Int32) &&& 31).toUInt32).toInt32))) := own_S_wr F_r_5 W12 Ns
  have F_r_6 : own_S Z h12 (.ref r_6) (some (own_pk ((p3.toUInt32 >>> ((8 : Int32) &&& 31).toUInt32).toInt32))) := own_S_wr F_r_6 W12 Ns
  have L_st : own_SL Z h12 (((List.replicate 3 .null).set ((0 : Int32)).toNatClampNeg (.ref as8)).set ((1 : Int32)).toNatClampNeg (.ref as10)) (((List.replicate 3 (none : own_T)).set ((0 : Int32)).toNatClampNeg (some [])).set ((1 : Int32)).toNatClampNeg (some [(.int (120 : Int32)), (.int (109 : Int32)), (.int (108 : Int32))])) := own_SL_wr L_st W12 Ns
  have F_s8 : own_S Z h12 (.ref as8) (some []) := own_S_wr F_s8 W12 Ns
  have F_s10 : own_S Z h12 (.ref as10) (some [(.int (120 : Int32)), (.int (109 : Int32)), (.int (108 : Int32))]) := own_S_wr F_s10 W12 Ns
  have Zn : n0 ≤ h12.size := Nat.le_trans Zn (Keep.of_wr W12).1
  have NN := Fr.snoc X12 NN g_b7
  have pre : ∀ τ, Steps p.tables e below (T12.setTop (mkF m 68 #[.val (.int p1), .val (.int p2), .val (.int p3), .val (.int p4), .val (.int i1), .val (.int i2), .val (.int i3), .val (.ref r_4), .val (.ref r_5), .val (.ref r_6), .val (.ref b7), .unset, .unset, .unset, .unset, .unset, .unset, .unset, .unset, .unset, .unset, .unset, .unset, .unset, .unset, .unset, .unset, .unset, .unset] [])) τ → G τ := fun τ κ => pre τ (st12 τ κ)
  have L_st : own_SL Z h12 ((((List.replicate 3 .null).set ((0 : Int32)).toNatClampNeg (.ref as8)).set ((1 : Int32)).toNatClampNeg (.ref as10)).set ((2 : Int32)).toNatClampNeg .null) ((((List.replicate 3 (none : own_T)).set ((0 : Int32)).toNatClampNeg (some [])).set ((1 : Int32)).toNatClampNeg (some [(.int (120 : Int32)), (.int (109 : Int32)), (.int (108 : Int32))])).set ((2 : Int32)).toNatClampNeg none) := own_SL_set L_st (Or.inl ⟨rfl, rfl⟩) _
  obtain ⟨sv0, hsv0⟩ : ∃ q : List Value, q = ((((List.replicate 3 .null).set ((0 : Int32)).toNatClampNeg (.ref as8)).set ((1 : Int32)).toNatClampNeg (.ref as10)).set ((2 : Int32)).toNatClampNeg .null) := ⟨_, rfl⟩
  obtain ⟨so0, hso0⟩ : ∃ q : List own_T, q = ((((List.replicate 3 (none : own_T)).set ((0 : Int32)).toNatClampNeg (some [])).set ((1 : Int32)).toNatClampNeg (some [(.int (120 : Int32)), (.int (109 : Int32)), (.int (108 : Int32))])).set ((2 : Int32)).toNatClampNeg none) := ⟨_, rfl⟩
  have V_st : Arv Z h12 b7 k7 (.object "java/lang/String") (3 : Int32) sv0 .null := by rw [hsv0]; exact V_st
  have L_st : own_SL Z h12 sv0 so0 := by rw [hsv0, hso0]; exact L_st
  have hl0 : sv0.length = 3 := by rw [hsv0]; exact rfl
  have pre : ∀ τ, Steps p.tables e below (T12.setTop (mkF m 71 #[.val (.int p1), .val (.int p2), .val (.int p3), .val (.int p4), .val (.int i1), .val (.int i2), .val (.int i3), .val (.ref r_4), .val (.ref r_5), .val (.ref r_6), .val (.ref b7), .unset, .unset, .unset, .unset, .unset, .unset, .unset, .unset, .unset, .unset, .unset, .unset, .unset, .unset, .unset, .unset, .unset, .unset] [(.int (0 : Int32)), (.ref b7)])) τ → G τ := fun τ κ => pre τ (by
    refine XS.aload X12.here hx rfl (hb hby at_68) rfl rfl ?_
    show Steps p.tables e below (T12.setTop (mkF m 70 #[.val (.int p1), .val (.int p2), .val (.int p3), .val (.int p4), .val (.int i1), .val (.int i2), .val (.int i3), .val (.ref r_4), .val (.ref r_5), .val (.ref r_6), .val (.ref b7), .unset, .unset, .unset, .unset, .unset, .unset, .unset, .unset, .unset, .unset, .unset, .unset, .unset, .unset, .unset, .unset, .unset, .unset] [(.ref b7)])) τ
    refine XS.iconst X12.here hx rfl (hb hby at_70) ?_
    show Steps p.tables e below (T12.setTop (mkF m 71 #[.val (.int p1), .val (.int p2), .val (.int p3), .val (.int p4), .val (.int i1), .val (.int i2), .val (.int i3), .val (.ref r_4), .val (.ref r_5), .val (.ref r_6), .val (.ref b7), .unset, .unset, .unset, .unset, .unset, .unset, .unset, .unset, .unset, .unset, .unset, .unset, .unset, .unset, .unset, .unset, .unset, .unset] [(.int (0 : Int32)), (.ref b7)])) τ
    exact κ)
  obtain ⟨c13, Ar13, q13, S13, Nz13, Hh13, Gg13⟩ := id V_st
  have F_ld13 : own_S Z h12 (sv0.getD ((0 : Int32)).toNatClampNeg .null) (so0.getD ((0 : Int32)).toNatClampNeg none) := L_st.2 _
  have hin13 : ¬ ((0 : Int32) < 0 ∨ c13.slots.size ≤ ((0 : Int32)).toNatClampNeg) := inb_of S13 ⟨by decide, by decide⟩
  have hat13 : c13.slots[((0 : Int32)).toNatClampNeg]? = some (sv0.getD ((0 : Int32)).toNatClampNeg .null) := Hh13.at hin13 rfl
  have pre : ∀ τ, Steps p.tables e below (T12.setTop (mkF m 72 #[.val (.int p1), .val (.int p2), .val (.int p3), .val (.int p4), .val (.int i1), .val (.int i2), .val (.int i3), .val (.ref r_4), .val (.ref r_5), .val (.ref r_6), .val (.ref b7), .unset, .unset, .unset, .unset, .unset, .unset, .unset, .unset, .unset, .unset, .unset, .unset, .unset, .unset, .unset, .unset, .unset, .unset] [(sv0.getD ((0 : Int32)).toNatClampNeg .null)])) τ → G τ := fun τ κ => pre τ (X12.aaload hx (j := (0 : Int32)) (v := (sv0.getD ((0 : Int32)).toNatClampNeg .null)) (by rw [e12]; exact Ar13.1) (State.isArrayOf_alike hZ.alike Ar13.2.1) rfl Ar13.2.2 hin13 hat13 (g := (mkF m 71 #[.val (.int p1), .val (.int p2), .val (.int p3), .val (.int p4), .val (.int i1), .val (.int i2), .val (.int i3), .val (.ref r_4), .val (.ref r_5), .val (.ref r_6), .val (.ref b7), .unset, .unset, .unset, .unset, .unset, .unset, .unset, .unset, .unset, .unset, .unset, .unset, .unset, .unset, .unset, .unset, .unset, .unset] [(.int (0 : Int32)), (.ref b7)])) rfl rfl (hb hby at_71) _ κ)
  obtain ⟨e00, he00⟩ : ∃ q : Value, q = (sv0.getD ((0 : Int32)).toNatClampNeg .null) := ⟨_, rfl⟩
  have F_e00 : own_S Z h12 e00 (so0.getD ((0 : Int32)).toNatClampNeg none) := by rw [he00]; exact F_ld13
  have pre : ∀ τ, Steps p.tables e below (T12.setTop (mkF m 72 #[.val (.int p1), .val (.int p2), .val (.int p3), .val (.int p4), .val (.int i1), .val (.int i2), .val (.int i3), .val (.ref r_4), .val (.ref r_5), .val (.ref r_6), .val (.ref b7), .unset, .unset, .unset, .unset, .unset, .unset, .unset, .unset, .unset, .unset, .unset, .unset, .unset, .unset, .unset, .unset, .unset, .unset] [e00])) τ → G τ := by rw [he00]; exact pre
  have pre : ∀ τ, Steps p.tables e below (T12.setTop (mkF m 77 #[.val (.int p1), .val (.int p2), .val (.int p3), .val (.int p4), .val (.int i1), .val (.int i2), .val (.int i3), .val (.ref r_4), .val (.ref r_5), .val (.ref r_6), .val (.ref b7), .val e00, .unset, .unset, .unset, .unset, .unset, .unset, .unset, .unset, .unset, .unset, .unset, .unset, .unset, .unset, .unset, .unset, .unset] [(.int (1 : Int32)), (.ref b7)])) τ → G τ := fun τ κ => pre τ (by
    refine XS.astore X12.here hx rfl (hb hby at_72) rfl (own_S_ref F_e00) (l' := #[.val (.int p1), .val (.int p2), .val (.int p3), .val (.int p4), .val (.int i1), .val (.int i2), .val (.int i3), .val (.ref r_4), .val (.ref r_5), .val (.ref r_6), .val (.ref b7), .val e00, .unset, .unset, .unset, .unset, .unset, .unset, .unset, .unset, .unset, .unset, .unset, .unset, .unset, .unset, .unset, .unset, .unset]) (XS.store1 rfl (Or.inl rfl) (own_cat (own_S_ref F_e00))) ?_
    show Steps p.tables e below (T12.setTop (mkF m 74 #[.val (.int p1), .val (.int p2), .val (.int p3), .val (.int p4), .val (.int i1), .val (.int i2), .val (.int i3), .val (.ref r_4), .val (.ref r_5), .val (.ref r_6), .val (.ref b7), .val e00, .unset, .unset, .unset, .unset, .unset, .unset, .unset, .unset, .unset, .unset, .unset, .unset, .unset, .unset, .unset, .unset, .unset] [])) τ
    refine XS.aload X12.here hx rfl (hb hby at_74) rfl rfl ?_
    show Steps p.tables e below (T12.setTop (mkF m 76 #[.val (.int p1), .val (.int p2), .val (.int p3), .val (.int p4), .val (.int i1), .val (.int i2), .val (.int i3), .val (.ref r_4), .val (.ref r_5), .val (.ref r_6), .val (.ref b7), .val e00, .unset, .unset, .unset, .unset, .unset, .unset, .unset, .unset, .unset, .unset, .unset, .unset, .unset, .unset, .unset, .unset, .unset] [(.ref b7)])) τ
    refine XS.iconst X12.here hx rfl (hb hby at_76) ?_
    show Steps p.tables e below (T12.setTop (mkF m 77 #[.val (.int p1), .val (.int p2), .val (.int p3), .val (.int p4), .val (.int i1), .val (.int i2), .val (.int i3), .val (.ref r_4), .val (.ref r_5), .val (.ref r_6), .val (.ref b7), .val e00, .unset, .unset, .unset, .unset, .unset, .unset, .unset, .unset, .unset, .unset, .unset, .unset, .unset, .unset, .unset, .unset, .unset] [(.int (1 : Int32)), (.ref b7)])) τ
    exact κ)
  obtain ⟨c14, Ar14, q14, S14, Nz14, Hh14, Gg14⟩ := id V_st
  have F_ld14 : own_S Z h12 (sv0.getD ((1 : Int32)).toNatClampNeg .null) (so0.getD ((1 : Int32)).toNatClampNeg none) := L_st.2 _
  have hin14 : ¬ ((1 : Int32) < 0 ∨ c14.slots.size ≤ ((1 : Int32)).toNatClampNeg) := inb_of S14 ⟨by decide, by decide⟩
  have hat14 : c14.slots[((1 : Int32)).toNatClampNeg]? = some (sv0.getD ((1 : Int32)).toNatClampNeg .null) := Hh14.at hin14 rfl
  have pre : ∀ τ, Steps p.tables e below (T12.setTop (mkF m 78 #[.val (.int p1), .val (.int p2), .val (.int p3), .val (.int p4), .val (.int i1), .val (.int i2), .val (.int i3), .val (.ref r_4), .val (.ref r_5), .val (.ref r_6), .val (.ref b7), .val e00, .unset, .unset, .unset, .unset, .unset, .unset, .unset, .unset, .unset, .unset, .unset, .unset, .unset, .unset, .unset, .unset, .unset] [(sv0.getD ((1 : Int32)).toNatClampNeg .null)])) τ → G τ := fun τ κ => pre τ (X12.aaload hx (j := (1 : Int32)) (v := (sv0.getD ((1 : Int32)).toNatClampNeg .null)) (by rw [e12]; exact Ar14.1) (State.isArrayOf_alike hZ.alike Ar14.2.1) rfl Ar14.2.2 hin14 hat14 (g := (mkF m 77 #[.val (.int p1), .val (.int p2), .val (.int p3), .val (.int p4), .val (.int i1), .val (.int i2), .val (.int i3), .val (.ref r_4), .val (.ref r_5), .val (.ref r_6), .val (.ref b7), .val e00, .unset, .unset, .unset, .unset, .unset, .unset, .unset, .unset, .unset, .unset, .unset, .unset, .unset, .unset, .unset, .unset, .unset] [(.int (1 : Int32)), (.ref b7)])) rfl rfl (hb hby at_77) _ κ)
  obtain ⟨e01, he01⟩ : ∃ q : Value, q = (sv0.getD ((1 : Int32)).toNatClampNeg .null) := ⟨_, rfl⟩
  have F_e01 : own_S Z h12 e01 (so0.getD ((1 : Int32)).toNatClampNeg none) := by rw [he01]; exact F_ld14
  have pre : ∀ τ, Steps p.tables e below (T12.setTop (mkF m 78 #[.val (.int p1), .val (.int p2), .val (.int p3), .val (.int p4), .val (.int i1), .val (.int i2), .val (.int i3), .val (.ref r_4), .val (.ref r_5), .val (.ref r_6), .val (.ref b7), .val e00, .unset, .unset, .unset, .unset, .unset, .unset, .unset, .unset, .unset, .unset, .unset, .unset, .unset, .unset, .unset, .unset, .unset] [e01])) τ → G τ := by rw [he01]; exact pre
  have pre : ∀ τ, Steps p.tables e below (T12.setTop (mkF m 83 #[.val (.int p1), .val (.int p2), .val (.int p3), .val (.int p4), .val (.int i1), .val (.int i2), .val (.int i3), .val (.ref r_4), .val (.ref r_5), .val (.ref r_6), .val (.ref b7), .val e00, .val e01, .unset, .unset, .unset, .unset, .unset, .unset, .unset, .unset, .unset, .unset, .unset, .unset, .unset, .unset, .unset, .unset] [(.int (2 : Int32)), (.ref b7)])) τ → G τ := fun τ κ => pre τ (by
    refine XS.astore X12.here hx rfl (hb hby at_78) rfl (own_S_ref F_e01) (l' := #[.val (.int p1), .val (.int p2), .val (.int p3), .val (.int p4), .val (.int i1), .val (.int i2), .val (.int i3), .val (.ref r_4), .val (.ref r_5), .val (.ref r_6), .val (.ref b7), .val e00, .val e01, .unset, .unset, .unset, .unset, .unset, .unset, .unset, .unset, .unset, .unset, .unset, .unset, .unset, .unset, .unset, .unset]) (XS.store1 rfl (Or.inl rfl) (own_cat (own_S_ref F_e01))) ?_
    show Steps p.tables e below (T12.setTop (mkF m 80 #[.val (.int p1), .val (.int p2), .val (.int p3), .val (.int p4), .val (.int i1), .val (.int i2), .val (.int i3), .val (.ref r_4), .val (.ref r_5), .val (.ref r_6), .val (.ref b7), .val e00, .val e01, .unset, .unset, .unset, .unset, .unset, .unset, .unset, .unset, .unset, .unset, .unset, .unset, .unset, .unset, .unset, .unset] [])) τ
    refine XS.aload X12.here hx rfl (hb hby at_80) rfl rfl ?_
    show Steps p.tables e below (T12.setTop (mkF m 82 #[.val (.int p1), .val (.int p2), .val (.int p3), .val (.int p4), .val (.int i1), .val (.int i2), .val (.int i3), .val (.ref r_4), .val (.ref r_5), .val (.ref r_6), .val (.ref b7), .val e00, .val e01, .unset, .unset, .unset, .unset, .unset, .unset, .unset, .unset, .unset, .unset, .unset, .unset, .unset, .unset, .unset, .unset] [(.ref b7)])) τ
    refine XS.iconst X12.here hx rfl (hb hby at_82) ?_
    show Steps p.tables e below (T12.setTop (mkF m 83 #[.val (.int p1), .val (.int p2), .val (.int p3), .val (.int p4), .val (.int i1), .val (.int i2), .val (.int i3), .val (.ref r_4), .val (.ref r_5), .val (.ref r_6), .val (.ref b7), .val e00, .val e01, .unset, .unset, .unset, .unset, .unset, .unset, .unset, .unset, .unset, .unset, .unset, .unset, .unset, .unset, .unset, .unset] [(.int (2 : Int32)), (.ref b7)])) τ
    exact κ)
  obtain ⟨c15, Ar15, q15, S15, Nz15, Hh15, Gg15⟩ := id V_st
  have F_ld15 : own_S Z h12 (sv0.getD ((2 : Int32)).toNatClampNeg .null) (so0.getD ((2 : Int32)).toNatClampNeg none) := L_st.2 _
  have hin15 : ¬ ((2 : Int32) < 0 ∨ c15.slots.size ≤ ((2 : Int32)).toNatClampNeg) := inb_of S15 ⟨by decide, by decide⟩
  have hat15 : c15.slots[((2 : Int32)).toNatClampNeg]? = some (sv0.getD ((2 : Int32)).toNatClampNeg .null) := Hh15.at hin15 rfl
  have pre : ∀ τ, Steps p.tables e below (T12.setTop (mkF m 84 #[.val (.int p1), .val (.int p2), .val (.int p3), .val (.int p4), .val (.int i1), .val (.int i2), .val (.int i3), .val (.ref r_4), .val (.ref r_5), .val (.ref r_6), .val (.ref b7), .val e00, .val e01, .unset, .unset, .unset, .unset, .unset, .unset, .unset, .unset, .unset, .unset, .unset, .unset, .unset, .unset, .unset, .unset] [(sv0.getD ((2 : Int32)).toNatClampNeg .null)])) τ → G τ := fun τ κ => pre τ (X12.aaload hx (j := (2 : Int32)) (v := (sv0.getD ((2 : Int32)).toNatClampNeg .null)) (by rw [e12]; exact Ar15.1) (State.isArrayOf_alike hZ.alike Ar15.2.1) rfl Ar15.2.2 hin15 hat15 (g := (mkF m 83 #[.val (.int p1), .val (.int p2), .val (.int p3), .val (.int p4), .val (.int i1), .val (.int i2), .val (.int i3), .val (.ref r_4), .val (.ref r_5), .val (.ref r_6), .val (.ref b7), .val e00, .val e01, .unset, .unset, .unset, .unset, .unset, .unset, .unset, .unset, .unset, .unset, .unset, .unset, .unset, .unset, .unset, .unset] [(.int (2 : Int32)), (.ref b7)])) rfl rfl (hb hby at_83) _ κ)
  obtain ⟨e02, he02⟩ : ∃ q : Value, q = (sv0.getD ((2 : Int32)).toNatClampNeg .null) := ⟨_, rfl⟩
  have F_e02 : own_S Z h12 e02 (so0.getD ((2 : Int32)).toNatClampNeg none) := by rw [he02]; exact F_ld15
  have pre : ∀ τ, Steps p.tables e below (T12.setTop (mkF m 84 #[.val (.int p1), .val (.int p2), .val (.int p3), .val (.int p4), .val (.int i1), .val (.int i2), .val (.int i3), .val (.ref r_4), .val (.ref r_5), .val (.ref r_6), .val (.ref b7), .val e00, .val e01, .unset, .unset, .unset, .unset, .unset, .unset, .unset, .unset, .unset, .unset, .unset, .unset, .unset, .unset, .unset, .unset] [e02])) τ → G τ := by rw [he02]; exact pre
  have pre : ∀ τ, Steps p.tables e below (T12.setTop (mkF m 92 #[.val (.int p1), .val (.int p2), .val (.int p3), .val (.int p4), .val (.int i1), .val (.int i2), .val (.int i3), .val (.ref r_4), .val (.ref r_5), .val (.ref r_6), .val (.ref b7), .val e00, .val e01, .val e02, .unset, .unset, .unset, .unset, .unset, .unset, .unset, .unset, .unset, .unset, .unset, .unset, .unset, .unset, .unset] [(.ref r_4), (.int i1), (.ref b7)])) τ → G τ := fun τ κ => pre τ (by
    refine XS.astore X12.here hx rfl (hb hby at_84) rfl (own_S_ref F_e02) (l' := #[.val (.int p1), .val (.int p2), .val (.int p3), .val (.int p4), .val (.int i1), .val (.int i2), .val (.int i3), .val (.ref r_4), .val (.ref r_5), .val (.ref r_6), .val (.ref b7), .val e00, .val e01, .val e02, .unset, .unset, .unset, .unset, .unset, .unset, .unset, .unset, .unset, .unset, .unset, .unset, .unset, .unset, .unset]) (XS.store1 rfl (Or.inl rfl) (own_cat (own_S_ref F_e02))) ?_
    show Steps p.tables e below (T12.setTop (mkF m 86 #[.val (.int p1), .val (.int p2), .val (.int p3), .val (.int p4), .val (.int i1), .val (.int i2), .val (.int i3), .val (.ref r_4), .val (.ref r_5), .val (.ref r_6), .val (.ref b7), .val e00, .val e01, .val e02, .unset, .unset, .unset, .unset, .unset, .unset, .unset, .unset, .unset, .unset, .unset, .unset, .unset, .unset, .unset] [])) τ
    refine XS.aload X12.here hx rfl (hb hby at_86) rfl rfl ?_
    show Steps p.tables e below (T12.setTop (mkF m 88 #[.val (.int p1), .val (.int p2), .val (.int p3), .val (.int p4), .val (.int i1), .val (.int i2), .val (.int i3), .val (.ref r_4), .val (.ref r_5), .val (.ref r_6), .val (.ref b7), .val e00, .val e01, .val e02, .unset, .unset, .unset, .unset, .unset, .unset, .unset, .unset, .unset, .unset, .unset, .unset, .unset, .unset, .unset] [(.ref b7)])) τ
    refine XS.iload X12.here hx rfl (hb hby at_88) rfl ?_
    show Steps p.tables e below (T12.setTop (mkF m 90 #[.val (.int p1), .val (.int p2), .val (.int p3), .val (.int p4), .val (.int i1), .val (.int i2), .val (.int i3), .val (.ref r_4), .val (.ref r_5), .val (.ref r_6), .val (.ref b7), .val e00, .val e01, .val e02, .unset, .unset, .unset, .unset, .unset, .unset, .unset, .unset, .unset, .unset, .unset, .unset, .unset, .unset, .unset] [(.int i1), (.ref b7)])) τ
    refine XS.aload X12.here hx rfl (hb hby at_90) rfl rfl ?_
    show Steps p.tables e below (T12.setTop (mkF m 92 #[.val (.int p1), .val (.int p2), .val (.int p3), .val (.int p4), .val (.int i1), .val (.int i2), .val (.int i3), .val (.ref r_4), .val (.ref r_5), .val (.ref r_6), .val (.ref b7), .val e00, .val e01, .val e02, .unset, .unset, .unset, .unset, .unset, .unset, .unset, .unset, .unset, .unset, .unset, .unset, .unset, .unset, .unset] [(.ref r_4), (.int i1), (.ref b7)])) τ
    exact κ)
  obtain ⟨_, _, ⟨T16, Lx16, kx16, nx16⟩, -, X16, ⟨Lc16, hQ16, l16, y16, z16⟩, st16⟩ := Jvm.LawKit.callS X12 hx (y := (⟨"coppice/marshal/context/NamespaceScopeRestorePinLaw", "decl", "([Ljava/lang/String;ILjava/lang/String;)V"⟩ : MethodName)) hown (mvT hZ (hw _ (List.mem_of_getElem? (i := 20) rfl))) (mvT hZ (hw _ (List.mem_of_getElem? (i := 21) rfl))) (mvT hZ (hw _ (List.mem_of_getElem? (i := 2) rfl))) (mvT hZ (hw _ (List.mem_of_getElem? (i := 22) rfl))) (by decide) (backOf (W := 0) (rm3 l Z a0 hw [] b7 i1 r_4 k7 sv0 so0 (own_pk ((p1.toUInt32 >>> ((8 : Int32) &&& 31).toUInt32).toInt32)) cw h12 n0 Zn g_b7 V_st L_st O7 F_r_4 S_c hcw bi1 hl0) hZ (hw _ (List.mem_of_getElem? (i := 22) rfl)) (hw _ (List.mem_of_getElem? (i := 2) rfl)) (by decide) (by decide)) (g := (mkF m 92 #[.val (.int p1), .val (.int p2), .val (.int p3), .val (.int p4), .val (.int i1), .val (.int i2), .val (.int i3), .val (.ref r_4), .val (.ref r_5), .val (.ref r_6), .val (.ref b7), .val e00, .val e01, .val e02, .unset, .unset, .unset, .unset, .unset, .unset, .unset, .unset, .unset, .unset, .unset, .unset, .unset, .unset, .unset] [(.ref r_4), (.int i1), (.ref b7)])) rfl (by rw [hml]; rfl) (argsL := [(.ref b7), (.int i1), (.ref r_4)]) (rest := []) (lenOf pd_7 rfl) rfl (by show 2 * 0 + _ ≤ _; exact Nat.le_of_eq rfl) (hb hby at_92) (fun _ _ => ⟨rfl, e12, (by decide : 11 + 0 ≤ _), (by decide : 71 + 0 ≤ _)⟩)
  dsimp only [Pt.U, Pt.locs, Pt.cells, Pt.slots] at X16 l16 y16 z16 st16 hQ16
  replace y16 : kx16 = 11 := y16
  replace z16 : nx16 = 71 := z16
  subst y16 z16
  obtain ⟨stz_16, rfl, Nq16, Kc16, V_st_16, L_st_16, hlz_16⟩ := hQ16
  have NN : Fr n0 Lx16 := by rw [l16]; exact Fr.app NN Nq16
  have Nss : ∀ x ∈ [b7], own_ns Z h12 x := (allS (own_nsV V_st (by decide)) all0)
  have hk := Nat.le_trans hk Kc16.1
  have HR := HR.trans (CHr.keep Kc16 (fun x hx => own_safe hZ.alike (Nss x hx)) H)
  have H := HR.1
  have S_c : Sta Z T16.heap "java/lang/String" "COMPACT_STRINGS" "Z" (.int cw) := own_sta_keepN S_c Kc16 Nss
  have F_r_4 : own_S Z T16.heap (.ref r_4) (some (own_pk ((p1.toUInt32 >>> ((8 : Int32) &&& 31).toUInt32).toInt32))) := own_S_keep F_r_4 Kc16 Nss
  have F_r_5 : own_S Z T16.heap (.ref r_5) (some (own_pk ((p2.toUInt32 >>> ((8 : Int32) &&& 31).toUInt32).toInt32))) := own_S_keep F_r_5 Kc16 Nss
  have F_r_6 : own_S Z T16.heap (.ref r_6) (some (own_pk ((p3.toUInt32 >>> ((8 : Int32) &&& 31).toUInt32).toInt32))) := own_S_keep F_r_6 Kc16 Nss
  have F_s8 : own_S Z T16.heap (.ref as8) (some []) := own_S_keep F_s8 Kc16 Nss
  have F_s10 : own_S Z T16.heap (.ref as10) (some [(.int (120 : Int32)), (.int (109 : Int32)), (.int (108 : Int32))]) := own_S_keep F_s10 Kc16 Nss
  have L_st : own_SL Z T16.heap sv0 so0 := own_SL_keep L_st Kc16 Nss
  have F_ld13 : own_S Z T16.heap (sv0.getD ((0 : Int32)).toNatClampNeg .null) (so0.getD ((0 : Int32)).toNatClampNeg none) := own_S_keep F_ld13 Kc16 Nss
  have F_e00 : own_S Z T16.heap e00 (so0.getD ((0 : Int32)).toNatClampNeg none) := own_S_keep F_e00 Kc16 Nss
  have F_ld14 : own_S Z T16.heap (sv0.getD ((1 : Int32)).toNatClampNeg .null) (so0.getD ((1 : Int32)).toNatClampNeg none) := own_S_keep F_ld14 Kc16 Nss
  have F_e01 : own_S Z T16.heap e01 (so0.getD ((1 : Int32)).toNatClampNeg none) := own_S_keep F_e01 Kc16 Nss
  have F_ld15 : own_S Z T16.heap (sv0.getD ((2 : Int32)).toNatClampNeg .null) (so0.getD ((2 : Int32)).toNatClampNeg none) := own_S_keep F_ld15 Kc16 Nss
  have F_e02 : own_S Z T16.heap e02 (so0.getD ((2 : Int32)).toNatClampNeg none) := own_S_keep F_e02 Kc16 Nss
  have Zn : n0 ≤ T16.heap.size := Nat.le_trans Zn Kc16.1
  have pre : ∀ τ, Steps p.tables e below (T16.setTop (mkF m 95 #[.val (.int p1), .val (.int p2), .val (.int p3), .val (.int p4), .val (.int i1), .val (.int i2), .val (.int i3), .val (.ref r_4), .val (.ref r_5), .val (.ref r_6), .val (.ref b7), .val e00, .val e01, .val e02, .unset, .unset, .unset, .unset, .unset, .unset, .unset, .unset, .unset, .unset, .unset, .unset, .unset, .unset, .unset] [])) τ → G τ := fun τ κ => pre τ (st16 τ κ)
  obtain ⟨sv1, hsv1⟩ : ∃ q : List Value, q = stz_16 := ⟨_, rfl⟩
  obtain ⟨so1, hso1⟩ : ∃ q : List own_T, q = (own_ds (own_pk ((p1.toUInt32 >>> ((8 : Int32) &&& 31).toUInt32).toInt32)) i1 so0) := ⟨_, rfl⟩
  have V_st : Arv Z T16.heap b7 k7 (.object "java/lang/String") (3 : Int32) sv1 .null := by rw [hsv1]; exact V_st_16
  have L_st : own_SL Z T16.heap sv1 so1 := by rw [hsv1, hso1]; exact L_st_16
  have hl1 : sv1.length = 3 := by rw [hsv1]; exact hlz_16
  have pre : ∀ τ, Steps p.tables e below (T16.setTop (mkF m 98 #[.val (.int p1), .val (.int p2), .val (.int p3), .val (.int p4), .val (.int i1), .val (.int i2), .val (.int i3), .val (.ref r_4), .val (.ref r_5), .val (.ref r_6), .val (.ref b7), .val e00, .val e01, .val e02, .unset, .unset, .unset, .unset, .unset, .unset, .unset, .unset, .unset, .unset, .unset, .unset, .unset, .unset, .unset] [(.int (0 : Int32)), (.ref b7)])) τ → G τ := fun τ κ => pre τ (by
    refine XS.aload X16.here hx rfl (hb hby at_95) rfl rfl ?_
    show Steps p.tables e below (T16.setTop (mkF m 97 #[.val (.int p1), .val (.int p2), .val (.int p3), .val (.int p4), .val (.int i1), .val (.int i2), .val (.int i3), .val (.ref r_4), .val (.ref r_5), .val (.ref r_6), .val (.ref b7), .val e00, .val e01, .val e02, .unset, .unset, .unset, .unset, .unset, .unset, .unset, .unset, .unset, .unset, .unset, .unset, .unset, .unset, .unset] [(.ref b7)])) τ
    refine XS.iconst X16.here hx rfl (hb hby at_97) ?_
    show Steps p.tables e below (T16.setTop (mkF m 98 #[.val (.int p1), .val (.int p2), .val (.int p3), .val (.int p4), .val (.int i1), .val (.int i2), .val (.int i3), .val (.ref r_4), .val (.ref r_5), .val (.ref r_6), .val (.ref b7), .val e00, .val e01, .val e02, .unset, .unset, .unset, .unset, .unset, .unset, .unset, .unset, .unset, .unset, .unset, .unset, .unset, .unset, .unset] [(.int (0 : Int32)), (.ref b7)])) τ
    exact κ)
  obtain ⟨c17, Ar17, q17, S17, Nz17, Hh17, Gg17⟩ := id V_st
  have F_ld17 : own_S Z T16.heap (sv1.getD ((0 : Int32)).toNatClampNeg .null) (so1.getD ((0 : Int32)).toNatClampNeg none) := L_st.2 _
  have hin17 : ¬ ((0 : Int32) < 0 ∨ c17.slots.size ≤ ((0 : Int32)).toNatClampNeg) := inb_of S17 ⟨by decide, by decide⟩
  have hat17 : c17.slots[((0 : Int32)).toNatClampNeg]? = some (sv1.getD ((0 : Int32)).toNatClampNeg .null) := Hh17.at hin17 rfl
  have pre : ∀ τ, Steps p.tables e below (T16.setTop (mkF m 99 #[.val (.int p1), .val (.int p2), .val (.int p3), .val (.int p4), .val (.int i1), .val (.int i2), .val (.int i3), .val (.ref r_4), .val (.ref r_5), .val (.ref r_6), .val (.ref b7), .val e00, .val e01, .val e02, .unset, .unset, .unset, .unset, .unset, .unset, .unset, .unset, .unset, .unset, .unset, .unset, .unset, .unset, .unset] [(sv1.getD ((0 : Int32)).toNatClampNeg .null)])) τ → G τ := fun τ κ => pre τ (X16.aaload hx (j := (0 : Int32)) (v := (sv1.getD ((0 : Int32)).toNatClampNeg .null)) Ar17.1 (State.isArrayOf_alike hZ.alike Ar17.2.1) rfl Ar17.2.2 hin17 hat17 (g := (mkF m 98 #[.val (.int p1), .val (.int p2), .val (.int p3), .val (.int p4), .val (.int i1), .val (.int i2), .val (.int i3), .val (.ref r_4), .val (.ref r_5), .val (.ref r_6), .val (.ref b7), .val e00, .val e01, .val e02, .unset, .unset, .unset, .unset, .unset, .unset, .unset, .unset, .unset, .unset, .unset, .unset, .unset, .unset, .unset] [(.int (0 : Int32)), (.ref b7)])) rfl rfl (hb hby at_98) _ κ)
  obtain ⟨e10, he10⟩ : ∃ q : Value, q = (sv1.getD ((0 : Int32)).toNatClampNeg .null) := ⟨_, rfl⟩
  have F_e10 : own_S Z T16.heap e10 (so1.getD ((0 : Int32)).toNatClampNeg none) := by rw [he10]; exact F_ld17
  have pre : ∀ τ, Steps p.tables e below (T16.setTop (mkF m 99 #[.val (.int p1), .val (.int p2), .val (.int p3), .val (.int p4), .val (.int i1), .val (.int i2), .val (.int i3), .val (.ref r_4), .val (.ref r_5), .val (.ref r_6), .val (.ref b7), .val e00, .val e01, .val e02, .unset, .unset, .unset, .unset, .unset, .unset, .unset, .unset, .unset, .unset, .unset, .unset, .unset, .unset, .unset] [e10])) τ → G τ := by rw [he10]; exact pre
  have pre : ∀ τ, Steps p.tables e below (T16.setTop (mkF m 104 #[.val (.int p1), .val (.int p2), .val (.int p3), .val (.int p4), .val (.int i1), .val (.int i2), .val (.int i3), .val (.ref r_4), .val (.ref r_5), .val (.ref r_6), .val (.ref b7), .val e00, .val e01, .val e02, .val e10, .unset, .unset, .unset, .unset, .unset, .unset, .unset, .unset, .unset, .unset, .unset, .unset, .unset, .unset] [(.int (1 : Int32)), (.ref b7)])) τ → G τ := fun τ κ => pre τ (by
    refine XS.astore X16.here hx rfl (hb hby at_99) rfl (own_S_ref F_e10) (l' := #[.val (.int p1), .val (.int p2), .val (.int p3), .val (.int p4), .val (.int i1), .val (.int i2), .val (.int i3), .val (.ref r_4), .val (.ref r_5), .val (.ref r_6), .val (.ref b7), .val e00, .val e01, .val e02, .val e10, .unset, .unset, .unset, .unset, .unset, .unset, .unset, .unset, .unset, .unset, .unset, .unset, .unset, .unset]) (XS.store1 rfl (Or.inl rfl) (own_cat (own_S_ref F_e10))) ?_
    show Steps p.tables e below (T16.setTop (mkF m 101 #[.val (.int p1), .val (.int p2), .val (.int p3), .val (.int p4), .val (.int i1), .val (.int i2), .val (.int i3), .val (.ref r_4), .val (.ref r_5), .val (.ref r_6), .val (.ref b7), .val e00, .val e01, .val e02, .val e10, .unset, .unset, .unset, .unset, .unset, .unset, .unset, .unset, .unset, .unset, .unset, .unset, .unset, .unset] [])) τ
    refine XS.aload X16.here hx rfl (hb hby at_101) rfl rfl ?_
    show Steps p.tables e below (T16.setTop (mkF m 103 #[.val (.int p1), .val (.int p2), .val (.int p3), .val (.int p4), .val (.int i1), .val (.int i2), .val (.int i3), .val (.ref r_4), .val (.ref r_5), .val (.ref r_6), .val (.ref b7), .val e00, .val e01, .val e02, .val e10, .unset, .unset, .unset, .unset, .unset, .unset, .unset, .unset, .unset, .unset, .unset, .unset, .unset, .unset] [(.ref b7)])) τ
    refine XS.iconst X16.here hx rfl (hb hby at_103) ?_
    show Steps p.tables e below (T16.setTop (mkF m 104 #[.val (.int p1), .val (.int p2), .val (.int p3), .val (.int p4), .val (.int i1), .val (.int i2), .val (.int i3), .val (.ref r_4), .val (.ref r_5), .val (.ref r_6), .val (.ref b7), .val e00, .val e01, .val e02, .val e10, .unset, .unset, .unset, .unset, .unset, .unset, .unset, .unset, .unset, .unset, .unset, .unset, .unset, .unset] [(.int (1 : Int32)), (.ref b7)])) τ
    exact κ)
  obtain ⟨c18, Ar18, q18, S18, Nz18, Hh18, Gg18⟩ := id V_st
  have F_ld18 : own_S Z T16.heap (sv1.getD ((1 : Int32)).toNatClampNeg .null) (so1.getD ((1 : Int32)).toNatClampNeg none) := L_st.2 _
  have hin18 : ¬ ((1 : Int32) < 0 ∨ c18.slots.size ≤ ((1 : Int32)).toNatClampNeg) := inb_of S18 ⟨by decide, by decide⟩
  have hat18 : c18.slots[((1 : Int32)).toNatClampNeg]? = some (sv1.getD ((1 : Int32)).toNatClampNeg .null) := Hh18.at hin18 rfl
  have pre : ∀ τ, Steps p.tables e below (T16.setTop (mkF m 105 #[.val (.int p1), .val (.int p2), .val (.int p3), .val (.int p4), .val (.int i1), .val (.int i2), .val (.int i3), .val (.ref r_4), .val (.ref r_5), .val (.ref r_6), .val (.ref b7), .val e00, .val e01, .val e02, .val e10, .unset, .unset, .unset, .unset, .unset, .unset, .unset, .unset, .unset, .unset, .unset, .unset, .unset, .unset] [(sv1.getD ((1 : Int32)).toNatClampNeg .null)])) τ → G τ := fun τ κ => pre τ (X16.aaload hx (j := (1 : Int32)) (v := (sv1.getD ((1 : Int32)).toNatClampNeg .null)) Ar18.1 (State.isArrayOf_alike hZ.alike Ar18.2.1) rfl Ar18.2.2 hin18 hat18 (g := (mkF m 104 #[.val (.int p1), .val (.int p2), .val (.int p3), .val (.int p4), .val (.int i1), .val (.int i2), .val (.int i3), .val (.ref r_4), .val (.ref r_5), .val (.ref r_6), .val (.ref b7), .val e00, .val e01, .val e02, .val e10, .unset, .unset, .unset, .unset, .unset, .unset, .unset, .unset, .unset, .unset, .unset, .unset, .unset, .unset] [(.int (1 : Int32)), (.ref b7)])) rfl rfl (hb hby at_104) _ κ)
  obtain ⟨e11, he11⟩ : ∃ q : Value, q = (sv1.getD ((1 : Int32)).toNatClampNeg .null) := ⟨_, rfl⟩
  have F_e11 : own_S Z T16.heap e11 (so1.getD ((1 : Int32)).toNatClampNeg none) := by rw [he11]; exact F_ld18
  have pre : ∀ τ, Steps p.tables e below (T16.setTop (mkF m 105 #[.val (.int p1), .val (.int p2), .val (.int p3), .val (.int p4), .val (.int i1), .val (.int i2), .val (.int i3), .val (.ref r_4), .val (.ref r_5), .val (.ref r_6), .val (.ref b7), .val e00, .val e01, .val e02, .val e10, .unset, .unset, .unset, .unset, .unset, .unset, .unset, .unset, .unset, .unset, .unset, .unset, .unset, .unset] [e11])) τ → G τ := by rw [he11]; exact pre
  have pre : ∀ τ, Steps p.tables e below (T16.setTop (mkF m 110 #[.val (.int p1), .val (.int p2), .val (.int p3), .val (.int p4), .val (.int i1), .val (.int i2), .val (.int i3), .val (.ref r_4), .val (.ref r_5), .val (.ref r_6), .val (.ref b7), .val e00, .val e01, .val e02, .val e10, .val e11, .unset, .unset, .unset, .unset, .unset, .unset, .unset, .unset, .unset, .unset, .unset, .unset, .unset] [(.int (2 : Int32)), (.ref b7)])) τ → G τ := fun τ κ => pre τ (by
    refine XS.astore X16.here hx rfl (hb hby at_105) rfl (own_S_ref F_e11) (l' := #[.val (.int p1), .val (.int p2), .val (.int p3), .val (.int p4), .val (.int i1), .val (.int i2), .val (.int i3), .val (.ref r_4), .val (.ref r_5), .val (.ref r_6), .val (.ref b7), .val e00, .val e01, .val e02, .val e10, .val e11, .unset, .unset, .unset, .unset, .unset, .unset, .unset, .unset, .unset, .unset, .unset, .unset, .unset]) (XS.store1 rfl (Or.inl rfl) (own_cat (own_S_ref F_e11))) ?_
    show Steps p.tables e below (T16.setTop (mkF m 107 #[.val (.int p1), .val (.int p2), .val (.int p3), .val (.int p4), .val (.int i1), .val (.int i2), .val (.int i3), .val (.ref r_4), .val (.ref r_5), .val (.ref r_6), .val (.ref b7), .val e00, .val e01, .val e02, .val e10, .val e11, .unset, .unset, .unset, .unset, .unset, .unset, .unset, .unset, .unset, .unset, .unset, .unset, .unset] [])) τ
    refine XS.aload X16.here hx rfl (hb hby at_107) rfl rfl ?_
    show Steps p.tables e below (T16.setTop (mkF m 109 #[.val (.int p1), .val (.int p2), .val (.int p3), .val (.int p4), .val (.int i1), .val (.int i2), .val (.int i3), .val (.ref r_4), .val (.ref r_5), .val (.ref r_6), .val (.ref b7), .val e00, .val e01, .val e02, .val e10, .val e11, .unset, .unset, .unset, .unset, .unset, .unset, .unset, .unset, .unset, .unset, .unset, .unset, .unset] [(.ref b7)])) τ
    refine XS.iconst X16.here hx rfl (hb hby at_109) ?_
    show Steps p.tables e below (T16.setTop (mkF m 110 #[.val (.int p1), .val (.int p2), .val (.int p3), .val (.int p4), .val (.int i1), .val (.int i2), .val (.int i3), .val (.ref r_4), .val (.ref r_5), .val (.ref r_6), .val (.ref b7), .val e00, .val e01, .val e02, .val e10, .val e11, .unset, .unset, .unset, .unset, .unset, .unset, .unset, .unset, .unset, .unset, .unset, .unset, .unset] [(.int (2 : Int32)), (.ref b7)])) τ
    exact κ)
  obtain ⟨c19, Ar19, q19, S19, Nz19, Hh19, Gg19⟩ := id V_st
  have F_ld19 : own_S Z T16.heap (sv1.getD ((2 : Int32)).toNatClampNeg .null) (so1.getD ((2 : Int32)).toNatClampNeg none) := L_st.2 _
  have hin19 : ¬ ((2 : Int32) < 0 ∨ c19.slots.size ≤ ((2 : Int32)).toNatClampNeg) := inb_of S19 ⟨by decide, by decide⟩
  have hat19 : c19.slots[((2 : Int32)).toNatClampNeg]? = some (sv1.getD ((2 : Int32)).toNatClampNeg .null) := Hh19.at hin19 rfl
  have pre : ∀ τ, Steps p.tables e below (T16.setTop (mkF m 111 #[.val (.int p1), .val (.int p2), .val (.int p3), .val (.int p4), .val (.int i1), .val (.int i2), .val (.int i3), .val (.ref r_4), .val (.ref r_5), .val (.ref r_6), .val (.ref b7), .val e00, .val e01, .val e02, .val e10, .val e11, .unset, .unset, .unset, .unset, .unset, .unset, .unset, .unset, .unset, .unset, .unset, .unset, .unset] [(sv1.getD ((2 : Int32)).toNatClampNeg .null)])) τ → G τ := fun τ κ => pre τ (X16.aaload hx (j := (2 : Int32)) (v := (sv1.getD ((2 : Int32)).toNatClampNeg .null)) Ar19.1 (State.isArrayOf_alike hZ.alike Ar19.2.1) rfl Ar19.2.2 hin19 hat19 (g := (mkF m 110 #[.val (.int p1), .val (.int p2), .val (.int p3), .val (.int p4), .val (.int i1), .val (.int i2), .val (.int i3), .val (.ref r_4), .val (.ref r_5), .val (.ref r_6), .val (.ref b7), .val e00, .val e01, .val e02, .val e10, .val e11, .unset, .unset, .unset, .unset, .unset, .unset, .unset, .unset, .unset, .unset, .unset, .unset, .unset] [(.int (2 : Int32)), (.ref b7)])) rfl rfl (hb hby at_110) _ κ)
  obtain ⟨e12, he12⟩ : ∃ q : Value, q = (sv1.getD ((2 : Int32)).toNatClampNeg .null) := ⟨_, rfl⟩
  have F_e12 : own_S Z T16.heap e12 (so1.getD ((2 : Int32)).toNatClampNeg none) := by rw [he12]; exact F_ld19
  have pre : ∀ τ, Steps p.tables e below (T16.setTop (mkF m 111 #[.val (.int p1), .val (.int p2), .val (.int p3), .val (.int p4), .val (.int i1), .val (.int i2), .val (.int i3), .val (.ref r_4), .val (.ref r_5), .val (.ref r_6), .val (.ref b7), .val e00, .val e01, .val e02, .val e10, .val e11, .unset, .unset, .unset, .unset, .unset, .unset, .unset, .unset, .unset, .unset, .unset, .unset, .unset] [e12])) τ → G τ := by rw [he12]; exact pre
  have pre : ∀ τ, Steps p.tables e below (T16.setTop (mkF m 119 #[.val (.int p1), .val (.int p2), .val (.int p3), .val (.int p4), .val (.int i1), .val (.int i2), .val (.int i3), .val (.ref r_4), .val (.ref r_5), .val (.ref r_6), .val (.ref b7), .val e00, .val e01, .val e02, .val e10, .val e11, .val e12, .unset, .unset, .unset, .unset, .unset, .unset, .unset, .unset, .unset, .unset, .unset, .unset] [(.ref r_5), (.int i2), (.ref b7)])) τ → G τ := fun τ κ => pre τ (by
    refine XS.astore X16.here hx rfl (hb hby at_111) rfl (own_S_ref F_e12) (l' := #[.val (.int p1), .val (.int p2), .val (.int p3), .val (.int p4), .val (.int i1), .val (.int i2), .val (.int i3), .val (.ref r_4), .val (.ref r_5), .val (.ref r_6), .val (.ref b7), .val e00, .val e01, .val e02, .val e10, .val e11, .val e12, .unset, .unset, .unset, .unset, .unset, .unset, .unset, .unset, .unset, .unset, .unset, .unset]) (XS.store1 rfl (Or.inl rfl) (own_cat (own_S_ref F_e12))) ?_
    show Steps p.tables e below (T16.setTop (mkF m 113 #[.val (.int p1), .val (.int p2), .val (.int p3), .val (.int p4), .val (.int i1), .val (.int i2), .val (.int i3), .val (.ref r_4), .val (.ref r_5), .val (.ref r_6), .val (.ref b7), .val e00, .val e01, .val e02, .val e10, .val e11, .val e12, .unset, .unset, .unset, .unset, .unset, .unset, .unset, .unset, .unset, .unset, .unset, .unset] [])) τ
    refine XS.aload X16.here hx rfl (hb hby at_113) rfl rfl ?_
    show Steps p.tables e below (T16.setTop (mkF m 115 #[.val (.int p1), .val (.int p2), .val (.int p3), .val (.int p4), .val (.int i1), .val (.int i2), .val (.int i3), .val (.ref r_4), .val (.ref r_5), .val (.ref r_6), .val (.ref b7), .val e00, .val e01, .val e02, .val e10, .val e11, .val e12, .unset, .unset, .unset, .unset, .unset, .unset, .unset, .unset, .unset, .unset, .unset, .unset] [(.ref b7)])) τ
    refine XS.iload X16.here hx rfl (hb hby at_115) rfl ?_
    show Steps p.tables e below (T16.setTop (mkF m 117 #[.val (.int p1), .val (.int p2), .val (.int p3), .val (.int p4), .val (.int i1), .val (.int i2), .val (.int i3), .val (.ref r_4), .val (.ref r_5), .val (.ref r_6), .val (.ref b7), .val e00, .val e01, .val e02, .val e10, .val e11, .val e12, .unset, .unset, .unset, .unset, .unset, .unset, .unset, .unset, .unset, .unset, .unset, .unset] [(.int i2), (.ref b7)])) τ
    refine XS.aload X16.here hx rfl (hb hby at_117) rfl rfl ?_
    show Steps p.tables e below (T16.setTop (mkF m 119 #[.val (.int p1), .val (.int p2), .val (.int p3), .val (.int p4), .val (.int i1), .val (.int i2), .val (.int i3), .val (.ref r_4), .val (.ref r_5), .val (.ref r_6), .val (.ref b7), .val e00, .val e01, .val e02, .val e10, .val e11, .val e12, .unset, .unset, .unset, .unset, .unset, .unset, .unset, .unset, .unset, .unset, .unset, .unset] [(.ref r_5), (.int i2), (.ref b7)])) τ
    exact κ)
  obtain ⟨_, _, ⟨T20, Lx20, kx20, nx20⟩, -, X20, ⟨Lc20, hQ20, l20, y20, z20⟩, st20⟩ := Jvm.LawKit.callS X16 hx (y := (⟨"coppice/marshal/context/NamespaceScopeRestorePinLaw", "decl", "([Ljava/lang/String;ILjava/lang/String;)V"⟩ : MethodName)) hown (mvT hZ (hw _ (List.mem_of_getElem? (i := 20) rfl))) (mvT hZ (hw _ (List.mem_of_getElem? (i := 21) rfl))) (mvT hZ (hw _ (List.mem_of_getElem? (i := 2) rfl))) (mvT hZ (hw _ (List.mem_of_getElem? (i := 22) rfl))) (by decide) (backOf (W := 0) (rm3 l Z a0 hw [] b7 i2 r_5 k7 sv1 so1 (own_pk ((p2.toUInt32 >>> ((8 : Int32) &&& 31).toUInt32).toInt32)) cw T16.heap n0 Zn g_b7 V_st L_st O7 F_r_5 S_c hcw bi2 hl1) hZ (hw _ (List.mem_of_getElem? (i := 22) rfl)) (hw _ (List.mem_of_getElem? (i := 2) rfl)) (by decide) (by decide)) (g := (mkF m 119 #[.val (.int p1), .val (.int p2), .val (.int p3), .val (.int p4), .val (.int i1), .val (.int i2), .val (.int i3), .val (.ref r_4), .val (.ref r_5), .val (.ref r_6), .val (.ref b7), .val e00, .val e01, .val e02, .val e10, .val e11, .val e12, .unset, .unset, .unset, .unset, .unset, .unset, .unset, .unset, .unset, .unset, .unset, .unset] [(.ref r_5), (.int i2), (.ref b7)])) rfl (by rw [hml]; rfl) (argsL := [(.ref b7), (.int i2), (.ref r_5)]) (rest := []) (lenOf pd_7 rfl) rfl (by show 2 * 0 + _ ≤ _; exact Nat.le_of_eq rfl) (hb hby at_119) (fun _ _ => ⟨rfl, rfl, (by decide : 11 + 0 ≤ _), (by decide : 71 + 0 ≤ _)⟩)
  dsimp only [Pt.U, Pt.locs, Pt.cells, Pt.slots] at X20 l20 y20 z20 st20 hQ20
  replace y20 : kx20 = 11 := y20
  replace z20 : nx20 = 71 := z20
  subst y20 z20
  obtain ⟨stz_20, rfl, Nq20, Kc20, V_st_20, L_st_20, hlz_20⟩ := hQ20
  have NN : Fr n0 Lx20 := by rw [l20]; exact Fr.app NN Nq20
  have Nss : ∀ x ∈ [b7], own_ns Z T16.heap x := (allS (own_nsV V_st (by decide)) all0)
  have hk := Nat.le_trans hk Kc20.1
  have HR := HR.trans (CHr.keep Kc20 (fun x hx => own_safe hZ.alike (Nss x hx)) H)
  have H := HR.1
  have S_c : Sta Z T20.heap "java/lang/String" "COMPACT_STRINGS" "Z" (.int cw) := own_sta_keepN S_c Kc20 Nss
  have F_r_4 : own_S Z T20.heap (.ref r_4) (some (own_pk ((p1.toUInt32 >>> ((8 : Int32) &&& 31).toUInt32).toInt32))) := own_S_keep F_r_4 Kc20 Nss
  have F_r_5 : own_S Z T20.heap (.ref r_5) (some (own_pk ((p2.toUInt32 >>> ((8 : Int32) &&& 31).toUInt32).toInt32))) := own_S_keep F_r_5 Kc20 Nss
  have F_r_6 : own_S Z T20.heap (.ref r_6) (some (own_pk ((p3.toUInt32 >>> ((8 : Int32) &&& 31).toUInt32).toInt32))) := own_S_keep F_r_6 Kc20 Nss
  have F_s8 : own_S Z T20.heap (.ref as8) (some []) := own_S_keep F_s8 Kc20 Nss
  have F_s10 : own_S Z T20.heap (.ref as10) (some [(.int (120 : Int32)), (.int (109 : Int32)), (.int (108 : Int32))]) := own_S_keep F_s10 Kc20 Nss
  have L_st : own_SL Z T20.heap sv1 so1 := own_SL_keep L_st Kc20 Nss
  have F_ld13 : own_S Z T20.heap (sv0.getD ((0 : Int32)).toNatClampNeg .null) (so0.getD ((0 : Int32)).toNatClampNeg none) := own_S_keep F_ld13 Kc20 Nss
  have F_e00 : own_S Z T20.heap e00 (so0.getD ((0 : Int32)).toNatClampNeg none) := own_S_keep F_e00 Kc20 Nss
  have F_ld14 : own_S Z T20.heap (sv0.getD ((1 : Int32)).toNatClampNeg .null) (so0.getD ((1 : Int32)).toNatClampNeg none) := own_S_keep F_ld14 Kc20 Nss
  have F_e01 : own_S Z T20.heap e01 (so0.getD ((1 : Int32)).toNatClampNeg none) := own_S_keep F_e01 Kc20 Nss
  have F_ld15 : own_S Z T20.heap (sv0.getD ((2 : Int32)).toNatClampNeg .null) (so0.getD ((2 : Int32)).toNatClampNeg none) := own_S_keep F_ld15 Kc20 Nss
  have F_e02 : own_S Z T20.heap e02 (so0.getD ((2 : Int32)).toNatClampNeg none) := own_S_keep F_e02 Kc20 Nss
  have F_ld17 : own_S Z T20.heap (sv1.getD ((0 : Int32)).toNatClampNeg .null) (so1.getD ((0 : Int32)).toNatClampNeg none) := own_S_keep F_ld17 Kc20 Nss
  have F_e10 : own_S Z T20.heap e10 (so1.getD ((0 : Int32)).toNatClampNeg none) := own_S_keep F_e10 Kc20 Nss
  have F_ld18 : own_S Z T20.heap (sv1.getD ((1 : Int32)).toNatClampNeg .null) (so1.getD ((1 : Int32)).toNatClampNeg none) := own_S_keep F_ld18 Kc20 Nss
  have F_e11 : own_S Z T20.heap e11 (so1.getD ((1 : Int32)).toNatClampNeg none) := own_S_keep F_e11 Kc20 Nss
  have F_ld19 : own_S Z T20.heap (sv1.getD ((2 : Int32)).toNatClampNeg .null) (so1.getD ((2 : Int32)).toNatClampNeg none) := own_S_keep F_ld19 Kc20 Nss
  have F_e12 : own_S Z T20.heap e12 (so1.getD ((2 : Int32)).toNatClampNeg none) := own_S_keep F_e12 Kc20 Nss
  have Zn : n0 ≤ T20.heap.size := Nat.le_trans Zn Kc20.1
  have pre : ∀ τ, Steps p.tables e below (T20.setTop (mkF m 122 #[.val (.int p1), .val (.int p2), .val (.int p3), .val (.int p4), .val (.int i1), .val (.int i2), .val (.int i3), .val (.ref r_4), .val (.ref r_5), .val (.ref r_6), .val (.ref b7), .val e00, .val e01, .val e02, .val e10, .val e11, .val e12, .unset, .unset, .unset, .unset, .unset, .unset, .unset, .unset, .unset, .unset, .unset, .unset] [])) τ → G τ := fun τ κ => pre τ (st20 τ κ)
  obtain ⟨sv2, hsv2⟩ : ∃ q : List Value, q = stz_20 := ⟨_, rfl⟩
  obtain ⟨so2, hso2⟩ : ∃ q : List own_T, q = (own_ds (own_pk ((p2.toUInt32 >>> ((8 : Int32) &&& 31).toUInt32).toInt32)) i2 so1) := ⟨_, rfl⟩
  have V_st : Arv Z T20.heap b7 k7 (.object "java/lang/String") (3 : Int32) sv2 .null := by rw [hsv2]; exact V_st_20
  have L_st : own_SL Z T20.heap sv2 so2 := by rw [hsv2, hso2]; exact L_st_20
  have hl2 : sv2.length = 3 := by rw [hsv2]; exact hlz_20
  have pre : ∀ τ, Steps p.tables e below (T20.setTop (mkF m 128 #[.val (.int p1), .val (.int p2), .val (.int p3), .val (.int p4), .val (.int i1), .val (.int i2), .val (.int i3), .val (.ref r_4), .val (.ref r_5), .val (.ref r_6), .val (.ref b7), .val e00, .val e01, .val e02, .val e10, .val e11, .val e12, .unset, .unset, .unset, .unset, .unset, .unset, .unset, .unset, .unset, .unset, .unset, .unset] [(.ref r_6), (.int i3), (.ref b7)])) τ → G τ := fun τ κ => pre τ (by
    refine XS.aload X20.here hx rfl (hb hby at_122) rfl rfl ?_
    show Steps p.tables e below (T20.setTop (mkF m 124 #[.val (.int p1), .val (.int p2), .val (.int p3), .val (.int p4), .val (.int i1), .val (.int i2), .val (.int i3), .val (.ref r_4), .val (.ref r_5), .val (.ref r_6), .val (.ref b7), .val e00, .val e01, .val e02, .val e10, .val e11, .val e12, .unset, .unset, .unset, .unset, .unset, .unset, .unset, .unset, .unset, .unset, .unset, .unset] [(.ref b7)])) τ
    refine XS.iload X20.here hx rfl (hb hby at_124) rfl ?_
    show Steps p.tables e below (T20.setTop (mkF m 126 #[.val (.int p1), .val (.int p2), .val (.int p3), .val (.int p4), .val (.int i1), .val (.int i2), .val (.int i3), .val (.ref r_4), .val (.ref r_5), .val (.ref r_6), .val (.ref b7), .val e00, .val e01, .val e02, .val e10, .val e11, .val e12, .unset, .unset, .unset, .unset, .unset, .unset, .unset, .unset, .unset, .unset, .unset, .unset] [(.int i3), (.ref b7)])) τ
    refine XS.aload X20.here hx rfl (hb hby at_126) rfl rfl ?_
    show Steps p.tables e below (T20.setTop (mkF m 128 #[.val (.int p1), .val (.int p2), .val (.int p3), .val (.int p4), .val (.int i1), .val (.int i2), .val (.int i3), .val (.ref r_4), .val (.ref r_5), .val (.ref r_6), .val (.ref b7), .val e00, .val e01, .val e02, .val e10, .val e11, .val e12, .unset, .unset, .unset, .unset, .unset, .unset, .unset, .unset, .unset, .unset, .unset, .unset] [(.ref r_6), (.int i3), (.ref b7)])) τ
    exact κ)
  obtain ⟨_, _, ⟨T21, Lx21, kx21, nx21⟩, -, X21, ⟨Lc21, hQ21, l21, y21, z21⟩, st21⟩ := Jvm.LawKit.callS X20 hx (y := (⟨"coppice/marshal/context/NamespaceScopeRestorePinLaw", "decl", "([Ljava/lang/String;ILjava/lang/String;)V"⟩ : MethodName)) hown (mvT hZ (hw _ (List.mem_of_getElem? (i := 20) rfl))) (mvT hZ (hw _ (List.mem_of_getElem? (i := 21) rfl))) (mvT hZ (hw _ (List.mem_of_getElem? (i := 2) rfl))) (mvT hZ (hw _ (List.mem_of_getElem? (i := 22) rfl))) (by decide) (backOf (W := 0) (rm3 l Z a0 hw [] b7 i3 r_6 k7 sv2 so2 (own_pk ((p3.toUInt32 >>> ((8 : Int32) &&& 31).toUInt32).toInt32)) cw T20.heap n0 Zn g_b7 V_st L_st O7 F_r_6 S_c hcw bi3 hl2) hZ (hw _ (List.mem_of_getElem? (i := 22) rfl)) (hw _ (List.mem_of_getElem? (i := 2) rfl)) (by decide) (by decide)) (g := (mkF m 128 #[.val (.int p1), .val (.int p2), .val (.int p3), .val (.int p4), .val (.int i1), .val (.int i2), .val (.int i3), .val (.ref r_4), .val (.ref r_5), .val (.ref r_6), .val (.ref b7), .val e00, .val e01, .val e02, .val e10, .val e11, .val e12, .unset, .unset, .unset, .unset, .unset, .unset, .unset, .unset, .unset, .unset, .unset, .unset] [(.ref r_6), (.int i3), (.ref b7)])) rfl (by rw [hml]; rfl) (argsL := [(.ref b7), (.int i3), (.ref r_6)]) (rest := []) (lenOf pd_7 rfl) rfl (by show 2 * 0 + _ ≤ _; exact Nat.le_of_eq rfl) (hb hby at_128) (fun _ _ => ⟨rfl, rfl, (by decide : 11 + 0 ≤ _), (by decide : 71 + 0 ≤ _)⟩)
  dsimp only [Pt.U, Pt.locs, Pt.cells, Pt.slots] at X21 l21 y21 z21 st21 hQ21
  replace y21 : kx21 = 11 := y21
  replace z21 : nx21 = 71 := z21
  subst y21 z21
  obtain ⟨stz_21, rfl, Nq21, Kc21, V_st_21, L_st_21, hlz_21⟩ := hQ21
  have NN : Fr n0 Lx21 := by rw [l21]; exact Fr.app NN Nq21
  have Nss : ∀ x ∈ [b7], own_ns Z T20.heap x := (allS (own_nsV V_st (by decide)) all0)
  have hk := Nat.le_trans hk Kc21.1
  have HR := HR.trans (CHr.keep Kc21 (fun x hx => own_safe hZ.alike (Nss x hx)) H)
  have H := HR.1
  have S_c : Sta Z T21.heap "java/lang/String" "COMPACT_STRINGS" "Z" (.int cw) := own_sta_keepN S_c Kc21 Nss
  have F_r_4 : own_S Z T21.heap (.ref r_4) (some (own_pk ((p1.toUInt32 >>> ((8 : Int32) &&& 31).toUInt32).toInt32))) := own_S_keep F_r_4 Kc21 Nss
  have F_r_5 : own_S Z T21.heap (.ref r_5) (some (own_pk ((p2.toUInt32 >>> ((8 : Int32) &&& 31).toUInt32).toInt32))) := own_S_keep F_r_5 Kc21 Nss
  have F_r_6 : own_S Z T21.heap (.ref r_6) (some (own_pk ((p3.toUInt32 >>> ((8 : Int32) &&& 31).toUInt32).toInt32))) := own_S_keep F_r_6 Kc21 Nss
  have F_s8 : own_S Z T21.heap (.ref as8) (some []) := own_S_keep F_s8 Kc21 Nss
  have F_s10 : own_S Z T21.heap (.ref as10) (some [(.int (120 : Int32)), (.int (109 : Int32)), (.int (108 : Int32))]) := own_S_keep F_s10 Kc21 Nss
  have L_st : own_SL Z T21.heap sv2 so2 := own_SL_keep L_st Kc21 Nss
  have F_ld13 : own_S Z T21.heap (sv0.getD ((0 : Int32)).toNatClampNeg .null) (so0.getD ((0 : Int32)).toNatClampNeg none) := own_S_keep F_ld13 Kc21 Nss
  have F_e00 : own_S Z T21.heap e00 (so0.getD ((0 : Int32)).toNatClampNeg none) := own_S_keep F_e00 Kc21 Nss
  have F_ld14 : own_S Z T21.heap (sv0.getD ((1 : Int32)).toNatClampNeg .null) (so0.getD ((1 : Int32)).toNatClampNeg none) := own_S_keep F_ld14 Kc21 Nss
  have F_e01 : own_S Z T21.heap e01 (so0.getD ((1 : Int32)).toNatClampNeg none) := own_S_keep F_e01 Kc21 Nss
  have F_ld15 : own_S Z T21.heap (sv0.getD ((2 : Int32)).toNatClampNeg .null) (so0.getD ((2 : Int32)).toNatClampNeg none) := own_S_keep F_ld15 Kc21 Nss
  have F_e02 : own_S Z T21.heap e02 (so0.getD ((2 : Int32)).toNatClampNeg none) := own_S_keep F_e02 Kc21 Nss
  have F_ld17 : own_S Z T21.heap (sv1.getD ((0 : Int32)).toNatClampNeg .null) (so1.getD ((0 : Int32)).toNatClampNeg none) := own_S_keep F_ld17 Kc21 Nss
  have F_e10 : own_S Z T21.heap e10 (so1.getD ((0 : Int32)).toNatClampNeg none) := own_S_keep F_e10 Kc21 Nss
  have F_ld18 : own_S Z T21.heap (sv1.getD ((1 : Int32)).toNatClampNeg .null) (so1.getD ((1 : Int32)).toNatClampNeg none) := own_S_keep F_ld18 Kc21 Nss
  have F_e11 : own_S Z T21.heap e11 (so1.getD ((1 : Int32)).toNatClampNeg none) := own_S_keep F_e11 Kc21 Nss
  have F_ld19 : own_S Z T21.heap (sv1.getD ((2 : Int32)).toNatClampNeg .null) (so1.getD ((2 : Int32)).toNatClampNeg none) := own_S_keep F_ld19 Kc21 Nss
  have F_e12 : own_S Z T21.heap e12 (so1.getD ((2 : Int32)).toNatClampNeg none) := own_S_keep F_e12 Kc21 Nss
  have Zn : n0 ≤ T21.heap.size := Nat.le_trans Zn Kc21.1
  have pre : ∀ τ, Steps p.tables e below (T21.setTop (mkF m 131 #[.val (.int p1), .val (.int p2), .val (.int p3), .val (.int p4), .val (.int i1), .val (.int i2), .val (.int i3), .val (.ref r_4), .val (.ref r_5), .val (.ref r_6), .val (.ref b7), .val e00, .val e01, .val e02, .val e10, .val e11, .val e12, .unset, .unset, .unset, .unset, .unset, .unset, .unset, .unset, .unset, .unset, .unset, .unset] [])) τ → G τ := fun τ κ => pre τ (st21 τ κ)
  obtain ⟨sv3, hsv3⟩ : ∃ q : List Value, q = stz_21 := ⟨_, rfl⟩
  obtain ⟨so3, hso3⟩ : ∃ q : List own_T, q = (own_ds (own_pk ((p3.toUInt32 >>> ((8 : Int32) &&& 31).toUInt32).toInt32)) i3 so2) := ⟨_, rfl⟩
  have V_st : Arv Z T21.heap b7 k7 (.object "java/lang/String") (3 : Int32) sv3 .null := by rw [hsv3]; exact V_st_21
  have L_st : own_SL Z T21.heap sv3 so3 := by rw [hsv3, hso3]; exact L_st_21
  have hl3 : sv3.length = 3 := by rw [hsv3]; exact hlz_21
  have pre : ∀ τ, Steps p.tables e below (T21.setTop (mkF m 134 #[.val (.int p1), .val (.int p2), .val (.int p3), .val (.int p4), .val (.int i1), .val (.int i2), .val (.int i3), .val (.ref r_4), .val (.ref r_5), .val (.ref r_6), .val (.ref b7), .val e00, .val e01, .val e02, .val e10, .val e11, .val e12, .unset, .unset, .unset, .unset, .unset, .unset, .unset, .unset, .unset, .unset, .unset, .unset] [(.int (0 : Int32)), (.ref b7)])) τ → G τ := fun τ κ => pre τ (by
    refine XS.aload X21.here hx rfl (hb hby at_131) rfl rfl ?_
    show Steps p.tables e below (T21.setTop (mkF m 133 #[.val (.int p1), .val (.int p2), .val (.int p3), .val (.int p4), .val (.int i1), .val (.int i2), .val (.int i3), .val (.ref r_4), .val (.ref r_5), .val (.ref r_6), .val (.ref b7), .val e00, .val e01, .val e02, .val e10, .val e11, .val e12, .unset, .unset, .unset, .unset, .unset, .unset, .unset, .unset, .unset, .unset, .unset, .unset] [(.ref b7)])) τ
    refine XS.iconst X21.here hx rfl (hb hby at_133) ?_
    show Steps p.tables e below (T21.setTop (mkF m 134 #[.val (.int p1), .val (.int p2), .val (.int p3), .val (.int p4), .val (.int i1), .val (.int i2), .val (.int i3), .val (.ref r_4), .val (.ref r_5), .val (.ref r_6), .val (.ref b7), .val e00, .val e01, .val e02, .val e10, .val e11, .val e12, .unset, .unset, .unset, .unset, .unset, .unset, .unset, .unset, .unset, .unset, .unset, .unset] [(.int (0 : Int32)), (.ref b7)])) τ
    exact κ)
  obtain ⟨c22, Ar22, q22, S22, Nz22, Hh22, Gg22⟩ := id V_st
  have F_ld22 : own_S Z T21.heap (sv3.getD ((0 : Int32)).toNatClampNeg .null) (so3.getD ((0 : Int32)).toNatClampNeg none) := L_st.2 _
  have hin22 : ¬ ((0 : Int32) < 0 ∨ c22.slots.size ≤ ((0 : Int32)).toNatClampNeg) := inb_of S22 ⟨by decide, by decide⟩
  have hat22 : c22.slots[((0 : Int32)).toNatClampNeg]? = some (sv3.getD ((0 : Int32)).toNatClampNeg .null) := Hh22.at hin22 rfl
  have pre : ∀ τ, Steps p.tables e below (T21.setTop (mkF m 135 #[.val (.int p1), .val (.int p2), .val (.int p3), .val (.int p4), .val (.int i1), .val (.int i2), .val (.int i3), .val (.ref r_4), .val (.ref r_5), .val (.ref r_6), .val (.ref b7), .val e00, .val e01, .val e02, .val e10, .val e11, .val e12, .unset, .unset, .unset, .unset, .unset, .unset, .unset, .unset, .unset, .unset, .unset, .unset] [(sv3.getD ((0 : Int32)).toNatClampNeg .null)])) τ → G τ := fun τ κ => pre τ (X21.aaload hx (j := (0 : Int32)) (v := (sv3.getD ((0 : Int32)).toNatClampNeg .null)) Ar22.1 (State.isArrayOf_alike hZ.alike Ar22.2.1) rfl Ar22.2.2 hin22 hat22 (g := (mkF m 134 #[.val (.int p1), .val (.int p2), .val (.int p3), .val (.int p4), .val (.int i1), .val (.int i2), .val (.int i3), .val (.ref r_4), .val (.ref r_5), .val (.ref r_6), .val (.ref b7), .val e00, .val e01, .val e02, .val e10, .val e11, .val e12, .unset, .unset, .unset, .unset, .unset, .unset, .unset, .unset, .unset, .unset, .unset, .unset] [(.int (0 : Int32)), (.ref b7)])) rfl rfl (hb hby at_134) _ κ)
  obtain ⟨e30, he30⟩ : ∃ q : Value, q = (sv3.getD ((0 : Int32)).toNatClampNeg .null) := ⟨_, rfl⟩
  have F_e30 : own_S Z T21.heap e30 (so3.getD ((0 : Int32)).toNatClampNeg none) := by rw [he30]; exact F_ld22
  have pre : ∀ τ, Steps p.tables e below (T21.setTop (mkF m 135 #[.val (.int p1), .val (.int p2), .val (.int p3), .val (.int p4), .val (.int i1), .val (.int i2), .val (.int i3), .val (.ref r_4), .val (.ref r_5), .val (.ref r_6), .val (.ref b7), .val e00, .val e01, .val e02, .val e10, .val e11, .val e12, .unset, .unset, .unset, .unset, .unset, .unset, .unset, .unset, .unset, .unset, .unset, .unset] [e30])) τ → G τ := by rw [he30]; exact pre
  have pre : ∀ τ, Steps p.tables e below (T21.setTop (mkF m 140 #[.val (.int p1), .val (.int p2), .val (.int p3), .val (.int p4), .val (.int i1), .val (.int i2), .val (.int i3), .val (.ref r_4), .val (.ref r_5), .val (.ref r_6), .val (.ref b7), .val e00, .val e01, .val e02, .val e10, .val e11, .val e12, .val e30, .unset, .unset, .unset, .unset, .unset, .unset, .unset, .unset, .unset, .unset, .unset] [(.int (1 : Int32)), (.ref b7)])) τ → G τ := fun τ κ => pre τ (by
    refine XS.astore X21.here hx rfl (hb hby at_135) rfl (own_S_ref F_e30) (l' := #[.val (.int p1), .val (.int p2), .val (.int p3), .val (.int p4), .val (.int i1), .val (.int i2), .val (.int i3), .val (.ref r_4), .val (.ref r_5), .val (.ref r_6), .val (.ref b7), .val e00, .val e01, .val e02, .val e10, .val e11, .val e12, .val e30, .unset, .unset, .unset, .unset, .unset, .unset, .unset, .unset, .unset, .unset, .unset]) (XS.store1 rfl (Or.inl rfl) (own_cat (own_S_ref F_e30))) ?_
    show Steps p.tables e below (T21.setTop (mkF m 137 #[.val (.int p1), .val (.int p2), .val (.int p3), .val (.int p4), .val (.int i1), .val (.int i2), .val (.int i3), .val (.ref r_4), .val (.ref r_5), .val (.ref r_6), .val (.ref b7), .val e00, .val e01, .val e02, .val e10, .val e11, .val e12, .val e30, .unset, .unset, .unset, .unset, .unset, .unset, .unset, .unset, .unset, .unset, .unset] [])) τ
    refine XS.aload X21.here hx rfl (hb hby at_137) rfl rfl ?_
    show Steps p.tables e below (T21.setTop (mkF m 139 #[.val (.int p1), .val (.int p2), .val (.int p3), .val (.int p4), .val (.int i1), .val (.int i2), .val (.int i3), .val (.ref r_4), .val (.ref r_5), .val (.ref r_6), .val (.ref b7), .val e00, .val e01, .val e02, .val e10, .val e11, .val e12, .val e30, .unset, .unset, .unset, .unset, .unset, .unset, .unset, .unset, .unset, .unset, .unset] [(.ref b7)])) τ
    refine XS.iconst X21.here hx rfl (hb hby at_139) ?_
    show Steps p.tables e below (T21.setTop (mkF m 140 #[.val (.int p1), .val (.int p2), .val (.int p3), .val (.int p4), .val (.int i1), .val (.int i2), .val (.int i3), .val (.ref r_4), .val (.ref r_5), .val (.ref r_6), .val (.ref b7), .val e00, .val e01, .val e02, .val e10, .val e11, .val e12, .val e30, .unset, .unset, .unset, .unset, .unset, .unset, .unset, .unset, .unset, .unset, .unset] [(.int (1 : Int32)), (.ref b7)])) τ
    exact κ)
  obtain ⟨c23, Ar23, q23, S23, Nz23, Hh23, Gg23⟩ := id V_st
  have F_ld23 : own_S Z T21.heap (sv3.getD ((1 : Int32)).toNatClampNeg .null) (so3.getD ((1 : Int32)).toNatClampNeg none) := L_st.2 _
  have hin23 : ¬ ((1 : Int32) < 0 ∨ c23.slots.size ≤ ((1 : Int32)).toNatClampNeg) := inb_of S23 ⟨by decide, by decide⟩
  have hat23 : c23.slots[((1 : Int32)).toNatClampNeg]? = some (sv3.getD ((1 : Int32)).toNatClampNeg .null) := Hh23.at hin23 rfl
  have pre : ∀ τ, Steps p.tables e below (T21.setTop (mkF m 141 #[.val (.int p1), .val (.int p2), .val (.int p3), .val (.int p4), .val (.int i1), .val (.int i2), .val (.int i3), .val (.ref r_4), .val (.ref r_5), .val (.ref r_6), .val (.ref b7), .val e00, .val e01, .val e02, .val e10, .val e11, .val e12, .val e30, .unset, .unset, .unset, .unset, .unset, .unset, .unset, .unset, .unset, .unset, .unset] [(sv3.getD ((1 : Int32)).toNatClampNeg .null)])) τ → G τ := fun τ κ => pre τ (X21.aaload hx (j := (1 : Int32)) (v := (sv3.getD ((1 : Int32)).toNatClampNeg .null)) Ar23.1 (State.isArrayOf_alike hZ.alike Ar23.2.1) rfl Ar23.2.2 hin23 hat23 (g := (mkF m 140 #[.val (.int p1), .val (.int p2), .val (.int p3), .val (.int p4), .val (.int i1), .val (.int i2), .val (.int i3), .val (.ref r_4), .val (.ref r_5), .val (.ref r_6), .val (.ref b7), .val e00, .val e01, .val e02, .val e10, .val e11, .val e12, .val e30, .unset, .unset, .unset, .unset, .unset, .unset, .unset, .unset, .unset, .unset, .unset] [(.int (1 : Int32)), (.ref b7)])) rfl rfl (hb hby at_140) _ κ)
  obtain ⟨e31, he31⟩ : ∃ q : Value, q = (sv3.getD ((1 : Int32)).toNatClampNeg .null) := ⟨_, rfl⟩
  have F_e31 : own_S Z T21.heap e31 (so3.getD ((1 : Int32)).toNatClampNeg none) := by rw [he31]; exact F_ld23
  have pre : ∀ τ, Steps p.tables e below (T21.setTop (mkF m 141 #[.val (.int p1), .val (.int p2), .val (.int p3), .val (.int p4), .val (.int i1), .val (.int i2), .val (.int i3), .val (.ref r_4), .val (.ref r_5), .val (.ref r_6), .val (.ref b7), .val e00, .val e01, .val e02, .val e10, .val e11, .val e12, .val e30, .unset, .unset, .unset, .unset, .unset, .unset, .unset, .unset, .unset, .unset, .unset] [e31])) τ → G τ := by rw [he31]; exact pre
  have pre : ∀ τ, Steps p.tables e below (T21.setTop (mkF m 146 #[.val (.int p1), .val (.int p2), .val (.int p3), .val (.int p4), .val (.int i1), .val (.int i2), .val (.int i3), .val (.ref r_4), .val (.ref r_5), .val (.ref r_6), .val (.ref b7), .val e00, .val e01, .val e02, .val e10, .val e11, .val e12, .val e30, .val e31, .unset, .unset, .unset, .unset, .unset, .unset, .unset, .unset, .unset, .unset] [(.int (2 : Int32)), (.ref b7)])) τ → G τ := fun τ κ => pre τ (by
    refine XS.astore X21.here hx rfl (hb hby at_141) rfl (own_S_ref F_e31) (l' := #[.val (.int p1), .val (.int p2), .val (.int p3), .val (.int p4), .val (.int i1), .val (.int i2), .val (.int i3), .val (.ref r_4), .val (.ref r_5), .val (.ref r_6), .val (.ref b7), .val e00, .val e01, .val e02, .val e10, .val e11, .val e12, .val e30, .val e31, .unset, .unset, .unset, .unset, .unset, .unset, .unset, .unset, .unset, .unset]) (XS.store1 rfl (Or.inl rfl) (own_cat (own_S_ref F_e31))) ?_
    show Steps p.tables e below (T21.setTop (mkF m 143 #[.val (.int p1), .val (.int p2), .val (.int p3), .val (.int p4), .val (.int i1), .val (.int i2), .val (.int i3), .val (.ref r_4), .val (.ref r_5), .val (.ref r_6), .val (.ref b7), .val e00, .val e01, .val e02, .val e10, .val e11, .val e12, .val e30, .val e31, .unset, .unset, .unset, .unset, .unset, .unset, .unset, .unset, .unset, .unset] [])) τ
    refine XS.aload X21.here hx rfl (hb hby at_143) rfl rfl ?_
    show Steps p.tables e below (T21.setTop (mkF m 145 #[.val (.int p1), .val (.int p2), .val (.int p3), .val (.int p4), .val (.int i1), .val (.int i2), .val (.int i3), .val (.ref r_4), .val (.ref r_5), .val (.ref r_6), .val (.ref b7), .val e00, .val e01, .val e02, .val e10, .val e11, .val e12, .val e30, .val e31, .unset, .unset, .unset, .unset, .unset, .unset, .unset, .unset, .unset, .unset] [(.ref b7)])) τ
    refine XS.iconst X21.here hx rfl (hb hby at_145) ?_
    show Steps p.tables e below (T21.setTop (mkF m 146 #[.val (.int p1), .val (.int p2), .val (.int p3), .val (.int p4), .val (.int i1), .val (.int i2), .val (.int i3), .val (.ref r_4), .val (.ref r_5), .val (.ref r_6), .val (.ref b7), .val e00, .val e01, .val e02, .val e10, .val e11, .val e12, .val e30, .val e31, .unset, .unset, .unset, .unset, .unset, .unset, .unset, .unset, .unset, .unset] [(.int (2 : Int32)), (.ref b7)])) τ
    exact κ)
  obtain ⟨c24, Ar24, q24, S24, Nz24, Hh24, Gg24⟩ := id V_st
  have F_ld24 : own_S Z T21.heap (sv3.getD ((2 : Int32)).toNatClampNeg .null) (so3.getD ((2 : Int32)).toNatClampNeg none) := L_st.2 _
  have hin24 : ¬ ((2 : Int32) < 0 ∨ c24.slots.size ≤ ((2 : Int32)).toNatClampNeg) := inb_of S24 ⟨by decide, by decide⟩
  have hat24 : c24.slots[((2 : Int32)).toNatClampNeg]? = some (sv3.getD ((2 : Int32)).toNatClampNeg .null) := Hh24.at hin24 rfl
  have pre : ∀ τ, Steps p.tables e below (T21.setTop (mkF m 147 #[.val (.int p1), .val (.int p2), .val (.int p3), .val (.int p4), .val (.int i1), .val (.int i2), .val (.int i3), .val (.ref r_4), .val (.ref r_5), .val (.ref r_6), .val (.ref b7), .val e00, .val e01, .val e02, .val e10, .val e11, .val e12, .val e30, .val e31, .unset, .unset, .unset, .unset, .unset, .unset, .unset, .unset, .unset, .unset] [(sv3.getD ((2 : Int32)).toNatClampNeg .null)])) τ → G τ := fun τ κ => pre τ (X21.aaload hx (j := (2 : Int32)) (v := (sv3.getD ((2 : Int32)).toNatClampNeg .null)) Ar24.1 (State.isArrayOf_alike hZ.alike Ar24.2.1) rfl Ar24.2.2 hin24 hat24 (g := (mkF m 146 #[.val (.int p1), .val (.int p2), .val (.int p3), .val (.int p4), .val (.int i1), .val (.int i2), .val (.int i3), .val (.ref r_4), .val (.ref r_5), .val (.ref r_6), .val (.ref b7), .val e00, .val e01, .val e02, .val e10, .val e11, .val e12, .val e30, .val e31, .unset, .unset, .unset, .unset, .unset, .unset, .unset, .unset, .unset, .unset] [(.int (2 : Int32)), (.ref b7)])) rfl rfl (hb hby at_146) _ κ)
  obtain ⟨e32, he32⟩ : ∃ q : Value, q = (sv3.getD ((2 : Int32)).toNatClampNeg .null) := ⟨_, rfl⟩
  have F_e32 : own_S Z T21.heap e32 (so3.getD ((2 : Int32)).toNatClampNeg none) := by rw [he32]; exact F_ld24
  have pre : ∀ τ, Steps p.tables e below (T21.setTop (mkF m 147 #[.val (.int p1), .val (.int p2), .val (.int p3), .val (.int p4), .val (.int i1), .val (.int i2), .val (.int i3), .val (.ref r_4), .val (.ref r_5), .val (.ref r_6), .val (.ref b7), .val e00, .val e01, .val e02, .val e10, .val e11, .val e12, .val e30, .val e31, .unset, .unset, .unset, .unset, .unset, .unset, .unset, .unset, .unset, .unset] [e32])) τ → G τ := by rw [he32]; exact pre
  have pre : ∀ τ, Steps p.tables e below (T21.setTop (mkF m 149 #[.val (.int p1), .val (.int p2), .val (.int p3), .val (.int p4), .val (.int i1), .val (.int i2), .val (.int i3), .val (.ref r_4), .val (.ref r_5), .val (.ref r_6), .val (.ref b7), .val e00, .val e01, .val e02, .val e10, .val e11, .val e12, .val e30, .val e31, .val e32, .unset, .unset, .unset, .unset, .unset, .unset, .unset, .unset, .unset] [])) τ → G τ := fun τ κ => pre τ (by
    refine XS.astore X21.here hx rfl (hb hby at_147) rfl (own_S_ref F_e32) (l' := #[.val (.int p1), .val (.int p2), .val (.int p3), .val (.int p4), .val (.int i1), .val (.int i2), .val (.int i3), .val (.ref r_4), .val (.ref r_5), .val (.ref r_6), .val (.ref b7), .val e00, .val e01, .val e02, .val e10, .val e11, .val e12, .val e30, .val e31, .val e32, .unset, .unset, .unset, .unset, .unset, .unset, .unset, .unset, .unset]) (XS.store1 rfl (Or.inl rfl) (own_cat (own_S_ref F_e32))) ?_
    show Steps p.tables e below (T21.setTop (mkF m 149 #[.val (.int p1), .val (.int p2), .val (.int p3), .val (.int p4), .val (.int i1), .val (.int i2), .val (.int i3), .val (.ref r_4), .val (.ref r_5), .val (.ref r_6), .val (.ref b7), .val e00, .val e01, .val e02, .val e10, .val e11, .val e12, .val e30, .val e31, .val e32, .unset, .unset, .unset, .unset, .unset, .unset, .unset, .unset, .unset] [])) τ
    exact κ)
  obtain ⟨T25, h25, X25, e25, E25, A25, D25, -, st25⟩ := newO X21 hx hZ hown (hw _ (List.mem_of_getElem? (i := 36) rfl)) (hw _ (List.mem_of_getElem? (i := 37) rfl)) (hw _ (List.mem_of_getElem? (i := 38) rfl)) rfl (g := (mkF m 149 #[.val (.int p1), .val (.int p2), .val (.int p3), .val (.int p4), .val (.int i1), .val (.int i2), .val (.int i3), .val (.ref r_4), .val (.ref r_5), .val (.ref r_6), .val (.ref b7), .val e00, .val e01, .val e02, .val e10, .val e11, .val e12, .val e30, .val e31, .val e32, .unset, .unset, .unset, .unset, .unset, .unset, .unset, .unset, .unset] [])) rfl (hb hby at_149) (by decide) (by decide)
  obtain ⟨b25, gg25⟩ : ∃ z, z = T21.heap.size := ⟨_, rfl⟩
  rw [← gg25] at A25 D25 st25
  have ne_b7_b25 : b7 ≠ b25 := Nat.ne_of_lt (Nat.lt_of_lt_of_le V_st.lt (Nat.le_of_eq gg25.symm))
  have g_b25 : n0 ≤ b25 := Nat.le_trans Zn (Nat.le_of_eq gg25.symm)
  have hk := Nat.le_trans hk E25.1
  have HR := HR.trans (CHr.ext E25 H)
  have H := HR.1
  have S_c : Sta Z h25 "java/lang/String" "COMPACT_STRINGS" "Z" (.int cw) := S_c.ext E25
  have F_r_4 : own_S Z h25 (.ref r_4) (some (own_pk ((p1.toUInt32 >>> ((8 : Int32) &&& 31).toUInt32).toInt32))) := own_S_ext F_r_4 E25
  have F_r_5 : own_S Z h25 (.ref r_5) (some (own_pk ((p2.toUInt32 >>> ((8 : Int32) &&& 31).toUInt32).toInt32))) := own_S_ext F_r_5 E25
  have F_r_6 : own_S Z h25 (.ref r_6) (some (own_pk ((p3.toUInt32 >>> ((8 : Int32) &&& 31).toUInt32).toInt32))) := own_S_ext F_r_6 E25
  have F_s8 : own_S Z h25 (.ref as8) (some []) := own_S_ext F_s8 E25
  have F_s10 : own_S Z h25 (.ref as10) (some [(.int (120 : Int32)), (.int (109 : Int32)), (.int (108 : Int32))]) := own_S_ext F_s10 E25
  have L_st : own_SL Z h25 sv3 so3 := own_SL_ext L_st E25
  have F_ld13 : own_S Z h25 (sv0.getD ((0 : Int32)).toNatClampNeg .null) (so0.getD ((0 : Int32)).toNatClampNeg none) := own_S_ext F_ld13 E25
  have F_e00 : own_S Z h25 e00 (so0.getD ((0 : Int32)).toNatClampNeg none) := own_S_ext F_e00 E25
  have F_ld14 : own_S Z h25 (sv0.getD ((1 : Int32)).toNatClampNeg .null) (so0.getD ((1 : Int32)).toNatClampNeg none) := own_S_ext F_ld14 E25
  have F_e01 : own_S Z h25 e01 (so0.getD ((1 : Int32)).toNatClampNeg none) := own_S_ext F_e01 E25
  have F_ld15 : own_S Z h25 (sv0.getD ((2 : Int32)).toNatClampNeg .null) (so0.getD ((2 : Int32)).toNatClampNeg none) := own_S_ext F_ld15 E25
  have F_e02 : own_S Z h25 e02 (so0.getD ((2 : Int32)).toNatClampNeg none) := own_S_ext F_e02 E25
  have F_ld17 : own_S Z h25 (sv1.getD ((0 : Int32)).toNatClampNeg .null) (so1.getD ((0 : Int32)).toNatClampNeg none) := own_S_ext F_ld17 E25
  have F_e10 : own_S Z h25 e10 (so1.getD ((0 : Int32)).toNatClampNeg none) := own_S_ext F_e10 E25
  have F_ld18 : own_S Z h25 (sv1.getD ((1 : Int32)).toNatClampNeg .null) (so1.getD ((1 : Int32)).toNatClampNeg none) := own_S_ext F_ld18 E25
  have F_e11 : own_S Z h25 e11 (so1.getD ((1 : Int32)).toNatClampNeg none) := own_S_ext F_e11 E25
  have F_ld19 : own_S Z h25 (sv1.getD ((2 : Int32)).toNatClampNeg .null) (so1.getD ((2 : Int32)).toNatClampNeg none) := own_S_ext F_ld19 E25
  have F_e12 : own_S Z h25 e12 (so1.getD ((2 : Int32)).toNatClampNeg none) := own_S_ext F_e12 E25
  have V_st : Arv Z h25 b7 k7 (.object "java/lang/String") (3 : Int32) sv3 .null := V_st.ext E25
  have F_ld22 : own_S Z h25 (sv3.getD ((0 : Int32)).toNatClampNeg .null) (so3.getD ((0 : Int32)).toNatClampNeg none) := own_S_ext F_ld22 E25
  have F_e30 : own_S Z h25 e30 (so3.getD ((0 : Int32)).toNatClampNeg none) := own_S_ext F_e30 E25
  have F_ld23 : own_S Z h25 (sv3.getD ((1 : Int32)).toNatClampNeg .null) (so3.getD ((1 : Int32)).toNatClampNeg none) := own_S_ext F_ld23 E25
  have F_e31 : own_S Z h25 e31 (so3.getD ((1 : Int32)).toNatClampNeg none) := own_S_ext F_e31 E25
  have F_ld24 : own_S Z h25 (sv3.getD ((2 : Int32)).toNatClampNeg .null) (so3.getD ((2 : Int32)).toNatClampNeg none) := own_S_ext F_ld24 E25
  have F_e32 : own_S Z h25 e32 (so3.getD ((2 : Int32)).toNatClampNeg none) := own_S_ext F_e32 E25
  have Zn : n0 ≤ h25.size := Nat.le_trans Zn E25.1
  have F_undoNamespaces_b25 : Fld Z h25 b25 "coppice/marshal/context/NamespaceScope" "undoNamespaces" "[I" .null := D25 (Or.inl (hw _ (List.mem_of_getElem? (i := 47) rfl))) (ty := (.array .int)) (by decide)
  have F_undoPrefixes_b25 : Fld Z h25 b25 "coppice/marshal/context/NamespaceScope" "undoPrefixes" "[Ljava/lang/String;" .null := D25 (Or.inl (hw _ (List.mem_of_getElem? (i := 50) rfl))) (ty := (.array (.object "java/lang/String"))) (by decide)
  have F_prefixes_b25 : Fld Z h25 b25 "coppice/marshal/context/NamespaceScope" "prefixes" "[Ljava/lang/String;" .null := D25 (Or.inr (hw _ (List.mem_of_getElem? (i := 52) rfl))) (ty := (.array (.object "java/lang/String"))) (by decide)
  have F_undoCount_b25 : Fld Z h25 b25 "coppice/marshal/context/NamespaceScope" "undoCount" "I" (.int (0 : Int32)) := D25 (Or.inl (hw _ (List.mem_of_getElem? (i := 65) rfl))) (ty := .int) (by decide)
  have E_b25 := A25
  have pre : ∀ τ, Steps p.tables e below (T25.setTop (mkF m 152 #[.val (.int p1), .val (.int p2), .val (.int p3), .val (.int p4), .val (.int i1), .val (.int i2), .val (.int i3), .val (.ref r_4), .val (.ref r_5), .val (.ref r_6), .val (.ref b7), .val e00, .val e01, .val e02, .val e10, .val e11, .val e12, .val e30, .val e31, .val e32, .unset, .unset, .unset, .unset, .unset, .unset, .unset, .unset, .unset] [(.ref b25)])) τ → G τ := fun τ κ => pre τ (st25 τ κ)
  have pre : ∀ τ, Steps p.tables e below (T25.setTop (mkF m 154 #[.val (.int p1), .val (.int p2), .val (.int p3), .val (.int p4), .val (.int i1), .val (.int i2), .val (.int i3), .val (.ref r_4), .val (.ref r_5), .val (.ref r_6), .val (.ref b7), .val e00, .val e01, .val e02, .val e10, .val e11, .val e12, .val e30, .val e31, .val e32, .unset, .unset, .unset, .unset, .unset, .unset, .unset, .unset, .unset] [(.int (3 : Int32)), (.ref b25), (.ref b25)])) τ → G τ := fun τ κ => pre τ (by
    refine XS.dup X25.here hx rfl (hb hby at_152) rfl rfl ?_
    show Steps p.tables e below (T25.setTop (mkF m 153 #[.val (.int p1), .val (.int p2), .val (.int p3), .val (.int p4), .val (.int i1), .val (.int i2), .val (.int i3), .val (.ref r_4), .val (.ref r_5), .val (.ref r_6), .val (.ref b7), .val e00, .val e01, .val e02, .val e10, .val e11, .val e12, .val e30, .val e31, .val e32, .unset, .unset, .unset, .unset, .unset, .unset, .unset, .unset, .unset] [(.ref b25), (.ref b25)])) τ
    refine XS.iconst X25.here hx rfl (hb hby at_153) ?_
    show Steps p.tables e below (T25.setTop (mkF m 154 #[.val (.int p1), .val (.int p2), .val (.int p3), .val (.int p4), .val (.int i1), .val (.int i2), .val (.int i3), .val (.ref r_4), .val (.ref r_5), .val (.ref r_6), .val (.ref b7), .val e00, .val e01, .val e02, .val e10, .val e11, .val e12, .val e30, .val e31, .val e32, .unset, .unset, .unset, .unset, .unset, .unset, .unset, .unset, .unset] [(.int (3 : Int32)), (.ref b25), (.ref b25)])) τ
    exact κ)
  obtain ⟨_, _, ⟨T26, Lx26, kx26, nx26⟩, -, X26, hS2, hg2, ⟨Lc26, hQ26, l26, y26, z26, HRc⟩, st26⟩ := X25.specialBackS hx (y := (⟨"coppice/marshal/context/NamespaceScope", "<init>", "(I)V"⟩ : MethodName)) rfl hown (mvT hZ (hw _ (List.mem_of_getElem? (i := 39) rfl))) (mvT hZ (hw _ (List.mem_of_getElem? (i := 40) rfl))) (mvT hZ (hw _ (List.mem_of_getElem? (i := 41) rfl))) (by decide) (backOfSH (W := 1) (rm6 l Z a0 hw hEL wS [] b25 (3 : Int32) .null .null .null (.int (0 : Int32)) h25 n0 Zn g_b25 E_b25 F_undoNamespaces_b25 F_undoPrefixes_b25 F_prefixes_b25 F_undoCount_b25 (by decide) (by decide)) hZ (hw _ (List.mem_of_getElem? (i := 41) rfl)) (hw _ (List.mem_of_getElem? (i := 38) rfl)) (by decide) (by decide) hEL H) (g := (mkF m 154 #[.val (.int p1), .val (.int p2), .val (.int p3), .val (.int p4), .val (.int i1), .val (.int i2), .val (.int i3), .val (.ref r_4), .val (.ref r_5), .val (.ref r_6), .val (.ref b7), .val e00, .val e01, .val e02, .val e10, .val e11, .val e12, .val e30, .val e31, .val e32, .unset, .unset, .unset, .unset, .unset, .unset, .unset, .unset, .unset] [(.int (3 : Int32)), (.ref b25), (.ref b25)])) rfl (by rw [hml]; rfl) (Steps.refl _) (a := b25) (argsL := [(.int (3 : Int32))]) (rest := [(.ref b25)]) (lenOf pd_8 rfl) rfl (by show 2 * 0 + _ ≤ _; exact Nat.le_of_eq rfl) (hb hby at_154) (fun _ _ => ⟨rfl, e25, (by decide : 12 + 7 ≤ _), (by decide : 75 + 55 ≤ _)⟩)
  dsimp only [Pt.U, Pt.locs, Pt.cells, Pt.slots] at hS2 hg2 HRc
  have hkT := Nat.le_trans hk (Nat.le_of_eq (congrArg Array.size (Eq.symm e25)))
  dsimp only [Pt.U, Pt.locs, Pt.cells, Pt.slots] at X26 l26 y26 z26 st26 hQ26
  replace y26 : kx26 = 19 := y26
  replace z26 : nx26 = 130 := z26
  subst y26 z26
  obtain ⟨un_26, up_26, pf_26, ku_26, kp_26, kf_26, pfz_26, rfl, Nq26, Kc26, gn_un_26, gz_un_26, gn_up_26, gz_up_26, gn_pf_26, gz_pf_26, ne_un__up_26, ne_un__pf_26, ne_up__pf_26, O_up_26, O_pf_26, E_o_26, F_un_26, F_up_26, F_pf_26, F_uc_26, V_un_26, V_up_26, V_pf_26, L_up_26, L_pf_26, hlz_26⟩ := hQ26
  have NN : Fr n0 Lx26 := by rw [l26]; exact Fr.app NN Nq26
  obtain ⟨X26, hS, hZ, hown⟩ := rebS hS hkT X26 hS2 hg2 hZ hown
  have hk := Nat.le_refl T26.heap.size
  have HR := HR.trans HRc
  have H := HR.1
  have g_un_26 := gn_un_26
  have ne_b7_un_26 : b7 ≠ un_26 := Nat.ne_of_lt (Nat.lt_of_lt_of_le V_st.lt gz_un_26)
  have ne_b25_un_26 : b25 ≠ un_26 := Nat.ne_of_lt (Nat.lt_of_lt_of_le F_undoNamespaces_b25.lt gz_un_26)
  have g_up_26 := gn_up_26
  have ne_b7_up_26 : b7 ≠ up_26 := Nat.ne_of_lt (Nat.lt_of_lt_of_le V_st.lt gz_up_26)
  have ne_b25_up_26 : b25 ≠ up_26 := Nat.ne_of_lt (Nat.lt_of_lt_of_le F_undoNamespaces_b25.lt gz_up_26)
  have g_pf_26 := gn_pf_26
  have ne_b7_pf_26 : b7 ≠ pf_26 := Nat.ne_of_lt (Nat.lt_of_lt_of_le V_st.lt gz_pf_26)
  have ne_b25_pf_26 : b25 ≠ pf_26 := Nat.ne_of_lt (Nat.lt_of_lt_of_le F_undoNamespaces_b25.lt gz_pf_26)
  have Nss : ∀ x ∈ [b25], own_ns Z h25 x := (allS (own_nsE E_b25 (hw _ (List.mem_of_getElem? (i := 37) rfl)) (by decide) (by decide)) all0)
  have S_c : Sta Z T26.heap "java/lang/String" "COMPACT_STRINGS" "Z" (.int cw) := own_sta_keepN S_c Kc26 Nss
  have F_r_4 : own_S Z T26.heap (.ref r_4) (some (own_pk ((p1.toUInt32 >>> ((8 : Int32) &&& 31).toUInt32).toInt32))) := own_S_keep F_r_4 Kc26 Nss
  have F_r_5 : own_S Z T26.heap (.ref r_5) (some (own_pk ((p2.toUInt32 >>> ((8 : Int32) &&& 31).toUInt32).toInt32))) := own_S_keep F_r_5 Kc26 Nss
  have F_r_6 : own_S Z T26.heap (.ref r_6) (some (own_pk ((p3.toUInt32 >>> ((8 : Int32) &&& 31).toUInt32).toInt32))) := own_S_keep F_r_6 Kc26 Nss
  have F_s8 : own_S Z T26.heap (.ref as8) (some []) := own_S_keep F_s8 Kc26 Nss
  have F_s10 : own_S Z T26.heap (.ref as10) (some [(.int (120 : Int32)), (.int (109 : Int32)), (.int (108 : Int32))]) := own_S_keep F_s10 Kc26 Nss
  have L_st : own_SL Z T26.heap sv3 so3 := own_SL_keep L_st Kc26 Nss
  have F_ld13 : own_S Z T26.heap (sv0.getD ((0 : Int32)).toNatClampNeg .null) (so0.getD ((0 : Int32)).toNatClampNeg none) := own_S_keep F_ld13 Kc26 Nss
  have F_e00 : own_S Z T26.heap e00 (so0.getD ((0 : Int32)).toNatClampNeg none) := own_S_keep F_e00 Kc26 Nss
  have F_ld14 : own_S Z T26.heap (sv0.getD ((1 : Int32)).toNatClampNeg .null) (so0.getD ((1 : Int32)).toNatClampNeg none) := own_S_keep F_ld14 Kc26 Nss
  have F_e01 : own_S Z T26.heap e01 (so0.getD ((1 : Int32)).toNatClampNeg none) := own_S_keep F_e01 Kc26 Nss
  have F_ld15 : own_S Z T26.heap (sv0.getD ((2 : Int32)).toNatClampNeg .null) (so0.getD ((2 : Int32)).toNatClampNeg none) := own_S_keep F_ld15 Kc26 Nss
  have F_e02 : own_S Z T26.heap e02 (so0.getD ((2 : Int32)).toNatClampNeg none) := own_S_keep F_e02 Kc26 Nss
  have F_ld17 : own_S Z T26.heap (sv1.getD ((0 : Int32)).toNatClampNeg .null) (so1.getD ((0 : Int32)).toNatClampNeg none) := own_S_keep F_ld17 Kc26 Nss
  have F_e10 : own_S Z T26.heap e10 (so1.getD ((0 : Int32)).toNatClampNeg none) := own_S_keep F_e10 Kc26 Nss
  have F_ld18 : own_S Z T26.heap (sv1.getD ((1 : Int32)).toNatClampNeg .null) (so1.getD ((1 : Int32)).toNatClampNeg none) := own_S_keep F_ld18 Kc26 Nss
  have F_e11 : own_S Z T26.heap e11 (so1.getD ((1 : Int32)).toNatClampNeg none) := own_S_keep F_e11 Kc26 Nss
  have F_ld19 : own_S Z T26.heap (sv1.getD ((2 : Int32)).toNatClampNeg .null) (so1.getD ((2 : Int32)).toNatClampNeg none) := own_S_keep F_ld19 Kc26 Nss
  have F_e12 : own_S Z T26.heap e12 (so1.getD ((2 : Int32)).toNatClampNeg none) := own_S_keep F_e12 Kc26 Nss
  have V_st : Arv Z T26.heap b7 k7 (.object "java/lang/String") (3 : Int32) sv3 .null := V_st.keep Kc26 (ninS ne_b7_b25 nin0)
  have F_ld22 : own_S Z T26.heap (sv3.getD ((0 : Int32)).toNatClampNeg .null) (so3.getD ((0 : Int32)).toNatClampNeg none) := own_S_keep F_ld22 Kc26 Nss
  have F_e30 : own_S Z T26.heap e30 (so3.getD ((0 : Int32)).toNatClampNeg none) := own_S_keep F_e30 Kc26 Nss
  have F_ld23 : own_S Z T26.heap (sv3.getD ((1 : Int32)).toNatClampNeg .null) (so3.getD ((1 : Int32)).toNatClampNeg none) := own_S_keep F_ld23 Kc26 Nss
  have F_e31 : own_S Z T26.heap e31 (so3.getD ((1 : Int32)).toNatClampNeg none) := own_S_keep F_e31 Kc26 Nss
  have F_ld24 : own_S Z T26.heap (sv3.getD ((2 : Int32)).toNatClampNeg .null) (so3.getD ((2 : Int32)).toNatClampNeg none) := own_S_keep F_ld24 Kc26 Nss
  have F_e32 : own_S Z T26.heap e32 (so3.getD ((2 : Int32)).toNatClampNeg none) := own_S_keep F_e32 Kc26 Nss
  have E_b25 : Exa Z T26.heap b25 "coppice/marshal/context/NamespaceScope" := E_b25.keep Kc26
  have Zn : n0 ≤ T26.heap.size := Nat.le_trans Zn Kc26.1
  have pre : ∀ τ, Steps p.tables e below (T26.setTop (mkF m 157 #[.val (.int p1), .val (.int p2), .val (.int p3), .val (.int p4), .val (.int i1), .val (.int i2), .val (.int i3), .val (.ref r_4), .val (.ref r_5), .val (.ref r_6), .val (.ref b7), .val e00, .val e01, .val e02, .val e10, .val e11, .val e12, .val e30, .val e31, .val e32, .unset, .unset, .unset, .unset, .unset, .unset, .unset, .unset, .unset] [(.ref b25)])) τ → G τ := fun τ κ => pre τ (st26.trans κ)
  obtain ⟨z0, hz0⟩ : ∃ q : own_ST, q = (own_r0 (3 : Int32), List.replicate 16 (.int (0 : Int32)), List.replicate 16 (none : own_T), (0 : Int32)) := ⟨_, rfl⟩
  have E_o := E_o_26
  have F_un := F_un_26
  have F_up := F_up_26
  have F_pf := F_pf_26
  have F_uc : Fld Z T26.heap b25 "coppice/marshal/context/NamespaceScope" "undoCount" "I" (.int z0.2.2.2) := by rw [hz0]; exact F_uc_26
  have V_un : Arv Z T26.heap un_26 ku_26 .int (16 : Int32) z0.2.1 (.int (0 : Int32)) := by rw [hz0]; exact V_un_26
  have V_up := V_up_26
  have V_pf := V_pf_26
  have L_up : own_SL Z T26.heap (List.replicate 16 .null) z0.2.2.1 := by rw [hz0]; exact L_up_26
  have L_pf : own_SL Z T26.heap pfz_26 z0.1 := by rw [hz0]; exact L_pf_26
  have Iz0 : own_I z0 0 := by rw [hz0]; exact own_I0
  have hup0 : (List.replicate 16 (Value.null)).length = 16 := List.length_replicate
  have hpf0 := hlz_26
  have pre : ∀ τ, Steps p.tables e below (T26.setTop (mkF m 161 #[.val (.int p1), .val (.int p2), .val (.int p3), .val (.int p4), .val (.int i1), .val (.int i2), .val (.int i3), .val (.ref r_4), .val (.ref r_5), .val (.ref r_6), .val (.ref b7), .val e00, .val e01, .val e02, .val e10, .val e11, .val e12, .val e30, .val e31, .val e32, .val (.ref b25), .unset, .unset, .unset, .unset, .unset, .unset, .unset, .unset] [(.ref b25)])) τ → G τ := fun τ κ => pre τ (by
    refine XS.astore X26.here hx rfl (hb hby at_157) rfl rfl (l' := #[.val (.int p1), .val (.int p2), .val (.int p3), .val (.int p4), .val (.int i1), .val (.int i2), .val (.int i3), .val (.ref r_4), .val (.ref r_5), .val (.ref r_6), .val (.ref b7), .val e00, .val e01, .val e02, .val e10, .val e11, .val e12, .val e30, .val e31, .val e32, .val (.ref b25), .unset, .unset, .unset, .unset, .unset, .unset, .unset, .unset]) rfl ?_
    show Steps p.tables e below (T26.setTop (mkF m 159 #[.val (.int p1), .val (.int p2), .val (.int p3), .val (.int p4), .val (.int i1), .val (.int i2), .val (.int i3), .val (.ref r_4), .val (.ref r_5), .val (.ref r_6), .val (.ref b7), .val e00, .val e01, .val e02, .val e10, .val e11, .val e12, .val e30, .val e31, .val e32, .val (.ref b25), .unset, .unset, .unset, .unset, .unset, .unset, .unset, .unset] [])) τ
    refine XS.aload X26.here hx rfl (hb hby at_159) rfl rfl ?_
    show Steps p.tables e below (T26.setTop (mkF m 161 #[.val (.int p1), .val (.int p2), .val (.int p3), .val (.int p4), .val (.int i1), .val (.int i2), .val (.int i3), .val (.ref r_4), .val (.ref r_5), .val (.ref r_6), .val (.ref b7), .val e00, .val e01, .val e02, .val e10, .val e11, .val e12, .val e30, .val e31, .val e32, .val (.ref b25), .unset, .unset, .unset, .unset, .unset, .unset, .unset, .unset] [(.ref b25)])) τ
    exact κ)
  obtain ⟨cq27, kq27, q27a, q27b, q27c⟩ := isOf hZ rfl E_b25
  obtain ⟨_, _, ⟨T27, Lx27, kx27, nx27⟩, -, X27, ⟨Lc27, hQ27, l27, y27, z27⟩, st27⟩ := X26.virtualBack hx (y := (⟨"coppice/marshal/context/NamespaceScope", "mark", "()I"⟩ : MethodName)) (z := (⟨"coppice/marshal/context/NamespaceScope", "mark", "()I"⟩ : MethodName)) hown (mvT hZ (hw _ (List.mem_of_getElem? (i := 66) rfl))) (mvT hZ (hw _ (List.mem_of_getElem? (i := 67) rfl))) (notFace_of_selects (args := #[]) (mvT hZ (hw _ (List.mem_of_getElem? (i := 69) rfl)))) (mvT hZ (hw _ (List.mem_of_getElem? (i := 69) rfl))) (mvT hZ (hw _ (List.mem_of_getElem? (i := 68) rfl))) (by decide) (backOf (W := 0) (rm10 l Z a0 hw [] b25 z0.2.2.2 T26.heap n0 Zn F_uc) hZ (hw _ (List.mem_of_getElem? (i := 70) rfl)) (hw _ (List.mem_of_getElem? (i := 38) rfl)) (by decide) (by decide)) q27a q27c (g := (mkF m 161 #[.val (.int p1), .val (.int p2), .val (.int p3), .val (.int p4), .val (.int i1), .val (.int i2), .val (.int i3), .val (.ref r_4), .val (.ref r_5), .val (.ref r_6), .val (.ref b7), .val e00, .val e01, .val e02, .val e10, .val e11, .val e12, .val e30, .val e31, .val e32, .val (.ref b25), .unset, .unset, .unset, .unset, .unset, .unset, .unset, .unset] [(.ref b25)])) rfl (by rw [hml]; rfl) (Steps.refl _) (argsL := []) (rest := []) (lenOf pd_9 rfl) rfl (by show 2 * 0 + _ ≤ _; exact Nat.le_of_eq rfl) (hb hby at_161) (fun _ _ => ⟨rfl, rfl, (by decide : 19 + 0 ≤ _), (by decide : 130 + 0 ≤ _)⟩)
  dsimp only [Pt.U, Pt.locs, Pt.cells, Pt.slots] at X27 l27 y27 z27 st27 hQ27
  replace y27 : kx27 = 19 := y27
  replace z27 : nx27 = 130 := z27
  subst y27 z27
  obtain ⟨rfl, Nq27, hs27⟩ := hQ27
  have NN : Fr n0 Lx27 := by rw [l27]; exact Fr.app NN Nq27
  have pre : ∀ τ, Steps p.tables e below (T27.setTop (mkF m 164 #[.val (.int p1), .val (.int p2), .val (.int p3), .val (.int p4), .val (.int i1), .val (.int i2), .val (.int i3), .val (.ref r_4), .val (.ref r_5), .val (.ref r_6), .val (.ref b7), .val e00, .val e01, .val e02, .val e10, .val e11, .val e12, .val e30, .val e31, .val e32, .val (.ref b25), .unset, .unset, .unset, .unset, .unset, .unset, .unset, .unset] [(.int z0.2.2.2)])) τ → G τ := fun τ κ => pre τ (st27.trans κ)
  have pre : ∀ τ, Steps p.tables e below (T27.setTop (mkF m 172 #[.val (.int p1), .val (.int p2), .val (.int p3), .val (.int p4), .val (.int i1), .val (.int i2), .val (.int i3), .val (.ref r_4), .val (.ref r_5), .val (.ref r_6), .val (.ref b7), .val e00, .val e01, .val e02, .val e10, .val e11, .val e12, .val e30, .val e31, .val e32, .val (.ref b25), .val (.int z0.2.2.2), .unset, .unset, .unset, .unset, .unset, .unset, .unset] [(.ref r_4), (.int i1), (.ref b25)])) τ → G τ := fun τ κ => pre τ (by
    refine XS.istore X27.here hx rfl (hb hby at_164) rfl (l' := #[.val (.int p1), .val (.int p2), .val (.int p3), .val (.int p4), .val (.int i1), .val (.int i2), .val (.int i3), .val (.ref r_4), .val (.ref r_5), .val (.ref r_6), .val (.ref b7), .val e00, .val e01, .val e02, .val e10, .val e11, .val e12, .val e30, .val e31, .val e32, .val (.ref b25), .val (.int z0.2.2.2), .unset, .unset, .unset, .unset, .unset, .unset, .unset]) rfl ?_
    show Steps p.tables e below (T27.setTop (mkF m 166 #[.val (.int p1), .val (.int p2), .val (.int p3), .val (.int p4), .val (.int i1), .val (.int i2), .val (.int i3), .val (.ref r_4), .val (.ref r_5), .val (.ref r_6), .val (.ref b7), .val e00, .val e01, .val e02, .val e10, .val e11, .val e12, .val e30, .val e31, .val e32, .val (.ref b25), .val (.int z0.2.2.2), .unset, .unset, .unset, .unset, .unset, .unset, .unset] [])) τ
    refine XS.aload X27.here hx rfl (hb hby at_166) rfl rfl ?_
    show Steps p.tables e below (T27.setTop (mkF m 168 #[.val (.int p1), .val (.int p2), .val (.int p3), .val (.int p4), .val (.int i1), .val (.int i2), .val (.int i3), .val (.ref r_4), .val (.ref r_5), .val (.ref r_6), .val (.ref b7), .val e00, .val e01, .val e02, .val e10, .val e11, .val e12, .val e30, .val e31, .val e32, .val (.ref b25), .val (.int z0.2.2.2), .unset, .unset, .unset, .unset, .unset, .unset, .unset] [(.ref b25)])) τ
    refine XS.iload X27.here hx rfl (hb hby at_168) rfl ?_
    show Steps p.tables e below (T27.setTop (mkF m 170 #[.val (.int p1), .val (.int p2), .val (.int p3), .val (.int p4), .val (.int i1), .val (.int i2), .val (.int i3), .val (.ref r_4), .val (.ref r_5), .val (.ref r_6), .val (.ref b7), .val e00, .val e01, .val e02, .val e10, .val e11, .val e12, .val e30, .val e31, .val e32, .val (.ref b25), .val (.int z0.2.2.2), .unset, .unset, .unset, .unset, .unset, .unset, .unset] [(.int i1), (.ref b25)])) τ
    refine XS.aload X27.here hx rfl (hb hby at_170) rfl rfl ?_
    show Steps p.tables e below (T27.setTop (mkF m 172 #[.val (.int p1), .val (.int p2), .val (.int p3), .val (.int p4), .val (.int i1), .val (.int i2), .val (.int i3), .val (.ref r_4), .val (.ref r_5), .val (.ref r_6), .val (.ref b7), .val e00, .val e01, .val e02, .val e10, .val e11, .val e12, .val e30, .val e31, .val e32, .val (.ref b25), .val (.int z0.2.2.2), .unset, .unset, .unset, .unset, .unset, .unset, .unset] [(.ref r_4), (.int i1), (.ref b25)])) τ
    exact κ)
  obtain ⟨cq28, kq28, q28a, q28b, q28c⟩ := isOf hZ hs27 E_b25
  obtain ⟨_, _, ⟨T28, Lx28, kx28, nx28⟩, -, X28, ⟨Lc28, hQ28, l28, y28, z28⟩, st28⟩ := X27.virtualBack hx (y := (⟨"coppice/marshal/context/NamespaceScope", "declare", "(ILjava/lang/String;)V"⟩ : MethodName)) (z := (⟨"coppice/marshal/context/NamespaceScope", "declare", "(ILjava/lang/String;)V"⟩ : MethodName)) hown (mvT hZ (hw _ (List.mem_of_getElem? (i := 71) rfl))) (mvT hZ (hw _ (List.mem_of_getElem? (i := 72) rfl))) (notFace_of_selects (args := #[]) (mvT hZ (hw _ (List.mem_of_getElem? (i := 74) rfl)))) (mvT hZ (hw _ (List.mem_of_getElem? (i := 74) rfl))) (mvT hZ (hw _ (List.mem_of_getElem? (i := 73) rfl))) (by decide) (backOf (W := 0) (rm11 l Z a0 hw [] b25 i1 r_4 un_26 up_26 pf_26 ku_26 kp_26 kf_26 (3 : Int32) z0 (List.replicate 16 .null) pfz_26 (own_pk ((p1.toUInt32 >>> ((8 : Int32) &&& 31).toUInt32).toInt32)) cw (0 : Int) T26.heap n0 Zn g_b25 gn_un_26 gn_up_26 gn_pf_26 E_b25 F_un F_up F_pf F_uc V_un V_up V_pf L_up L_pf O_up_26 O_pf_26 ne_b25_un_26 ne_b25_up_26 ne_b25_pf_26 ne_un__up_26 ne_un__pf_26 ne_up__pf_26 F_r_4 S_c hcw bi1 ⟨Iz0.1, Iz0.2.1⟩ (by decide) Iz0.2.2.1 hup0 hpf0) hZ (hw _ (List.mem_of_getElem? (i := 75) rfl)) (hw _ (List.mem_of_getElem? (i := 38) rfl)) (by decide) (by decide)) q28a q28c (g := (mkF m 172 #[.val (.int p1), .val (.int p2), .val (.int p3), .val (.int p4), .val (.int i1), .val (.int i2), .val (.int i3), .val (.ref r_4), .val (.ref r_5), .val (.ref r_6), .val (.ref b7), .val e00, .val e01, .val e02, .val e10, .val e11, .val e12, .val e30, .val e31, .val e32, .val (.ref b25), .val (.int z0.2.2.2), .unset, .unset, .unset, .unset, .unset, .unset, .unset] [(.ref r_4), (.int i1), (.ref b25)])) rfl (by rw [hml]; rfl) (Steps.refl _) (argsL := [(.int i1), (.ref r_4)]) (rest := []) (lenOf pd_1 rfl) rfl (by show 2 * 0 + _ ≤ _; exact Nat.le_of_eq rfl) (hb hby at_172) (fun _ _ => ⟨rfl, hs27, (by decide : 19 + 0 ≤ _), (by decide : 130 + 0 ≤ _)⟩)
  dsimp only [Pt.U, Pt.locs, Pt.cells, Pt.slots] at X28 l28 y28 z28 st28 hQ28
  replace y28 : kx28 = 19 := y28
  replace z28 : nx28 = 130 := z28
  subst y28 z28
  obtain ⟨upz_28, pfz_28, rfl, Nq28, Kc28, E_o_28, F_un_28, F_up_28, F_pf_28, F_uc_28, V_un_28, V_up_28, V_pf_28, L_up_28, L_pf_28, hlp_28, hlf_28⟩ := hQ28
  have NN : Fr n0 Lx28 := by rw [l28]; exact Fr.app NN Nq28
  have Nss : ∀ x ∈ [b25, un_26, up_26, pf_26], own_ns Z T26.heap x := (allS (own_nsE E_b25 (hw _ (List.mem_of_getElem? (i := 37) rfl)) (by decide) (by decide)) (allS (own_nsV V_un (by decide)) (allS (own_nsV V_up (by decide)) (allS (own_nsV V_pf (by decide)) all0))))
  have hk := Nat.le_trans hk Kc28.1
  have HR := HR.trans (CHr.keep Kc28 (fun x hx => own_safe hZ.alike (Nss x hx)) H)
  have H := HR.1
  have S_c : Sta Z T28.heap "java/lang/String" "COMPACT_STRINGS" "Z" (.int cw) := own_sta_keepN S_c Kc28 Nss
  have F_r_4 : own_S Z T28.heap (.ref r_4) (some (own_pk ((p1.toUInt32 >>> ((8 : Int32) &&& 31).toUInt32).toInt32))) := own_S_keep F_r_4 Kc28 Nss
  have F_r_5 : own_S Z T28.heap (.ref r_5) (some (own_pk ((p2.toUInt32 >>> ((8 : Int32) &&& 31).toUInt32).toInt32))) := own_S_keep F_r_5 Kc28 Nss
  have F_r_6 : own_S Z T28.heap (.ref r_6) (some (own_pk ((p3.toUInt32 >>> ((8 : Int32) &&& 31).toUInt32).toInt32))) := own_S_keep F_r_6 Kc28 Nss
  have F_s8 : own_S Z T28.heap (.ref as8) (some []) := own_S_keep F_s8 Kc28 Nss
  have F_s10 : own_S Z T28.heap (.ref as10) (some [(.int (120 : Int32)), (.int (109 : Int32)), (.int (108 : Int32))]) := own_S_keep F_s10 Kc28 Nss
  have L_st : own_SL Z T28.heap sv3 so3 := own_SL_keep L_st Kc28 Nss
  have F_ld13 : own_S Z T28.heap (sv0.getD ((0 : Int32)).toNatClampNeg .null) (so0.getD ((0 : Int32)).toNatClampNeg none) := own_S_keep F_ld13 Kc28 Nss
  have F_e00 : own_S Z T28.heap e00 (so0.getD ((0 : Int32)).toNatClampNeg none) := own_S_keep F_e00 Kc28 Nss
  have F_ld14 : own_S Z T28.heap (sv0.getD ((1 : Int32)).toNatClampNeg .null) (so0.getD ((1 : Int32)).toNatClampNeg none) := own_S_keep F_ld14 Kc28 Nss
  have F_e01 : own_S Z T28.heap e01 (so0.getD ((1 : Int32)).toNatClampNeg none) := own_S_keep F_e01 Kc28 Nss
  have F_ld15 : own_S Z T28.heap (sv0.getD ((2 : Int32)).toNatClampNeg .null) (so0.getD ((2 : Int32)).toNatClampNeg none) := own_S_keep F_ld15 Kc28 Nss
  have F_e02 : own_S Z T28.heap e02 (so0.getD ((2 : Int32)).toNatClampNeg none) := own_S_keep F_e02 Kc28 Nss
  have F_ld17 : own_S Z T28.heap (sv1.getD ((0 : Int32)).toNatClampNeg .null) (so1.getD ((0 : Int32)).toNatClampNeg none) := own_S_keep F_ld17 Kc28 Nss
  have F_e10 : own_S Z T28.heap e10 (so1.getD ((0 : Int32)).toNatClampNeg none) := own_S_keep F_e10 Kc28 Nss
  have F_ld18 : own_S Z T28.heap (sv1.getD ((1 : Int32)).toNatClampNeg .null) (so1.getD ((1 : Int32)).toNatClampNeg none) := own_S_keep F_ld18 Kc28 Nss
  have F_e11 : own_S Z T28.heap e11 (so1.getD ((1 : Int32)).toNatClampNeg none) := own_S_keep F_e11 Kc28 Nss
  have F_ld19 : own_S Z T28.heap (sv1.getD ((2 : Int32)).toNatClampNeg .null) (so1.getD ((2 : Int32)).toNatClampNeg none) := own_S_keep F_ld19 Kc28 Nss
  have F_e12 : own_S Z T28.heap e12 (so1.getD ((2 : Int32)).toNatClampNeg none) := own_S_keep F_e12 Kc28 Nss
  have V_st : Arv Z T28.heap b7 k7 (.object "java/lang/String") (3 : Int32) sv3 .null := V_st.keep Kc28 (ninS ne_b7_b25 (ninS ne_b7_un_26 (ninS ne_b7_up_26 (ninS ne_b7_pf_26 nin0))))
  have F_ld22 : own_S Z T28.heap (sv3.getD ((0 : Int32)).toNatClampNeg .null) (so3.getD ((0 : Int32)).toNatClampNeg none) := own_S_keep F_ld22 Kc28 Nss
  have F_e30 : own_S Z T28.heap e30 (so3.getD ((0 : Int32)).toNatClampNeg none) := own_S_keep F_e30 Kc28 Nss
  have F_ld23 : own_S Z T28.heap (sv3.getD ((1 : Int32)).toNatClampNeg .null) (so3.getD ((1 : Int32)).toNatClampNeg none) := own_S_keep F_ld23 Kc28 Nss
  have F_e31 : own_S Z T28.heap e31 (so3.getD ((1 : Int32)).toNatClampNeg none) := own_S_keep F_e31 Kc28 Nss
  have F_ld24 : own_S Z T28.heap (sv3.getD ((2 : Int32)).toNatClampNeg .null) (so3.getD ((2 : Int32)).toNatClampNeg none) := own_S_keep F_ld24 Kc28 Nss
  have F_e32 : own_S Z T28.heap e32 (so3.getD ((2 : Int32)).toNatClampNeg none) := own_S_keep F_e32 Kc28 Nss
  have E_b25 : Exa Z T28.heap b25 "coppice/marshal/context/NamespaceScope" := E_b25.keep Kc28
  have E_o : Exa Z T28.heap b25 "coppice/marshal/context/NamespaceScope" := E_o.keep Kc28
  have L_up : own_SL Z T28.heap (List.replicate 16 .null) z0.2.2.1 := own_SL_keep L_up Kc28 Nss
  have L_pf : own_SL Z T28.heap pfz_26 z0.1 := own_SL_keep L_pf Kc28 Nss
  have Zn : n0 ≤ T28.heap.size := Nat.le_trans Zn Kc28.1
  have pre : ∀ τ, Steps p.tables e below (T28.setTop (mkF m 175 #[.val (.int p1), .val (.int p2), .val (.int p3), .val (.int p4), .val (.int i1), .val (.int i2), .val (.int i3), .val (.ref r_4), .val (.ref r_5), .val (.ref r_6), .val (.ref b7), .val e00, .val e01, .val e02, .val e10, .val e11, .val e12, .val e30, .val e31, .val e32, .val (.ref b25), .val (.int z0.2.2.2), .unset, .unset, .unset, .unset, .unset, .unset, .unset] [])) τ → G τ := fun τ κ => pre τ (st28.trans κ)
  obtain ⟨z1, hz1⟩ : ∃ q : own_ST, q = own_de (own_pk ((p1.toUInt32 >>> ((8 : Int32) &&& 31).toUInt32).toInt32)) i1 (3 : Int32) z0 := ⟨_, rfl⟩
  have E_o := E_o_28
  have F_un := F_un_28
  have F_up := F_up_28
  have F_pf := F_pf_28
  have F_uc : Fld Z T28.heap b25 "coppice/marshal/context/NamespaceScope" "undoCount" "I" (.int z1.2.2.2) := by rw [hz1]; exact F_uc_28
  have V_un : Arv Z T28.heap un_26 ku_26 .int (16 : Int32) z1.2.1 (.int (0 : Int32)) := by rw [hz1]; exact V_un_28
  have V_up := V_up_28
  have V_pf := V_pf_28
  have L_up : own_SL Z T28.heap upz_28 z1.2.2.1 := by rw [hz1]; exact L_up_28
  have L_pf : own_SL Z T28.heap pfz_28 z1.1 := by rw [hz1]; exact L_pf_28
  have Iz1 : own_I z1 4 := by rw [hz1]; exact own_Ide bi1 Iz0 ⟨by decide, by decide⟩
  have Xz1 : own_X z0 z1 := by rw [hz1]; exact own_Xde bi1 Iz0 (by decide)
  have pre : ∀ τ, Steps p.tables e below (T28.setTop (mkF m 177 #[.val (.int p1), .val (.int p2), .val (.int p3), .val (.int p4), .val (.int i1), .val (.int i2), .val (.int i3), .val (.ref r_4), .val (.ref r_5), .val (.ref r_6), .val (.ref b7), .val e00, .val e01, .val e02, .val e10, .val e11, .val e12, .val e30, .val e31, .val e32, .val (.ref b25), .val (.int z0.2.2.2), .unset, .unset, .unset, .unset, .unset, .unset, .unset] [(.ref b25)])) τ → G τ := fun τ κ => pre τ (by
    refine XS.aload X28.here hx rfl (hb hby at_175) rfl rfl ?_
    show Steps p.tables e below (T28.setTop (mkF m 177 #[.val (.int p1), .val (.int p2), .val (.int p3), .val (.int p4), .val (.int i1), .val (.int i2), .val (.int i3), .val (.ref r_4), .val (.ref r_5), .val (.ref r_6), .val (.ref b7), .val e00, .val e01, .val e02, .val e10, .val e11, .val e12, .val e30, .val e31, .val e32, .val (.ref b25), .val (.int z0.2.2.2), .unset, .unset, .unset, .unset, .unset, .unset, .unset] [(.ref b25)])) τ
    exact κ)
  obtain ⟨cq29, kq29, q29a, q29b, q29c⟩ := isOf hZ rfl E_b25
  obtain ⟨_, _, ⟨T29, Lx29, kx29, nx29⟩, -, X29, ⟨Lc29, hQ29, l29, y29, z29⟩, st29⟩ := X28.virtualBack hx (y := (⟨"coppice/marshal/context/NamespaceScope", "mark", "()I"⟩ : MethodName)) (z := (⟨"coppice/marshal/context/NamespaceScope", "mark", "()I"⟩ : MethodName)) hown (mvT hZ (hw _ (List.mem_of_getElem? (i := 66) rfl))) (mvT hZ (hw _ (List.mem_of_getElem? (i := 67) rfl))) (notFace_of_selects (args := #[]) (mvT hZ (hw _ (List.mem_of_getElem? (i := 69) rfl)))) (mvT hZ (hw _ (List.mem_of_getElem? (i := 69) rfl))) (mvT hZ (hw _ (List.mem_of_getElem? (i := 68) rfl))) (by decide) (backOf (W := 0) (rm10 l Z a0 hw [] b25 z1.2.2.2 T28.heap n0 Zn F_uc) hZ (hw _ (List.mem_of_getElem? (i := 70) rfl)) (hw _ (List.mem_of_getElem? (i := 38) rfl)) (by decide) (by decide)) q29a q29c (g := (mkF m 177 #[.val (.int p1), .val (.int p2), .val (.int p3), .val (.int p4), .val (.int i1), .val (.int i2), .val (.int i3), .val (.ref r_4), .val (.ref r_5), .val (.ref r_6), .val (.ref b7), .val e00, .val e01, .val e02, .val e10, .val e11, .val e12, .val e30, .val e31, .val e32, .val (.ref b25), .val (.int z0.2.2.2), .unset, .unset, .unset, .unset, .unset, .unset, .unset] [(.ref b25)])) rfl (by rw [hml]; rfl) (Steps.refl _) (argsL := []) (rest := []) (lenOf pd_9 rfl) rfl (by show 2 * 0 + _ ≤ _; exact Nat.le_of_eq rfl) (hb hby at_177) (fun _ _ => ⟨rfl, rfl, (by decide : 19 + 0 ≤ _), (by decide : 130 + 0 ≤ _)⟩)
  dsimp only [Pt.U, Pt.locs, Pt.cells, Pt.slots] at X29 l29 y29 z29 st29 hQ29
  replace y29 : kx29 = 19 := y29
  replace z29 : nx29 = 130 := z29
  subst y29 z29
  obtain ⟨rfl, Nq29, hs29⟩ := hQ29
  have NN : Fr n0 Lx29 := by rw [l29]; exact Fr.app NN Nq29
  have pre : ∀ τ, Steps p.tables e below (T29.setTop (mkF m 180 #[.val (.int p1), .val (.int p2), .val (.int p3), .val (.int p4), .val (.int i1), .val (.int i2), .val (.int i3), .val (.ref r_4), .val (.ref r_5), .val (.ref r_6), .val (.ref b7), .val e00, .val e01, .val e02, .val e10, .val e11, .val e12, .val e30, .val e31, .val e32, .val (.ref b25), .val (.int z0.2.2.2), .unset, .unset, .unset, .unset, .unset, .unset, .unset] [(.int z1.2.2.2)])) τ → G τ := fun τ κ => pre τ (st29.trans κ)
  have pre : ∀ τ, Steps p.tables e below (T29.setTop (mkF m 188 #[.val (.int p1), .val (.int p2), .val (.int p3), .val (.int p4), .val (.int i1), .val (.int i2), .val (.int i3), .val (.ref r_4), .val (.ref r_5), .val (.ref r_6), .val (.ref b7), .val e00, .val e01, .val e02, .val e10, .val e11, .val e12, .val e30, .val e31, .val e32, .val (.ref b25), .val (.int z0.2.2.2), .val (.int z1.2.2.2), .unset, .unset, .unset, .unset, .unset, .unset] [(.ref r_5), (.int i2), (.ref b25)])) τ → G τ := fun τ κ => pre τ (by
    refine XS.istore X29.here hx rfl (hb hby at_180) rfl (l' := #[.val (.int p1), .val (.int p2), .val (.int p3), .val (.int p4), .val (.int i1), .val (.int i2), .val (.int i3), .val (.ref r_4), .val (.ref r_5), .val (.ref r_6), .val (.ref b7), .val e00, .val e01, .val e02, .val e10, .val e11, .val e12, .val e30, .val e31, .val e32, .val (.ref b25), .val (.int z0.2.2.2), .val (.int z1.2.2.2), .unset, .unset, .unset, .unset, .unset, .unset]) rfl ?_
    show Steps p.tables e below (T29.setTop (mkF m 182 #[.val (.int p1), .val (.int p2), .val (.int p3), .val (.int p4), .val (.int i1), .val (.int i2), .val (.int i3), .val (.ref r_4), .val (.ref r_5), .val (.ref r_6), .val (.ref b7), .val e00, .val e01, .val e02, .val e10, .val e11, .val e12, .val e30, .val e31, .val e32, .val (.ref b25), .val (.int z0.2.2.2), .val (.int z1.2.2.2), .unset, .unset, .unset, .unset, .unset, .unset] [])) τ
    refine XS.aload X29.here hx rfl (hb hby at_182) rfl rfl ?_
    show Steps p.tables e below (T29.setTop (mkF m 184 #[.val (.int p1), .val (.int p2), .val (.int p3), .val (.int p4), .val (.int i1), .val (.int i2), .val (.int i3), .val (.ref r_4), .val (.ref r_5), .val (.ref r_6), .val (.ref b7), .val e00, .val e01, .val e02, .val e10, .val e11, .val e12, .val e30, .val e31, .val e32, .val (.ref b25), .val (.int z0.2.2.2), .val (.int z1.2.2.2), .unset, .unset, .unset, .unset, .unset, .unset] [(.ref b25)])) τ
    refine XS.iload X29.here hx rfl (hb hby at_184) rfl ?_
    show Steps p.tables e below (T29.setTop (mkF m 186 #[.val (.int p1), .val (.int p2), .val (.int p3), .val (.int p4), .val (.int i1), .val (.int i2), .val (.int i3), .val (.ref r_4), .val (.ref r_5), .val (.ref r_6), .val (.ref b7), .val e00, .val e01, .val e02, .val e10, .val e11, .val e12, .val e30, .val e31, .val e32, .val (.ref b25), .val (.int z0.2.2.2), .val (.int z1.2.2.2), .unset, .unset, .unset, .unset, .unset, .unset] [(.int i2), (.ref b25)])) τ
    refine XS.aload X29.here hx rfl (hb hby at_186) rfl rfl ?_
    show Steps p.tables e below (T29.setTop (mkF m 188 #[.val (.int p1), .val (.int p2), .val (.int p3), .val (.int p4), .val (.int i1), .val (.int i2), .val (.int i3), .val (.ref r_4), .val (.ref r_5), .val (.ref r_6), .val (.ref b7), .val e00, .val e01, .val e02, .val e10, .val e11, .val e12, .val e30, .val e31, .val e32, .val (.ref b25), .val (.int z0.2.2.2), .val (.int z1.2.2.2), .unset, .unset, .unset, .unset, .unset, .unset] [(.ref r_5), (.int i2), (.ref b25)])) τ
    exact κ)
  obtain ⟨cq30, kq30, q30a, q30b, q30c⟩ := isOf hZ hs29 E_b25
  obtain ⟨_, _, ⟨T30, Lx30, kx30, nx30⟩, -, X30, ⟨Lc30, hQ30, l30, y30, z30⟩, st30⟩ := X29.virtualBack hx (y := (⟨"coppice/marshal/context/NamespaceScope", "declare", "(ILjava/lang/String;)V"⟩ : MethodName)) (z := (⟨"coppice/marshal/context/NamespaceScope", "declare", "(ILjava/lang/String;)V"⟩ : MethodName)) hown (mvT hZ (hw _ (List.mem_of_getElem? (i := 71) rfl))) (mvT hZ (hw _ (List.mem_of_getElem? (i := 72) rfl))) (notFace_of_selects (args := #[]) (mvT hZ (hw _ (List.mem_of_getElem? (i := 74) rfl)))) (mvT hZ (hw _ (List.mem_of_getElem? (i := 74) rfl))) (mvT hZ (hw _ (List.mem_of_getElem? (i := 73) rfl))) (by decide) (backOf (W := 0) (rm11 l Z a0 hw [] b25 i2 r_5 un_26 up_26 pf_26 ku_26 kp_26 kf_26 (3 : Int32) z1 upz_28 pfz_28 (own_pk ((p2.toUInt32 >>> ((8 : Int32) &&& 31).toUInt32).toInt32)) cw (4 : Int) T28.heap n0 Zn g_b25 gn_un_26 gn_up_26 gn_pf_26 E_b25 F_un F_up F_pf F_uc V_un V_up V_pf L_up L_pf O_up_26 O_pf_26 ne_b25_un_26 ne_b25_up_26 ne_b25_pf_26 ne_un__up_26 ne_un__pf_26 ne_up__pf_26 F_r_5 S_c hcw bi2 ⟨Iz1.1, Iz1.2.1⟩ (by decide) Iz1.2.2.1 hlp_28 hlf_28) hZ (hw _ (List.mem_of_getElem? (i := 75) rfl)) (hw _ (List.mem_of_getElem? (i := 38) rfl)) (by decide) (by decide)) q30a q30c (g := (mkF m 188 #[.val (.int p1), .val (.int p2), .val (.int p3), .val (.int p4), .val (.int i1), .val (.int i2), .val (.int i3), .val (.ref r_4), .val (.ref r_5), .val (.ref r_6), .val (.ref b7), .val e00, .val e01, .val e02, .val e10, .val e11, .val e12, .val e30, .val e31, .val e32, .val (.ref b25), .val (.int z0.2.2.2), .val (.int z1.2.2.2), .unset, .unset, .unset, .unset, .unset, .unset] [(.ref r_5), (.int i2), (.ref b25)])) rfl (by rw [hml]; rfl) (Steps.refl _) (argsL := [(.int i2), (.ref r_5)]) (rest := []) (lenOf pd_1 rfl) rfl (by show 2 * 0 + _ ≤ _; exact Nat.le_of_eq rfl) (hb hby at_188) (fun _ _ => ⟨rfl, hs29, (by decide : 19 + 0 ≤ _), (by decide : 130 + 0 ≤ _)⟩)
  dsimp only [Pt.U, Pt.locs, Pt.cells, Pt.slots] at X30 l30 y30 z30 st30 hQ30
  replace y30 : kx30 = 19 := y30
  replace z30 : nx30 = 130 := z30
  subst y30 z30
  obtain ⟨upz_30, pfz_30, rfl, Nq30, Kc30, E_o_30, F_un_30, F_up_30, F_pf_30, F_uc_30, V_un_30, V_up_30, V_pf_30, L_up_30, L_pf_30, hlp_30, hlf_30⟩ := hQ30
  have NN : Fr n0 Lx30 := by rw [l30]; exact Fr.app NN Nq30
  have Nss : ∀ x ∈ [b25, un_26, up_26, pf_26], own_ns Z T28.heap x := (allS (own_nsE E_b25 (hw _ (List.mem_of_getElem? (i := 37) rfl)) (by decide) (by decide)) (allS (own_nsV V_un (by decide)) (allS (own_nsV V_up (by decide)) (allS (own_nsV V_pf (by decide)) all0))))
  have hk := Nat.le_trans hk Kc30.1
  have HR := HR.trans (CHr.keep Kc30 (fun x hx => own_safe hZ.alike (Nss x hx)) H)
  have H := HR.1
  have S_c : Sta Z T30.heap "java/lang/String" "COMPACT_STRINGS" "Z" (.int cw) := own_sta_keepN S_c Kc30 Nss
  have F_r_4 : own_S Z T30.heap (.ref r_4) (some (own_pk ((p1.toUInt32 >>> ((8 : Int32) &&& 31).toUInt32).toInt32))) := own_S_keep F_r_4 Kc30 Nss
  have F_r_5 : own_S Z T30.heap (.ref r_5) (some (own_pk ((p2.toUInt32 >>> ((8 : Int32) &&& 31).toUInt32).toInt32))) := own_S_keep F_r_5 Kc30 Nss
  have F_r_6 : own_S Z T30.heap (.ref r_6) (some (own_pk ((p3.toUInt32 >>> ((8 : Int32) &&& 31).toUInt32).toInt32))) := own_S_keep F_r_6 Kc30 Nss
  have F_s8 : own_S Z T30.heap (.ref as8) (some []) := own_S_keep F_s8 Kc30 Nss
  have F_s10 : own_S Z T30.heap (.ref as10) (some [(.int (120 : Int32)), (.int (109 : Int32)), (.int (108 : Int32))]) := own_S_keep F_s10 Kc30 Nss
  have L_st : own_SL Z T30.heap sv3 so3 := own_SL_keep L_st Kc30 Nss
  have F_ld13 : own_S Z T30.heap (sv0.getD ((0 : Int32)).toNatClampNeg .null) (so0.getD ((0 : Int32)).toNatClampNeg none) := own_S_keep F_ld13 Kc30 Nss
  have F_e00 : own_S Z T30.heap e00 (so0.getD ((0 : Int32)).toNatClampNeg none) := own_S_keep F_e00 Kc30 Nss
  have F_ld14 : own_S Z T30.heap (sv0.getD ((1 : Int32)).toNatClampNeg .null) (so0.getD ((1 : Int32)).toNatClampNeg none) := own_S_keep F_ld14 Kc30 Nss
  have F_e01 : own_S Z T30.heap e01 (so0.getD ((1 : Int32)).toNatClampNeg none) := own_S_keep F_e01 Kc30 Nss
  have F_ld15 : own_S Z T30.heap (sv0.getD ((2 : Int32)).toNatClampNeg .null) (so0.getD ((2 : Int32)).toNatClampNeg none) := own_S_keep F_ld15 Kc30 Nss
  have F_e02 : own_S Z T30.heap e02 (so0.getD ((2 : Int32)).toNatClampNeg none) := own_S_keep F_e02 Kc30 Nss
  have F_ld17 : own_S Z T30.heap (sv1.getD ((0 : Int32)).toNatClampNeg .null) (so1.getD ((0 : Int32)).toNatClampNeg none) := own_S_keep F_ld17 Kc30 Nss
  have F_e10 : own_S Z T30.heap e10 (so1.getD ((0 : Int32)).toNatClampNeg none) := own_S_keep F_e10 Kc30 Nss
  have F_ld18 : own_S Z T30.heap (sv1.getD ((1 : Int32)).toNatClampNeg .null) (so1.getD ((1 : Int32)).toNatClampNeg none) := own_S_keep F_ld18 Kc30 Nss
  have F_e11 : own_S Z T30.heap e11 (so1.getD ((1 : Int32)).toNatClampNeg none) := own_S_keep F_e11 Kc30 Nss
  have F_ld19 : own_S Z T30.heap (sv1.getD ((2 : Int32)).toNatClampNeg .null) (so1.getD ((2 : Int32)).toNatClampNeg none) := own_S_keep F_ld19 Kc30 Nss
  have F_e12 : own_S Z T30.heap e12 (so1.getD ((2 : Int32)).toNatClampNeg none) := own_S_keep F_e12 Kc30 Nss
  have V_st : Arv Z T30.heap b7 k7 (.object "java/lang/String") (3 : Int32) sv3 .null := V_st.keep Kc30 (ninS ne_b7_b25 (ninS ne_b7_un_26 (ninS ne_b7_up_26 (ninS ne_b7_pf_26 nin0))))
  have F_ld22 : own_S Z T30.heap (sv3.getD ((0 : Int32)).toNatClampNeg .null) (so3.getD ((0 : Int32)).toNatClampNeg none) := own_S_keep F_ld22 Kc30 Nss
  have F_e30 : own_S Z T30.heap e30 (so3.getD ((0 : Int32)).toNatClampNeg none) := own_S_keep F_e30 Kc30 Nss
  have F_ld23 : own_S Z T30.heap (sv3.getD ((1 : Int32)).toNatClampNeg .null) (so3.getD ((1 : Int32)).toNatClampNeg none) := own_S_keep F_ld23 Kc30 Nss
  have F_e31 : own_S Z T30.heap e31 (so3.getD ((1 : Int32)).toNatClampNeg none) := own_S_keep F_e31 Kc30 Nss
  have F_ld24 : own_S Z T30.heap (sv3.getD ((2 : Int32)).toNatClampNeg .null) (so3.getD ((2 : Int32)).toNatClampNeg none) := own_S_keep F_ld24 Kc30 Nss
  have F_e32 : own_S Z T30.heap e32 (so3.getD ((2 : Int32)).toNatClampNeg none) := own_S_keep F_e32 Kc30 Nss
  have E_b25 : Exa Z T30.heap b25 "coppice/marshal/context/NamespaceScope" := E_b25.keep Kc30
  have E_o : Exa Z T30.heap b25 "coppice/marshal/context/NamespaceScope" := E_o.keep Kc30
  have L_up : own_SL Z T30.heap upz_28 z1.2.2.1 := own_SL_keep L_up Kc30 Nss
  have L_pf : own_SL Z T30.heap pfz_28 z1.1 := own_SL_keep L_pf Kc30 Nss
  have Zn : n0 ≤ T30.heap.size := Nat.le_trans Zn Kc30.1
  have pre : ∀ τ, Steps p.tables e below (T30.setTop (mkF m 191 #[.val (.int p1), .val (.int p2), .val (.int p3), .val (.int p4), .val (.int i1), .val (.int i2), .val (.int i3), .val (.ref r_4), .val (.ref r_5), .val (.ref r_6), .val (.ref b7), .val e00, .val e01, .val e02, .val e10, .val e11, .val e12, .val e30, .val e31, .val e32, .val (.ref b25), .val (.int z0.2.2.2), .val (.int z1.2.2.2), .unset, .unset, .unset, .unset, .unset, .unset] [])) τ → G τ := fun τ κ => pre τ (st30.trans κ)
  obtain ⟨z2, hz2⟩ : ∃ q : own_ST, q = own_de (own_pk ((p2.toUInt32 >>> ((8 : Int32) &&& 31).toUInt32).toInt32)) i2 (3 : Int32) z1 := ⟨_, rfl⟩
  have E_o := E_o_30
  have F_un := F_un_30
  have F_up := F_up_30
  have F_pf := F_pf_30
  have F_uc : Fld Z T30.heap b25 "coppice/marshal/context/NamespaceScope" "undoCount" "I" (.int z2.2.2.2) := by rw [hz2]; exact F_uc_30
  have V_un : Arv Z T30.heap un_26 ku_26 .int (16 : Int32) z2.2.1 (.int (0 : Int32)) := by rw [hz2]; exact V_un_30
  have V_up := V_up_30
  have V_pf := V_pf_30
  have L_up : own_SL Z T30.heap upz_30 z2.2.2.1 := by rw [hz2]; exact L_up_30
  have L_pf : own_SL Z T30.heap pfz_30 z2.1 := by rw [hz2]; exact L_pf_30
  have Iz2 : own_I z2 8 := by rw [hz2]; exact own_Ide bi2 Iz1 ⟨by decide, by decide⟩
  have Xz2 : own_X z1 z2 := by rw [hz2]; exact own_Xde bi2 Iz1 (by decide)
  have pre : ∀ τ, Steps p.tables e below (T30.setTop (mkF m 197 #[.val (.int p1), .val (.int p2), .val (.int p3), .val (.int p4), .val (.int i1), .val (.int i2), .val (.int i3), .val (.ref r_4), .val (.ref r_5), .val (.ref r_6), .val (.ref b7), .val e00, .val e01, .val e02, .val e10, .val e11, .val e12, .val e30, .val e31, .val e32, .val (.ref b25), .val (.int z0.2.2.2), .val (.int z1.2.2.2), .unset, .unset, .unset, .unset, .unset, .unset] [(.ref r_6), (.int i3), (.ref b25)])) τ → G τ := fun τ κ => pre τ (by
    refine XS.aload X30.here hx rfl (hb hby at_191) rfl rfl ?_
    show Steps p.tables e below (T30.setTop (mkF m 193 #[.val (.int p1), .val (.int p2), .val (.int p3), .val (.int p4), .val (.int i1), .val (.int i2), .val (.int i3), .val (.ref r_4), .val (.ref r_5), .val (.ref r_6), .val (.ref b7), .val e00, .val e01, .val e02, .val e10, .val e11, .val e12, .val e30, .val e31, .val e32, .val (.ref b25), .val (.int z0.2.2.2), .val (.int z1.2.2.2), .unset, .unset, .unset, .unset, .unset, .unset] [(.ref b25)])) τ
    refine XS.iload X30.here hx rfl (hb hby at_193) rfl ?_
    show Steps p.tables e below (T30.setTop (mkF m 195 #[.val (.int p1), .val (.int p2), .val (.int p3), .val (.int p4), .val (.int i1), .val (.int i2), .val (.int i3), .val (.ref r_4), .val (.ref r_5), .val (.ref r_6), .val (.ref b7), .val e00, .val e01, .val e02, .val e10, .val e11, .val e12, .val e30, .val e31, .val e32, .val (.ref b25), .val (.int z0.2.2.2), .val (.int z1.2.2.2), .unset, .unset, .unset, .unset, .unset, .unset] [(.int i3), (.ref b25)])) τ
    refine XS.aload X30.here hx rfl (hb hby at_195) rfl rfl ?_
    show Steps p.tables e below (T30.setTop (mkF m 197 #[.val (.int p1), .val (.int p2), .val (.int p3), .val (.int p4), .val (.int i1), .val (.int i2), .val (.int i3), .val (.ref r_4), .val (.ref r_5), .val (.ref r_6), .val (.ref b7), .val e00, .val e01, .val e02, .val e10, .val e11, .val e12, .val e30, .val e31, .val e32, .val (.ref b25), .val (.int z0.2.2.2), .val (.int z1.2.2.2), .unset, .unset, .unset, .unset, .unset, .unset] [(.ref r_6), (.int i3), (.ref b25)])) τ
    exact κ)
  obtain ⟨cq31, kq31, q31a, q31b, q31c⟩ := isOf hZ rfl E_b25
  obtain ⟨_, _, ⟨T31, Lx31, kx31, nx31⟩, -, X31, ⟨Lc31, hQ31, l31, y31, z31⟩, st31⟩ := X30.virtualBack hx (y := (⟨"coppice/marshal/context/NamespaceScope", "declare", "(ILjava/lang/String;)V"⟩ : MethodName)) (z := (⟨"coppice/marshal/context/NamespaceScope", "declare", "(ILjava/lang/String;)V"⟩ : MethodName)) hown (mvT hZ (hw _ (List.mem_of_getElem? (i := 71) rfl))) (mvT hZ (hw _ (List.mem_of_getElem? (i := 72) rfl))) (notFace_of_selects (args := #[]) (mvT hZ (hw _ (List.mem_of_getElem? (i := 74) rfl)))) (mvT hZ (hw _ (List.mem_of_getElem? (i := 74) rfl))) (mvT hZ (hw _ (List.mem_of_getElem? (i := 73) rfl))) (by decide) (backOf (W := 0) (rm11 l Z a0 hw [] b25 i3 r_6 un_26 up_26 pf_26 ku_26 kp_26 kf_26 (3 : Int32) z2 upz_30 pfz_30 (own_pk ((p3.toUInt32 >>> ((8 : Int32) &&& 31).toUInt32).toInt32)) cw (8 : Int) T30.heap n0 Zn g_b25 gn_un_26 gn_up_26 gn_pf_26 E_b25 F_un F_up F_pf F_uc V_un V_up V_pf L_up L_pf O_up_26 O_pf_26 ne_b25_un_26 ne_b25_up_26 ne_b25_pf_26 ne_un__up_26 ne_un__pf_26 ne_up__pf_26 F_r_6 S_c hcw bi3 ⟨Iz2.1, Iz2.2.1⟩ (by decide) Iz2.2.2.1 hlp_30 hlf_30) hZ (hw _ (List.mem_of_getElem? (i := 75) rfl)) (hw _ (List.mem_of_getElem? (i := 38) rfl)) (by decide) (by decide)) q31a q31c (g := (mkF m 197 #[.val (.int p1), .val (.int p2), .val (.int p3), .val (.int p4), .val (.int i1), .val (.int i2), .val (.int i3), .val (.ref r_4), .val (.ref r_5), .val (.ref r_6), .val (.ref b7), .val e00, .val e01, .val e02, .val e10, .val e11, .val e12, .val e30, .val e31, .val e32, .val (.ref b25), .val (.int z0.2.2.2), .val (.int z1.2.2.2), .unset, .unset, .unset, .unset, .unset, .unset] [(.ref r_6), (.int i3), (.ref b25)])) rfl (by rw [hml]; rfl) (Steps.refl _) (argsL := [(.int i3), (.ref r_6)]) (rest := []) (lenOf pd_1 rfl) rfl (by show 2 * 0 + _ ≤ _; exact Nat.le_of_eq rfl) (hb hby at_197) (fun _ _ => ⟨rfl, rfl, (by decide : 19 + 0 ≤ _), (by decide : 130 + 0 ≤ _)⟩)
  dsimp only [Pt.U, Pt.locs, Pt.cells, Pt.slots] at X31 l31 y31 z31 st31 hQ31
  replace y31 : kx31 = 19 := y31
  replace z31 : nx31 = 130 := z31
  subst y31 z31
  obtain ⟨upz_31, pfz_31, rfl, Nq31, Kc31, E_o_31, F_un_31, F_up_31, F_pf_31, F_uc_31, V_un_31, V_up_31, V_pf_31, L_up_31, L_pf_31, hlp_31, hlf_31⟩ := hQ31
  have NN : Fr n0 Lx31 := by rw [l31]; exact Fr.app NN Nq31
  have Nss : ∀ x ∈ [b25, un_26, up_26, pf_26], own_ns Z T30.heap x := (allS (own_nsE E_b25 (hw _ (List.mem_of_getElem? (i := 37) rfl)) (by decide) (by decide)) (allS (own_nsV V_un (by decide)) (allS (own_nsV V_up (by decide)) (allS (own_nsV V_pf (by decide)) all0))))
  have hk := Nat.le_trans hk Kc31.1
  have HR := HR.trans (CHr.keep Kc31 (fun x hx => own_safe hZ.alike (Nss x hx)) H)
  have H := HR.1
  have S_c : Sta Z T31.heap "java/lang/String" "COMPACT_STRINGS" "Z" (.int cw) := own_sta_keepN S_c Kc31 Nss
  have F_r_4 : own_S Z T31.heap (.ref r_4) (some (own_pk ((p1.toUInt32 >>> ((8 : Int32) &&& 31).toUInt32).toInt32))) := own_S_keep F_r_4 Kc31 Nss
  have F_r_5 : own_S Z T31.heap (.ref r_5) (some (own_pk ((p2.toUInt32 >>> ((8 : Int32) &&& 31).toUInt32).toInt32))) := own_S_keep F_r_5 Kc31 Nss
  have F_r_6 : own_S Z T31.heap (.ref r_6) (some (own_pk ((p3.toUInt32 >>> ((8 : Int32) &&& 31).toUInt32).toInt32))) := own_S_keep F_r_6 Kc31 Nss
  have F_s8 : own_S Z T31.heap (.ref as8) (some []) := own_S_keep F_s8 Kc31 Nss
  have F_s10 : own_S Z T31.heap (.ref as10) (some [(.int (120 : Int32)), (.int (109 : Int32)), (.int (108 : Int32))]) := own_S_keep F_s10 Kc31 Nss
  have L_st : own_SL Z T31.heap sv3 so3 := own_SL_keep L_st Kc31 Nss
  have F_ld13 : own_S Z T31.heap (sv0.getD ((0 : Int32)).toNatClampNeg .null) (so0.getD ((0 : Int32)).toNatClampNeg none) := own_S_keep F_ld13 Kc31 Nss
  have F_e00 : own_S Z T31.heap e00 (so0.getD ((0 : Int32)).toNatClampNeg none) := own_S_keep F_e00 Kc31 Nss
  have F_ld14 : own_S Z T31.heap (sv0.getD ((1 : Int32)).toNatClampNeg .null) (so0.getD ((1 : Int32)).toNatClampNeg none) := own_S_keep F_ld14 Kc31 Nss
  have F_e01 : own_S Z T31.heap e01 (so0.getD ((1 : Int32)).toNatClampNeg none) := own_S_keep F_e01 Kc31 Nss
  have F_ld15 : own_S Z T31.heap (sv0.getD ((2 : Int32)).toNatClampNeg .null) (so0.getD ((2 : Int32)).toNatClampNeg none) := own_S_keep F_ld15 Kc31 Nss
  have F_e02 : own_S Z T31.heap e02 (so0.getD ((2 : Int32)).toNatClampNeg none) := own_S_keep F_e02 Kc31 Nss
  have F_ld17 : own_S Z T31.heap (sv1.getD ((0 : Int32)).toNatClampNeg .null) (so1.getD ((0 : Int32)).toNatClampNeg none) := own_S_keep F_ld17 Kc31 Nss
  have F_e10 : own_S Z T31.heap e10 (so1.getD ((0 : Int32)).toNatClampNeg none) := own_S_keep F_e10 Kc31 Nss
  have F_ld18 : own_S Z T31.heap (sv1.getD ((1 : Int32)).toNatClampNeg .null) (so1.getD ((1 : Int32)).toNatClampNeg none) := own_S_keep F_ld18 Kc31 Nss
  have F_e11 : own_S Z T31.heap e11 (so1.getD ((1 : Int32)).toNatClampNeg none) := own_S_keep F_e11 Kc31 Nss
  have F_ld19 : own_S Z T31.heap (sv1.getD ((2 : Int32)).toNatClampNeg .null) (so1.getD ((2 : Int32)).toNatClampNeg none) := own_S_keep F_ld19 Kc31 Nss
  have F_e12 : own_S Z T31.heap e12 (so1.getD ((2 : Int32)).toNatClampNeg none) := own_S_keep F_e12 Kc31 Nss
  have V_st : Arv Z T31.heap b7 k7 (.object "java/lang/String") (3 : Int32) sv3 .null := V_st.keep Kc31 (ninS ne_b7_b25 (ninS ne_b7_un_26 (ninS ne_b7_up_26 (ninS ne_b7_pf_26 nin0))))
  have F_ld22 : own_S Z T31.heap (sv3.getD ((0 : Int32)).toNatClampNeg .null) (so3.getD ((0 : Int32)).toNatClampNeg none) := own_S_keep F_ld22 Kc31 Nss
  have F_e30 : own_S Z T31.heap e30 (so3.getD ((0 : Int32)).toNatClampNeg none) := own_S_keep F_e30 Kc31 Nss
  have F_ld23 : own_S Z T31.heap (sv3.getD ((1 : Int32)).toNatClampNeg .null) (so3.getD ((1 : Int32)).toNatClampNeg none) := own_S_keep F_ld23 Kc31 Nss
  have F_e31 : own_S Z T31.heap e31 (so3.getD ((1 : Int32)).toNatClampNeg none) := own_S_keep F_e31 Kc31 Nss
  have F_ld24 : own_S Z T31.heap (sv3.getD ((2 : Int32)).toNatClampNeg .null) (so3.getD ((2 : Int32)).toNatClampNeg none) := own_S_keep F_ld24 Kc31 Nss
  have F_e32 : own_S Z T31.heap e32 (so3.getD ((2 : Int32)).toNatClampNeg none) := own_S_keep F_e32 Kc31 Nss
  have E_b25 : Exa Z T31.heap b25 "coppice/marshal/context/NamespaceScope" := E_b25.keep Kc31
  have E_o : Exa Z T31.heap b25 "coppice/marshal/context/NamespaceScope" := E_o.keep Kc31
  have L_up : own_SL Z T31.heap upz_30 z2.2.2.1 := own_SL_keep L_up Kc31 Nss
  have L_pf : own_SL Z T31.heap pfz_30 z2.1 := own_SL_keep L_pf Kc31 Nss
  have Zn : n0 ≤ T31.heap.size := Nat.le_trans Zn Kc31.1
  have pre : ∀ τ, Steps p.tables e below (T31.setTop (mkF m 200 #[.val (.int p1), .val (.int p2), .val (.int p3), .val (.int p4), .val (.int i1), .val (.int i2), .val (.int i3), .val (.ref r_4), .val (.ref r_5), .val (.ref r_6), .val (.ref b7), .val e00, .val e01, .val e02, .val e10, .val e11, .val e12, .val e30, .val e31, .val e32, .val (.ref b25), .val (.int z0.2.2.2), .val (.int z1.2.2.2), .unset, .unset, .unset, .unset, .unset, .unset] [])) τ → G τ := fun τ κ => pre τ (st31.trans κ)
  obtain ⟨z3, hz3⟩ : ∃ q : own_ST, q = own_de (own_pk ((p3.toUInt32 >>> ((8 : Int32) &&& 31).toUInt32).toInt32)) i3 (3 : Int32) z2 := ⟨_, rfl⟩
  have E_o := E_o_31
  have F_un := F_un_31
  have F_up := F_up_31
  have F_pf := F_pf_31
  have F_uc : Fld Z T31.heap b25 "coppice/marshal/context/NamespaceScope" "undoCount" "I" (.int z3.2.2.2) := by rw [hz3]; exact F_uc_31
  have V_un : Arv Z T31.heap un_26 ku_26 .int (16 : Int32) z3.2.1 (.int (0 : Int32)) := by rw [hz3]; exact V_un_31
  have V_up := V_up_31
  have V_pf := V_pf_31
  have L_up : own_SL Z T31.heap upz_31 z3.2.2.1 := by rw [hz3]; exact L_up_31
  have L_pf : own_SL Z T31.heap pfz_31 z3.1 := by rw [hz3]; exact L_pf_31
  have Iz3 : own_I z3 12 := by rw [hz3]; exact own_Ide bi3 Iz2 ⟨by decide, by decide⟩
  have Xz3 : own_X z2 z3 := by rw [hz3]; exact own_Xde bi3 Iz2 (by decide)
  have pre : ∀ τ, Steps p.tables e below (T31.setTop (mkF m 202 #[.val (.int p1), .val (.int p2), .val (.int p3), .val (.int p4), .val (.int i1), .val (.int i2), .val (.int i3), .val (.ref r_4), .val (.ref r_5), .val (.ref r_6), .val (.ref b7), .val e00, .val e01, .val e02, .val e10, .val e11, .val e12, .val e30, .val e31, .val e32, .val (.ref b25), .val (.int z0.2.2.2), .val (.int z1.2.2.2), .unset, .unset, .unset, .unset, .unset, .unset] [(.ref b25)])) τ → G τ := fun τ κ => pre τ (by
    refine XS.aload X31.here hx rfl (hb hby at_200) rfl rfl ?_
    show Steps p.tables e below (T31.setTop (mkF m 202 #[.val (.int p1), .val (.int p2), .val (.int p3), .val (.int p4), .val (.int i1), .val (.int i2), .val (.int i3), .val (.ref r_4), .val (.ref r_5), .val (.ref r_6), .val (.ref b7), .val e00, .val e01, .val e02, .val e10, .val e11, .val e12, .val e30, .val e31, .val e32, .val (.ref b25), .val (.int z0.2.2.2), .val (.int z1.2.2.2), .unset, .unset, .unset, .unset, .unset, .unset] [(.ref b25)])) τ
    exact κ)
  obtain ⟨cq32, kq32, q32a, q32b, q32c⟩ := isOf hZ rfl E_b25
  obtain ⟨_, _, ⟨T32, Lx32, kx32, nx32⟩, -, X32, ⟨Lc32, hQ32, l32, y32, z32⟩, st32⟩ := X31.virtualBack hx (y := (⟨"coppice/marshal/context/NamespaceScope", "mark", "()I"⟩ : MethodName)) (z := (⟨"coppice/marshal/context/NamespaceScope", "mark", "()I"⟩ : MethodName)) hown (mvT hZ (hw _ (List.mem_of_getElem? (i := 66) rfl))) (mvT hZ (hw _ (List.mem_of_getElem? (i := 67) rfl))) (notFace_of_selects (args := #[]) (mvT hZ (hw _ (List.mem_of_getElem? (i := 69) rfl)))) (mvT hZ (hw _ (List.mem_of_getElem? (i := 69) rfl))) (mvT hZ (hw _ (List.mem_of_getElem? (i := 68) rfl))) (by decide) (backOf (W := 0) (rm10 l Z a0 hw [] b25 z3.2.2.2 T31.heap n0 Zn F_uc) hZ (hw _ (List.mem_of_getElem? (i := 70) rfl)) (hw _ (List.mem_of_getElem? (i := 38) rfl)) (by decide) (by decide)) q32a q32c (g := (mkF m 202 #[.val (.int p1), .val (.int p2), .val (.int p3), .val (.int p4), .val (.int i1), .val (.int i2), .val (.int i3), .val (.ref r_4), .val (.ref r_5), .val (.ref r_6), .val (.ref b7), .val e00, .val e01, .val e02, .val e10, .val e11, .val e12, .val e30, .val e31, .val e32, .val (.ref b25), .val (.int z0.2.2.2), .val (.int z1.2.2.2), .unset, .unset, .unset, .unset, .unset, .unset] [(.ref b25)])) rfl (by rw [hml]; rfl) (Steps.refl _) (argsL := []) (rest := []) (lenOf pd_9 rfl) rfl (by show 2 * 0 + _ ≤ _; exact Nat.le_of_eq rfl) (hb hby at_202) (fun _ _ => ⟨rfl, rfl, (by decide : 19 + 0 ≤ _), (by decide : 130 + 0 ≤ _)⟩)
  dsimp only [Pt.U, Pt.locs, Pt.cells, Pt.slots] at X32 l32 y32 z32 st32 hQ32
  replace y32 : kx32 = 19 := y32
  replace z32 : nx32 = 130 := z32
  subst y32 z32
  obtain ⟨rfl, Nq32, hs32⟩ := hQ32
  have NN : Fr n0 Lx32 := by rw [l32]; exact Fr.app NN Nq32
  have pre : ∀ τ, Steps p.tables e below (T32.setTop (mkF m 205 #[.val (.int p1), .val (.int p2), .val (.int p3), .val (.int p4), .val (.int i1), .val (.int i2), .val (.int i3), .val (.ref r_4), .val (.ref r_5), .val (.ref r_6), .val (.ref b7), .val e00, .val e01, .val e02, .val e10, .val e11, .val e12, .val e30, .val e31, .val e32, .val (.ref b25), .val (.int z0.2.2.2), .val (.int z1.2.2.2), .unset, .unset, .unset, .unset, .unset, .unset] [(.int z3.2.2.2)])) τ → G τ := fun τ κ => pre τ (st32.trans κ)
  have pre : ∀ τ, Steps p.tables e below (T32.setTop (mkF m 207 #[.val (.int p1), .val (.int p2), .val (.int p3), .val (.int p4), .val (.int i1), .val (.int i2), .val (.int i3), .val (.ref r_4), .val (.ref r_5), .val (.ref r_6), .val (.ref b7), .val e00, .val e01, .val e02, .val e10, .val e11, .val e12, .val e30, .val e31, .val e32, .val (.ref b25), .val (.int z0.2.2.2), .val (.int z1.2.2.2), .val (.int z3.2.2.2), .unset, .unset, .unset, .unset, .unset] [])) τ → G τ := fun τ κ => pre τ (by
    refine XS.istore X32.here hx rfl (hb hby at_205) rfl (l' := #[.val (.int p1), .val (.int p2), .val (.int p3), .val (.int p4), .val (.int i1), .val (.int i2), .val (.int i3), .val (.ref r_4), .val (.ref r_5), .val (.ref r_6), .val (.ref b7), .val e00, .val e01, .val e02, .val e10, .val e11, .val e12, .val e30, .val e31, .val e32, .val (.ref b25), .val (.int z0.2.2.2), .val (.int z1.2.2.2), .val (.int z3.2.2.2), .unset, .unset, .unset, .unset, .unset]) rfl ?_
    show Steps p.tables e below (T32.setTop (mkF m 207 #[.val (.int p1), .val (.int p2), .val (.int p3), .val (.int p4), .val (.int i1), .val (.int i2), .val (.int i3), .val (.ref r_4), .val (.ref r_5), .val (.ref r_6), .val (.ref b7), .val e00, .val e01, .val e02, .val e10, .val e11, .val e12, .val e30, .val e31, .val e32, .val (.ref b25), .val (.int z0.2.2.2), .val (.int z1.2.2.2), .val (.int z3.2.2.2), .unset, .unset, .unset, .unset, .unset] [])) τ
    exact κ)
  have hz0s : z0.1 = so0 := by rw [hz0, hso0]; rfl
  have hz1s : z1.1 = so1 := by rw [hz1, hso1, own_dds, hz0s]
  have hz3s : z3.1 = so3 := by rw [hz3, hz2, hso3, hso2, own_dds, own_dds, hz1s]
  have pre : ∀ τ, Steps p.tables e below (T32.setTop (mkF m 215 #[.val (.int p1), .val (.int p2), .val (.int p3), .val (.int p4), .val (.int i1), .val (.int i2), .val (.int i3), .val (.ref r_4), .val (.ref r_5), .val (.ref r_6), .val (.ref b7), .val e00, .val e01, .val e02, .val e10, .val e11, .val e12, .val e30, .val e31, .val e32, .val (.ref b25), .val (.int z0.2.2.2), .val (.int z1.2.2.2), .val (.int z3.2.2.2), .val (.int ((p4 &&& (2147483647 : Int32)) % (3 : Int32))), .unset, .unset, .unset, .unset] [])) τ → G τ := fun τ κ => pre τ (by
    refine XS.iloadN X32.here hx rfl (hb hby at_207) rfl ?_
    show Steps p.tables e below (T32.setTop (mkF m 208 #[.val (.int p1), .val (.int p2), .val (.int p3), .val (.int p4), .val (.int i1), .val (.int i2), .val (.int i3), .val (.ref r_4), .val (.ref r_5), .val (.ref r_6), .val (.ref b7), .val e00, .val e01, .val e02, .val e10, .val e11, .val e12, .val e30, .val e31, .val e32, .val (.ref b25), .val (.int z0.2.2.2), .val (.int z1.2.2.2), .val (.int z3.2.2.2), .unset, .unset, .unset, .unset, .unset] [(.int p4)])) τ
    refine X32.ldcInt hx hown (mvT hZ (hw _ (List.mem_of_getElem? (i := 4) rfl))) (g := (mkF m 208 #[.val (.int p1), .val (.int p2), .val (.int p3), .val (.int p4), .val (.int i1), .val (.int i2), .val (.int i3), .val (.ref r_4), .val (.ref r_5), .val (.ref r_6), .val (.ref b7), .val e00, .val e01, .val e02, .val e10, .val e11, .val e12, .val e30, .val e31, .val e32, .val (.ref b25), .val (.int z0.2.2.2), .val (.int z1.2.2.2), .val (.int z3.2.2.2), .unset, .unset, .unset, .unset, .unset] [(.int p4)])) rfl (hb hby at_208) _ ?_
    show Steps p.tables e below (T32.setTop (mkF m 210 #[.val (.int p1), .val (.int p2), .val (.int p3), .val (.int p4), .val (.int i1), .val (.int i2), .val (.int i3), .val (.ref r_4), .val (.ref r_5), .val (.ref r_6), .val (.ref b7), .val e00, .val e01, .val e02, .val e10, .val e11, .val e12, .val e30, .val e31, .val e32, .val (.ref b25), .val (.int z0.2.2.2), .val (.int z1.2.2.2), .val (.int z3.2.2.2), .unset, .unset, .unset, .unset, .unset] [(.int (2147483647 : Int32)), (.int p4)])) τ
    refine XS.iand X32.here hx rfl (hb hby at_210) rfl ?_
    show Steps p.tables e below (T32.setTop (mkF m 211 #[.val (.int p1), .val (.int p2), .val (.int p3), .val (.int p4), .val (.int i1), .val (.int i2), .val (.int i3), .val (.ref r_4), .val (.ref r_5), .val (.ref r_6), .val (.ref b7), .val e00, .val e01, .val e02, .val e10, .val e11, .val e12, .val e30, .val e31, .val e32, .val (.ref b25), .val (.int z0.2.2.2), .val (.int z1.2.2.2), .val (.int z3.2.2.2), .unset, .unset, .unset, .unset, .unset] [(.int (p4 &&& (2147483647 : Int32)))])) τ
    refine XS.iconst X32.here hx rfl (hb hby at_211) ?_
    show Steps p.tables e below (T32.setTop (mkF m 212 #[.val (.int p1), .val (.int p2), .val (.int p3), .val (.int p4), .val (.int i1), .val (.int i2), .val (.int i3), .val (.ref r_4), .val (.ref r_5), .val (.ref r_6), .val (.ref b7), .val e00, .val e01, .val e02, .val e10, .val e11, .val e12, .val e30, .val e31, .val e32, .val (.ref b25), .val (.int z0.2.2.2), .val (.int z1.2.2.2), .val (.int z3.2.2.2), .unset, .unset, .unset, .unset, .unset] [(.int (3 : Int32)), (.int (p4 &&& (2147483647 : Int32)))])) τ
    refine iremM X32 hx rfl (hb hby at_212) rfl (by decide) ?_
    show Steps p.tables e below (T32.setTop (mkF m 213 #[.val (.int p1), .val (.int p2), .val (.int p3), .val (.int p4), .val (.int i1), .val (.int i2), .val (.int i3), .val (.ref r_4), .val (.ref r_5), .val (.ref r_6), .val (.ref b7), .val e00, .val e01, .val e02, .val e10, .val e11, .val e12, .val e30, .val e31, .val e32, .val (.ref b25), .val (.int z0.2.2.2), .val (.int z1.2.2.2), .val (.int z3.2.2.2), .unset, .unset, .unset, .unset, .unset] [(.int ((p4 &&& (2147483647 : Int32)) % (3 : Int32)))])) τ
    refine XS.istore X32.here hx rfl (hb hby at_213) rfl (l' := #[.val (.int p1), .val (.int p2), .val (.int p3), .val (.int p4), .val (.int i1), .val (.int i2), .val (.int i3), .val (.ref r_4), .val (.ref r_5), .val (.ref r_6), .val (.ref b7), .val e00, .val e01, .val e02, .val e10, .val e11, .val e12, .val e30, .val e31, .val e32, .val (.ref b25), .val (.int z0.2.2.2), .val (.int z1.2.2.2), .val (.int z3.2.2.2), .val (.int ((p4 &&& (2147483647 : Int32)) % (3 : Int32))), .unset, .unset, .unset, .unset]) rfl ?_
    show Steps p.tables e below (T32.setTop (mkF m 215 #[.val (.int p1), .val (.int p2), .val (.int p3), .val (.int p4), .val (.int i1), .val (.int i2), .val (.int i3), .val (.ref r_4), .val (.ref r_5), .val (.ref r_6), .val (.ref b7), .val e00, .val e01, .val e02, .val e10, .val e11, .val e12, .val e30, .val e31, .val e32, .val (.ref b25), .val (.int z0.2.2.2), .val (.int z1.2.2.2), .val (.int z3.2.2.2), .val (.int ((p4 &&& (2147483647 : Int32)) % (3 : Int32))), .unset, .unset, .unset, .unset] [])) τ
    exact κ)
  obtain ⟨ks, hks⟩ : ∃ z : Int32, z = ((p4 &&& (2147483647 : Int32)) % (3 : Int32)) := ⟨_, rfl⟩
  have pre : ∀ τ, Steps p.tables e below (T32.setTop (mkF m 215 #[.val (.int p1), .val (.int p2), .val (.int p3), .val (.int p4), .val (.int i1), .val (.int i2), .val (.int i3), .val (.ref r_4), .val (.ref r_5), .val (.ref r_6), .val (.ref b7), .val e00, .val e01, .val e02, .val e10, .val e11, .val e12, .val e30, .val e31, .val e32, .val (.ref b25), .val (.int z0.2.2.2), .val (.int z1.2.2.2), .val (.int z3.2.2.2), .val (.int ks), .unset, .unset, .unset, .unset] [])) τ → G τ := by subst hks; exact pre
  rcases (show ks = 0 ∨ ks = 1 ∨ ks = 2 by rw [hks]; exact own_r3 _) with hk3 | hk3 | hk3
  ·
    have pre : ∀ τ, Steps p.tables e below (T32.setTop (mkF m 215 #[.val (.int p1), .val (.int p2), .val (.int p3), .val (.int p4), .val (.int i1), .val (.int i2), .val (.int i3), .val (.ref r_4), .val (.ref r_5), .val (.ref r_6), .val (.ref b7), .val e00, .val e01, .val e02, .val e10, .val e11, .val e12, .val e30, .val e31, .val e32, .val (.ref b25), .val (.int z0.2.2.2), .val (.int z1.2.2.2), .val (.int z3.2.2.2), .val (.int (0 : Int32)), .unset, .unset, .unset, .unset] [])) τ → G τ := (show ks = (0 : Int32) from hk3) ▸ pre
    have pre : ∀ τ, Steps p.tables e below (T32.setTop (mkF m 217 #[.val (.int p1), .val (.int p2), .val (.int p3), .val (.int p4), .val (.int i1), .val (.int i2), .val (.int i3), .val (.ref r_4), .val (.ref r_5), .val (.ref r_6), .val (.ref b7), .val e00, .val e01, .val e02, .val e10, .val e11, .val e12, .val e30, .val e31, .val e32, .val (.ref b25), .val (.int z0.2.2.2), .val (.int z1.2.2.2), .val (.int z3.2.2.2), .val (.int (0 : Int32)), .unset, .unset, .unset, .unset] [(.int (0 : Int32))])) τ → G τ := fun τ κ => pre τ (by
      refine XS.iload X32.here hx rfl (hb hby at_215) rfl ?_
      show Steps p.tables e below (T32.setTop (mkF m 217 #[.val (.int p1), .val (.int p2), .val (.int p3), .val (.int p4), .val (.int i1), .val (.int i2), .val (.int i3), .val (.ref r_4), .val (.ref r_5), .val (.ref r_6), .val (.ref b7), .val e00, .val e01, .val e02, .val e10, .val e11, .val e12, .val e30, .val e31, .val e32, .val (.ref b25), .val (.int z0.2.2.2), .val (.int z1.2.2.2), .val (.int z3.2.2.2), .val (.int (0 : Int32)), .unset, .unset, .unset, .unset] [(.int (0 : Int32))])) τ
      exact κ)
    have hc33 : (0 : Int32) = (0 : Int32) := rfl
    have pre : ∀ τ, Steps p.tables e below (T32.setTop (mkF m 284 #[.val (.int p1), .val (.int p2), .val (.int p3), .val (.int p4), .val (.int i1), .val (.int i2), .val (.int i3), .val (.ref r_4), .val (.ref r_5), .val (.ref r_6), .val (.ref b7), .val e00, .val e01, .val e02, .val e10, .val e11, .val e12, .val e30, .val e31, .val e32, .val (.ref b25), .val (.int z0.2.2.2), .val (.int z1.2.2.2), .val (.int z3.2.2.2), .val (.int (0 : Int32)), .val (.int z0.2.2.2), .val e00, .val e01, .val e02] [(.int z0.2.2.2), (.ref b25)])) τ → G τ := fun τ κ => pre τ (by
      refine XS.ifNo X32.here hx rfl (hb hby at_217) rfl ((if0 _ _).trans (teq hc33).2) ?_
      show Steps p.tables e below (T32.setTop (mkF m 220 #[.val (.int p1), .val (.int p2), .val (.int p3), .val (.int p4), .val (.int i1), .val (.int i2), .val (.int i3), .val (.ref r_4), .val (.ref r_5), .val (.ref r_6), .val (.ref b7), .val e00, .val e01, .val e02, .val e10, .val e11, .val e12, .val e30, .val e31, .val e32, .val (.ref b25), .val (.int z0.2.2.2), .val (.int z1.2.2.2), .val (.int z3.2.2.2), .val (.int (0 : Int32)), .unset, .unset, .unset, .unset] [])) τ
      refine XS.iload X32.here hx rfl (hb hby at_220) rfl ?_
      show Steps p.tables e below (T32.setTop (mkF m 222 #[.val (.int p1), .val (.int p2), .val (.int p3), .val (.int p4), .val (.int i1), .val (.int i2), .val (.int i3), .val (.ref r_4), .val (.ref r_5), .val (.ref r_6), .val (.ref b7), .val e00, .val e01, .val e02, .val e10, .val e11, .val e12, .val e30, .val e31, .val e32, .val (.ref b25), .val (.int z0.2.2.2), .val (.int z1.2.2.2), .val (.int z3.2.2.2), .val (.int (0 : Int32)), .unset, .unset, .unset, .unset] [(.int z0.2.2.2)])) τ
      refine XS.istore X32.here hx rfl (hb hby at_222) rfl (l' := #[.val (.int p1), .val (.int p2), .val (.int p3), .val (.int p4), .val (.int i1), .val (.int i2), .val (.int i3), .val (.ref r_4), .val (.ref r_5), .val (.ref r_6), .val (.ref b7), .val e00, .val e01, .val e02, .val e10, .val e11, .val e12, .val e30, .val e31, .val e32, .val (.ref b25), .val (.int z0.2.2.2), .val (.int z1.2.2.2), .val (.int z3.2.2.2), .val (.int (0 : Int32)), .val (.int z0.2.2.2), .unset, .unset, .unset]) rfl ?_
      show Steps p.tables e below (T32.setTop (mkF m 224 #[.val (.int p1), .val (.int p2), .val (.int p3), .val (.int p4), .val (.int i1), .val (.int i2), .val (.int i3), .val (.ref r_4), .val (.ref r_5), .val (.ref r_6), .val (.ref b7), .val e00, .val e01, .val e02, .val e10, .val e11, .val e12, .val e30, .val e31, .val e32, .val (.ref b25), .val (.int z0.2.2.2), .val (.int z1.2.2.2), .val (.int z3.2.2.2), .val (.int (0 : Int32)), .val (.int z0.2.2.2), .unset, .unset, .unset] [])) τ
      refine XS.aload X32.here hx rfl (hb hby at_224) rfl (own_S_ref F_e00) ?_
      show Steps p.tables e below (T32.setTop (mkF m 226 #[.val (.int p1), .val (.int p2), .val (.int p3), .val (.int p4), .val (.int i1), .val (.int i2), .val (.int i3), .val (.ref r_4), .val (.ref r_5), .val (.ref r_6), .val (.ref b7), .val e00, .val e01, .val e02, .val e10, .val e11, .val e12, .val e30, .val e31, .val e32, .val (.ref b25), .val (.int z0.2.2.2), .val (.int z1.2.2.2), .val (.int z3.2.2.2), .val (.int (0 : Int32)), .val (.int z0.2.2.2), .unset, .unset, .unset] [e00])) τ
      refine XS.astore X32.here hx rfl (hb hby at_226) rfl (own_S_ref F_e00) (l' := #[.val (.int p1), .val (.int p2), .val (.int p3), .val (.int p4), .val (.int i1), .val (.int i2), .val (.int i3), .val (.ref r_4), .val (.ref r_5), .val (.ref r_6), .val (.ref b7), .val e00, .val e01, .val e02, .val e10, .val e11, .val e12, .val e30, .val e31, .val e32, .val (.ref b25), .val (.int z0.2.2.2), .val (.int z1.2.2.2), .val (.int z3.2.2.2), .val (.int (0 : Int32)), .val (.int z0.2.2.2), .val e00, .unset, .unset]) (XS.store1 rfl (Or.inl rfl) (own_cat (own_S_ref F_e00))) ?_
      show Steps p.tables e below (T32.setTop (mkF m 228 #[.val (.int p1), .val (.int p2), .val (.int p3), .val (.int p4), .val (.int i1), .val (.int i2), .val (.int i3), .val (.ref r_4), .val (.ref r_5), .val (.ref r_6), .val (.ref b7), .val e00, .val e01, .val e02, .val e10, .val e11, .val e12, .val e30, .val e31, .val e32, .val (.ref b25), .val (.int z0.2.2.2), .val (.int z1.2.2.2), .val (.int z3.2.2.2), .val (.int (0 : Int32)), .val (.int z0.2.2.2), .val e00, .unset, .unset] [])) τ
      refine XS.aload X32.here hx rfl (hb hby at_228) rfl (own_S_ref F_e01) ?_
      show Steps p.tables e below (T32.setTop (mkF m 230 #[.val (.int p1), .val (.int p2), .val (.int p3), .val (.int p4), .val (.int i1), .val (.int i2), .val (.int i3), .val (.ref r_4), .val (.ref r_5), .val (.ref r_6), .val (.ref b7), .val e00, .val e01, .val e02, .val e10, .val e11, .val e12, .val e30, .val e31, .val e32, .val (.ref b25), .val (.int z0.2.2.2), .val (.int z1.2.2.2), .val (.int z3.2.2.2), .val (.int (0 : Int32)), .val (.int z0.2.2.2), .val e00, .unset, .unset] [e01])) τ
      refine XS.astore X32.here hx rfl (hb hby at_230) rfl (own_S_ref F_e01) (l' := #[.val (.int p1), .val (.int p2), .val (.int p3), .val (.int p4), .val (.int i1), .val (.int i2), .val (.int i3), .val (.ref r_4), .val (.ref r_5), .val (.ref r_6), .val (.ref b7), .val e00, .val e01, .val e02, .val e10, .val e11, .val e12, .val e30, .val e31, .val e32, .val (.ref b25), .val (.int z0.2.2.2), .val (.int z1.2.2.2), .val (.int z3.2.2.2), .val (.int (0 : Int32)), .val (.int z0.2.2.2), .val e00, .val e01, .unset]) (XS.store1 rfl (Or.inl rfl) (own_cat (own_S_ref F_e01))) ?_
      show Steps p.tables e below (T32.setTop (mkF m 232 #[.val (.int p1), .val (.int p2), .val (.int p3), .val (.int p4), .val (.int i1), .val (.int i2), .val (.int i3), .val (.ref r_4), .val (.ref r_5), .val (.ref r_6), .val (.ref b7), .val e00, .val e01, .val e02, .val e10, .val e11, .val e12, .val e30, .val e31, .val e32, .val (.ref b25), .val (.int z0.2.2.2), .val (.int z1.2.2.2), .val (.int z3.2.2.2), .val (.int (0 : Int32)), .val (.int z0.2.2.2), .val e00, .val e01, .unset] [])) τ
      refine XS.aload X32.here hx rfl (hb hby at_232) rfl (own_S_ref F_e02) ?_
      show Steps p.tables e below (T32.setTop (mkF m 234 #[.val (.int p1), .val (.int p2), .val (.int p3), .val (.int p4), .val (.int i1), .val (.int i2), .val (.int i3), .val (.ref r_4), .val (.ref r_5), .val (.ref r_6), .val (.ref b7), .val e00, .val e01, .val e02, .val e10, .val e11, .val e12, .val e30, .val e31, .val e32, .val (.ref b25), .val (.int z0.2.2.2), .val (.int z1.2.2.2), .val (.int z3.2.2.2), .val (.int (0 : Int32)), .val (.int z0.2.2.2), .val e00, .val e01, .unset] [e02])) τ
      refine XS.astore X32.here hx rfl (hb hby at_234) rfl (own_S_ref F_e02) (l' := #[.val (.int p1), .val (.int p2), .val (.int p3), .val (.int p4), .val (.int i1), .val (.int i2), .val (.int i3), .val (.ref r_4), .val (.ref r_5), .val (.ref r_6), .val (.ref b7), .val e00, .val e01, .val e02, .val e10, .val e11, .val e12, .val e30, .val e31, .val e32, .val (.ref b25), .val (.int z0.2.2.2), .val (.int z1.2.2.2), .val (.int z3.2.2.2), .val (.int (0 : Int32)), .val (.int z0.2.2.2), .val e00, .val e01, .val e02]) (XS.store1 rfl (Or.inl rfl) (own_cat (own_S_ref F_e02))) ?_
      show Steps p.tables e below (T32.setTop (mkF m 236 #[.val (.int p1), .val (.int p2), .val (.int p3), .val (.int p4), .val (.int i1), .val (.int i2), .val (.int i3), .val (.ref r_4), .val (.ref r_5), .val (.ref r_6), .val (.ref b7), .val e00, .val e01, .val e02, .val e10, .val e11, .val e12, .val e30, .val e31, .val e32, .val (.ref b25), .val (.int z0.2.2.2), .val (.int z1.2.2.2), .val (.int z3.2.2.2), .val (.int (0 : Int32)), .val (.int z0.2.2.2), .val e00, .val e01, .val e02] [])) τ
      refine XS.goto X32.here hx rfl (pc0 := 236) (pc' := 280) rfl (hb hby at_236) (by decide) (by decide) ?_
      show Steps p.tables e below (T32.setTop (mkF m 280 #[.val (.int p1), .val (.int p2), .val (.int p3), .val (.int p4), .val (.int i1), .val (.int i2), .val (.int i3), .val (.ref r_4), .val (.ref r_5), .val (.ref r_6), .val (.ref b7), .val e00, .val e01, .val e02, .val e10, .val e11, .val e12, .val e30, .val e31, .val e32, .val (.ref b25), .val (.int z0.2.2.2), .val (.int z1.2.2.2), .val (.int z3.2.2.2), .val (.int (0 : Int32)), .val (.int z0.2.2.2), .val e00, .val e01, .val e02] [])) τ
      refine XS.aload X32.here hx rfl (hb hby at_280) rfl rfl ?_
      show Steps p.tables e below (T32.setTop (mkF m 282 #[.val (.int p1), .val (.int p2), .val (.int p3), .val (.int p4), .val (.int i1), .val (.int i2), .val (.int i3), .val (.ref r_4), .val (.ref r_5), .val (.ref r_6), .val (.ref b7), .val e00, .val e01, .val e02, .val e10, .val e11, .val e12, .val e30, .val e31, .val e32, .val (.ref b25), .val (.int z0.2.2.2), .val (.int z1.2.2.2), .val (.int z3.2.2.2), .val (.int (0 : Int32)), .val (.int z0.2.2.2), .val e00, .val e01, .val e02] [(.ref b25)])) τ
      refine XS.iload X32.here hx rfl (hb hby at_282) rfl ?_
      show Steps p.tables e below (T32.setTop (mkF m 284 #[.val (.int p1), .val (.int p2), .val (.int p3), .val (.int p4), .val (.int i1), .val (.int i2), .val (.int i3), .val (.ref r_4), .val (.ref r_5), .val (.ref r_6), .val (.ref b7), .val e00, .val e01, .val e02, .val e10, .val e11, .val e12, .val e30, .val e31, .val e32, .val (.ref b25), .val (.int z0.2.2.2), .val (.int z1.2.2.2), .val (.int z3.2.2.2), .val (.int (0 : Int32)), .val (.int z0.2.2.2), .val e00, .val e01, .val e02] [(.int z0.2.2.2), (.ref b25)])) τ
      exact κ)
    obtain ⟨cq34, kq34, q34a, q34b, q34c⟩ := isOf hZ hs32 E_b25
    obtain ⟨_, _, ⟨T34, Lx34, kx34, nx34⟩, -, X34, ⟨Lc34, hQ34, l34, y34, z34⟩, st34⟩ := X32.virtualBack hx (y := (⟨"coppice/marshal/context/NamespaceScope", "restore", "(I)V"⟩ : MethodName)) (z := (⟨"coppice/marshal/context/NamespaceScope", "restore", "(I)V"⟩ : MethodName)) hown (mvT hZ (hw _ (List.mem_of_getElem? (i := 81) rfl))) (mvT hZ (hw _ (List.mem_of_getElem? (i := 82) rfl))) (notFace_of_selects (args := #[]) (mvT hZ (hw _ (List.mem_of_getElem? (i := 84) rfl)))) (mvT hZ (hw _ (List.mem_of_getElem? (i := 84) rfl))) (mvT hZ (hw _ (List.mem_of_getElem? (i := 83) rfl))) (by decide) (backOf (W := 0) (rm13 l Z a0 hw [] b25 z0.2.2.2 un_26 up_26 pf_26 ku_26 kp_26 kf_26 (3 : Int32) z3.2.2.2 z3.2.1 upz_31 pfz_31 z3.2.2.1 z3.1 T31.heap n0 Zn g_b25 gn_up_26 gn_pf_26 E_b25 F_un F_up F_pf F_uc V_un V_up V_pf L_up L_pf O_up_26 O_pf_26 ne_b25_un_26 ne_b25_up_26 ne_b25_pf_26 ne_un__up_26 ne_un__pf_26 ne_up__pf_26 Iz0.1 (own_Xle (own_Xt (own_Xt Xz1 Xz2) Xz3)) (Int.le_trans Iz3.2.1 (by decide)) hlp_31 hlf_31 Iz3.2.2.2.2.2) hZ (hw _ (List.mem_of_getElem? (i := 85) rfl)) (hw _ (List.mem_of_getElem? (i := 38) rfl)) (by decide) (by decide)) q34a q34c (g := (mkF m 284 #[.val (.int p1), .val (.int p2), .val (.int p3), .val (.int p4), .val (.int i1), .val (.int i2), .val (.int i3), .val (.ref r_4), .val (.ref r_5), .val (.ref r_6), .val (.ref b7), .val e00, .val e01, .val e02, .val e10, .val e11, .val e12, .val e30, .val e31, .val e32, .val (.ref b25), .val (.int z0.2.2.2), .val (.int z1.2.2.2), .val (.int z3.2.2.2), .val (.int (0 : Int32)), .val (.int z0.2.2.2), .val e00, .val e01, .val e02] [(.int z0.2.2.2), (.ref b25)])) rfl (by rw [hml]; rfl) (Steps.refl _) (argsL := [(.int z0.2.2.2)]) (rest := []) (lenOf pd_8 rfl) rfl (by show 2 * 0 + _ ≤ _; exact Nat.le_of_eq rfl) (hb hby at_284) (fun _ _ => ⟨rfl, hs32, (by decide : 19 + 0 ≤ _), (by decide : 130 + 0 ≤ _)⟩)
    dsimp only [Pt.U, Pt.locs, Pt.cells, Pt.slots] at X34 l34 y34 z34 st34 hQ34
    replace y34 : kx34 = 19 := y34
    replace z34 : nx34 = 130 := z34
    subst y34 z34
    obtain ⟨upz_34, pfz_34, rfl, Nq34, Kc34, E_o_34, F_un_34, F_up_34, F_pf_34, F_uc_34, V_un_34, V_up_34, V_pf_34, L_up_34, L_pf_34, hlp_34, hlf_34⟩ := hQ34
    have NN : Fr n0 Lx34 := by rw [l34]; exact Fr.app NN Nq34
    have Nss : ∀ x ∈ [b25, up_26, pf_26], own_ns Z T31.heap x := (allS (own_nsE E_b25 (hw _ (List.mem_of_getElem? (i := 37) rfl)) (by decide) (by decide)) (allS (own_nsV V_up (by decide)) (allS (own_nsV V_pf (by decide)) all0)))
    have hk := Nat.le_trans hk Kc34.1
    have HR := HR.trans (CHr.keep Kc34 (fun x hx => own_safe hZ.alike (Nss x hx)) H)
    have H := HR.1
    have S_c : Sta Z T34.heap "java/lang/String" "COMPACT_STRINGS" "Z" (.int cw) := own_sta_keepN S_c Kc34 Nss
    have F_r_4 : own_S Z T34.heap (.ref r_4) (some (own_pk ((p1.toUInt32 >>> ((8 : Int32) &&& 31).toUInt32).toInt32))) := own_S_keep F_r_4 Kc34 Nss
    have F_r_5 : own_S Z T34.heap (.ref r_5) (some (own_pk ((p2.toUInt32 >>> ((8 : Int32) &&& 31).toUInt32).toInt32))) := own_S_keep F_r_5 Kc34 Nss
    have F_r_6 : own_S Z T34.heap (.ref r_6) (some (own_pk ((p3.toUInt32 >>> ((8 : Int32) &&& 31).toUInt32).toInt32))) := own_S_keep F_r_6 Kc34 Nss
    have F_s8 : own_S Z T34.heap (.ref as8) (some []) := own_S_keep F_s8 Kc34 Nss
    have F_s10 : own_S Z T34.heap (.ref as10) (some [(.int (120 : Int32)), (.int (109 : Int32)), (.int (108 : Int32))]) := own_S_keep F_s10 Kc34 Nss
    have L_st : own_SL Z T34.heap sv3 so3 := own_SL_keep L_st Kc34 Nss
    have F_ld13 : own_S Z T34.heap (sv0.getD ((0 : Int32)).toNatClampNeg .null) (so0.getD ((0 : Int32)).toNatClampNeg none) := own_S_keep F_ld13 Kc34 Nss
    have F_e00 : own_S Z T34.heap e00 (so0.getD ((0 : Int32)).toNatClampNeg none) := own_S_keep F_e00 Kc34 Nss
    have F_ld14 : own_S Z T34.heap (sv0.getD ((1 : Int32)).toNatClampNeg .null) (so0.getD ((1 : Int32)).toNatClampNeg none) := own_S_keep F_ld14 Kc34 Nss
    have F_e01 : own_S Z T34.heap e01 (so0.getD ((1 : Int32)).toNatClampNeg none) := own_S_keep F_e01 Kc34 Nss
    have F_ld15 : own_S Z T34.heap (sv0.getD ((2 : Int32)).toNatClampNeg .null) (so0.getD ((2 : Int32)).toNatClampNeg none) := own_S_keep F_ld15 Kc34 Nss
    have F_e02 : own_S Z T34.heap e02 (so0.getD ((2 : Int32)).toNatClampNeg none) := own_S_keep F_e02 Kc34 Nss
    have F_ld17 : own_S Z T34.heap (sv1.getD ((0 : Int32)).toNatClampNeg .null) (so1.getD ((0 : Int32)).toNatClampNeg none) := own_S_keep F_ld17 Kc34 Nss
    have F_e10 : own_S Z T34.heap e10 (so1.getD ((0 : Int32)).toNatClampNeg none) := own_S_keep F_e10 Kc34 Nss
    have F_ld18 : own_S Z T34.heap (sv1.getD ((1 : Int32)).toNatClampNeg .null) (so1.getD ((1 : Int32)).toNatClampNeg none) := own_S_keep F_ld18 Kc34 Nss
    have F_e11 : own_S Z T34.heap e11 (so1.getD ((1 : Int32)).toNatClampNeg none) := own_S_keep F_e11 Kc34 Nss
    have F_ld19 : own_S Z T34.heap (sv1.getD ((2 : Int32)).toNatClampNeg .null) (so1.getD ((2 : Int32)).toNatClampNeg none) := own_S_keep F_ld19 Kc34 Nss
    have F_e12 : own_S Z T34.heap e12 (so1.getD ((2 : Int32)).toNatClampNeg none) := own_S_keep F_e12 Kc34 Nss
    have V_st : Arv Z T34.heap b7 k7 (.object "java/lang/String") (3 : Int32) sv3 .null := V_st.keep Kc34 (ninS ne_b7_b25 (ninS ne_b7_up_26 (ninS ne_b7_pf_26 nin0)))
    have F_ld22 : own_S Z T34.heap (sv3.getD ((0 : Int32)).toNatClampNeg .null) (so3.getD ((0 : Int32)).toNatClampNeg none) := own_S_keep F_ld22 Kc34 Nss
    have F_e30 : own_S Z T34.heap e30 (so3.getD ((0 : Int32)).toNatClampNeg none) := own_S_keep F_e30 Kc34 Nss
    have F_ld23 : own_S Z T34.heap (sv3.getD ((1 : Int32)).toNatClampNeg .null) (so3.getD ((1 : Int32)).toNatClampNeg none) := own_S_keep F_ld23 Kc34 Nss
    have F_e31 : own_S Z T34.heap e31 (so3.getD ((1 : Int32)).toNatClampNeg none) := own_S_keep F_e31 Kc34 Nss
    have F_ld24 : own_S Z T34.heap (sv3.getD ((2 : Int32)).toNatClampNeg .null) (so3.getD ((2 : Int32)).toNatClampNeg none) := own_S_keep F_ld24 Kc34 Nss
    have F_e32 : own_S Z T34.heap e32 (so3.getD ((2 : Int32)).toNatClampNeg none) := own_S_keep F_e32 Kc34 Nss
    have E_b25 : Exa Z T34.heap b25 "coppice/marshal/context/NamespaceScope" := E_b25.keep Kc34
    have E_o : Exa Z T34.heap b25 "coppice/marshal/context/NamespaceScope" := E_o.keep Kc34
    have V_un : Arv Z T34.heap un_26 ku_26 .int (16 : Int32) z3.2.1 (.int (0 : Int32)) := V_un.keep Kc34 (ninS (Ne.symm ne_b25_un_26) (ninS ne_un__up_26 (ninS ne_un__pf_26 nin0)))
    have L_up : own_SL Z T34.heap upz_31 z3.2.2.1 := own_SL_keep L_up Kc34 Nss
    have L_pf : own_SL Z T34.heap pfz_31 z3.1 := own_SL_keep L_pf Kc34 Nss
    have Zn : n0 ≤ T34.heap.size := Nat.le_trans Zn Kc34.1
    have pre : ∀ τ, Steps p.tables e below (T34.setTop (mkF m 287 #[.val (.int p1), .val (.int p2), .val (.int p3), .val (.int p4), .val (.int i1), .val (.int i2), .val (.int i3), .val (.ref r_4), .val (.ref r_5), .val (.ref r_6), .val (.ref b7), .val e00, .val e01, .val e02, .val e10, .val e11, .val e12, .val e30, .val e31, .val e32, .val (.ref b25), .val (.int z0.2.2.2), .val (.int z1.2.2.2), .val (.int z3.2.2.2), .val (.int (0 : Int32)), .val (.int z0.2.2.2), .val e00, .val e01, .val e02] [])) τ → G τ := fun τ κ => pre τ (st34.trans κ)
    have hfin : (own_rs z3.2.1 (z3.2.2.2.toInt - z0.2.2.2.toInt).toNat z3.2.2.2 (z3.1, z3.2.2.1)).1 = z0.1 := own_und (own_Xt (own_Xt Xz1 Xz2) Xz3) Iz0.1
    have pre : ∀ τ, Steps p.tables e below (T34.setTop (mkF m 289 #[.val (.int p1), .val (.int p2), .val (.int p3), .val (.int p4), .val (.int i1), .val (.int i2), .val (.int i3), .val (.ref r_4), .val (.ref r_5), .val (.ref r_6), .val (.ref b7), .val e00, .val e01, .val e02, .val e10, .val e11, .val e12, .val e30, .val e31, .val e32, .val (.ref b25), .val (.int z0.2.2.2), .val (.int z1.2.2.2), .val (.int z3.2.2.2), .val (.int (0 : Int32)), .val (.int z0.2.2.2), .val e00, .val e01, .val e02] [(.ref b25)])) τ → G τ := fun τ κ => pre τ (by
      refine XS.aload X34.here hx rfl (hb hby at_287) rfl rfl ?_
      show Steps p.tables e below (T34.setTop (mkF m 289 #[.val (.int p1), .val (.int p2), .val (.int p3), .val (.int p4), .val (.int i1), .val (.int i2), .val (.int i3), .val (.ref r_4), .val (.ref r_5), .val (.ref r_6), .val (.ref b7), .val e00, .val e01, .val e02, .val e10, .val e11, .val e12, .val e30, .val e31, .val e32, .val (.ref b25), .val (.int z0.2.2.2), .val (.int z1.2.2.2), .val (.int z3.2.2.2), .val (.int (0 : Int32)), .val (.int z0.2.2.2), .val e00, .val e01, .val e02] [(.ref b25)])) τ
      exact κ)
    obtain ⟨cq35, kq35, q35a, q35b, q35c⟩ := isOf hZ rfl E_b25
    obtain ⟨_, _, ⟨T35, Lx35, kx35, nx35⟩, -, X35, ⟨Lc35, hQ35, l35, y35, z35⟩, st35⟩ := X34.virtualBack hx (y := (⟨"coppice/marshal/context/NamespaceScope", "mark", "()I"⟩ : MethodName)) (z := (⟨"coppice/marshal/context/NamespaceScope", "mark", "()I"⟩ : MethodName)) hown (mvT hZ (hw _ (List.mem_of_getElem? (i := 66) rfl))) (mvT hZ (hw _ (List.mem_of_getElem? (i := 67) rfl))) (notFace_of_selects (args := #[]) (mvT hZ (hw _ (List.mem_of_getElem? (i := 69) rfl)))) (mvT hZ (hw _ (List.mem_of_getElem? (i := 69) rfl))) (mvT hZ (hw _ (List.mem_of_getElem? (i := 68) rfl))) (by decide) (backOf (W := 0) (rm10 l Z a0 hw [] b25 z0.2.2.2 T34.heap n0 Zn F_uc_34) hZ (hw _ (List.mem_of_getElem? (i := 70) rfl)) (hw _ (List.mem_of_getElem? (i := 38) rfl)) (by decide) (by decide)) q35a q35c (g := (mkF m 289 #[.val (.int p1), .val (.int p2), .val (.int p3), .val (.int p4), .val (.int i1), .val (.int i2), .val (.int i3), .val (.ref r_4), .val (.ref r_5), .val (.ref r_6), .val (.ref b7), .val e00, .val e01, .val e02, .val e10, .val e11, .val e12, .val e30, .val e31, .val e32, .val (.ref b25), .val (.int z0.2.2.2), .val (.int z1.2.2.2), .val (.int z3.2.2.2), .val (.int (0 : Int32)), .val (.int z0.2.2.2), .val e00, .val e01, .val e02] [(.ref b25)])) rfl (by rw [hml]; rfl) (Steps.refl _) (argsL := []) (rest := []) (lenOf pd_9 rfl) rfl (by show 2 * 0 + _ ≤ _; exact Nat.le_of_eq rfl) (hb hby at_289) (fun _ _ => ⟨rfl, rfl, (by decide : 19 + 0 ≤ _), (by decide : 130 + 0 ≤ _)⟩)
    dsimp only [Pt.U, Pt.locs, Pt.cells, Pt.slots] at X35 l35 y35 z35 st35 hQ35
    replace y35 : kx35 = 19 := y35
    replace z35 : nx35 = 130 := z35
    subst y35 z35
    obtain ⟨rfl, Nq35, hs35⟩ := hQ35
    have NN : Fr n0 Lx35 := by rw [l35]; exact Fr.app NN Nq35
    have pre : ∀ τ, Steps p.tables e below (T35.setTop (mkF m 292 #[.val (.int p1), .val (.int p2), .val (.int p3), .val (.int p4), .val (.int i1), .val (.int i2), .val (.int i3), .val (.ref r_4), .val (.ref r_5), .val (.ref r_6), .val (.ref b7), .val e00, .val e01, .val e02, .val e10, .val e11, .val e12, .val e30, .val e31, .val e32, .val (.ref b25), .val (.int z0.2.2.2), .val (.int z1.2.2.2), .val (.int z3.2.2.2), .val (.int (0 : Int32)), .val (.int z0.2.2.2), .val e00, .val e01, .val e02] [(.int z0.2.2.2)])) τ → G τ := fun τ κ => pre τ (st35.trans κ)
    have pre : ∀ τ, Steps p.tables e below (T35.setTop (mkF m 294 #[.val (.int p1), .val (.int p2), .val (.int p3), .val (.int p4), .val (.int i1), .val (.int i2), .val (.int i3), .val (.ref r_4), .val (.ref r_5), .val (.ref r_6), .val (.ref b7), .val e00, .val e01, .val e02, .val e10, .val e11, .val e12, .val e30, .val e31, .val e32, .val (.ref b25), .val (.int z0.2.2.2), .val (.int z1.2.2.2), .val (.int z3.2.2.2), .val (.int (0 : Int32)), .val (.int z0.2.2.2), .val e00, .val e01, .val e02] [(.int z0.2.2.2), (.int z0.2.2.2)])) τ → G τ := fun τ κ => pre τ (by
      refine XS.iload X35.here hx rfl (hb hby at_292) rfl ?_
      show Steps p.tables e below (T35.setTop (mkF m 294 #[.val (.int p1), .val (.int p2), .val (.int p3), .val (.int p4), .val (.int i1), .val (.int i2), .val (.int i3), .val (.ref r_4), .val (.ref r_5), .val (.ref r_6), .val (.ref b7), .val e00, .val e01, .val e02, .val e10, .val e11, .val e12, .val e30, .val e31, .val e32, .val (.ref b25), .val (.int z0.2.2.2), .val (.int z1.2.2.2), .val (.int z3.2.2.2), .val (.int (0 : Int32)), .val (.int z0.2.2.2), .val e00, .val e01, .val e02] [(.int z0.2.2.2), (.int z0.2.2.2)])) τ
      exact κ)
    have hc36 : z0.2.2.2 = z0.2.2.2 := rfl
    have pre : ∀ τ, Steps p.tables e below (T35.setTop (mkF m 300 #[.val (.int p1), .val (.int p2), .val (.int p3), .val (.int p4), .val (.int i1), .val (.int i2), .val (.int i3), .val (.ref r_4), .val (.ref r_5), .val (.ref r_6), .val (.ref b7), .val e00, .val e01, .val e02, .val e10, .val e11, .val e12, .val e30, .val e31, .val e32, .val (.ref b25), .val (.int z0.2.2.2), .val (.int z1.2.2.2), .val (.int z3.2.2.2), .val (.int (0 : Int32)), .val (.int z0.2.2.2), .val e00, .val e01, .val e02] [(.int (0 : Int32)), (.ref b25)])) τ → G τ := fun τ κ => pre τ (by
      refine XS.icmpNo X35.here hx rfl (hb hby at_294) rfl (teq hc36).2 ?_
      show Steps p.tables e below (T35.setTop (mkF m 297 #[.val (.int p1), .val (.int p2), .val (.int p3), .val (.int p4), .val (.int i1), .val (.int i2), .val (.int i3), .val (.ref r_4), .val (.ref r_5), .val (.ref r_6), .val (.ref b7), .val e00, .val e01, .val e02, .val e10, .val e11, .val e12, .val e30, .val e31, .val e32, .val (.ref b25), .val (.int z0.2.2.2), .val (.int z1.2.2.2), .val (.int z3.2.2.2), .val (.int (0 : Int32)), .val (.int z0.2.2.2), .val e00, .val e01, .val e02] [])) τ
      refine XS.aload X35.here hx rfl (hb hby at_297) rfl rfl ?_
      show Steps p.tables e below (T35.setTop (mkF m 299 #[.val (.int p1), .val (.int p2), .val (.int p3), .val (.int p4), .val (.int i1), .val (.int i2), .val (.int i3), .val (.ref r_4), .val (.ref r_5), .val (.ref r_6), .val (.ref b7), .val e00, .val e01, .val e02, .val e10, .val e11, .val e12, .val e30, .val e31, .val e32, .val (.ref b25), .val (.int z0.2.2.2), .val (.int z1.2.2.2), .val (.int z3.2.2.2), .val (.int (0 : Int32)), .val (.int z0.2.2.2), .val e00, .val e01, .val e02] [(.ref b25)])) τ
      refine XS.iconst X35.here hx rfl (hb hby at_299) ?_
      show Steps p.tables e below (T35.setTop (mkF m 300 #[.val (.int p1), .val (.int p2), .val (.int p3), .val (.int p4), .val (.int i1), .val (.int i2), .val (.int i3), .val (.ref r_4), .val (.ref r_5), .val (.ref r_6), .val (.ref b7), .val e00, .val e01, .val e02, .val e10, .val e11, .val e12, .val e30, .val e31, .val e32, .val (.ref b25), .val (.int z0.2.2.2), .val (.int z1.2.2.2), .val (.int z3.2.2.2), .val (.int (0 : Int32)), .val (.int z0.2.2.2), .val e00, .val e01, .val e02] [(.int (0 : Int32)), (.ref b25)])) τ
      exact κ)
    obtain ⟨cq37, kq37, q37a, q37b, q37c⟩ := isOf hZ hs35 E_b25
    obtain ⟨_, _, ⟨T37, Lx37, kx37, nx37⟩, -, X37, ⟨Lc37, hQ37, l37, y37, z37⟩, st37⟩ := X35.virtualBack hx (y := (⟨"coppice/marshal/context/NamespaceScope", "prefix", "(I)Ljava/lang/String;"⟩ : MethodName)) (z := (⟨"coppice/marshal/context/NamespaceScope", "prefix", "(I)Ljava/lang/String;"⟩ : MethodName)) hown (mvT hZ (hw _ (List.mem_of_getElem? (i := 86) rfl))) (mvT hZ (hw _ (List.mem_of_getElem? (i := 87) rfl))) (notFace_of_selects (args := #[]) (mvT hZ (hw _ (List.mem_of_getElem? (i := 89) rfl)))) (mvT hZ (hw _ (List.mem_of_getElem? (i := 89) rfl))) (mvT hZ (hw _ (List.mem_of_getElem? (i := 88) rfl))) (by decide) (backOf (W := 0) (rm14 l Z a0 hw [] b25 (0 : Int32) pf_26 kf_26 (3 : Int32) pfz_34 ((own_rs z3.2.1 (z3.2.2.2.toInt - z0.2.2.2.toInt).toNat z3.2.2.2 (z3.1, z3.2.2.1)).1) T34.heap n0 Zn F_pf_34 V_pf_34 L_pf_34 ⟨by decide, by decide⟩) hZ (hw _ (List.mem_of_getElem? (i := 90) rfl)) (hw _ (List.mem_of_getElem? (i := 38) rfl)) (by decide) (by decide)) q37a q37c (g := (mkF m 300 #[.val (.int p1), .val (.int p2), .val (.int p3), .val (.int p4), .val (.int i1), .val (.int i2), .val (.int i3), .val (.ref r_4), .val (.ref r_5), .val (.ref r_6), .val (.ref b7), .val e00, .val e01, .val e02, .val e10, .val e11, .val e12, .val e30, .val e31, .val e32, .val (.ref b25), .val (.int z0.2.2.2), .val (.int z1.2.2.2), .val (.int z3.2.2.2), .val (.int (0 : Int32)), .val (.int z0.2.2.2), .val e00, .val e01, .val e02] [(.int (0 : Int32)), (.ref b25)])) rfl (by rw [hml]; rfl) (Steps.refl _) (argsL := [(.int (0 : Int32))]) (rest := []) (lenOf pd_6 rfl) rfl (by show 2 * 0 + _ ≤ _; exact Nat.le_of_eq rfl) (hb hby at_300) (fun _ _ => ⟨rfl, hs35, (by decide : 19 + 0 ≤ _), (by decide : 130 + 0 ≤ _)⟩)
    dsimp only [Pt.U, Pt.locs, Pt.cells, Pt.slots] at X37 l37 y37 z37 st37 hQ37
    replace y37 : kx37 = 19 := y37
    replace z37 : nx37 = 130 := z37
    subst y37 z37
    obtain ⟨rfl, Nq37, hs37, F_r_37⟩ := hQ37
    have NN : Fr n0 Lx37 := by rw [l37]; exact Fr.app NN Nq37
    have F_r_37 : own_S Z T34.heap (pfz_34.getD ((0 : Int32)).toNatClampNeg .null) (((own_rs z3.2.1 (z3.2.2.2.toInt - z0.2.2.2.toInt).toNat z3.2.2.2 (z3.1, z3.2.2.1)).1).getD ((0 : Int32)).toNatClampNeg none) := hs37 ▸ F_r_37
    have pre : ∀ τ, Steps p.tables e below (T37.setTop (mkF m 303 #[.val (.int p1), .val (.int p2), .val (.int p3), .val (.int p4), .val (.int i1), .val (.int i2), .val (.int i3), .val (.ref r_4), .val (.ref r_5), .val (.ref r_6), .val (.ref b7), .val e00, .val e01, .val e02, .val e10, .val e11, .val e12, .val e30, .val e31, .val e32, .val (.ref b25), .val (.int z0.2.2.2), .val (.int z1.2.2.2), .val (.int z3.2.2.2), .val (.int (0 : Int32)), .val (.int z0.2.2.2), .val e00, .val e01, .val e02] [(pfz_34.getD ((0 : Int32)).toNatClampNeg .null)])) τ → G τ := fun τ κ => pre τ (st37.trans κ)
    have pre : ∀ τ, Steps p.tables e below (T37.setTop (mkF m 305 #[.val (.int p1), .val (.int p2), .val (.int p3), .val (.int p4), .val (.int i1), .val (.int i2), .val (.int i3), .val (.ref r_4), .val (.ref r_5), .val (.ref r_6), .val (.ref b7), .val e00, .val e01, .val e02, .val e10, .val e11, .val e12, .val e30, .val e31, .val e32, .val (.ref b25), .val (.int z0.2.2.2), .val (.int z1.2.2.2), .val (.int z3.2.2.2), .val (.int (0 : Int32)), .val (.int z0.2.2.2), .val e00, .val e01, .val e02] [e00, (pfz_34.getD ((0 : Int32)).toNatClampNeg .null)])) τ → G τ := fun τ κ => pre τ (by
      refine XS.aload X37.here hx rfl (hb hby at_303) rfl (own_S_ref F_e00) ?_
      show Steps p.tables e below (T37.setTop (mkF m 305 #[.val (.int p1), .val (.int p2), .val (.int p3), .val (.int p4), .val (.int i1), .val (.int i2), .val (.int i3), .val (.ref r_4), .val (.ref r_5), .val (.ref r_6), .val (.ref b7), .val e00, .val e01, .val e02, .val e10, .val e11, .val e12, .val e30, .val e31, .val e32, .val (.ref b25), .val (.int z0.2.2.2), .val (.int z1.2.2.2), .val (.int z3.2.2.2), .val (.int (0 : Int32)), .val (.int z0.2.2.2), .val e00, .val e01, .val e02] [e00, (pfz_34.getD ((0 : Int32)).toNatClampNeg .null)])) τ
      exact κ)
    obtain ⟨_, _, ⟨T38, Lx38, kx38, nx38⟩, -, X38, ⟨Lc38, hQ38, l38, y38, z38⟩, st38⟩ := Jvm.LawKit.callS X37 hx (y := (⟨"coppice/marshal/context/NamespaceScopeRestorePinLaw", "eq", "(Ljava/lang/String;Ljava/lang/String;)Z"⟩ : MethodName)) hown (mvT hZ (hw _ (List.mem_of_getElem? (i := 91) rfl))) (mvT hZ (hw _ (List.mem_of_getElem? (i := 92) rfl))) (mvT hZ (hw _ (List.mem_of_getElem? (i := 2) rfl))) (mvT hZ (hw _ (List.mem_of_getElem? (i := 93) rfl))) (by decide) (backOf (W := 0) (rm15 l Z a0 hw [] (pfz_34.getD ((0 : Int32)).toNatClampNeg .null) e00 (((own_rs z3.2.1 (z3.2.2.2.toInt - z0.2.2.2.toInt).toNat z3.2.2.2 (z3.1, z3.2.2.1)).1).getD ((0 : Int32)).toNatClampNeg none) (so0.getD ((0 : Int32)).toNatClampNeg none) cw T34.heap n0 Zn F_r_37 F_e00 S_c hcw) hZ (hw _ (List.mem_of_getElem? (i := 93) rfl)) (hw _ (List.mem_of_getElem? (i := 2) rfl)) (by decide) (by decide)) (g := (mkF m 305 #[.val (.int p1), .val (.int p2), .val (.int p3), .val (.int p4), .val (.int i1), .val (.int i2), .val (.int i3), .val (.ref r_4), .val (.ref r_5), .val (.ref r_6), .val (.ref b7), .val e00, .val e01, .val e02, .val e10, .val e11, .val e12, .val e30, .val e31, .val e32, .val (.ref b25), .val (.int z0.2.2.2), .val (.int z1.2.2.2), .val (.int z3.2.2.2), .val (.int (0 : Int32)), .val (.int z0.2.2.2), .val e00, .val e01, .val e02] [e00, (pfz_34.getD ((0 : Int32)).toNatClampNeg .null)])) rfl (by rw [hml]; rfl) (argsL := [(pfz_34.getD ((0 : Int32)).toNatClampNeg .null), e00]) (rest := []) (lenOf pd_10 rfl) rfl (by show 2 * 0 + _ ≤ _; exact Nat.le_of_eq rfl) (hb hby at_305) (fun _ _ => ⟨rfl, hs37, (by decide : 19 + 0 ≤ _), (by decide : 130 + 0 ≤ _)⟩)
    dsimp only [Pt.U, Pt.locs, Pt.cells, Pt.slots] at X38 l38 y38 z38 st38 hQ38
    replace y38 : kx38 = 19 := y38
    replace z38 : nx38 = 130 := z38
    subst y38 z38
    obtain ⟨rfl, Nq38, hs38⟩ := hQ38
    have NN : Fr n0 Lx38 := by rw [l38]; exact Fr.app NN Nq38
    have pre : ∀ τ, Steps p.tables e below (T38.setTop (mkF m 308 #[.val (.int p1), .val (.int p2), .val (.int p3), .val (.int p4), .val (.int i1), .val (.int i2), .val (.int i3), .val (.ref r_4), .val (.ref r_5), .val (.ref r_6), .val (.ref b7), .val e00, .val e01, .val e02, .val e10, .val e11, .val e12, .val e30, .val e31, .val e32, .val (.ref b25), .val (.int z0.2.2.2), .val (.int z1.2.2.2), .val (.int z3.2.2.2), .val (.int (0 : Int32)), .val (.int z0.2.2.2), .val e00, .val e01, .val e02] [(.int (own_eqo (((own_rs z3.2.1 (z3.2.2.2.toInt - z0.2.2.2.toInt).toNat z3.2.2.2 (z3.1, z3.2.2.1)).1).getD ((0 : Int32)).toNatClampNeg none) (so0.getD ((0 : Int32)).toNatClampNeg none)))])) τ → G τ := fun τ κ => pre τ (st38 τ κ)
    have hc39 : ¬ ((own_eqo (((own_rs z3.2.1 (z3.2.2.2.toInt - z0.2.2.2.toInt).toNat z3.2.2.2 (z3.1, z3.2.2.1)).1).getD ((0 : Int32)).toNatClampNeg none) (so0.getD ((0 : Int32)).toNatClampNeg none)) = (0 : Int32)) := (by rw [hfin, hz0s]; exact own_eqo1 _)
    have pre : ∀ τ, Steps p.tables e below (T38.setTop (mkF m 314 #[.val (.int p1), .val (.int p2), .val (.int p3), .val (.int p4), .val (.int i1), .val (.int i2), .val (.int i3), .val (.ref r_4), .val (.ref r_5), .val (.ref r_6), .val (.ref b7), .val e00, .val e01, .val e02, .val e10, .val e11, .val e12, .val e30, .val e31, .val e32, .val (.ref b25), .val (.int z0.2.2.2), .val (.int z1.2.2.2), .val (.int z3.2.2.2), .val (.int (0 : Int32)), .val (.int z0.2.2.2), .val e00, .val e01, .val e02] [(.int (1 : Int32)), (.ref b25)])) τ → G τ := fun τ κ => pre τ (by
      refine XS.ifNo X38.here hx rfl (hb hby at_308) rfl ((if0 _ _).trans (feq hc39).1) ?_
      show Steps p.tables e below (T38.setTop (mkF m 311 #[.val (.int p1), .val (.int p2), .val (.int p3), .val (.int p4), .val (.int i1), .val (.int i2), .val (.int i3), .val (.ref r_4), .val (.ref r_5), .val (.ref r_6), .val (.ref b7), .val e00, .val e01, .val e02, .val e10, .val e11, .val e12, .val e30, .val e31, .val e32, .val (.ref b25), .val (.int z0.2.2.2), .val (.int z1.2.2.2), .val (.int z3.2.2.2), .val (.int (0 : Int32)), .val (.int z0.2.2.2), .val e00, .val e01, .val e02] [])) τ
      refine XS.aload X38.here hx rfl (hb hby at_311) rfl rfl ?_
      show Steps p.tables e below (T38.setTop (mkF m 313 #[.val (.int p1), .val (.int p2), .val (.int p3), .val (.int p4), .val (.int i1), .val (.int i2), .val (.int i3), .val (.ref r_4), .val (.ref r_5), .val (.ref r_6), .val (.ref b7), .val e00, .val e01, .val e02, .val e10, .val e11, .val e12, .val e30, .val e31, .val e32, .val (.ref b25), .val (.int z0.2.2.2), .val (.int z1.2.2.2), .val (.int z3.2.2.2), .val (.int (0 : Int32)), .val (.int z0.2.2.2), .val e00, .val e01, .val e02] [(.ref b25)])) τ
      refine XS.iconst X38.here hx rfl (hb hby at_313) ?_
      show Steps p.tables e below (T38.setTop (mkF m 314 #[.val (.int p1), .val (.int p2), .val (.int p3), .val (.int p4), .val (.int i1), .val (.int i2), .val (.int i3), .val (.ref r_4), .val (.ref r_5), .val (.ref r_6), .val (.ref b7), .val e00, .val e01, .val e02, .val e10, .val e11, .val e12, .val e30, .val e31, .val e32, .val (.ref b25), .val (.int z0.2.2.2), .val (.int z1.2.2.2), .val (.int z3.2.2.2), .val (.int (0 : Int32)), .val (.int z0.2.2.2), .val e00, .val e01, .val e02] [(.int (1 : Int32)), (.ref b25)])) τ
      exact κ)
    obtain ⟨cq40, kq40, q40a, q40b, q40c⟩ := isOf hZ hs38 E_b25
    obtain ⟨_, _, ⟨T40, Lx40, kx40, nx40⟩, -, X40, ⟨Lc40, hQ40, l40, y40, z40⟩, st40⟩ := X38.virtualBack hx (y := (⟨"coppice/marshal/context/NamespaceScope", "prefix", "(I)Ljava/lang/String;"⟩ : MethodName)) (z := (⟨"coppice/marshal/context/NamespaceScope", "prefix", "(I)Ljava/lang/String;"⟩ : MethodName)) hown (mvT hZ (hw _ (List.mem_of_getElem? (i := 86) rfl))) (mvT hZ (hw _ (List.mem_of_getElem? (i := 87) rfl))) (notFace_of_selects (args := #[]) (mvT hZ (hw _ (List.mem_of_getElem? (i := 89) rfl)))) (mvT hZ (hw _ (List.mem_of_getElem? (i := 89) rfl))) (mvT hZ (hw _ (List.mem_of_getElem? (i := 88) rfl))) (by decide) (backOf (W := 0) (rm14 l Z a0 hw [] b25 (1 : Int32) pf_26 kf_26 (3 : Int32) pfz_34 ((own_rs z3.2.1 (z3.2.2.2.toInt - z0.2.2.2.toInt).toNat z3.2.2.2 (z3.1, z3.2.2.1)).1) T34.heap n0 Zn F_pf_34 V_pf_34 L_pf_34 ⟨by decide, by decide⟩) hZ (hw _ (List.mem_of_getElem? (i := 90) rfl)) (hw _ (List.mem_of_getElem? (i := 38) rfl)) (by decide) (by decide)) q40a q40c (g := (mkF m 314 #[.val (.int p1), .val (.int p2), .val (.int p3), .val (.int p4), .val (.int i1), .val (.int i2), .val (.int i3), .val (.ref r_4), .val (.ref r_5), .val (.ref r_6), .val (.ref b7), .val e00, .val e01, .val e02, .val e10, .val e11, .val e12, .val e30, .val e31, .val e32, .val (.ref b25), .val (.int z0.2.2.2), .val (.int z1.2.2.2), .val (.int z3.2.2.2), .val (.int (0 : Int32)), .val (.int z0.2.2.2), .val e00, .val e01, .val e02] [(.int (1 : Int32)), (.ref b25)])) rfl (by rw [hml]; rfl) (Steps.refl _) (argsL := [(.int (1 : Int32))]) (rest := []) (lenOf pd_6 rfl) rfl (by show 2 * 0 + _ ≤ _; exact Nat.le_of_eq rfl) (hb hby at_314) (fun _ _ => ⟨rfl, hs38, (by decide : 19 + 0 ≤ _), (by decide : 130 + 0 ≤ _)⟩)
    dsimp only [Pt.U, Pt.locs, Pt.cells, Pt.slots] at X40 l40 y40 z40 st40 hQ40
    replace y40 : kx40 = 19 := y40
    replace z40 : nx40 = 130 := z40
    subst y40 z40
    obtain ⟨rfl, Nq40, hs40, F_r_40⟩ := hQ40
    have NN : Fr n0 Lx40 := by rw [l40]; exact Fr.app NN Nq40
    have F_r_40 : own_S Z T34.heap (pfz_34.getD ((1 : Int32)).toNatClampNeg .null) (((own_rs z3.2.1 (z3.2.2.2.toInt - z0.2.2.2.toInt).toNat z3.2.2.2 (z3.1, z3.2.2.1)).1).getD ((1 : Int32)).toNatClampNeg none) := hs40 ▸ F_r_40
    have pre : ∀ τ, Steps p.tables e below (T40.setTop (mkF m 317 #[.val (.int p1), .val (.int p2), .val (.int p3), .val (.int p4), .val (.int i1), .val (.int i2), .val (.int i3), .val (.ref r_4), .val (.ref r_5), .val (.ref r_6), .val (.ref b7), .val e00, .val e01, .val e02, .val e10, .val e11, .val e12, .val e30, .val e31, .val e32, .val (.ref b25), .val (.int z0.2.2.2), .val (.int z1.2.2.2), .val (.int z3.2.2.2), .val (.int (0 : Int32)), .val (.int z0.2.2.2), .val e00, .val e01, .val e02] [(pfz_34.getD ((1 : Int32)).toNatClampNeg .null)])) τ → G τ := fun τ κ => pre τ (st40.trans κ)
    have pre : ∀ τ, Steps p.tables e below (T40.setTop (mkF m 319 #[.val (.int p1), .val (.int p2), .val (.int p3), .val (.int p4), .val (.int i1), .val (.int i2), .val (.int i3), .val (.ref r_4), .val (.ref r_5), .val (.ref r_6), .val (.ref b7), .val e00, .val e01, .val e02, .val e10, .val e11, .val e12, .val e30, .val e31, .val e32, .val (.ref b25), .val (.int z0.2.2.2), .val (.int z1.2.2.2), .val (.int z3.2.2.2), .val (.int (0 : Int32)), .val (.int z0.2.2.2), .val e00, .val e01, .val e02] [e01, (pfz_34.getD ((1 : Int32)).toNatClampNeg .null)])) τ → G τ := fun τ κ => pre τ (by
      refine XS.aload X40.here hx rfl (hb hby at_317) rfl (own_S_ref F_e01) ?_
      show Steps p.tables e below (T40.setTop (mkF m 319 #[.val (.int p1), .val (.int p2), .val (.int p3), .val (.int p4), .val (.int i1), .val (.int i2), .val (.int i3), .val (.ref r_4), .val (.ref r_5), .val (.ref r_6), .val (.ref b7), .val e00, .val e01, .val e02, .val e10, .val e11, .val e12, .val e30, .val e31, .val e32, .val (.ref b25), .val (.int z0.2.2.2), .val (.int z1.2.2.2), .val (.int z3.2.2.2), .val (.int (0 : Int32)), .val (.int z0.2.2.2), .val e00, .val e01, .val e02] [e01, (pfz_34.getD ((1 : Int32)).toNatClampNeg .null)])) τ
      exact κ)
    obtain ⟨_, _, ⟨T41, Lx41, kx41, nx41⟩, -, X41, ⟨Lc41, hQ41, l41, y41, z41⟩, st41⟩ := Jvm.LawKit.callS X40 hx (y := (⟨"coppice/marshal/context/NamespaceScopeRestorePinLaw", "eq", "(Ljava/lang/String;Ljava/lang/String;)Z"⟩ : MethodName)) hown (mvT hZ (hw _ (List.mem_of_getElem? (i := 91) rfl))) (mvT hZ (hw _ (List.mem_of_getElem? (i := 92) rfl))) (mvT hZ (hw _ (List.mem_of_getElem? (i := 2) rfl))) (mvT hZ (hw _ (List.mem_of_getElem? (i := 93) rfl))) (by decide) (backOf (W := 0) (rm15 l Z a0 hw [] (pfz_34.getD ((1 : Int32)).toNatClampNeg .null) e01 (((own_rs z3.2.1 (z3.2.2.2.toInt - z0.2.2.2.toInt).toNat z3.2.2.2 (z3.1, z3.2.2.1)).1).getD ((1 : Int32)).toNatClampNeg none) (so0.getD ((1 : Int32)).toNatClampNeg none) cw T34.heap n0 Zn F_r_40 F_e01 S_c hcw) hZ (hw _ (List.mem_of_getElem? (i := 93) rfl)) (hw _ (List.mem_of_getElem? (i := 2) rfl)) (by decide) (by decide)) (g := (mkF m 319 #[.val (.int p1), .val (.int p2), .val (.int p3), .val (.int p4), .val (.int i1), .val (.int i2), .val (.int i3), .val (.ref r_4), .val (.ref r_5), .val (.ref r_6), .val (.ref b7), .val e00, .val e01, .val e02, .val e10, .val e11, .val e12, .val e30, .val e31, .val e32, .val (.ref b25), .val (.int z0.2.2.2), .val (.int z1.2.2.2), .val (.int z3.2.2.2), .val (.int (0 : Int32)), .val (.int z0.2.2.2), .val e00, .val e01, .val e02] [e01, (pfz_34.getD ((1 : Int32)).toNatClampNeg .null)])) rfl (by rw [hml]; rfl) (argsL := [(pfz_34.getD ((1 : Int32)).toNatClampNeg .null), e01]) (rest := []) (lenOf pd_10 rfl) rfl (by show 2 * 0 + _ ≤ _; exact Nat.le_of_eq rfl) (hb hby at_319) (fun _ _ => ⟨rfl, hs40, (by decide : 19 + 0 ≤ _), (by decide : 130 + 0 ≤ _)⟩)
    dsimp only [Pt.U, Pt.locs, Pt.cells, Pt.slots] at X41 l41 y41 z41 st41 hQ41
    replace y41 : kx41 = 19 := y41
    replace z41 : nx41 = 130 := z41
    subst y41 z41
    obtain ⟨rfl, Nq41, hs41⟩ := hQ41
    have NN : Fr n0 Lx41 := by rw [l41]; exact Fr.app NN Nq41
    have pre : ∀ τ, Steps p.tables e below (T41.setTop (mkF m 322 #[.val (.int p1), .val (.int p2), .val (.int p3), .val (.int p4), .val (.int i1), .val (.int i2), .val (.int i3), .val (.ref r_4), .val (.ref r_5), .val (.ref r_6), .val (.ref b7), .val e00, .val e01, .val e02, .val e10, .val e11, .val e12, .val e30, .val e31, .val e32, .val (.ref b25), .val (.int z0.2.2.2), .val (.int z1.2.2.2), .val (.int z3.2.2.2), .val (.int (0 : Int32)), .val (.int z0.2.2.2), .val e00, .val e01, .val e02] [(.int (own_eqo (((own_rs z3.2.1 (z3.2.2.2.toInt - z0.2.2.2.toInt).toNat z3.2.2.2 (z3.1, z3.2.2.1)).1).getD ((1 : Int32)).toNatClampNeg none) (so0.getD ((1 : Int32)).toNatClampNeg none)))])) τ → G τ := fun τ κ => pre τ (st41 τ κ)
    have hc42 : ¬ ((own_eqo (((own_rs z3.2.1 (z3.2.2.2.toInt - z0.2.2.2.toInt).toNat z3.2.2.2 (z3.1, z3.2.2.1)).1).getD ((1 : Int32)).toNatClampNeg none) (so0.getD ((1 : Int32)).toNatClampNeg none)) = (0 : Int32)) := (by rw [hfin, hz0s]; exact own_eqo1 _)
    have pre : ∀ τ, Steps p.tables e below (T41.setTop (mkF m 328 #[.val (.int p1), .val (.int p2), .val (.int p3), .val (.int p4), .val (.int i1), .val (.int i2), .val (.int i3), .val (.ref r_4), .val (.ref r_5), .val (.ref r_6), .val (.ref b7), .val e00, .val e01, .val e02, .val e10, .val e11, .val e12, .val e30, .val e31, .val e32, .val (.ref b25), .val (.int z0.2.2.2), .val (.int z1.2.2.2), .val (.int z3.2.2.2), .val (.int (0 : Int32)), .val (.int z0.2.2.2), .val e00, .val e01, .val e02] [(.int (2 : Int32)), (.ref b25)])) τ → G τ := fun τ κ => pre τ (by
      refine XS.ifNo X41.here hx rfl (hb hby at_322) rfl ((if0 _ _).trans (feq hc42).1) ?_
      show Steps p.tables e below (T41.setTop (mkF m 325 #[.val (.int p1), .val (.int p2), .val (.int p3), .val (.int p4), .val (.int i1), .val (.int i2), .val (.int i3), .val (.ref r_4), .val (.ref r_5), .val (.ref r_6), .val (.ref b7), .val e00, .val e01, .val e02, .val e10, .val e11, .val e12, .val e30, .val e31, .val e32, .val (.ref b25), .val (.int z0.2.2.2), .val (.int z1.2.2.2), .val (.int z3.2.2.2), .val (.int (0 : Int32)), .val (.int z0.2.2.2), .val e00, .val e01, .val e02] [])) τ
      refine XS.aload X41.here hx rfl (hb hby at_325) rfl rfl ?_
      show Steps p.tables e below (T41.setTop (mkF m 327 #[.val (.int p1), .val (.int p2), .val (.int p3), .val (.int p4), .val (.int i1), .val (.int i2), .val (.int i3), .val (.ref r_4), .val (.ref r_5), .val (.ref r_6), .val (.ref b7), .val e00, .val e01, .val e02, .val e10, .val e11, .val e12, .val e30, .val e31, .val e32, .val (.ref b25), .val (.int z0.2.2.2), .val (.int z1.2.2.2), .val (.int z3.2.2.2), .val (.int (0 : Int32)), .val (.int z0.2.2.2), .val e00, .val e01, .val e02] [(.ref b25)])) τ
      refine XS.iconst X41.here hx rfl (hb hby at_327) ?_
      show Steps p.tables e below (T41.setTop (mkF m 328 #[.val (.int p1), .val (.int p2), .val (.int p3), .val (.int p4), .val (.int i1), .val (.int i2), .val (.int i3), .val (.ref r_4), .val (.ref r_5), .val (.ref r_6), .val (.ref b7), .val e00, .val e01, .val e02, .val e10, .val e11, .val e12, .val e30, .val e31, .val e32, .val (.ref b25), .val (.int z0.2.2.2), .val (.int z1.2.2.2), .val (.int z3.2.2.2), .val (.int (0 : Int32)), .val (.int z0.2.2.2), .val e00, .val e01, .val e02] [(.int (2 : Int32)), (.ref b25)])) τ
      exact κ)
    obtain ⟨cq43, kq43, q43a, q43b, q43c⟩ := isOf hZ hs41 E_b25
    obtain ⟨_, _, ⟨T43, Lx43, kx43, nx43⟩, -, X43, ⟨Lc43, hQ43, l43, y43, z43⟩, st43⟩ := X41.virtualBack hx (y := (⟨"coppice/marshal/context/NamespaceScope", "prefix", "(I)Ljava/lang/String;"⟩ : MethodName)) (z := (⟨"coppice/marshal/context/NamespaceScope", "prefix", "(I)Ljava/lang/String;"⟩ : MethodName)) hown (mvT hZ (hw _ (List.mem_of_getElem? (i := 86) rfl))) (mvT hZ (hw _ (List.mem_of_getElem? (i := 87) rfl))) (notFace_of_selects (args := #[]) (mvT hZ (hw _ (List.mem_of_getElem? (i := 89) rfl)))) (mvT hZ (hw _ (List.mem_of_getElem? (i := 89) rfl))) (mvT hZ (hw _ (List.mem_of_getElem? (i := 88) rfl))) (by decide) (backOf (W := 0) (rm14 l Z a0 hw [] b25 (2 : Int32) pf_26 kf_26 (3 : Int32) pfz_34 ((own_rs z3.2.1 (z3.2.2.2.toInt - z0.2.2.2.toInt).toNat z3.2.2.2 (z3.1, z3.2.2.1)).1) T34.heap n0 Zn F_pf_34 V_pf_34 L_pf_34 ⟨by decide, by decide⟩) hZ (hw _ (List.mem_of_getElem? (i := 90) rfl)) (hw _ (List.mem_of_getElem? (i := 38) rfl)) (by decide) (by decide)) q43a q43c (g := (mkF m 328 #[.val (.int p1), .val (.int p2), .val (.int p3), .val (.int p4), .val (.int i1), .val (.int i2), .val (.int i3), .val (.ref r_4), .val (.ref r_5), .val (.ref r_6), .val (.ref b7), .val e00, .val e01, .val e02, .val e10, .val e11, .val e12, .val e30, .val e31, .val e32, .val (.ref b25), .val (.int z0.2.2.2), .val (.int z1.2.2.2), .val (.int z3.2.2.2), .val (.int (0 : Int32)), .val (.int z0.2.2.2), .val e00, .val e01, .val e02] [(.int (2 : Int32)), (.ref b25)])) rfl (by rw [hml]; rfl) (Steps.refl _) (argsL := [(.int (2 : Int32))]) (rest := []) (lenOf pd_6 rfl) rfl (by show 2 * 0 + _ ≤ _; exact Nat.le_of_eq rfl) (hb hby at_328) (fun _ _ => ⟨rfl, hs41, (by decide : 19 + 0 ≤ _), (by decide : 130 + 0 ≤ _)⟩)
    dsimp only [Pt.U, Pt.locs, Pt.cells, Pt.slots] at X43 l43 y43 z43 st43 hQ43
    replace y43 : kx43 = 19 := y43
    replace z43 : nx43 = 130 := z43
    subst y43 z43
    obtain ⟨rfl, Nq43, hs43, F_r_43⟩ := hQ43
    have NN : Fr n0 Lx43 := by rw [l43]; exact Fr.app NN Nq43
    have F_r_43 : own_S Z T34.heap (pfz_34.getD ((2 : Int32)).toNatClampNeg .null) (((own_rs z3.2.1 (z3.2.2.2.toInt - z0.2.2.2.toInt).toNat z3.2.2.2 (z3.1, z3.2.2.1)).1).getD ((2 : Int32)).toNatClampNeg none) := hs43 ▸ F_r_43
    have pre : ∀ τ, Steps p.tables e below (T43.setTop (mkF m 331 #[.val (.int p1), .val (.int p2), .val (.int p3), .val (.int p4), .val (.int i1), .val (.int i2), .val (.int i3), .val (.ref r_4), .val (.ref r_5), .val (.ref r_6), .val (.ref b7), .val e00, .val e01, .val e02, .val e10, .val e11, .val e12, .val e30, .val e31, .val e32, .val (.ref b25), .val (.int z0.2.2.2), .val (.int z1.2.2.2), .val (.int z3.2.2.2), .val (.int (0 : Int32)), .val (.int z0.2.2.2), .val e00, .val e01, .val e02] [(pfz_34.getD ((2 : Int32)).toNatClampNeg .null)])) τ → G τ := fun τ κ => pre τ (st43.trans κ)
    have pre : ∀ τ, Steps p.tables e below (T43.setTop (mkF m 333 #[.val (.int p1), .val (.int p2), .val (.int p3), .val (.int p4), .val (.int i1), .val (.int i2), .val (.int i3), .val (.ref r_4), .val (.ref r_5), .val (.ref r_6), .val (.ref b7), .val e00, .val e01, .val e02, .val e10, .val e11, .val e12, .val e30, .val e31, .val e32, .val (.ref b25), .val (.int z0.2.2.2), .val (.int z1.2.2.2), .val (.int z3.2.2.2), .val (.int (0 : Int32)), .val (.int z0.2.2.2), .val e00, .val e01, .val e02] [e02, (pfz_34.getD ((2 : Int32)).toNatClampNeg .null)])) τ → G τ := fun τ κ => pre τ (by
      refine XS.aload X43.here hx rfl (hb hby at_331) rfl (own_S_ref F_e02) ?_
      show Steps p.tables e below (T43.setTop (mkF m 333 #[.val (.int p1), .val (.int p2), .val (.int p3), .val (.int p4), .val (.int i1), .val (.int i2), .val (.int i3), .val (.ref r_4), .val (.ref r_5), .val (.ref r_6), .val (.ref b7), .val e00, .val e01, .val e02, .val e10, .val e11, .val e12, .val e30, .val e31, .val e32, .val (.ref b25), .val (.int z0.2.2.2), .val (.int z1.2.2.2), .val (.int z3.2.2.2), .val (.int (0 : Int32)), .val (.int z0.2.2.2), .val e00, .val e01, .val e02] [e02, (pfz_34.getD ((2 : Int32)).toNatClampNeg .null)])) τ
      exact κ)
    obtain ⟨_, _, ⟨T44, Lx44, kx44, nx44⟩, -, X44, ⟨Lc44, hQ44, l44, y44, z44⟩, st44⟩ := Jvm.LawKit.callS X43 hx (y := (⟨"coppice/marshal/context/NamespaceScopeRestorePinLaw", "eq", "(Ljava/lang/String;Ljava/lang/String;)Z"⟩ : MethodName)) hown (mvT hZ (hw _ (List.mem_of_getElem? (i := 91) rfl))) (mvT hZ (hw _ (List.mem_of_getElem? (i := 92) rfl))) (mvT hZ (hw _ (List.mem_of_getElem? (i := 2) rfl))) (mvT hZ (hw _ (List.mem_of_getElem? (i := 93) rfl))) (by decide) (backOf (W := 0) (rm15 l Z a0 hw [] (pfz_34.getD ((2 : Int32)).toNatClampNeg .null) e02 (((own_rs z3.2.1 (z3.2.2.2.toInt - z0.2.2.2.toInt).toNat z3.2.2.2 (z3.1, z3.2.2.1)).1).getD ((2 : Int32)).toNatClampNeg none) (so0.getD ((2 : Int32)).toNatClampNeg none) cw T34.heap n0 Zn F_r_43 F_e02 S_c hcw) hZ (hw _ (List.mem_of_getElem? (i := 93) rfl)) (hw _ (List.mem_of_getElem? (i := 2) rfl)) (by decide) (by decide)) (g := (mkF m 333 #[.val (.int p1), .val (.int p2), .val (.int p3), .val (.int p4), .val (.int i1), .val (.int i2), .val (.int i3), .val (.ref r_4), .val (.ref r_5), .val (.ref r_6), .val (.ref b7), .val e00, .val e01, .val e02, .val e10, .val e11, .val e12, .val e30, .val e31, .val e32, .val (.ref b25), .val (.int z0.2.2.2), .val (.int z1.2.2.2), .val (.int z3.2.2.2), .val (.int (0 : Int32)), .val (.int z0.2.2.2), .val e00, .val e01, .val e02] [e02, (pfz_34.getD ((2 : Int32)).toNatClampNeg .null)])) rfl (by rw [hml]; rfl) (argsL := [(pfz_34.getD ((2 : Int32)).toNatClampNeg .null), e02]) (rest := []) (lenOf pd_10 rfl) rfl (by show 2 * 0 + _ ≤ _; exact Nat.le_of_eq rfl) (hb hby at_333) (fun _ _ => ⟨rfl, hs43, (by decide : 19 + 0 ≤ _), (by decide : 130 + 0 ≤ _)⟩)
    dsimp only [Pt.U, Pt.locs, Pt.cells, Pt.slots] at X44 l44 y44 z44 st44 hQ44
    replace y44 : kx44 = 19 := y44
    replace z44 : nx44 = 130 := z44
    subst y44 z44
    obtain ⟨rfl, Nq44, hs44⟩ := hQ44
    have NN : Fr n0 Lx44 := by rw [l44]; exact Fr.app NN Nq44
    have pre : ∀ τ, Steps p.tables e below (T44.setTop (mkF m 336 #[.val (.int p1), .val (.int p2), .val (.int p3), .val (.int p4), .val (.int i1), .val (.int i2), .val (.int i3), .val (.ref r_4), .val (.ref r_5), .val (.ref r_6), .val (.ref b7), .val e00, .val e01, .val e02, .val e10, .val e11, .val e12, .val e30, .val e31, .val e32, .val (.ref b25), .val (.int z0.2.2.2), .val (.int z1.2.2.2), .val (.int z3.2.2.2), .val (.int (0 : Int32)), .val (.int z0.2.2.2), .val e00, .val e01, .val e02] [(.int (own_eqo (((own_rs z3.2.1 (z3.2.2.2.toInt - z0.2.2.2.toInt).toNat z3.2.2.2 (z3.1, z3.2.2.1)).1).getD ((2 : Int32)).toNatClampNeg none) (so0.getD ((2 : Int32)).toNatClampNeg none)))])) τ → G τ := fun τ κ => pre τ (st44 τ κ)
    have hc45 : ¬ ((own_eqo (((own_rs z3.2.1 (z3.2.2.2.toInt - z0.2.2.2.toInt).toNat z3.2.2.2 (z3.1, z3.2.2.1)).1).getD ((2 : Int32)).toNatClampNeg none) (so0.getD ((2 : Int32)).toNatClampNeg none)) = (0 : Int32)) := (by rw [hfin, hz0s]; exact own_eqo1 _)
    have pre : ∀ τ, Steps p.tables e below (T44.setTop (mkF m 344 #[.val (.int p1), .val (.int p2), .val (.int p3), .val (.int p4), .val (.int i1), .val (.int i2), .val (.int i3), .val (.ref r_4), .val (.ref r_5), .val (.ref r_6), .val (.ref b7), .val e00, .val e01, .val e02, .val e10, .val e11, .val e12, .val e30, .val e31, .val e32, .val (.ref b25), .val (.int z0.2.2.2), .val (.int z1.2.2.2), .val (.int z3.2.2.2), .val (.int (0 : Int32)), .val (.int z0.2.2.2), .val e00, .val e01, .val e02] [(.int (1 : Int32))])) τ → G τ := fun τ κ => pre τ (by
      refine XS.ifNo X44.here hx rfl (hb hby at_336) rfl ((if0 _ _).trans (feq hc45).1) ?_
      show Steps p.tables e below (T44.setTop (mkF m 339 #[.val (.int p1), .val (.int p2), .val (.int p3), .val (.int p4), .val (.int i1), .val (.int i2), .val (.int i3), .val (.ref r_4), .val (.ref r_5), .val (.ref r_6), .val (.ref b7), .val e00, .val e01, .val e02, .val e10, .val e11, .val e12, .val e30, .val e31, .val e32, .val (.ref b25), .val (.int z0.2.2.2), .val (.int z1.2.2.2), .val (.int z3.2.2.2), .val (.int (0 : Int32)), .val (.int z0.2.2.2), .val e00, .val e01, .val e02] [])) τ
      refine XS.iconst X44.here hx rfl (hb hby at_339) ?_
      show Steps p.tables e below (T44.setTop (mkF m 340 #[.val (.int p1), .val (.int p2), .val (.int p3), .val (.int p4), .val (.int i1), .val (.int i2), .val (.int i3), .val (.ref r_4), .val (.ref r_5), .val (.ref r_6), .val (.ref b7), .val e00, .val e01, .val e02, .val e10, .val e11, .val e12, .val e30, .val e31, .val e32, .val (.ref b25), .val (.int z0.2.2.2), .val (.int z1.2.2.2), .val (.int z3.2.2.2), .val (.int (0 : Int32)), .val (.int z0.2.2.2), .val e00, .val e01, .val e02] [(.int (1 : Int32))])) τ
      refine XS.goto X44.here hx rfl (pc0 := 340) (pc' := 344) rfl (hb hby at_340) (by decide) (by decide) ?_
      show Steps p.tables e below (T44.setTop (mkF m 344 #[.val (.int p1), .val (.int p2), .val (.int p3), .val (.int p4), .val (.int i1), .val (.int i2), .val (.int i3), .val (.ref r_4), .val (.ref r_5), .val (.ref r_6), .val (.ref b7), .val e00, .val e01, .val e02, .val e10, .val e11, .val e12, .val e30, .val e31, .val e32, .val (.ref b25), .val (.int z0.2.2.2), .val (.int z1.2.2.2), .val (.int z3.2.2.2), .val (.int (0 : Int32)), .val (.int z0.2.2.2), .val e00, .val e01, .val e02] [(.int (1 : Int32))])) τ
      exact κ)
    have hkT := Nat.le_trans hk (Nat.le_of_eq (congrArg Array.size (Eq.symm hs44)))
    obtain ⟨fsα, hr, hrun, hended, hRE⟩ := X44.leaveW hS hkT (v := some (.int (1 : Int32))) (fun h => by rw [Bd.returns] at h; cases h)
    refine hGL ⟨_, _, hG _ (pre _ ?_), hrun, hended, _, _, rfl, ?_, ?_, ⟨_, rfl⟩, hRE.2.1, hRE.2.2.1, hRE.2.2.2.mono (by decide) (by decide)⟩
    · exact retN X44 hx (t := .boolean) Bd.returns (by simp) (hb hby at_344) hr
    · show Q0 Z p1 p2 p3 p4 cw h0 n0 _ T44.heap _
      rw [hs44]
      exact ⟨rfl, NN⟩
    · show CHr Z own_EL s.vm s.heap T44.vm T44.heap
      rw [hh, hs44]
      exact HR.trans (CHv.at X44 hZ hEL H)
  ·
    have pre : ∀ τ, Steps p.tables e below (T32.setTop (mkF m 215 #[.val (.int p1), .val (.int p2), .val (.int p3), .val (.int p4), .val (.int i1), .val (.int i2), .val (.int i3), .val (.ref r_4), .val (.ref r_5), .val (.ref r_6), .val (.ref b7), .val e00, .val e01, .val e02, .val e10, .val e11, .val e12, .val e30, .val e31, .val e32, .val (.ref b25), .val (.int z0.2.2.2), .val (.int z1.2.2.2), .val (.int z3.2.2.2), .val (.int (1 : Int32)), .unset, .unset, .unset, .unset] [])) τ → G τ := (show ks = (1 : Int32) from hk3) ▸ pre
    have pre : ∀ τ, Steps p.tables e below (T32.setTop (mkF m 217 #[.val (.int p1), .val (.int p2), .val (.int p3), .val (.int p4), .val (.int i1), .val (.int i2), .val (.int i3), .val (.ref r_4), .val (.ref r_5), .val (.ref r_6), .val (.ref b7), .val e00, .val e01, .val e02, .val e10, .val e11, .val e12, .val e30, .val e31, .val e32, .val (.ref b25), .val (.int z0.2.2.2), .val (.int z1.2.2.2), .val (.int z3.2.2.2), .val (.int (1 : Int32)), .unset, .unset, .unset, .unset] [(.int (1 : Int32))])) τ → G τ := fun τ κ => pre τ (by
      refine XS.iload X32.here hx rfl (hb hby at_215) rfl ?_
      show Steps p.tables e below (T32.setTop (mkF m 217 #[.val (.int p1), .val (.int p2), .val (.int p3), .val (.int p4), .val (.int i1), .val (.int i2), .val (.int i3), .val (.ref r_4), .val (.ref r_5), .val (.ref r_6), .val (.ref b7), .val e00, .val e01, .val e02, .val e10, .val e11, .val e12, .val e30, .val e31, .val e32, .val (.ref b25), .val (.int z0.2.2.2), .val (.int z1.2.2.2), .val (.int z3.2.2.2), .val (.int (1 : Int32)), .unset, .unset, .unset, .unset] [(.int (1 : Int32))])) τ
      exact κ)
    have hc46 : ¬ ((1 : Int32) = (0 : Int32)) := (by decide)
    have pre : ∀ τ, Steps p.tables e below (T32.setTop (mkF m 242 #[.val (.int p1), .val (.int p2), .val (.int p3), .val (.int p4), .val (.int i1), .val (.int i2), .val (.int i3), .val (.ref r_4), .val (.ref r_5), .val (.ref r_6), .val (.ref b7), .val e00, .val e01, .val e02, .val e10, .val e11, .val e12, .val e30, .val e31, .val e32, .val (.ref b25), .val (.int z0.2.2.2), .val (.int z1.2.2.2), .val (.int z3.2.2.2), .val (.int (1 : Int32)), .unset, .unset, .unset, .unset] [(.int (1 : Int32)), (.int (1 : Int32))])) τ → G τ := fun τ κ => pre τ (by
      refine XS.ifYes X32.here hx rfl (pc0 := 217) (pc' := 239) rfl (hb hby at_217) rfl ((if0 _ _).trans (feq hc46).2) (by decide) (by decide) ?_
      show Steps p.tables e below (T32.setTop (mkF m 239 #[.val (.int p1), .val (.int p2), .val (.int p3), .val (.int p4), .val (.int i1), .val (.int i2), .val (.int i3), .val (.ref r_4), .val (.ref r_5), .val (.ref r_6), .val (.ref b7), .val e00, .val e01, .val e02, .val e10, .val e11, .val e12, .val e30, .val e31, .val e32, .val (.ref b25), .val (.int z0.2.2.2), .val (.int z1.2.2.2), .val (.int z3.2.2.2), .val (.int (1 : Int32)), .unset, .unset, .unset, .unset] [])) τ
      refine XS.iload X32.here hx rfl (hb hby at_239) rfl ?_
      show Steps p.tables e below (T32.setTop (mkF m 241 #[.val (.int p1), .val (.int p2), .val (.int p3), .val (.int p4), .val (.int i1), .val (.int i2), .val (.int i3), .val (.ref r_4), .val (.ref r_5), .val (.ref r_6), .val (.ref b7), .val e00, .val e01, .val e02, .val e10, .val e11, .val e12, .val e30, .val e31, .val e32, .val (.ref b25), .val (.int z0.2.2.2), .val (.int z1.2.2.2), .val (.int z3.2.2.2), .val (.int (1 : Int32)), .unset, .unset, .unset, .unset] [(.int (1 : Int32))])) τ
      refine XS.iconst X32.here hx rfl (hb hby at_241) ?_
      show Steps p.tables e below (T32.setTop (mkF m 242 #[.val (.int p1), .val (.int p2), .val (.int p3), .val (.int p4), .val (.int i1), .val (.int i2), .val (.int i3), .val (.ref r_4), .val (.ref r_5), .val (.ref r_6), .val (.ref b7), .val e00, .val e01, .val e02, .val e10, .val e11, .val e12, .val e30, .val e31, .val e32, .val (.ref b25), .val (.int z0.2.2.2), .val (.int z1.2.2.2), .val (.int z3.2.2.2), .val (.int (1 : Int32)), .unset, .unset, .unset, .unset] [(.int (1 : Int32)), (.int (1 : Int32))])) τ
      exact κ)
    have hc47 : (1 : Int32) = (1 : Int32) := rfl
    have pre : ∀ τ, Steps p.tables e below (T32.setTop (mkF m 284 #[.val (.int p1), .val (.int p2), .val (.int p3), .val (.int p4), .val (.int i1), .val (.int i2), .val (.int i3), .val (.ref r_4), .val (.ref r_5), .val (.ref r_6), .val (.ref b7), .val e00, .val e01, .val e02, .val e10, .val e11, .val e12, .val e30, .val e31, .val e32, .val (.ref b25), .val (.int z0.2.2.2), .val (.int z1.2.2.2), .val (.int z3.2.2.2), .val (.int (1 : Int32)), .val (.int z1.2.2.2), .val e10, .val e11, .val e12] [(.int z1.2.2.2), (.ref b25)])) τ → G τ := fun τ κ => pre τ (by
      refine XS.icmpNo X32.here hx rfl (hb hby at_242) rfl (teq hc47).2 ?_
      show Steps p.tables e below (T32.setTop (mkF m 245 #[.val (.int p1), .val (.int p2), .val (.int p3), .val (.int p4), .val (.int i1), .val (.int i2), .val (.int i3), .val (.ref r_4), .val (.ref r_5), .val (.ref r_6), .val (.ref b7), .val e00, .val e01, .val e02, .val e10, .val e11, .val e12, .val e30, .val e31, .val e32, .val (.ref b25), .val (.int z0.2.2.2), .val (.int z1.2.2.2), .val (.int z3.2.2.2), .val (.int (1 : Int32)), .unset, .unset, .unset, .unset] [])) τ
      refine XS.iload X32.here hx rfl (hb hby at_245) rfl ?_
      show Steps p.tables e below (T32.setTop (mkF m 247 #[.val (.int p1), .val (.int p2), .val (.int p3), .val (.int p4), .val (.int i1), .val (.int i2), .val (.int i3), .val (.ref r_4), .val (.ref r_5), .val (.ref r_6), .val (.ref b7), .val e00, .val e01, .val e02, .val e10, .val e11, .val e12, .val e30, .val e31, .val e32, .val (.ref b25), .val (.int z0.2.2.2), .val (.int z1.2.2.2), .val (.int z3.2.2.2), .val (.int (1 : Int32)), .unset, .unset, .unset, .unset] [(.int z1.2.2.2)])) τ
      refine XS.istore X32.here hx rfl (hb hby at_247) rfl (l' := #[.val (.int p1), .val (.int p2), .val (.int p3), .val (.int p4), .val (.int i1), .val (.int i2), .val (.int i3), .val (.ref r_4), .val (.ref r_5), .val (.ref r_6), .val (.ref b7), .val e00, .val e01, .val e02, .val e10, .val e11, .val e12, .val e30, .val e31, .val e32, .val (.ref b25), .val (.int z0.2.2.2), .val (.int z1.2.2.2), .val (.int z3.2.2.2), .val (.int (1 : Int32)), .val (.int z1.2.2.2), .unset, .unset, .unset]) rfl ?_
      show Steps p.tables e below (T32.setTop (mkF m 249 #[.val (.int p1), .val (.int p2), .val (.int p3), .val (.int p4), .val (.int i1), .val (.int i2), .val (.int i3), .val (.ref r_4), .val (.ref r_5), .val (.ref r_6), .val (.ref b7), .val e00, .val e01, .val e02, .val e10, .val e11, .val e12, .val e30, .val e31, .val e32, .val (.ref b25), .val (.int z0.2.2.2), .val (.int z1.2.2.2), .val (.int z3.2.2.2), .val (.int (1 : Int32)), .val (.int z1.2.2.2), .unset, .unset, .unset] [])) τ
      refine XS.aload X32.here hx rfl (hb hby at_249) rfl (own_S_ref F_e10) ?_
      show Steps p.tables e below (T32.setTop (mkF m 251 #[.val (.int p1), .val (.int p2), .val (.int p3), .val (.int p4), .val (.int i1), .val (.int i2), .val (.int i3), .val (.ref r_4), .val (.ref r_5), .val (.ref r_6), .val (.ref b7), .val e00, .val e01, .val e02, .val e10, .val e11, .val e12, .val e30, .val e31, .val e32, .val (.ref b25), .val (.int z0.2.2.2), .val (.int z1.2.2.2), .val (.int z3.2.2.2), .val (.int (1 : Int32)), .val (.int z1.2.2.2), .unset, .unset, .unset] [e10])) τ
      refine XS.astore X32.here hx rfl (hb hby at_251) rfl (own_S_ref F_e10) (l' := #[.val (.int p1), .val (.int p2), .val (.int p3), .val (.int p4), .val (.int i1), .val (.int i2), .val (.int i3), .val (.ref r_4), .val (.ref r_5), .val (.ref r_6), .val (.ref b7), .val e00, .val e01, .val e02, .val e10, .val e11, .val e12, .val e30, .val e31, .val e32, .val (.ref b25), .val (.int z0.2.2.2), .val (.int z1.2.2.2), .val (.int z3.2.2.2), .val (.int (1 : Int32)), .val (.int z1.2.2.2), .val e10, .unset, .unset]) (XS.store1 rfl (Or.inl rfl) (own_cat (own_S_ref F_e10))) ?_
      show Steps p.tables e below (T32.setTop (mkF m 253 #[.val (.int p1), .val (.int p2), .val (.int p3), .val (.int p4), .val (.int i1), .val (.int i2), .val (.int i3), .val (.ref r_4), .val (.ref r_5), .val (.ref r_6), .val (.ref b7), .val e00, .val e01, .val e02, .val e10, .val e11, .val e12, .val e30, .val e31, .val e32, .val (.ref b25), .val (.int z0.2.2.2), .val (.int z1.2.2.2), .val (.int z3.2.2.2), .val (.int (1 : Int32)), .val (.int z1.2.2.2), .val e10, .unset, .unset] [])) τ
      refine XS.aload X32.here hx rfl (hb hby at_253) rfl (own_S_ref F_e11) ?_
      show Steps p.tables e below (T32.setTop (mkF m 255 #[.val (.int p1), .val (.int p2), .val (.int p3), .val (.int p4), .val (.int i1), .val (.int i2), .val (.int i3), .val (.ref r_4), .val (.ref r_5), .val (.ref r_6), .val (.ref b7), .val e00, .val e01, .val e02, .val e10, .val e11, .val e12, .val e30, .val e31, .val e32, .val (.ref b25), .val (.int z0.2.2.2), .val (.int z1.2.2.2), .val (.int z3.2.2.2), .val (.int (1 : Int32)), .val (.int z1.2.2.2), .val e10, .unset, .unset] [e11])) τ
      refine XS.astore X32.here hx rfl (hb hby at_255) rfl (own_S_ref F_e11) (l' := #[.val (.int p1), .val (.int p2), .val (.int p3), .val (.int p4), .val (.int i1), .val (.int i2), .val (.int i3), .val (.ref r_4), .val (.ref r_5), .val (.ref r_6), .val (.ref b7), .val e00, .val e01, .val e02, .val e10, .val e11, .val e12, .val e30, .val e31, .val e32, .val (.ref b25), .val (.int z0.2.2.2), .val (.int z1.2.2.2), .val (.int z3.2.2.2), .val (.int (1 : Int32)), .val (.int z1.2.2.2), .val e10, .val e11, .unset]) (XS.store1 rfl (Or.inl rfl) (own_cat (own_S_ref F_e11))) ?_
      show Steps p.tables e below (T32.setTop (mkF m 257 #[.val (.int p1), .val (.int p2), .val (.int p3), .val (.int p4), .val (.int i1), .val (.int i2), .val (.int i3), .val (.ref r_4), .val (.ref r_5), .val (.ref r_6), .val (.ref b7), .val e00, .val e01, .val e02, .val e10, .val e11, .val e12, .val e30, .val e31, .val e32, .val (.ref b25), .val (.int z0.2.2.2), .val (.int z1.2.2.2), .val (.int z3.2.2.2), .val (.int (1 : Int32)), .val (.int z1.2.2.2), .val e10, .val e11, .unset] [])) τ
      refine XS.aload X32.here hx rfl (hb hby at_257) rfl (own_S_ref F_e12) ?_
      show Steps p.tables e below (T32.setTop (mkF m 259 #[.val (.int p1), .val (.int p2), .val (.int p3), .val (.int p4), .val (.int i1), .val (.int i2), .val (.int i3), .val (.ref r_4), .val (.ref r_5), .val (.ref r_6), .val (.ref b7), .val e00, .val e01, .val e02, .val e10, .val e11, .val e12, .val e30, .val e31, .val e32, .val (.ref b25), .val (.int z0.2.2.2), .val (.int z1.2.2.2), .val (.int z3.2.2.2), .val (.int (1 : Int32)), .val (.int z1.2.2.2), .val e10, .val e11, .unset] [e12])) τ
      refine XS.astore X32.here hx rfl (hb hby at_259) rfl (own_S_ref F_e12) (l' := #[.val (.int p1), .val (.int p2), .val (.int p3), .val (.int p4), .val (.int i1), .val (.int i2), .val (.int i3), .val (.ref r_4), .val (.ref r_5), .val (.ref r_6), .val (.ref b7), .val e00, .val e01, .val e02, .val e10, .val e11, .val e12, .val e30, .val e31, .val e32, .val (.ref b25), .val (.int z0.2.2.2), .val (.int z1.2.2.2), .val (.int z3.2.2.2), .val (.int (1 : Int32)), .val (.int z1.2.2.2), .val e10, .val e11, .val e12]) (XS.store1 rfl (Or.inl rfl) (own_cat (own_S_ref F_e12))) ?_
      show Steps p.tables e below (T32.setTop (mkF m 261 #[.val (.int p1), .val (.int p2), .val (.int p3), .val (.int p4), .val (.int i1), .val (.int i2), .val (.int i3), .val (.ref r_4), .val (.ref r_5), .val (.ref r_6), .val (.ref b7), .val e00, .val e01, .val e02, .val e10, .val e11, .val e12, .val e30, .val e31, .val e32, .val (.ref b25), .val (.int z0.2.2.2), .val (.int z1.2.2.2), .val (.int z3.2.2.2), .val (.int (1 : Int32)), .val (.int z1.2.2.2), .val e10, .val e11, .val e12] [])) τ
      refine XS.goto X32.here hx rfl (pc0 := 261) (pc' := 280) rfl (hb hby at_261) (by decide) (by decide) ?_
      show Steps p.tables e below (T32.setTop (mkF m 280 #[.val (.int p1), .val (.int p2), .val (.int p3), .val (.int p4), .val (.int i1), .val (.int i2), .val (.int i3), .val (.ref r_4), .val (.ref r_5), .val (.ref r_6), .val (.ref b7), .val e00, .val e01, .val e02, .val e10, .val e11, .val e12, .val e30, .val e31, .val e32, .val (.ref b25), .val (.int z0.2.2.2), .val (.int z1.2.2.2), .val (.int z3.2.2.2), .val (.int (1 : Int32)), .val (.int z1.2.2.2), .val e10, .val e11, .val e12] [])) τ
      refine XS.aload X32.here hx rfl (hb hby at_280) rfl rfl ?_
      show Steps p.tables e below (T32.setTop (mkF m 282 #[.val (.int p1), .val (.int p2), .val (.int p3), .val (.int p4), .val (.int i1), .val (.int i2), .val (.int i3), .val (.ref r_4), .val (.ref r_5), .val (.ref r_6), .val (.ref b7), .val e00, .val e01, .val e02, .val e10, .val e11, .val e12, .val e30, .val e31, .val e32, .val (.ref b25), .val (.int z0.2.2.2), .val (.int z1.2.2.2), .val (.int z3.2.2.2), .val (.int (1 : Int32)), .val (.int z1.2.2.2), .val e10, .val e11, .val e12] [(.ref b25)])) τ
      refine XS.iload X32.here hx rfl (hb hby at_282) rfl ?_
      show Steps p.tables e below (T32.setTop (mkF m 284 #[.val (.int p1), .val (.int p2), .val (.int p3), .val (.int p4), .val (.int i1), .val (.int i2), .val (.int i3), .val (.ref r_4), .val (.ref r_5), .val (.ref r_6), .val (.ref b7), .val e00, .val e01, .val e02, .val e10, .val e11, .val e12, .val e30, .val e31, .val e32, .val (.ref b25), .val (.int z0.2.2.2), .val (.int z1.2.2.2), .val (.int z3.2.2.2), .val (.int (1 : Int32)), .val (.int z1.2.2.2), .val e10, .val e11, .val e12] [(.int z1.2.2.2), (.ref b25)])) τ
      exact κ)
    obtain ⟨cq48, kq48, q48a, q48b, q48c⟩ := isOf hZ hs32 E_b25
    obtain ⟨_, _, ⟨T48, Lx48, kx48, nx48⟩, -, X48, ⟨Lc48, hQ48, l48, y48, z48⟩, st48⟩ := X32.virtualBack hx (y := (⟨"coppice/marshal/context/NamespaceScope", "restore", "(I)V"⟩ : MethodName)) (z := (⟨"coppice/marshal/context/NamespaceScope", "restore", "(I)V"⟩ : MethodName)) hown (mvT hZ (hw _ (List.mem_of_getElem? (i := 81) rfl))) (mvT hZ (hw _ (List.mem_of_getElem? (i := 82) rfl))) (notFace_of_selects (args := #[]) (mvT hZ (hw _ (List.mem_of_getElem? (i := 84) rfl)))) (mvT hZ (hw _ (List.mem_of_getElem? (i := 84) rfl))) (mvT hZ (hw _ (List.mem_of_getElem? (i := 83) rfl))) (by decide) (backOf (W := 0) (rm13 l Z a0 hw [] b25 z1.2.2.2 un_26 up_26 pf_26 ku_26 kp_26 kf_26 (3 : Int32) z3.2.2.2 z3.2.1 upz_31 pfz_31 z3.2.2.1 z3.1 T31.heap n0 Zn g_b25 gn_up_26 gn_pf_26 E_b25 F_un F_up F_pf F_uc V_un V_up V_pf L_up L_pf O_up_26 O_pf_26 ne_b25_un_26 ne_b25_up_26 ne_b25_pf_26 ne_un__up_26 ne_un__pf_26 ne_up__pf_26 Iz1.1 (own_Xle (own_Xt Xz2 Xz3)) (Int.le_trans Iz3.2.1 (by decide)) hlp_31 hlf_31 Iz3.2.2.2.2.2) hZ (hw _ (List.mem_of_getElem? (i := 85) rfl)) (hw _ (List.mem_of_getElem? (i := 38) rfl)) (by decide) (by decide)) q48a q48c (g := (mkF m 284 #[.val (.int p1), .val (.int p2), .val (.int p3), .val (.int p4), .val (.int i1), .val (.int i2), .val (.int i3), .val (.ref r_4), .val (.ref r_5), .val (.ref r_6), .val (.ref b7), .val e00, .val e01, .val e02, .val e10, .val e11, .val e12, .val e30, .val e31, .val e32, .val (.ref b25), .val (.int z0.2.2.2), .val (.int z1.2.2.2), .val (.int z3.2.2.2), .val (.int (1 : Int32)), .val (.int z1.2.2.2), .val e10, .val e11, .val e12] [(.int z1.2.2.2), (.ref b25)])) rfl (by rw [hml]; rfl) (Steps.refl _) (argsL := [(.int z1.2.2.2)]) (rest := []) (lenOf pd_8 rfl) rfl (by show 2 * 0 + _ ≤ _; exact Nat.le_of_eq rfl) (hb hby at_284) (fun _ _ => ⟨rfl, hs32, (by decide : 19 + 0 ≤ _), (by decide : 130 + 0 ≤ _)⟩)
    dsimp only [Pt.U, Pt.locs, Pt.cells, Pt.slots] at X48 l48 y48 z48 st48 hQ48
    replace y48 : kx48 = 19 := y48
    replace z48 : nx48 = 130 := z48
    subst y48 z48
    obtain ⟨upz_48, pfz_48, rfl, Nq48, Kc48, E_o_48, F_un_48, F_up_48, F_pf_48, F_uc_48, V_un_48, V_up_48, V_pf_48, L_up_48, L_pf_48, hlp_48, hlf_48⟩ := hQ48
    have NN : Fr n0 Lx48 := by rw [l48]; exact Fr.app NN Nq48
    have Nss : ∀ x ∈ [b25, up_26, pf_26], own_ns Z T31.heap x := (allS (own_nsE E_b25 (hw _ (List.mem_of_getElem? (i := 37) rfl)) (by decide) (by decide)) (allS (own_nsV V_up (by decide)) (allS (own_nsV V_pf (by decide)) all0)))
    have hk := Nat.le_trans hk Kc48.1
    have HR := HR.trans (CHr.keep Kc48 (fun x hx => own_safe hZ.alike (Nss x hx)) H)
    have H := HR.1
    have S_c : Sta Z T48.heap "java/lang/String" "COMPACT_STRINGS" "Z" (.int cw) := own_sta_keepN S_c Kc48 Nss
    have F_r_4 : own_S Z T48.heap (.ref r_4) (some (own_pk ((p1.toUInt32 >>> ((8 : Int32) &&& 31).toUInt32).toInt32))) := own_S_keep F_r_4 Kc48 Nss
    have F_r_5 : own_S Z T48.heap (.ref r_5) (some (own_pk ((p2.toUInt32 >>> ((8 : Int32) &&& 31).toUInt32).toInt32))) := own_S_keep F_r_5 Kc48 Nss
    have F_r_6 : own_S Z T48.heap (.ref r_6) (some (own_pk ((p3.toUInt32 >>> ((8 : Int32) &&& 31).toUInt32).toInt32))) := own_S_keep F_r_6 Kc48 Nss
    have F_s8 : own_S Z T48.heap (.ref as8) (some []) := own_S_keep F_s8 Kc48 Nss
    have F_s10 : own_S Z T48.heap (.ref as10) (some [(.int (120 : Int32)), (.int (109 : Int32)), (.int (108 : Int32))]) := own_S_keep F_s10 Kc48 Nss
    have L_st : own_SL Z T48.heap sv3 so3 := own_SL_keep L_st Kc48 Nss
    have F_ld13 : own_S Z T48.heap (sv0.getD ((0 : Int32)).toNatClampNeg .null) (so0.getD ((0 : Int32)).toNatClampNeg none) := own_S_keep F_ld13 Kc48 Nss
    have F_e00 : own_S Z T48.heap e00 (so0.getD ((0 : Int32)).toNatClampNeg none) := own_S_keep F_e00 Kc48 Nss
    have F_ld14 : own_S Z T48.heap (sv0.getD ((1 : Int32)).toNatClampNeg .null) (so0.getD ((1 : Int32)).toNatClampNeg none) := own_S_keep F_ld14 Kc48 Nss
    have F_e01 : own_S Z T48.heap e01 (so0.getD ((1 : Int32)).toNatClampNeg none) := own_S_keep F_e01 Kc48 Nss
    have F_ld15 : own_S Z T48.heap (sv0.getD ((2 : Int32)).toNatClampNeg .null) (so0.getD ((2 : Int32)).toNatClampNeg none) := own_S_keep F_ld15 Kc48 Nss
    have F_e02 : own_S Z T48.heap e02 (so0.getD ((2 : Int32)).toNatClampNeg none) := own_S_keep F_e02 Kc48 Nss
    have F_ld17 : own_S Z T48.heap (sv1.getD ((0 : Int32)).toNatClampNeg .null) (so1.getD ((0 : Int32)).toNatClampNeg none) := own_S_keep F_ld17 Kc48 Nss
    have F_e10 : own_S Z T48.heap e10 (so1.getD ((0 : Int32)).toNatClampNeg none) := own_S_keep F_e10 Kc48 Nss
    have F_ld18 : own_S Z T48.heap (sv1.getD ((1 : Int32)).toNatClampNeg .null) (so1.getD ((1 : Int32)).toNatClampNeg none) := own_S_keep F_ld18 Kc48 Nss
    have F_e11 : own_S Z T48.heap e11 (so1.getD ((1 : Int32)).toNatClampNeg none) := own_S_keep F_e11 Kc48 Nss
    have F_ld19 : own_S Z T48.heap (sv1.getD ((2 : Int32)).toNatClampNeg .null) (so1.getD ((2 : Int32)).toNatClampNeg none) := own_S_keep F_ld19 Kc48 Nss
    have F_e12 : own_S Z T48.heap e12 (so1.getD ((2 : Int32)).toNatClampNeg none) := own_S_keep F_e12 Kc48 Nss
    have V_st : Arv Z T48.heap b7 k7 (.object "java/lang/String") (3 : Int32) sv3 .null := V_st.keep Kc48 (ninS ne_b7_b25 (ninS ne_b7_up_26 (ninS ne_b7_pf_26 nin0)))
    have F_ld22 : own_S Z T48.heap (sv3.getD ((0 : Int32)).toNatClampNeg .null) (so3.getD ((0 : Int32)).toNatClampNeg none) := own_S_keep F_ld22 Kc48 Nss
    have F_e30 : own_S Z T48.heap e30 (so3.getD ((0 : Int32)).toNatClampNeg none) := own_S_keep F_e30 Kc48 Nss
    have F_ld23 : own_S Z T48.heap (sv3.getD ((1 : Int32)).toNatClampNeg .null) (so3.getD ((1 : Int32)).toNatClampNeg none) := own_S_keep F_ld23 Kc48 Nss
    have F_e31 : own_S Z T48.heap e31 (so3.getD ((1 : Int32)).toNatClampNeg none) := own_S_keep F_e31 Kc48 Nss
    have F_ld24 : own_S Z T48.heap (sv3.getD ((2 : Int32)).toNatClampNeg .null) (so3.getD ((2 : Int32)).toNatClampNeg none) := own_S_keep F_ld24 Kc48 Nss
    have F_e32 : own_S Z T48.heap e32 (so3.getD ((2 : Int32)).toNatClampNeg none) := own_S_keep F_e32 Kc48 Nss
    have E_b25 : Exa Z T48.heap b25 "coppice/marshal/context/NamespaceScope" := E_b25.keep Kc48
    have E_o : Exa Z T48.heap b25 "coppice/marshal/context/NamespaceScope" := E_o.keep Kc48
    have V_un : Arv Z T48.heap un_26 ku_26 .int (16 : Int32) z3.2.1 (.int (0 : Int32)) := V_un.keep Kc48 (ninS (Ne.symm ne_b25_un_26) (ninS ne_un__up_26 (ninS ne_un__pf_26 nin0)))
    have L_up : own_SL Z T48.heap upz_31 z3.2.2.1 := own_SL_keep L_up Kc48 Nss
    have L_pf : own_SL Z T48.heap pfz_31 z3.1 := own_SL_keep L_pf Kc48 Nss
    have Zn : n0 ≤ T48.heap.size := Nat.le_trans Zn Kc48.1
    have pre : ∀ τ, Steps p.tables e below (T48.setTop (mkF m 287 #[.val (.int p1), .val (.int p2), .val (.int p3), .val (.int p4), .val (.int i1), .val (.int i2), .val (.int i3), .val (.ref r_4), .val (.ref r_5), .val (.ref r_6), .val (.ref b7), .val e00, .val e01, .val e02, .val e10, .val e11, .val e12, .val e30, .val e31, .val e32, .val (.ref b25), .val (.int z0.2.2.2), .val (.int z1.2.2.2), .val (.int z3.2.2.2), .val (.int (1 : Int32)), .val (.int z1.2.2.2), .val e10, .val e11, .val e12] [])) τ → G τ := fun τ κ => pre τ (st48.trans κ)
    have hfin : (own_rs z3.2.1 (z3.2.2.2.toInt - z1.2.2.2.toInt).toNat z3.2.2.2 (z3.1, z3.2.2.1)).1 = z1.1 := own_und (own_Xt Xz2 Xz3) Iz1.1
    have pre : ∀ τ, Steps p.tables e below (T48.setTop (mkF m 289 #[.val (.int p1), .val (.int p2), .val (.int p3), .val (.int p4), .val (.int i1), .val (.int i2), .val (.int i3), .val (.ref r_4), .val (.ref r_5), .val (.ref r_6), .val (.ref b7), .val e00, .val e01, .val e02, .val e10, .val e11, .val e12, .val e30, .val e31, .val e32, .val (.ref b25), .val (.int z0.2.2.2), .val (.int z1.2.2.2), .val (.int z3.2.2.2), .val (.int (1 : Int32)), .val (.int z1.2.2.2), .val e10, .val e11, .val e12] [(.ref b25)])) τ → G τ := fun τ κ => pre τ (by
      refine XS.aload X48.here hx rfl (hb hby at_287) rfl rfl ?_
      show Steps p.tables e below (T48.setTop (mkF m 289 #[.val (.int p1), .val (.int p2), .val (.int p3), .val (.int p4), .val (.int i1), .val (.int i2), .val (.int i3), .val (.ref r_4), .val (.ref r_5), .val (.ref r_6), .val (.ref b7), .val e00, .val e01, .val e02, .val e10, .val e11, .val e12, .val e30, .val e31, .val e32, .val (.ref b25), .val (.int z0.2.2.2), .val (.int z1.2.2.2), .val (.int z3.2.2.2), .val (.int (1 : Int32)), .val (.int z1.2.2.2), .val e10, .val e11, .val e12] [(.ref b25)])) τ
      exact κ)
    obtain ⟨cq49, kq49, q49a, q49b, q49c⟩ := isOf hZ rfl E_b25
    obtain ⟨_, _, ⟨T49, Lx49, kx49, nx49⟩, -, X49, ⟨Lc49, hQ49, l49, y49, z49⟩, st49⟩ := X48.virtualBack hx (y := (⟨"coppice/marshal/context/NamespaceScope", "mark", "()I"⟩ : MethodName)) (z := (⟨"coppice/marshal/context/NamespaceScope", "mark", "()I"⟩ : MethodName)) hown (mvT hZ (hw _ (List.mem_of_getElem? (i := 66) rfl))) (mvT hZ (hw _ (List.mem_of_getElem? (i := 67) rfl))) (notFace_of_selects (args := #[]) (mvT hZ (hw _ (List.mem_of_getElem? (i := 69) rfl)))) (mvT hZ (hw _ (List.mem_of_getElem? (i := 69) rfl))) (mvT hZ (hw _ (List.mem_of_getElem? (i := 68) rfl))) (by decide) (backOf (W := 0) (rm10 l Z a0 hw [] b25 z1.2.2.2 T48.heap n0 Zn F_uc_48) hZ (hw _ (List.mem_of_getElem? (i := 70) rfl)) (hw _ (List.mem_of_getElem? (i := 38) rfl)) (by decide) (by decide)) q49a q49c (g := (mkF m 289 #[.val (.int p1), .val (.int p2), .val (.int p3), .val (.int p4), .val (.int i1), .val (.int i2), .val (.int i3), .val (.ref r_4), .val (.ref r_5), .val (.ref r_6), .val (.ref b7), .val e00, .val e01, .val e02, .val e10, .val e11, .val e12, .val e30, .val e31, .val e32, .val (.ref b25), .val (.int z0.2.2.2), .val (.int z1.2.2.2), .val (.int z3.2.2.2), .val (.int (1 : Int32)), .val (.int z1.2.2.2), .val e10, .val e11, .val e12] [(.ref b25)])) rfl (by rw [hml]; rfl) (Steps.refl _) (argsL := []) (rest := []) (lenOf pd_9 rfl) rfl (by show 2 * 0 + _ ≤ _; exact Nat.le_of_eq rfl) (hb hby at_289) (fun _ _ => ⟨rfl, rfl, (by decide : 19 + 0 ≤ _), (by decide : 130 + 0 ≤ _)⟩)
    dsimp only [Pt.U, Pt.locs, Pt.cells, Pt.slots] at X49 l49 y49 z49 st49 hQ49
    replace y49 : kx49 = 19 := y49
    replace z49 : nx49 = 130 := z49
    subst y49 z49
    obtain ⟨rfl, Nq49, hs49⟩ := hQ49
    have NN : Fr n0 Lx49 := by rw [l49]; exact Fr.app NN Nq49
    have pre : ∀ τ, Steps p.tables e below (T49.setTop (mkF m 292 #[.val (.int p1), .val (.int p2), .val (.int p3), .val (.int p4), .val (.int i1), .val (.int i2), .val (.int i3), .val (.ref r_4), .val (.ref r_5), .val (.ref r_6), .val (.ref b7), .val e00, .val e01, .val e02, .val e10, .val e11, .val e12, .val e30, .val e31, .val e32, .val (.ref b25), .val (.int z0.2.2.2), .val (.int z1.2.2.2), .val (.int z3.2.2.2), .val (.int (1 : Int32)), .val (.int z1.2.2.2), .val e10, .val e11, .val e12] [(.int z1.2.2.2)])) τ → G τ := fun τ κ => pre τ (st49.trans κ)
    have pre : ∀ τ, Steps p.tables e below (T49.setTop (mkF m 294 #[.val (.int p1), .val (.int p2), .val (.int p3), .val (.int p4), .val (.int i1), .val (.int i2), .val (.int i3), .val (.ref r_4), .val (.ref r_5), .val (.ref r_6), .val (.ref b7), .val e00, .val e01, .val e02, .val e10, .val e11, .val e12, .val e30, .val e31, .val e32, .val (.ref b25), .val (.int z0.2.2.2), .val (.int z1.2.2.2), .val (.int z3.2.2.2), .val (.int (1 : Int32)), .val (.int z1.2.2.2), .val e10, .val e11, .val e12] [(.int z1.2.2.2), (.int z1.2.2.2)])) τ → G τ := fun τ κ => pre τ (by
      refine XS.iload X49.here hx rfl (hb hby at_292) rfl ?_
      show Steps p.tables e below (T49.setTop (mkF m 294 #[.val (.int p1), .val (.int p2), .val (.int p3), .val (.int p4), .val (.int i1), .val (.int i2), .val (.int i3), .val (.ref r_4), .val (.ref r_5), .val (.ref r_6), .val (.ref b7), .val e00, .val e01, .val e02, .val e10, .val e11, .val e12, .val e30, .val e31, .val e32, .val (.ref b25), .val (.int z0.2.2.2), .val (.int z1.2.2.2), .val (.int z3.2.2.2), .val (.int (1 : Int32)), .val (.int z1.2.2.2), .val e10, .val e11, .val e12] [(.int z1.2.2.2), (.int z1.2.2.2)])) τ
      exact κ)
    have hc50 : z1.2.2.2 = z1.2.2.2 := rfl
    have pre : ∀ τ, Steps p.tables e below (T49.setTop (mkF m 300 #[.val (.int p1), .val (.int p2), .val (.int p3), .val (.int p4), .val (.int i1), .val (.int i2), .val (.int i3), .val (.ref r_4), .val (.ref r_5), .val (.ref r_6), .val (.ref b7), .val e00, .val e01, .val e02, .val e10, .val e11, .val e12, .val e30, .val e31, .val e32, .val (.ref b25), .val (.int z0.2.2.2), .val (.int z1.2.2.2), .val (.int z3.2.2.2), .val (.int (1 : Int32)), .val (.int z1.2.2.2), .val e10, .val e11, .val e12] [(.int (0 : Int32)), (.ref b25)])) τ → G τ := fun τ κ => pre τ (by
      refine XS.icmpNo X49.here hx rfl (hb hby at_294) rfl (teq hc50).2 ?_
      show Steps p.tables e below (T49.setTop (mkF m 297 #[.val (.int p1), .val (.int p2), .val (.int p3), .val (.int p4), .val (.int i1), .val (.int i2), .val (.int i3), .val (.ref r_4), .val (.ref r_5), .val (.ref r_6), .val (.ref b7), .val e00, .val e01, .val e02, .val e10, .val e11, .val e12, .val e30, .val e31, .val e32, .val (.ref b25), .val (.int z0.2.2.2), .val (.int z1.2.2.2), .val (.int z3.2.2.2), .val (.int (1 : Int32)), .val (.int z1.2.2.2), .val e10, .val e11, .val e12] [])) τ
      refine XS.aload X49.here hx rfl (hb hby at_297) rfl rfl ?_
      show Steps p.tables e below (T49.setTop (mkF m 299 #[.val (.int p1), .val (.int p2), .val (.int p3), .val (.int p4), .val (.int i1), .val (.int i2), .val (.int i3), .val (.ref r_4), .val (.ref r_5), .val (.ref r_6), .val (.ref b7), .val e00, .val e01, .val e02, .val e10, .val e11, .val e12, .val e30, .val e31, .val e32, .val (.ref b25), .val (.int z0.2.2.2), .val (.int z1.2.2.2), .val (.int z3.2.2.2), .val (.int (1 : Int32)), .val (.int z1.2.2.2), .val e10, .val e11, .val e12] [(.ref b25)])) τ
      refine XS.iconst X49.here hx rfl (hb hby at_299) ?_
      show Steps p.tables e below (T49.setTop (mkF m 300 #[.val (.int p1), .val (.int p2), .val (.int p3), .val (.int p4), .val (.int i1), .val (.int i2), .val (.int i3), .val (.ref r_4), .val (.ref r_5), .val (.ref r_6), .val (.ref b7), .val e00, .val e01, .val e02, .val e10, .val e11, .val e12, .val e30, .val e31, .val e32, .val (.ref b25), .val (.int z0.2.2.2), .val (.int z1.2.2.2), .val (.int z3.2.2.2), .val (.int (1 : Int32)), .val (.int z1.2.2.2), .val e10, .val e11, .val e12] [(.int (0 : Int32)), (.ref b25)])) τ
      exact κ)
    obtain ⟨cq51, kq51, q51a, q51b, q51c⟩ := isOf hZ hs49 E_b25
    obtain ⟨_, _, ⟨T51, Lx51, kx51, nx51⟩, -, X51, ⟨Lc51, hQ51, l51, y51, z51⟩, st51⟩ := X49.virtualBack hx (y := (⟨"coppice/marshal/context/NamespaceScope", "prefix", "(I)Ljava/lang/String;"⟩ : MethodName)) (z := (⟨"coppice/marshal/context/NamespaceScope", "prefix", "(I)Ljava/lang/String;"⟩ : MethodName)) hown (mvT hZ (hw _ (List.mem_of_getElem? (i := 86) rfl))) (mvT hZ (hw _ (List.mem_of_getElem? (i := 87) rfl))) (notFace_of_selects (args := #[]) (mvT hZ (hw _ (List.mem_of_getElem? (i := 89) rfl)))) (mvT hZ (hw _ (List.mem_of_getElem? (i := 89) rfl))) (mvT hZ (hw _ (List.mem_of_getElem? (i := 88) rfl))) (by decide) (backOf (W := 0) (rm14 l Z a0 hw [] b25 (0 : Int32) pf_26 kf_26 (3 : Int32) pfz_48 ((own_rs z3.2.1 (z3.2.2.2.toInt - z1.2.2.2.toInt).toNat z3.2.2.2 (z3.1, z3.2.2.1)).1) T48.heap n0 Zn F_pf_48 V_pf_48 L_pf_48 ⟨by decide, by decide⟩) hZ (hw _ (List.mem_of_getElem? (i := 90) rfl)) (hw _ (List.mem_of_getElem? (i := 38) rfl)) (by decide) (by decide)) q51a q51c (g := (mkF m 300 #[.val (.int p1), .val (.int p2), .val (.int p3), .val (.int p4), .val (.int i1), .val (.int i2), .val (.int i3), .val (.ref r_4), .val (.ref r_5), .val (.ref r_6), .val (.ref b7), .val e00, .val e01, .val e02, .val e10, .val e11, .val e12, .val e30, .val e31, .val e32, .val (.ref b25), .val (.int z0.2.2.2), .val (.int z1.2.2.2), .val (.int z3.2.2.2), .val (.int (1 : Int32)), .val (.int z1.2.2.2), .val e10, .val e11, .val e12] [(.int (0 : Int32)), (.ref b25)])) rfl (by rw [hml]; rfl) (Steps.refl _) (argsL := [(.int (0 : Int32))]) (rest := []) (lenOf pd_6 rfl) rfl (by show 2 * 0 + _ ≤ _; exact Nat.le_of_eq rfl) (hb hby at_300) (fun _ _ => ⟨rfl, hs49, (by decide : 19 + 0 ≤ _), (by decide : 130 + 0 ≤ _)⟩)
    dsimp only [Pt.U, Pt.locs, Pt.cells, Pt.slots] at X51 l51 y51 z51 st51 hQ51
    replace y51 : kx51 = 19 := y51
    replace z51 : nx51 = 130 := z51
    subst y51 z51
    obtain ⟨rfl, Nq51, hs51, F_r_51⟩ := hQ51
    have NN : Fr n0 Lx51 := by rw [l51]; exact Fr.app NN Nq51
    have F_r_51 : own_S Z T48.heap (pfz_48.getD ((0 : Int32)).toNatClampNeg .null) (((own_rs z3.2.1 (z3.2.2.2.toInt - z1.2.2.2.toInt).toNat z3.2.2.2 (z3.1, z3.2.2.1)).1).getD ((0 : Int32)).toNatClampNeg none) := hs51 ▸ F_r_51
    have pre : ∀ τ, Steps p.tables e below (T51.setTop (mkF m 303 #[.val (.int p1), .val (.int p2), .val (.int p3), .val (.int p4), .val (.int i1), .val (.int i2), .val (.int i3), .val (.ref r_4), .val (.ref r_5), .val (.ref r_6), .val (.ref b7), .val e00, .val e01, .val e02, .val e10, .val e11, .val e12, .val e30, .val e31, .val e32, .val (.ref b25), .val (.int z0.2.2.2), .val (.int z1.2.2.2), .val (.int z3.2.2.2), .val (.int (1 : Int32)), .val (.int z1.2.2.2), .val e10, .val e11, .val e12] [(pfz_48.getD ((0 : Int32)).toNatClampNeg .null)])) τ → G τ := fun τ κ => pre τ (st51.trans κ)
    have pre : ∀ τ, Steps p.tables e below (T51.setTop (mkF m 305 #[.val (.int p1), .val (.int p2), .val (.int p3), .val (.int p4), .val (.int i1), .val (.int i2), .val (.int i3), .val (.ref r_4), .val (.ref r_5), .val (.ref r_6), .val (.ref b7), .val e00, .val e01, .val e02, .val e10, .val e11, .val e12, .val e30, .val e31, .val e32, .val (.ref b25), .val (.int z0.2.2.2), .val (.int z1.2.2.2), .val (.int z3.2.2.2), .val (.int (1 : Int32)), .val (.int z1.2.2.2), .val e10, .val e11, .val e12] [e10, (pfz_48.getD ((0 : Int32)).toNatClampNeg .null)])) τ → G τ := fun τ κ => pre τ (by
      refine XS.aload X51.here hx rfl (hb hby at_303) rfl (own_S_ref F_e10) ?_
      show Steps p.tables e below (T51.setTop (mkF m 305 #[.val (.int p1), .val (.int p2), .val (.int p3), .val (.int p4), .val (.int i1), .val (.int i2), .val (.int i3), .val (.ref r_4), .val (.ref r_5), .val (.ref r_6), .val (.ref b7), .val e00, .val e01, .val e02, .val e10, .val e11, .val e12, .val e30, .val e31, .val e32, .val (.ref b25), .val (.int z0.2.2.2), .val (.int z1.2.2.2), .val (.int z3.2.2.2), .val (.int (1 : Int32)), .val (.int z1.2.2.2), .val e10, .val e11, .val e12] [e10, (pfz_48.getD ((0 : Int32)).toNatClampNeg .null)])) τ
      exact κ)
    obtain ⟨_, _, ⟨T52, Lx52, kx52, nx52⟩, -, X52, ⟨Lc52, hQ52, l52, y52, z52⟩, st52⟩ := Jvm.LawKit.callS X51 hx (y := (⟨"coppice/marshal/context/NamespaceScopeRestorePinLaw", "eq", "(Ljava/lang/String;Ljava/lang/String;)Z"⟩ : MethodName)) hown (mvT hZ (hw _ (List.mem_of_getElem? (i := 91) rfl))) (mvT hZ (hw _ (List.mem_of_getElem? (i := 92) rfl))) (mvT hZ (hw _ (List.mem_of_getElem? (i := 2) rfl))) (mvT hZ (hw _ (List.mem_of_getElem? (i := 93) rfl))) (by decide) (backOf (W := 0) (rm15 l Z a0 hw [] (pfz_48.getD ((0 : Int32)).toNatClampNeg .null) e10 (((own_rs z3.2.1 (z3.2.2.2.toInt - z1.2.2.2.toInt).toNat z3.2.2.2 (z3.1, z3.2.2.1)).1).getD ((0 : Int32)).toNatClampNeg none) (so1.getD ((0 : Int32)).toNatClampNeg none) cw T48.heap n0 Zn F_r_51 F_e10 S_c hcw) hZ (hw _ (List.mem_of_getElem? (i := 93) rfl)) (hw _ (List.mem_of_getElem? (i := 2) rfl)) (by decide) (by decide)) (g := (mkF m 305 #[.val (.int p1), .val (.int p2), .val (.int p3), .val (.int p4), .val (.int i1), .val (.int i2), .val (.int i3), .val (.ref r_4), .val (.ref r_5), .val (.ref r_6), .val (.ref b7), .val e00, .val e01, .val e02, .val e10, .val e11, .val e12, .val e30, .val e31, .val e32, .val (.ref b25), .val (.int z0.2.2.2), .val (.int z1.2.2.2), .val (.int z3.2.2.2), .val (.int (1 : Int32)), .val (.int z1.2.2.2), .val e10, .val e11, .val e12] [e10, (pfz_48.getD ((0 : Int32)).toNatClampNeg .null)])) rfl (by rw [hml]; rfl) (argsL := [(pfz_48.getD ((0 : Int32)).toNatClampNeg .null), e10]) (rest := []) (lenOf pd_10 rfl) rfl (by show 2 * 0 + _ ≤ _; exact Nat.le_of_eq rfl) (hb hby at_305) (fun _ _ => ⟨rfl, hs51, (by decide : 19 + 0 ≤ _), (by decide : 130 + 0 ≤ _)⟩)
    dsimp only [Pt.U, Pt.locs, Pt.cells, Pt.slots] at X52 l52 y52 z52 st52 hQ52
    replace y52 : kx52 = 19 := y52
    replace z52 : nx52 = 130 := z52
    subst y52 z52
    obtain ⟨rfl, Nq52, hs52⟩ := hQ52
    have NN : Fr n0 Lx52 := by rw [l52]; exact Fr.app NN Nq52
    have pre : ∀ τ, Steps p.tables e below (T52.setTop (mkF m 308 #[.val (.int p1), .val (.int p2), .val (.int p3), .val (.int p4), .val (.int i1), .val (.int i2), .val (.int i3), .val (.ref r_4), .val (.ref r_5), .val (.ref r_6), .val (.ref b7), .val e00, .val e01, .val e02, .val e10, .val e11, .val e12, .val e30, .val e31, .val e32, .val (.ref b25), .val (.int z0.2.2.2), .val (.int z1.2.2.2), .val (.int z3.2.2.2), .val (.int (1 : Int32)), .val (.int z1.2.2.2), .val e10, .val e11, .val e12] [(.int (own_eqo (((own_rs z3.2.1 (z3.2.2.2.toInt - z1.2.2.2.toInt).toNat z3.2.2.2 (z3.1, z3.2.2.1)).1).getD ((0 : Int32)).toNatClampNeg none) (so1.getD ((0 : Int32)).toNatClampNeg none)))])) τ → G τ := fun τ κ => pre τ (st52 τ κ)
    have hc53 : ¬ ((own_eqo (((own_rs z3.2.1 (z3.2.2.2.toInt - z1.2.2.2.toInt).toNat z3.2.2.2 (z3.1, z3.2.2.1)).1).getD ((0 : Int32)).toNatClampNeg none) (so1.getD ((0 : Int32)).toNatClampNeg none)) = (0 : Int32)) := (by rw [hfin, hz1s]; exact own_eqo1 _)
    have pre : ∀ τ, Steps p.tables e below (T52.setTop (mkF m 314 #[.val (.int p1), .val (.int p2), .val (.int p3), .val (.int p4), .val (.int i1), .val (.int i2), .val (.int i3), .val (.ref r_4), .val (.ref r_5), .val (.ref r_6), .val (.ref b7), .val e00, .val e01, .val e02, .val e10, .val e11, .val e12, .val e30, .val e31, .val e32, .val (.ref b25), .val (.int z0.2.2.2), .val (.int z1.2.2.2), .val (.int z3.2.2.2), .val (.int (1 : Int32)), .val (.int z1.2.2.2), .val e10, .val e11, .val e12] [(.int (1 : Int32)), (.ref b25)])) τ → G τ := fun τ κ => pre τ (by
      refine XS.ifNo X52.here hx rfl (hb hby at_308) rfl ((if0 _ _).trans (feq hc53).1) ?_
      show Steps p.tables e below (T52.setTop (mkF m 311 #[.val (.int p1), .val (.int p2), .val (.int p3), .val (.int p4), .val (.int i1), .val (.int i2), .val (.int i3), .val (.ref r_4), .val (.ref r_5), .val (.ref r_6), .val (.ref b7), .val e00, .val e01, .val e02, .val e10, .val e11, .val e12, .val e30, .val e31, .val e32, .val (.ref b25), .val (.int z0.2.2.2), .val (.int z1.2.2.2), .val (.int z3.2.2.2), .val (.int (1 : Int32)), .val (.int z1.2.2.2), .val e10, .val e11, .val e12] [])) τ
      refine XS.aload X52.here hx rfl (hb hby at_311) rfl rfl ?_
      show Steps p.tables e below (T52.setTop (mkF m 313 #[.val (.int p1), .val (.int p2), .val (.int p3), .val (.int p4), .val (.int i1), .val (.int i2), .val (.int i3), .val (.ref r_4), .val (.ref r_5), .val (.ref r_6), .val (.ref b7), .val e00, .val e01, .val e02, .val e10, .val e11, .val e12, .val e30, .val e31, .val e32, .val (.ref b25), .val (.int z0.2.2.2), .val (.int z1.2.2.2), .val (.int z3.2.2.2), .val (.int (1 : Int32)), .val (.int z1.2.2.2), .val e10, .val e11, .val e12] [(.ref b25)])) τ
      refine XS.iconst X52.here hx rfl (hb hby at_313) ?_
      show Steps p.tables e below (T52.setTop (mkF m 314 #[.val (.int p1), .val (.int p2), .val (.int p3), .val (.int p4), .val (.int i1), .val (.int i2), .val (.int i3), .val (.ref r_4), .val (.ref r_5), .val (.ref r_6), .val (.ref b7), .val e00, .val e01, .val e02, .val e10, .val e11, .val e12, .val e30, .val e31, .val e32, .val (.ref b25), .val (.int z0.2.2.2), .val (.int z1.2.2.2), .val (.int z3.2.2.2), .val (.int (1 : Int32)), .val (.int z1.2.2.2), .val e10, .val e11, .val e12] [(.int (1 : Int32)), (.ref b25)])) τ
      exact κ)
    obtain ⟨cq54, kq54, q54a, q54b, q54c⟩ := isOf hZ hs52 E_b25
    obtain ⟨_, _, ⟨T54, Lx54, kx54, nx54⟩, -, X54, ⟨Lc54, hQ54, l54, y54, z54⟩, st54⟩ := X52.virtualBack hx (y := (⟨"coppice/marshal/context/NamespaceScope", "prefix", "(I)Ljava/lang/String;"⟩ : MethodName)) (z := (⟨"coppice/marshal/context/NamespaceScope", "prefix", "(I)Ljava/lang/String;"⟩ : MethodName)) hown (mvT hZ (hw _ (List.mem_of_getElem? (i := 86) rfl))) (mvT hZ (hw _ (List.mem_of_getElem? (i := 87) rfl))) (notFace_of_selects (args := #[]) (mvT hZ (hw _ (List.mem_of_getElem? (i := 89) rfl)))) (mvT hZ (hw _ (List.mem_of_getElem? (i := 89) rfl))) (mvT hZ (hw _ (List.mem_of_getElem? (i := 88) rfl))) (by decide) (backOf (W := 0) (rm14 l Z a0 hw [] b25 (1 : Int32) pf_26 kf_26 (3 : Int32) pfz_48 ((own_rs z3.2.1 (z3.2.2.2.toInt - z1.2.2.2.toInt).toNat z3.2.2.2 (z3.1, z3.2.2.1)).1) T48.heap n0 Zn F_pf_48 V_pf_48 L_pf_48 ⟨by decide, by decide⟩) hZ (hw _ (List.mem_of_getElem? (i := 90) rfl)) (hw _ (List.mem_of_getElem? (i := 38) rfl)) (by decide) (by decide)) q54a q54c (g := (mkF m 314 #[.val (.int p1), .val (.int p2), .val (.int p3), .val (.int p4), .val (.int i1), .val (.int i2), .val (.int i3), .val (.ref r_4), .val (.ref r_5), .val (.ref r_6), .val (.ref b7), .val e00, .val e01, .val e02, .val e10, .val e11, .val e12, .val e30, .val e31, .val e32, .val (.ref b25), .val (.int z0.2.2.2), .val (.int z1.2.2.2), .val (.int z3.2.2.2), .val (.int (1 : Int32)), .val (.int z1.2.2.2), .val e10, .val e11, .val e12] [(.int (1 : Int32)), (.ref b25)])) rfl (by rw [hml]; rfl) (Steps.refl _) (argsL := [(.int (1 : Int32))]) (rest := []) (lenOf pd_6 rfl) rfl (by show 2 * 0 + _ ≤ _; exact Nat.le_of_eq rfl) (hb hby at_314) (fun _ _ => ⟨rfl, hs52, (by decide : 19 + 0 ≤ _), (by decide : 130 + 0 ≤ _)⟩)
    dsimp only [Pt.U, Pt.locs, Pt.cells, Pt.slots] at X54 l54 y54 z54 st54 hQ54
    replace y54 : kx54 = 19 := y54
    replace z54 : nx54 = 130 := z54
    subst y54 z54
    obtain ⟨rfl, Nq54, hs54, F_r_54⟩ := hQ54
    have NN : Fr n0 Lx54 := by rw [l54]; exact Fr.app NN Nq54
    have F_r_54 : own_S Z T48.heap (pfz_48.getD ((1 : Int32)).toNatClampNeg .null) (((own_rs z3.2.1 (z3.2.2.2.toInt - z1.2.2.2.toInt).toNat z3.2.2.2 (z3.1, z3.2.2.1)).1).getD ((1 : Int32)).toNatClampNeg none) := hs54 ▸ F_r_54
    have pre : ∀ τ, Steps p.tables e below (T54.setTop (mkF m 317 #[.val (.int p1), .val (.int p2), .val (.int p3), .val (.int p4), .val (.int i1), .val (.int i2), .val (.int i3), .val (.ref r_4), .val (.ref r_5), .val (.ref r_6), .val (.ref b7), .val e00, .val e01, .val e02, .val e10, .val e11, .val e12, .val e30, .val e31, .val e32, .val (.ref b25), .val (.int z0.2.2.2), .val (.int z1.2.2.2), .val (.int z3.2.2.2), .val (.int (1 : Int32)), .val (.int z1.2.2.2), .val e10, .val e11, .val e12] [(pfz_48.getD ((1 : Int32)).toNatClampNeg .null)])) τ → G τ := fun τ κ => pre τ (st54.trans κ)
    have pre : ∀ τ, Steps p.tables e below (T54.setTop (mkF m 319 #[.val (.int p1), .val (.int p2), .val (.int p3), .val (.int p4), .val (.int i1), .val (.int i2), .val (.int i3), .val (.ref r_4), .val (.ref r_5), .val (.ref r_6), .val (.ref b7), .val e00, .val e01, .val e02, .val e10, .val e11, .val e12, .val e30, .val e31, .val e32, .val (.ref b25), .val (.int z0.2.2.2), .val (.int z1.2.2.2), .val (.int z3.2.2.2), .val (.int (1 : Int32)), .val (.int z1.2.2.2), .val e10, .val e11, .val e12] [e11, (pfz_48.getD ((1 : Int32)).toNatClampNeg .null)])) τ → G τ := fun τ κ => pre τ (by
      refine XS.aload X54.here hx rfl (hb hby at_317) rfl (own_S_ref F_e11) ?_
      show Steps p.tables e below (T54.setTop (mkF m 319 #[.val (.int p1), .val (.int p2), .val (.int p3), .val (.int p4), .val (.int i1), .val (.int i2), .val (.int i3), .val (.ref r_4), .val (.ref r_5), .val (.ref r_6), .val (.ref b7), .val e00, .val e01, .val e02, .val e10, .val e11, .val e12, .val e30, .val e31, .val e32, .val (.ref b25), .val (.int z0.2.2.2), .val (.int z1.2.2.2), .val (.int z3.2.2.2), .val (.int (1 : Int32)), .val (.int z1.2.2.2), .val e10, .val e11, .val e12] [e11, (pfz_48.getD ((1 : Int32)).toNatClampNeg .null)])) τ
      exact κ)
    obtain ⟨_, _, ⟨T55, Lx55, kx55, nx55⟩, -, X55, ⟨Lc55, hQ55, l55, y55, z55⟩, st55⟩ := Jvm.LawKit.callS X54 hx (y := (⟨"coppice/marshal/context/NamespaceScopeRestorePinLaw", "eq", "(Ljava/lang/String;Ljava/lang/String;)Z"⟩ : MethodName)) hown (mvT hZ (hw _ (List.mem_of_getElem? (i := 91) rfl))) (mvT hZ (hw _ (List.mem_of_getElem? (i := 92) rfl))) (mvT hZ (hw _ (List.mem_of_getElem? (i := 2) rfl))) (mvT hZ (hw _ (List.mem_of_getElem? (i := 93) rfl))) (by decide) (backOf (W := 0) (rm15 l Z a0 hw [] (pfz_48.getD ((1 : Int32)).toNatClampNeg .null) e11 (((own_rs z3.2.1 (z3.2.2.2.toInt - z1.2.2.2.toInt).toNat z3.2.2.2 (z3.1, z3.2.2.1)).1).getD ((1 : Int32)).toNatClampNeg none) (so1.getD ((1 : Int32)).toNatClampNeg none) cw T48.heap n0 Zn F_r_54 F_e11 S_c hcw) hZ (hw _ (List.mem_of_getElem? (i := 93) rfl)) (hw _ (List.mem_of_getElem? (i := 2) rfl)) (by decide) (by decide)) (g := (mkF m 319 #[.val (.int p1), .val (.int p2), .val (.int p3), .val (.int p4), .val (.int i1), .val (.int i2), .val (.int i3), .val (.ref r_4), .val (.ref r_5), .val (.ref r_6), .val (.ref b7), .val e00, .val e01, .val e02, .val e10, .val e11, .val e12, .val e30, .val e31, .val e32, .val (.ref b25), .val (.int z0.2.2.2), .val (.int z1.2.2.2), .val (.int z3.2.2.2), .val (.int (1 : Int32)), .val (.int z1.2.2.2), .val e10, .val e11, .val e12] [e11, (pfz_48.getD ((1 : Int32)).toNatClampNeg .null)])) rfl (by rw [hml]; rfl) (argsL := [(pfz_48.getD ((1 : Int32)).toNatClampNeg .null), e11]) (rest := []) (lenOf pd_10 rfl) rfl (by show 2 * 0 + _ ≤ _; exact Nat.le_of_eq rfl) (hb hby at_319) (fun _ _ => ⟨rfl, hs54, (by decide : 19 + 0 ≤ _), (by decide : 130 + 0 ≤ _)⟩)
    dsimp only [Pt.U, Pt.locs, Pt.cells, Pt.slots] at X55 l55 y55 z55 st55 hQ55
    replace y55 : kx55 = 19 := y55
    replace z55 : nx55 = 130 := z55
    subst y55 z55
    obtain ⟨rfl, Nq55, hs55⟩ := hQ55
    have NN : Fr n0 Lx55 := by rw [l55]; exact Fr.app NN Nq55
    have pre : ∀ τ, Steps p.tables e below (T55.setTop (mkF m 322 #[.val (.int p1), .val (.int p2), .val (.int p3), .val (.int p4), .val (.int i1), .val (.int i2), .val (.int i3), .val (.ref r_4), .val (.ref r_5), .val (.ref r_6), .val (.ref b7), .val e00, .val e01, .val e02, .val e10, .val e11, .val e12, .val e30, .val e31, .val e32, .val (.ref b25), .val (.int z0.2.2.2), .val (.int z1.2.2.2), .val (.int z3.2.2.2), .val (.int (1 : Int32)), .val (.int z1.2.2.2), .val e10, .val e11, .val e12] [(.int (own_eqo (((own_rs z3.2.1 (z3.2.2.2.toInt - z1.2.2.2.toInt).toNat z3.2.2.2 (z3.1, z3.2.2.1)).1).getD ((1 : Int32)).toNatClampNeg none) (so1.getD ((1 : Int32)).toNatClampNeg none)))])) τ → G τ := fun τ κ => pre τ (st55 τ κ)
    have hc56 : ¬ ((own_eqo (((own_rs z3.2.1 (z3.2.2.2.toInt - z1.2.2.2.toInt).toNat z3.2.2.2 (z3.1, z3.2.2.1)).1).getD ((1 : Int32)).toNatClampNeg none) (so1.getD ((1 : Int32)).toNatClampNeg none)) = (0 : Int32)) := (by rw [hfin, hz1s]; exact own_eqo1 _)
    have pre : ∀ τ, Steps p.tables e below (T55.setTop (mkF m 328 #[.val (.int p1), .val (.int p2), .val (.int p3), .val (.int p4), .val (.int i1), .val (.int i2), .val (.int i3), .val (.ref r_4), .val (.ref r_5), .val (.ref r_6), .val (.ref b7), .val e00, .val e01, .val e02, .val e10, .val e11, .val e12, .val e30, .val e31, .val e32, .val (.ref b25), .val (.int z0.2.2.2), .val (.int z1.2.2.2), .val (.int z3.2.2.2), .val (.int (1 : Int32)), .val (.int z1.2.2.2), .val e10, .val e11, .val e12] [(.int (2 : Int32)), (.ref b25)])) τ → G τ := fun τ κ => pre τ (by
      refine XS.ifNo X55.here hx rfl (hb hby at_322) rfl ((if0 _ _).trans (feq hc56).1) ?_
      show Steps p.tables e below (T55.setTop (mkF m 325 #[.val (.int p1), .val (.int p2), .val (.int p3), .val (.int p4), .val (.int i1), .val (.int i2), .val (.int i3), .val (.ref r_4), .val (.ref r_5), .val (.ref r_6), .val (.ref b7), .val e00, .val e01, .val e02, .val e10, .val e11, .val e12, .val e30, .val e31, .val e32, .val (.ref b25), .val (.int z0.2.2.2), .val (.int z1.2.2.2), .val (.int z3.2.2.2), .val (.int (1 : Int32)), .val (.int z1.2.2.2), .val e10, .val e11, .val e12] [])) τ
      refine XS.aload X55.here hx rfl (hb hby at_325) rfl rfl ?_
      show Steps p.tables e below (T55.setTop (mkF m 327 #[.val (.int p1), .val (.int p2), .val (.int p3), .val (.int p4), .val (.int i1), .val (.int i2), .val (.int i3), .val (.ref r_4), .val (.ref r_5), .val (.ref r_6), .val (.ref b7), .val e00, .val e01, .val e02, .val e10, .val e11, .val e12, .val e30, .val e31, .val e32, .val (.ref b25), .val (.int z0.2.2.2), .val (.int z1.2.2.2), .val (.int z3.2.2.2), .val (.int (1 : Int32)), .val (.int z1.2.2.2), .val e10, .val e11, .val e12] [(.ref b25)])) τ
      refine XS.iconst X55.here hx rfl (hb hby at_327) ?_
      show Steps p.tables e below (T55.setTop (mkF m 328 #[.val (.int p1), .val (.int p2), .val (.int p3), .val (.int p4), .val (.int i1), .val (.int i2), .val (.int i3), .val (.ref r_4), .val (.ref r_5), .val (.ref r_6), .val (.ref b7), .val e00, .val e01, .val e02, .val e10, .val e11, .val e12, .val e30, .val e31, .val e32, .val (.ref b25), .val (.int z0.2.2.2), .val (.int z1.2.2.2), .val (.int z3.2.2.2), .val (.int (1 : Int32)), .val (.int z1.2.2.2), .val e10, .val e11, .val e12] [(.int (2 : Int32)), (.ref b25)])) τ
      exact κ)
    obtain ⟨cq57, kq57, q57a, q57b, q57c⟩ := isOf hZ hs55 E_b25
    obtain ⟨_, _, ⟨T57, Lx57, kx57, nx57⟩, -, X57, ⟨Lc57, hQ57, l57, y57, z57⟩, st57⟩ := X55.virtualBack hx (y := (⟨"coppice/marshal/context/NamespaceScope", "prefix", "(I)Ljava/lang/String;"⟩ : MethodName)) (z := (⟨"coppice/marshal/context/NamespaceScope", "prefix", "(I)Ljava/lang/String;"⟩ : MethodName)) hown (mvT hZ (hw _ (List.mem_of_getElem? (i := 86) rfl))) (mvT hZ (hw _ (List.mem_of_getElem? (i := 87) rfl))) (notFace_of_selects (args := #[]) (mvT hZ (hw _ (List.mem_of_getElem? (i := 89) rfl)))) (mvT hZ (hw _ (List.mem_of_getElem? (i := 89) rfl))) (mvT hZ (hw _ (List.mem_of_getElem? (i := 88) rfl))) (by decide) (backOf (W := 0) (rm14 l Z a0 hw [] b25 (2 : Int32) pf_26 kf_26 (3 : Int32) pfz_48 ((own_rs z3.2.1 (z3.2.2.2.toInt - z1.2.2.2.toInt).toNat z3.2.2.2 (z3.1, z3.2.2.1)).1) T48.heap n0 Zn F_pf_48 V_pf_48 L_pf_48 ⟨by decide, by decide⟩) hZ (hw _ (List.mem_of_getElem? (i := 90) rfl)) (hw _ (List.mem_of_getElem? (i := 38) rfl)) (by decide) (by decide)) q57a q57c (g := (mkF m 328 #[.val (.int p1), .val (.int p2), .val (.int p3), .val (.int p4), .val (.int i1), .val (.int i2), .val (.int i3), .val (.ref r_4), .val (.ref r_5), .val (.ref r_6), .val (.ref b7), .val e00, .val e01, .val e02, .val e10, .val e11, .val e12, .val e30, .val e31, .val e32, .val (.ref b25), .val (.int z0.2.2.2), .val (.int z1.2.2.2), .val (.int z3.2.2.2), .val (.int (1 : Int32)), .val (.int z1.2.2.2), .val e10, .val e11, .val e12] [(.int (2 : Int32)), (.ref b25)])) rfl (by rw [hml]; rfl) (Steps.refl _) (argsL := [(.int (2 : Int32))]) (rest := []) (lenOf pd_6 rfl) rfl (by show 2 * 0 + _ ≤ _; exact Nat.le_of_eq rfl) (hb hby at_328) (fun _ _ => ⟨rfl, hs55, (by decide : 19 + 0 ≤ _), (by decide : 130 + 0 ≤ _)⟩)
    dsimp only [Pt.U, Pt.locs, Pt.cells, Pt.slots] at X57 l57 y57 z57 st57 hQ57
    replace y57 : kx57 = 19 := y57
    replace z57 : nx57 = 130 := z57
    subst y57 z57
    obtain ⟨rfl, Nq57, hs57, F_r_57⟩ := hQ57
    have NN : Fr n0 Lx57 := by rw [l57]; exact Fr.app NN Nq57
    have F_r_57 : own_S Z T48.heap (pfz_48.getD ((2 : Int32)).toNatClampNeg .null) (((own_rs z3.2.1 (z3.2.2.2.toInt - z1.2.2.2.toInt).toNat z3.2.2.2 (z3.1, z3.2.2.1)).1).getD ((2 : Int32)).toNatClampNeg none) := hs57 ▸ F_r_57
    have pre : ∀ τ, Steps p.tables e below (T57.setTop (mkF m 331 #[.val (.int p1), .val (.int p2), .val (.int p3), .val (.int p4), .val (.int i1), .val (.int i2), .val (.int i3), .val (.ref r_4), .val (.ref r_5), .val (.ref r_6), .val (.ref b7), .val e00, .val e01, .val e02, .val e10, .val e11, .val e12, .val e30, .val e31, .val e32, .val (.ref b25), .val (.int z0.2.2.2), .val (.int z1.2.2.2), .val (.int z3.2.2.2), .val (.int (1 : Int32)), .val (.int z1.2.2.2), .val e10, .val e11, .val e12] [(pfz_48.getD ((2 : Int32)).toNatClampNeg .null)])) τ → G τ := fun τ κ => pre τ (st57.trans κ)
    have pre : ∀ τ, Steps p.tables e below (T57.setTop (mkF m 333 #[.val (.int p1), .val (.int p2), .val (.int p3), .val (.int p4), .val (.int i1), .val (.int i2), .val (.int i3), .val (.ref r_4), .val (.ref r_5), .val (.ref r_6), .val (.ref b7), .val e00, .val e01, .val e02, .val e10, .val e11, .val e12, .val e30, .val e31, .val e32, .val (.ref b25), .val (.int z0.2.2.2), .val (.int z1.2.2.2), .val (.int z3.2.2.2), .val (.int (1 : Int32)), .val (.int z1.2.2.2), .val e10, .val e11, .val e12] [e12, (pfz_48.getD ((2 : Int32)).toNatClampNeg .null)])) τ → G τ := fun τ κ => pre τ (by
      refine XS.aload X57.here hx rfl (hb hby at_331) rfl (own_S_ref F_e12) ?_
      show Steps p.tables e below (T57.setTop (mkF m 333 #[.val (.int p1), .val (.int p2), .val (.int p3), .val (.int p4), .val (.int i1), .val (.int i2), .val (.int i3), .val (.ref r_4), .val (.ref r_5), .val (.ref r_6), .val (.ref b7), .val e00, .val e01, .val e02, .val e10, .val e11, .val e12, .val e30, .val e31, .val e32, .val (.ref b25), .val (.int z0.2.2.2), .val (.int z1.2.2.2), .val (.int z3.2.2.2), .val (.int (1 : Int32)), .val (.int z1.2.2.2), .val e10, .val e11, .val e12] [e12, (pfz_48.getD ((2 : Int32)).toNatClampNeg .null)])) τ
      exact κ)
    obtain ⟨_, _, ⟨T58, Lx58, kx58, nx58⟩, -, X58, ⟨Lc58, hQ58, l58, y58, z58⟩, st58⟩ := Jvm.LawKit.callS X57 hx (y := (⟨"coppice/marshal/context/NamespaceScopeRestorePinLaw", "eq", "(Ljava/lang/String;Ljava/lang/String;)Z"⟩ : MethodName)) hown (mvT hZ (hw _ (List.mem_of_getElem? (i := 91) rfl))) (mvT hZ (hw _ (List.mem_of_getElem? (i := 92) rfl))) (mvT hZ (hw _ (List.mem_of_getElem? (i := 2) rfl))) (mvT hZ (hw _ (List.mem_of_getElem? (i := 93) rfl))) (by decide) (backOf (W := 0) (rm15 l Z a0 hw [] (pfz_48.getD ((2 : Int32)).toNatClampNeg .null) e12 (((own_rs z3.2.1 (z3.2.2.2.toInt - z1.2.2.2.toInt).toNat z3.2.2.2 (z3.1, z3.2.2.1)).1).getD ((2 : Int32)).toNatClampNeg none) (so1.getD ((2 : Int32)).toNatClampNeg none) cw T48.heap n0 Zn F_r_57 F_e12 S_c hcw) hZ (hw _ (List.mem_of_getElem? (i := 93) rfl)) (hw _ (List.mem_of_getElem? (i := 2) rfl)) (by decide) (by decide)) (g := (mkF m 333 #[.val (.int p1), .val (.int p2), .val (.int p3), .val (.int p4), .val (.int i1), .val (.int i2), .val (.int i3), .val (.ref r_4), .val (.ref r_5), .val (.ref r_6), .val (.ref b7), .val e00, .val e01, .val e02, .val e10, .val e11, .val e12, .val e30, .val e31, .val e32, .val (.ref b25), .val (.int z0.2.2.2), .val (.int z1.2.2.2), .val (.int z3.2.2.2), .val (.int (1 : Int32)), .val (.int z1.2.2.2), .val e10, .val e11, .val e12] [e12, (pfz_48.getD ((2 : Int32)).toNatClampNeg .null)])) rfl (by rw [hml]; rfl) (argsL := [(pfz_48.getD ((2 : Int32)).toNatClampNeg .null), e12]) (rest := []) (lenOf pd_10 rfl) rfl (by show 2 * 0 + _ ≤ _; exact Nat.le_of_eq rfl) (hb hby at_333) (fun _ _ => ⟨rfl, hs57, (by decide : 19 + 0 ≤ _), (by decide : 130 + 0 ≤ _)⟩)
    dsimp only [Pt.U, Pt.locs, Pt.cells, Pt.slots] at X58 l58 y58 z58 st58 hQ58
    replace y58 : kx58 = 19 := y58
    replace z58 : nx58 = 130 := z58
    subst y58 z58
    obtain ⟨rfl, Nq58, hs58⟩ := hQ58
    have NN : Fr n0 Lx58 := by rw [l58]; exact Fr.app NN Nq58
    have pre : ∀ τ, Steps p.tables e below (T58.setTop (mkF m 336 #[.val (.int p1), .val (.int p2), .val (.int p3), .val (.int p4), .val (.int i1), .val (.int i2), .val (.int i3), .val (.ref r_4), .val (.ref r_5), .val (.ref r_6), .val (.ref b7), .val e00, .val e01, .val e02, .val e10, .val e11, .val e12, .val e30, .val e31, .val e32, .val (.ref b25), .val (.int z0.2.2.2), .val (.int z1.2.2.2), .val (.int z3.2.2.2), .val (.int (1 : Int32)), .val (.int z1.2.2.2), .val e10, .val e11, .val e12] [(.int (own_eqo (((own_rs z3.2.1 (z3.2.2.2.toInt - z1.2.2.2.toInt).toNat z3.2.2.2 (z3.1, z3.2.2.1)).1).getD ((2 : Int32)).toNatClampNeg none) (so1.getD ((2 : Int32)).toNatClampNeg none)))])) τ → G τ := fun τ κ => pre τ (st58 τ κ)
    have hc59 : ¬ ((own_eqo (((own_rs z3.2.1 (z3.2.2.2.toInt - z1.2.2.2.toInt).toNat z3.2.2.2 (z3.1, z3.2.2.1)).1).getD ((2 : Int32)).toNatClampNeg none) (so1.getD ((2 : Int32)).toNatClampNeg none)) = (0 : Int32)) := (by rw [hfin, hz1s]; exact own_eqo1 _)
    have pre : ∀ τ, Steps p.tables e below (T58.setTop (mkF m 344 #[.val (.int p1), .val (.int p2), .val (.int p3), .val (.int p4), .val (.int i1), .val (.int i2), .val (.int i3), .val (.ref r_4), .val (.ref r_5), .val (.ref r_6), .val (.ref b7), .val e00, .val e01, .val e02, .val e10, .val e11, .val e12, .val e30, .val e31, .val e32, .val (.ref b25), .val (.int z0.2.2.2), .val (.int z1.2.2.2), .val (.int z3.2.2.2), .val (.int (1 : Int32)), .val (.int z1.2.2.2), .val e10, .val e11, .val e12] [(.int (1 : Int32))])) τ → G τ := fun τ κ => pre τ (by
      refine XS.ifNo X58.here hx rfl (hb hby at_336) rfl ((if0 _ _).trans (feq hc59).1) ?_
      show Steps p.tables e below (T58.setTop (mkF m 339 #[.val (.int p1), .val (.int p2), .val (.int p3), .val (.int p4), .val (.int i1), .val (.int i2), .val (.int i3), .val (.ref r_4), .val (.ref r_5), .val (.ref r_6), .val (.ref b7), .val e00, .val e01, .val e02, .val e10, .val e11, .val e12, .val e30, .val e31, .val e32, .val (.ref b25), .val (.int z0.2.2.2), .val (.int z1.2.2.2), .val (.int z3.2.2.2), .val (.int (1 : Int32)), .val (.int z1.2.2.2), .val e10, .val e11, .val e12] [])) τ
      refine XS.iconst X58.here hx rfl (hb hby at_339) ?_
      show Steps p.tables e below (T58.setTop (mkF m 340 #[.val (.int p1), .val (.int p2), .val (.int p3), .val (.int p4), .val (.int i1), .val (.int i2), .val (.int i3), .val (.ref r_4), .val (.ref r_5), .val (.ref r_6), .val (.ref b7), .val e00, .val e01, .val e02, .val e10, .val e11, .val e12, .val e30, .val e31, .val e32, .val (.ref b25), .val (.int z0.2.2.2), .val (.int z1.2.2.2), .val (.int z3.2.2.2), .val (.int (1 : Int32)), .val (.int z1.2.2.2), .val e10, .val e11, .val e12] [(.int (1 : Int32))])) τ
      refine XS.goto X58.here hx rfl (pc0 := 340) (pc' := 344) rfl (hb hby at_340) (by decide) (by decide) ?_
      show Steps p.tables e below (T58.setTop (mkF m 344 #[.val (.int p1), .val (.int p2), .val (.int p3), .val (.int p4), .val (.int i1), .val (.int i2), .val (.int i3), .val (.ref r_4), .val (.ref r_5), .val (.ref r_6), .val (.ref b7), .val e00, .val e01, .val e02, .val e10, .val e11, .val e12, .val e30, .val e31, .val e32, .val (.ref b25), .val (.int z0.2.2.2), .val (.int z1.2.2.2), .val (.int z3.2.2.2), .val (.int (1 : Int32)), .val (.int z1.2.2.2), .val e10, .val e11, .val e12] [(.int (1 : Int32))])) τ
      exact κ)
    have hkT := Nat.le_trans hk (Nat.le_of_eq (congrArg Array.size (Eq.symm hs58)))
    obtain ⟨fsα, hr, hrun, hended, hRE⟩ := X58.leaveW hS hkT (v := some (.int (1 : Int32))) (fun h => by rw [Bd.returns] at h; cases h)
    refine hGL ⟨_, _, hG _ (pre _ ?_), hrun, hended, _, _, rfl, ?_, ?_, ⟨_, rfl⟩, hRE.2.1, hRE.2.2.1, hRE.2.2.2.mono (by decide) (by decide)⟩
    · exact retN X58 hx (t := .boolean) Bd.returns (by simp) (hb hby at_344) hr
    · show Q0 Z p1 p2 p3 p4 cw h0 n0 _ T58.heap _
      rw [hs58]
      exact ⟨rfl, NN⟩
    · show CHr Z own_EL s.vm s.heap T58.vm T58.heap
      rw [hh, hs58]
      exact HR.trans (CHv.at X58 hZ hEL H)
  ·
    have pre : ∀ τ, Steps p.tables e below (T32.setTop (mkF m 215 #[.val (.int p1), .val (.int p2), .val (.int p3), .val (.int p4), .val (.int i1), .val (.int i2), .val (.int i3), .val (.ref r_4), .val (.ref r_5), .val (.ref r_6), .val (.ref b7), .val e00, .val e01, .val e02, .val e10, .val e11, .val e12, .val e30, .val e31, .val e32, .val (.ref b25), .val (.int z0.2.2.2), .val (.int z1.2.2.2), .val (.int z3.2.2.2), .val (.int (2 : Int32)), .unset, .unset, .unset, .unset] [])) τ → G τ := (show ks = (2 : Int32) from hk3) ▸ pre
    have pre : ∀ τ, Steps p.tables e below (T32.setTop (mkF m 217 #[.val (.int p1), .val (.int p2), .val (.int p3), .val (.int p4), .val (.int i1), .val (.int i2), .val (.int i3), .val (.ref r_4), .val (.ref r_5), .val (.ref r_6), .val (.ref b7), .val e00, .val e01, .val e02, .val e10, .val e11, .val e12, .val e30, .val e31, .val e32, .val (.ref b25), .val (.int z0.2.2.2), .val (.int z1.2.2.2), .val (.int z3.2.2.2), .val (.int (2 : Int32)), .unset, .unset, .unset, .unset] [(.int (2 : Int32))])) τ → G τ := fun τ κ => pre τ (by
      refine XS.iload X32.here hx rfl (hb hby at_215) rfl ?_
      show Steps p.tables e below (T32.setTop (mkF m 217 #[.val (.int p1), .val (.int p2), .val (.int p3), .val (.int p4), .val (.int i1), .val (.int i2), .val (.int i3), .val (.ref r_4), .val (.ref r_5), .val (.ref r_6), .val (.ref b7), .val e00, .val e01, .val e02, .val e10, .val e11, .val e12, .val e30, .val e31, .val e32, .val (.ref b25), .val (.int z0.2.2.2), .val (.int z1.2.2.2), .val (.int z3.2.2.2), .val (.int (2 : Int32)), .unset, .unset, .unset, .unset] [(.int (2 : Int32))])) τ
      exact κ)
    have hc60 : ¬ ((2 : Int32) = (0 : Int32)) := (by decide)
    have pre : ∀ τ, Steps p.tables e below (T32.setTop (mkF m 242 #[.val (.int p1), .val (.int p2), .val (.int p3), .val (.int p4), .val (.int i1), .val (.int i2), .val (.int i3), .val (.ref r_4), .val (.ref r_5), .val (.ref r_6), .val (.ref b7), .val e00, .val e01, .val e02, .val e10, .val e11, .val e12, .val e30, .val e31, .val e32, .val (.ref b25), .val (.int z0.2.2.2), .val (.int z1.2.2.2), .val (.int z3.2.2.2), .val (.int (2 : Int32)), .unset, .unset, .unset, .unset] [(.int (1 : Int32)), (.int (2 : Int32))])) τ → G τ := fun τ κ => pre τ (by
      refine XS.ifYes X32.here hx rfl (pc0 := 217) (pc' := 239) rfl (hb hby at_217) rfl ((if0 _ _).trans (feq hc60).2) (by decide) (by decide) ?_
      show Steps p.tables e below (T32.setTop (mkF m 239 #[.val (.int p1), .val (.int p2), .val (.int p3), .val (.int p4), .val (.int i1), .val (.int i2), .val (.int i3), .val (.ref r_4), .val (.ref r_5), .val (.ref r_6), .val (.ref b7), .val e00, .val e01, .val e02, .val e10, .val e11, .val e12, .val e30, .val e31, .val e32, .val (.ref b25), .val (.int z0.2.2.2), .val (.int z1.2.2.2), .val (.int z3.2.2.2), .val (.int (2 : Int32)), .unset, .unset, .unset, .unset] [])) τ
      refine XS.iload X32.here hx rfl (hb hby at_239) rfl ?_
      show Steps p.tables e below (T32.setTop (mkF m 241 #[.val (.int p1), .val (.int p2), .val (.int p3), .val (.int p4), .val (.int i1), .val (.int i2), .val (.int i3), .val (.ref r_4), .val (.ref r_5), .val (.ref r_6), .val (.ref b7), .val e00, .val e01, .val e02, .val e10, .val e11, .val e12, .val e30, .val e31, .val e32, .val (.ref b25), .val (.int z0.2.2.2), .val (.int z1.2.2.2), .val (.int z3.2.2.2), .val (.int (2 : Int32)), .unset, .unset, .unset, .unset] [(.int (2 : Int32))])) τ
      refine XS.iconst X32.here hx rfl (hb hby at_241) ?_
      show Steps p.tables e below (T32.setTop (mkF m 242 #[.val (.int p1), .val (.int p2), .val (.int p3), .val (.int p4), .val (.int i1), .val (.int i2), .val (.int i3), .val (.ref r_4), .val (.ref r_5), .val (.ref r_6), .val (.ref b7), .val e00, .val e01, .val e02, .val e10, .val e11, .val e12, .val e30, .val e31, .val e32, .val (.ref b25), .val (.int z0.2.2.2), .val (.int z1.2.2.2), .val (.int z3.2.2.2), .val (.int (2 : Int32)), .unset, .unset, .unset, .unset] [(.int (1 : Int32)), (.int (2 : Int32))])) τ
      exact κ)
    have hc61 : ¬ ((2 : Int32) = (1 : Int32)) := (by decide)
    have pre : ∀ τ, Steps p.tables e below (T32.setTop (mkF m 284 #[.val (.int p1), .val (.int p2), .val (.int p3), .val (.int p4), .val (.int i1), .val (.int i2), .val (.int i3), .val (.ref r_4), .val (.ref r_5), .val (.ref r_6), .val (.ref b7), .val e00, .val e01, .val e02, .val e10, .val e11, .val e12, .val e30, .val e31, .val e32, .val (.ref b25), .val (.int z0.2.2.2), .val (.int z1.2.2.2), .val (.int z3.2.2.2), .val (.int (2 : Int32)), .val (.int z3.2.2.2), .val e30, .val e31, .val e32] [(.int z3.2.2.2), (.ref b25)])) τ → G τ := fun τ κ => pre τ (by
      refine XS.icmpYes X32.here hx rfl (pc0 := 242) (pc' := 264) rfl (hb hby at_242) rfl (feq hc61).2 (by decide) (by decide) ?_
      show Steps p.tables e below (T32.setTop (mkF m 264 #[.val (.int p1), .val (.int p2), .val (.int p3), .val (.int p4), .val (.int i1), .val (.int i2), .val (.int i3), .val (.ref r_4), .val (.ref r_5), .val (.ref r_6), .val (.ref b7), .val e00, .val e01, .val e02, .val e10, .val e11, .val e12, .val e30, .val e31, .val e32, .val (.ref b25), .val (.int z0.2.2.2), .val (.int z1.2.2.2), .val (.int z3.2.2.2), .val (.int (2 : Int32)), .unset, .unset, .unset, .unset] [])) τ
      refine XS.iload X32.here hx rfl (hb hby at_264) rfl ?_
      show Steps p.tables e below (T32.setTop (mkF m 266 #[.val (.int p1), .val (.int p2), .val (.int p3), .val (.int p4), .val (.int i1), .val (.int i2), .val (.int i3), .val (.ref r_4), .val (.ref r_5), .val (.ref r_6), .val (.ref b7), .val e00, .val e01, .val e02, .val e10, .val e11, .val e12, .val e30, .val e31, .val e32, .val (.ref b25), .val (.int z0.2.2.2), .val (.int z1.2.2.2), .val (.int z3.2.2.2), .val (.int (2 : Int32)), .unset, .unset, .unset, .unset] [(.int z3.2.2.2)])) τ
      refine XS.istore X32.here hx rfl (hb hby at_266) rfl (l' := #[.val (.int p1), .val (.int p2), .val (.int p3), .val (.int p4), .val (.int i1), .val (.int i2), .val (.int i3), .val (.ref r_4), .val (.ref r_5), .val (.ref r_6), .val (.ref b7), .val e00, .val e01, .val e02, .val e10, .val e11, .val e12, .val e30, .val e31, .val e32, .val (.ref b25), .val (.int z0.2.2.2), .val (.int z1.2.2.2), .val (.int z3.2.2.2), .val (.int (2 : Int32)), .val (.int z3.2.2.2), .unset, .unset, .unset]) rfl ?_
      show Steps p.tables e below (T32.setTop (mkF m 268 #[.val (.int p1), .val (.int p2), .val (.int p3), .val (.int p4), .val (.int i1), .val (.int i2), .val (.int i3), .val (.ref r_4), .val (.ref r_5), .val (.ref r_6), .val (.ref b7), .val e00, .val e01, .val e02, .val e10, .val e11, .val e12, .val e30, .val e31, .val e32, .val (.ref b25), .val (.int z0.2.2.2), .val (.int z1.2.2.2), .val (.int z3.2.2.2), .val (.int (2 : Int32)), .val (.int z3.2.2.2), .unset, .unset, .unset] [])) τ
      refine XS.aload X32.here hx rfl (hb hby at_268) rfl (own_S_ref F_e30) ?_
      show Steps p.tables e below (T32.setTop (mkF m 270 #[.val (.int p1), .val (.int p2), .val (.int p3), .val (.int p4), .val (.int i1), .val (.int i2), .val (.int i3), .val (.ref r_4), .val (.ref r_5), .val (.ref r_6), .val (.ref b7), .val e00, .val e01, .val e02, .val e10, .val e11, .val e12, .val e30, .val e31, .val e32, .val (.ref b25), .val (.int z0.2.2.2), .val (.int z1.2.2.2), .val (.int z3.2.2.2), .val (.int (2 : Int32)), .val (.int z3.2.2.2), .unset, .unset, .unset] [e30])) τ
      refine XS.astore X32.here hx rfl (hb hby at_270) rfl (own_S_ref F_e30) (l' := #[.val (.int p1), .val (.int p2), .val (.int p3), .val (.int p4), .val (.int i1), .val (.int i2), .val (.int i3), .val (.ref r_4), .val (.ref r_5), .val (.ref r_6), .val (.ref b7), .val e00, .val e01, .val e02, .val e10, .val e11, .val e12, .val e30, .val e31, .val e32, .val (.ref b25), .val (.int z0.2.2.2), .val (.int z1.2.2.2), .val (.int z3.2.2.2), .val (.int (2 : Int32)), .val (.int z3.2.2.2), .val e30, .unset, .unset]) (XS.store1 rfl (Or.inl rfl) (own_cat (own_S_ref F_e30))) ?_
      show Steps p.tables e below (T32.setTop (mkF m 272 #[.val (.int p1), .val (.int p2), .val (.int p3), .val (.int p4), .val (.int i1), .val (.int i2), .val (.int i3), .val (.ref r_4), .val (.ref r_5), .val (.ref r_6), .val (.ref b7), .val e00, .val e01, .val e02, .val e10, .val e11, .val e12, .val e30, .val e31, .val e32, .val (.ref b25), .val (.int z0.2.2.2), .val (.int z1.2.2.2), .val (.int z3.2.2.2), .val (.int (2 : Int32)), .val (.int z3.2.2.2), .val e30, .unset, .unset] [])) τ
      refine XS.aload X32.here hx rfl (hb hby at_272) rfl (own_S_ref F_e31) ?_
      show Steps p.tables e below (T32.setTop (mkF m 274 #[.val (.int p1), .val (.int p2), .val (.int p3), .val (.int p4), .val (.int i1), .val (.int i2), .val (.int i3), .val (.ref r_4), .val (.ref r_5), .val (.ref r_6), .val (.ref b7), .val e00, .val e01, .val e02, .val e10, .val e11, .val e12, .val e30, .val e31, .val e32, .val (.ref b25), .val (.int z0.2.2.2), .val (.int z1.2.2.2), .val (.int z3.2.2.2), .val (.int (2 : Int32)), .val (.int z3.2.2.2), .val e30, .unset, .unset] [e31])) τ
      refine XS.astore X32.here hx rfl (hb hby at_274) rfl (own_S_ref F_e31) (l' := #[.val (.int p1), .val (.int p2), .val (.int p3), .val (.int p4), .val (.int i1), .val (.int i2), .val (.int i3), .val (.ref r_4), .val (.ref r_5), .val (.ref r_6), .val (.ref b7), .val e00, .val e01, .val e02, .val e10, .val e11, .val e12, .val e30, .val e31, .val e32, .val (.ref b25), .val (.int z0.2.2.2), .val (.int z1.2.2.2), .val (.int z3.2.2.2), .val (.int (2 : Int32)), .val (.int z3.2.2.2), .val e30, .val e31, .unset]) (XS.store1 rfl (Or.inl rfl) (own_cat (own_S_ref F_e31))) ?_
      show Steps p.tables e below (T32.setTop (mkF m 276 #[.val (.int p1), .val (.int p2), .val (.int p3), .val (.int p4), .val (.int i1), .val (.int i2), .val (.int i3), .val (.ref r_4), .val (.ref r_5), .val (.ref r_6), .val (.ref b7), .val e00, .val e01, .val e02, .val e10, .val e11, .val e12, .val e30, .val e31, .val e32, .val (.ref b25), .val (.int z0.2.2.2), .val (.int z1.2.2.2), .val (.int z3.2.2.2), .val (.int (2 : Int32)), .val (.int z3.2.2.2), .val e30, .val e31, .unset] [])) τ
      refine XS.aload X32.here hx rfl (hb hby at_276) rfl (own_S_ref F_e32) ?_
      show Steps p.tables e below (T32.setTop (mkF m 278 #[.val (.int p1), .val (.int p2), .val (.int p3), .val (.int p4), .val (.int i1), .val (.int i2), .val (.int i3), .val (.ref r_4), .val (.ref r_5), .val (.ref r_6), .val (.ref b7), .val e00, .val e01, .val e02, .val e10, .val e11, .val e12, .val e30, .val e31, .val e32, .val (.ref b25), .val (.int z0.2.2.2), .val (.int z1.2.2.2), .val (.int z3.2.2.2), .val (.int (2 : Int32)), .val (.int z3.2.2.2), .val e30, .val e31, .unset] [e32])) τ
      refine XS.astore X32.here hx rfl (hb hby at_278) rfl (own_S_ref F_e32) (l' := #[.val (.int p1), .val (.int p2), .val (.int p3), .val (.int p4), .val (.int i1), .val (.int i2), .val (.int i3), .val (.ref r_4), .val (.ref r_5), .val (.ref r_6), .val (.ref b7), .val e00, .val e01, .val e02, .val e10, .val e11, .val e12, .val e30, .val e31, .val e32, .val (.ref b25), .val (.int z0.2.2.2), .val (.int z1.2.2.2), .val (.int z3.2.2.2), .val (.int (2 : Int32)), .val (.int z3.2.2.2), .val e30, .val e31, .val e32]) (XS.store1 rfl (Or.inl rfl) (own_cat (own_S_ref F_e32))) ?_
      show Steps p.tables e below (T32.setTop (mkF m 280 #[.val (.int p1), .val (.int p2), .val (.int p3), .val (.int p4), .val (.int i1), .val (.int i2), .val (.int i3), .val (.ref r_4), .val (.ref r_5), .val (.ref r_6), .val (.ref b7), .val e00, .val e01, .val e02, .val e10, .val e11, .val e12, .val e30, .val e31, .val e32, .val (.ref b25), .val (.int z0.2.2.2), .val (.int z1.2.2.2), .val (.int z3.2.2.2), .val (.int (2 : Int32)), .val (.int z3.2.2.2), .val e30, .val e31, .val e32] [])) τ
      refine XS.aload X32.here hx rfl (hb hby at_280) rfl rfl ?_
      show Steps p.tables e below (T32.setTop (mkF m 282 #[.val (.int p1), .val (.int p2), .val (.int p3), .val (.int p4), .val (.int i1), .val (.int i2), .val (.int i3), .val (.ref r_4), .val (.ref r_5), .val (.ref r_6), .val (.ref b7), .val e00, .val e01, .val e02, .val e10, .val e11, .val e12, .val e30, .val e31, .val e32, .val (.ref b25), .val (.int z0.2.2.2), .val (.int z1.2.2.2), .val (.int z3.2.2.2), .val (.int (2 : Int32)), .val (.int z3.2.2.2), .val e30, .val e31, .val e32] [(.ref b25)])) τ
      refine XS.iload X32.here hx rfl (hb hby at_282) rfl ?_
      show Steps p.tables e below (T32.setTop (mkF m 284 #[.val (.int p1), .val (.int p2), .val (.int p3), .val (.int p4), .val (.int i1), .val (.int i2), .val (.int i3), .val (.ref r_4), .val (.ref r_5), .val (.ref r_6), .val (.ref b7), .val e00, .val e01, .val e02, .val e10, .val e11, .val e12, .val e30, .val e31, .val e32, .val (.ref b25), .val (.int z0.2.2.2), .val (.int z1.2.2.2), .val (.int z3.2.2.2), .val (.int (2 : Int32)), .val (.int z3.2.2.2), .val e30, .val e31, .val e32] [(.int z3.2.2.2), (.ref b25)])) τ
      exact κ)
    obtain ⟨cq62, kq62, q62a, q62b, q62c⟩ := isOf hZ hs32 E_b25
    obtain ⟨_, _, ⟨T62, Lx62, kx62, nx62⟩, -, X62, ⟨Lc62, hQ62, l62, y62, z62⟩, st62⟩ := X32.virtualBack hx (y := (⟨"coppice/marshal/context/NamespaceScope", "restore", "(I)V"⟩ : MethodName)) (z := (⟨"coppice/marshal/context/NamespaceScope", "restore", "(I)V"⟩ : MethodName)) hown (mvT hZ (hw _ (List.mem_of_getElem? (i := 81) rfl))) (mvT hZ (hw _ (List.mem_of_getElem? (i := 82) rfl))) (notFace_of_selects (args := #[]) (mvT hZ (hw _ (List.mem_of_getElem? (i := 84) rfl)))) (mvT hZ (hw _ (List.mem_of_getElem? (i := 84) rfl))) (mvT hZ (hw _ (List.mem_of_getElem? (i := 83) rfl))) (by decide) (backOf (W := 0) (rm13 l Z a0 hw [] b25 z3.2.2.2 un_26 up_26 pf_26 ku_26 kp_26 kf_26 (3 : Int32) z3.2.2.2 z3.2.1 upz_31 pfz_31 z3.2.2.1 z3.1 T31.heap n0 Zn g_b25 gn_up_26 gn_pf_26 E_b25 F_un F_up F_pf F_uc V_un V_up V_pf L_up L_pf O_up_26 O_pf_26 ne_b25_un_26 ne_b25_up_26 ne_b25_pf_26 ne_un__up_26 ne_un__pf_26 ne_up__pf_26 Iz3.1 (Int.le_refl _) (Int.le_trans Iz3.2.1 (by decide)) hlp_31 hlf_31 Iz3.2.2.2.2.2) hZ (hw _ (List.mem_of_getElem? (i := 85) rfl)) (hw _ (List.mem_of_getElem? (i := 38) rfl)) (by decide) (by decide)) q62a q62c (g := (mkF m 284 #[.val (.int p1), .val (.int p2), .val (.int p3), .val (.int p4), .val (.int i1), .val (.int i2), .val (.int i3), .val (.ref r_4), .val (.ref r_5), .val (.ref r_6), .val (.ref b7), .val e00, .val e01, .val e02, .val e10, .val e11, .val e12, .val e30, .val e31, .val e32, .val (.ref b25), .val (.int z0.2.2.2), .val (.int z1.2.2.2), .val (.int z3.2.2.2), .val (.int (2 : Int32)), .val (.int z3.2.2.2), .val e30, .val e31, .val e32] [(.int z3.2.2.2), (.ref b25)])) rfl (by rw [hml]; rfl) (Steps.refl _) (argsL := [(.int z3.2.2.2)]) (rest := []) (lenOf pd_8 rfl) rfl (by show 2 * 0 + _ ≤ _; exact Nat.le_of_eq rfl) (hb hby at_284) (fun _ _ => ⟨rfl, hs32, (by decide : 19 + 0 ≤ _), (by decide : 130 + 0 ≤ _)⟩)
    dsimp only [Pt.U, Pt.locs, Pt.cells, Pt.slots] at X62 l62 y62 z62 st62 hQ62
    replace y62 : kx62 = 19 := y62
    replace z62 : nx62 = 130 := z62
    subst y62 z62
    obtain ⟨upz_62, pfz_62, rfl, Nq62, Kc62, E_o_62, F_un_62, F_up_62, F_pf_62, F_uc_62, V_un_62, V_up_62, V_pf_62, L_up_62, L_pf_62, hlp_62, hlf_62⟩ := hQ62
    have NN : Fr n0 Lx62 := by rw [l62]; exact Fr.app NN Nq62
    have Nss : ∀ x ∈ [b25, up_26, pf_26], own_ns Z T31.heap x := (allS (own_nsE E_b25 (hw _ (List.mem_of_getElem? (i := 37) rfl)) (by decide) (by decide)) (allS (own_nsV V_up (by decide)) (allS (own_nsV V_pf (by decide)) all0)))
    have hk := Nat.le_trans hk Kc62.1
    have HR := HR.trans (CHr.keep Kc62 (fun x hx => own_safe hZ.alike (Nss x hx)) H)
    have H := HR.1
    have S_c : Sta Z T62.heap "java/lang/String" "COMPACT_STRINGS" "Z" (.int cw) := own_sta_keepN S_c Kc62 Nss
    have F_r_4 : own_S Z T62.heap (.ref r_4) (some (own_pk ((p1.toUInt32 >>> ((8 : Int32) &&& 31).toUInt32).toInt32))) := own_S_keep F_r_4 Kc62 Nss
    have F_r_5 : own_S Z T62.heap (.ref r_5) (some (own_pk ((p2.toUInt32 >>> ((8 : Int32) &&& 31).toUInt32).toInt32))) := own_S_keep F_r_5 Kc62 Nss
    have F_r_6 : own_S Z T62.heap (.ref r_6) (some (own_pk ((p3.toUInt32 >>> ((8 : Int32) &&& 31).toUInt32).toInt32))) := own_S_keep F_r_6 Kc62 Nss
    have F_s8 : own_S Z T62.heap (.ref as8) (some []) := own_S_keep F_s8 Kc62 Nss
    have F_s10 : own_S Z T62.heap (.ref as10) (some [(.int (120 : Int32)), (.int (109 : Int32)), (.int (108 : Int32))]) := own_S_keep F_s10 Kc62 Nss
    have L_st : own_SL Z T62.heap sv3 so3 := own_SL_keep L_st Kc62 Nss
    have F_ld13 : own_S Z T62.heap (sv0.getD ((0 : Int32)).toNatClampNeg .null) (so0.getD ((0 : Int32)).toNatClampNeg none) := own_S_keep F_ld13 Kc62 Nss
    have F_e00 : own_S Z T62.heap e00 (so0.getD ((0 : Int32)).toNatClampNeg none) := own_S_keep F_e00 Kc62 Nss
    have F_ld14 : own_S Z T62.heap (sv0.getD ((1 : Int32)).toNatClampNeg .null) (so0.getD ((1 : Int32)).toNatClampNeg none) := own_S_keep F_ld14 Kc62 Nss
    have F_e01 : own_S Z T62.heap e01 (so0.getD ((1 : Int32)).toNatClampNeg none) := own_S_keep F_e01 Kc62 Nss
    have F_ld15 : own_S Z T62.heap (sv0.getD ((2 : Int32)).toNatClampNeg .null) (so0.getD ((2 : Int32)).toNatClampNeg none) := own_S_keep F_ld15 Kc62 Nss
    have F_e02 : own_S Z T62.heap e02 (so0.getD ((2 : Int32)).toNatClampNeg none) := own_S_keep F_e02 Kc62 Nss
    have F_ld17 : own_S Z T62.heap (sv1.getD ((0 : Int32)).toNatClampNeg .null) (so1.getD ((0 : Int32)).toNatClampNeg none) := own_S_keep F_ld17 Kc62 Nss
    have F_e10 : own_S Z T62.heap e10 (so1.getD ((0 : Int32)).toNatClampNeg none) := own_S_keep F_e10 Kc62 Nss
    have F_ld18 : own_S Z T62.heap (sv1.getD ((1 : Int32)).toNatClampNeg .null) (so1.getD ((1 : Int32)).toNatClampNeg none) := own_S_keep F_ld18 Kc62 Nss
    have F_e11 : own_S Z T62.heap e11 (so1.getD ((1 : Int32)).toNatClampNeg none) := own_S_keep F_e11 Kc62 Nss
    have F_ld19 : own_S Z T62.heap (sv1.getD ((2 : Int32)).toNatClampNeg .null) (so1.getD ((2 : Int32)).toNatClampNeg none) := own_S_keep F_ld19 Kc62 Nss
    have F_e12 : own_S Z T62.heap e12 (so1.getD ((2 : Int32)).toNatClampNeg none) := own_S_keep F_e12 Kc62 Nss
    have V_st : Arv Z T62.heap b7 k7 (.object "java/lang/String") (3 : Int32) sv3 .null := V_st.keep Kc62 (ninS ne_b7_b25 (ninS ne_b7_up_26 (ninS ne_b7_pf_26 nin0)))
    have F_ld22 : own_S Z T62.heap (sv3.getD ((0 : Int32)).toNatClampNeg .null) (so3.getD ((0 : Int32)).toNatClampNeg none) := own_S_keep F_ld22 Kc62 Nss
    have F_e30 : own_S Z T62.heap e30 (so3.getD ((0 : Int32)).toNatClampNeg none) := own_S_keep F_e30 Kc62 Nss
    have F_ld23 : own_S Z T62.heap (sv3.getD ((1 : Int32)).toNatClampNeg .null) (so3.getD ((1 : Int32)).toNatClampNeg none) := own_S_keep F_ld23 Kc62 Nss
    have F_e31 : own_S Z T62.heap e31 (so3.getD ((1 : Int32)).toNatClampNeg none) := own_S_keep F_e31 Kc62 Nss
    have F_ld24 : own_S Z T62.heap (sv3.getD ((2 : Int32)).toNatClampNeg .null) (so3.getD ((2 : Int32)).toNatClampNeg none) := own_S_keep F_ld24 Kc62 Nss
    have F_e32 : own_S Z T62.heap e32 (so3.getD ((2 : Int32)).toNatClampNeg none) := own_S_keep F_e32 Kc62 Nss
    have E_b25 : Exa Z T62.heap b25 "coppice/marshal/context/NamespaceScope" := E_b25.keep Kc62
    have E_o : Exa Z T62.heap b25 "coppice/marshal/context/NamespaceScope" := E_o.keep Kc62
    have V_un : Arv Z T62.heap un_26 ku_26 .int (16 : Int32) z3.2.1 (.int (0 : Int32)) := V_un.keep Kc62 (ninS (Ne.symm ne_b25_un_26) (ninS ne_un__up_26 (ninS ne_un__pf_26 nin0)))
    have L_up : own_SL Z T62.heap upz_31 z3.2.2.1 := own_SL_keep L_up Kc62 Nss
    have L_pf : own_SL Z T62.heap pfz_31 z3.1 := own_SL_keep L_pf Kc62 Nss
    have Zn : n0 ≤ T62.heap.size := Nat.le_trans Zn Kc62.1
    have pre : ∀ τ, Steps p.tables e below (T62.setTop (mkF m 287 #[.val (.int p1), .val (.int p2), .val (.int p3), .val (.int p4), .val (.int i1), .val (.int i2), .val (.int i3), .val (.ref r_4), .val (.ref r_5), .val (.ref r_6), .val (.ref b7), .val e00, .val e01, .val e02, .val e10, .val e11, .val e12, .val e30, .val e31, .val e32, .val (.ref b25), .val (.int z0.2.2.2), .val (.int z1.2.2.2), .val (.int z3.2.2.2), .val (.int (2 : Int32)), .val (.int z3.2.2.2), .val e30, .val e31, .val e32] [])) τ → G τ := fun τ κ => pre τ (st62.trans κ)
    have hfin : (own_rs z3.2.1 (z3.2.2.2.toInt - z3.2.2.2.toInt).toNat z3.2.2.2 (z3.1, z3.2.2.1)).1 = z3.1 := own_und (own_Xr z3) Iz3.1
    have pre : ∀ τ, Steps p.tables e below (T62.setTop (mkF m 289 #[.val (.int p1), .val (.int p2), .val (.int p3), .val (.int p4), .val (.int i1), .val (.int i2), .val (.int i3), .val (.ref r_4), .val (.ref r_5), .val (.ref r_6), .val (.ref b7), .val e00, .val e01, .val e02, .val e10, .val e11, .val e12, .val e30, .val e31, .val e32, .val (.ref b25), .val (.int z0.2.2.2), .val (.int z1.2.2.2), .val (.int z3.2.2.2), .val (.int (2 : Int32)), .val (.int z3.2.2.2), .val e30, .val e31, .val e32] [(.ref b25)])) τ → G τ := fun τ κ => pre τ (by
      refine XS.aload X62.here hx rfl (hb hby at_287) rfl rfl ?_
      show Steps p.tables e below (T62.setTop (mkF m 289 #[.val (.int p1), .val (.int p2), .val (.int p3), .val (.int p4), .val (.int i1), .val (.int i2), .val (.int i3), .val (.ref r_4), .val (.ref r_5), .val (.ref r_6), .val (.ref b7), .val e00, .val e01, .val e02, .val e10, .val e11, .val e12, .val e30, .val e31, .val e32, .val (.ref b25), .val (.int z0.2.2.2), .val (.int z1.2.2.2), .val (.int z3.2.2.2), .val (.int (2 : Int32)), .val (.int z3.2.2.2), .val e30, .val e31, .val e32] [(.ref b25)])) τ
      exact κ)
    obtain ⟨cq63, kq63, q63a, q63b, q63c⟩ := isOf hZ rfl E_b25
    obtain ⟨_, _, ⟨T63, Lx63, kx63, nx63⟩, -, X63, ⟨Lc63, hQ63, l63, y63, z63⟩, st63⟩ := X62.virtualBack hx (y := (⟨"coppice/marshal/context/NamespaceScope", "mark", "()I"⟩ : MethodName)) (z := (⟨"coppice/marshal/context/NamespaceScope", "mark", "()I"⟩ : MethodName)) hown (mvT hZ (hw _ (List.mem_of_getElem? (i := 66) rfl))) (mvT hZ (hw _ (List.mem_of_getElem? (i := 67) rfl))) (notFace_of_selects (args := #[]) (mvT hZ (hw _ (List.mem_of_getElem? (i := 69) rfl)))) (mvT hZ (hw _ (List.mem_of_getElem? (i := 69) rfl))) (mvT hZ (hw _ (List.mem_of_getElem? (i := 68) rfl))) (by decide) (backOf (W := 0) (rm10 l Z a0 hw [] b25 z3.2.2.2 T62.heap n0 Zn F_uc_62) hZ (hw _ (List.mem_of_getElem? (i := 70) rfl)) (hw _ (List.mem_of_getElem? (i := 38) rfl)) (by decide) (by decide)) q63a q63c (g := (mkF m 289 #[.val (.int p1), .val (.int p2), .val (.int p3), .val (.int p4), .val (.int i1), .val (.int i2), .val (.int i3), .val (.ref r_4), .val (.ref r_5), .val (.ref r_6), .val (.ref b7), .val e00, .val e01, .val e02, .val e10, .val e11, .val e12, .val e30, .val e31, .val e32, .val (.ref b25), .val (.int z0.2.2.2), .val (.int z1.2.2.2), .val (.int z3.2.2.2), .val (.int (2 : Int32)), .val (.int z3.2.2.2), .val e30, .val e31, .val e32] [(.ref b25)])) rfl (by rw [hml]; rfl) (Steps.refl _) (argsL := []) (rest := []) (lenOf pd_9 rfl) rfl (by show 2 * 0 + _ ≤ _; exact Nat.le_of_eq rfl) (hb hby at_289) (fun _ _ => ⟨rfl, rfl, (by decide : 19 + 0 ≤ _), (by decide : 130 + 0 ≤ _)⟩)
    dsimp only [Pt.U, Pt.locs, Pt.cells, Pt.slots] at X63 l63 y63 z63 st63 hQ63
    replace y63 : kx63 = 19 := y63
    replace z63 : nx63 = 130 := z63
    subst y63 z63
    obtain ⟨rfl, Nq63, hs63⟩ := hQ63
    have NN : Fr n0 Lx63 := by rw [l63]; exact Fr.app NN Nq63
    have pre : ∀ τ, Steps p.tables e below (T63.setTop (mkF m 292 #[.val (.int p1), .val (.int p2), .val (.int p3), .val (.int p4), .val (.int i1), .val (.int i2), .val (.int i3), .val (.ref r_4), .val (.ref r_5), .val (.ref r_6), .val (.ref b7), .val e00, .val e01, .val e02, .val e10, .val e11, .val e12, .val e30, .val e31, .val e32, .val (.ref b25), .val (.int z0.2.2.2), .val (.int z1.2.2.2), .val (.int z3.2.2.2), .val (.int (2 : Int32)), .val (.int z3.2.2.2), .val e30, .val e31, .val e32] [(.int z3.2.2.2)])) τ → G τ := fun τ κ => pre τ (st63.trans κ)
    have pre : ∀ τ, Steps p.tables e below (T63.setTop (mkF m 294 #[.val (.int p1), .val (.int p2), .val (.int p3), .val (.int p4), .val (.int i1), .val (.int i2), .val (.int i3), .val (.ref r_4), .val (.ref r_5), .val (.ref r_6), .val (.ref b7), .val e00, .val e01, .val e02, .val e10, .val e11, .val e12, .val e30, .val e31, .val e32, .val (.ref b25), .val (.int z0.2.2.2), .val (.int z1.2.2.2), .val (.int z3.2.2.2), .val (.int (2 : Int32)), .val (.int z3.2.2.2), .val e30, .val e31, .val e32] [(.int z3.2.2.2), (.int z3.2.2.2)])) τ → G τ := fun τ κ => pre τ (by
      refine XS.iload X63.here hx rfl (hb hby at_292) rfl ?_
      show Steps p.tables e below (T63.setTop (mkF m 294 #[.val (.int p1), .val (.int p2), .val (.int p3), .val (.int p4), .val (.int i1), .val (.int i2), .val (.int i3), .val (.ref r_4), .val (.ref r_5), .val (.ref r_6), .val (.ref b7), .val e00, .val e01, .val e02, .val e10, .val e11, .val e12, .val e30, .val e31, .val e32, .val (.ref b25), .val (.int z0.2.2.2), .val (.int z1.2.2.2), .val (.int z3.2.2.2), .val (.int (2 : Int32)), .val (.int z3.2.2.2), .val e30, .val e31, .val e32] [(.int z3.2.2.2), (.int z3.2.2.2)])) τ
      exact κ)
    have hc64 : z3.2.2.2 = z3.2.2.2 := rfl
    have pre : ∀ τ, Steps p.tables e below (T63.setTop (mkF m 300 #[.val (.int p1), .val (.int p2), .val (.int p3), .val (.int p4), .val (.int i1), .val (.int i2), .val (.int i3), .val (.ref r_4), .val (.ref r_5), .val (.ref r_6), .val (.ref b7), .val e00, .val e01, .val e02, .val e10, .val e11, .val e12, .val e30, .val e31, .val e32, .val (.ref b25), .val (.int z0.2.2.2), .val (.int z1.2.2.2), .val (.int z3.2.2.2), .val (.int (2 : Int32)), .val (.int z3.2.2.2), .val e30, .val e31, .val e32] [(.int (0 : Int32)), (.ref b25)])) τ → G τ := fun τ κ => pre τ (by
      refine XS.icmpNo X63.here hx rfl (hb hby at_294) rfl (teq hc64).2 ?_
      show Steps p.tables e below (T63.setTop (mkF m 297 #[.val (.int p1), .val (.int p2), .val (.int p3), .val (.int p4), .val (.int i1), .val (.int i2), .val (.int i3), .val (.ref r_4), .val (.ref r_5), .val (.ref r_6), .val (.ref b7), .val e00, .val e01, .val e02, .val e10, .val e11, .val e12, .val e30, .val e31, .val e32, .val (.ref b25), .val (.int z0.2.2.2), .val (.int z1.2.2.2), .val (.int z3.2.2.2), .val (.int (2 : Int32)), .val (.int z3.2.2.2), .val e30, .val e31, .val e32] [])) τ
      refine XS.aload X63.here hx rfl (hb hby at_297) rfl rfl ?_
      show Steps p.tables e below (T63.setTop (mkF m 299 #[.val (.int p1), .val (.int p2), .val (.int p3), .val (.int p4), .val (.int i1), .val (.int i2), .val (.int i3), .val (.ref r_4), .val (.ref r_5), .val (.ref r_6), .val (.ref b7), .val e00, .val e01, .val e02, .val e10, .val e11, .val e12, .val e30, .val e31, .val e32, .val (.ref b25), .val (.int z0.2.2.2), .val (.int z1.2.2.2), .val (.int z3.2.2.2), .val (.int (2 : Int32)), .val (.int z3.2.2.2), .val e30, .val e31, .val e32] [(.ref b25)])) τ
      refine XS.iconst X63.here hx rfl (hb hby at_299) ?_
      show Steps p.tables e below (T63.setTop (mkF m 300 #[.val (.int p1), .val (.int p2), .val (.int p3), .val (.int p4), .val (.int i1), .val (.int i2), .val (.int i3), .val (.ref r_4), .val (.ref r_5), .val (.ref r_6), .val (.ref b7), .val e00, .val e01, .val e02, .val e10, .val e11, .val e12, .val e30, .val e31, .val e32, .val (.ref b25), .val (.int z0.2.2.2), .val (.int z1.2.2.2), .val (.int z3.2.2.2), .val (.int (2 : Int32)), .val (.int z3.2.2.2), .val e30, .val e31, .val e32] [(.int (0 : Int32)), (.ref b25)])) τ
      exact κ)
    obtain ⟨cq65, kq65, q65a, q65b, q65c⟩ := isOf hZ hs63 E_b25
    obtain ⟨_, _, ⟨T65, Lx65, kx65, nx65⟩, -, X65, ⟨Lc65, hQ65, l65, y65, z65⟩, st65⟩ := X63.virtualBack hx (y := (⟨"coppice/marshal/context/NamespaceScope", "prefix", "(I)Ljava/lang/String;"⟩ : MethodName)) (z := (⟨"coppice/marshal/context/NamespaceScope", "prefix", "(I)Ljava/lang/String;"⟩ : MethodName)) hown (mvT hZ (hw _ (List.mem_of_getElem? (i := 86) rfl))) (mvT hZ (hw _ (List.mem_of_getElem? (i := 87) rfl))) (notFace_of_selects (args := #[]) (mvT hZ (hw _ (List.mem_of_getElem? (i := 89) rfl)))) (mvT hZ (hw _ (List.mem_of_getElem? (i := 89) rfl))) (mvT hZ (hw _ (List.mem_of_getElem? (i := 88) rfl))) (by decide) (backOf (W := 0) (rm14 l Z a0 hw [] b25 (0 : Int32) pf_26 kf_26 (3 : Int32) pfz_62 ((own_rs z3.2.1 (z3.2.2.2.toInt - z3.2.2.2.toInt).toNat z3.2.2.2 (z3.1, z3.2.2.1)).1) T62.heap n0 Zn F_pf_62 V_pf_62 L_pf_62 ⟨by decide, by decide⟩) hZ (hw _ (List.mem_of_getElem? (i := 90) rfl)) (hw _ (List.mem_of_getElem? (i := 38) rfl)) (by decide) (by decide)) q65a q65c (g := (mkF m 300 #[.val (.int p1), .val (.int p2), .val (.int p3), .val (.int p4), .val (.int i1), .val (.int i2), .val (.int i3), .val (.ref r_4), .val (.ref r_5), .val (.ref r_6), .val (.ref b7), .val e00, .val e01, .val e02, .val e10, .val e11, .val e12, .val e30, .val e31, .val e32, .val (.ref b25), .val (.int z0.2.2.2), .val (.int z1.2.2.2), .val (.int z3.2.2.2), .val (.int (2 : Int32)), .val (.int z3.2.2.2), .val e30, .val e31, .val e32] [(.int (0 : Int32)), (.ref b25)])) rfl (by rw [hml]; rfl) (Steps.refl _) (argsL := [(.int (0 : Int32))]) (rest := []) (lenOf pd_6 rfl) rfl (by show 2 * 0 + _ ≤ _; exact Nat.le_of_eq rfl) (hb hby at_300) (fun _ _ => ⟨rfl, hs63, (by decide : 19 + 0 ≤ _), (by decide : 130 + 0 ≤ _)⟩)
    dsimp only [Pt.U, Pt.locs, Pt.cells, Pt.slots] at X65 l65 y65 z65 st65 hQ65
    replace y65 : kx65 = 19 := y65
    replace z65 : nx65 = 130 := z65
    subst y65 z65
    obtain ⟨rfl, Nq65, hs65, F_r_65⟩ := hQ65
    have NN : Fr n0 Lx65 := by rw [l65]; exact Fr.app NN Nq65
    have F_r_65 : own_S Z T62.heap (pfz_62.getD ((0 : Int32)).toNatClampNeg .null) (((own_rs z3.2.1 (z3.2.2.2.toInt - z3.2.2.2.toInt).toNat z3.2.2.2 (z3.1, z3.2.2.1)).1).getD ((0 : Int32)).toNatClampNeg none) := hs65 ▸ F_r_65
    have pre : ∀ τ, Steps p.tables e below (T65.setTop (mkF m 303 #[.val (.int p1), .val (.int p2), .val (.int p3), .val (.int p4), .val (.int i1), .val (.int i2), .val (.int i3), .val (.ref r_4), .val (.ref r_5), .val (.ref r_6), .val (.ref b7), .val e00, .val e01, .val e02, .val e10, .val e11, .val e12, .val e30, .val e31, .val e32, .val (.ref b25), .val (.int z0.2.2.2), .val (.int z1.2.2.2), .val (.int z3.2.2.2), .val (.int (2 : Int32)), .val (.int z3.2.2.2), .val e30, .val e31, .val e32] [(pfz_62.getD ((0 : Int32)).toNatClampNeg .null)])) τ → G τ := fun τ κ => pre τ (st65.trans κ)
    have pre : ∀ τ, Steps p.tables e below (T65.setTop (mkF m 305 #[.val (.int p1), .val (.int p2), .val (.int p3), .val (.int p4), .val (.int i1), .val (.int i2), .val (.int i3), .val (.ref r_4), .val (.ref r_5), .val (.ref r_6), .val (.ref b7), .val e00, .val e01, .val e02, .val e10, .val e11, .val e12, .val e30, .val e31, .val e32, .val (.ref b25), .val (.int z0.2.2.2), .val (.int z1.2.2.2), .val (.int z3.2.2.2), .val (.int (2 : Int32)), .val (.int z3.2.2.2), .val e30, .val e31, .val e32] [e30, (pfz_62.getD ((0 : Int32)).toNatClampNeg .null)])) τ → G τ := fun τ κ => pre τ (by
      refine XS.aload X65.here hx rfl (hb hby at_303) rfl (own_S_ref F_e30) ?_
      show Steps p.tables e below (T65.setTop (mkF m 305 #[.val (.int p1), .val (.int p2), .val (.int p3), .val (.int p4), .val (.int i1), .val (.int i2), .val (.int i3), .val (.ref r_4), .val (.ref r_5), .val (.ref r_6), .val (.ref b7), .val e00, .val e01, .val e02, .val e10, .val e11, .val e12, .val e30, .val e31, .val e32, .val (.ref b25), .val (.int z0.2.2.2), .val (.int z1.2.2.2), .val (.int z3.2.2.2), .val (.int (2 : Int32)), .val (.int z3.2.2.2), .val e30, .val e31, .val e32] [e30, (pfz_62.getD ((0 : Int32)).toNatClampNeg .null)])) τ
      exact κ)
    obtain ⟨_, _, ⟨T66, Lx66, kx66, nx66⟩, -, X66, ⟨Lc66, hQ66, l66, y66, z66⟩, st66⟩ := Jvm.LawKit.callS X65 hx (y := (⟨"coppice/marshal/context/NamespaceScopeRestorePinLaw", "eq", "(Ljava/lang/String;Ljava/lang/String;)Z"⟩ : MethodName)) hown (mvT hZ (hw _ (List.mem_of_getElem? (i := 91) rfl))) (mvT hZ (hw _ (List.mem_of_getElem? (i := 92) rfl))) (mvT hZ (hw _ (List.mem_of_getElem? (i := 2) rfl))) (mvT hZ (hw _ (List.mem_of_getElem? (i := 93) rfl))) (by decide) (backOf (W := 0) (rm15 l Z a0 hw [] (pfz_62.getD ((0 : Int32)).toNatClampNeg .null) e30 (((own_rs z3.2.1 (z3.2.2.2.toInt - z3.2.2.2.toInt).toNat z3.2.2.2 (z3.1, z3.2.2.1)).1).getD ((0 : Int32)).toNatClampNeg none) (so3.getD ((0 : Int32)).toNatClampNeg none) cw T62.heap n0 Zn F_r_65 F_e30 S_c hcw) hZ (hw _ (List.mem_of_getElem? (i := 93) rfl)) (hw _ (List.mem_of_getElem? (i := 2) rfl)) (by decide) (by decide)) (g := (mkF m 305 #[.val (.int p1), .val (.int p2), .val (.int p3), .val (.int p4), .val (.int i1), .val (.int i2), .val (.int i3), .val (.ref r_4), .val (.ref r_5), .val (.ref r_6), .val (.ref b7), .val e00, .val e01, .val e02, .val e10, .val e11, .val e12, .val e30, .val e31, .val e32, .val (.ref b25), .val (.int z0.2.2.2), .val (.int z1.2.2.2), .val (.int z3.2.2.2), .val (.int (2 : Int32)), .val (.int z3.2.2.2), .val e30, .val e31, .val e32] [e30, (pfz_62.getD ((0 : Int32)).toNatClampNeg .null)])) rfl (by rw [hml]; rfl) (argsL := [(pfz_62.getD ((0 : Int32)).toNatClampNeg .null), e30]) (rest := []) (lenOf pd_10 rfl) rfl (by show 2 * 0 + _ ≤ _; exact Nat.le_of_eq rfl) (hb hby at_305) (fun _ _ => ⟨rfl, hs65, (by decide : 19 + 0 ≤ _), (by decide : 130 + 0 ≤ _)⟩)
    dsimp only [Pt.U, Pt.locs, Pt.cells, Pt.slots] at X66 l66 y66 z66 st66 hQ66
    replace y66 : kx66 = 19 := y66
    replace z66 : nx66 = 130 := z66
    subst y66 z66
    obtain ⟨rfl, Nq66, hs66⟩ := hQ66
    have NN : Fr n0 Lx66 := by rw [l66]; exact Fr.app NN Nq66
    have pre : ∀ τ, Steps p.tables e below (T66.setTop (mkF m 308 #[.val (.int p1), .val (.int p2), .val (.int p3), .val (.int p4), .val (.int i1), .val (.int i2), .val (.int i3), .val (.ref r_4), .val (.ref r_5), .val (.ref r_6), .val (.ref b7), .val e00, .val e01, .val e02, .val e10, .val e11, .val e12, .val e30, .val e31, .val e32, .val (.ref b25), .val (.int z0.2.2.2), .val (.int z1.2.2.2), .val (.int z3.2.2.2), .val (.int (2 : Int32)), .val (.int z3.2.2.2), .val e30, .val e31, .val e32] [(.int (own_eqo (((own_rs z3.2.1 (z3.2.2.2.toInt - z3.2.2.2.toInt).toNat z3.2.2.2 (z3.1, z3.2.2.1)).1).getD ((0 : Int32)).toNatClampNeg none) (so3.getD ((0 : Int32)).toNatClampNeg none)))])) τ → G τ := fun τ κ => pre τ (st66 τ κ)
    have hc67 : ¬ ((own_eqo (((own_rs z3.2.1 (z3.2.2.2.toInt - z3.2.2.2.toInt).toNat z3.2.2.2 (z3.1, z3.2.2.1)).1).getD ((0 : Int32)).toNatClampNeg none) (so3.getD ((0 : Int32)).toNatClampNeg none)) = (0 : Int32)) := (by rw [hfin, hz3s]; exact own_eqo1 _)
    have pre : ∀ τ, Steps p.tables e below (T66.setTop (mkF m 314 #[.val (.int p1), .val (.int p2), .val (.int p3), .val (.int p4), .val (.int i1), .val (.int i2), .val (.int i3), .val (.ref r_4), .val (.ref r_5), .val (.ref r_6), .val (.ref b7), .val e00, .val e01, .val e02, .val e10, .val e11, .val e12, .val e30, .val e31, .val e32, .val (.ref b25), .val (.int z0.2.2.2), .val (.int z1.2.2.2), .val (.int z3.2.2.2), .val (.int (2 : Int32)), .val (.int z3.2.2.2), .val e30, .val e31, .val e32] [(.int (1 : Int32)), (.ref b25)])) τ → G τ := fun τ κ => pre τ (by
      refine XS.ifNo X66.here hx rfl (hb hby at_308) rfl ((if0 _ _).trans (feq hc67).1) ?_
      show Steps p.tables e below (T66.setTop (mkF m 311 #[.val (.int p1), .val (.int p2), .val (.int p3), .val (.int p4), .val (.int i1), .val (.int i2), .val (.int i3), .val (.ref r_4), .val (.ref r_5), .val (.ref r_6), .val (.ref b7), .val e00, .val e01, .val e02, .val e10, .val e11, .val e12, .val e30, .val e31, .val e32, .val (.ref b25), .val (.int z0.2.2.2), .val (.int z1.2.2.2), .val (.int z3.2.2.2), .val (.int (2 : Int32)), .val (.int z3.2.2.2), .val e30, .val e31, .val e32] [])) τ
      refine XS.aload X66.here hx rfl (hb hby at_311) rfl rfl ?_
      show Steps p.tables e below (T66.setTop (mkF m 313 #[.val (.int p1), .val (.int p2), .val (.int p3), .val (.int p4), .val (.int i1), .val (.int i2), .val (.int i3), .val (.ref r_4), .val (.ref r_5), .val (.ref r_6), .val (.ref b7), .val e00, .val e01, .val e02, .val e10, .val e11, .val e12, .val e30, .val e31, .val e32, .val (.ref b25), .val (.int z0.2.2.2), .val (.int z1.2.2.2), .val (.int z3.2.2.2), .val (.int (2 : Int32)), .val (.int z3.2.2.2), .val e30, .val e31, .val e32] [(.ref b25)])) τ
      refine XS.iconst X66.here hx rfl (hb hby at_313) ?_
      show Steps p.tables e below (T66.setTop (mkF m 314 #[.val (.int p1), .val (.int p2), .val (.int p3), .val (.int p4), .val (.int i1), .val (.int i2), .val (.int i3), .val (.ref r_4), .val (.ref r_5), .val (.ref r_6), .val (.ref b7), .val e00, .val e01, .val e02, .val e10, .val e11, .val e12, .val e30, .val e31, .val e32, .val (.ref b25), .val (.int z0.2.2.2), .val (.int z1.2.2.2), .val (.int z3.2.2.2), .val (.int (2 : Int32)), .val (.int z3.2.2.2), .val e30, .val e31, .val e32] [(.int (1 : Int32)), (.ref b25)])) τ
      exact κ)
    obtain ⟨cq68, kq68, q68a, q68b, q68c⟩ := isOf hZ hs66 E_b25
    obtain ⟨_, _, ⟨T68, Lx68, kx68, nx68⟩, -, X68, ⟨Lc68, hQ68, l68, y68, z68⟩, st68⟩ := X66.virtualBack hx (y := (⟨"coppice/marshal/context/NamespaceScope", "prefix", "(I)Ljava/lang/String;"⟩ : MethodName)) (z := (⟨"coppice/marshal/context/NamespaceScope", "prefix", "(I)Ljava/lang/String;"⟩ : MethodName)) hown (mvT hZ (hw _ (List.mem_of_getElem? (i := 86) rfl))) (mvT hZ (hw _ (List.mem_of_getElem? (i := 87) rfl))) (notFace_of_selects (args := #[]) (mvT hZ (hw _ (List.mem_of_getElem? (i := 89) rfl)))) (mvT hZ (hw _ (List.mem_of_getElem? (i := 89) rfl))) (mvT hZ (hw _ (List.mem_of_getElem? (i := 88) rfl))) (by decide) (backOf (W := 0) (rm14 l Z a0 hw [] b25 (1 : Int32) pf_26 kf_26 (3 : Int32) pfz_62 ((own_rs z3.2.1 (z3.2.2.2.toInt - z3.2.2.2.toInt).toNat z3.2.2.2 (z3.1, z3.2.2.1)).1) T62.heap n0 Zn F_pf_62 V_pf_62 L_pf_62 ⟨by decide, by decide⟩) hZ (hw _ (List.mem_of_getElem? (i := 90) rfl)) (hw _ (List.mem_of_getElem? (i := 38) rfl)) (by decide) (by decide)) q68a q68c (g := (mkF m 314 #[.val (.int p1), .val (.int p2), .val (.int p3), .val (.int p4), .val (.int i1), .val (.int i2), .val (.int i3), .val (.ref r_4), .val (.ref r_5), .val (.ref r_6), .val (.ref b7), .val e00, .val e01, .val e02, .val e10, .val e11, .val e12, .val e30, .val e31, .val e32, .val (.ref b25), .val (.int z0.2.2.2), .val (.int z1.2.2.2), .val (.int z3.2.2.2), .val (.int (2 : Int32)), .val (.int z3.2.2.2), .val e30, .val e31, .val e32] [(.int (1 : Int32)), (.ref b25)])) rfl (by rw [hml]; rfl) (Steps.refl _) (argsL := [(.int (1 : Int32))]) (rest := []) (lenOf pd_6 rfl) rfl (by show 2 * 0 + _ ≤ _; exact Nat.le_of_eq rfl) (hb hby at_314) (fun _ _ => ⟨rfl, hs66, (by decide : 19 + 0 ≤ _), (by decide : 130 + 0 ≤ _)⟩)
    dsimp only [Pt.U, Pt.locs, Pt.cells, Pt.slots] at X68 l68 y68 z68 st68 hQ68
    replace y68 : kx68 = 19 := y68
    replace z68 : nx68 = 130 := z68
    subst y68 z68
    obtain ⟨rfl, Nq68, hs68, F_r_68⟩ := hQ68
    have NN : Fr n0 Lx68 := by rw [l68]; exact Fr.app NN Nq68
    have F_r_68 : own_S Z T62.heap (pfz_62.getD ((1 : Int32)).toNatClampNeg .null) (((own_rs z3.2.1 (z3.2.2.2.toInt - z3.2.2.2.toInt).toNat z3.2.2.2 (z3.1, z3.2.2.1)).1).getD ((1 : Int32)).toNatClampNeg none) := hs68 ▸ F_r_68
    have pre : ∀ τ, Steps p.tables e below (T68.setTop (mkF m 317 #[.val (.int p1), .val (.int p2), .val (.int p3), .val (.int p4), .val (.int i1), .val (.int i2), .val (.int i3), .val (.ref r_4), .val (.ref r_5), .val (.ref r_6), .val (.ref b7), .val e00, .val e01, .val e02, .val e10, .val e11, .val e12, .val e30, .val e31, .val e32, .val (.ref b25), .val (.int z0.2.2.2), .val (.int z1.2.2.2), .val (.int z3.2.2.2), .val (.int (2 : Int32)), .val (.int z3.2.2.2), .val e30, .val e31, .val e32] [(pfz_62.getD ((1 : Int32)).toNatClampNeg .null)])) τ → G τ := fun τ κ => pre τ (st68.trans κ)
    have pre : ∀ τ, Steps p.tables e below (T68.setTop (mkF m 319 #[.val (.int p1), .val (.int p2), .val (.int p3), .val (.int p4), .val (.int i1), .val (.int i2), .val (.int i3), .val (.ref r_4), .val (.ref r_5), .val (.ref r_6), .val (.ref b7), .val e00, .val e01, .val e02, .val e10, .val e11, .val e12, .val e30, .val e31, .val e32, .val (.ref b25), .val (.int z0.2.2.2), .val (.int z1.2.2.2), .val (.int z3.2.2.2), .val (.int (2 : Int32)), .val (.int z3.2.2.2), .val e30, .val e31, .val e32] [e31, (pfz_62.getD ((1 : Int32)).toNatClampNeg .null)])) τ → G τ := fun τ κ => pre τ (by
      refine XS.aload X68.here hx rfl (hb hby at_317) rfl (own_S_ref F_e31) ?_
      show Steps p.tables e below (T68.setTop (mkF m 319 #[.val (.int p1), .val (.int p2), .val (.int p3), .val (.int p4), .val (.int i1), .val (.int i2), .val (.int i3), .val (.ref r_4), .val (.ref r_5), .val (.ref r_6), .val (.ref b7), .val e00, .val e01, .val e02, .val e10, .val e11, .val e12, .val e30, .val e31, .val e32, .val (.ref b25), .val (.int z0.2.2.2), .val (.int z1.2.2.2), .val (.int z3.2.2.2), .val (.int (2 : Int32)), .val (.int z3.2.2.2), .val e30, .val e31, .val e32] [e31, (pfz_62.getD ((1 : Int32)).toNatClampNeg .null)])) τ
      exact κ)
    obtain ⟨_, _, ⟨T69, Lx69, kx69, nx69⟩, -, X69, ⟨Lc69, hQ69, l69, y69, z69⟩, st69⟩ := Jvm.LawKit.callS X68 hx (y := (⟨"coppice/marshal/context/NamespaceScopeRestorePinLaw", "eq", "(Ljava/lang/String;Ljava/lang/String;)Z"⟩ : MethodName)) hown (mvT hZ (hw _ (List.mem_of_getElem? (i := 91) rfl))) (mvT hZ (hw _ (List.mem_of_getElem? (i := 92) rfl))) (mvT hZ (hw _ (List.mem_of_getElem? (i := 2) rfl))) (mvT hZ (hw _ (List.mem_of_getElem? (i := 93) rfl))) (by decide) (backOf (W := 0) (rm15 l Z a0 hw [] (pfz_62.getD ((1 : Int32)).toNatClampNeg .null) e31 (((own_rs z3.2.1 (z3.2.2.2.toInt - z3.2.2.2.toInt).toNat z3.2.2.2 (z3.1, z3.2.2.1)).1).getD ((1 : Int32)).toNatClampNeg none) (so3.getD ((1 : Int32)).toNatClampNeg none) cw T62.heap n0 Zn F_r_68 F_e31 S_c hcw) hZ (hw _ (List.mem_of_getElem? (i := 93) rfl)) (hw _ (List.mem_of_getElem? (i := 2) rfl)) (by decide) (by decide)) (g := (mkF m 319 #[.val (.int p1), .val (.int p2), .val (.int p3), .val (.int p4), .val (.int i1), .val (.int i2), .val (.int i3), .val (.ref r_4), .val (.ref r_5), .val (.ref r_6), .val (.ref b7), .val e00, .val e01, .val e02, .val e10, .val e11, .val e12, .val e30, .val e31, .val e32, .val (.ref b25), .val (.int z0.2.2.2), .val (.int z1.2.2.2), .val (.int z3.2.2.2), .val (.int (2 : Int32)), .val (.int z3.2.2.2), .val e30, .val e31, .val e32] [e31, (pfz_62.getD ((1 : Int32)).toNatClampNeg .null)])) rfl (by rw [hml]; rfl) (argsL := [(pfz_62.getD ((1 : Int32)).toNatClampNeg .null), e31]) (rest := []) (lenOf pd_10 rfl) rfl (by show 2 * 0 + _ ≤ _; exact Nat.le_of_eq rfl) (hb hby at_319) (fun _ _ => ⟨rfl, hs68, (by decide : 19 + 0 ≤ _), (by decide : 130 + 0 ≤ _)⟩)
    dsimp only [Pt.U, Pt.locs, Pt.cells, Pt.slots] at X69 l69 y69 z69 st69 hQ69
    replace y69 : kx69 = 19 := y69
    replace z69 : nx69 = 130 := z69
    subst y69 z69
    obtain ⟨rfl, Nq69, hs69⟩ := hQ69
    have NN : Fr n0 Lx69 := by rw [l69]; exact Fr.app NN Nq69
    have pre : ∀ τ, Steps p.tables e below (T69.setTop (mkF m 322 #[.val (.int p1), .val (.int p2), .val (.int p3), .val (.int p4), .val (.int i1), .val (.int i2), .val (.int i3), .val (.ref r_4), .val (.ref r_5), .val (.ref r_6), .val (.ref b7), .val e00, .val e01, .val e02, .val e10, .val e11, .val e12, .val e30, .val e31, .val e32, .val (.ref b25), .val (.int z0.2.2.2), .val (.int z1.2.2.2), .val (.int z3.2.2.2), .val (.int (2 : Int32)), .val (.int z3.2.2.2), .val e30, .val e31, .val e32] [(.int (own_eqo (((own_rs z3.2.1 (z3.2.2.2.toInt - z3.2.2.2.toInt).toNat z3.2.2.2 (z3.1, z3.2.2.1)).1).getD ((1 : Int32)).toNatClampNeg none) (so3.getD ((1 : Int32)).toNatClampNeg none)))])) τ → G τ := fun τ κ => pre τ (st69 τ κ)
    have hc70 : ¬ ((own_eqo (((own_rs z3.2.1 (z3.2.2.2.toInt - z3.2.2.2.toInt).toNat z3.2.2.2 (z3.1, z3.2.2.1)).1).getD ((1 : Int32)).toNatClampNeg none) (so3.getD ((1 : Int32)).toNatClampNeg none)) = (0 : Int32)) := (by rw [hfin, hz3s]; exact own_eqo1 _)
    have pre : ∀ τ, Steps p.tables e below (T69.setTop (mkF m 328 #[.val (.int p1), .val (.int p2), .val (.int p3), .val (.int p4), .val (.int i1), .val (.int i2), .val (.int i3), .val (.ref r_4), .val (.ref r_5), .val (.ref r_6), .val (.ref b7), .val e00, .val e01, .val e02, .val e10, .val e11, .val e12, .val e30, .val e31, .val e32, .val (.ref b25), .val (.int z0.2.2.2), .val (.int z1.2.2.2), .val (.int z3.2.2.2), .val (.int (2 : Int32)), .val (.int z3.2.2.2), .val e30, .val e31, .val e32] [(.int (2 : Int32)), (.ref b25)])) τ → G τ := fun τ κ => pre τ (by
      refine XS.ifNo X69.here hx rfl (hb hby at_322) rfl ((if0 _ _).trans (feq hc70).1) ?_
      show Steps p.tables e below (T69.setTop (mkF m 325 #[.val (.int p1), .val (.int p2), .val (.int p3), .val (.int p4), .val (.int i1), .val (.int i2), .val (.int i3), .val (.ref r_4), .val (.ref r_5), .val (.ref r_6), .val (.ref b7), .val e00, .val e01, .val e02, .val e10, .val e11, .val e12, .val e30, .val e31, .val e32, .val (.ref b25), .val (.int z0.2.2.2), .val (.int z1.2.2.2), .val (.int z3.2.2.2), .val (.int (2 : Int32)), .val (.int z3.2.2.2), .val e30, .val e31, .val e32] [])) τ
      refine XS.aload X69.here hx rfl (hb hby at_325) rfl rfl ?_
      show Steps p.tables e below (T69.setTop (mkF m 327 #[.val (.int p1), .val (.int p2), .val (.int p3), .val (.int p4), .val (.int i1), .val (.int i2), .val (.int i3), .val (.ref r_4), .val (.ref r_5), .val (.ref r_6), .val (.ref b7), .val e00, .val e01, .val e02, .val e10, .val e11, .val e12, .val e30, .val e31, .val e32, .val (.ref b25), .val (.int z0.2.2.2), .val (.int z1.2.2.2), .val (.int z3.2.2.2), .val (.int (2 : Int32)), .val (.int z3.2.2.2), .val e30, .val e31, .val e32] [(.ref b25)])) τ
      refine XS.iconst X69.here hx rfl (hb hby at_327) ?_
      show Steps p.tables e below (T69.setTop (mkF m 328 #[.val (.int p1), .val (.int p2), .val (.int p3), .val (.int p4), .val (.int i1), .val (.int i2), .val (.int i3), .val (.ref r_4), .val (.ref r_5), .val (.ref r_6), .val (.ref b7), .val e00, .val e01, .val e02, .val e10, .val e11, .val e12, .val e30, .val e31, .val e32, .val (.ref b25), .val (.int z0.2.2.2), .val (.int z1.2.2.2), .val (.int z3.2.2.2), .val (.int (2 : Int32)), .val (.int z3.2.2.2), .val e30, .val e31, .val e32] [(.int (2 : Int32)), (.ref b25)])) τ
      exact κ)
    obtain ⟨cq71, kq71, q71a, q71b, q71c⟩ := isOf hZ hs69 E_b25
    obtain ⟨_, _, ⟨T71, Lx71, kx71, nx71⟩, -, X71, ⟨Lc71, hQ71, l71, y71, z71⟩, st71⟩ := X69.virtualBack hx (y := (⟨"coppice/marshal/context/NamespaceScope", "prefix", "(I)Ljava/lang/String;"⟩ : MethodName)) (z := (⟨"coppice/marshal/context/NamespaceScope", "prefix", "(I)Ljava/lang/String;"⟩ : MethodName)) hown (mvT hZ (hw _ (List.mem_of_getElem? (i := 86) rfl))) (mvT hZ (hw _ (List.mem_of_getElem? (i := 87) rfl))) (notFace_of_selects (args := #[]) (mvT hZ (hw _ (List.mem_of_getElem? (i := 89) rfl)))) (mvT hZ (hw _ (List.mem_of_getElem? (i := 89) rfl))) (mvT hZ (hw _ (List.mem_of_getElem? (i := 88) rfl))) (by decide) (backOf (W := 0) (rm14 l Z a0 hw [] b25 (2 : Int32) pf_26 kf_26 (3 : Int32) pfz_62 ((own_rs z3.2.1 (z3.2.2.2.toInt - z3.2.2.2.toInt).toNat z3.2.2.2 (z3.1, z3.2.2.1)).1) T62.heap n0 Zn F_pf_62 V_pf_62 L_pf_62 ⟨by decide, by decide⟩) hZ (hw _ (List.mem_of_getElem? (i := 90) rfl)) (hw _ (List.mem_of_getElem? (i := 38) rfl)) (by decide) (by decide)) q71a q71c (g := (mkF m 328 #[.val (.int p1), .val (.int p2), .val (.int p3), .val (.int p4), .val (.int i1), .val (.int i2), .val (.int i3), .val (.ref r_4), .val (.ref r_5), .val (.ref r_6), .val (.ref b7), .val e00, .val e01, .val e02, .val e10, .val e11, .val e12, .val e30, .val e31, .val e32, .val (.ref b25), .val (.int z0.2.2.2), .val (.int z1.2.2.2), .val (.int z3.2.2.2), .val (.int (2 : Int32)), .val (.int z3.2.2.2), .val e30, .val e31, .val e32] [(.int (2 : Int32)), (.ref b25)])) rfl (by rw [hml]; rfl) (Steps.refl _) (argsL := [(.int (2 : Int32))]) (rest := []) (lenOf pd_6 rfl) rfl (by show 2 * 0 + _ ≤ _; exact Nat.le_of_eq rfl) (hb hby at_328) (fun _ _ => ⟨rfl, hs69, (by decide : 19 + 0 ≤ _), (by decide : 130 + 0 ≤ _)⟩)
    dsimp only [Pt.U, Pt.locs, Pt.cells, Pt.slots] at X71 l71 y71 z71 st71 hQ71
    replace y71 : kx71 = 19 := y71
    replace z71 : nx71 = 130 := z71
    subst y71 z71
    obtain ⟨rfl, Nq71, hs71, F_r_71⟩ := hQ71
    have NN : Fr n0 Lx71 := by rw [l71]; exact Fr.app NN Nq71
    have F_r_71 : own_S Z T62.heap (pfz_62.getD ((2 : Int32)).toNatClampNeg .null) (((own_rs z3.2.1 (z3.2.2.2.toInt - z3.2.2.2.toInt).toNat z3.2.2.2 (z3.1, z3.2.2.1)).1).getD ((2 : Int32)).toNatClampNeg none) := hs71 ▸ F_r_71
    have pre : ∀ τ, Steps p.tables e below (T71.setTop (mkF m 331 #[.val (.int p1), .val (.int p2), .val (.int p3), .val (.int p4), .val (.int i1), .val (.int i2), .val (.int i3), .val (.ref r_4), .val (.ref r_5), .val (.ref r_6), .val (.ref b7), .val e00, .val e01, .val e02, .val e10, .val e11, .val e12, .val e30, .val e31, .val e32, .val (.ref b25), .val (.int z0.2.2.2), .val (.int z1.2.2.2), .val (.int z3.2.2.2), .val (.int (2 : Int32)), .val (.int z3.2.2.2), .val e30, .val e31, .val e32] [(pfz_62.getD ((2 : Int32)).toNatClampNeg .null)])) τ → G τ := fun τ κ => pre τ (st71.trans κ)
    have pre : ∀ τ, Steps p.tables e below (T71.setTop (mkF m 333 #[.val (.int p1), .val (.int p2), .val (.int p3), .val (.int p4), .val (.int i1), .val (.int i2), .val (.int i3), .val (.ref r_4), .val (.ref r_5), .val (.ref r_6), .val (.ref b7), .val e00, .val e01, .val e02, .val e10, .val e11, .val e12, .val e30, .val e31, .val e32, .val (.ref b25), .val (.int z0.2.2.2), .val (.int z1.2.2.2), .val (.int z3.2.2.2), .val (.int (2 : Int32)), .val (.int z3.2.2.2), .val e30, .val e31, .val e32] [e32, (pfz_62.getD ((2 : Int32)).toNatClampNeg .null)])) τ → G τ := fun τ κ => pre τ (by
      refine XS.aload X71.here hx rfl (hb hby at_331) rfl (own_S_ref F_e32) ?_
      show Steps p.tables e below (T71.setTop (mkF m 333 #[.val (.int p1), .val (.int p2), .val (.int p3), .val (.int p4), .val (.int i1), .val (.int i2), .val (.int i3), .val (.ref r_4), .val (.ref r_5), .val (.ref r_6), .val (.ref b7), .val e00, .val e01, .val e02, .val e10, .val e11, .val e12, .val e30, .val e31, .val e32, .val (.ref b25), .val (.int z0.2.2.2), .val (.int z1.2.2.2), .val (.int z3.2.2.2), .val (.int (2 : Int32)), .val (.int z3.2.2.2), .val e30, .val e31, .val e32] [e32, (pfz_62.getD ((2 : Int32)).toNatClampNeg .null)])) τ
      exact κ)
    obtain ⟨_, _, ⟨T72, Lx72, kx72, nx72⟩, -, X72, ⟨Lc72, hQ72, l72, y72, z72⟩, st72⟩ := Jvm.LawKit.callS X71 hx (y := (⟨"coppice/marshal/context/NamespaceScopeRestorePinLaw", "eq", "(Ljava/lang/String;Ljava/lang/String;)Z"⟩ : MethodName)) hown (mvT hZ (hw _ (List.mem_of_getElem? (i := 91) rfl))) (mvT hZ (hw _ (List.mem_of_getElem? (i := 92) rfl))) (mvT hZ (hw _ (List.mem_of_getElem? (i := 2) rfl))) (mvT hZ (hw _ (List.mem_of_getElem? (i := 93) rfl))) (by decide) (backOf (W := 0) (rm15 l Z a0 hw [] (pfz_62.getD ((2 : Int32)).toNatClampNeg .null) e32 (((own_rs z3.2.1 (z3.2.2.2.toInt - z3.2.2.2.toInt).toNat z3.2.2.2 (z3.1, z3.2.2.1)).1).getD ((2 : Int32)).toNatClampNeg none) (so3.getD ((2 : Int32)).toNatClampNeg none) cw T62.heap n0 Zn F_r_71 F_e32 S_c hcw) hZ (hw _ (List.mem_of_getElem? (i := 93) rfl)) (hw _ (List.mem_of_getElem? (i := 2) rfl)) (by decide) (by decide)) (g := (mkF m 333 #[.val (.int p1), .val (.int p2), .val (.int p3), .val (.int p4), .val (.int i1), .val (.int i2), .val (.int i3), .val (.ref r_4), .val (.ref r_5), .val (.ref r_6), .val (.ref b7), .val e00, .val e01, .val e02, .val e10, .val e11, .val e12, .val e30, .val e31, .val e32, .val (.ref b25), .val (.int z0.2.2.2), .val (.int z1.2.2.2), .val (.int z3.2.2.2), .val (.int (2 : Int32)), .val (.int z3.2.2.2), .val e30, .val e31, .val e32] [e32, (pfz_62.getD ((2 : Int32)).toNatClampNeg .null)])) rfl (by rw [hml]; rfl) (argsL := [(pfz_62.getD ((2 : Int32)).toNatClampNeg .null), e32]) (rest := []) (lenOf pd_10 rfl) rfl (by show 2 * 0 + _ ≤ _; exact Nat.le_of_eq rfl) (hb hby at_333) (fun _ _ => ⟨rfl, hs71, (by decide : 19 + 0 ≤ _), (by decide : 130 + 0 ≤ _)⟩)
    dsimp only [Pt.U, Pt.locs, Pt.cells, Pt.slots] at X72 l72 y72 z72 st72 hQ72
    replace y72 : kx72 = 19 := y72
    replace z72 : nx72 = 130 := z72
    subst y72 z72
    obtain ⟨rfl, Nq72, hs72⟩ := hQ72
    have NN : Fr n0 Lx72 := by rw [l72]; exact Fr.app NN Nq72
    have pre : ∀ τ, Steps p.tables e below (T72.setTop (mkF m 336 #[.val (.int p1), .val (.int p2), .val (.int p3), .val (.int p4), .val (.int i1), .val (.int i2), .val (.int i3), .val (.ref r_4), .val (.ref r_5), .val (.ref r_6), .val (.ref b7), .val e00, .val e01, .val e02, .val e10, .val e11, .val e12, .val e30, .val e31, .val e32, .val (.ref b25), .val (.int z0.2.2.2), .val (.int z1.2.2.2), .val (.int z3.2.2.2), .val (.int (2 : Int32)), .val (.int z3.2.2.2), .val e30, .val e31, .val e32] [(.int (own_eqo (((own_rs z3.2.1 (z3.2.2.2.toInt - z3.2.2.2.toInt).toNat z3.2.2.2 (z3.1, z3.2.2.1)).1).getD ((2 : Int32)).toNatClampNeg none) (so3.getD ((2 : Int32)).toNatClampNeg none)))])) τ → G τ := fun τ κ => pre τ (st72 τ κ)
    have hc73 : ¬ ((own_eqo (((own_rs z3.2.1 (z3.2.2.2.toInt - z3.2.2.2.toInt).toNat z3.2.2.2 (z3.1, z3.2.2.1)).1).getD ((2 : Int32)).toNatClampNeg none) (so3.getD ((2 : Int32)).toNatClampNeg none)) = (0 : Int32)) := (by rw [hfin, hz3s]; exact own_eqo1 _)
    have pre : ∀ τ, Steps p.tables e below (T72.setTop (mkF m 344 #[.val (.int p1), .val (.int p2), .val (.int p3), .val (.int p4), .val (.int i1), .val (.int i2), .val (.int i3), .val (.ref r_4), .val (.ref r_5), .val (.ref r_6), .val (.ref b7), .val e00, .val e01, .val e02, .val e10, .val e11, .val e12, .val e30, .val e31, .val e32, .val (.ref b25), .val (.int z0.2.2.2), .val (.int z1.2.2.2), .val (.int z3.2.2.2), .val (.int (2 : Int32)), .val (.int z3.2.2.2), .val e30, .val e31, .val e32] [(.int (1 : Int32))])) τ → G τ := fun τ κ => pre τ (by
      refine XS.ifNo X72.here hx rfl (hb hby at_336) rfl ((if0 _ _).trans (feq hc73).1) ?_
      show Steps p.tables e below (T72.setTop (mkF m 339 #[.val (.int p1), .val (.int p2), .val (.int p3), .val (.int p4), .val (.int i1), .val (.int i2), .val (.int i3), .val (.ref r_4), .val (.ref r_5), .val (.ref r_6), .val (.ref b7), .val e00, .val e01, .val e02, .val e10, .val e11, .val e12, .val e30, .val e31, .val e32, .val (.ref b25), .val (.int z0.2.2.2), .val (.int z1.2.2.2), .val (.int z3.2.2.2), .val (.int (2 : Int32)), .val (.int z3.2.2.2), .val e30, .val e31, .val e32] [])) τ
      refine XS.iconst X72.here hx rfl (hb hby at_339) ?_
      show Steps p.tables e below (T72.setTop (mkF m 340 #[.val (.int p1), .val (.int p2), .val (.int p3), .val (.int p4), .val (.int i1), .val (.int i2), .val (.int i3), .val (.ref r_4), .val (.ref r_5), .val (.ref r_6), .val (.ref b7), .val e00, .val e01, .val e02, .val e10, .val e11, .val e12, .val e30, .val e31, .val e32, .val (.ref b25), .val (.int z0.2.2.2), .val (.int z1.2.2.2), .val (.int z3.2.2.2), .val (.int (2 : Int32)), .val (.int z3.2.2.2), .val e30, .val e31, .val e32] [(.int (1 : Int32))])) τ
      refine XS.goto X72.here hx rfl (pc0 := 340) (pc' := 344) rfl (hb hby at_340) (by decide) (by decide) ?_
      show Steps p.tables e below (T72.setTop (mkF m 344 #[.val (.int p1), .val (.int p2), .val (.int p3), .val (.int p4), .val (.int i1), .val (.int i2), .val (.int i3), .val (.ref r_4), .val (.ref r_5), .val (.ref r_6), .val (.ref b7), .val e00, .val e01, .val e02, .val e10, .val e11, .val e12, .val e30, .val e31, .val e32, .val (.ref b25), .val (.int z0.2.2.2), .val (.int z1.2.2.2), .val (.int z3.2.2.2), .val (.int (2 : Int32)), .val (.int z3.2.2.2), .val e30, .val e31, .val e32] [(.int (1 : Int32))])) τ
      exact κ)
    have hkT := Nat.le_trans hk (Nat.le_of_eq (congrArg Array.size (Eq.symm hs72)))
    obtain ⟨fsα, hr, hrun, hended, hRE⟩ := X72.leaveW hS hkT (v := some (.int (1 : Int32))) (fun h => by rw [Bd.returns] at h; cases h)
    refine hGL ⟨_, _, hG _ (pre _ ?_), hrun, hended, _, _, rfl, ?_, ?_, ⟨_, rfl⟩, hRE.2.1, hRE.2.2.1, hRE.2.2.2.mono (by decide) (by decide)⟩
    · exact retN X72 hx (t := .boolean) Bd.returns (by simp) (hb hby at_344) hr
    · show Q0 Z p1 p2 p3 p4 cw h0 n0 _ T72.heap _
      rw [hs72]
      exact ⟨rfl, NN⟩
    · show CHr Z own_EL s.vm s.heap T72.vm T72.heap
      rw [hh, hs72]
      exact HR.trans (CHv.at X72 hZ hEL H)
set_option maxRecDepth 65536 in
set_option maxHeartbeats 40000000 in
theorem comes_1 {Post : Tables → Env → Array Value → State → Outcome → State → Prop} (hpost : ∀ tb e args s v u, (limb_1_1.after args s (.returned v) u = true ∧ limb_1_2.after args s (.returned v) u = true ∧ True) → FramedW s (.returned v) u (Jvm.fieldLocs frame_1_writes args s ++ Jvm.arrayLocs frame_1_arrays args s ++ Jvm.staticLocs frame_1_statics s) 32 6336 → Post tb e args s (.returned v) u) :
    ArmFor flags0 classFile x code maxLocals ret World_1 tables_1 room_1 Calls_1 rest_1 Pre_1 Post := by
  intro l hfl _ _ p e ha hc hk s m args below hf hA hF happ hP
  obtain ⟨hcalls, hrest, hpre⟩ := hP
  obtain ⟨-, -, -, hnamed, -, -, -, hat⟩ := (Spec.applies_iff hf).mp happ
  obtain ⟨hg, hn⟩ := and_e (Cond.before_iff.mp (show (Jvm.Cond.and given_1 narrow_1).before args s = true from hpre))
  obtain ⟨gv1, gv2⟩ := and_e hg
  obtain ⟨gv3, gv4⟩ := and_e gv2
  obtain ⟨gv5, gv6⟩ := and_e gv4
  obtain ⟨gv7, gv8⟩ := and_e gv6
  obtain ⟨w0, w1, w2, w3, rfl⟩ : ∃ w0 w1 w2 w3 : Value, args = #[w0, w1, w2, w3] := by
    have hs : args.size = 4 := by simpa [Cond.value, given_1] using gv1
    obtain ⟨L⟩ := args
    match L, hs with
    | [w0, w1, w2, w3], _ => exact ⟨w0, w1, w2, w3, rfl⟩
  have hw := fun d (hd : d ∈ tables_1) => atoms_spec (ws := Jvm.Cond.code x code maxLocals ret :: tables_1) hat d (List.mem_cons_of_mem _ hd)
  have hfit : Fit s := fun {y c} hc i hi => by
    obtain ⟨ha, rfl⟩ := Array.getElem?_eq_some_iff.mp hc
    have q := List.all_eq_true.mp ((Array.all_eq_true_iff_forall_mem.mp hF) _ (Array.getElem_mem ha)) i (List.mem_range.mpr hi)
    simpa [Array.getElem?_eq_getElem hi] using q
  obtain ⟨hsets, hown0⟩ := atoms_of _ (rest_1_c_eq ▸ (show rest_1_c.before _ s = true from hrest))
  have hr0 := Cond.before_iff.mp hown0
  obtain ⟨i0, ei0⟩ := is_v gv3
  obtain rfl : w0 = (.int i0) := Option.some.inj ei0
  obtain ⟨i1, ei1⟩ := is_v gv5
  obtain rfl : w1 = (.int i1) := Option.some.inj ei1
  obtain ⟨i2, ei2⟩ := is_v gv7
  obtain rfl : w2 = (.int i2) := Option.some.inj ei2
  obtain ⟨i3, ei3⟩ := is_v gv8
  obtain rfl : w3 = (.int i3) := Option.some.inj ei3
  have hEL : EW s _ own_EL := (EW.cons (hw _ (List.mem_of_getElem? (i := 62) rfl)) (by decide) (EW.cons (hw _ (List.mem_of_getElem? (i := 63) rfl)) (by decide) (EW.cons (hw _ (List.mem_of_getElem? (i := 8) rfl)) (by decide) (EW.cons (hw _ (List.mem_of_getElem? (i := 19) rfl)) (by decide) (EW.cons (hw _ (List.mem_of_getElem? (i := 94) rfl)) (by decide) (EW.cons (hw _ (List.mem_of_getElem? (i := 95) rfl)) (by decide) EW.nil))))))
  have wS : ∀ a ∈ Bundle.stringAtoms, a.before #[.int i0, .int i1, .int i2, .int i3] s = true := by
    intro a ha
    simp only [Bundle.stringAtoms, List.mem_cons, List.not_mem_nil, or_false] at ha
    rcases ha with rfl | rfl | rfl | rfl | rfl | rfl | rfl
    · exact (hw _ (List.mem_of_getElem? (i := 9) rfl))
    · exact (hw _ (List.mem_of_getElem? (i := 10) rfl))
    · exact (hw _ (List.mem_of_getElem? (i := 11) rfl))
    · exact (hw _ (List.mem_of_getElem? (i := 12) rfl))
    · exact (hw _ (List.mem_of_getElem? (i := 13) rfl))
    · exact (hw _ (List.mem_of_getElem? (i := 14) rfl))
    · exact (hw _ (List.mem_of_getElem? (i := 15) rfl))
  have hheld : ∀ p ∈ own_EL, Jvm.Lit.constHeld s p.1 p.2 := hcalls.1
  obtain ⟨cw, ecw⟩ := is_v (Cond.before_iff.mp (hsets _ (List.mem_of_getElem? (i := 1) rfl)))
  have S_c := Sta.start ecw (Or.inl (hsets _ (List.mem_of_getElem? (i := 0) rfl)))
  have hcw : ¬ cw = (0 : Int32) := gotF (Cond.eq_ints ecw (Term.int_eval (0))) (not_v (Cond.before_iff.mp (hsets _ (List.mem_of_getElem? (i := 2) rfl))))
  obtain ⟨n, o, h1, h2, h3, _, L, rfl, ⟨rfl, N⟩, hCHr, hq⟩ := rm0 l s _ hw hEL wS tables_1 i0 i1 i2 i3 cw s.heap s.heap.size (Nat.le_refl _) S_c hcw p e ha hc hk s m _ below hf ((Spec.applies_iff_loose hf).mp happ).1 ⟨rfl, State.Warmed39.refl s, rfl, CHv.start hEL hheld (hsets _ (List.mem_of_getElem? (i := 2) rfl)) (hw _ (List.mem_of_getElem? (i := 11) rfl)) (hw _ (List.mem_of_getElem? (i := 10) rfl))⟩ trivial
  refine ⟨n, _, h1, h2, h3, hpost _ _ _ _ _ _ ⟨Cond.after_iff.mpr rfl, Cond.after_iff.mpr (eq_i res_at (Term.int_eval (1)) rfl), trivial⟩ ⟨hq.1, hq.2.1, hq.2.2.1, (hq.2.2.2.sift fun y hy => Or.inr (N y hy)).mono (by decide) (by decide)⟩⟩
theorem main_1_1 : Claimed_1_1 := comes_1 fun _ _ _ _ _ _ h hF => ⟨h.1, hF⟩
theorem main_1_2 : Claimed_1_2 := comes_1 fun _ _ _ _ _ _ h hF => ⟨h.2.1, hF⟩
end Jvm.Pilot.@@N@@
namespace Jvm.Pilot.@@N@@
open Jvm Jvm.ClassFile Sem Op Lib Jvm.Free Jvm.Stand Jvm.Pilot.@@N@@.Jvm.D
/-! MADE BY PROGRAM (witnessworld.py) out of the Statement's table words and the real class files: 19 classes; the members and pool entries that the words name. The judged class is class 1, her method 1. -/
namespace start1
open Jvm.ClassFile
def u (s : String) : CpInfo := .utf8 (stringToUtf16 s)
/-- a pool by its gaps: so many unusable entries, then the entry; so many at the end -/
def gap : Nat → List CpInfo → List CpInfo
  | 0, r => r
  | n + 1, r => .unusable :: gap n r
def poolList (es : List (Nat × CpInfo)) (last : Nat) : List CpInfo := es.foldr (fun e r => gap e.1 (e.2 :: r)) (gap last [])
def pool (es : List (Nat × CpInfo)) (last : Nat) : Array CpInfo := ⟨poolList es last⟩
def fileOf (pool : Array CpInfo) (this : Nat) (attrs : Array Attribute := #[]) (ms : Array MethodInfo := #[]) (fl : Nat := 33) (sup : Nat := 0) (ifs : Array Nat := #[]) (fds : Array FieldInfo := #[]) : ClassFile where
  minorVersion := 0
  majorVersion := 65
  constantPool := pool
  accessFlags := fl
  thisClass := this
  superClass := sup
  interfaces := ifs
  fields := fds
  methods := ms
  attributes := attrs
def plain (name : String) (sup : Option ClassId) : Class where
  name := name
  kind := .ordinary
  loader := none
  accessFlags := 33
  super := sup
  interfaces := #[]
  cf := none
  fields := #[]
  methods := #[]
  instanceTypes := #[]
  staticTypes := #[]
  resolved := #[]
  callSites := []
  init := .initialized
  statics := none
  mirror := none

def pool0 : Array CpInfo := pool [(5, u "<init>"), (0, u "()V"), (1, .class_ 10), (1, u "java/lang/Object")] 113

def k0c0 : Code := { maxStack := 0, maxLocals := 1, code := object_method_1_code, exceptionTable := #[], attributes := #[] }
def k0m0 : Method := { name := "<init>", desc := "()V", sig := { parameters := [], returnType := none }, accessFlags := 1, code := some k0c0 }
/-- java/lang/Object -/
def k0 : Class := { plain "java/lang/Object" none with
  accessFlags := 33
  interfaces := #[]
  cf := some (fileOf pool0 8 #[] #[{ accessFlags := 1, nameIndex := 5, descriptorIndex := 6, attributes := #[] }] 33 0 #[] #[])
  fields := #[]
  methods := #[k0m0]
  instanceTypes := #[]
  staticTypes := #[]
  resolved := Array.replicate 124 none
  statics := none }

def pool1 : Array CpInfo := pool [(2, .class_ 4), (1, u "java/lang/Object"), (0, u "<init>"), (0, u "()V"), (0, .methodref 8 9), (0, .class_ 10), (0, .nameAndType 11 12), (0, u "coppice/marshal/context/NamespaceScopeRestorePinLaw"), (0, u "idx"), (0, u "(I)I"), (0, .methodref 8 14), (0, .nameAndType 15 16), (0, u "pick"), (0, u "(I)Ljava/lang/String;"), (0, .class_ 18), (0, u "java/lang/String"), (0, .string 20), (0, u ""), (0, .string 22), (0, u "xml"), (0, .methodref 8 24), (0, .nameAndType 25 26), (0, u "decl"), (0, u "([Ljava/lang/String;ILjava/lang/String;)V"), (0, .class_ 28), (0, u "coppice/marshal/context/NamespaceScope"), (0, .methodref 27 30), (0, .nameAndType 5 31), (0, u "(I)V"), (0, .methodref 27 33), (0, .nameAndType 34 35), (0, u "mark"), (0, u "()I"), (0, .methodref 27 37), (0, .nameAndType 38 39), (0, u "declare"), (0, u "(ILjava/lang/String;)V"), (0, .integer 2147483647), (0, .methodref 27 42), (0, .nameAndType 43 31), (0, u "restore"), (0, .methodref 27 45), (0, .nameAndType 46 16), (0, u "prefix"), (0, .methodref 8 48), (0, .nameAndType 49 50), (0, u "eq"), (0, u "(Ljava/lang/String;Ljava/lang/String;)Z"), (0, .string 52), (0, u "a"), (0, .string 54), (0, u "b"), (0, .methodref 17 56), (0, .nameAndType 57 58), (0, u "equals"), (0, u "(Ljava/lang/Object;)Z"), (2, u "law"), (0, u "(IIII)Z")] 5

def k1m0 : Method := { name := "<init>", desc := "()V", sig := { parameters := [], returnType := none }, accessFlags := 1, code := none }
def k1c1 : Code := { maxStack := 3, maxLocals := 29, code := code, exceptionTable := #[], attributes := #[] }
def k1m1 : Method := { name := "law", desc := "(IIII)Z", sig := { parameters := [.int, .int, .int, .int], returnType := some .boolean }, accessFlags := 9, code := some k1c1 }
def k1c2 : Code := { maxStack := 2, maxLocals := 1, code := method_3_code, exceptionTable := #[], attributes := #[] }
def k1m2 : Method := { name := "idx", desc := "(I)I", sig := { parameters := [.int], returnType := some .int }, accessFlags := 10, code := some k1c2 }
def k1c3 : Code := { maxStack := 2, maxLocals := 2, code := method_4_code, exceptionTable := #[], attributes := #[] }
def k1m3 : Method := { name := "pick", desc := "(I)Ljava/lang/String;", sig := { parameters := [.int], returnType := some (.object "java/lang/String") }, accessFlags := 10, code := some k1c3 }
def k1c4 : Code := { maxStack := 3, maxLocals := 3, code := method_5_code, exceptionTable := #[], attributes := #[] }
def k1m4 : Method := { name := "decl", desc := "([Ljava/lang/String;ILjava/lang/String;)V", sig := { parameters := [(.array (.object "java/lang/String")), .int, (.object "java/lang/String")], returnType := none }, accessFlags := 10, code := some k1c4 }
def k1c5 : Code := { maxStack := 2, maxLocals := 2, code := method_6_code, exceptionTable := #[], attributes := #[] }
def k1m5 : Method := { name := "eq", desc := "(Ljava/lang/String;Ljava/lang/String;)Z", sig := { parameters := [(.object "java/lang/String"), (.object "java/lang/String")], returnType := some .boolean }, accessFlags := 10, code := some k1c5 }
/-- coppice/marshal/context/NamespaceScopeRestorePinLaw -/
def k1 : Class := { plain "coppice/marshal/context/NamespaceScopeRestorePinLaw" (some 0) with
  accessFlags := 49
  interfaces := #[]
  cf := some (fileOf pool1 8 #[] #[{ accessFlags := 1, nameIndex := 5, descriptorIndex := 6, attributes := #[] }, { accessFlags := 9, nameIndex := 61, descriptorIndex := 62, attributes := #[] }, { accessFlags := 10, nameIndex := 11, descriptorIndex := 12, attributes := #[] }, { accessFlags := 10, nameIndex := 15, descriptorIndex := 16, attributes := #[] }, { accessFlags := 10, nameIndex := 25, descriptorIndex := 26, attributes := #[] }, { accessFlags := 10, nameIndex := 49, descriptorIndex := 50, attributes := #[] }] 49 2 #[] #[])
  fields := #[]
  methods := #[k1m0, k1m1, k1m2, k1m3, k1m4, k1m5]
  instanceTypes := #[]
  staticTypes := #[]
  resolved := Array.replicate 68 none
  statics := none }

def pool2 : Array CpInfo := pool [(1, .class_ 2), (0, u "java/io/Serializable"), (0, .class_ 4), (0, u "java/lang/Object")] 2

/-- java/io/Serializable -/
def k2 : Class := { plain "java/io/Serializable" (some 0) with
  accessFlags := 1537
  interfaces := #[]
  cf := some (fileOf pool2 1 #[] #[] 1537 3 #[] #[])
  fields := #[]
  methods := #[]
  instanceTypes := #[]
  staticTypes := #[]
  resolved := Array.replicate 7 none
  statics := none }

def pool3 : Array CpInfo := pool [(1, .class_ 2), (0, u "java/lang/Comparable"), (0, .class_ 4), (0, u "java/lang/Object")] 7

/-- java/lang/Comparable -/
def k3 : Class := { plain "java/lang/Comparable" (some 0) with
  accessFlags := 1537
  interfaces := #[]
  cf := some (fileOf pool3 1 #[] #[] 1537 3 #[] #[])
  fields := #[]
  methods := #[]
  instanceTypes := #[]
  staticTypes := #[]
  resolved := Array.replicate 12 none
  statics := none }

def pool4 : Array CpInfo := pool [(2, .class_ 4), (1, u "java/lang/CharSequence"), (42, .class_ 48), (0, u "java/lang/CharSequence$1CodePointIterator"), (10, .class_ 60), (0, u "java/lang/CharSequence$1CharIterator"), (5, .class_ 67), (0, u "java/lang/Object")] 63

/-- java/lang/CharSequence -/
def k4 : Class := { plain "java/lang/CharSequence" (some 0) with
  accessFlags := 1537
  interfaces := #[]
  cf := some (fileOf pool4 2 #[.nestMembers #[47, 59]] #[] 1537 66 #[] #[])
  fields := #[]
  methods := #[]
  instanceTypes := #[]
  staticTypes := #[]
  resolved := Array.replicate 131 none
  statics := none }

def pool5 : Array CpInfo := pool [(1, .class_ 2), (0, u "java/lang/constant/Constable"), (0, .class_ 4), (0, u "java/lang/Object")] 6

/-- java/lang/constant/Constable -/
def k5 : Class := { plain "java/lang/constant/Constable" (some 0) with
  accessFlags := 1537
  interfaces := #[]
  cf := some (fileOf pool5 1 #[] #[] 1537 3 #[] #[])
  fields := #[]
  methods := #[]
  instanceTypes := #[]
  staticTypes := #[]
  resolved := Array.replicate 11 none
  statics := none }

def pool6 : Array CpInfo := pool [(1, .class_ 2), (0, u "java/lang/constant/ConstantDesc"), (0, .class_ 4), (0, u "java/lang/Object")] 32

/-- java/lang/constant/ConstantDesc -/
def k6 : Class := { plain "java/lang/constant/ConstantDesc" (some 0) with
  accessFlags := 1537
  interfaces := #[]
  cf := some (fileOf pool6 1 #[] #[] 1537 3 #[] #[])
  fields := #[]
  methods := #[]
  instanceTypes := #[]
  staticTypes := #[]
  resolved := Array.replicate 37 none
  statics := none }

def pool7 : Array CpInfo := pool [(2, .class_ 4), (1, u "java/lang/Object"), (0, u "<init>"), (0, u "()V"), (2, .fieldref 10 11), (0, .class_ 12), (0, .nameAndType 13 14), (0, u "java/lang/String"), (0, u "value"), (0, u "[B"), (0, .fieldref 10 16), (0, .nameAndType 17 18), (0, u "coder"), (0, u "B"), (2, u "hash"), (0, u "I"), (2, u "hashIsZero"), (0, u "Z"), (11, .fieldref 10 39), (0, .nameAndType 40 26), (0, u "COMPACT_STRINGS"), (66, .class_ 109), (1, u "java/lang/StringLatin1"), (431, .methodref 107 542), (0, .nameAndType 543 544), (0, u "equals"), (0, u "([B[B)Z"), (28, u "(Ljava/lang/Object;)Z"), (1, .class_ 576), (0, u "java/lang/CharSequence"), (22, u "CASE_INSENSITIVE_ORDER"), (0, u "Ljava/util/Comparator;"), (500, u "serialPersistentFields"), (0, u "[Ljava/io/ObjectStreamField;"), (0, .class_ 1104), (0, u "java/lang/String$CaseInsensitiveComparator"), (1, .class_ 1107), (0, u "java/io/Serializable"), (0, .class_ 1109), (0, u "java/lang/Comparable"), (0, .class_ 1111), (0, u "java/lang/constant/Constable"), (0, .class_ 1113), (0, u "java/lang/constant/ConstantDesc"), (2, u "serialVersionUID"), (0, u "J"), (3, u "REPL"), (0, u "C"), (2, u "LATIN1"), (1, u "UTF16")] 323

def k7m0 : Method := { name := "<init>", desc := "()V", sig := { parameters := [], returnType := none }, accessFlags := 1, code := none }
def k7c1 : Code := { maxStack := 2, maxLocals := 3, code := jdk_42_method_66_code, exceptionTable := #[], attributes := #[] }
def k7m1 : Method := { name := "equals", desc := "(Ljava/lang/Object;)Z", sig := { parameters := [(.object "java/lang/Object")], returnType := some .boolean }, accessFlags := 1, code := some k7c1 }
/-- java/lang/String -/
def k7 : Class := { plain "java/lang/String" (some 0) with
  accessFlags := 49
  interfaces := #[2, 3, 4, 5, 6]
  cf := some (fileOf pool7 10 #[.nestMembers #[1103]] #[{ accessFlags := 1, nameIndex := 5, descriptorIndex := 6, attributes := #[] }, { accessFlags := 1, nameIndex := 543, descriptorIndex := 573, attributes := #[] }] 49 2 #[1106, 1108, 575, 1110, 1112] #[{ accessFlags := 18, nameIndex := 13, descriptorIndex := 14, attributes := #[] }, { accessFlags := 18, nameIndex := 17, descriptorIndex := 18, attributes := #[] }, { accessFlags := 2, nameIndex := 21, descriptorIndex := 22, attributes := #[] }, { accessFlags := 2, nameIndex := 25, descriptorIndex := 26, attributes := #[] }, { accessFlags := 26, nameIndex := 1116, descriptorIndex := 1117, attributes := #[] }, { accessFlags := 24, nameIndex := 40, descriptorIndex := 26, attributes := #[] }, { accessFlags := 26, nameIndex := 1101, descriptorIndex := 1102, attributes := #[] }, { accessFlags := 26, nameIndex := 1121, descriptorIndex := 1122, attributes := #[] }, { accessFlags := 25, nameIndex := 599, descriptorIndex := 600, attributes := #[] }, { accessFlags := 24, nameIndex := 1125, descriptorIndex := 18, attributes := #[] }, { accessFlags := 24, nameIndex := 1127, descriptorIndex := 18, attributes := #[] }])
  fields := #[{ name := "value", type := (.array .byte), accessFlags := 18, slot := 0, constantValue := 0 }, { name := "coder", type := .byte, accessFlags := 18, slot := 1, constantValue := 0 }, { name := "hash", type := .int, accessFlags := 2, slot := 2, constantValue := 0 }, { name := "hashIsZero", type := .boolean, accessFlags := 2, slot := 3, constantValue := 0 }, { name := "serialVersionUID", type := .long, accessFlags := 26, slot := 0, constantValue := 0 }, { name := "COMPACT_STRINGS", type := .boolean, accessFlags := 24, slot := 1, constantValue := 0 }, { name := "serialPersistentFields", type := (.array (.object "java/io/ObjectStreamField")), accessFlags := 26, slot := 2, constantValue := 0 }, { name := "REPL", type := .char, accessFlags := 26, slot := 3, constantValue := 0 }, { name := "CASE_INSENSITIVE_ORDER", type := (.object "java/util/Comparator"), accessFlags := 25, slot := 4, constantValue := 0 }, { name := "LATIN1", type := .byte, accessFlags := 24, slot := 5, constantValue := 0 }, { name := "UTF16", type := .byte, accessFlags := 24, slot := 6, constantValue := 0 }]
  methods := #[k7m0, k7m1]
  instanceTypes := #[(.array .byte), .byte, .int, .boolean]
  staticTypes := #[.long, .boolean, (.array (.object "java/io/ObjectStreamField")), .char, (.object "java/util/Comparator"), .byte, .byte]
  resolved := Array.replicate 1451 none
  statics := some 0 }

def pool8 : Array CpInfo := pool [(4, .class_ 6), (1, u "java/lang/Object"), (0, u "<init>"), (0, u "()V"), (5, .class_ 16), (1, u "java/lang/StringLatin1"), (104, u "$assertionsDisabled"), (0, u "Z"), (98, .class_ 223), (1, u "java/lang/StringLatin1$LinesSpliterator"), (57, u "equals"), (0, u "([B[B)Z"), (107, .class_ 391), (0, u "java/lang/StringLatin1$CharsSpliterator")] 3

def k8m0 : Method := { name := "<init>", desc := "()V", sig := { parameters := [], returnType := none }, accessFlags := 0, code := none }
def k8c1 : Code := { maxStack := 3, maxLocals := 3, code := jdk_43_method_13_code, exceptionTable := #[], attributes := #[] }
def k8m1 : Method := { name := "equals", desc := "([B[B)Z", sig := { parameters := [(.array .byte), (.array .byte)], returnType := some .boolean }, accessFlags := 9, code := some k8c1 }
/-- java/lang/StringLatin1 -/
def k8 : Class := { plain "java/lang/StringLatin1" (some 0) with
  accessFlags := 48
  interfaces := #[]
  cf := some (fileOf pool8 14 #[.nestMembers #[390, 221]] #[{ accessFlags := 0, nameIndex := 7, descriptorIndex := 8, attributes := #[] }, { accessFlags := 9, nameIndex := 281, descriptorIndex := 282, attributes := #[] }] 48 4 #[] #[{ accessFlags := 4120, nameIndex := 121, descriptorIndex := 122, attributes := #[] }])
  fields := #[{ name := "$assertionsDisabled", type := .boolean, accessFlags := 4120, slot := 0, constantValue := 0 }]
  methods := #[k8m0, k8m1]
  instanceTypes := #[]
  staticTypes := #[.boolean]
  resolved := Array.replicate 395 none
  statics := none }

def pool9 : Array CpInfo := pool [(1, .methodref 2 3), (0, .class_ 4), (0, .nameAndType 5 6), (0, u "java/lang/Object"), (0, u "<init>"), (0, u "()V"), (0, .fieldref 8 9), (0, .class_ 10), (0, .nameAndType 11 12), (0, u "coppice/marshal/context/NamespaceScope"), (0, u "undoNamespaces"), (0, u "[I"), (0, .class_ 14), (0, u "java/lang/String"), (0, .fieldref 8 16), (0, .nameAndType 17 18), (0, u "undoPrefixes"), (0, u "[Ljava/lang/String;"), (0, .fieldref 8 20), (0, .nameAndType 21 18), (0, u "prefixes"), (0, .methodref 8 23), (0, .nameAndType 24 6), (0, u "reset"), (0, .methodref 26 27), (0, .class_ 28), (0, .nameAndType 29 30), (0, u "java/util/Arrays"), (0, u "fill"), (0, u "([Ljava/lang/Object;Ljava/lang/Object;)V"), (0, .string 32), (0, u ""), (0, .string 34), (0, u "xml"), (0, .fieldref 8 36), (0, .nameAndType 37 38), (0, u "undoCount"), (0, u "I"), (0, .methodref 13 40), (0, .nameAndType 41 42), (0, u "equals"), (0, u "(Ljava/lang/Object;)Z"), (0, .methodref 8 44), (0, .nameAndType 45 46), (0, u "bind"), (0, u "(ILjava/lang/String;)V"), (8, u "(I)V"), (2, u "prefix"), (0, u "(I)Ljava/lang/String;"), (0, u "mark"), (0, u "()I"), (0, u "declare"), (1, u "restore")] 2

def k9c0 : Code := { maxStack := 2, maxLocals := 2, code := prog_2_method_1_code, exceptionTable := #[], attributes := #[] }
def k9m0 : Method := { name := "<init>", desc := "(I)V", sig := { parameters := [.int], returnType := none }, accessFlags := 0, code := some k9c0 }
def k9c1 : Code := { maxStack := 3, maxLocals := 1, code := prog_2_method_2_code, exceptionTable := #[], attributes := #[] }
def k9m1 : Method := { name := "reset", desc := "()V", sig := { parameters := [], returnType := none }, accessFlags := 0, code := some k9c1 }
def k9c2 : Code := { maxStack := 2, maxLocals := 2, code := prog_2_method_3_code, exceptionTable := #[], attributes := #[] }
def k9m2 : Method := { name := "prefix", desc := "(I)Ljava/lang/String;", sig := { parameters := [.int], returnType := some (.object "java/lang/String") }, accessFlags := 0, code := some k9c2 }
def k9c3 : Code := { maxStack := 1, maxLocals := 1, code := prog_2_method_4_code, exceptionTable := #[], attributes := #[] }
def k9m3 : Method := { name := "mark", desc := "()I", sig := { parameters := [], returnType := some .int }, accessFlags := 0, code := some k9c3 }
def k9c4 : Code := { maxStack := 3, maxLocals := 4, code := prog_2_method_5_code, exceptionTable := #[], attributes := #[] }
def k9m4 : Method := { name := "declare", desc := "(ILjava/lang/String;)V", sig := { parameters := [.int, (.object "java/lang/String")], returnType := none }, accessFlags := 0, code := some k9c4 }
def k9c5 : Code := { maxStack := 4, maxLocals := 2, code := prog_2_method_6_code, exceptionTable := #[], attributes := #[] }
def k9m5 : Method := { name := "restore", desc := "(I)V", sig := { parameters := [.int], returnType := none }, accessFlags := 0, code := some k9c5 }
def k9c6 : Code := { maxStack := 4, maxLocals := 3, code := prog_2_method_7_code, exceptionTable := #[], attributes := #[] }
def k9m6 : Method := { name := "bind", desc := "(ILjava/lang/String;)V", sig := { parameters := [.int, (.object "java/lang/String")], returnType := none }, accessFlags := 2, code := some k9c6 }
/-- coppice/marshal/context/NamespaceScope -/
def k9 : Class := { plain "coppice/marshal/context/NamespaceScope" (some 0) with
  accessFlags := 48
  interfaces := #[]
  cf := some (fileOf pool9 8 #[] #[{ accessFlags := 0, nameIndex := 5, descriptorIndex := 55, attributes := #[] }, { accessFlags := 0, nameIndex := 24, descriptorIndex := 6, attributes := #[] }, { accessFlags := 0, nameIndex := 58, descriptorIndex := 59, attributes := #[] }, { accessFlags := 0, nameIndex := 60, descriptorIndex := 61, attributes := #[] }, { accessFlags := 0, nameIndex := 62, descriptorIndex := 46, attributes := #[] }, { accessFlags := 0, nameIndex := 64, descriptorIndex := 55, attributes := #[] }, { accessFlags := 2, nameIndex := 45, descriptorIndex := 46, attributes := #[] }] 48 2 #[] #[{ accessFlags := 18, nameIndex := 21, descriptorIndex := 18, attributes := #[] }, { accessFlags := 2, nameIndex := 11, descriptorIndex := 12, attributes := #[] }, { accessFlags := 2, nameIndex := 17, descriptorIndex := 18, attributes := #[] }, { accessFlags := 2, nameIndex := 37, descriptorIndex := 38, attributes := #[] }])
  fields := #[{ name := "prefixes", type := (.array (.object "java/lang/String")), accessFlags := 18, slot := 0, constantValue := 0 }, { name := "undoNamespaces", type := (.array .int), accessFlags := 2, slot := 1, constantValue := 0 }, { name := "undoPrefixes", type := (.array (.object "java/lang/String")), accessFlags := 2, slot := 2, constantValue := 0 }, { name := "undoCount", type := .int, accessFlags := 2, slot := 3, constantValue := 0 }]
  methods := #[k9m0, k9m1, k9m2, k9m3, k9m4, k9m5, k9m6]
  instanceTypes := #[(.array (.object "java/lang/String")), (.array .int), (.array (.object "java/lang/String")), .int]
  staticTypes := #[]
  resolved := Array.replicate 67 none
  statics := none }

def pool10 : Array CpInfo := pool [(2, .class_ 4), (1, u "java/lang/Object"), (0, u "<init>"), (0, u "()V"), (7, .class_ 16), (1, u "java/util/Arrays"), (57, .class_ 76), (1, u "java/util/Arrays$NaturalOrder"), (36, .class_ 115), (1, u "java/util/Arrays$LegacyMergeSort"), (1, u "Z"), (257, .class_ 376), (0, u "java/util/Arrays$ArrayList"), (68, u "$assertionsDisabled"), (269, u "MIN_ARRAY_SORT_GRAN"), (0, u "I"), (2, u "INSERTIONSORT_THRESHOLD"), (120, u "fill"), (17, u "([Ljava/lang/Object;Ljava/lang/Object;)V"), (116, .class_ 976), (0, u "java/util/Arrays$ArrayItr")] 52

def k10m0 : Method := { name := "<init>", desc := "()V", sig := { parameters := [], returnType := none }, accessFlags := 2, code := none }
def k10c1 : Code := { maxStack := 3, maxLocals := 4, code := jdk_65_method_117_code, exceptionTable := #[], attributes := #[] }
def k10m1 : Method := { name := "fill", desc := "([Ljava/lang/Object;Ljava/lang/Object;)V", sig := { parameters := [(.array (.object "java/lang/Object")), (.object "java/lang/Object")], returnType := none }, accessFlags := 9, code := some k10c1 }
/-- java/util/Arrays -/
def k10 : Class := { plain "java/util/Arrays" (some 0) with
  accessFlags := 49
  interfaces := #[]
  cf := some (fileOf pool10 14 #[.nestMembers #[975, 375, 113, 74]] #[{ accessFlags := 2, nameIndex := 5, descriptorIndex := 6, attributes := #[] }, { accessFlags := 9, nameIndex := 840, descriptorIndex := 858, attributes := #[] }] 49 2 #[] #[{ accessFlags := 26, nameIndex := 715, descriptorIndex := 716, attributes := #[] }, { accessFlags := 26, nameIndex := 719, descriptorIndex := 716, attributes := #[] }, { accessFlags := 4120, nameIndex := 445, descriptorIndex := 117, attributes := #[] }])
  fields := #[{ name := "MIN_ARRAY_SORT_GRAN", type := .int, accessFlags := 26, slot := 0, constantValue := 0 }, { name := "INSERTIONSORT_THRESHOLD", type := .int, accessFlags := 26, slot := 1, constantValue := 0 }, { name := "$assertionsDisabled", type := .boolean, accessFlags := 4120, slot := 2, constantValue := 0 }]
  methods := #[k10m0, k10m1]
  instanceTypes := #[]
  staticTypes := #[.int, .int, .boolean]
  resolved := Array.replicate 1029 none
  statics := none }

def pool11 : Array CpInfo := pool [(2, .class_ 4), (1, u "java/lang/Object"), (0, u "<init>"), (0, u "()V"), (17, .class_ 26), (1, u "jdk/internal/util/Preconditions"), (28, .class_ 56), (0, u "jdk/internal/util/Preconditions$4"), (57, .class_ 115), (0, u "jdk/internal/util/Preconditions$1"), (7, u "SIOOBE_FORMATTER"), (0, u "Ljava/util/function/BiFunction;"), (0, .class_ 126), (0, u "jdk/internal/util/Preconditions$2"), (3, u "AIOOBE_FORMATTER"), (0, .class_ 132), (0, u "jdk/internal/util/Preconditions$3"), (3, u "IOOBE_FORMATTER")] 57

def k11m0 : Method := { name := "<init>", desc := "()V", sig := { parameters := [], returnType := none }, accessFlags := 1, code := none }
/-- jdk/internal/util/Preconditions -/
def k11 : Class := { plain "jdk/internal/util/Preconditions" (some 0) with
  accessFlags := 33
  interfaces := #[]
  cf := some (fileOf pool11 24 #[.nestMembers #[55, 131, 125, 114]] #[{ accessFlags := 1, nameIndex := 5, descriptorIndex := 6, attributes := #[] }] 33 2 #[] #[{ accessFlags := 25, nameIndex := 123, descriptorIndex := 124, attributes := #[] }, { accessFlags := 25, nameIndex := 130, descriptorIndex := 124, attributes := #[] }, { accessFlags := 25, nameIndex := 136, descriptorIndex := 124, attributes := #[] }])
  fields := #[{ name := "SIOOBE_FORMATTER", type := (.object "java/util/function/BiFunction"), accessFlags := 25, slot := 0, constantValue := 0 }, { name := "AIOOBE_FORMATTER", type := (.object "java/util/function/BiFunction"), accessFlags := 25, slot := 1, constantValue := 0 }, { name := "IOOBE_FORMATTER", type := (.object "java/util/function/BiFunction"), accessFlags := 25, slot := 2, constantValue := 0 }]
  methods := #[k11m0]
  instanceTypes := #[]
  staticTypes := #[(.object "java/util/function/BiFunction"), (.object "java/util/function/BiFunction"), (.object "java/util/function/BiFunction")]
  resolved := Array.replicate 194 none
  statics := some 1 }

def pool12 : Array CpInfo := pool [(9, u "<init>"), (6, .class_ 18), (1, u "java/lang/Object"), (0, u "()V"), (1, .class_ 23), (1, u "jdk/internal/util/ArraysSupport"), (0, u "LOG2_ARRAY_LONG_INDEX_SCALE"), (0, u "I"), (2, u "U"), (0, u "Ljdk/internal/misc/Unsafe;"), (8, u "BIG_ENDIAN"), (0, u "Z"), (8, u "LOG2_BYTE_BIT_SIZE"), (4, u "LOG2_ARRAY_INT_INDEX_SCALE"), (54, u "JLA"), (0, u "Ljdk/internal/access/JavaLangAccess;"), (11, u "LOG2_ARRAY_BOOLEAN_INDEX_SCALE"), (9, u "LOG2_ARRAY_BYTE_INDEX_SCALE"), (5, u "LOG2_ARRAY_CHAR_INDEX_SCALE"), (5, u "LOG2_ARRAY_SHORT_INDEX_SCALE"), (18, u "LOG2_ARRAY_FLOAT_INDEX_SCALE"), (24, u "LOG2_ARRAY_DOUBLE_INDEX_SCALE"), (89, u "T_BOOLEAN"), (2, u "T_CHAR"), (1, u "T_FLOAT"), (1, u "T_DOUBLE"), (1, u "T_BYTE"), (1, u "T_SHORT"), (1, u "T_INT"), (1, u "T_LONG"), (1, u "SOFT_MAX_ARRAY_LENGTH")] 83

def k12m0 : Method := { name := "<init>", desc := "()V", sig := { parameters := [], returnType := none }, accessFlags := 2, code := none }
/-- jdk/internal/util/ArraysSupport -/
def k12 : Class := { plain "jdk/internal/util/ArraysSupport" (some 0) with
  accessFlags := 33
  interfaces := #[]
  cf := some (fileOf pool12 21 #[] #[{ accessFlags := 2, nameIndex := 9, descriptorIndex := 19, attributes := #[] }] 33 16 #[] #[{ accessFlags := 24, nameIndex := 28, descriptorIndex := 29, attributes := #[] }, { accessFlags := 26, nameIndex := 38, descriptorIndex := 39, attributes := #[] }, { accessFlags := 25, nameIndex := 121, descriptorIndex := 25, attributes := #[] }, { accessFlags := 25, nameIndex := 131, descriptorIndex := 25, attributes := #[] }, { accessFlags := 25, nameIndex := 137, descriptorIndex := 25, attributes := #[] }, { accessFlags := 25, nameIndex := 143, descriptorIndex := 25, attributes := #[] }, { accessFlags := 25, nameIndex := 53, descriptorIndex := 25, attributes := #[] }, { accessFlags := 25, nameIndex := 24, descriptorIndex := 25, attributes := #[] }, { accessFlags := 25, nameIndex := 162, descriptorIndex := 25, attributes := #[] }, { accessFlags := 25, nameIndex := 187, descriptorIndex := 25, attributes := #[] }, { accessFlags := 26, nameIndex := 48, descriptorIndex := 25, attributes := #[] }, { accessFlags := 25, nameIndex := 277, descriptorIndex := 25, attributes := #[] }, { accessFlags := 25, nameIndex := 280, descriptorIndex := 25, attributes := #[] }, { accessFlags := 25, nameIndex := 282, descriptorIndex := 25, attributes := #[] }, { accessFlags := 25, nameIndex := 284, descriptorIndex := 25, attributes := #[] }, { accessFlags := 25, nameIndex := 286, descriptorIndex := 25, attributes := #[] }, { accessFlags := 25, nameIndex := 288, descriptorIndex := 25, attributes := #[] }, { accessFlags := 25, nameIndex := 290, descriptorIndex := 25, attributes := #[] }, { accessFlags := 25, nameIndex := 292, descriptorIndex := 25, attributes := #[] }, { accessFlags := 26, nameIndex := 108, descriptorIndex := 109, attributes := #[] }, { accessFlags := 25, nameIndex := 294, descriptorIndex := 25, attributes := #[] }])
  fields := #[{ name := "U", type := (.object "jdk/internal/misc/Unsafe"), accessFlags := 24, slot := 0, constantValue := 0 }, { name := "BIG_ENDIAN", type := .boolean, accessFlags := 26, slot := 1, constantValue := 0 }, { name := "LOG2_ARRAY_BOOLEAN_INDEX_SCALE", type := .int, accessFlags := 25, slot := 2, constantValue := 0 }, { name := "LOG2_ARRAY_BYTE_INDEX_SCALE", type := .int, accessFlags := 25, slot := 3, constantValue := 0 }, { name := "LOG2_ARRAY_CHAR_INDEX_SCALE", type := .int, accessFlags := 25, slot := 4, constantValue := 0 }, { name := "LOG2_ARRAY_SHORT_INDEX_SCALE", type := .int, accessFlags := 25, slot := 5, constantValue := 0 }, { name := "LOG2_ARRAY_INT_INDEX_SCALE", type := .int, accessFlags := 25, slot := 6, constantValue := 0 }, { name := "LOG2_ARRAY_LONG_INDEX_SCALE", type := .int, accessFlags := 25, slot := 7, constantValue := 0 }, { name := "LOG2_ARRAY_FLOAT_INDEX_SCALE", type := .int, accessFlags := 25, slot := 8, constantValue := 0 }, { name := "LOG2_ARRAY_DOUBLE_INDEX_SCALE", type := .int, accessFlags := 25, slot := 9, constantValue := 0 }, { name := "LOG2_BYTE_BIT_SIZE", type := .int, accessFlags := 26, slot := 10, constantValue := 0 }, { name := "T_BOOLEAN", type := .int, accessFlags := 25, slot := 11, constantValue := 0 }, { name := "T_CHAR", type := .int, accessFlags := 25, slot := 12, constantValue := 0 }, { name := "T_FLOAT", type := .int, accessFlags := 25, slot := 13, constantValue := 0 }, { name := "T_DOUBLE", type := .int, accessFlags := 25, slot := 14, constantValue := 0 }, { name := "T_BYTE", type := .int, accessFlags := 25, slot := 15, constantValue := 0 }, { name := "T_SHORT", type := .int, accessFlags := 25, slot := 16, constantValue := 0 }, { name := "T_INT", type := .int, accessFlags := 25, slot := 17, constantValue := 0 }, { name := "T_LONG", type := .int, accessFlags := 25, slot := 18, constantValue := 0 }, { name := "JLA", type := (.object "jdk/internal/access/JavaLangAccess"), accessFlags := 26, slot := 19, constantValue := 0 }, { name := "SOFT_MAX_ARRAY_LENGTH", type := .int, accessFlags := 25, slot := 20, constantValue := 0 }]
  methods := #[k12m0]
  instanceTypes := #[]
  staticTypes := #[(.object "jdk/internal/misc/Unsafe"), .boolean, .int, .int, .int, .int, .int, .int, .int, .int, .int, .int, .int, .int, .int, .int, .int, .int, .int, (.object "jdk/internal/access/JavaLangAccess"), .int]
  resolved := Array.replicate 378 none
  statics := none }

def pool13 : Array CpInfo := pool [(1, u "java/lang/Cloneable"), (0, .class_ 1), (0, u "java/lang/Object"), (0, .class_ 3)] 3

/-- java/lang/Cloneable -/
def k13 : Class := { plain "java/lang/Cloneable" (some 0) with
  accessFlags := 1537
  interfaces := #[]
  cf := some (fileOf pool13 2 #[] #[] 1537 4 #[] #[])
  fields := #[]
  methods := #[]
  instanceTypes := #[]
  staticTypes := #[]
  resolved := Array.replicate 8 none
  statics := none }

/-- the primitive byte -/
def k14 : Class := { plain "byte" none with kind := .primitive 'B', accessFlags := 0x411 }
/-- [B -/
def k15 : Class := { plain "[B" (some 0) with kind := .array 14 .byte, interfaces := #[13, 2], accessFlags := 1041 }

/-- the primitive int -/
def k16 : Class := { plain "int" none with kind := .primitive 'I', accessFlags := 0x411 }
/-- [I -/
def k17 : Class := { plain "[I" (some 0) with kind := .array 16 .int, interfaces := #[13, 2], accessFlags := 1041 }

/-- [Ljava/lang/String; -/
def k18 : Class := { plain "[Ljava/lang/String;" (some 0) with kind := .array 7 (.object "java/lang/String"), interfaces := #[13, 2], accessFlags := 1041 }

def heap : Heap := #[{ cls := 7, slots := #[.long 0, .int 1, .null, .int 0, .null, .int 0, .int 0], vm := .statics 7 },
  { cls := 11, slots := #[.null, .null, .null], vm := .statics 11 }]
def classes : Array Class := #[k0, k1, k2, k3, k4, k5, k6, k7, k8, k9, k10, k11, k12, k13, k14, k15, k16, k17, k18]
def interned : List (Array UInt16 × Addr) := []
def slotsUsed : Nat := 10
def theMethod : MethodId := ⟨1, 1⟩
def args0 : Array Value := #[.int 1, .int 2, .int 3, .int 4]
def aboutOver (below : List Frame) : State where
  vm := { classes := classes, interned := interned.toArray }
  heap := heap
  slotsUsed := slotsUsed
  threads := #[{ frames := .invoking theMethod args0 :: below }]
def below0 : List Frame := [.native { method := ⟨0, 0⟩, args := #[] }]
def about1 : State := aboutOver below0
def p0 : Program := .bare "" "" ""
def e0 : Env := launch0.env 0 0 0
theorem w_frames : about1.frames = Frame.invoking theMethod args0 :: below0 := rfl
set_option maxRecDepth 65536 in
theorem w_args : argsFit about1.vm theMethod args0 = true := by decide +kernel
set_option maxRecDepth 65536 in
theorem w_heap : heapFits about1 = true := by decide +kernel
set_option maxRecDepth 65536 in
theorem w_runnable : about1.curStatus? = some .runnable := by decide +kernel
set_option maxRecDepth 65536 in
theorem w_alone : about1.alone = true := by decide +kernel
set_option maxRecDepth 65536 in
theorem w_named : about1.methodNamed? x = some theMethod := by decide +kernel
set_option maxRecDepth 65536 in
theorem w_hears : about1.hears theMethod below0 = true := by decide +kernel
set_option maxRecDepth 65536 in
theorem w_ripe : about1.ripe theMethod args0 below0 = true := by decide +kernel
theorem w_running : about1.status = .running := rfl
set_option maxRecDepth 65536 in
theorem w_room : about1.hasRoom e0.platform room_1 = true :=
  launch0.hasRoom_least _ room_1 (by decide +kernel) (by decide +kernel) (by decide +kernel) (by decide +kernel) (by decide +kernel) (by decide +kernel)
theorem allAtoms_all (ts : List Jvm.Cond) (a : Array Jvm.Value) (st : Jvm.State) : (allAtoms ts).before a st = ts.all (fun c => c.before a st) := by
  induction ts with
  | nil => rfl
  | cons c t ih =>
    show (Jvm.Cond.and c (allAtoms t)).before a st = _
    rw [Jvm.Cond.before_and, ih, List.all_cons]
def words1 : List Jvm.Cond := Jvm.Cond.code x code maxLocals ret :: tables_1
/-- a 'code' word, met by the world's own term for the bytes: nothing is compared byte by byte -/
theorem code_word {y : MethodName} {bytes : ByteArray} {mx : Nat} {rt : Option FieldType} {a : Array Value} {s : State} {m : MethodId} {meth : Method} {c : Code} (h1 : s.methodNamed? y = some m) (h2 : s.vm.method? m = some meth) (h3 : meth.code = some c) (h4 : c.code = bytes)
    (h5 : (c.maxLocals == mx && c.exceptionTable.isEmpty && decide (c.maxStack ≤ mostOperands) && decide (meth.sig.returnType = rt) && !meth.locks && decide (parseMethodDescriptor y.desc = some meth.sig)) = true) : (Jvm.Cond.code y bytes mx rt).before a s = true := by
  simp only [Bool.and_eq_true, beq_iff_eq, Bool.not_eq_true', decide_eq_true_eq] at h5
  obtain ⟨⟨⟨⟨⟨g1, g2⟩, g3⟩, g4⟩, g5⟩, g6⟩ := h5
  simp [Cond.before, Cond.holds, Cond.value, h1, h2, h3, h4, g1, g2, g3, g4, g5, g6]
def isCode : Jvm.Cond → Bool
  | .code _ _ _ _ => true
  | _ => false
theorem all_split {L : List Jvm.Cond} {P : Jvm.Cond → Bool} (h1 : L.all (fun c => isCode c || P c) = true) (h2 : ∀ c ∈ L.filter isCode, P c = true) : L.all P = true := by
  refine List.all_eq_true.mpr fun c hc => ?_
  have h := List.all_eq_true.mp h1 c hc
  rcases Bool.eq_false_or_eq_true (isCode c) with hi | hi
  · exact h2 c (List.mem_filter.mpr ⟨hc, hi⟩)
  · simpa [hi] using h
set_option maxRecDepth 65536 in
theorem w_c0 : (Jvm.Cond.code x code maxLocals ret).before args0 about1 = true := code_word (m := ⟨1, 1⟩) (meth := k1m1) (c := k1c1) (by decide +kernel) rfl rfl rfl (by decide +kernel)
set_option maxRecDepth 65536 in
theorem w_c1 : (Jvm.Cond.code ({ cls := "coppice/marshal/context/NamespaceScopeRestorePinLaw", name := "idx", desc := "(I)I" } : Jvm.MethodName) method_3_code (1 : Nat) (Option.some Jvm.ClassFile.FieldType.int)).before args0 about1 = true := code_word (m := ⟨1, 2⟩) (meth := k1m2) (c := k1c2) (by decide +kernel) rfl rfl rfl (by decide +kernel)
set_option maxRecDepth 65536 in
theorem w_c2 : (Jvm.Cond.code ({ cls := "coppice/marshal/context/NamespaceScopeRestorePinLaw", name := "pick", desc := "(I)Ljava/lang/String;" } : Jvm.MethodName) method_4_code (2 : Nat) (Option.some (Jvm.ClassFile.FieldType.object "java/lang/String"))).before args0 about1 = true := code_word (m := ⟨1, 3⟩) (meth := k1m3) (c := k1c3) (by decide +kernel) rfl rfl rfl (by decide +kernel)
set_option maxRecDepth 65536 in
theorem w_c3 : (Jvm.Cond.code ({ cls := "coppice/marshal/context/NamespaceScopeRestorePinLaw", name := "decl", desc := "([Ljava/lang/String;ILjava/lang/String;)V" } : Jvm.MethodName) method_5_code (3 : Nat) (Option.none : Option Jvm.ClassFile.FieldType)).before args0 about1 = true := code_word (m := ⟨1, 4⟩) (meth := k1m4) (c := k1c4) (by decide +kernel) rfl rfl rfl (by decide +kernel)
set_option maxRecDepth 65536 in
theorem w_c4 : (Jvm.Cond.code ({ cls := "java/lang/String", name := "equals", desc := "(Ljava/lang/Object;)Z" } : Jvm.MethodName) jdk_42_method_66_code (3 : Nat) (Option.some Jvm.ClassFile.FieldType.boolean)).before args0 about1 = true := code_word (m := ⟨7, 1⟩) (meth := k7m1) (c := k7c1) (by decide +kernel) rfl rfl rfl (by decide +kernel)
set_option maxRecDepth 65536 in
theorem w_c5 : (Jvm.Cond.code ({ cls := "java/lang/StringLatin1", name := "equals", desc := "([B[B)Z" } : Jvm.MethodName) jdk_43_method_13_code (3 : Nat) (Option.some Jvm.ClassFile.FieldType.boolean)).before args0 about1 = true := code_word (m := ⟨8, 1⟩) (meth := k8m1) (c := k8c1) (by decide +kernel) rfl rfl rfl (by decide +kernel)
set_option maxRecDepth 65536 in
theorem w_c6 : (Jvm.Cond.code ({ cls := "coppice/marshal/context/NamespaceScope", name := "<init>", desc := "(I)V" } : Jvm.MethodName) prog_2_method_1_code (2 : Nat) (Option.none : Option Jvm.ClassFile.FieldType)).before args0 about1 = true := code_word (m := ⟨9, 0⟩) (meth := k9m0) (c := k9c0) (by decide +kernel) rfl rfl rfl (by decide +kernel)
set_option maxRecDepth 65536 in
theorem w_c7 : (Jvm.Cond.code ({ cls := "java/lang/Object", name := "<init>", desc := "()V" } : Jvm.MethodName) object_method_1_code (1 : Nat) (Option.none : Option Jvm.ClassFile.FieldType)).before args0 about1 = true := code_word (m := ⟨0, 0⟩) (meth := k0m0) (c := k0c0) (by decide +kernel) rfl rfl rfl (by decide +kernel)
set_option maxRecDepth 65536 in
theorem w_c8 : (Jvm.Cond.code ({ cls := "coppice/marshal/context/NamespaceScope", name := "reset", desc := "()V" } : Jvm.MethodName) prog_2_method_2_code (1 : Nat) (Option.none : Option Jvm.ClassFile.FieldType)).before args0 about1 = true := code_word (m := ⟨9, 1⟩) (meth := k9m1) (c := k9c1) (by decide +kernel) rfl rfl rfl (by decide +kernel)
set_option maxRecDepth 65536 in
theorem w_c9 : (Jvm.Cond.code ({ cls := "java/util/Arrays", name := "fill", desc := "([Ljava/lang/Object;Ljava/lang/Object;)V" } : Jvm.MethodName) jdk_65_method_117_code (4 : Nat) (Option.none : Option Jvm.ClassFile.FieldType)).before args0 about1 = true := code_word (m := ⟨10, 1⟩) (meth := k10m1) (c := k10c1) (by decide +kernel) rfl rfl rfl (by decide +kernel)
set_option maxRecDepth 65536 in
theorem w_c10 : (Jvm.Cond.code ({ cls := "coppice/marshal/context/NamespaceScope", name := "mark", desc := "()I" } : Jvm.MethodName) prog_2_method_4_code (1 : Nat) (Option.some Jvm.ClassFile.FieldType.int)).before args0 about1 = true := code_word (m := ⟨9, 3⟩) (meth := k9m3) (c := k9c3) (by decide +kernel) rfl rfl rfl (by decide +kernel)
set_option maxRecDepth 65536 in
theorem w_c11 : (Jvm.Cond.code ({ cls := "coppice/marshal/context/NamespaceScope", name := "declare", desc := "(ILjava/lang/String;)V" } : Jvm.MethodName) prog_2_method_5_code (4 : Nat) (Option.none : Option Jvm.ClassFile.FieldType)).before args0 about1 = true := code_word (m := ⟨9, 4⟩) (meth := k9m4) (c := k9c4) (by decide +kernel) rfl rfl rfl (by decide +kernel)
set_option maxRecDepth 65536 in
theorem w_c12 : (Jvm.Cond.code ({ cls := "coppice/marshal/context/NamespaceScope", name := "bind", desc := "(ILjava/lang/String;)V" } : Jvm.MethodName) prog_2_method_7_code (3 : Nat) (Option.none : Option Jvm.ClassFile.FieldType)).before args0 about1 = true := code_word (m := ⟨9, 6⟩) (meth := k9m6) (c := k9c6) (by decide +kernel) rfl rfl rfl (by decide +kernel)
set_option maxRecDepth 65536 in
theorem w_c13 : (Jvm.Cond.code ({ cls := "coppice/marshal/context/NamespaceScope", name := "restore", desc := "(I)V" } : Jvm.MethodName) prog_2_method_6_code (2 : Nat) (Option.none : Option Jvm.ClassFile.FieldType)).before args0 about1 = true := code_word (m := ⟨9, 5⟩) (meth := k9m5) (c := k9c5) (by decide +kernel) rfl rfl rfl (by decide +kernel)
set_option maxRecDepth 65536 in
theorem w_c14 : (Jvm.Cond.code ({ cls := "coppice/marshal/context/NamespaceScope", name := "prefix", desc := "(I)Ljava/lang/String;" } : Jvm.MethodName) prog_2_method_3_code (2 : Nat) (Option.some (Jvm.ClassFile.FieldType.object "java/lang/String"))).before args0 about1 = true := code_word (m := ⟨9, 2⟩) (meth := k9m2) (c := k9c2) (by decide +kernel) rfl rfl rfl (by decide +kernel)
set_option maxRecDepth 65536 in
theorem w_c15 : (Jvm.Cond.code ({ cls := "coppice/marshal/context/NamespaceScopeRestorePinLaw", name := "eq", desc := "(Ljava/lang/String;Ljava/lang/String;)Z" } : Jvm.MethodName) method_6_code (2 : Nat) (Option.some Jvm.ClassFile.FieldType.boolean)).before args0 about1 = true := code_word (m := ⟨1, 5⟩) (meth := k1m5) (c := k1c5) (by decide +kernel) rfl rfl rfl (by decide +kernel)
def codes1 : List Jvm.Cond := [Jvm.Cond.code x code maxLocals ret, Jvm.Cond.code ({ cls := "coppice/marshal/context/NamespaceScopeRestorePinLaw", name := "idx", desc := "(I)I" } : Jvm.MethodName) method_3_code (1 : Nat) (Option.some Jvm.ClassFile.FieldType.int), Jvm.Cond.code ({ cls := "coppice/marshal/context/NamespaceScopeRestorePinLaw", name := "pick", desc := "(I)Ljava/lang/String;" } : Jvm.MethodName) method_4_code (2 : Nat) (Option.some (Jvm.ClassFile.FieldType.object "java/lang/String")), Jvm.Cond.code ({ cls := "coppice/marshal/context/NamespaceScopeRestorePinLaw", name := "decl", desc := "([Ljava/lang/String;ILjava/lang/String;)V" } : Jvm.MethodName) method_5_code (3 : Nat) (Option.none : Option Jvm.ClassFile.FieldType), Jvm.Cond.code ({ cls := "java/lang/String", name := "equals", desc := "(Ljava/lang/Object;)Z" } : Jvm.MethodName) jdk_42_method_66_code (3 : Nat) (Option.some Jvm.ClassFile.FieldType.boolean), Jvm.Cond.code ({ cls := "java/lang/StringLatin1", name := "equals", desc := "([B[B)Z" } : Jvm.MethodName) jdk_43_method_13_code (3 : Nat) (Option.some Jvm.ClassFile.FieldType.boolean), Jvm.Cond.code ({ cls := "coppice/marshal/context/NamespaceScope", name := "<init>", desc := "(I)V" } : Jvm.MethodName) prog_2_method_1_code (2 : Nat) (Option.none : Option Jvm.ClassFile.FieldType), Jvm.Cond.code ({ cls := "java/lang/Object", name := "<init>", desc := "()V" } : Jvm.MethodName) object_method_1_code (1 : Nat) (Option.none : Option Jvm.ClassFile.FieldType), Jvm.Cond.code ({ cls := "coppice/marshal/context/NamespaceScope", name := "reset", desc := "()V" } : Jvm.MethodName) prog_2_method_2_code (1 : Nat) (Option.none : Option Jvm.ClassFile.FieldType), Jvm.Cond.code ({ cls := "java/util/Arrays", name := "fill", desc := "([Ljava/lang/Object;Ljava/lang/Object;)V" } : Jvm.MethodName) jdk_65_method_117_code (4 : Nat) (Option.none : Option Jvm.ClassFile.FieldType), Jvm.Cond.code ({ cls := "coppice/marshal/context/NamespaceScope", name := "mark", desc := "()I" } : Jvm.MethodName) prog_2_method_4_code (1 : Nat) (Option.some Jvm.ClassFile.FieldType.int), Jvm.Cond.code ({ cls := "coppice/marshal/context/NamespaceScope", name := "declare", desc := "(ILjava/lang/String;)V" } : Jvm.MethodName) prog_2_method_5_code (4 : Nat) (Option.none : Option Jvm.ClassFile.FieldType), Jvm.Cond.code ({ cls := "coppice/marshal/context/NamespaceScope", name := "bind", desc := "(ILjava/lang/String;)V" } : Jvm.MethodName) prog_2_method_7_code (3 : Nat) (Option.none : Option Jvm.ClassFile.FieldType), Jvm.Cond.code ({ cls := "coppice/marshal/context/NamespaceScope", name := "restore", desc := "(I)V" } : Jvm.MethodName) prog_2_method_6_code (2 : Nat) (Option.none : Option Jvm.ClassFile.FieldType), Jvm.Cond.code ({ cls := "coppice/marshal/context/NamespaceScope", name := "prefix", desc := "(I)Ljava/lang/String;" } : Jvm.MethodName) prog_2_method_3_code (2 : Nat) (Option.some (Jvm.ClassFile.FieldType.object "java/lang/String")), Jvm.Cond.code ({ cls := "coppice/marshal/context/NamespaceScopeRestorePinLaw", name := "eq", desc := "(Ljava/lang/String;Ljava/lang/String;)Z" } : Jvm.MethodName) method_6_code (2 : Nat) (Option.some Jvm.ClassFile.FieldType.boolean)]
set_option maxRecDepth 65536 in
theorem codes_eq : words1.filter isCode = codes1 := rfl
theorem w_codes : ∀ c ∈ words1.filter isCode, c.before args0 about1 = true := by
  rw [codes_eq]
  intro c hc
  simp only [codes1, List.mem_cons, List.not_mem_nil, or_false] at hc
  rcases hc with rfl | rfl | rfl | rfl | rfl | rfl | rfl | rfl | rfl | rfl | rfl | rfl | rfl | rfl | rfl | rfl
  · exact w_c0
  · exact w_c1
  · exact w_c2
  · exact w_c3
  · exact w_c4
  · exact w_c5
  · exact w_c6
  · exact w_c7
  · exact w_c8
  · exact w_c9
  · exact w_c10
  · exact w_c11
  · exact w_c12
  · exact w_c13
  · exact w_c14
  · exact w_c15
set_option maxRecDepth 65536 in
theorem w_t1 : (words1.take 24).all (fun c => isCode c || c.before args0 about1) = true := by decide +kernel
set_option maxRecDepth 65536 in
theorem w_t2 : ((words1.drop 24).take 24).all (fun c => isCode c || c.before args0 about1) = true := by decide +kernel
set_option maxRecDepth 65536 in
theorem w_t3 : (((words1.drop 24).drop 24).take 24).all (fun c => isCode c || c.before args0 about1) = true := by decide +kernel
set_option maxRecDepth 65536 in
theorem w_t4 : ((((words1.drop 24).drop 24).drop 24).take 24).all (fun c => isCode c || c.before args0 about1) = true := by decide +kernel
set_option maxRecDepth 65536 in
theorem w_t5 : ((((words1.drop 24).drop 24).drop 24).drop 24).all (fun c => isCode c || c.before args0 about1) = true := by decide +kernel
theorem w_tables : (allAtoms (Jvm.Cond.code x code maxLocals ret :: tables_1)).before args0 about1 = true := by
  rw [allAtoms_all]
  show words1.all (fun c => c.before args0 about1) = true
  refine all_split ?_ w_codes
  rw [← List.take_append_drop 24 words1, List.all_append, w_t1, ← List.take_append_drop 24 (words1.drop 24), List.all_append, w_t2, ← List.take_append_drop 24 ((words1.drop 24).drop 24), List.all_append, w_t3, ← List.take_append_drop 24 (((words1.drop 24).drop 24).drop 24), List.all_append, w_t4, w_t5]
  rfl
set_option maxRecDepth 65536 in
theorem w_rest : rest_1_c.before args0 about1 = true := by decide +kernel
set_option maxRecDepth 65536 in
theorem w_case : (Jvm.Cond.and given_1 narrow_1).before args0 about1 = true := by decide +kernel
set_option maxRecDepth 65536 in
theorem w_consts : constsHeld consts_1 about1 := Jvm.Lit.constsHeldB_iff.mp (by decide +kernel)
theorem w_applies : (headSpec (Jvm.Cond.code x code maxLocals ret :: tables_1) room_1).applies x e0.platform about1 = true :=
  (Spec.applies_iff w_frames).mpr ⟨w_running, w_runnable, w_alone, w_named, w_hears, w_ripe, w_room, w_tables⟩
theorem atStart : AtStart classFile x code maxLocals ret World_1 tables_1 room_1 Calls_1 rest_1 Pre_1 launch0 p0 e0 about1 theMethod args0 below0 :=
  ⟨lists_1, trivial, launch0.admits_env _ _ _, launch0.least_env, fairChoices_fair.cas, fairChoices_fair.clock, w_frames, w_args, w_heap, w_applies, ⟨w_consts, trivial⟩, w_rest, w_case⟩
end start1
theorem witness_1 : WitnessClaimed_1 := ⟨start1.p0, start1.e0, start1.about1, start1.theMethod, start1.args0, start1.below0, start1.atStart⟩
end Jvm.Pilot.@@N@@
