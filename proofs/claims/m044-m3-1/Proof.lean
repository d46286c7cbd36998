import JvmDerived
import JvmDerived.Pilot.@@N@@Statement
import JvmDerived.Pilot.@@N@@Code
set_option linter.unusedVariables false
set_option linter.unusedSimpArgs false
namespace Jvm.Pilot.@@N@@
open Jvm Jvm.ClassFile Sem Op Lib Jvm.Free Jvm.Stand Jvm.LawKit Jvm.RoadKit Bundle Jvm.Pilot.@@N@@.Jvm.D
theorem own_wrap {A : Prop} (h : ∀ GL : Prop, (A → GL) → GL) : A := h A id
abbrev own_SN : String := "java/lang/String"
def own_S (Z : State) (h : Heap) (v : Value) (o : Option (List Value)) : Prop :=
  (v = .null ∧ o = none) ∨ ∃ (a b : Addr) (k : ClassId) (z : Int32) (vs : List Value) (a0 : Array Value), v = .ref a ∧ o = some vs ∧ (Jvm.Cond.instantiable "java/lang/String" 4).before a0 Z = true ∧ Exa Z h a "java/lang/String" ∧ Fld Z h a "java/lang/String" "coder" "B" (.int (0 : Int32)) ∧ Fld Z h a "java/lang/String" "value" "[B" (.ref b) ∧ Arv Z h b k .byte z vs (.int (0 : Int32)) ∧ z.toNatClampNeg = vs.length
def own_ns (Z : State) (h : Heap) (x : Addr) : Prop :=
  (∃ (C : String) (n : Nat) (a0 : Array Value), Exa Z h x C ∧ C ≠ "java/lang/String" ∧ C ≠ "[B" ∧ (Jvm.Cond.instantiable C n).before a0 Z = true) ∨ ∃ (c : Cell) (ty : FieldType), Arr Z h x c ty ∧ ty ≠ .byte
theorem own_arr_ne {Z : State} {h : Heap} {a b : Addr} {c d : Cell} {t u : FieldType} (A : Arr Z h a c t) (B : Arr Z h b d u) (q : t ≠ u) : a ≠ b := by
  intro e
  subst e
  obtain ⟨a1, a2, -⟩ := A
  obtain ⟨b1, b2, -⟩ := B
  have e := Option.some.inj (a1.symm.trans b1)
  subst e
  obtain ⟨-, m, n, cp, o⟩ := a2
  obtain ⟨-, m', n', cp', o'⟩ := b2
  cases Option.some.inj (n.symm.trans n')
  rw [o] at o'
  injection o' with _ h2
  exact q h2
theorem own_ns_ne {Z : State} {h : Heap} {x a b : Addr} {k : ClassId} {z : Int32} {vs : List Value} {dv : Value} {a0 : Array Value} (N : own_ns Z h x) (w : (Jvm.Cond.instantiable "java/lang/String" 4).before a0 Z = true) (E : Exa Z h a "java/lang/String") (B : Arv Z h b k .byte z vs dv) : a ≠ x ∧ b ≠ x := by
  rcases N with ⟨C, n, a1, Ex, h1, h2, wi⟩ | ⟨c, ty, A, ht⟩
  · exact ⟨fun q => Exa.ne Ex E h1 q.symm, fun q => Exa.neArv Ex B wi q.symm⟩
  · obtain ⟨cb, Ab, -⟩ := B
    exact ⟨ne_arr E w A, own_arr_ne Ab A (Ne.symm ht)⟩
theorem own_S_ext {Z : State} {h h' : Heap} {v : Value} {o : Option (List Value)} (F : own_S Z h v o) (E : Ext h h') : own_S Z h' v o := by
  rcases F with F | ⟨a, b, k, z, vs, a0, e1, e2, w, f1, f2, f3, f4, f5⟩
  · exact Or.inl F
  · exact Or.inr ⟨a, b, k, z, vs, a0, e1, e2, w, f1.ext E, f2.ext E, f3.ext E, f4.ext E, f5⟩
theorem own_S_wr {Z : State} {h h' : Heap} {v w : Value} {x : Addr} {sl : Nat} {o : Option (List Value)} (F : own_S Z h v o) (W : Wr h h' x sl w) (N : own_ns Z h x) : own_S Z h' v o := by
  rcases F with F | ⟨a, b, k, z, vs, a0, e1, e2, wi, f1, f2, f3, f4, f5⟩
  · exact Or.inl F
  · obtain ⟨n1, n2⟩ := own_ns_ne N wi f1 f4
    exact Or.inr ⟨a, b, k, z, vs, a0, e1, e2, wi, f1.wr W, f2.other W (Or.inl n1), f3.other W (Or.inl n1), f4.other W n2, f5⟩
theorem own_S_keep {Z : State} {h h' : Heap} {v : Value} {ws : List Addr} {o : Option (List Value)} (F : own_S Z h v o) (K : Keep h h' ws) (N : ∀ x ∈ ws, own_ns Z h x) : own_S Z h' v o := by
  rcases F with F | ⟨a, b, k, z, vs, a0, e1, e2, wi, f1, f2, f3, f4, f5⟩
  · exact Or.inl F
  · have n1 : a ∉ ws := fun q => (own_ns_ne (N a q) wi f1 f4).1 rfl
    have n2 : b ∉ ws := fun q => (own_ns_ne (N b q) wi f1 f4).2 rfl
    exact Or.inr ⟨a, b, k, z, vs, a0, e1, e2, wi, f1.keep K, f2.keep K n1, f3.keep K n1, f4.keep K n2, f5⟩
theorem own_ns_keep {Z : State} {h h' : Heap} {x : Addr} {ws : List Addr} (N : own_ns Z h x) (K : Keep h h' ws) : own_ns Z h' x := by
  rcases N with ⟨C, n, a1, Ex, r⟩ | ⟨c, ty, A, ht⟩
  · exact Or.inl ⟨C, n, a1, Ex.keep K, r⟩
  · obtain ⟨c', e1, e2, e3, e4⟩ := K.2.2 x c A.1
    refine Or.inr ⟨c', ty, ⟨e1, ?_, by rw [e3]; exact A.2.2⟩, ht⟩
    obtain ⟨k, m, n, o⟩ := A.2.1
    exact ⟨by rw [e3]; exact k, m, by rw [e2]; exact n, o⟩
def own_SL (Z : State) (h : Heap) (vs : List Value) (os : List (Option (List Value))) : Prop := vs.length = os.length ∧ ∀ i, own_S Z h (vs.getD i .null) (os.getD i none)
theorem own_SL_ext {Z : State} {h h' : Heap} {vs : List Value} {os : List (Option (List Value))} (F : own_SL Z h vs os) (E : Ext h h') : own_SL Z h' vs os := ⟨F.1, fun i => own_S_ext (F.2 i) E⟩
theorem own_SL_wr {Z : State} {h h' : Heap} {x : Addr} {sl : Nat} {w : Value} {vs : List Value} {os : List (Option (List Value))} (F : own_SL Z h vs os) (W : Wr h h' x sl w) (N : own_ns Z h x) : own_SL Z h' vs os := ⟨F.1, fun i => own_S_wr (F.2 i) W N⟩
theorem own_SL_keep {Z : State} {h h' : Heap} {ws : List Addr} {vs : List Value} {os : List (Option (List Value))} (F : own_SL Z h vs os) (K : Keep h h' ws) (N : ∀ x ∈ ws, own_ns Z h x) : own_SL Z h' vs os := ⟨F.1, fun i => own_S_keep (F.2 i) K N⟩
theorem own_SL_set {Z : State} {h : Heap} {vs : List Value} {os : List (Option (List Value))} {v : Value} {o : Option (List Value)} (F : own_SL Z h vs os) (G : own_S Z h v o) (j : Nat) : own_SL Z h (vs.set j v) (os.set j o) := by
  refine ⟨by rw [List.length_set, List.length_set]; exact F.1, fun i => ?_⟩
  have q := F.2 i
  have e := F.1
  by_cases c : j = i
  · subst c
    by_cases d : j < vs.length
    · have d' : j < os.length := by omega
      simp [List.getD, d, d']; exact G
    · have d' : ¬ j < os.length := by omega
      simp [List.getD, List.getElem?_set, d, d'] at q ⊢; exact Or.inl ⟨rfl, rfl⟩
  · simp [List.getD, List.getElem?_set, c] at q ⊢; exact q
theorem own_SL_rep {Z : State} {h : Heap} (n : Nat) : own_SL Z h (List.replicate n .null) (List.replicate n none) := by
  refine ⟨by simp, fun i => Or.inl ?_⟩
  by_cases c : i < n <;> simp [List.getD, List.getElem?_replicate, c]
theorem own_safe {Z : State} {EL : List (String × Nat)} {vm : Vm} {h : Heap} {x : Addr} (hal : Z.vm.Alike vm) (N : own_ns Z h x) : Safe Z EL vm h x := by
  rcases N with ⟨C, n, a1, Ex, h1, h2, -⟩ | ⟨c, ty, A, ht⟩
  · exact Safe.exa hal Ex h1 h2
  · exact Safe.arr hal A ht
theorem own_nsE {Z : State} {h : Heap} {x : Addr} {C : String} {n : Nat} {a0 : Array Value} (E : Exa Z h x C) (w : (Jvm.Cond.instantiable C n).before a0 Z = true) (h1 : C ≠ "java/lang/String") (h2 : C ≠ "[B") : own_ns Z h x := Or.inl ⟨C, n, a0, E, h1, h2, w⟩
theorem own_nsV {Z : State} {h : Heap} {x : Addr} {k : ClassId} {ty : FieldType} {z : Int32} {vs : List Value} {d : Value} (V : Arv Z h x k ty z vs d) (ht : ty ≠ .byte) : own_ns Z h x := by
  obtain ⟨c, A, -⟩ := V
  exact Or.inr ⟨c, ty, A, ht⟩
theorem own_S_ref {Z : State} {h : Heap} {v : Value} {o : Option (List Value)} (F : own_S Z h v o) : v.isRef = true := by
  rcases F with ⟨rfl, -⟩ | ⟨a, b, k, z, vs, a0, rfl, -⟩ <;> rfl
theorem own_S_sto {Z : State} {h : Heap} {v : Value} {o : Option (List Value)} {x : Addr} {c : Cell} {k : ClassId} {ty : FieldType} (F : own_S Z h v o) (A : Arr Z h x c ty) (q : c.cls = k) (O : Ovr Z k "java/lang/String") : Sto Z h x v := by
  rcases F with ⟨rfl, -⟩ | ⟨a, b, k', z, vs, a0, rfl, -, -, E, -⟩
  · exact Or.inl rfl
  · exact Sto.ofV A q O (Ins.self E)
theorem own_cat {v : Value} (h : v.isRef = true) : v.category = 1 := by cases v <;> first | rfl | (simp [Value.isRef] at h)
theorem own_S_exa {Z : State} {h : Heap} {a : Addr} {o : Option (List Value)} (F : own_S Z h (.ref a) o) : Exa Z h a "java/lang/String" := by
  rcases F with ⟨q, -⟩ | ⟨a', b, k, z, vs, a0, q, -, -, E, -⟩
  · cases q
  · cases q; exact E
theorem own_S_fit {Z : State} {h : Heap} {v : Value} {o : Option (List Value)} {C : String} (F : own_S Z h v o) : fits (.object C) v = true := by
  rcases F with ⟨rfl, -⟩ | ⟨a, b, k, z, vs, a0, rfl, -⟩ <;> rfl
theorem own_selfp {s : State} {args : Array Value} {y : MethodName} {n : Nat} (wi : (Jvm.Cond.instantiable y.cls n).before args s = true) (hpriv : s.PrivateAt y) (hinst : (Jvm.Cond.instanceMethod y).before args s = true) (hy : y.cls ≠ "java/lang/invoke/MethodHandle" ∧ y.cls ≠ "java/lang/invoke/VarHandle") : (Jvm.Cond.selects y.cls y y).before args s = true := by
  obtain ⟨c, k, hc, hk, h1, h2, h3⟩ := Cond.instantiable_spec wi
  refine selects_self_of_private hc hk ?_ hpriv hinst hy
  simp_all [Class.isInterface]
theorem own_sta_keepN {Z : State} {h h' : Heap} {C n d : String} {v : Value} {ws : List Addr} (F : Sta Z h C n d v) (K : Keep h h' ws) (N : ∀ x ∈ ws, own_ns Z h x) : Sta Z h' C n d v := by
  obtain ⟨cf, i, k, f, st, cell, h1, h2, h3, h4, h5, h6, h7⟩ := F
  refine ⟨cf, i, k, f, st, cell, h1, h2, h3, h4, K.2.1 st cell h5 ?_, h6, h7⟩
  intro q
  rcases N st q with ⟨C, n, a1, ⟨c, k', e1, -, -, e2, -⟩, -⟩ | ⟨c, ty, ⟨e1, ⟨e2, -⟩, -⟩, -⟩
  · cases Option.some.inj (h5.symm.trans e1)
    rw [h6] at e2; cases e2
  · cases Option.some.inj (h5.symm.trans e1)
    cases hv : cell.vm <;> simp [hv, VmData.isStatics] at h6
    exact e2 _ hv
def own_at (vs : List Value) (j : Int32) : Int32 := match vs.getD j.toNatClampNeg (.int (0 : Int32)) with | .int x => x | _ => 0
theorem own_nat {j : Int32} (h : 0 ≤ j.toInt) : (j.toNatClampNeg : Int) = j.toInt := by
  refine (nat_of ?_).symm
  rw [Int32.lt_iff_toInt_lt]
  have k : (0 : Int32).toInt = 0 := by decide
  omega
theorem own_ge {j : Int32} (h : ¬ j < 0) : 0 ≤ j.toInt := by
  rw [Int32.lt_iff_toInt_lt] at h; have k : (0 : Int32).toInt = 0 := by decide
  omega
theorem own_ib {j z : Int32} (h : 0 ≤ j.toInt) (h2 : j.toInt < z.toInt) : ¬ j < 0 ∧ j < z := by
  rw [Int32.lt_iff_toInt_lt, Int32.lt_iff_toInt_lt]; have k : (0 : Int32).toInt = 0 := by decide
  omega
theorem own_getB {c : Cell} {vs : List Value} {j : Int32} (H : Has c vs (.int (0 : Int32))) (G : ∀ i, i < c.slots.size → fits .byte (vs.getD i (.int (0 : Int32))) = true) (q : ¬ (j < 0 ∨ c.slots.size ≤ j.toNatClampNeg)) : c.slots[j.toNatClampNeg]? = some (.int (own_at vs j)) := by
  have hlt : j.toNatClampNeg < c.slots.size := Nat.lt_of_not_le fun y => q (Or.inr y)
  obtain ⟨x, hx⟩ := fit_I (G _ hlt) (Or.inr (Or.inr (Or.inl rfl)))
  rw [H _ hlt, hx]
  unfold own_at
  rw [hx]
theorem own_getI {c : Cell} {vs : List Value} {j : Int32} (H : Has c vs (.int (0 : Int32))) (G : ∀ i, i < c.slots.size → fits .int (vs.getD i (.int (0 : Int32))) = true) (q : ¬ (j < 0 ∨ c.slots.size ≤ j.toNatClampNeg)) : c.slots[j.toNatClampNeg]? = some (.int (own_at vs j)) := by
  have hlt : j.toNatClampNeg < c.slots.size := Nat.lt_of_not_le fun y => q (Or.inr y)
  obtain ⟨x, hx⟩ := fit_I (G _ hlt) (Or.inl rfl)
  rw [H _ hlt, hx]
  unfold own_at
  rw [hx]
theorem own_gd {Z : State} {h : Heap} {a : Addr} {k : ClassId} {z i : Int32} {vs : List Value} (V : Arv Z h a k .byte z vs (.int (0 : Int32))) (hk : ¬ i < 0 ∧ i < z) : vs.getD i.toNatClampNeg (.int (0 : Int32)) = .int (own_at vs i) := by
  obtain ⟨c, A, q, S, N, H, G⟩ := V
  have hin := inb_of S hk
  have hlt : i.toNatClampNeg < c.slots.size := Nat.lt_of_not_le fun y => hin (Or.inr y)
  have e := own_getB H G hin
  rw [H _ hlt] at e
  exact Option.some.inj e
def own_eqb (u v : List Value) : Int32 := if u = v then 1 else 0
theorem own_leq {u v : List Value} (hl : u.length = v.length) (h : ∀ j, j < u.length → u.getD j (.int (0 : Int32)) = v.getD j (.int (0 : Int32))) : u = v := by
  apply List.ext_getElem hl
  intro j h1 h2
  have q := h j h1
  simp only [List.getD, List.getElem?_eq_getElem h1, List.getElem?_eq_getElem h2, Option.getD_some] at q
  exact q
theorem own_nlen {zx zy : Int32} {u v : List Value} (h1 : zx.toNatClampNeg = u.length) (h2 : zy.toNatClampNeg = v.length) (n1 : ¬ zx < 0) (n2 : ¬ zy < 0) (h : ¬ zx = zy) : ¬ u = v := by
  intro q; apply h; apply Int32.toInt_inj.mp
  rw [← own_nat (own_ge n1), ← own_nat (own_ge n2), h1, h2, q]
theorem own_arvn {Z : State} {h : Heap} {a : Addr} {k : ClassId} {ty : FieldType} {z : Int32} {vs : List Value} {d : Value} (V : Arv Z h a k ty z vs d) : ¬ z < 0 := by
  obtain ⟨c, A, q, S, N, -⟩ := V; exact N
theorem own_l0 {z : Int32} (h : ¬ z < 0) : (0 : Int32).toInt + ((z.toInt.toNat : Nat) : Int) = z.toInt := by
  have k : (0 : Int32).toInt = 0 := by decide
  have := own_ge h; omega
theorem own_i1 {i z : Int32} {n : Nat} (h0 : 0 ≤ i.toInt) (hn : i.toInt + ((n + 1 : Nat) : Int) = z.toInt) : (i + (1 : Int32)).toInt = i.toInt + 1 := by
  have h1 := c_iadd i 1; have k : (1 : Int32).toInt = 1 := by decide
  have r := rng32 (i + 1); have r2 := rng32 z; omega
theorem own_l1 {i z : Int32} {n : Nat} (h0 : 0 ≤ i.toInt) (hn : i.toInt + ((n + 1 : Nat) : Int) = z.toInt) : (i + (1 : Int32)).toInt + (n : Int) = z.toInt := by
  rw [own_i1 h0 hn]; omega
theorem own_l2 {i z : Int32} {n : Nat} (h0 : 0 ≤ i.toInt) (hn : i.toInt + ((n + 1 : Nat) : Int) = z.toInt) : 0 ≤ (i + (1 : Int32)).toInt := by
  rw [own_i1 h0 hn]; omega
theorem own_lz {i z : Int32} (hn : i.toInt + ((0 : Nat) : Int) = z.toInt) : ¬ i < z := by
  rw [Int32.lt_iff_toInt_lt]; omega
theorem own_ls {i z : Int32} {n : Nat} (hn : i.toInt + ((n + 1 : Nat) : Int) = z.toInt) : i < z := by
  rw [Int32.lt_iff_toInt_lt]; omega
theorem own_lb {i z : Int32} {n : Nat} (h0 : 0 ≤ i.toInt) (hn : i.toInt + ((n + 1 : Nat) : Int) = z.toInt) : ¬ i < 0 ∧ i < z := own_ib h0 (by omega)
theorem own_heq {i z : Int32} {n : Nat} {u v : List Value} (h0 : 0 ≤ i.toInt) (hn : i.toInt + ((n + 1 : Nat) : Int) = z.toInt) (h : ∀ j, j < i.toNatClampNeg → u.getD j (.int (0 : Int32)) = v.getD j (.int (0 : Int32))) (e1 : u.getD i.toNatClampNeg (.int (0 : Int32)) = .int (own_at u i)) (e2 : v.getD i.toNatClampNeg (.int (0 : Int32)) = .int (own_at v i)) (e : own_at u i = own_at v i) : ∀ j, j < (i + (1 : Int32)).toNatClampNeg → u.getD j (.int (0 : Int32)) = v.getD j (.int (0 : Int32)) := by
  intro j hj
  have a := own_nat h0
  have b := own_nat (own_l2 h0 hn)
  rw [own_i1 h0 hn] at b
  by_cases q : j = i.toNatClampNeg
  · rw [q, e1, e2, e]
  · exact h j (by omega)
theorem own_fineq {i zx zy : Int32} {u v : List Value} (h1 : zx.toNatClampNeg = u.length) (h2 : zy.toNatClampNeg = v.length) (hz : zx = zy) (h0 : 0 ≤ i.toInt) (hn : i.toInt + ((0 : Nat) : Int) = zx.toInt) (h : ∀ j, j < i.toNatClampNeg → u.getD j (.int (0 : Int32)) = v.getD j (.int (0 : Int32))) : u = v := by
  have e : i = zx := Int32.toInt_inj.mp (by omega)
  refine own_leq (by rw [← h1, ← h2, hz]) fun j hj => h j ?_
  rw [e, h1]; exact hj
def own_eqt (t : List Value) (o : Option (List Value)) : Int32 := if o = some t then 1 else 0
theorem own_S_fun {Z : State} {h : Heap} {a : Addr} {t u : List Value} (F : own_S Z h (.ref a) (some t)) (G : own_S Z h (.ref a) (some u)) : t = u := by
  rcases F with ⟨q, -⟩ | ⟨a1, b1, k1, z1, v1, x1, q1, o1, -, E1, -, V1, B1, l1⟩
  · cases q
  rcases G with ⟨q, -⟩ | ⟨a2, b2, k2, z2, v2, x2, q2, o2, -, E2, -, V2, B2, l2⟩
  · cases q
  cases q1; cases q2; cases o1; cases o2
  have hb : b1 = b2 := by
    by_cases q : b1 = b2
    · exact q
    · exact absurd rfl (Fld.ne V1 V2 (fun y => q (Value.ref.inj y)))
  subst hb
  obtain ⟨c1, A1, -, S1, N1, H1, -⟩ := B1
  obtain ⟨c2, A2, -, S2, N2, H2, -⟩ := B2
  have hc : c1 = c2 := Option.some.inj (A1.1.symm.trans A2.1)
  subst hc
  refine own_leq (by rw [← l1, ← l2, ← S1, ← S2]) fun j hj => ?_
  have hj' : j < c1.slots.size := by rw [S1, l1]; exact hj
  exact Option.some.inj ((H1 j hj').symm.trans (H2 j hj'))
abbrev own_T : Type := Option (List Value)
abbrev own_ST : Type := List own_T × List Value × List own_T × Int32
def own_bd (s : own_ST) (i : Int32) (o : own_T) : own_ST := (s.1.set (i).toNatClampNeg o, s.2.1.set (s.2.2.2).toNatClampNeg (.int i), s.2.2.1.set (s.2.2.2).toNatClampNeg (s.1.getD (i).toNatClampNeg none), s.2.2.2 + (1 : Int32))
def own_dl (t : List Value) (ix : Int32) : Nat → Int32 → own_ST → own_ST
  | 0, _, s => s
  | n + 1, i, s => own_dl t ix n (i + (1 : Int32)) (if ¬ i = ix ∧ ¬ own_eqt t (s.1.getD (i).toNatClampNeg none) = (0 : Int32) then own_bd s i none else s)
def own_de (t : List Value) (ix nz : Int32) (s : own_ST) : own_ST := own_bd (own_dl t ix nz.toInt.toNat (0 : Int32) s) ix (some t)
theorem own_dlT {t : List Value} {ix i : Int32} {n : Nat} {s : own_ST} (h1 : ¬ i = ix) (h2 : ¬ own_eqt t (s.1.getD (i).toNatClampNeg none) = (0 : Int32)) : own_dl t ix n (i + (1 : Int32)) (own_bd s i none) = own_dl t ix (n + 1) i s := by
  show _ = own_dl t ix n (i + (1 : Int32)) (if _ then _ else _)
  rw [if_pos ⟨h1, h2⟩]
theorem own_dlF {t : List Value} {ix i : Int32} {n : Nat} {s : own_ST} (h : ¬ (¬ i = ix ∧ ¬ own_eqt t (s.1.getD (i).toNatClampNeg none) = (0 : Int32))) : own_dl t ix n (i + (1 : Int32)) s = own_dl t ix (n + 1) i s := by
  show _ = own_dl t ix n (i + (1 : Int32)) (if _ then _ else _)
  rw [if_neg h]
theorem own_lt2 {k z : Int32} {n : Nat} (hk : ¬ k < 0 ∧ k < z) (hf : n = z.toNatClampNeg) : k.toNatClampNeg < n := by
  have h1 := own_ge hk.1; have h2 := hk.2; rw [Int32.lt_iff_toInt_lt] at h2
  have a := own_nat h1; have b := own_nat (j := z) (by omega); omega
theorem own_u16 {uc : Int32} (h : 0 ≤ uc.toInt ∧ uc.toInt < 16) : ¬ uc < 0 ∧ uc < (16 : Int32) := by
  have k : (16 : Int32).toInt = 16 := by decide
  exact own_ib h.1 (by omega)
theorem own_n16 {uc : Int32} (h : 0 ≤ uc.toInt ∧ uc.toInt < 16) : ¬ uc = (16 : Int32) := by
  intro q; subst q; have k : (16 : Int32).toInt = 16 := by decide
  omega
theorem own_k16 : (16 : Nat) = (16 : Int32).toNatClampNeg := by decide
theorem own_allnull {i z : Int32} {ls : List Value} (hl : ls.length = z.toNatClampNeg) (h0 : 0 ≤ i.toInt) (hn : i.toInt + ((0 : Nat) : Int) = z.toInt) (h : ∀ j, j < i.toNatClampNeg → ls.getD j .null = .null) : ls = List.replicate z.toNatClampNeg .null := by
  have e : i = z := Int32.toInt_inj.mp (by omega)
  apply List.ext_getElem (by rw [hl, List.length_replicate])
  intro j h1 h2
  have q := h j (by rw [e, ← hl]; exact h1)
  simp only [List.getD, List.getElem?_eq_getElem h1, Option.getD_some] at q
  rw [q, List.getElem_replicate]
theorem own_nulls {i z : Int32} {n : Nat} {ls : List Value} (hl : ls.length = z.toNatClampNeg) (h0 : 0 ≤ i.toInt) (hn : i.toInt + ((n + 1 : Nat) : Int) = z.toInt) (h : ∀ j, j < i.toNatClampNeg → ls.getD j .null = .null) : ∀ j, j < (i + (1 : Int32)).toNatClampNeg → (ls.set (i).toNatClampNeg .null).getD j .null = .null := by
  intro j hj
  have a := own_nat h0
  have b := own_nat (own_l2 h0 hn)
  rw [own_i1 h0 hn] at b
  by_cases q : i.toNatClampNeg = j
  · subst q
    by_cases d : i.toNatClampNeg < ls.length
    · simp [List.getD, d]
    · simp [List.getD, List.getElem?_set, d]
  · have := h j (by omega)
    simp [List.getD, List.getElem?_set, q] at this ⊢; exact this
theorem own_ub {uc i nz : Int32} {n : Nat} {b : Int} (hb : b + nz.toInt < 16) (h0 : 0 ≤ i.toInt) (hn : i.toInt + ((n + 1 : Nat) : Int) = nz.toInt) (h : 0 ≤ uc.toInt ∧ uc.toInt ≤ b + i.toInt) : 0 ≤ uc.toInt ∧ uc.toInt < 16 := by omega
theorem own_up1 {uc : Int32} (h : 0 ≤ uc.toInt ∧ uc.toInt < 16) : (uc + (1 : Int32)).toInt = uc.toInt + 1 := by
  have h1 := c_iadd uc 1; have k : (1 : Int32).toInt = 1 := by decide
  have r := rng32 (uc + 1); omega
theorem own_hub {uc i nz : Int32} {n : Nat} {b : Int} (hb : b + nz.toInt < 16) (h0 : 0 ≤ i.toInt) (hn : i.toInt + ((n + 1 : Nat) : Int) = nz.toInt) (h : 0 ≤ uc.toInt ∧ uc.toInt ≤ b + i.toInt) : 0 ≤ (uc + (1 : Int32)).toInt ∧ (uc + (1 : Int32)).toInt ≤ b + (i + (1 : Int32)).toInt := by
  rw [own_up1 (own_ub hb h0 hn h), own_i1 h0 hn]; omega
theorem own_hub0 {uc i nz : Int32} {n : Nat} {b : Int} (h0 : 0 ≤ i.toInt) (hn : i.toInt + ((n + 1 : Nat) : Int) = nz.toInt) (h : 0 ≤ uc.toInt ∧ uc.toInt ≤ b + i.toInt) : 0 ≤ uc.toInt ∧ uc.toInt ≤ b + (i + (1 : Int32)).toInt := by
  rw [own_i1 h0 hn]; omega
theorem own_hub00 {uc : Int32} {b : Int} (h : 0 ≤ uc.toInt ∧ uc.toInt ≤ b) : 0 ≤ uc.toInt ∧ uc.toInt ≤ b + (0 : Int32).toInt := by
  have k : (0 : Int32).toInt = 0 := by decide
  omega
theorem own_ubz {uc i nz : Int32} {b : Int} (hb : b + nz.toInt < 16) (hz : ¬ nz < 0) (hn : i.toInt + ((0 : Nat) : Int) = nz.toInt) (h : 0 ≤ uc.toInt ∧ uc.toInt ≤ b + i.toInt) : 0 ≤ uc.toInt ∧ uc.toInt < 16 := by omega
def own_rs (us : List Value) : Nat → Int32 → List own_T × List own_T → List own_T × List own_T
  | 0, _, s => s
  | n + 1, u, s => own_rs us n (u - (1 : Int32)) (s.1.set (own_at us (u - (1 : Int32))).toNatClampNeg (s.2.getD (u - (1 : Int32)).toNatClampNeg none), s.2.set (u - (1 : Int32)).toNatClampNeg none)
theorem own_m1 {u t : Int32} {n : Nat} (h0 : 0 ≤ t.toInt) (hn : t.toInt + ((n + 1 : Nat) : Int) = u.toInt) : (u - (1 : Int32)).toInt = u.toInt - 1 := by
  have h1 := c_isub u 1; have k : (1 : Int32).toInt = 1 := by decide
  have r := rng32 u; have r2 := rng32 (u - 1); omega
theorem own_rn {u t : Int32} {n : Nat} (h0 : 0 ≤ t.toInt) (hn : t.toInt + ((n + 1 : Nat) : Int) = u.toInt) : t.toInt + (n : Int) = (u - (1 : Int32)).toInt := by
  rw [own_m1 h0 hn]; omega
theorem own_rle {u t w : Int32} {n : Nat} (h0 : 0 ≤ t.toInt) (hn : t.toInt + ((n + 1 : Nat) : Int) = u.toInt) (h : u.toInt ≤ w.toInt) : (u - (1 : Int32)).toInt ≤ w.toInt := by
  rw [own_m1 h0 hn]; omega
theorem own_r16 {u t w : Int32} {n : Nat} (h0 : 0 ≤ t.toInt) (hn : t.toInt + ((n + 1 : Nat) : Int) = u.toInt) (h : u.toInt ≤ w.toInt) (hw : w.toInt ≤ 16) : ¬ (u - (1 : Int32)) < 0 ∧ (u - (1 : Int32)) < (16 : Int32) := by
  have k : (16 : Int32).toInt = 16 := by decide
  have e := own_m1 h0 hn
  exact own_ib (by omega) (by omega)
theorem own_rz {u t : Int32} (hn : t.toInt + ((0 : Nat) : Int) = u.toInt) : ¬ t < u := by
  rw [Int32.lt_iff_toInt_lt]; omega
theorem own_rS {u t : Int32} {n : Nat} (hn : t.toInt + ((n + 1 : Nat) : Int) = u.toInt) : t < u := by
  rw [Int32.lt_iff_toInt_lt]; omega
theorem own_rj {us : List Value} {u t w nz : Int32} {n : Nat} (hm : ∀ j : Int32, 0 ≤ j.toInt → j.toInt < w.toInt → ¬ own_at us j < 0 ∧ own_at us j < nz) (h0 : 0 ≤ t.toInt) (hn : t.toInt + ((n + 1 : Nat) : Int) = u.toInt) (h : u.toInt ≤ w.toInt) : ¬ own_at us (u - (1 : Int32)) < 0 ∧ own_at us (u - (1 : Int32)) < nz := by
  have e := own_m1 h0 hn
  exact hm _ (by omega) (by omega)
theorem own_re {u t : Int32} (hn : t.toInt + ((0 : Nat) : Int) = u.toInt) : u = t := Int32.toInt_inj.mp (by omega)
theorem own_rst {u t : Int32} (h : t.toInt ≤ u.toInt) : t.toInt + (((u.toInt - t.toInt).toNat : Nat) : Int) = u.toInt := by omega
def own_n1 (t : List Value) (ix k : Int32) (os : List own_T) : List own_T := if ¬ ix = k ∧ ¬ own_eqt t (os.getD (k).toNatClampNeg none) = (0 : Int32) then os.set (k).toNatClampNeg none else os
def own_ds (t : List Value) (ix : Int32) (os : List own_T) : List own_T := (own_n1 t ix (2 : Int32) (own_n1 t ix (1 : Int32) (own_n1 t ix (0 : Int32) os))).set (ix).toNatClampNeg (some t)
theorem own_n1T {t : List Value} {ix k : Int32} {os : List own_T} (h1 : ¬ ix = k) (h2 : ¬ own_eqt t (os.getD (k).toNatClampNeg none) = (0 : Int32)) : own_n1 t ix k os = os.set (k).toNatClampNeg none := by unfold own_n1; rw [if_pos ⟨h1, h2⟩]
theorem own_n1a {t : List Value} {ix k : Int32} {os : List own_T} (h1 : ix = k) : own_n1 t ix k os = os := by unfold own_n1; rw [if_neg (fun q => q.1 h1)]
theorem own_n1b {t : List Value} {ix k : Int32} {os : List own_T} (h2 : own_eqt t (os.getD (k).toNatClampNeg none) = (0 : Int32)) : own_n1 t ix k os = os := by unfold own_n1; rw [if_neg (fun q => q.2 h2)]
def own_eqo (a b : own_T) : Int32 := if a = b then 1 else 0
theorem own_eqts {t : List Value} {o : own_T} : own_eqt t o = own_eqo (some t) o := by
  unfold own_eqt own_eqo
  by_cases h : o = some t
  · rw [if_pos h, if_pos h.symm]
  · rw [if_neg h, if_neg (fun q => h q.symm)]
theorem own_narb (t : List Value) (o : own_T) : nar .boolean (own_eqt t o) = own_eqt t o := by
  unfold own_eqt; split <;> decide
theorem own_k3 : (3 : Nat) = (3 : Int32).toNatClampNeg := by decide
abbrev own_te : List Value := []
abbrev own_tx : List Value := [(.int (120 : Int32)), (.int (109 : Int32)), (.int (108 : Int32))]
def own_pk (v : Int32) : List Value := if v &&& (3 : Int32) = (0 : Int32) then [] else if v &&& (3 : Int32) = (1 : Int32) then [(.int (120 : Int32)), (.int (109 : Int32)), (.int (108 : Int32))] else if v &&& (3 : Int32) = (2 : Int32) then [(.int (97 : Int32))] else [(.int (98 : Int32))]
def own_r0 (nz : Int32) : List own_T := ((List.replicate nz.toNatClampNeg (none : own_T)).set ((0 : Int32)).toNatClampNeg (some [])).set ((1 : Int32)).toNatClampNeg (some [(.int (120 : Int32)), (.int (109 : Int32)), (.int (108 : Int32))])
theorem own_b01 {nz : Int32} (h : 2 ≤ nz.toInt) : (¬ (0 : Int32) < 0 ∧ (0 : Int32) < nz) ∧ (¬ (1 : Int32) < 0 ∧ (1 : Int32) < nz) := by
  have k : (0 : Int32).toInt = 0 := by decide
  have k1 : (1 : Int32).toInt = 1 := by decide
  exact ⟨own_ib (by omega) (by omega), own_ib (by omega) (by omega)⟩
theorem own_ngz {nz : Int32} (h : 2 ≤ nz.toInt) : ¬ nz < 0 := by
  rw [Int32.lt_iff_toInt_lt]; have k : (0 : Int32).toInt = 0 := by decide
  omega
theorem own_zeroN {Z : State} {h : Heap} {a : Addr} {k : ClassId} {ty : FieldType} {z : Int32} (F : Arv Z h a k ty z [] .null) : Arv Z h a k ty z (List.replicate z.toNatClampNeg .null) .null := F.pad (pad_rep [] _ _)
def own_I (s : own_ST) (b : Int) : Prop := 0 ≤ s.2.2.2.toInt ∧ s.2.2.2.toInt ≤ b ∧ s.2.1.length = 16 ∧ s.2.2.1.length = 16 ∧ s.1.length = 3 ∧ ∀ j : Int32, 0 ≤ j.toInt → j.toInt < s.2.2.2.toInt → ¬ own_at s.2.1 j < 0 ∧ own_at s.2.1 j < (3 : Int32)
def own_X (s s' : own_ST) : Prop := ∀ P : own_ST → Prop, P s → (∀ (q : own_ST) (i : Int32) (o : own_T), P q → 0 ≤ q.2.2.2.toInt → q.2.2.2.toInt < 16 → q.2.1.length = 16 → q.2.2.1.length = 16 → P (own_bd q i o)) → P s'
theorem own_Xr (s : own_ST) : own_X s s := fun _ h _ => h
theorem own_Xt {a b d : own_ST} (f : own_X a b) (g : own_X b d) : own_X a d := fun P h k => g P (f P h k) k
theorem own_Xb {a : own_ST} {i : Int32} {o : own_T} {b : Int} (I : own_I a b) (hb : b < 16) : own_X a (own_bd a i o) := fun _ h k => k a i o h I.1 (by have := I.2.1; omega) I.2.2.1 I.2.2.2.1
theorem own_Xle {a d : own_ST} (f : own_X a d) : a.2.2.2.toInt ≤ d.2.2.2.toInt :=
  f (fun q => a.2.2.2.toInt ≤ q.2.2.2.toInt) (Int.le_refl _) (fun q i o h h0 h1 _ _ => by
    show _ ≤ (q.2.2.2 + (1 : Int32)).toInt
    rw [own_up1 ⟨h0, h1⟩]; omega)
theorem own_gset {α : Type} {l : List α} {j : Nat} {v d : α} (h : j < l.length) : (l.set j v).getD j d = v := by
  simp [List.getD, h]
theorem own_gne {α : Type} {l : List α} {j k : Nat} {v d : α} (h : ¬ j = k) : (l.set j v).getD k d = l.getD k d := by
  simp [List.getD, List.getElem?_set, h]
theorem own_sself {α : Type} {l : List α} {j : Nat} {v d : α} : (l.set j v).set j (l.getD j d) = l := by
  rw [List.set_set]
  apply List.ext_getElem?
  intro k
  rw [List.getElem?_set]
  by_cases h : j = k
  · subst h
    by_cases q : j < l.length
    · simp [q, List.getD]
    · simp [q]
  · simp [h]
theorem own_atset {us : List Value} {u i : Int32} (h : us.getD u.toNatClampNeg (.int (0 : Int32)) = .int i) : own_at us u = i := by
  unfold own_at; rw [h]
theorem own_undo {a d : own_ST} (f : own_X a d) : 0 ≤ a.2.2.2.toInt → ∀ (us : List Value) (uo : List own_T), (∀ j : Nat, (j : Int) < d.2.2.2.toInt → us.getD j (.int (0 : Int32)) = d.2.1.getD j (.int (0 : Int32)) ∧ uo.getD j none = d.2.2.1.getD j none) → (own_rs us (d.2.2.2.toInt - a.2.2.2.toInt).toNat d.2.2.2 (d.1, uo)).1 = a.1 := by
  refine (f (fun d => a.2.2.2.toInt ≤ d.2.2.2.toInt ∧ (0 ≤ a.2.2.2.toInt → ∀ (us : List Value) (uo : List own_T), (∀ j : Nat, (j : Int) < d.2.2.2.toInt → us.getD j (.int (0 : Int32)) = d.2.1.getD j (.int (0 : Int32)) ∧ uo.getD j none = d.2.2.1.getD j none) → (own_rs us (d.2.2.2.toInt - a.2.2.2.toInt).toNat d.2.2.2 (d.1, uo)).1 = a.1)) ⟨Int.le_refl _, ?_⟩ ?_).2
  · intro h0 us uo h
    have e : (a.2.2.2.toInt - a.2.2.2.toInt).toNat = 0 := by omega
    rw [e]; rfl
  · rintro q i o ⟨hle, ih⟩ h0 h1 hl1 hl2
    have e1 : (q.2.2.2 + (1 : Int32)).toInt = q.2.2.2.toInt + 1 := own_up1 ⟨h0, h1⟩
    have en := own_nat h0
    refine ⟨by show _ ≤ (q.2.2.2 + (1 : Int32)).toInt; omega, ?_⟩
    intro ha us uo h
    show (own_rs us ((q.2.2.2 + (1 : Int32)).toInt - a.2.2.2.toInt).toNat (q.2.2.2 + (1 : Int32)) (q.1.set (i).toNatClampNeg o, uo)).1 = a.1
    have e2 : ((q.2.2.2 + (1 : Int32)).toInt - a.2.2.2.toInt).toNat = (q.2.2.2.toInt - a.2.2.2.toInt).toNat + 1 := by omega
    have e3 : q.2.2.2 + (1 : Int32) - (1 : Int32) = q.2.2.2 := by
      apply Int32.toInt_inj.mp
      have c := c_isub (q.2.2.2 + 1) 1; have k : (1 : Int32).toInt = 1 := by decide
      have r := rng32 q.2.2.2; have r2 := rng32 (q.2.2.2 + 1 - 1); omega
    rw [e2]
    show (own_rs us _ (q.2.2.2 + (1 : Int32) - (1 : Int32)) _).1 = a.1
    simp only [e3]
    have hj := h q.2.2.2.toNatClampNeg (by show _ < (q.2.2.2 + (1 : Int32)).toInt; omega)
    have g1 : us.getD q.2.2.2.toNatClampNeg (.int (0 : Int32)) = .int i := hj.1.trans (own_gset (by rw [hl1]; omega))
    have g2 : uo.getD q.2.2.2.toNatClampNeg none = q.1.getD (i).toNatClampNeg none := hj.2.trans (own_gset (by rw [hl2]; omega))
    rw [own_atset g1, g2, own_sself]
    refine ih ha us _ ?_
    intro j hjl
    have hne : ¬ q.2.2.2.toNatClampNeg = j := by omega
    have hh := h j (by show _ < (q.2.2.2 + (1 : Int32)).toInt; omega)
    rw [own_gne hne]
    exact ⟨hh.1.trans (own_gne hne), hh.2.trans (own_gne hne)⟩
theorem own_und {a d : own_ST} (f : own_X a d) (h : 0 ≤ a.2.2.2.toInt) : (own_rs d.2.1 (d.2.2.2.toInt - a.2.2.2.toInt).toNat d.2.2.2 (d.1, d.2.2.1)).1 = a.1 := own_undo f h _ _ fun _ _ => ⟨rfl, rfl⟩
theorem own_Ib {s : own_ST} {i : Int32} {o : own_T} {b : Int} (I : own_I s b) (hi : ¬ i < 0 ∧ i < (3 : Int32)) (hb : b < 16) : own_I (own_bd s i o) (b + 1) := by
  obtain ⟨h0, h1, l1, l2, l3, hm⟩ := I
  have e1 : (s.2.2.2 + (1 : Int32)).toInt = s.2.2.2.toInt + 1 := own_up1 ⟨h0, by omega⟩
  refine ⟨?_, ?_, ?_, ?_, ?_, ?_⟩
  · show 0 ≤ (s.2.2.2 + (1 : Int32)).toInt; omega
  · show (s.2.2.2 + (1 : Int32)).toInt ≤ _; omega
  · show (s.2.1.set _ _).length = 16; rw [List.length_set]; exact l1
  · show (s.2.2.1.set _ _).length = 16; rw [List.length_set]; exact l2
  · show (s.1.set _ _).length = 3; rw [List.length_set]; exact l3
  · intro j hj hj2
    have hj3 : j.toInt < (s.2.2.2 + (1 : Int32)).toInt := hj2
    have en := own_nat h0
    have ej := own_nat hj
    show ¬ own_at (s.2.1.set s.2.2.2.toNatClampNeg (.int i)) j < 0 ∧ own_at (s.2.1.set s.2.2.2.toNatClampNeg (.int i)) j < (3 : Int32)
    by_cases q : s.2.2.2.toNatClampNeg = j.toNatClampNeg
    · have : own_at (s.2.1.set s.2.2.2.toNatClampNeg (.int i)) j = i := own_atset (by rw [← q]; exact own_gset (by rw [l1]; omega))
      rw [this]; exact hi
    · have : own_at (s.2.1.set s.2.2.2.toNatClampNeg (.int i)) j = own_at s.2.1 j := by unfold own_at; rw [own_gne q]
      rw [this]; exact hm j hj (by omega)
theorem own_Imono {s : own_ST} {b d : Int} (I : own_I s b) (h : b ≤ d) : own_I s d := ⟨I.1, Int.le_trans I.2.1 h, I.2.2⟩
def own_st1 (t : List Value) (ix i : Int32) (s : own_ST) : own_ST := if ¬ i = ix ∧ ¬ own_eqt t (s.1.getD (i).toNatClampNeg none) = (0 : Int32) then own_bd s i none else s
theorem own_st1I {t : List Value} {ix i : Int32} {s : own_ST} {b : Int} (I : own_I s b) (hi : ¬ i < 0 ∧ i < (3 : Int32)) (hb : b < 16) : own_I (own_st1 t ix i s) (b + 1) ∧ own_X s (own_st1 t ix i s) := by
  unfold own_st1
  split
  · exact ⟨own_Ib I hi hb, own_Xb I hb⟩
  · exact ⟨own_Imono I (by omega), own_Xr s⟩
theorem own_de3 (t : List Value) (ix : Int32) (s : own_ST) : own_de t ix (3 : Int32) s = own_bd (own_st1 t ix (2 : Int32) (own_st1 t ix (1 : Int32) (own_st1 t ix (0 : Int32) s))) ix (some t) := by
  unfold own_de
  have e : (3 : Int32).toInt.toNat = 3 := by decide
  rw [e]; rfl
theorem own_IX {t : List Value} {ix : Int32} {s : own_ST} {b : Int} (hi : ¬ ix < 0 ∧ ix < (3 : Int32)) (I : own_I s b) (hb : b < 13) : own_I (own_de t ix (3 : Int32) s) (b + 4) ∧ own_X s (own_de t ix (3 : Int32) s) := by
  rw [own_de3]
  obtain ⟨I1, X1⟩ := own_st1I (t := t) (ix := ix) I (i := 0) ⟨by decide, by decide⟩ (by omega)
  obtain ⟨I2, X2⟩ := own_st1I (t := t) (ix := ix) I1 (i := 1) ⟨by decide, by decide⟩ (by omega)
  obtain ⟨I3, X3⟩ := own_st1I (t := t) (ix := ix) I2 (i := 2) ⟨by decide, by decide⟩ (by omega)
  exact ⟨own_Imono (own_Ib I3 hi (by omega)) (by omega), own_Xt (own_Xt X1 X2) (own_Xt X3 (own_Xb I3 (by omega)))⟩
theorem own_Ide {t : List Value} {ix : Int32} {s : own_ST} {b d : Int} (hi : ¬ ix < 0 ∧ ix < (3 : Int32)) (I : own_I s b) (hb : b < 13 ∧ b + 4 = d) : own_I (own_de t ix (3 : Int32) s) d := hb.2 ▸ (own_IX hi I hb.1).1
theorem own_Xde {t : List Value} {ix : Int32} {s : own_ST} {b : Int} (hi : ¬ ix < 0 ∧ ix < (3 : Int32)) (I : own_I s b) (hb : b < 13) : own_X s (own_de t ix (3 : Int32) s) := (own_IX hi I hb).2
theorem own_st1n {t : List Value} {ix i : Int32} {s : own_ST} : (own_st1 t ix i s).1 = own_n1 t ix i s.1 := by
  unfold own_st1 own_n1
  by_cases h : ¬ i = ix ∧ ¬ own_eqt t (s.1.getD (i).toNatClampNeg none) = (0 : Int32)
  · rw [if_pos h, if_pos ⟨fun q => h.1 q.symm, h.2⟩]; rfl
  · rw [if_neg h, if_neg (fun q => h ⟨fun y => q.1 y.symm, q.2⟩)]
theorem own_dds {t : List Value} {ix : Int32} {s : own_ST} : (own_de t ix (3 : Int32) s).1 = own_ds t ix s.1 := by
  rw [own_de3]
  show ((own_st1 t ix (2 : Int32) (own_st1 t ix (1 : Int32) (own_st1 t ix (0 : Int32) s))).1.set _ _) = _
  rw [own_st1n, own_st1n, own_st1n]; rfl
theorem own_I0 : own_I (own_r0 (3 : Int32), List.replicate 16 (.int (0 : Int32)), List.replicate 16 (none : own_T), (0 : Int32)) 0 := by
  have k : (0 : Int32).toInt = 0 := by decide
  refine ⟨by show 0 ≤ (0 : Int32).toInt; omega, by show (0 : Int32).toInt ≤ 0; omega, List.length_replicate, List.length_replicate, by show (own_r0 (3 : Int32)).length = 3; unfold own_r0; rw [List.length_set, List.length_set, List.length_replicate]; decide, fun j h1 h2 => ?_⟩
  have h3 : j.toInt < (0 : Int32).toInt := h2
  omega
theorem own_eqo1 (a : own_T) : ¬ own_eqo a a = (0 : Int32) := by
  unfold own_eqo; rw [if_pos rfl]; decide
theorem own_ix3 (n : Int32) : 0 ≤ ((n &&& (2147483647 : Int32)) % (3 : Int32)).toInt ∧ ((n &&& (2147483647 : Int32)) % (3 : Int32)).toInt < 3 := by
  have h := c_mask n 2147483647 31 (by decide) (by decide)
  have h2 := (c_irem (n &&& 2147483647) 3 3 (by decide)).1 (by omega)
  omega
theorem own_ix (n : Int32) : ¬ ((n &&& (2147483647 : Int32)) % (3 : Int32)) < 0 ∧ ((n &&& (2147483647 : Int32)) % (3 : Int32)) < (3 : Int32) := by
  have k : (3 : Int32).toInt = 3 := by decide
  have h := own_ix3 n
  exact own_ib h.1 (by omega)
theorem own_r3 (n : Int32) : ((n &&& (2147483647 : Int32)) % (3 : Int32)) = 0 ∨ ((n &&& (2147483647 : Int32)) % (3 : Int32)) = 1 ∨ ((n &&& (2147483647 : Int32)) % (3 : Int32)) = 2 := by
  have h := own_ix3 n
  have k0 : (0 : Int32).toInt = 0 := by decide
  have k1 : (1 : Int32).toInt = 1 := by decide
  have k2 : (2 : Int32).toInt = 2 := by decide
  rcases (show ((n &&& (2147483647 : Int32)) % (3 : Int32)).toInt = 0 ∨ ((n &&& (2147483647 : Int32)) % (3 : Int32)).toInt = 1 ∨ ((n &&& (2147483647 : Int32)) % (3 : Int32)).toInt = 2 by omega) with q | q | q
  · exact Or.inl (Int32.toInt_inj.mp (by omega))
  · exact Or.inr (Or.inl (Int32.toInt_inj.mp (by omega)))
  · exact Or.inr (Or.inr (Int32.toInt_inj.mp (by omega)))
theorem own_c255 (v : Int32) : ¬ (255 : Int32) < ((((v.toUInt32 >>> ((2 : Int32) &&& 31).toUInt32).toInt32) &&& (255 : Int32)).toUInt32.toUInt16.toUInt32.toInt32) := by
  have h := c_mask ((v.toUInt32 >>> ((2 : Int32) &&& 31).toUInt32).toInt32) 255 8 (by decide) (by decide)
  have h2 := c_i2c (((v.toUInt32 >>> ((2 : Int32) &&& 31).toUInt32).toInt32) &&& (255 : Int32))
  have k : (255 : Int32).toInt = 255 := by decide
  rw [Int32.lt_iff_toInt_lt]
  omega
def own_J (s : own_ST) (b : Int) : Prop := 0 ≤ s.2.2.2.toInt ∧ s.2.2.2.toInt ≤ b ∧ s.2.1.length = 16
theorem own_Jb {s : own_ST} {i : Int32} {o : own_T} {b : Int} (J : own_J s b) (hb : b < 16) : own_J (own_bd s i o) (b + 1) := by
  obtain ⟨h0, h1, l1⟩ := J
  have e1 : (s.2.2.2 + (1 : Int32)).toInt = s.2.2.2.toInt + 1 := own_up1 ⟨h0, by omega⟩
  refine ⟨?_, ?_, ?_⟩
  · show 0 ≤ (s.2.2.2 + (1 : Int32)).toInt; omega
  · show (s.2.2.2 + (1 : Int32)).toInt ≤ _; omega
  · show (s.2.1.set _ _).length = 16; rw [List.length_set]; exact l1
theorem own_Jm {s : own_ST} {b d : Int} (J : own_J s b) (h : b ≤ d) : own_J s d := ⟨J.1, Int.le_trans J.2.1 h, J.2.2⟩
theorem own_Jdl {t : List Value} {ix nz : Int32} (n : Nat) : ∀ {i : Int32} {s : own_ST} {b : Int}, i.toInt + (n : Int) = nz.toInt → 0 ≤ i.toInt → own_J s b → b + (n : Int) < 16 → own_J (own_dl t ix n i s) (b + n) ∧ (i.toInt ≤ ix.toInt → ix.toInt < nz.toInt → own_J (own_dl t ix n i s) (b + n - 1)) := by
  induction n with
  | zero => intro i s b hn h0 J hb; exact ⟨own_Jm J (by omega), fun h1 h2 => by omega⟩
  | succ n ih =>
    intro i s b hn h0 J hb
    have e := own_i1 h0 hn
    have q1 := own_l1 h0 hn
    have q2 := own_l2 h0 hn
    have e0 : own_dl t ix (n + 1) i s = own_dl t ix n (i + (1 : Int32)) (own_st1 t ix i s) := rfl
    rw [e0]
    unfold own_st1
    split
    · rename_i hc
      have r := ih (b := b + 1) q1 q2 (own_Jb (i := i) (o := none) J (by omega)) (by omega)
      refine ⟨own_Jm r.1 (by omega), fun h1 h2 => ?_⟩
      have hne : i.toInt ≠ ix.toInt := fun y => hc.1 (Int32.toInt_inj.mp y)
      exact own_Jm (r.2 (by omega) h2) (by omega)
    · have r := ih (b := b) q1 q2 J (by omega)
      exact ⟨own_Jm r.1 (by omega), fun h1 h2 => own_Jm r.1 (by omega)⟩
theorem own_Jde {t : List Value} {ix nz : Int32} {s : own_ST} {b : Int} (hi : ¬ ix < 0 ∧ ix < nz) (J : own_J s b) (hb : b + nz.toInt < 16) : own_J (own_de t ix nz s) (b + nz.toInt) := by
  have h1 := own_ge hi.1
  have h2 := hi.2
  rw [Int32.lt_iff_toInt_lt] at h2
  have k : (0 : Int32).toInt = 0 := by decide
  have r := (own_Jdl (t := t) (ix := ix) (nz := nz) nz.toInt.toNat (i := 0) (s := s) (b := b) (by omega) (by omega) J (by omega)).2 (by omega) h2
  unfold own_de
  exact own_Jm (own_Jb r (by omega)) (by omega)
theorem own_J0 {po uo : List own_T} : own_J (po, List.replicate 16 (.int (0 : Int32)), uo, (0 : Int32)) 0 := by
  have k : (0 : Int32).toInt = 0 := by decide
  exact ⟨by show 0 ≤ (0 : Int32).toInt; omega, by show (0 : Int32).toInt ≤ 0; omega, List.length_replicate⟩
theorem own_n5 (p : Int32) : 2 ≤ ((2 : Int32) + (p &&& (3 : Int32))).toInt ∧ ((2 : Int32) + (p &&& (3 : Int32))).toInt ≤ 5 := by
  have h := c_mask p 3 2 (by decide) (by decide)
  have h1 := c_iadd 2 (p &&& 3); have k : (2 : Int32).toInt = 2 := by decide
  have r := rng32 (2 + (p &&& 3)); omega
theorem own_idx {n z : Int32} (h : 2 ≤ z.toInt) : ¬ ((n &&& (2147483647 : Int32)) % z) < 0 ∧ ((n &&& (2147483647 : Int32)) % z) < z := by
  have h1 := c_mask n 2147483647 31 (by decide) (by decide)
  have h2 := (c_iremV (n &&& 2147483647) z).1 (by omega) (by omega)
  exact own_ib (by omega) (by omega)
theorem own_nz0 {z : Int32} (h : 2 ≤ z.toInt) : ¬ z = (0 : Int32) := by
  intro q; subst q; have k : (0 : Int32).toInt = 0 := by decide
  omega
theorem own_cap5 {z : Int32} (h : 2 ≤ z.toInt ∧ z.toInt ≤ 5) : z.toNatClampNeg ≤ 5 := by
  have := own_nat (j := z) (by omega); omega
theorem own_r00 {z : Int32} (h : 2 ≤ z.toInt) : (own_r0 z).getD ((0 : Int32)).toNatClampNeg none = some [] := by
  have a := own_nat (j := z) (by omega)
  have k0 : ((0 : Int32)).toNatClampNeg = 0 := by decide
  have k1 : ((1 : Int32)).toNatClampNeg = 1 := by decide
  unfold own_r0
  rw [k0, k1, own_gne (by decide), own_gset (by rw [List.length_replicate]; omega)]
theorem own_r01 {z : Int32} (h : 2 ≤ z.toInt) : (own_r0 z).getD ((1 : Int32)).toNatClampNeg none = some [(.int (120 : Int32)), (.int (109 : Int32)), (.int (108 : Int32))] := by
  have a := own_nat (j := z) (by omega)
  have k1 : ((1 : Int32)).toNatClampNeg = 1 := by decide
  unfold own_r0
  rw [k1, own_gset (by rw [List.length_set, List.length_replicate]; omega)]
theorem own_r0n {z k : Int32} (h : 2 ≤ k.toInt) : (own_r0 z).getD (k).toNatClampNeg none = none := by
  have a := own_nat (j := k) (by omega)
  have k0 : ((0 : Int32)).toNatClampNeg = 0 := by decide
  have k1 : ((1 : Int32)).toNatClampNeg = 1 := by decide
  unfold own_r0
  rw [k0, k1, own_gne (by omega), own_gne (by omega)]
  simp only [List.getD, List.getElem?_replicate]
  split <;> rfl
theorem own_S_none {Z : State} {h : Heap} {v : Value} {o : own_T} (F : own_S Z h v o) (q : o = none) : v = .null := by
  rcases F with ⟨y, -⟩ | ⟨a, b, k, z, vs, a0, hv, ho, -⟩
  · exact y
  · rw [q] at ho; cases ho
theorem own_eqt1 {t : List Value} {o : own_T} (h : o = some t) : ¬ own_eqt t o = (0 : Int32) := by
  unfold own_eqt; rw [if_pos h]; decide
theorem own_r4 (p : Int32) : (p &&& (3 : Int32)) = 0 ∨ (p &&& (3 : Int32)) = 1 ∨ (p &&& (3 : Int32)) = 2 ∨ (p &&& (3 : Int32)) = 3 := by
  have h := c_mask p 3 2 (by decide) (by decide)
  have k0 : (0 : Int32).toInt = 0 := by decide
  have k1 : (1 : Int32).toInt = 1 := by decide
  have k2 : (2 : Int32).toInt = 2 := by decide
  have k3 : (3 : Int32).toInt = 3 := by decide
  rcases (show (p &&& (3 : Int32)).toInt = 0 ∨ (p &&& (3 : Int32)).toInt = 1 ∨ (p &&& (3 : Int32)).toInt = 2 ∨ (p &&& (3 : Int32)).toInt = 3 by omega) with q | q | q | q
  · exact Or.inl (Int32.toInt_inj.mp (by omega))
  · exact Or.inr (Or.inl (Int32.toInt_inj.mp (by omega)))
  · exact Or.inr (Or.inr (Or.inl (Int32.toInt_inj.mp (by omega))))
  · exact Or.inr (Or.inr (Or.inr (Int32.toInt_inj.mp (by omega))))
theorem own_r5 {z : Int32} (h : 2 ≤ z.toInt ∧ z.toInt ≤ 5) : z = 2 ∨ z = 3 ∨ z = 4 ∨ z = 5 := by
  have k2 : (2 : Int32).toInt = 2 := by decide
  have k3 : (3 : Int32).toInt = 3 := by decide
  have k4 : (4 : Int32).toInt = 4 := by decide
  have k5 : (5 : Int32).toInt = 5 := by decide
  rcases (show z.toInt = 2 ∨ z.toInt = 3 ∨ z.toInt = 4 ∨ z.toInt = 5 by omega) with q | q | q | q
  · exact Or.inl (Int32.toInt_inj.mp (by omega))
  · exact Or.inr (Or.inl (Int32.toInt_inj.mp (by omega)))
  · exact Or.inr (Or.inr (Or.inl (Int32.toInt_inj.mp (by omega))))
  · exact Or.inr (Or.inr (Or.inr (Int32.toInt_inj.mp (by omega))))

theorem own_eqb1 {u v : List Value} (h : ¬ own_eqb u v = (0 : Int32)) : u = v := by
  unfold own_eqb at h
  by_cases q : u = v
  · exact q
  · rw [if_neg q] at h; exact absurd rfl h
theorem own_eqb0 {u v : List Value} (h : own_eqb u v = (0 : Int32)) : ¬ u = v := by
  intro q
  unfold own_eqb at h
  rw [if_pos q] at h
  exact absurd h (by decide)
abbrev own_EL : List (String × Nat) := consts_1
theorem pn_0 : plainName "java/lang/StringLatin1" = true := by first | (simp [plainName, overriddenIn]; done) | decide +kernel
theorem d13_0 : decode jdk_43_method_13_code 0 = .ok (.aload_n 0, 1) := by decide +kernel
theorem d13_1 : decode jdk_43_method_13_code 1 = .ok (.arraylength, 1) := by decide +kernel
theorem d13_2 : decode jdk_43_method_13_code 2 = .ok (.aload_n 1, 1) := by decide +kernel
theorem d13_3 : decode jdk_43_method_13_code 3 = .ok (.arraylength, 1) := by decide +kernel
theorem d13_4 : decode jdk_43_method_13_code 4 = .ok (.if_icmp .ne 30, 3) := by decide +kernel
theorem d13_7 : decode jdk_43_method_13_code 7 = .ok (.iconst 0, 1) := by decide +kernel
theorem d13_8 : decode jdk_43_method_13_code 8 = .ok (.istore_n 2, 1) := by decide +kernel
theorem d13_9 : decode jdk_43_method_13_code 9 = .ok (.iload_n 2, 1) := by decide +kernel
theorem d13_10 : decode jdk_43_method_13_code 10 = .ok (.aload_n 0, 1) := by decide +kernel
theorem d13_11 : decode jdk_43_method_13_code 11 = .ok (.arraylength, 1) := by decide +kernel
theorem d13_12 : decode jdk_43_method_13_code 12 = .ok (.if_icmp .ge 20, 3) := by decide +kernel
theorem d13_32 : decode jdk_43_method_13_code 32 = .ok (.iconst 1, 1) := by decide +kernel
theorem d13_33 : decode jdk_43_method_13_code 33 = .ok (.ireturn, 1) := by decide +kernel
theorem d13_15 : decode jdk_43_method_13_code 15 = .ok (.aload_n 0, 1) := by decide +kernel
theorem d13_16 : decode jdk_43_method_13_code 16 = .ok (.iload_n 2, 1) := by decide +kernel
theorem d13_17 : decode jdk_43_method_13_code 17 = .ok (.baload, 1) := by decide +kernel
theorem d13_18 : decode jdk_43_method_13_code 18 = .ok (.aload_n 1, 1) := by decide +kernel
theorem d13_19 : decode jdk_43_method_13_code 19 = .ok (.iload_n 2, 1) := by decide +kernel
theorem d13_20 : decode jdk_43_method_13_code 20 = .ok (.baload, 1) := by decide +kernel
theorem d13_21 : decode jdk_43_method_13_code 21 = .ok (.if_icmp .eq 5, 3) := by decide +kernel
theorem d13_26 : decode jdk_43_method_13_code 26 = .ok (.iinc 2 1, 3) := by decide +kernel
theorem d13_29 : decode jdk_43_method_13_code 29 = .ok (.goto (-20), 3) := by decide +kernel
theorem d13_24 : decode jdk_43_method_13_code 24 = .ok (.iconst 0, 1) := by decide +kernel
theorem d13_25 : decode jdk_43_method_13_code 25 = .ok (.ireturn, 1) := by decide +kernel
theorem d13_34 : decode jdk_43_method_13_code 34 = .ok (.iconst 0, 1) := by decide +kernel
theorem d13_35 : decode jdk_43_method_13_code 35 = .ok (.ireturn, 1) := by decide +kernel
theorem ef_13 (m : MethodId) (x0 : Addr) (x1 : Addr) : entryFrame m #[(.ref x0), (.ref x1)] 3 = mkF m 0 #[.val (.ref x0), .val (.ref x1), .unset] [] := by first | (simp [entryFrame, mkF, argsToLocals, Value.category]; done) | rfl
def Q13 (Z : State) (ax : Addr) (ay : Addr) (kx : ClassId) (zx : Int32) (tx : List Value) (ky : ClassId) (zy : Int32) (ty : List Value) (h0 : Heap) (n0 : Nat) (vα : Option Value) (hα : Heap) (Lα : List Loc) : Prop := vα = some (.int (own_eqb tx ty)) ∧ Fr n0 Lα ∧ hα = h0
set_option maxRecDepth 65536 in
set_option maxHeartbeats 40000000 in
theorem rm13 (l : Launch) (Z : State) (a0 : Array Value) (hw : ∀ d ∈ tables_1, d.before a0 Z = true) (ws : List Jvm.Cond) (ax : Addr) (ay : Addr) (kx : ClassId) (zx : Int32) (tx : List Value) (ky : ClassId) (zy : Int32) (ty : List Value) (h0 : Heap) (n0 : Nat) (Z0 : n0 ≤ h0.size) (V_x : Arv Z h0 ax kx .byte zx tx (.int (0 : Int32))) (V_y : Arv Z h0 ay ky .byte zy ty (.int (0 : Int32))) (hlx : zx.toNatClampNeg = tx.length) (hly : zy.toNatClampNeg = ty.length) :
    MetFree l (⟨"java/lang/StringLatin1", "equals", "([B[B)Z"⟩ : MethodName) (head1 (Jvm.Cond.code (⟨"java/lang/StringLatin1", "equals", "([B[B)Z"⟩ : MethodName) jdk_43_method_13_code 3 (some .boolean) :: ws) ({ frames := 0, cells := 0, slots := 0, locals := 0 } : Room)) (fun aα U => aα = #[(.ref ax), (.ref ay)] ∧ Z.Warmed39 U.vm ∧ U.heap = h0) (fun _ _ _ _ _ => True) (fun _ U oα U' => ∃ vα Lα, oα = .returned vα ∧ Q13 Z ax ay kx zx tx ky zy ty h0 n0 vα U'.heap Lα ∧ FrameEnd U oα U' Lα ({ frames := 0, cells := 0, slots := 0, locals := 0 } : Room).cells ({ frames := 0, cells := 0, slots := 0, locals := 0 } : Room).slots) := by
  refine MetFree.of_bodySF (plainFor_of_name pn_0) hisR ?_
  intro p e s m args below meth c s₁ Bd hml0 hP hK
  refine own_wrap ?_
  intro GL hGL
  obtain ⟨rfl, hZ, hh⟩ := hP
  have hx := Bd.exec
  have hby := Bd.bytes
  have hml : c.maxLocals = 3 := hml0
  have hown : s.vm.findClass "java/lang/StringLatin1" = some m.cls := findClass_of_methodNamed Bd.named
  have hnm := (name_of_methodNamed Bd.named Bd.method).1
  have X0 : Stand p l e ({ frames := 0, cells := 0, slots := 0, locals := 0 } : Room) s m #[(.ref ax), (.ref ay)] below meth c s₁ [] 0 0 := Stand.of_body Bd
  have e0 : s₁.heap = h0 := by rw [← hh, Bd.state]; rfl
  have N0 := Fr.nil n0
  have pre0 : ∀ τ, Steps p.tables e below (s₁.setTop (mkF m 0 #[.val (.ref ax), .val (.ref ay), .unset] [])) τ → Steps p.tables e below (s₁.setTop (entryFrame m #[(.ref ax), (.ref ay)] 3)) τ := fun τ κ => castTop (ef_13 m ax ay) κ
  obtain ⟨G, hG, pre⟩ : ∃ G : State → Prop, (∀ τ, G τ → Steps p.tables e below (s₁.setTop (entryFrame m #[(.ref ax), (.ref ay)] 3)) τ) ∧ ∀ τ, Steps p.tables e below (s₁.setTop (mkF m 0 #[.val (.ref ax), .val (.ref ay), .unset] [])) τ → G τ := ⟨_, pre0, fun _ k => k⟩
  have K : Keep h0 h0 [] := Keep.refl h0 _
  have Zn := Z0
  have pre : ∀ τ, Steps p.tables e below (s₁.setTop (mkF m 1 #[.val (.ref ax), .val (.ref ay), .unset] [(.ref ax)])) τ → G τ := fun τ κ => pre τ (by
    refine XS.aloadN X0.here hx rfl (hb hby d13_0) rfl rfl ?_
    show Steps p.tables e below (s₁.setTop (mkF m 1 #[.val (.ref ax), .val (.ref ay), .unset] [(.ref ax)])) τ
    exact κ)
  obtain ⟨c1, Ar1, -, S1, N1, -, -⟩ := id V_x
  have pre : ∀ τ, Steps p.tables e below (s₁.setTop (mkF m 2 #[.val (.ref ax), .val (.ref ay), .unset] [(.int zx)])) τ → G τ := fun τ κ => pre τ (by
    refine X0.arraylength hx (by rw [e0]; exact Ar1.1) (State.isArrayOf_alike hZ.alike Ar1.2.1) (g := (mkF m 1 #[.val (.ref ax), .val (.ref ay), .unset] [(.ref ax)])) rfl rfl (hb hby d13_1) _ ?_
    rw [len_of S1 N1]
    exact κ)
  have pre : ∀ τ, Steps p.tables e below (s₁.setTop (mkF m 3 #[.val (.ref ax), .val (.ref ay), .unset] [(.ref ay), (.int zx)])) τ → G τ := fun τ κ => pre τ (by
    refine XS.aloadN X0.here hx rfl (hb hby d13_2) rfl rfl ?_
    show Steps p.tables e below (s₁.setTop (mkF m 3 #[.val (.ref ax), .val (.ref ay), .unset] [(.ref ay), (.int zx)])) τ
    exact κ)
  obtain ⟨c2, Ar2, -, S2, N2, -, -⟩ := id V_y
  have pre : ∀ τ, Steps p.tables e below (s₁.setTop (mkF m 4 #[.val (.ref ax), .val (.ref ay), .unset] [(.int zy), (.int zx)])) τ → G τ := fun τ κ => pre τ (by
    refine X0.arraylength hx (by rw [e0]; exact Ar2.1) (State.isArrayOf_alike hZ.alike Ar2.2.1) (g := (mkF m 3 #[.val (.ref ax), .val (.ref ay), .unset] [(.ref ay), (.int zx)])) rfl rfl (hb hby d13_3) _ ?_
    rw [len_of S2 N2]
    exact κ)
  rcases Classical.em (zx = zy) with hc4_3 | hc4_3
  ·
    have pre : ∀ τ, Steps p.tables e below (s₁.setTop (mkF m 9 #[.val (.ref ax), .val (.ref ay), .val (.int (0 : Int32))] [])) τ → G τ := fun τ κ => pre τ (by
      refine XS.icmpNo X0.here hx rfl (hb hby d13_4) rfl (teq hc4_3).2 ?_
      show Steps p.tables e below (s₁.setTop (mkF m 7 #[.val (.ref ax), .val (.ref ay), .unset] [])) τ
      refine XS.iconst X0.here hx rfl (hb hby d13_7) ?_
      show Steps p.tables e below (s₁.setTop (mkF m 8 #[.val (.ref ax), .val (.ref ay), .unset] [(.int (0 : Int32))])) τ
      refine XS.istoreN X0.here hx rfl (hb hby d13_8) rfl (l' := #[.val (.ref ax), .val (.ref ay), .val (.int (0 : Int32))]) rfl ?_
      show Steps p.tables e below (s₁.setTop (mkF m 9 #[.val (.ref ax), .val (.ref ay), .val (.int (0 : Int32))] [])) τ
      exact κ)
    have loop : ∀ (n : Nat) (i : Int32) (hn : i.toInt + (n : Int) = zx.toInt) (hi0 : 0 ≤ i.toInt) (heq : ∀ j, j < i.toNatClampNeg → tx.getD j (.int (0 : Int32)) = ty.getD j (.int (0 : Int32))) (pre : ∀ τ, Steps p.tables e below (s₁.setTop (mkF m 9 #[.val (.ref ax), .val (.ref ay), .val (.int i)] [])) τ → G τ), GL := by
      intro n
      induction n with
      | zero =>
        intro i hn hi0 heq pre
        have pre : ∀ τ, Steps p.tables e below (s₁.setTop (mkF m 11 #[.val (.ref ax), .val (.ref ay), .val (.int i)] [(.ref ax), (.int i)])) τ → G τ := fun τ κ => pre τ (by
          refine XS.iloadN X0.here hx rfl (hb hby d13_9) rfl ?_
          show Steps p.tables e below (s₁.setTop (mkF m 10 #[.val (.ref ax), .val (.ref ay), .val (.int i)] [(.int i)])) τ
          refine XS.aloadN X0.here hx rfl (hb hby d13_10) rfl rfl ?_
          show Steps p.tables e below (s₁.setTop (mkF m 11 #[.val (.ref ax), .val (.ref ay), .val (.int i)] [(.ref ax), (.int i)])) τ
          exact κ)
        obtain ⟨c4, Ar4, -, S4, N4, -, -⟩ := id V_x
        have pre : ∀ τ, Steps p.tables e below (s₁.setTop (mkF m 12 #[.val (.ref ax), .val (.ref ay), .val (.int i)] [(.int zx), (.int i)])) τ → G τ := fun τ κ => pre τ (by
          refine X0.arraylength hx (by rw [e0]; exact Ar4.1) (State.isArrayOf_alike hZ.alike Ar4.2.1) (g := (mkF m 11 #[.val (.ref ax), .val (.ref ay), .val (.int i)] [(.ref ax), (.int i)])) rfl rfl (hb hby d13_11) _ ?_
          rw [len_of S4 N4]
          exact κ)
        have hc5 : ¬ (i < zx) := own_lz hn
        have pre : ∀ τ, Steps p.tables e below (s₁.setTop (mkF m 33 #[.val (.ref ax), .val (.ref ay), .val (.int i)] [(.int (1 : Int32))])) τ → G τ := fun τ κ => pre τ (by
          refine XS.icmpYes X0.here hx rfl (pc0 := 12) (pc' := 32) rfl (hb hby d13_12) rfl (flt hc5).2.1 (by decide) (by decide) ?_
          show Steps p.tables e below (s₁.setTop (mkF m 32 #[.val (.ref ax), .val (.ref ay), .val (.int i)] [])) τ
          refine XS.iconst X0.here hx rfl (hb hby d13_32) ?_
          show Steps p.tables e below (s₁.setTop (mkF m 33 #[.val (.ref ax), .val (.ref ay), .val (.int i)] [(.int (1 : Int32))])) τ
          exact κ)
        obtain ⟨fsα, hr, hrun, hended, hW, hsame⟩ := X0.leave (v := some (.int (1 : Int32))) (fun h => by rw [Bd.returns] at h; cases h)
        refine hGL ⟨_, _, hG _ (pre _ ?_), hrun, hended, _, _, rfl, ?_, ⟨_, rfl⟩, hW, hsame.mono (by decide) (by decide)⟩
        · exact retN X0 hx (t := .boolean) Bd.returns (by simp) (hb hby d13_33) hr
        · show Q13 Z ax ay kx zx tx ky zy ty h0 n0 _ s₁.heap _
          rw [e0]
          refine ⟨?_, N0, rfl⟩
          unfold own_eqb
          rw [if_pos (own_fineq hlx hly hc4_3 hi0 hn heq)]
      | succ n ih =>
        intro i hn hi0 heq pre
        have pre : ∀ τ, Steps p.tables e below (s₁.setTop (mkF m 11 #[.val (.ref ax), .val (.ref ay), .val (.int i)] [(.ref ax), (.int i)])) τ → G τ := fun τ κ => pre τ (by
          refine XS.iloadN X0.here hx rfl (hb hby d13_9) rfl ?_
          show Steps p.tables e below (s₁.setTop (mkF m 10 #[.val (.ref ax), .val (.ref ay), .val (.int i)] [(.int i)])) τ
          refine XS.aloadN X0.here hx rfl (hb hby d13_10) rfl rfl ?_
          show Steps p.tables e below (s₁.setTop (mkF m 11 #[.val (.ref ax), .val (.ref ay), .val (.int i)] [(.ref ax), (.int i)])) τ
          exact κ)
        obtain ⟨c6, Ar6, -, S6, N6, -, -⟩ := id V_x
        have pre : ∀ τ, Steps p.tables e below (s₁.setTop (mkF m 12 #[.val (.ref ax), .val (.ref ay), .val (.int i)] [(.int zx), (.int i)])) τ → G τ := fun τ κ => pre τ (by
          refine X0.arraylength hx (by rw [e0]; exact Ar6.1) (State.isArrayOf_alike hZ.alike Ar6.2.1) (g := (mkF m 11 #[.val (.ref ax), .val (.ref ay), .val (.int i)] [(.ref ax), (.int i)])) rfl rfl (hb hby d13_11) _ ?_
          rw [len_of S6 N6]
          exact κ)
        have hc7 : i < zx := own_ls hn
        have pre : ∀ τ, Steps p.tables e below (s₁.setTop (mkF m 17 #[.val (.ref ax), .val (.ref ay), .val (.int i)] [(.int i), (.ref ax)])) τ → G τ := fun τ κ => pre τ (by
          refine XS.icmpNo X0.here hx rfl (hb hby d13_12) rfl (tlt hc7).2.1 ?_
          show Steps p.tables e below (s₁.setTop (mkF m 15 #[.val (.ref ax), .val (.ref ay), .val (.int i)] [])) τ
          refine XS.aloadN X0.here hx rfl (hb hby d13_15) rfl rfl ?_
          show Steps p.tables e below (s₁.setTop (mkF m 16 #[.val (.ref ax), .val (.ref ay), .val (.int i)] [(.ref ax)])) τ
          refine XS.iloadN X0.here hx rfl (hb hby d13_16) rfl ?_
          show Steps p.tables e below (s₁.setTop (mkF m 17 #[.val (.ref ax), .val (.ref ay), .val (.int i)] [(.int i), (.ref ax)])) τ
          exact κ)
        obtain ⟨c8, Ar8, q8, S8, Nz8, Hh8, Gg8⟩ := id V_x
        have hin8 : ¬ (i < 0 ∨ c8.slots.size ≤ (i).toNatClampNeg) := inb_of S8 (own_lb hi0 hn)
        have hat8 : c8.slots[(i).toNatClampNeg]? = some (.int (own_at tx i)) := own_getB Hh8 Gg8 hin8
        have pre : ∀ τ, Steps p.tables e below (s₁.setTop (mkF m 18 #[.val (.ref ax), .val (.ref ay), .val (.int i)] [(.int (own_at tx i))])) τ → G τ := fun τ κ => pre τ (X0.baloadBytes hx (j := i) (v := (.int (own_at tx i))) (by rw [e0]; exact Ar8.1) (State.isArrayOf_alike hZ.alike Ar8.2.1) Ar8.2.2 hin8 hat8 (g := (mkF m 17 #[.val (.ref ax), .val (.ref ay), .val (.int i)] [(.int i), (.ref ax)])) rfl rfl (hb hby d13_17) _ κ)
        have pre : ∀ τ, Steps p.tables e below (s₁.setTop (mkF m 20 #[.val (.ref ax), .val (.ref ay), .val (.int i)] [(.int i), (.ref ay), (.int (own_at tx i))])) τ → G τ := fun τ κ => pre τ (by
          refine XS.aloadN X0.here hx rfl (hb hby d13_18) rfl rfl ?_
          show Steps p.tables e below (s₁.setTop (mkF m 19 #[.val (.ref ax), .val (.ref ay), .val (.int i)] [(.ref ay), (.int (own_at tx i))])) τ
          refine XS.iloadN X0.here hx rfl (hb hby d13_19) rfl ?_
          show Steps p.tables e below (s₁.setTop (mkF m 20 #[.val (.ref ax), .val (.ref ay), .val (.int i)] [(.int i), (.ref ay), (.int (own_at tx i))])) τ
          exact κ)
        obtain ⟨c9, Ar9, q9, S9, Nz9, Hh9, Gg9⟩ := id V_y
        have hin9 : ¬ (i < 0 ∨ c9.slots.size ≤ (i).toNatClampNeg) := inb_of S9 (hc4_3 ▸ own_lb hi0 hn)
        have hat9 : c9.slots[(i).toNatClampNeg]? = some (.int (own_at ty i)) := own_getB Hh9 Gg9 hin9
        have pre : ∀ τ, Steps p.tables e below (s₁.setTop (mkF m 21 #[.val (.ref ax), .val (.ref ay), .val (.int i)] [(.int (own_at ty i)), (.int (own_at tx i))])) τ → G τ := fun τ κ => pre τ (X0.baloadBytes hx (j := i) (v := (.int (own_at ty i))) (by rw [e0]; exact Ar9.1) (State.isArrayOf_alike hZ.alike Ar9.2.1) Ar9.2.2 hin9 hat9 (g := (mkF m 20 #[.val (.ref ax), .val (.ref ay), .val (.int i)] [(.int i), (.ref ay), (.int (own_at tx i))])) rfl rfl (hb hby d13_20) _ κ)
        rcases Classical.em ((own_at tx i) = (own_at ty i)) with hc21_10 | hc21_10
        ·
          have pre : ∀ τ, Steps p.tables e below (s₁.setTop (mkF m 9 #[.val (.ref ax), .val (.ref ay), .val (.int (i + (1 : Int32)))] [])) τ → G τ := fun τ κ => pre τ (by
            refine XS.icmpYes X0.here hx rfl (pc0 := 21) (pc' := 26) rfl (hb hby d13_21) rfl (teq hc21_10).1 (by decide) (by decide) ?_
            show Steps p.tables e below (s₁.setTop (mkF m 26 #[.val (.ref ax), .val (.ref ay), .val (.int i)] [])) τ
            refine XS.iinc X0.here hx rfl (hb hby d13_26) rfl (l' := #[.val (.ref ax), .val (.ref ay), .val (.int (i + (1 : Int32)))]) rfl ?_
            show Steps p.tables e below (s₁.setTop (mkF m 29 #[.val (.ref ax), .val (.ref ay), .val (.int (i + (1 : Int32)))] [])) τ
            refine XS.goto X0.here hx rfl (pc0 := 29) (pc' := 9) rfl (hb hby d13_29) (by decide) (by decide) ?_
            show Steps p.tables e below (s₁.setTop (mkF m 9 #[.val (.ref ax), .val (.ref ay), .val (.int (i + (1 : Int32)))] [])) τ
            exact κ)
          exact ih (i + (1 : Int32)) (own_l1 hi0 hn) (own_l2 hi0 hn) (own_heq hi0 hn heq (own_gd V_x (own_lb hi0 hn)) (own_gd V_y (hc4_3 ▸ own_lb hi0 hn)) hc21_10) pre
        ·
          have pre : ∀ τ, Steps p.tables e below (s₁.setTop (mkF m 25 #[.val (.ref ax), .val (.ref ay), .val (.int i)] [(.int (0 : Int32))])) τ → G τ := fun τ κ => pre τ (by
            refine XS.icmpNo X0.here hx rfl (hb hby d13_21) rfl (feq hc21_10).1 ?_
            show Steps p.tables e below (s₁.setTop (mkF m 24 #[.val (.ref ax), .val (.ref ay), .val (.int i)] [])) τ
            refine XS.iconst X0.here hx rfl (hb hby d13_24) ?_
            show Steps p.tables e below (s₁.setTop (mkF m 25 #[.val (.ref ax), .val (.ref ay), .val (.int i)] [(.int (0 : Int32))])) τ
            exact κ)
          obtain ⟨fsα, hr, hrun, hended, hW, hsame⟩ := X0.leave (v := some (.int (0 : Int32))) (fun h => by rw [Bd.returns] at h; cases h)
          refine hGL ⟨_, _, hG _ (pre _ ?_), hrun, hended, _, _, rfl, ?_, ⟨_, rfl⟩, hW, hsame.mono (by decide) (by decide)⟩
          · exact retN X0 hx (t := .boolean) Bd.returns (by simp) (hb hby d13_25) hr
          · show Q13 Z ax ay kx zx tx ky zy ty h0 n0 _ s₁.heap _
            rw [e0]
            refine ⟨?_, N0, rfl⟩
            unfold own_eqb
            rw [if_neg (fun q => hc21_10 (by rw [q]))]
    exact loop zx.toInt.toNat (0 : Int32) (own_l0 (own_arvn V_x)) (by decide) (fun j hj => absurd hj (Nat.not_lt_zero j)) pre
  ·
    have pre : ∀ τ, Steps p.tables e below (s₁.setTop (mkF m 35 #[.val (.ref ax), .val (.ref ay), .unset] [(.int (0 : Int32))])) τ → G τ := fun τ κ => pre τ (by
      refine XS.icmpYes X0.here hx rfl (pc0 := 4) (pc' := 34) rfl (hb hby d13_4) rfl (feq hc4_3).2 (by decide) (by decide) ?_
      show Steps p.tables e below (s₁.setTop (mkF m 34 #[.val (.ref ax), .val (.ref ay), .unset] [])) τ
      refine XS.iconst X0.here hx rfl (hb hby d13_34) ?_
      show Steps p.tables e below (s₁.setTop (mkF m 35 #[.val (.ref ax), .val (.ref ay), .unset] [(.int (0 : Int32))])) τ
      exact κ)
    obtain ⟨fsα, hr, hrun, hended, hW, hsame⟩ := X0.leave (v := some (.int (0 : Int32))) (fun h => by rw [Bd.returns] at h; cases h)
    refine hGL ⟨_, _, hG _ (pre _ ?_), hrun, hended, _, _, rfl, ?_, ⟨_, rfl⟩, hW, hsame.mono (by decide) (by decide)⟩
    · exact retN X0 hx (t := .boolean) Bd.returns (by simp) (hb hby d13_35) hr
    · show Q13 Z ax ay kx zx tx ky zy ty h0 n0 _ s₁.heap _
      rw [e0]
      refine ⟨?_, N0, rfl⟩
      unfold own_eqb
      rw [if_neg (own_nlen hlx hly (own_arvn V_x) (own_arvn V_y) hc4_3)]
theorem pn_1 : plainName "java/lang/String" = true := by first | (simp [plainName, overriddenIn]; done) | decide +kernel
theorem d12_0 : decode jdk_42_method_66_code 0 = .ok (.aload_n 0, 1) := by decide +kernel
theorem d12_1 : decode jdk_42_method_66_code 1 = .ok (.aload_n 1, 1) := by decide +kernel
theorem d12_2 : decode jdk_42_method_66_code 2 = .ok (.if_acmp .ne 5, 3) := by decide +kernel
theorem d12_7 : decode jdk_42_method_66_code 7 = .ok (.aload_n 1, 1) := by decide +kernel
theorem d12_8 : decode jdk_42_method_66_code 8 = .ok (.instanceof 10, 3) := by decide +kernel
theorem d12_11 : decode jdk_42_method_66_code 11 = .ok (.ifCond .eq 43, 3) := by decide +kernel
theorem d12_54 : decode jdk_42_method_66_code 54 = .ok (.iconst 0, 1) := by decide +kernel
theorem d12_55 : decode jdk_42_method_66_code 55 = .ok (.ireturn, 1) := by decide +kernel
theorem d12_5 : decode jdk_42_method_66_code 5 = .ok (.iconst 1, 1) := by decide +kernel
theorem d12_6 : decode jdk_42_method_66_code 6 = .ok (.ireturn, 1) := by decide +kernel
theorem d12_14 : decode jdk_42_method_66_code 14 = .ok (.aload_n 1, 1) := by decide +kernel
theorem d12_15 : decode jdk_42_method_66_code 15 = .ok (.checkcast 10, 3) := by decide +kernel
theorem d12_18 : decode jdk_42_method_66_code 18 = .ok (.astore_n 2, 1) := by decide +kernel
theorem d12_19 : decode jdk_42_method_66_code 19 = .ok (.getstatic 38, 3) := by decide +kernel
theorem d12_22 : decode jdk_42_method_66_code 22 = .ok (.ifCond .eq 14, 3) := by decide +kernel
theorem d12_25 : decode jdk_42_method_66_code 25 = .ok (.aload_n 0, 1) := by decide +kernel
theorem d12_26 : decode jdk_42_method_66_code 26 = .ok (.getfield 15, 3) := by decide +kernel
theorem d12_29 : decode jdk_42_method_66_code 29 = .ok (.aload_n 2, 1) := by decide +kernel
theorem d12_30 : decode jdk_42_method_66_code 30 = .ok (.getfield 15, 3) := by decide +kernel
theorem d12_33 : decode jdk_42_method_66_code 33 = .ok (.if_icmp .ne 21, 3) := by decide +kernel
theorem d12_36 : decode jdk_42_method_66_code 36 = .ok (.aload_n 0, 1) := by decide +kernel
theorem d12_37 : decode jdk_42_method_66_code 37 = .ok (.getfield 9, 3) := by decide +kernel
theorem d12_40 : decode jdk_42_method_66_code 40 = .ok (.aload_n 2, 1) := by decide +kernel
theorem d12_41 : decode jdk_42_method_66_code 41 = .ok (.getfield 9, 3) := by decide +kernel
theorem d12_44 : decode jdk_42_method_66_code 44 = .ok (.invokestatic 541, 3) := by decide +kernel
theorem pd_0 : parseMethodDescriptor "([B[B)Z" = some ⟨[(.array .byte), (.array .byte)], some .boolean⟩ := by decide +kernel
theorem d12_47 : decode jdk_42_method_66_code 47 = .ok (.ifCond .eq 7, 3) := by decide +kernel
theorem d12_50 : decode jdk_42_method_66_code 50 = .ok (.iconst 1, 1) := by decide +kernel
theorem d12_51 : decode jdk_42_method_66_code 51 = .ok (.goto 4, 3) := by decide +kernel
theorem ef_12 (m : MethodId) (x0 : Addr) (x1 : Value) (hx1 : x1.isRef = true) : entryFrame m #[(.ref x0), x1] 3 = mkF m 0 #[.val (.ref x0), .val x1, .unset] [] := by
  all_goals (cases x1 <;> first | (simp [Value.isRef] at hx1; done) | skip)
  all_goals first | (simp [entryFrame, mkF, argsToLocals, Value.category]; done) | rfl
def Q12 (Z : State) (a : Addr) (vb : Value) (ta : List Value) (ob : Option (List Value)) (cw : Int32) (h0 : Heap) (n0 : Nat) (vα : Option Value) (hα : Heap) (Lα : List Loc) : Prop := vα = some (.int (own_eqt ta ob)) ∧ Fr n0 Lα ∧ hα = h0
set_option maxRecDepth 65536 in
set_option maxHeartbeats 40000000 in
theorem rm12 (l : Launch) (Z : State) (a0 : Array Value) (hw : ∀ d ∈ tables_1, d.before a0 Z = true) (ws : List Jvm.Cond) (a : Addr) (vb : Value) (ta : List Value) (ob : Option (List Value)) (cw : Int32) (h0 : Heap) (n0 : Nat) (Z0 : n0 ≤ h0.size) (F_a : own_S Z h0 (.ref a) (some ta)) (F_b : own_S Z h0 vb ob) (S_c : Sta Z h0 "java/lang/String" "COMPACT_STRINGS" "Z" (.int cw)) (hcw : ¬ cw = (0 : Int32)) :
    MetFree l (⟨"java/lang/String", "equals", "(Ljava/lang/Object;)Z"⟩ : MethodName) (head1 (Jvm.Cond.code (⟨"java/lang/String", "equals", "(Ljava/lang/Object;)Z"⟩ : MethodName) jdk_42_method_66_code 3 (some .boolean) :: ws) ({ frames := 1, cells := 0, slots := 0, locals := 14 } : Room)) (fun aα U => aα = #[(.ref a), vb] ∧ Z.Warmed39 U.vm ∧ U.heap = h0) (fun _ _ _ _ _ => True) (fun _ U oα U' => ∃ vα Lα, oα = .returned vα ∧ Q12 Z a vb ta ob cw h0 n0 vα U'.heap Lα ∧ FrameEnd U oα U' Lα ({ frames := 1, cells := 0, slots := 0, locals := 14 } : Room).cells ({ frames := 1, cells := 0, slots := 0, locals := 14 } : Room).slots) := by
  refine MetFree.of_bodySF (plainFor_of_name pn_1) hisR ?_
  intro p e s m args below meth c s₁ Bd hml0 hP hK
  refine own_wrap ?_
  intro GL hGL
  obtain ⟨rfl, hZ, hh⟩ := hP
  have hx := Bd.exec
  have hby := Bd.bytes
  have hml : c.maxLocals = 3 := hml0
  have hown : s.vm.findClass "java/lang/String" = some m.cls := findClass_of_methodNamed Bd.named
  have hnm := (name_of_methodNamed Bd.named Bd.method).1
  have X0 : Stand p l e ({ frames := 1, cells := 0, slots := 0, locals := 14 } : Room) s m #[(.ref a), vb] below meth c s₁ [] 0 0 := Stand.of_body Bd
  have e0 : s₁.heap = h0 := by rw [← hh, Bd.state]; rfl
  have N0 := Fr.nil n0
  have pre0 : ∀ τ, Steps p.tables e below (s₁.setTop (mkF m 0 #[.val (.ref a), .val vb, .unset] [])) τ → Steps p.tables e below (s₁.setTop (entryFrame m #[(.ref a), vb] 3)) τ := fun τ κ => castTop (ef_12 m a vb (own_S_ref F_b)) κ
  obtain ⟨G, hG, pre⟩ : ∃ G : State → Prop, (∀ τ, G τ → Steps p.tables e below (s₁.setTop (entryFrame m #[(.ref a), vb] 3)) τ) ∧ ∀ τ, Steps p.tables e below (s₁.setTop (mkF m 0 #[.val (.ref a), .val vb, .unset] [])) τ → G τ := ⟨_, pre0, fun _ k => k⟩
  have K : Keep h0 h0 [] := Keep.refl h0 _
  have Zn := Z0
  rcases id F_a with ⟨hx0, -⟩ | ⟨a1, b1, k1, z1, t1, ai1, hv1, ho1, wi1, E_a1, C_a1, V_a1, B_a1, hl1⟩
  · cases hx0
  injection hv1 with hv1
  injection ho1 with ho1
  subst hv1 ho1
  rcases id F_b with ⟨hv2, ho2⟩ | ⟨a2, b2, k2, z2, t2, ai2, hv2, ho2, wi2, E_a2, C_a2, V_a2, B_a2, hl2⟩
  ·
    have hv := hv2
    have pre : ∀ τ, Steps p.tables e below (s₁.setTop (mkF m 0 #[.val (.ref a), .val .null, .unset] [])) τ → G τ := by rw [hv2] at pre; exact pre
    have pre : ∀ τ, Steps p.tables e below (s₁.setTop (mkF m 2 #[.val (.ref a), .val .null, .unset] [.null, (.ref a)])) τ → G τ := fun τ κ => pre τ (by
      refine XS.aloadN X0.here hx rfl (hb hby d12_0) rfl rfl ?_
      show Steps p.tables e below (s₁.setTop (mkF m 1 #[.val (.ref a), .val .null, .unset] [(.ref a)])) τ
      refine XS.aloadN X0.here hx rfl (hb hby d12_1) rfl rfl ?_
      show Steps p.tables e below (s₁.setTop (mkF m 2 #[.val (.ref a), .val .null, .unset] [.null, (.ref a)])) τ
      exact κ)
    have pre : ∀ τ, Steps p.tables e below (s₁.setTop (mkF m 8 #[.val (.ref a), .val .null, .unset] [.null])) τ → G τ := fun τ κ => pre τ (by
      refine Jvm.RoadKit.acmp (g := (mkF m 2 #[.val (.ref a), .val .null, .unset] [.null, (.ref a)])) X0 hx rfl rfl rfl (pc0 := 2) (pc' := 7) (same := false) rfl (hb hby d12_2) rfl (decide_eq_false (by intro h; cases h)) (by decide) (by decide) ?_
      show Steps p.tables e below (s₁.setTop (mkF m 7 #[.val (.ref a), .val .null, .unset] [])) τ
      refine XS.aloadN X0.here hx rfl (hb hby d12_7) rfl rfl ?_
      show Steps p.tables e below (s₁.setTop (mkF m 8 #[.val (.ref a), .val .null, .unset] [.null])) τ
      exact κ)
    have pre : ∀ τ, Steps p.tables e below (s₁.setTop (mkF m 11 #[.val (.ref a), .val .null, .unset] [(.int (0 : Int32))])) τ → G τ := fun τ κ => pre τ (X0.instanceofNull hx (g := (mkF m 8 #[.val (.ref a), .val .null, .unset] [.null])) rfl rfl (hb hby d12_8) _ κ)
    have hc2 : (0 : Int32) = (0 : Int32) := rfl
    have pre : ∀ τ, Steps p.tables e below (s₁.setTop (mkF m 55 #[.val (.ref a), .val .null, .unset] [(.int (0 : Int32))])) τ → G τ := fun τ κ => pre τ (by
      refine XS.ifYes X0.here hx rfl (pc0 := 11) (pc' := 54) rfl (hb hby d12_11) rfl ((if0 _ _).trans (teq hc2).1) (by decide) (by decide) ?_
      show Steps p.tables e below (s₁.setTop (mkF m 54 #[.val (.ref a), .val .null, .unset] [])) τ
      refine XS.iconst X0.here hx rfl (hb hby d12_54) ?_
      show Steps p.tables e below (s₁.setTop (mkF m 55 #[.val (.ref a), .val .null, .unset] [(.int (0 : Int32))])) τ
      exact κ)
    obtain ⟨fsα, hr, hrun, hended, hW, hsame⟩ := X0.leave (v := some (.int (0 : Int32))) (fun h => by rw [Bd.returns] at h; cases h)
    refine hGL ⟨_, _, hG _ (pre _ ?_), hrun, hended, _, _, rfl, ?_, ⟨_, rfl⟩, hW, hsame.mono (by decide) (by decide)⟩
    · exact retN X0 hx (t := .boolean) Bd.returns (by simp) (hb hby d12_55) hr
    · show Q12 Z a vb ta ob cw h0 n0 _ s₁.heap _
      rw [e0]
      refine ⟨?_, N0, rfl⟩
      unfold own_eqt
      rw [if_neg (fun q => by rw [ho2] at q; cases q)]
  ·
    have hv := hv2
    have F_b : own_S Z h0 (.ref a2) (some t2) := by rw [hv2, ho2] at F_b; exact F_b
    have pre : ∀ τ, Steps p.tables e below (s₁.setTop (mkF m 0 #[.val (.ref a), .val (.ref a2), .unset] [])) τ → G τ := by rw [hv2] at pre; exact pre
    have pre : ∀ τ, Steps p.tables e below (s₁.setTop (mkF m 2 #[.val (.ref a), .val (.ref a2), .unset] [(.ref a2), (.ref a)])) τ → G τ := fun τ κ => pre τ (by
      refine XS.aloadN X0.here hx rfl (hb hby d12_0) rfl rfl ?_
      show Steps p.tables e below (s₁.setTop (mkF m 1 #[.val (.ref a), .val (.ref a2), .unset] [(.ref a)])) τ
      refine XS.aloadN X0.here hx rfl (hb hby d12_1) rfl rfl ?_
      show Steps p.tables e below (s₁.setTop (mkF m 2 #[.val (.ref a), .val (.ref a2), .unset] [(.ref a2), (.ref a)])) τ
      exact κ)
    rcases Classical.em (a = a2) with hc2_3 | hc2_3
    ·
      have pre : ∀ τ, Steps p.tables e below (s₁.setTop (mkF m 6 #[.val (.ref a), .val (.ref a2), .unset] [(.int (1 : Int32))])) τ → G τ := fun τ κ => pre τ (by
        refine Jvm.RoadKit.acmp (g := (mkF m 2 #[.val (.ref a), .val (.ref a2), .unset] [(.ref a2), (.ref a)])) X0 hx rfl rfl rfl (pc0 := 2) (pc' := 5) (same := true) rfl (hb hby d12_2) rfl (decide_eq_true (congrArg Value.ref hc2_3)) (by decide) (by decide) ?_
        show Steps p.tables e below (s₁.setTop (mkF m 5 #[.val (.ref a), .val (.ref a2), .unset] [])) τ
        refine XS.iconst X0.here hx rfl (hb hby d12_5) ?_
        show Steps p.tables e below (s₁.setTop (mkF m 6 #[.val (.ref a), .val (.ref a2), .unset] [(.int (1 : Int32))])) τ
        exact κ)
      obtain ⟨fsα, hr, hrun, hended, hW, hsame⟩ := X0.leave (v := some (.int (1 : Int32))) (fun h => by rw [Bd.returns] at h; cases h)
      refine hGL ⟨_, _, hG _ (pre _ ?_), hrun, hended, _, _, rfl, ?_, ⟨_, rfl⟩, hW, hsame.mono (by decide) (by decide)⟩
      · exact retN X0 hx (t := .boolean) Bd.returns (by simp) (hb hby d12_6) hr
      · show Q12 Z a vb ta ob cw h0 n0 _ s₁.heap _
        rw [e0]
        refine ⟨?_, N0, rfl⟩
        unfold own_eqt
        rw [if_pos (by rw [ho2]; exact congrArg some (own_S_fun F_b (hc2_3 ▸ F_a)))]
    ·
      have pre : ∀ τ, Steps p.tables e below (s₁.setTop (mkF m 8 #[.val (.ref a), .val (.ref a2), .unset] [(.ref a2)])) τ → G τ := fun τ κ => pre τ (by
        refine Jvm.RoadKit.acmp (g := (mkF m 2 #[.val (.ref a), .val (.ref a2), .unset] [(.ref a2), (.ref a)])) X0 hx rfl rfl rfl (pc0 := 2) (pc' := 7) (same := false) rfl (hb hby d12_2) rfl (decide_eq_false fun q => hc2_3 (Value.ref.inj q)) (by decide) (by decide) ?_
        show Steps p.tables e below (s₁.setTop (mkF m 7 #[.val (.ref a), .val (.ref a2), .unset] [])) τ
        refine XS.aloadN X0.here hx rfl (hb hby d12_7) rfl rfl ?_
        show Steps p.tables e below (s₁.setTop (mkF m 8 #[.val (.ref a), .val (.ref a2), .unset] [(.ref a2)])) τ
        exact κ)
      obtain ⟨T4, X4, e4, st4⟩ := instY X0 hx hZ hown (hw _ (List.mem_of_getElem? (i := 55) rfl)) e0 (Ins.self E_a2) (g := (mkF m 8 #[.val (.ref a), .val (.ref a2), .unset] [(.ref a2)])) rfl rfl (hb hby d12_8)
      have pre : ∀ τ, Steps p.tables e below (T4.setTop (mkF m 11 #[.val (.ref a), .val (.ref a2), .unset] [(.int (1 : Int32))])) τ → G τ := fun τ κ => pre τ (st4 τ κ)
      have hc5 : ¬ ((1 : Int32) = (0 : Int32)) := (by decide)
      have pre : ∀ τ, Steps p.tables e below (T4.setTop (mkF m 15 #[.val (.ref a), .val (.ref a2), .unset] [(.ref a2)])) τ → G τ := fun τ κ => pre τ (by
        refine XS.ifNo X4.here hx rfl (hb hby d12_11) rfl ((if0 _ _).trans (feq hc5).1) ?_
        show Steps p.tables e below (T4.setTop (mkF m 14 #[.val (.ref a), .val (.ref a2), .unset] [])) τ
        refine XS.aloadN X4.here hx rfl (hb hby d12_14) rfl rfl ?_
        show Steps p.tables e below (T4.setTop (mkF m 15 #[.val (.ref a), .val (.ref a2), .unset] [(.ref a2)])) τ
        exact κ)
      obtain ⟨T6, X6, e6, st6⟩ := castY X4 hx hZ hown (hw _ (List.mem_of_getElem? (i := 55) rfl)) e4 (Ins.self E_a2) (g := (mkF m 15 #[.val (.ref a), .val (.ref a2), .unset] [(.ref a2)])) rfl rfl (hb hby d12_15)
      have pre : ∀ τ, Steps p.tables e below (T6.setTop (mkF m 18 #[.val (.ref a), .val (.ref a2), .unset] [(.ref a2)])) τ → G τ := fun τ κ => pre τ (st6 τ κ)
      have pre : ∀ τ, Steps p.tables e below (T6.setTop (mkF m 19 #[.val (.ref a), .val (.ref a2), .val (.ref a2)] [])) τ → G τ := fun τ κ => pre τ (by
        refine XS.astoreN X6.here hx rfl (hb hby d12_18) rfl rfl (l' := #[.val (.ref a), .val (.ref a2), .val (.ref a2)]) rfl ?_
        show Steps p.tables e below (T6.setTop (mkF m 19 #[.val (.ref a), .val (.ref a2), .val (.ref a2)] [])) τ
        exact κ)
      obtain ⟨T7, X7, e7, st7⟩ := getS2 X6 hx hZ hown (host := "") (Or.inl (hw _ (List.mem_of_getElem? (i := 50) rfl))) Via.refl e6 S_c (g := (mkF m 19 #[.val (.ref a), .val (.ref a2), .val (.ref a2)] [])) rfl (hb hby d12_19)
      have pre : ∀ τ, Steps p.tables e below (T7.setTop (mkF m 22 #[.val (.ref a), .val (.ref a2), .val (.ref a2)] [(.int cw)])) τ → G τ := fun τ κ => pre τ (st7 τ κ)
      have hc8 : ¬ (cw = (0 : Int32)) := hcw
      have pre : ∀ τ, Steps p.tables e below (T7.setTop (mkF m 26 #[.val (.ref a), .val (.ref a2), .val (.ref a2)] [(.ref a)])) τ → G τ := fun τ κ => pre τ (by
        refine XS.ifNo X7.here hx rfl (hb hby d12_22) rfl ((if0 _ _).trans (feq hc8).1) ?_
        show Steps p.tables e below (T7.setTop (mkF m 25 #[.val (.ref a), .val (.ref a2), .val (.ref a2)] [])) τ
        refine XS.aloadN X7.here hx rfl (hb hby d12_25) rfl rfl ?_
        show Steps p.tables e below (T7.setTop (mkF m 26 #[.val (.ref a), .val (.ref a2), .val (.ref a2)] [(.ref a)])) τ
        exact κ)
      obtain ⟨T9, X9, e9, st9⟩ := getF X7 hx hZ hown (host := "") (Or.inl (hw _ (List.mem_of_getElem? (i := 64) rfl))) Via.refl e7 C_a1 (g := (mkF m 26 #[.val (.ref a), .val (.ref a2), .val (.ref a2)] [(.ref a)])) rfl rfl (hb hby d12_26)
      have pre : ∀ τ, Steps p.tables e below (T9.setTop (mkF m 29 #[.val (.ref a), .val (.ref a2), .val (.ref a2)] [(.int (0 : Int32))])) τ → G τ := fun τ κ => pre τ (st9 τ κ)
      have pre : ∀ τ, Steps p.tables e below (T9.setTop (mkF m 30 #[.val (.ref a), .val (.ref a2), .val (.ref a2)] [(.ref a2), (.int (0 : Int32))])) τ → G τ := fun τ κ => pre τ (by
        refine XS.aloadN X9.here hx rfl (hb hby d12_29) rfl rfl ?_
        show Steps p.tables e below (T9.setTop (mkF m 30 #[.val (.ref a), .val (.ref a2), .val (.ref a2)] [(.ref a2), (.int (0 : Int32))])) τ
        exact κ)
      obtain ⟨T10, X10, e10, st10⟩ := getF X9 hx hZ hown (host := "") (Or.inl (hw _ (List.mem_of_getElem? (i := 64) rfl))) Via.refl e9 C_a2 (g := (mkF m 30 #[.val (.ref a), .val (.ref a2), .val (.ref a2)] [(.ref a2), (.int (0 : Int32))])) rfl rfl (hb hby d12_30)
      have pre : ∀ τ, Steps p.tables e below (T10.setTop (mkF m 33 #[.val (.ref a), .val (.ref a2), .val (.ref a2)] [(.int (0 : Int32)), (.int (0 : Int32))])) τ → G τ := fun τ κ => pre τ (st10 τ κ)
      have hc11 : (0 : Int32) = (0 : Int32) := rfl
      have pre : ∀ τ, Steps p.tables e below (T10.setTop (mkF m 37 #[.val (.ref a), .val (.ref a2), .val (.ref a2)] [(.ref a)])) τ → G τ := fun τ κ => pre τ (by
        refine XS.icmpNo X10.here hx rfl (hb hby d12_33) rfl (teq hc11).2 ?_
        show Steps p.tables e below (T10.setTop (mkF m 36 #[.val (.ref a), .val (.ref a2), .val (.ref a2)] [])) τ
        refine XS.aloadN X10.here hx rfl (hb hby d12_36) rfl rfl ?_
        show Steps p.tables e below (T10.setTop (mkF m 37 #[.val (.ref a), .val (.ref a2), .val (.ref a2)] [(.ref a)])) τ
        exact κ)
      obtain ⟨T12, X12, e12, st12⟩ := getF X10 hx hZ hown (host := "") (Or.inl (hw _ (List.mem_of_getElem? (i := 63) rfl))) Via.refl e10 V_a1 (g := (mkF m 37 #[.val (.ref a), .val (.ref a2), .val (.ref a2)] [(.ref a)])) rfl rfl (hb hby d12_37)
      have pre : ∀ τ, Steps p.tables e below (T12.setTop (mkF m 40 #[.val (.ref a), .val (.ref a2), .val (.ref a2)] [(.ref b1)])) τ → G τ := fun τ κ => pre τ (st12 τ κ)
      have pre : ∀ τ, Steps p.tables e below (T12.setTop (mkF m 41 #[.val (.ref a), .val (.ref a2), .val (.ref a2)] [(.ref a2), (.ref b1)])) τ → G τ := fun τ κ => pre τ (by
        refine XS.aloadN X12.here hx rfl (hb hby d12_40) rfl rfl ?_
        show Steps p.tables e below (T12.setTop (mkF m 41 #[.val (.ref a), .val (.ref a2), .val (.ref a2)] [(.ref a2), (.ref b1)])) τ
        exact κ)
      obtain ⟨T13, X13, e13, st13⟩ := getF X12 hx hZ hown (host := "") (Or.inl (hw _ (List.mem_of_getElem? (i := 63) rfl))) Via.refl e12 V_a2 (g := (mkF m 41 #[.val (.ref a), .val (.ref a2), .val (.ref a2)] [(.ref a2), (.ref b1)])) rfl rfl (hb hby d12_41)
      have pre : ∀ τ, Steps p.tables e below (T13.setTop (mkF m 44 #[.val (.ref a), .val (.ref a2), .val (.ref a2)] [(.ref b2), (.ref b1)])) τ → G τ := fun τ κ => pre τ (st13 τ κ)
      obtain ⟨_, _, ⟨T14, Lx14, kx14, nx14⟩, -, X14, ⟨Lc14, hQ14, l14, y14, z14⟩, st14⟩ := Jvm.LawKit.callS X13 hx (y := (⟨"java/lang/StringLatin1", "equals", "([B[B)Z"⟩ : MethodName)) hown (mvT hZ (hw _ (List.mem_of_getElem? (i := 75) rfl))) (mvT hZ (hw _ (List.mem_of_getElem? (i := 76) rfl))) (mvT hZ (hw _ (List.mem_of_getElem? (i := 53) rfl))) (mvT hZ (hw _ (List.mem_of_getElem? (i := 77) rfl))) (by decide) (backOf (W := 0) (rm13 l Z a0 hw [] b1 b2 k1 z1 ta k2 z2 t2 h0 n0 Zn B_a1 B_a2 hl1 hl2) hZ (hw _ (List.mem_of_getElem? (i := 77) rfl)) (hw _ (List.mem_of_getElem? (i := 53) rfl)) (by decide) (by decide)) (g := (mkF m 44 #[.val (.ref a), .val (.ref a2), .val (.ref a2)] [(.ref b2), (.ref b1)])) rfl (by rw [hml]; rfl) (argsL := [(.ref b1), (.ref b2)]) (rest := []) (lenOf pd_0 rfl) rfl (by show 2 * 0 + _ ≤ _; exact Nat.le_of_eq rfl) (hb hby d12_44) (fun _ _ => ⟨rfl, e13, (by decide : 0 + 0 ≤ _), (by decide : 0 + 0 ≤ _)⟩)
      dsimp only [Pt.U, Pt.locs, Pt.cells, Pt.slots] at X14 l14 y14 z14 st14 hQ14
      replace y14 : kx14 = 0 := y14
      replace z14 : nx14 = 0 := z14
      subst y14 z14
      obtain ⟨rfl, Nq14, hs14⟩ := hQ14
      have NN : Fr n0 Lx14 := by rw [l14]; exact Fr.app N0 Nq14
      have pre : ∀ τ, Steps p.tables e below (T14.setTop (mkF m 47 #[.val (.ref a), .val (.ref a2), .val (.ref a2)] [(.int (own_eqb ta t2))])) τ → G τ := fun τ κ => pre τ (st14 τ κ)
      rcases Classical.em ((own_eqb ta t2) = (0 : Int32)) with hc47_15 | hc47_15
      ·
        have pre : ∀ τ, Steps p.tables e below (T14.setTop (mkF m 55 #[.val (.ref a), .val (.ref a2), .val (.ref a2)] [(.int (0 : Int32))])) τ → G τ := fun τ κ => pre τ (by
          refine XS.ifYes X14.here hx rfl (pc0 := 47) (pc' := 54) rfl (hb hby d12_47) rfl ((if0 _ _).trans (teq hc47_15).1) (by decide) (by decide) ?_
          show Steps p.tables e below (T14.setTop (mkF m 54 #[.val (.ref a), .val (.ref a2), .val (.ref a2)] [])) τ
          refine XS.iconst X14.here hx rfl (hb hby d12_54) ?_
          show Steps p.tables e below (T14.setTop (mkF m 55 #[.val (.ref a), .val (.ref a2), .val (.ref a2)] [(.int (0 : Int32))])) τ
          exact κ)
        obtain ⟨fsα, hr, hrun, hended, hW, hsame⟩ := X14.leave (v := some (.int (0 : Int32))) (fun h => by rw [Bd.returns] at h; cases h)
        refine hGL ⟨_, _, hG _ (pre _ ?_), hrun, hended, _, _, rfl, ?_, ⟨_, rfl⟩, hW, hsame.mono (by decide) (by decide)⟩
        · exact retN X14 hx (t := .boolean) Bd.returns (by simp) (hb hby d12_55) hr
        · show Q12 Z a vb ta ob cw h0 n0 _ T14.heap _
          rw [hs14]
          refine ⟨?_, NN, rfl⟩
          unfold own_eqt
          rw [if_neg (fun q => own_eqb0 hc47_15 (Option.some.inj (ho2.symm.trans q)).symm)]
      ·
        have pre : ∀ τ, Steps p.tables e below (T14.setTop (mkF m 55 #[.val (.ref a), .val (.ref a2), .val (.ref a2)] [(.int (1 : Int32))])) τ → G τ := fun τ κ => pre τ (by
          refine XS.ifNo X14.here hx rfl (hb hby d12_47) rfl ((if0 _ _).trans (feq hc47_15).1) ?_
          show Steps p.tables e below (T14.setTop (mkF m 50 #[.val (.ref a), .val (.ref a2), .val (.ref a2)] [])) τ
          refine XS.iconst X14.here hx rfl (hb hby d12_50) ?_
          show Steps p.tables e below (T14.setTop (mkF m 51 #[.val (.ref a), .val (.ref a2), .val (.ref a2)] [(.int (1 : Int32))])) τ
          refine XS.goto X14.here hx rfl (pc0 := 51) (pc' := 55) rfl (hb hby d12_51) (by decide) (by decide) ?_
          show Steps p.tables e below (T14.setTop (mkF m 55 #[.val (.ref a), .val (.ref a2), .val (.ref a2)] [(.int (1 : Int32))])) τ
          exact κ)
        obtain ⟨fsα, hr, hrun, hended, hW, hsame⟩ := X14.leave (v := some (.int (1 : Int32))) (fun h => by rw [Bd.returns] at h; cases h)
        refine hGL ⟨_, _, hG _ (pre _ ?_), hrun, hended, _, _, rfl, ?_, ⟨_, rfl⟩, hW, hsame.mono (by decide) (by decide)⟩
        · exact retN X14 hx (t := .boolean) Bd.returns (by simp) (hb hby d12_55) hr
        · show Q12 Z a vb ta ob cw h0 n0 _ T14.heap _
          rw [hs14]
          refine ⟨?_, NN, rfl⟩
          unfold own_eqt
          rw [if_pos (by rw [ho2]; exact congrArg some (own_eqb1 hc47_15).symm)]
theorem pn_2 : plainName "java/util/Arrays" = true := by first | (simp [plainName, overriddenIn]; done) | decide +kernel
theorem d4_0 : decode jdk_65_method_117_code 0 = .ok (.iconst 0, 1) := by decide +kernel
theorem d4_1 : decode jdk_65_method_117_code 1 = .ok (.istore_n 2, 1) := by decide +kernel
theorem d4_2 : decode jdk_65_method_117_code 2 = .ok (.aload_n 0, 1) := by decide +kernel
theorem d4_3 : decode jdk_65_method_117_code 3 = .ok (.arraylength, 1) := by decide +kernel
theorem d4_4 : decode jdk_65_method_117_code 4 = .ok (.istore_n 3, 1) := by decide +kernel
theorem d4_5 : decode jdk_65_method_117_code 5 = .ok (.iload_n 2, 1) := by decide +kernel
theorem d4_6 : decode jdk_65_method_117_code 6 = .ok (.iload_n 3, 1) := by decide +kernel
theorem d4_7 : decode jdk_65_method_117_code 7 = .ok (.if_icmp .ge 13, 3) := by decide +kernel
theorem d4_20 : decode jdk_65_method_117_code 20 = .ok (.return_, 1) := by decide +kernel
theorem d4_10 : decode jdk_65_method_117_code 10 = .ok (.aload_n 0, 1) := by decide +kernel
theorem d4_11 : decode jdk_65_method_117_code 11 = .ok (.iload_n 2, 1) := by decide +kernel
theorem d4_12 : decode jdk_65_method_117_code 12 = .ok (.aload_n 1, 1) := by decide +kernel
theorem d4_13 : decode jdk_65_method_117_code 13 = .ok (.aastore, 1) := by decide +kernel
theorem d4_14 : decode jdk_65_method_117_code 14 = .ok (.iinc 2 1, 3) := by decide +kernel
theorem d4_17 : decode jdk_65_method_117_code 17 = .ok (.goto (-12), 3) := by decide +kernel
theorem ef_4 (m : MethodId) (x0 : Addr) : entryFrame m #[(.ref x0), .null] 4 = mkF m 0 #[.val (.ref x0), .val .null, .unset, .unset] [] := by first | (simp [entryFrame, mkF, argsToLocals, Value.category]; done) | rfl
def Q4 (Z : State) (arr : Addr) (ka : ClassId) (z : Int32) (ls : List Value) (h0 : Heap) (n0 : Nat) (vα : Option Value) (hα : Heap) (Lα : List Loc) : Prop := vα = none ∧ Fr n0 Lα ∧ Keep h0 hα [arr] ∧ Arv Z hα arr ka (.object "java/lang/String") z (List.replicate z.toNatClampNeg .null) .null
set_option maxRecDepth 65536 in
set_option maxHeartbeats 40000000 in
theorem rm4 (l : Launch) (Z : State) (a0 : Array Value) (hw : ∀ d ∈ tables_1, d.before a0 Z = true) (ws : List Jvm.Cond) (arr : Addr) (ka : ClassId) (z : Int32) (ls : List Value) (h0 : Heap) (n0 : Nat) (Z0 : n0 ≤ h0.size) (g_arr : n0 ≤ arr) (V_arr : Arv Z h0 arr ka (.object "java/lang/String") z ls .null) (hl : ls.length = z.toNatClampNeg) :
    MetFree l (⟨"java/util/Arrays", "fill", "([Ljava/lang/Object;Ljava/lang/Object;)V"⟩ : MethodName) (head1 (Jvm.Cond.code (⟨"java/util/Arrays", "fill", "([Ljava/lang/Object;Ljava/lang/Object;)V"⟩ : MethodName) jdk_65_method_117_code 4 none :: ws) ({ frames := 0, cells := 0, slots := 0, locals := 0 } : Room)) (fun aα U => aα = #[(.ref arr), .null] ∧ Z.Warmed39 U.vm ∧ U.heap = h0) (fun _ _ _ _ _ => True) (fun _ U oα U' => ∃ vα Lα, oα = .returned vα ∧ Q4 Z arr ka z ls h0 n0 vα U'.heap Lα ∧ FrameEnd U oα U' Lα ({ frames := 0, cells := 0, slots := 0, locals := 0 } : Room).cells ({ frames := 0, cells := 0, slots := 0, locals := 0 } : Room).slots) := by
  refine MetFree.of_bodySF (plainFor_of_name pn_2) hisR ?_
  intro p e s m args below meth c s₁ Bd hml0 hP hK
  refine own_wrap ?_
  intro GL hGL
  obtain ⟨rfl, hZ, hh⟩ := hP
  have hx := Bd.exec
  have hby := Bd.bytes
  have hml : c.maxLocals = 4 := hml0
  have hown : s.vm.findClass "java/util/Arrays" = some m.cls := findClass_of_methodNamed Bd.named
  have hnm := (name_of_methodNamed Bd.named Bd.method).1
  have X0 : Stand p l e ({ frames := 0, cells := 0, slots := 0, locals := 0 } : Room) s m #[(.ref arr), .null] below meth c s₁ [] 0 0 := Stand.of_body Bd
  have e0 : s₁.heap = h0 := by rw [← hh, Bd.state]; rfl
  have N0 := Fr.nil n0
  have pre0 : ∀ τ, Steps p.tables e below (s₁.setTop (mkF m 0 #[.val (.ref arr), .val .null, .unset, .unset] [])) τ → Steps p.tables e below (s₁.setTop (entryFrame m #[(.ref arr), .null] 4)) τ := fun τ κ => castTop (ef_4 m arr) κ
  obtain ⟨G, hG, pre⟩ : ∃ G : State → Prop, (∀ τ, G τ → Steps p.tables e below (s₁.setTop (entryFrame m #[(.ref arr), .null] 4)) τ) ∧ ∀ τ, Steps p.tables e below (s₁.setTop (mkF m 0 #[.val (.ref arr), .val .null, .unset, .unset] [])) τ → G τ := ⟨_, pre0, fun _ k => k⟩
  have K : Keep h0 h0 [arr] := Keep.refl h0 _
  have Zn := Z0
  have pre : ∀ τ, Steps p.tables e below (s₁.setTop (mkF m 3 #[.val (.ref arr), .val .null, .val (.int (0 : Int32)), .unset] [(.ref arr)])) τ → G τ := fun τ κ => pre τ (by
    refine XS.iconst X0.here hx rfl (hb hby d4_0) ?_
    show Steps p.tables e below (s₁.setTop (mkF m 1 #[.val (.ref arr), .val .null, .unset, .unset] [(.int (0 : Int32))])) τ
    refine XS.istoreN X0.here hx rfl (hb hby d4_1) rfl (l' := #[.val (.ref arr), .val .null, .val (.int (0 : Int32)), .unset]) rfl ?_
    show Steps p.tables e below (s₁.setTop (mkF m 2 #[.val (.ref arr), .val .null, .val (.int (0 : Int32)), .unset] [])) τ
    refine XS.aloadN X0.here hx rfl (hb hby d4_2) rfl rfl ?_
    show Steps p.tables e below (s₁.setTop (mkF m 3 #[.val (.ref arr), .val .null, .val (.int (0 : Int32)), .unset] [(.ref arr)])) τ
    exact κ)
  obtain ⟨c1, Ar1, -, S1, N1, -, -⟩ := id V_arr
  have pre : ∀ τ, Steps p.tables e below (s₁.setTop (mkF m 4 #[.val (.ref arr), .val .null, .val (.int (0 : Int32)), .unset] [(.int z)])) τ → G τ := fun τ κ => pre τ (by
    refine X0.arraylength hx (by rw [e0]; exact Ar1.1) (State.isArrayOf_alike hZ.alike Ar1.2.1) (g := (mkF m 3 #[.val (.ref arr), .val .null, .val (.int (0 : Int32)), .unset] [(.ref arr)])) rfl rfl (hb hby d4_3) _ ?_
    rw [len_of S1 N1]
    exact κ)
  have pre : ∀ τ, Steps p.tables e below (s₁.setTop (mkF m 5 #[.val (.ref arr), .val .null, .val (.int (0 : Int32)), .val (.int z)] [])) τ → G τ := fun τ κ => pre τ (by
    refine XS.istoreN X0.here hx rfl (hb hby d4_4) rfl (l' := #[.val (.ref arr), .val .null, .val (.int (0 : Int32)), .val (.int z)]) rfl ?_
    show Steps p.tables e below (s₁.setTop (mkF m 5 #[.val (.ref arr), .val .null, .val (.int (0 : Int32)), .val (.int z)] [])) τ
    exact κ)
  have loop : ∀ (n : Nat) (i : Int32) (lsl : List Value) (Tl : State) (ll : List Loc) (hl : Heap) (Xl : Stand p l e ({ frames := 0, cells := 0, slots := 0, locals := 0 } : Room) s m #[(.ref arr), .null] below meth c Tl ll 0 0) (el : Tl.heap = hl) (NNl : Fr n0 ll) (K : Keep h0 hl [arr]) (Zn : n0 ≤ hl.size) (V_arr : Arv Z hl arr ka (.object "java/lang/String") z lsl .null) (hn : i.toInt + (n : Int) = z.toInt) (hi0 : 0 ≤ i.toInt) (hll : lsl.length = z.toNatClampNeg) (hnl : ∀ j, j < i.toNatClampNeg → lsl.getD j .null = .null) (pre : ∀ τ, Steps p.tables e below (Tl.setTop (mkF m 5 #[.val (.ref arr), .val .null, .val (.int i), .val (.int z)] [])) τ → G τ), GL := by
    intro n
    induction n with
    | zero =>
      intro i lsl Tl ll hl Xl el NNl K Zn V_arr hn hi0 hll hnl pre
      have pre : ∀ τ, Steps p.tables e below (Tl.setTop (mkF m 7 #[.val (.ref arr), .val .null, .val (.int i), .val (.int z)] [(.int z), (.int i)])) τ → G τ := fun τ κ => pre τ (by
        refine XS.iloadN Xl.here hx rfl (hb hby d4_5) rfl ?_
        show Steps p.tables e below (Tl.setTop (mkF m 6 #[.val (.ref arr), .val .null, .val (.int i), .val (.int z)] [(.int i)])) τ
        refine XS.iloadN Xl.here hx rfl (hb hby d4_6) rfl ?_
        show Steps p.tables e below (Tl.setTop (mkF m 7 #[.val (.ref arr), .val .null, .val (.int i), .val (.int z)] [(.int z), (.int i)])) τ
        exact κ)
      have hc2 : ¬ (i < z) := own_lz hn
      have pre : ∀ τ, Steps p.tables e below (Tl.setTop (mkF m 20 #[.val (.ref arr), .val .null, .val (.int i), .val (.int z)] [])) τ → G τ := fun τ κ => pre τ (by
        refine XS.icmpYes Xl.here hx rfl (pc0 := 7) (pc' := 20) rfl (hb hby d4_7) rfl (flt hc2).2.1 (by decide) (by decide) ?_
        show Steps p.tables e below (Tl.setTop (mkF m 20 #[.val (.ref arr), .val .null, .val (.int i), .val (.int z)] [])) τ
        exact κ)
      obtain ⟨fsα, hr, hrun, hended, hW, hsame⟩ := Xl.leave (v := none) (fun _ => rfl)
      refine hGL ⟨_, _, hG _ (pre _ ?_), hrun, hended, _, _, rfl, ?_, ⟨_, rfl⟩, hW, hsame.mono (by decide) (by decide)⟩
      · exact Xl.returnOut hx Bd.returns (hb hby d4_20) hr
      · show Q4 Z arr ka z ls h0 n0 _ Tl.heap _
        rw [el]
        exact ⟨rfl, NNl, K, own_allnull hll hi0 hn hnl ▸ V_arr⟩
    | succ n ih =>
      intro i lsl Tl ll hl Xl el NNl K Zn V_arr hn hi0 hll hnl pre
      have pre : ∀ τ, Steps p.tables e below (Tl.setTop (mkF m 7 #[.val (.ref arr), .val .null, .val (.int i), .val (.int z)] [(.int z), (.int i)])) τ → G τ := fun τ κ => pre τ (by
        refine XS.iloadN Xl.here hx rfl (hb hby d4_5) rfl ?_
        show Steps p.tables e below (Tl.setTop (mkF m 6 #[.val (.ref arr), .val .null, .val (.int i), .val (.int z)] [(.int i)])) τ
        refine XS.iloadN Xl.here hx rfl (hb hby d4_6) rfl ?_
        show Steps p.tables e below (Tl.setTop (mkF m 7 #[.val (.ref arr), .val .null, .val (.int i), .val (.int z)] [(.int z), (.int i)])) τ
        exact κ)
      have hc3 : i < z := own_ls hn
      have pre : ∀ τ, Steps p.tables e below (Tl.setTop (mkF m 13 #[.val (.ref arr), .val .null, .val (.int i), .val (.int z)] [.null, (.int i), (.ref arr)])) τ → G τ := fun τ κ => pre τ (by
        refine XS.icmpNo Xl.here hx rfl (hb hby d4_7) rfl (tlt hc3).2.1 ?_
        show Steps p.tables e below (Tl.setTop (mkF m 10 #[.val (.ref arr), .val .null, .val (.int i), .val (.int z)] [])) τ
        refine XS.aloadN Xl.here hx rfl (hb hby d4_10) rfl rfl ?_
        show Steps p.tables e below (Tl.setTop (mkF m 11 #[.val (.ref arr), .val .null, .val (.int i), .val (.int z)] [(.ref arr)])) τ
        refine XS.iloadN Xl.here hx rfl (hb hby d4_11) rfl ?_
        show Steps p.tables e below (Tl.setTop (mkF m 12 #[.val (.ref arr), .val .null, .val (.int i), .val (.int z)] [(.int i), (.ref arr)])) τ
        refine XS.aloadN Xl.here hx rfl (hb hby d4_12) rfl rfl ?_
        show Steps p.tables e below (Tl.setTop (mkF m 13 #[.val (.ref arr), .val .null, .val (.int i), .val (.int z)] [.null, (.int i), (.ref arr)])) τ
        exact κ)
      obtain ⟨c4, Ar4, q4, S4, Nz4, Hh4, Gg4⟩ := id V_arr
      have hin4 : ¬ (i < 0 ∨ c4.slots.size ≤ (i).toNatClampNeg) := inb_of S4 (own_lb hi0 hn)
      obtain ⟨T4, h4, X4, e4, W4, st4⟩ := stR Xl hx hZ el Ar4 (j := i) hin4 rfl (Or.inl rfl) (g := (mkF m 13 #[.val (.ref arr), .val .null, .val (.int i), .val (.int z)] [.null, (.int i), (.ref arr)])) rfl rfl (hb hby d4_13)
      have V_arr : Arv Z h4 arr ka (.object "java/lang/String") z (lsl.set (i).toNatClampNeg .null) .null := Arv.set Ar4 q4 S4 Nz4 Hh4 Gg4 rfl W4 _ rfl (own_lt2 (own_lb hi0 hn) hll)
      have Zn : n0 ≤ h4.size := Nat.le_trans Zn (Keep.of_wr W4).1
      have K : Keep h0 h4 [arr] := K.wr W4 (Or.inl (List.mem_of_getElem? (i := 0) rfl))
      have NN := Fr.snoc X4 NNl g_arr
      have pre : ∀ τ, Steps p.tables e below (T4.setTop (mkF m 14 #[.val (.ref arr), .val .null, .val (.int i), .val (.int z)] [])) τ → G τ := fun τ κ => pre τ (st4 τ κ)
      have pre : ∀ τ, Steps p.tables e below (T4.setTop (mkF m 5 #[.val (.ref arr), .val .null, .val (.int (i + (1 : Int32))), .val (.int z)] [])) τ → G τ := fun τ κ => pre τ (by
        refine XS.iinc X4.here hx rfl (hb hby d4_14) rfl (l' := #[.val (.ref arr), .val .null, .val (.int (i + (1 : Int32))), .val (.int z)]) rfl ?_
        show Steps p.tables e below (T4.setTop (mkF m 17 #[.val (.ref arr), .val .null, .val (.int (i + (1 : Int32))), .val (.int z)] [])) τ
        refine XS.goto X4.here hx rfl (pc0 := 17) (pc' := 5) rfl (hb hby d4_17) (by decide) (by decide) ?_
        show Steps p.tables e below (T4.setTop (mkF m 5 #[.val (.ref arr), .val .null, .val (.int (i + (1 : Int32))), .val (.int z)] [])) τ
        exact κ)
      exact ih (i + (1 : Int32)) (lsl.set (i).toNatClampNeg .null) T4 _ h4 X4 e4 NN K Zn V_arr (own_l1 hi0 hn) (own_l2 hi0 hn) (by rw [List.length_set]; exact hll) (own_nulls hll hi0 hn hnl) pre
  exact loop z.toInt.toNat (0 : Int32) ls s₁ _ h0 X0 e0 N0 K Zn V_arr (own_l0 (own_arvn V_arr)) (by decide) hl (fun j hj => absurd hj (Nat.not_lt_zero j)) pre
theorem pn_3 : plainName "coppice/marshal/context/NamespaceScope" = true := by first | (simp [plainName, overriddenIn]; done) | decide +kernel
theorem d15_0 : decode prog_2_method_4_code 0 = .ok (.aload_n 0, 1) := by decide +kernel
theorem d15_1 : decode prog_2_method_4_code 1 = .ok (.getfield 35, 3) := by decide +kernel
theorem d15_4 : decode prog_2_method_4_code 4 = .ok (.ireturn, 1) := by decide +kernel
theorem ef_15 (m : MethodId) (x0 : Addr) : entryFrame m #[(.ref x0)] 1 = mkF m 0 #[.val (.ref x0)] [] := by first | (simp [entryFrame, mkF, argsToLocals, Value.category]; done) | rfl
def Q15 (Z : State) (o : Addr) (uc : Int32) (h0 : Heap) (n0 : Nat) (vα : Option Value) (hα : Heap) (Lα : List Loc) : Prop := vα = some (.int uc) ∧ Fr n0 Lα ∧ hα = h0
set_option maxRecDepth 65536 in
set_option maxHeartbeats 40000000 in
theorem rm15 (l : Launch) (Z : State) (a0 : Array Value) (hw : ∀ d ∈ tables_1, d.before a0 Z = true) (ws : List Jvm.Cond) (o : Addr) (uc : Int32) (h0 : Heap) (n0 : Nat) (Z0 : n0 ≤ h0.size) (F_uc : Fld Z h0 o "coppice/marshal/context/NamespaceScope" "undoCount" "I" (.int uc)) :
    MetFree l (⟨"coppice/marshal/context/NamespaceScope", "mark", "()I"⟩ : MethodName) (head1 (Jvm.Cond.code (⟨"coppice/marshal/context/NamespaceScope", "mark", "()I"⟩ : MethodName) prog_2_method_4_code 1 (some .int) :: ws) ({ frames := 0, cells := 0, slots := 0, locals := 0 } : Room)) (fun aα U => aα = #[(.ref o)] ∧ Z.Warmed39 U.vm ∧ U.heap = h0) (fun _ _ _ _ _ => True) (fun _ U oα U' => ∃ vα Lα, oα = .returned vα ∧ Q15 Z o uc h0 n0 vα U'.heap Lα ∧ FrameEnd U oα U' Lα ({ frames := 0, cells := 0, slots := 0, locals := 0 } : Room).cells ({ frames := 0, cells := 0, slots := 0, locals := 0 } : Room).slots) := by
  refine MetFree.of_bodySF (plainFor_of_name pn_3) hisR ?_
  intro p e s m args below meth c s₁ Bd hml0 hP hK
  refine own_wrap ?_
  intro GL hGL
  obtain ⟨rfl, hZ, hh⟩ := hP
  have hx := Bd.exec
  have hby := Bd.bytes
  have hml : c.maxLocals = 1 := hml0
  have hown : s.vm.findClass "coppice/marshal/context/NamespaceScope" = some m.cls := findClass_of_methodNamed Bd.named
  have hnm := (name_of_methodNamed Bd.named Bd.method).1
  have X0 : Stand p l e ({ frames := 0, cells := 0, slots := 0, locals := 0 } : Room) s m #[(.ref o)] below meth c s₁ [] 0 0 := Stand.of_body Bd
  have e0 : s₁.heap = h0 := by rw [← hh, Bd.state]; rfl
  have N0 := Fr.nil n0
  have pre0 : ∀ τ, Steps p.tables e below (s₁.setTop (mkF m 0 #[.val (.ref o)] [])) τ → Steps p.tables e below (s₁.setTop (entryFrame m #[(.ref o)] 1)) τ := fun τ κ => castTop (ef_15 m o) κ
  obtain ⟨G, hG, pre⟩ : ∃ G : State → Prop, (∀ τ, G τ → Steps p.tables e below (s₁.setTop (entryFrame m #[(.ref o)] 1)) τ) ∧ ∀ τ, Steps p.tables e below (s₁.setTop (mkF m 0 #[.val (.ref o)] [])) τ → G τ := ⟨_, pre0, fun _ k => k⟩
  have K : Keep h0 h0 [] := Keep.refl h0 _
  have Zn := Z0
  have pre : ∀ τ, Steps p.tables e below (s₁.setTop (mkF m 1 #[.val (.ref o)] [(.ref o)])) τ → G τ := fun τ κ => pre τ (by
    refine XS.aloadN X0.here hx rfl (hb hby d15_0) rfl rfl ?_
    show Steps p.tables e below (s₁.setTop (mkF m 1 #[.val (.ref o)] [(.ref o)])) τ
    exact κ)
  obtain ⟨T1, X1, e1, st1⟩ := getF X0 hx hZ hown (host := "") (Or.inl (hw _ (List.mem_of_getElem? (i := 37) rfl))) Via.refl e0 F_uc (g := (mkF m 1 #[.val (.ref o)] [(.ref o)])) rfl rfl (hb hby d15_1)
  have pre : ∀ τ, Steps p.tables e below (T1.setTop (mkF m 4 #[.val (.ref o)] [(.int uc)])) τ → G τ := fun τ κ => pre τ (st1 τ κ)
  obtain ⟨fsα, hr, hrun, hended, hW, hsame⟩ := X1.leave (v := some (.int uc)) (fun h => by rw [Bd.returns] at h; cases h)
  refine hGL ⟨_, _, hG _ (pre _ ?_), hrun, hended, _, _, rfl, ?_, ⟨_, rfl⟩, hW, hsame.mono (by decide) (by decide)⟩
  · exact retOut X1 hx Bd.returns rfl (Or.inl ⟨rfl, Or.inl rfl, _, rfl⟩) (hb hby d15_4) hr
  · show Q15 Z o uc h0 n0 _ T1.heap _
    rw [e1]
    exact ⟨rfl, N0, rfl⟩
theorem d16_0 : decode prog_2_method_3_code 0 = .ok (.aload_n 0, 1) := by decide +kernel
theorem d16_1 : decode prog_2_method_3_code 1 = .ok (.getfield 19, 3) := by decide +kernel
theorem d16_4 : decode prog_2_method_3_code 4 = .ok (.iload_n 1, 1) := by decide +kernel
theorem d16_5 : decode prog_2_method_3_code 5 = .ok (.aaload, 1) := by decide +kernel
theorem d16_6 : decode prog_2_method_3_code 6 = .ok (.areturn, 1) := by decide +kernel
theorem ef_16 (m : MethodId) (x0 : Addr) (x1 : Int32) : entryFrame m #[(.ref x0), (.int x1)] 2 = mkF m 0 #[.val (.ref x0), .val (.int x1)] [] := by first | (simp [entryFrame, mkF, argsToLocals, Value.category]; done) | rfl
def Q16 (Z : State) (o : Addr) (i : Int32) (pf : Addr) (kf : ClassId) (nz : Int32) (pfs : List Value) (po : List own_T) (h0 : Heap) (n0 : Nat) (vα : Option Value) (hα : Heap) (Lα : List Loc) : Prop := vα = some (pfs.getD (i).toNatClampNeg .null) ∧ Fr n0 Lα ∧ hα = h0 ∧ own_S Z hα (pfs.getD (i).toNatClampNeg .null) (po.getD (i).toNatClampNeg none)
set_option maxRecDepth 65536 in
set_option maxHeartbeats 40000000 in
theorem rm16 (l : Launch) (Z : State) (a0 : Array Value) (hw : ∀ d ∈ tables_1, d.before a0 Z = true) (ws : List Jvm.Cond) (o : Addr) (i : Int32) (pf : Addr) (kf : ClassId) (nz : Int32) (pfs : List Value) (po : List own_T) (h0 : Heap) (n0 : Nat) (Z0 : n0 ≤ h0.size) (F_pf : Fld Z h0 o "coppice/marshal/context/NamespaceScope" "prefixes" "[Ljava/lang/String;" (.ref pf)) (V_pf : Arv Z h0 pf kf (.object "java/lang/String") nz pfs .null) (L_pf : own_SL Z h0 pfs po) (hk : ¬ i < 0 ∧ i < nz) :
    MetFree l (⟨"coppice/marshal/context/NamespaceScope", "prefix", "(I)Ljava/lang/String;"⟩ : MethodName) (head1 (Jvm.Cond.code (⟨"coppice/marshal/context/NamespaceScope", "prefix", "(I)Ljava/lang/String;"⟩ : MethodName) prog_2_method_3_code 2 (some (.object "java/lang/String")) :: ws) ({ frames := 0, cells := 0, slots := 0, locals := 0 } : Room)) (fun aα U => aα = #[(.ref o), (.int i)] ∧ Z.Warmed39 U.vm ∧ U.heap = h0) (fun _ _ _ _ _ => True) (fun _ U oα U' => ∃ vα Lα, oα = .returned vα ∧ Q16 Z o i pf kf nz pfs po h0 n0 vα U'.heap Lα ∧ FrameEnd U oα U' Lα ({ frames := 0, cells := 0, slots := 0, locals := 0 } : Room).cells ({ frames := 0, cells := 0, slots := 0, locals := 0 } : Room).slots) := by
  refine MetFree.of_bodySF (plainFor_of_name pn_3) hisR ?_
  intro p e s m args below meth c s₁ Bd hml0 hP hK
  refine own_wrap ?_
  intro GL hGL
  obtain ⟨rfl, hZ, hh⟩ := hP
  have hx := Bd.exec
  have hby := Bd.bytes
  have hml : c.maxLocals = 2 := hml0
  have hown : s.vm.findClass "coppice/marshal/context/NamespaceScope" = some m.cls := findClass_of_methodNamed Bd.named
  have hnm := (name_of_methodNamed Bd.named Bd.method).1
  have X0 : Stand p l e ({ frames := 0, cells := 0, slots := 0, locals := 0 } : Room) s m #[(.ref o), (.int i)] below meth c s₁ [] 0 0 := Stand.of_body Bd
  have e0 : s₁.heap = h0 := by rw [← hh, Bd.state]; rfl
  have N0 := Fr.nil n0
  have pre0 : ∀ τ, Steps p.tables e below (s₁.setTop (mkF m 0 #[.val (.ref o), .val (.int i)] [])) τ → Steps p.tables e below (s₁.setTop (entryFrame m #[(.ref o), (.int i)] 2)) τ := fun τ κ => castTop (ef_16 m o i) κ
  obtain ⟨G, hG, pre⟩ : ∃ G : State → Prop, (∀ τ, G τ → Steps p.tables e below (s₁.setTop (entryFrame m #[(.ref o), (.int i)] 2)) τ) ∧ ∀ τ, Steps p.tables e below (s₁.setTop (mkF m 0 #[.val (.ref o), .val (.int i)] [])) τ → G τ := ⟨_, pre0, fun _ k => k⟩
  have K : Keep h0 h0 [] := Keep.refl h0 _
  have Zn := Z0
  have pre : ∀ τ, Steps p.tables e below (s₁.setTop (mkF m 1 #[.val (.ref o), .val (.int i)] [(.ref o)])) τ → G τ := fun τ κ => pre τ (by
    refine XS.aloadN X0.here hx rfl (hb hby d16_0) rfl rfl ?_
    show Steps p.tables e below (s₁.setTop (mkF m 1 #[.val (.ref o), .val (.int i)] [(.ref o)])) τ
    exact κ)
  obtain ⟨T1, X1, e1, st1⟩ := getF X0 hx hZ hown (host := "") (Or.inl (hw _ (List.mem_of_getElem? (i := 16) rfl))) Via.refl e0 F_pf (g := (mkF m 1 #[.val (.ref o), .val (.int i)] [(.ref o)])) rfl rfl (hb hby d16_1)
  have pre : ∀ τ, Steps p.tables e below (T1.setTop (mkF m 4 #[.val (.ref o), .val (.int i)] [(.ref pf)])) τ → G τ := fun τ κ => pre τ (st1 τ κ)
  have pre : ∀ τ, Steps p.tables e below (T1.setTop (mkF m 5 #[.val (.ref o), .val (.int i)] [(.int i), (.ref pf)])) τ → G τ := fun τ κ => pre τ (by
    refine XS.iloadN X1.here hx rfl (hb hby d16_4) rfl ?_
    show Steps p.tables e below (T1.setTop (mkF m 5 #[.val (.ref o), .val (.int i)] [(.int i), (.ref pf)])) τ
    exact κ)
  obtain ⟨c2, Ar2, q2, S2, Nz2, Hh2, Gg2⟩ := id V_pf
  have F_r : own_S Z h0 (pfs.getD (i).toNatClampNeg .null) (po.getD (i).toNatClampNeg none) := L_pf.2 _
  have hin2 : ¬ (i < 0 ∨ c2.slots.size ≤ (i).toNatClampNeg) := inb_of S2 hk
  have hat2 : c2.slots[(i).toNatClampNeg]? = some (pfs.getD (i).toNatClampNeg .null) := Hh2.at hin2 rfl
  have pre : ∀ τ, Steps p.tables e below (T1.setTop (mkF m 6 #[.val (.ref o), .val (.int i)] [(pfs.getD (i).toNatClampNeg .null)])) τ → G τ := fun τ κ => pre τ (X1.aaload hx (j := i) (v := (pfs.getD (i).toNatClampNeg .null)) (by rw [e1]; exact Ar2.1) (State.isArrayOf_alike hZ.alike Ar2.2.1) rfl Ar2.2.2 hin2 hat2 (g := (mkF m 5 #[.val (.ref o), .val (.int i)] [(.int i), (.ref pf)])) rfl rfl (hb hby d16_5) _ κ)
  obtain ⟨fsα, hr, hrun, hended, hW, hsame⟩ := X1.leave (v := some (pfs.getD (i).toNatClampNeg .null)) (fun h => by rw [Bd.returns] at h; cases h)
  refine hGL ⟨_, _, hG _ (pre _ ?_), hrun, hended, _, _, rfl, ?_, ⟨_, rfl⟩, hW, hsame.mono (by decide) (by decide)⟩
  · exact retOut X1 hx Bd.returns rfl (Or.inr (Or.inr (Or.inr (Or.inr ⟨rfl, rfl, (own_S_ref F_r)⟩)))) (hb hby d16_6) hr
  · show Q16 Z o i pf kf nz pfs po h0 n0 _ T1.heap _
    rw [e1]
    exact ⟨rfl, N0, rfl, F_r⟩
theorem d14_0 : decode prog_2_method_7_code 0 = .ok (.aload_n 0, 1) := by decide +kernel
theorem d14_1 : decode prog_2_method_7_code 1 = .ok (.getfield 35, 3) := by decide +kernel
theorem d14_4 : decode prog_2_method_7_code 4 = .ok (.aload_n 0, 1) := by decide +kernel
theorem d14_5 : decode prog_2_method_7_code 5 = .ok (.getfield 7, 3) := by decide +kernel
theorem d14_8 : decode prog_2_method_7_code 8 = .ok (.arraylength, 1) := by decide +kernel
theorem d14_9 : decode prog_2_method_7_code 9 = .ok (.if_icmp .ne 40, 3) := by decide +kernel
theorem d14_49 : decode prog_2_method_7_code 49 = .ok (.aload_n 0, 1) := by decide +kernel
theorem d14_50 : decode prog_2_method_7_code 50 = .ok (.getfield 7, 3) := by decide +kernel
theorem d14_53 : decode prog_2_method_7_code 53 = .ok (.aload_n 0, 1) := by decide +kernel
theorem d14_54 : decode prog_2_method_7_code 54 = .ok (.getfield 35, 3) := by decide +kernel
theorem d14_57 : decode prog_2_method_7_code 57 = .ok (.iload_n 1, 1) := by decide +kernel
theorem d14_58 : decode prog_2_method_7_code 58 = .ok (.iastore, 1) := by decide +kernel
theorem d14_59 : decode prog_2_method_7_code 59 = .ok (.aload_n 0, 1) := by decide +kernel
theorem d14_60 : decode prog_2_method_7_code 60 = .ok (.getfield 15, 3) := by decide +kernel
theorem d14_63 : decode prog_2_method_7_code 63 = .ok (.aload_n 0, 1) := by decide +kernel
theorem d14_64 : decode prog_2_method_7_code 64 = .ok (.getfield 35, 3) := by decide +kernel
theorem d14_67 : decode prog_2_method_7_code 67 = .ok (.aload_n 0, 1) := by decide +kernel
theorem d14_68 : decode prog_2_method_7_code 68 = .ok (.getfield 19, 3) := by decide +kernel
theorem d14_71 : decode prog_2_method_7_code 71 = .ok (.iload_n 1, 1) := by decide +kernel
theorem d14_72 : decode prog_2_method_7_code 72 = .ok (.aaload, 1) := by decide +kernel
theorem d14_73 : decode prog_2_method_7_code 73 = .ok (.aastore, 1) := by decide +kernel
theorem d14_74 : decode prog_2_method_7_code 74 = .ok (.aload_n 0, 1) := by decide +kernel
theorem d14_75 : decode prog_2_method_7_code 75 = .ok (.dup, 1) := by decide +kernel
theorem d14_76 : decode prog_2_method_7_code 76 = .ok (.getfield 35, 3) := by decide +kernel
theorem d14_79 : decode prog_2_method_7_code 79 = .ok (.iconst 1, 1) := by decide +kernel
theorem d14_80 : decode prog_2_method_7_code 80 = .ok (.iadd, 1) := by decide +kernel
theorem d14_81 : decode prog_2_method_7_code 81 = .ok (.putfield 35, 3) := by decide +kernel
theorem d14_84 : decode prog_2_method_7_code 84 = .ok (.aload_n 0, 1) := by decide +kernel
theorem d14_85 : decode prog_2_method_7_code 85 = .ok (.getfield 19, 3) := by decide +kernel
theorem d14_88 : decode prog_2_method_7_code 88 = .ok (.iload_n 1, 1) := by decide +kernel
theorem d14_89 : decode prog_2_method_7_code 89 = .ok (.aload_n 2, 1) := by decide +kernel
theorem d14_90 : decode prog_2_method_7_code 90 = .ok (.aastore, 1) := by decide +kernel
theorem d14_91 : decode prog_2_method_7_code 91 = .ok (.return_, 1) := by decide +kernel
theorem ef_14 (m : MethodId) (x0 : Addr) (x1 : Int32) (x2 : Value) (hx2 : x2.isRef = true) : entryFrame m #[(.ref x0), (.int x1), x2] 3 = mkF m 0 #[.val (.ref x0), .val (.int x1), .val x2] [] := by
  all_goals (cases x2 <;> first | (simp [Value.isRef] at hx2; done) | skip)
  all_goals first | (simp [entryFrame, mkF, argsToLocals, Value.category]; done) | rfl
def Q14 (Z : State) (o : Addr) (i : Int32) (v : Value) (un : Addr) (up : Addr) (pf : Addr) (ku : ClassId) (kp : ClassId) (kf : ClassId) (nz : Int32) (uc : Int32) (us : List Value) (ups : List Value) (pfs : List Value) (uo : List own_T) (po : List own_T) (ov : own_T) (h0 : Heap) (n0 : Nat) (vα : Option Value) (hα : Heap) (Lα : List Loc) : Prop := vα = none ∧ Fr n0 Lα ∧ Keep h0 hα [o, un, up, pf] ∧ Exa Z hα o "coppice/marshal/context/NamespaceScope" ∧ Fld Z hα o "coppice/marshal/context/NamespaceScope" "undoNamespaces" "[I" (.ref un) ∧ Fld Z hα o "coppice/marshal/context/NamespaceScope" "undoPrefixes" "[Ljava/lang/String;" (.ref up) ∧ Fld Z hα o "coppice/marshal/context/NamespaceScope" "prefixes" "[Ljava/lang/String;" (.ref pf) ∧ Fld Z hα o "coppice/marshal/context/NamespaceScope" "undoCount" "I" (.int (uc + (1 : Int32))) ∧ Arv Z hα un ku .int (16 : Int32) (us.set (uc).toNatClampNeg (.int i)) (.int (0 : Int32)) ∧ Arv Z hα up kp (.object "java/lang/String") (16 : Int32) (ups.set (uc).toNatClampNeg (pfs.getD (i).toNatClampNeg .null)) .null ∧ Arv Z hα pf kf (.object "java/lang/String") nz (pfs.set (i).toNatClampNeg v) .null ∧ own_SL Z hα (ups.set (uc).toNatClampNeg (pfs.getD (i).toNatClampNeg .null)) (uo.set (uc).toNatClampNeg (po.getD (i).toNatClampNeg none)) ∧ own_SL Z hα (pfs.set (i).toNatClampNeg v) (po.set (i).toNatClampNeg ov)
set_option maxRecDepth 65536 in
set_option maxHeartbeats 40000000 in
theorem rm14 (l : Launch) (Z : State) (a0 : Array Value) (hw : ∀ d ∈ tables_1, d.before a0 Z = true) (ws : List Jvm.Cond) (o : Addr) (i : Int32) (v : Value) (un : Addr) (up : Addr) (pf : Addr) (ku : ClassId) (kp : ClassId) (kf : ClassId) (nz : Int32) (uc : Int32) (us : List Value) (ups : List Value) (pfs : List Value) (uo : List own_T) (po : List own_T) (ov : own_T) (h0 : Heap) (n0 : Nat) (Z0 : n0 ≤ h0.size) (g_o : n0 ≤ o) (g_un : n0 ≤ un) (g_up : n0 ≤ up) (g_pf : n0 ≤ pf) (E_o : Exa Z h0 o "coppice/marshal/context/NamespaceScope") (F_un : Fld Z h0 o "coppice/marshal/context/NamespaceScope" "undoNamespaces" "[I" (.ref un)) (F_up : Fld Z h0 o "coppice/marshal/context/NamespaceScope" "undoPrefixes" "[Ljava/lang/String;" (.ref up)) (F_pf : Fld Z h0 o "coppice/marshal/context/NamespaceScope" "prefixes" "[Ljava/lang/String;" (.ref pf)) (F_uc : Fld Z h0 o "coppice/marshal/context/NamespaceScope" "undoCount" "I" (.int uc)) (V_un : Arv Z h0 un ku .int (16 : Int32) us (.int (0 : Int32))) (V_up : Arv Z h0 up kp (.object "java/lang/String") (16 : Int32) ups .null) (V_pf : Arv Z h0 pf kf (.object "java/lang/String") nz pfs .null) (L_up : own_SL Z h0 ups uo) (L_pf : own_SL Z h0 pfs po) (O_up : Ovr Z kp "java/lang/String") (O_pf : Ovr Z kf "java/lang/String") (ne_o__un : o ≠ un) (ne_o__up : o ≠ up) (ne_o__pf : o ≠ pf) (ne_un__up : un ≠ up) (ne_un__pf : un ≠ pf) (ne_up__pf : up ≠ pf) (F_v : own_S Z h0 v ov) (hk : ¬ i < 0 ∧ i < nz) (huc : 0 ≤ uc.toInt ∧ uc.toInt < 16) (hus : us.length = 16) (hups : ups.length = 16) (hpfs : pfs.length = nz.toNatClampNeg) :
    MetFree l (⟨"coppice/marshal/context/NamespaceScope", "bind", "(ILjava/lang/String;)V"⟩ : MethodName) (head1 (Jvm.Cond.code (⟨"coppice/marshal/context/NamespaceScope", "bind", "(ILjava/lang/String;)V"⟩ : MethodName) prog_2_method_7_code 3 none :: ws) ({ frames := 0, cells := 0, slots := 0, locals := 0 } : Room)) (fun aα U => aα = #[(.ref o), (.int i), v] ∧ Z.Warmed39 U.vm ∧ U.heap = h0) (fun _ _ _ _ _ => True) (fun _ U oα U' => ∃ vα Lα, oα = .returned vα ∧ Q14 Z o i v un up pf ku kp kf nz uc us ups pfs uo po ov h0 n0 vα U'.heap Lα ∧ FrameEnd U oα U' Lα ({ frames := 0, cells := 0, slots := 0, locals := 0 } : Room).cells ({ frames := 0, cells := 0, slots := 0, locals := 0 } : Room).slots) := by
  refine MetFree.of_bodySF (plainFor_of_name pn_3) hisR ?_
  intro p e s m args below meth c s₁ Bd hml0 hP hK
  refine own_wrap ?_
  intro GL hGL
  obtain ⟨rfl, hZ, hh⟩ := hP
  have hx := Bd.exec
  have hby := Bd.bytes
  have hml : c.maxLocals = 3 := hml0
  have hown : s.vm.findClass "coppice/marshal/context/NamespaceScope" = some m.cls := findClass_of_methodNamed Bd.named
  have hnm := (name_of_methodNamed Bd.named Bd.method).1
  have X0 : Stand p l e ({ frames := 0, cells := 0, slots := 0, locals := 0 } : Room) s m #[(.ref o), (.int i), v] below meth c s₁ [] 0 0 := Stand.of_body Bd
  have e0 : s₁.heap = h0 := by rw [← hh, Bd.state]; rfl
  have N0 := Fr.nil n0
  have pre0 : ∀ τ, Steps p.tables e below (s₁.setTop (mkF m 0 #[.val (.ref o), .val (.int i), .val v] [])) τ → Steps p.tables e below (s₁.setTop (entryFrame m #[(.ref o), (.int i), v] 3)) τ := fun τ κ => castTop (ef_14 m o i v (own_S_ref F_v)) κ
  obtain ⟨G, hG, pre⟩ : ∃ G : State → Prop, (∀ τ, G τ → Steps p.tables e below (s₁.setTop (entryFrame m #[(.ref o), (.int i), v] 3)) τ) ∧ ∀ τ, Steps p.tables e below (s₁.setTop (mkF m 0 #[.val (.ref o), .val (.int i), .val v] [])) τ → G τ := ⟨_, pre0, fun _ k => k⟩
  have K : Keep h0 h0 [o, un, up, pf] := Keep.refl h0 _
  have Zn := Z0
  have pre : ∀ τ, Steps p.tables e below (s₁.setTop (mkF m 1 #[.val (.ref o), .val (.int i), .val v] [(.ref o)])) τ → G τ := fun τ κ => pre τ (by
    refine XS.aloadN X0.here hx rfl (hb hby d14_0) rfl rfl ?_
    show Steps p.tables e below (s₁.setTop (mkF m 1 #[.val (.ref o), .val (.int i), .val v] [(.ref o)])) τ
    exact κ)
  obtain ⟨T1, X1, e1, st1⟩ := getF X0 hx hZ hown (host := "") (Or.inl (hw _ (List.mem_of_getElem? (i := 37) rfl))) Via.refl e0 F_uc (g := (mkF m 1 #[.val (.ref o), .val (.int i), .val v] [(.ref o)])) rfl rfl (hb hby d14_1)
  have pre : ∀ τ, Steps p.tables e below (T1.setTop (mkF m 4 #[.val (.ref o), .val (.int i), .val v] [(.int uc)])) τ → G τ := fun τ κ => pre τ (st1 τ κ)
  have pre : ∀ τ, Steps p.tables e below (T1.setTop (mkF m 5 #[.val (.ref o), .val (.int i), .val v] [(.ref o), (.int uc)])) τ → G τ := fun τ κ => pre τ (by
    refine XS.aloadN X1.here hx rfl (hb hby d14_4) rfl rfl ?_
    show Steps p.tables e below (T1.setTop (mkF m 5 #[.val (.ref o), .val (.int i), .val v] [(.ref o), (.int uc)])) τ
    exact κ)
  obtain ⟨T2, X2, e2, st2⟩ := getF X1 hx hZ hown (host := "") (Or.inl (hw _ (List.mem_of_getElem? (i := 10) rfl))) Via.refl e1 F_un (g := (mkF m 5 #[.val (.ref o), .val (.int i), .val v] [(.ref o), (.int uc)])) rfl rfl (hb hby d14_5)
  have pre : ∀ τ, Steps p.tables e below (T2.setTop (mkF m 8 #[.val (.ref o), .val (.int i), .val v] [(.ref un), (.int uc)])) τ → G τ := fun τ κ => pre τ (st2 τ κ)
  obtain ⟨c3, Ar3, -, S3, N3, -, -⟩ := id V_un
  have pre : ∀ τ, Steps p.tables e below (T2.setTop (mkF m 9 #[.val (.ref o), .val (.int i), .val v] [(.int (16 : Int32)), (.int uc)])) τ → G τ := fun τ κ => pre τ (by
    refine X2.arraylength hx (by rw [e2]; exact Ar3.1) (State.isArrayOf_alike hZ.alike Ar3.2.1) (g := (mkF m 8 #[.val (.ref o), .val (.int i), .val v] [(.ref un), (.int uc)])) rfl rfl (hb hby d14_8) _ ?_
    rw [len_of S3 N3]
    exact κ)
  have hc4 : ¬ (uc = (16 : Int32)) := own_n16 huc
  have pre : ∀ τ, Steps p.tables e below (T2.setTop (mkF m 50 #[.val (.ref o), .val (.int i), .val v] [(.ref o)])) τ → G τ := fun τ κ => pre τ (by
    refine XS.icmpYes X2.here hx rfl (pc0 := 9) (pc' := 49) rfl (hb hby d14_9) rfl (feq hc4).2 (by decide) (by decide) ?_
    show Steps p.tables e below (T2.setTop (mkF m 49 #[.val (.ref o), .val (.int i), .val v] [])) τ
    refine XS.aloadN X2.here hx rfl (hb hby d14_49) rfl rfl ?_
    show Steps p.tables e below (T2.setTop (mkF m 50 #[.val (.ref o), .val (.int i), .val v] [(.ref o)])) τ
    exact κ)
  obtain ⟨T5, X5, e5, st5⟩ := getF X2 hx hZ hown (host := "") (Or.inl (hw _ (List.mem_of_getElem? (i := 10) rfl))) Via.refl e2 F_un (g := (mkF m 50 #[.val (.ref o), .val (.int i), .val v] [(.ref o)])) rfl rfl (hb hby d14_50)
  have pre : ∀ τ, Steps p.tables e below (T5.setTop (mkF m 53 #[.val (.ref o), .val (.int i), .val v] [(.ref un)])) τ → G τ := fun τ κ => pre τ (st5 τ κ)
  have pre : ∀ τ, Steps p.tables e below (T5.setTop (mkF m 54 #[.val (.ref o), .val (.int i), .val v] [(.ref o), (.ref un)])) τ → G τ := fun τ κ => pre τ (by
    refine XS.aloadN X5.here hx rfl (hb hby d14_53) rfl rfl ?_
    show Steps p.tables e below (T5.setTop (mkF m 54 #[.val (.ref o), .val (.int i), .val v] [(.ref o), (.ref un)])) τ
    exact κ)
  obtain ⟨T6, X6, e6, st6⟩ := getF X5 hx hZ hown (host := "") (Or.inl (hw _ (List.mem_of_getElem? (i := 37) rfl))) Via.refl e5 F_uc (g := (mkF m 54 #[.val (.ref o), .val (.int i), .val v] [(.ref o), (.ref un)])) rfl rfl (hb hby d14_54)
  have pre : ∀ τ, Steps p.tables e below (T6.setTop (mkF m 57 #[.val (.ref o), .val (.int i), .val v] [(.int uc), (.ref un)])) τ → G τ := fun τ κ => pre τ (st6 τ κ)
  have pre : ∀ τ, Steps p.tables e below (T6.setTop (mkF m 58 #[.val (.ref o), .val (.int i), .val v] [(.int i), (.int uc), (.ref un)])) τ → G τ := fun τ κ => pre τ (by
    refine XS.iloadN X6.here hx rfl (hb hby d14_57) rfl ?_
    show Steps p.tables e below (T6.setTop (mkF m 58 #[.val (.ref o), .val (.int i), .val v] [(.int i), (.int uc), (.ref un)])) τ
    exact κ)
  obtain ⟨c7, Ar7, q7, S7, Nz7, Hh7, Gg7⟩ := id V_un
  have hin7 : ¬ (uc < 0 ∨ c7.slots.size ≤ (uc).toNatClampNeg) := inb_of S7 (own_u16 huc)
  obtain ⟨T7, h7, X7, e7, W7, st7⟩ := stI X6 hx hZ e6 Ar7 (j := uc) hin7 (g := (mkF m 58 #[.val (.ref o), .val (.int i), .val v] [(.int i), (.int uc), (.ref un)])) rfl rfl (hb hby d14_58)
  have V_un : Arv Z h7 un ku .int (16 : Int32) (us.set (uc).toNatClampNeg (.int i)) (.int (0 : Int32)) := Arv.set Ar7 q7 S7 Nz7 Hh7 Gg7 rfl W7 _ rfl (own_lt2 (own_u16 huc) (hus.trans own_k16))
  have Ns := (Or.inr ⟨_, _, Ar7, by decide⟩ : own_ns Z h0 un)
  have E_o : Exa Z h7 o "coppice/marshal/context/NamespaceScope" := E_o.wr W7
  have F_un : Fld Z h7 o "coppice/marshal/context/NamespaceScope" "undoNamespaces" "[I" (.ref un) := F_un.other W7 (Or.inl ne_o__un)
  have F_up : Fld Z h7 o "coppice/marshal/context/NamespaceScope" "undoPrefixes" "[Ljava/lang/String;" (.ref up) := F_up.other W7 (Or.inl ne_o__un)
  have F_pf : Fld Z h7 o "coppice/marshal/context/NamespaceScope" "prefixes" "[Ljava/lang/String;" (.ref pf) := F_pf.other W7 (Or.inl ne_o__un)
  have F_uc : Fld Z h7 o "coppice/marshal/context/NamespaceScope" "undoCount" "I" (.int uc) := F_uc.other W7 (Or.inl ne_o__un)
  have V_up : Arv Z h7 up kp (.object "java/lang/String") (16 : Int32) ups .null := V_up.other W7 (Ne.symm ne_un__up)
  have V_pf : Arv Z h7 pf kf (.object "java/lang/String") nz pfs .null := V_pf.other W7 (Ne.symm ne_un__pf)
  have L_up : own_SL Z h7 ups uo := own_SL_wr L_up W7 Ns
  have L_pf : own_SL Z h7 pfs po := own_SL_wr L_pf W7 Ns
  have F_v : own_S Z h7 v ov := own_S_wr F_v W7 Ns
  have Zn : n0 ≤ h7.size := Nat.le_trans Zn (Keep.of_wr W7).1
  have K : Keep h0 h7 [o, un, up, pf] := K.wr W7 (Or.inl (List.mem_of_getElem? (i := 1) rfl))
  have NN := Fr.snoc X7 N0 g_un
  have pre : ∀ τ, Steps p.tables e below (T7.setTop (mkF m 59 #[.val (.ref o), .val (.int i), .val v] [])) τ → G τ := fun τ κ => pre τ (st7 τ κ)
  have pre : ∀ τ, Steps p.tables e below (T7.setTop (mkF m 60 #[.val (.ref o), .val (.int i), .val v] [(.ref o)])) τ → G τ := fun τ κ => pre τ (by
    refine XS.aloadN X7.here hx rfl (hb hby d14_59) rfl rfl ?_
    show Steps p.tables e below (T7.setTop (mkF m 60 #[.val (.ref o), .val (.int i), .val v] [(.ref o)])) τ
    exact κ)
  obtain ⟨T8, X8, e8, st8⟩ := getF X7 hx hZ hown (host := "") (Or.inl (hw _ (List.mem_of_getElem? (i := 14) rfl))) Via.refl e7 F_up (g := (mkF m 60 #[.val (.ref o), .val (.int i), .val v] [(.ref o)])) rfl rfl (hb hby d14_60)
  have pre : ∀ τ, Steps p.tables e below (T8.setTop (mkF m 63 #[.val (.ref o), .val (.int i), .val v] [(.ref up)])) τ → G τ := fun τ κ => pre τ (st8 τ κ)
  have pre : ∀ τ, Steps p.tables e below (T8.setTop (mkF m 64 #[.val (.ref o), .val (.int i), .val v] [(.ref o), (.ref up)])) τ → G τ := fun τ κ => pre τ (by
    refine XS.aloadN X8.here hx rfl (hb hby d14_63) rfl rfl ?_
    show Steps p.tables e below (T8.setTop (mkF m 64 #[.val (.ref o), .val (.int i), .val v] [(.ref o), (.ref up)])) τ
    exact κ)
  obtain ⟨T9, X9, e9, st9⟩ := getF X8 hx hZ hown (host := "") (Or.inl (hw _ (List.mem_of_getElem? (i := 37) rfl))) Via.refl e8 F_uc (g := (mkF m 64 #[.val (.ref o), .val (.int i), .val v] [(.ref o), (.ref up)])) rfl rfl (hb hby d14_64)
  have pre : ∀ τ, Steps p.tables e below (T9.setTop (mkF m 67 #[.val (.ref o), .val (.int i), .val v] [(.int uc), (.ref up)])) τ → G τ := fun τ κ => pre τ (st9 τ κ)
  have pre : ∀ τ, Steps p.tables e below (T9.setTop (mkF m 68 #[.val (.ref o), .val (.int i), .val v] [(.ref o), (.int uc), (.ref up)])) τ → G τ := fun τ κ => pre τ (by
    refine XS.aloadN X9.here hx rfl (hb hby d14_67) rfl rfl ?_
    show Steps p.tables e below (T9.setTop (mkF m 68 #[.val (.ref o), .val (.int i), .val v] [(.ref o), (.int uc), (.ref up)])) τ
    exact κ)
  obtain ⟨T10, X10, e10, st10⟩ := getF X9 hx hZ hown (host := "") (Or.inl (hw _ (List.mem_of_getElem? (i := 16) rfl))) Via.refl e9 F_pf (g := (mkF m 68 #[.val (.ref o), .val (.int i), .val v] [(.ref o), (.int uc), (.ref up)])) rfl rfl (hb hby d14_68)
  have pre : ∀ τ, Steps p.tables e below (T10.setTop (mkF m 71 #[.val (.ref o), .val (.int i), .val v] [(.ref pf), (.int uc), (.ref up)])) τ → G τ := fun τ κ => pre τ (st10 τ κ)
  have pre : ∀ τ, Steps p.tables e below (T10.setTop (mkF m 72 #[.val (.ref o), .val (.int i), .val v] [(.int i), (.ref pf), (.int uc), (.ref up)])) τ → G τ := fun τ κ => pre τ (by
    refine XS.iloadN X10.here hx rfl (hb hby d14_71) rfl ?_
    show Steps p.tables e below (T10.setTop (mkF m 72 #[.val (.ref o), .val (.int i), .val v] [(.int i), (.ref pf), (.int uc), (.ref up)])) τ
    exact κ)
  obtain ⟨c11, Ar11, q11, S11, Nz11, Hh11, Gg11⟩ := id V_pf
  have F_t : own_S Z h7 (pfs.getD (i).toNatClampNeg .null) (po.getD (i).toNatClampNeg none) := L_pf.2 _
  have hin11 : ¬ (i < 0 ∨ c11.slots.size ≤ (i).toNatClampNeg) := inb_of S11 hk
  have hat11 : c11.slots[(i).toNatClampNeg]? = some (pfs.getD (i).toNatClampNeg .null) := Hh11.at hin11 rfl
  have pre : ∀ τ, Steps p.tables e below (T10.setTop (mkF m 73 #[.val (.ref o), .val (.int i), .val v] [(pfs.getD (i).toNatClampNeg .null), (.int uc), (.ref up)])) τ → G τ := fun τ κ => pre τ (X10.aaload hx (j := i) (v := (pfs.getD (i).toNatClampNeg .null)) (by rw [e10]; exact Ar11.1) (State.isArrayOf_alike hZ.alike Ar11.2.1) rfl Ar11.2.2 hin11 hat11 (g := (mkF m 72 #[.val (.ref o), .val (.int i), .val v] [(.int i), (.ref pf), (.int uc), (.ref up)])) rfl rfl (hb hby d14_72) _ κ)
  obtain ⟨c12, Ar12, q12, S12, Nz12, Hh12, Gg12⟩ := id V_up
  have hin12 : ¬ (uc < 0 ∨ c12.slots.size ≤ (uc).toNatClampNeg) := inb_of S12 (own_u16 huc)
  obtain ⟨T12, h12, X12, e12, W12, st12⟩ := stR X10 hx hZ e10 Ar12 (j := uc) hin12 rfl (own_S_sto F_t Ar12 q12 O_up) (g := (mkF m 73 #[.val (.ref o), .val (.int i), .val v] [(pfs.getD (i).toNatClampNeg .null), (.int uc), (.ref up)])) rfl rfl (hb hby d14_73)
  have V_up : Arv Z h12 up kp (.object "java/lang/String") (16 : Int32) (ups.set (uc).toNatClampNeg (pfs.getD (i).toNatClampNeg .null)) .null := Arv.set Ar12 q12 S12 Nz12 Hh12 Gg12 (own_S_fit F_t) W12 _ rfl (own_lt2 (own_u16 huc) (hups.trans own_k16))
  have Ns := (Or.inr ⟨_, _, Ar12, by decide⟩ : own_ns Z h7 up)
  have E_o : Exa Z h12 o "coppice/marshal/context/NamespaceScope" := E_o.wr W12
  have F_un : Fld Z h12 o "coppice/marshal/context/NamespaceScope" "undoNamespaces" "[I" (.ref un) := F_un.other W12 (Or.inl ne_o__up)
  have F_up : Fld Z h12 o "coppice/marshal/context/NamespaceScope" "undoPrefixes" "[Ljava/lang/String;" (.ref up) := F_up.other W12 (Or.inl ne_o__up)
  have F_pf : Fld Z h12 o "coppice/marshal/context/NamespaceScope" "prefixes" "[Ljava/lang/String;" (.ref pf) := F_pf.other W12 (Or.inl ne_o__up)
  have F_uc : Fld Z h12 o "coppice/marshal/context/NamespaceScope" "undoCount" "I" (.int uc) := F_uc.other W12 (Or.inl ne_o__up)
  have V_un : Arv Z h12 un ku .int (16 : Int32) (us.set (uc).toNatClampNeg (.int i)) (.int (0 : Int32)) := V_un.other W12 ne_un__up
  have V_pf : Arv Z h12 pf kf (.object "java/lang/String") nz pfs .null := V_pf.other W12 (Ne.symm ne_up__pf)
  have L_up : own_SL Z h12 ups uo := own_SL_wr L_up W12 Ns
  have L_pf : own_SL Z h12 pfs po := own_SL_wr L_pf W12 Ns
  have F_v : own_S Z h12 v ov := own_S_wr F_v W12 Ns
  have F_t : own_S Z h12 (pfs.getD (i).toNatClampNeg .null) (po.getD (i).toNatClampNeg none) := own_S_wr F_t W12 Ns
  have Zn : n0 ≤ h12.size := Nat.le_trans Zn (Keep.of_wr W12).1
  have K : Keep h0 h12 [o, un, up, pf] := K.wr W12 (Or.inl (List.mem_of_getElem? (i := 2) rfl))
  have NN := Fr.snoc X12 NN g_up
  have pre : ∀ τ, Steps p.tables e below (T12.setTop (mkF m 74 #[.val (.ref o), .val (.int i), .val v] [])) τ → G τ := fun τ κ => pre τ (st12 τ κ)
  have L_up : own_SL Z h12 (ups.set (uc).toNatClampNeg (pfs.getD (i).toNatClampNeg .null)) (uo.set (uc).toNatClampNeg (po.getD (i).toNatClampNeg none)) := own_SL_set L_up F_t _
  have pre : ∀ τ, Steps p.tables e below (T12.setTop (mkF m 76 #[.val (.ref o), .val (.int i), .val v] [(.ref o), (.ref o)])) τ → G τ := fun τ κ => pre τ (by
    refine XS.aloadN X12.here hx rfl (hb hby d14_74) rfl rfl ?_
    show Steps p.tables e below (T12.setTop (mkF m 75 #[.val (.ref o), .val (.int i), .val v] [(.ref o)])) τ
    refine XS.dup X12.here hx rfl (hb hby d14_75) rfl rfl ?_
    show Steps p.tables e below (T12.setTop (mkF m 76 #[.val (.ref o), .val (.int i), .val v] [(.ref o), (.ref o)])) τ
    exact κ)
  obtain ⟨T13, X13, e13, st13⟩ := getF X12 hx hZ hown (host := "") (Or.inl (hw _ (List.mem_of_getElem? (i := 37) rfl))) Via.refl e12 F_uc (g := (mkF m 76 #[.val (.ref o), .val (.int i), .val v] [(.ref o), (.ref o)])) rfl rfl (hb hby d14_76)
  have pre : ∀ τ, Steps p.tables e below (T13.setTop (mkF m 79 #[.val (.ref o), .val (.int i), .val v] [(.int uc), (.ref o)])) τ → G τ := fun τ κ => pre τ (st13 τ κ)
  have pre : ∀ τ, Steps p.tables e below (T13.setTop (mkF m 81 #[.val (.ref o), .val (.int i), .val v] [(.int (uc + (1 : Int32))), (.ref o)])) τ → G τ := fun τ κ => pre τ (by
    refine XS.iconst X13.here hx rfl (hb hby d14_79) ?_
    show Steps p.tables e below (T13.setTop (mkF m 80 #[.val (.ref o), .val (.int i), .val v] [(.int (1 : Int32)), (.int uc), (.ref o)])) τ
    refine XS.iadd X13.here hx rfl (hb hby d14_80) rfl ?_
    show Steps p.tables e below (T13.setTop (mkF m 81 #[.val (.ref o), .val (.int i), .val v] [(.int (uc + (1 : Int32))), (.ref o)])) τ
    exact κ)
  obtain ⟨T14, h14, X14, e14, W14, st14⟩ := putF X13 hx hZ hown (host := "") (Or.inl (hw _ (List.mem_of_getElem? (i := 37) rfl))) Via.refl e13 F_uc E_o (Or.inl (hw _ (List.mem_of_getElem? (i := 38) rfl))) (hw _ (List.mem_of_getElem? (i := 1) rfl)) (ty := .int) (by decide) rfl rfl (g := (mkF m 81 #[.val (.ref o), .val (.int i), .val v] [(.int (uc + (1 : Int32))), (.ref o)])) rfl rfl (hb hby d14_81)
  have F_uc : Fld Z h14 o "coppice/marshal/context/NamespaceScope" "undoCount" "I" (.int (uc + (1 : Int32))) := F_uc.same W14
  have Ns := (own_nsE E_o (hw _ (List.mem_of_getElem? (i := 1) rfl)) (by decide) (by decide))
  have E_o : Exa Z h14 o "coppice/marshal/context/NamespaceScope" := E_o.wr W14
  have F_un : Fld Z h14 o "coppice/marshal/context/NamespaceScope" "undoNamespaces" "[I" (.ref un) := F_un.other W14 (Or.inr (slot_ne (Or.inl (hw _ (List.mem_of_getElem? (i := 11) rfl))) (Or.inl (hw _ (List.mem_of_getElem? (i := 38) rfl))) (by decide) (t := (.array .int)) (t' := .int) (by decide) (by decide)))
  have F_up : Fld Z h14 o "coppice/marshal/context/NamespaceScope" "undoPrefixes" "[Ljava/lang/String;" (.ref up) := F_up.other W14 (Or.inr (slot_ne (Or.inl (hw _ (List.mem_of_getElem? (i := 15) rfl))) (Or.inl (hw _ (List.mem_of_getElem? (i := 38) rfl))) (by decide) (t := (.array (.object "java/lang/String"))) (t' := .int) (by decide) (by decide)))
  have F_pf : Fld Z h14 o "coppice/marshal/context/NamespaceScope" "prefixes" "[Ljava/lang/String;" (.ref pf) := F_pf.other W14 (Or.inr (slot_ne (Or.inr (hw _ (List.mem_of_getElem? (i := 17) rfl))) (Or.inl (hw _ (List.mem_of_getElem? (i := 38) rfl))) (by decide) (t := (.array (.object "java/lang/String"))) (t' := .int) (by decide) (by decide)))
  have V_un : Arv Z h14 un ku .int (16 : Int32) (us.set (uc).toNatClampNeg (.int i)) (.int (0 : Int32)) := V_un.other W14 (Ne.symm ne_o__un)
  have V_up : Arv Z h14 up kp (.object "java/lang/String") (16 : Int32) (ups.set (uc).toNatClampNeg (pfs.getD (i).toNatClampNeg .null)) .null := V_up.other W14 (Ne.symm ne_o__up)
  have V_pf : Arv Z h14 pf kf (.object "java/lang/String") nz pfs .null := V_pf.other W14 (Ne.symm ne_o__pf)
  have L_up : own_SL Z h14 (ups.set (uc).toNatClampNeg (pfs.getD (i).toNatClampNeg .null)) (uo.set (uc).toNatClampNeg (po.getD (i).toNatClampNeg none)) := own_SL_wr L_up W14 Ns
  have L_pf : own_SL Z h14 pfs po := own_SL_wr L_pf W14 Ns
  have F_v : own_S Z h14 v ov := own_S_wr F_v W14 Ns
  have F_t : own_S Z h14 (pfs.getD (i).toNatClampNeg .null) (po.getD (i).toNatClampNeg none) := own_S_wr F_t W14 Ns
  have Zn : n0 ≤ h14.size := Nat.le_trans Zn (Keep.of_wr W14).1
  have K : Keep h0 h14 [o, un, up, pf] := K.wr W14 (Or.inl (List.mem_of_getElem? (i := 0) rfl))
  have NN := Fr.snoc X14 NN g_o
  have pre : ∀ τ, Steps p.tables e below (T14.setTop (mkF m 84 #[.val (.ref o), .val (.int i), .val v] [])) τ → G τ := fun τ κ => pre τ (st14 τ κ)
  have pre : ∀ τ, Steps p.tables e below (T14.setTop (mkF m 85 #[.val (.ref o), .val (.int i), .val v] [(.ref o)])) τ → G τ := fun τ κ => pre τ (by
    refine XS.aloadN X14.here hx rfl (hb hby d14_84) rfl rfl ?_
    show Steps p.tables e below (T14.setTop (mkF m 85 #[.val (.ref o), .val (.int i), .val v] [(.ref o)])) τ
    exact κ)
  obtain ⟨T15, X15, e15, st15⟩ := getF X14 hx hZ hown (host := "") (Or.inl (hw _ (List.mem_of_getElem? (i := 16) rfl))) Via.refl e14 F_pf (g := (mkF m 85 #[.val (.ref o), .val (.int i), .val v] [(.ref o)])) rfl rfl (hb hby d14_85)
  have pre : ∀ τ, Steps p.tables e below (T15.setTop (mkF m 88 #[.val (.ref o), .val (.int i), .val v] [(.ref pf)])) τ → G τ := fun τ κ => pre τ (st15 τ κ)
  have pre : ∀ τ, Steps p.tables e below (T15.setTop (mkF m 90 #[.val (.ref o), .val (.int i), .val v] [v, (.int i), (.ref pf)])) τ → G τ := fun τ κ => pre τ (by
    refine XS.iloadN X15.here hx rfl (hb hby d14_88) rfl ?_
    show Steps p.tables e below (T15.setTop (mkF m 89 #[.val (.ref o), .val (.int i), .val v] [(.int i), (.ref pf)])) τ
    refine XS.aloadN X15.here hx rfl (hb hby d14_89) rfl (own_S_ref F_v) ?_
    show Steps p.tables e below (T15.setTop (mkF m 90 #[.val (.ref o), .val (.int i), .val v] [v, (.int i), (.ref pf)])) τ
    exact κ)
  obtain ⟨c16, Ar16, q16, S16, Nz16, Hh16, Gg16⟩ := id V_pf
  have hin16 : ¬ (i < 0 ∨ c16.slots.size ≤ (i).toNatClampNeg) := inb_of S16 hk
  obtain ⟨T16, h16, X16, e16, W16, st16⟩ := stR X15 hx hZ e15 Ar16 (j := i) hin16 rfl (own_S_sto F_v Ar16 q16 O_pf) (g := (mkF m 90 #[.val (.ref o), .val (.int i), .val v] [v, (.int i), (.ref pf)])) rfl rfl (hb hby d14_90)
  have V_pf : Arv Z h16 pf kf (.object "java/lang/String") nz (pfs.set (i).toNatClampNeg v) .null := Arv.set Ar16 q16 S16 Nz16 Hh16 Gg16 (own_S_fit F_v) W16 _ rfl (own_lt2 hk hpfs)
  have Ns := (Or.inr ⟨_, _, Ar16, by decide⟩ : own_ns Z h14 pf)
  have E_o : Exa Z h16 o "coppice/marshal/context/NamespaceScope" := E_o.wr W16
  have F_un : Fld Z h16 o "coppice/marshal/context/NamespaceScope" "undoNamespaces" "[I" (.ref un) := F_un.other W16 (Or.inl ne_o__pf)
  have F_up : Fld Z h16 o "coppice/marshal/context/NamespaceScope" "undoPrefixes" "[Ljava/lang/String;" (.ref up) := F_up.other W16 (Or.inl ne_o__pf)
  have F_pf : Fld Z h16 o "coppice/marshal/context/NamespaceScope" "prefixes" "[Ljava/lang/String;" (.ref pf) := F_pf.other W16 (Or.inl ne_o__pf)
  have F_uc : Fld Z h16 o "coppice/marshal/context/NamespaceScope" "undoCount" "I" (.int (uc + (1 : Int32))) := F_uc.other W16 (Or.inl ne_o__pf)
  have V_un : Arv Z h16 un ku .int (16 : Int32) (us.set (uc).toNatClampNeg (.int i)) (.int (0 : Int32)) := V_un.other W16 ne_un__pf
  have V_up : Arv Z h16 up kp (.object "java/lang/String") (16 : Int32) (ups.set (uc).toNatClampNeg (pfs.getD (i).toNatClampNeg .null)) .null := V_up.other W16 ne_up__pf
  have L_up : own_SL Z h16 (ups.set (uc).toNatClampNeg (pfs.getD (i).toNatClampNeg .null)) (uo.set (uc).toNatClampNeg (po.getD (i).toNatClampNeg none)) := own_SL_wr L_up W16 Ns
  have L_pf : own_SL Z h16 pfs po := own_SL_wr L_pf W16 Ns
  have F_v : own_S Z h16 v ov := own_S_wr F_v W16 Ns
  have F_t : own_S Z h16 (pfs.getD (i).toNatClampNeg .null) (po.getD (i).toNatClampNeg none) := own_S_wr F_t W16 Ns
  have Zn : n0 ≤ h16.size := Nat.le_trans Zn (Keep.of_wr W16).1
  have K : Keep h0 h16 [o, un, up, pf] := K.wr W16 (Or.inl (List.mem_of_getElem? (i := 3) rfl))
  have NN := Fr.snoc X16 NN g_pf
  have pre : ∀ τ, Steps p.tables e below (T16.setTop (mkF m 91 #[.val (.ref o), .val (.int i), .val v] [])) τ → G τ := fun τ κ => pre τ (st16 τ κ)
  have L_pf : own_SL Z h16 (pfs.set (i).toNatClampNeg v) (po.set (i).toNatClampNeg ov) := own_SL_set L_pf F_v _
  obtain ⟨fsα, hr, hrun, hended, hW, hsame⟩ := X16.leave (v := none) (fun _ => rfl)
  refine hGL ⟨_, _, hG _ (pre _ ?_), hrun, hended, _, _, rfl, ?_, ⟨_, rfl⟩, hW, hsame.mono (by decide) (by decide)⟩
  · exact X16.returnOut hx Bd.returns (hb hby d14_91) hr
  · show Q14 Z o i v un up pf ku kp kf nz uc us ups pfs uo po ov h0 n0 _ T16.heap _
    rw [e16]
    exact ⟨rfl, NN, K, E_o, F_un, F_up, F_pf, F_uc, V_un, V_up, V_pf, L_up, L_pf⟩
theorem d11_0 : decode prog_2_method_5_code 0 = .ok (.iconst 0, 1) := by decide +kernel
theorem d11_1 : decode prog_2_method_5_code 1 = .ok (.istore_n 3, 1) := by decide +kernel
theorem d11_2 : decode prog_2_method_5_code 2 = .ok (.iload_n 3, 1) := by decide +kernel
theorem d11_3 : decode prog_2_method_5_code 3 = .ok (.aload_n 0, 1) := by decide +kernel
theorem d11_4 : decode prog_2_method_5_code 4 = .ok (.getfield 19, 3) := by decide +kernel
theorem d11_7 : decode prog_2_method_5_code 7 = .ok (.arraylength, 1) := by decide +kernel
theorem d11_8 : decode prog_2_method_5_code 8 = .ok (.if_icmp .ge 33, 3) := by decide +kernel
theorem d11_41 : decode prog_2_method_5_code 41 = .ok (.aload_n 0, 1) := by decide +kernel
theorem d11_42 : decode prog_2_method_5_code 42 = .ok (.iload_n 1, 1) := by decide +kernel
theorem d11_43 : decode prog_2_method_5_code 43 = .ok (.aload_n 2, 1) := by decide +kernel
theorem d11_44 : decode prog_2_method_5_code 44 = .ok (.invokevirtual 43, 3) := by decide +kernel
theorem pd_1 : parseMethodDescriptor "(ILjava/lang/String;)V" = some ⟨[.int, (.object "java/lang/String")], none⟩ := by decide +kernel
theorem d11_47 : decode prog_2_method_5_code 47 = .ok (.return_, 1) := by decide +kernel
theorem d11_11 : decode prog_2_method_5_code 11 = .ok (.iload_n 3, 1) := by decide +kernel
theorem d11_12 : decode prog_2_method_5_code 12 = .ok (.iload_n 1, 1) := by decide +kernel
theorem d11_13 : decode prog_2_method_5_code 13 = .ok (.if_icmp .eq 22, 3) := by decide +kernel
theorem d11_35 : decode prog_2_method_5_code 35 = .ok (.iinc 3 1, 3) := by decide +kernel
theorem d11_38 : decode prog_2_method_5_code 38 = .ok (.goto (-36), 3) := by decide +kernel
theorem d11_16 : decode prog_2_method_5_code 16 = .ok (.aload_n 2, 1) := by decide +kernel
theorem d11_17 : decode prog_2_method_5_code 17 = .ok (.aload_n 0, 1) := by decide +kernel
theorem d11_18 : decode prog_2_method_5_code 18 = .ok (.getfield 19, 3) := by decide +kernel
theorem d11_21 : decode prog_2_method_5_code 21 = .ok (.iload_n 3, 1) := by decide +kernel
theorem d11_22 : decode prog_2_method_5_code 22 = .ok (.aaload, 1) := by decide +kernel
theorem d11_23 : decode prog_2_method_5_code 23 = .ok (.invokevirtual 39, 3) := by decide +kernel
theorem pd_2 : parseMethodDescriptor "(Ljava/lang/Object;)Z" = some ⟨[(.object "java/lang/Object")], some .boolean⟩ := by decide +kernel
theorem d11_26 : decode prog_2_method_5_code 26 = .ok (.ifCond .eq 9, 3) := by decide +kernel
theorem d11_29 : decode prog_2_method_5_code 29 = .ok (.aload_n 0, 1) := by decide +kernel
theorem d11_30 : decode prog_2_method_5_code 30 = .ok (.iload_n 3, 1) := by decide +kernel
theorem d11_31 : decode prog_2_method_5_code 31 = .ok (.aconst_null, 1) := by decide +kernel
theorem d11_32 : decode prog_2_method_5_code 32 = .ok (.invokevirtual 43, 3) := by decide +kernel
theorem ef_11 (m : MethodId) (x0 : Addr) (x1 : Int32) (x2 : Addr) : entryFrame m #[(.ref x0), (.int x1), (.ref x2)] 4 = mkF m 0 #[.val (.ref x0), .val (.int x1), .val (.ref x2), .unset] [] := by first | (simp [entryFrame, mkF, argsToLocals, Value.category]; done) | rfl
def Q11 (Z : State) (o : Addr) (ix : Int32) (a : Addr) (un : Addr) (up : Addr) (pf : Addr) (ku : ClassId) (kp : ClassId) (kf : ClassId) (nz : Int32) (s0 : own_ST) (ups : List Value) (pfs : List Value) (tp : List Value) (cw : Int32) (b0 : Int) (h0 : Heap) (n0 : Nat) (vα : Option Value) (hα : Heap) (Lα : List Loc) : Prop := ∃ (upz : List Value) (pfz : List Value), vα = none ∧ Fr n0 Lα ∧ Keep h0 hα [o, un, up, pf] ∧ Exa Z hα o "coppice/marshal/context/NamespaceScope" ∧ Fld Z hα o "coppice/marshal/context/NamespaceScope" "undoNamespaces" "[I" (.ref un) ∧ Fld Z hα o "coppice/marshal/context/NamespaceScope" "undoPrefixes" "[Ljava/lang/String;" (.ref up) ∧ Fld Z hα o "coppice/marshal/context/NamespaceScope" "prefixes" "[Ljava/lang/String;" (.ref pf) ∧ Fld Z hα o "coppice/marshal/context/NamespaceScope" "undoCount" "I" (.int (own_de tp ix nz s0).2.2.2) ∧ Arv Z hα un ku .int (16 : Int32) (own_de tp ix nz s0).2.1 (.int (0 : Int32)) ∧ Arv Z hα up kp (.object "java/lang/String") (16 : Int32) upz .null ∧ Arv Z hα pf kf (.object "java/lang/String") nz pfz .null ∧ own_SL Z hα upz (own_de tp ix nz s0).2.2.1 ∧ own_SL Z hα pfz (own_de tp ix nz s0).1 ∧ upz.length = 16 ∧ pfz.length = nz.toNatClampNeg
set_option maxRecDepth 65536 in
set_option maxHeartbeats 40000000 in
theorem rm11 (l : Launch) (Z : State) (a0 : Array Value) (hw : ∀ d ∈ tables_1, d.before a0 Z = true) (ws : List Jvm.Cond) (o : Addr) (ix : Int32) (a : Addr) (un : Addr) (up : Addr) (pf : Addr) (ku : ClassId) (kp : ClassId) (kf : ClassId) (nz : Int32) (s0 : own_ST) (ups : List Value) (pfs : List Value) (tp : List Value) (cw : Int32) (b0 : Int) (h0 : Heap) (n0 : Nat) (Z0 : n0 ≤ h0.size) (g_o : n0 ≤ o) (g_un : n0 ≤ un) (g_up : n0 ≤ up) (g_pf : n0 ≤ pf) (E_o : Exa Z h0 o "coppice/marshal/context/NamespaceScope") (F_un : Fld Z h0 o "coppice/marshal/context/NamespaceScope" "undoNamespaces" "[I" (.ref un)) (F_up : Fld Z h0 o "coppice/marshal/context/NamespaceScope" "undoPrefixes" "[Ljava/lang/String;" (.ref up)) (F_pf : Fld Z h0 o "coppice/marshal/context/NamespaceScope" "prefixes" "[Ljava/lang/String;" (.ref pf)) (F_uc : Fld Z h0 o "coppice/marshal/context/NamespaceScope" "undoCount" "I" (.int s0.2.2.2)) (V_un : Arv Z h0 un ku .int (16 : Int32) s0.2.1 (.int (0 : Int32))) (V_up : Arv Z h0 up kp (.object "java/lang/String") (16 : Int32) ups .null) (V_pf : Arv Z h0 pf kf (.object "java/lang/String") nz pfs .null) (L_up : own_SL Z h0 ups s0.2.2.1) (L_pf : own_SL Z h0 pfs s0.1) (O_up : Ovr Z kp "java/lang/String") (O_pf : Ovr Z kf "java/lang/String") (ne_o__un : o ≠ un) (ne_o__up : o ≠ up) (ne_o__pf : o ≠ pf) (ne_un__up : un ≠ up) (ne_un__pf : un ≠ pf) (ne_up__pf : up ≠ pf) (F_p : own_S Z h0 (.ref a) (some tp)) (S_c : Sta Z h0 "java/lang/String" "COMPACT_STRINGS" "Z" (.int cw)) (hcw : ¬ cw = (0 : Int32)) (hk : ¬ ix < 0 ∧ ix < nz) (huc : 0 ≤ s0.2.2.2.toInt ∧ s0.2.2.2.toInt ≤ b0) (hb0 : b0 + nz.toInt < 16) (hus : s0.2.1.length = 16) (hups : ups.length = 16) (hpfs : pfs.length = nz.toNatClampNeg) :
    MetFree l (⟨"coppice/marshal/context/NamespaceScope", "declare", "(ILjava/lang/String;)V"⟩ : MethodName) (head1 (Jvm.Cond.code (⟨"coppice/marshal/context/NamespaceScope", "declare", "(ILjava/lang/String;)V"⟩ : MethodName) prog_2_method_5_code 4 none :: ws) ({ frames := 2, cells := 0, slots := 0, locals := 28 } : Room)) (fun aα U => aα = #[(.ref o), (.int ix), (.ref a)] ∧ Z.Warmed39 U.vm ∧ U.heap = h0) (fun _ _ _ _ _ => True) (fun _ U oα U' => ∃ vα Lα, oα = .returned vα ∧ Q11 Z o ix a un up pf ku kp kf nz s0 ups pfs tp cw b0 h0 n0 vα U'.heap Lα ∧ FrameEnd U oα U' Lα ({ frames := 2, cells := 0, slots := 0, locals := 28 } : Room).cells ({ frames := 2, cells := 0, slots := 0, locals := 28 } : Room).slots) := by
  refine MetFree.of_bodySF (plainFor_of_name pn_3) hisR ?_
  intro p e s m args below meth c s₁ Bd hml0 hP hK
  refine own_wrap ?_
  intro GL hGL
  obtain ⟨rfl, hZ, hh⟩ := hP
  have hx := Bd.exec
  have hby := Bd.bytes
  have hml : c.maxLocals = 4 := hml0
  have hown : s.vm.findClass "coppice/marshal/context/NamespaceScope" = some m.cls := findClass_of_methodNamed Bd.named
  have hnm := (name_of_methodNamed Bd.named Bd.method).1
  have X0 : Stand p l e ({ frames := 2, cells := 0, slots := 0, locals := 28 } : Room) s m #[(.ref o), (.int ix), (.ref a)] below meth c s₁ [] 0 0 := Stand.of_body Bd
  have e0 : s₁.heap = h0 := by rw [← hh, Bd.state]; rfl
  have N0 := Fr.nil n0
  have pre0 : ∀ τ, Steps p.tables e below (s₁.setTop (mkF m 0 #[.val (.ref o), .val (.int ix), .val (.ref a), .unset] [])) τ → Steps p.tables e below (s₁.setTop (entryFrame m #[(.ref o), (.int ix), (.ref a)] 4)) τ := fun τ κ => castTop (ef_11 m o ix a) κ
  obtain ⟨G, hG, pre⟩ : ∃ G : State → Prop, (∀ τ, G τ → Steps p.tables e below (s₁.setTop (entryFrame m #[(.ref o), (.int ix), (.ref a)] 4)) τ) ∧ ∀ τ, Steps p.tables e below (s₁.setTop (mkF m 0 #[.val (.ref o), .val (.int ix), .val (.ref a), .unset] [])) τ → G τ := ⟨_, pre0, fun _ k => k⟩
  have K : Keep h0 h0 [o, un, up, pf] := Keep.refl h0 _
  have Zn := Z0
  have pre : ∀ τ, Steps p.tables e below (s₁.setTop (mkF m 2 #[.val (.ref o), .val (.int ix), .val (.ref a), .val (.int (0 : Int32))] [])) τ → G τ := fun τ κ => pre τ (by
    refine XS.iconst X0.here hx rfl (hb hby d11_0) ?_
    show Steps p.tables e below (s₁.setTop (mkF m 1 #[.val (.ref o), .val (.int ix), .val (.ref a), .unset] [(.int (0 : Int32))])) τ
    refine XS.istoreN X0.here hx rfl (hb hby d11_1) rfl (l' := #[.val (.ref o), .val (.int ix), .val (.ref a), .val (.int (0 : Int32))]) rfl ?_
    show Steps p.tables e below (s₁.setTop (mkF m 2 #[.val (.ref o), .val (.int ix), .val (.ref a), .val (.int (0 : Int32))] [])) τ
    exact κ)
  have loop : ∀ (n : Nat) (i : Int32) (sl : own_ST) (pfl : List Value) (upl : List Value) (Tl : State) (ll : List Loc) (hl : Heap) (Xl : Stand p l e ({ frames := 2, cells := 0, slots := 0, locals := 28 } : Room) s m #[(.ref o), (.int ix), (.ref a)] below meth c Tl ll 0 0) (el : Tl.heap = hl) (NNl : Fr n0 ll) (K : Keep h0 hl [o, un, up, pf]) (Zn : n0 ≤ hl.size) (E_o : Exa Z hl o "coppice/marshal/context/NamespaceScope") (F_un : Fld Z hl o "coppice/marshal/context/NamespaceScope" "undoNamespaces" "[I" (.ref un)) (F_up : Fld Z hl o "coppice/marshal/context/NamespaceScope" "undoPrefixes" "[Ljava/lang/String;" (.ref up)) (F_pf : Fld Z hl o "coppice/marshal/context/NamespaceScope" "prefixes" "[Ljava/lang/String;" (.ref pf)) (F_uc : Fld Z hl o "coppice/marshal/context/NamespaceScope" "undoCount" "I" (.int sl.2.2.2)) (V_un : Arv Z hl un ku .int (16 : Int32) sl.2.1 (.int (0 : Int32))) (V_up : Arv Z hl up kp (.object "java/lang/String") (16 : Int32) upl .null) (V_pf : Arv Z hl pf kf (.object "java/lang/String") nz pfl .null) (L_up : own_SL Z hl upl sl.2.2.1) (L_pf : own_SL Z hl pfl sl.1) (F_p : own_S Z hl (.ref a) (some tp)) (S_c : Sta Z hl "java/lang/String" "COMPACT_STRINGS" "Z" (.int cw)) (hn : i.toInt + (n : Int) = nz.toInt) (hi0 : 0 ≤ i.toInt) (hub : 0 ≤ sl.2.2.2.toInt ∧ sl.2.2.2.toInt ≤ b0 + i.toInt) (husl : sl.2.1.length = 16) (hupl : upl.length = 16) (hpfl : pfl.length = nz.toNatClampNeg) (hres : own_dl tp ix n i sl = own_dl tp ix nz.toInt.toNat (0 : Int32) s0) (pre : ∀ τ, Steps p.tables e below (Tl.setTop (mkF m 2 #[.val (.ref o), .val (.int ix), .val (.ref a), .val (.int i)] [])) τ → G τ), GL := by
    intro n
    induction n with
    | zero =>
      intro i sl pfl upl Tl ll hl Xl el NNl K Zn E_o F_un F_up F_pf F_uc V_un V_up V_pf L_up L_pf F_p S_c hn hi0 hub husl hupl hpfl hres pre
      have pre : ∀ τ, Steps p.tables e below (Tl.setTop (mkF m 4 #[.val (.ref o), .val (.int ix), .val (.ref a), .val (.int i)] [(.ref o), (.int i)])) τ → G τ := fun τ κ => pre τ (by
        refine XS.iloadN Xl.here hx rfl (hb hby d11_2) rfl ?_
        show Steps p.tables e below (Tl.setTop (mkF m 3 #[.val (.ref o), .val (.int ix), .val (.ref a), .val (.int i)] [(.int i)])) τ
        refine XS.aloadN Xl.here hx rfl (hb hby d11_3) rfl rfl ?_
        show Steps p.tables e below (Tl.setTop (mkF m 4 #[.val (.ref o), .val (.int ix), .val (.ref a), .val (.int i)] [(.ref o), (.int i)])) τ
        exact κ)
      obtain ⟨T1, X1, e1, st1⟩ := getF Xl hx hZ hown (host := "") (Or.inl (hw _ (List.mem_of_getElem? (i := 16) rfl))) Via.refl el F_pf (g := (mkF m 4 #[.val (.ref o), .val (.int ix), .val (.ref a), .val (.int i)] [(.ref o), (.int i)])) rfl rfl (hb hby d11_4)
      have pre : ∀ τ, Steps p.tables e below (T1.setTop (mkF m 7 #[.val (.ref o), .val (.int ix), .val (.ref a), .val (.int i)] [(.ref pf), (.int i)])) τ → G τ := fun τ κ => pre τ (st1 τ κ)
      obtain ⟨c2, Ar2, -, S2, N2, -, -⟩ := id V_pf
      have pre : ∀ τ, Steps p.tables e below (T1.setTop (mkF m 8 #[.val (.ref o), .val (.int ix), .val (.ref a), .val (.int i)] [(.int nz), (.int i)])) τ → G τ := fun τ κ => pre τ (by
        refine X1.arraylength hx (by rw [e1]; exact Ar2.1) (State.isArrayOf_alike hZ.alike Ar2.2.1) (g := (mkF m 7 #[.val (.ref o), .val (.int ix), .val (.ref a), .val (.int i)] [(.ref pf), (.int i)])) rfl rfl (hb hby d11_7) _ ?_
        rw [len_of S2 N2]
        exact κ)
      have hc3 : ¬ (i < nz) := own_lz hn
      have pre : ∀ τ, Steps p.tables e below (T1.setTop (mkF m 44 #[.val (.ref o), .val (.int ix), .val (.ref a), .val (.int i)] [(.ref a), (.int ix), (.ref o)])) τ → G τ := fun τ κ => pre τ (by
        refine XS.icmpYes X1.here hx rfl (pc0 := 8) (pc' := 41) rfl (hb hby d11_8) rfl (flt hc3).2.1 (by decide) (by decide) ?_
        show Steps p.tables e below (T1.setTop (mkF m 41 #[.val (.ref o), .val (.int ix), .val (.ref a), .val (.int i)] [])) τ
        refine XS.aloadN X1.here hx rfl (hb hby d11_41) rfl rfl ?_
        show Steps p.tables e below (T1.setTop (mkF m 42 #[.val (.ref o), .val (.int ix), .val (.ref a), .val (.int i)] [(.ref o)])) τ
        refine XS.iloadN X1.here hx rfl (hb hby d11_42) rfl ?_
        show Steps p.tables e below (T1.setTop (mkF m 43 #[.val (.ref o), .val (.int ix), .val (.ref a), .val (.int i)] [(.int ix), (.ref o)])) τ
        refine XS.aloadN X1.here hx rfl (hb hby d11_43) rfl rfl ?_
        show Steps p.tables e below (T1.setTop (mkF m 44 #[.val (.ref o), .val (.int ix), .val (.ref a), .val (.int i)] [(.ref a), (.int ix), (.ref o)])) τ
        exact κ)
      obtain ⟨cq4, q4, q4'⟩ := E_o.cell
      obtain ⟨_, _, ⟨T4, Lx4, kx4, nx4⟩, -, X4, ⟨Lc4, hQ4, l4, y4, z4⟩, st4⟩ := X1.privateBack hx (y := (⟨"coppice/marshal/context/NamespaceScope", "bind", "(ILjava/lang/String;)V"⟩ : MethodName)) hown (mvT hZ (hw _ (List.mem_of_getElem? (i := 78) rfl))) (mvT hZ (hw _ (List.mem_of_getElem? (i := 79) rfl))) (own_selfp (y := (⟨"coppice/marshal/context/NamespaceScope", "bind", "(ILjava/lang/String;)V"⟩ : MethodName)) (mvT hZ (hw _ (List.mem_of_getElem? (i := 1) rfl))) (Cond.privateMethod_at (mvP hZ (hw _ (List.mem_of_getElem? (i := 80) rfl)) (args := #[]))) (mvT hZ (hw _ (List.mem_of_getElem? (i := 79) rfl))) (by decide)) (Cond.privateMethod_at (mvP hZ (hw _ (List.mem_of_getElem? (i := 80) rfl)) (args := #[]))) (mvT hZ (hw _ (List.mem_of_getElem? (i := 81) rfl))) (by decide) (backOf (W := 0) (rm14 l Z a0 hw [] o ix (.ref a) un up pf ku kp kf nz sl.2.2.2 sl.2.1 upl pfl sl.2.2.1 sl.1 (some tp) hl n0 Zn g_o g_un g_up g_pf E_o F_un F_up F_pf F_uc V_un V_up V_pf L_up L_pf O_up O_pf ne_o__un ne_o__up ne_o__pf ne_un__up ne_un__pf ne_up__pf F_p hk (own_ubz hb0 (own_arvn V_pf) hn hub) husl hupl hpfl) hZ (hw _ (List.mem_of_getElem? (i := 81) rfl)) (hw _ (List.mem_of_getElem? (i := 2) rfl)) (by decide) (by decide)) (g := (mkF m 44 #[.val (.ref o), .val (.int ix), .val (.ref a), .val (.int i)] [(.ref a), (.int ix), (.ref o)])) rfl (by rw [hml]; rfl) (Steps.refl _) (a := o) (by rw [e1]; exact q4) q4' (argsL := [(.int ix), (.ref a)]) (rest := []) (lenOf pd_1 rfl) rfl (by show 2 * 0 + _ ≤ _; exact Nat.le_of_eq rfl) (hb hby d11_44) (fun _ _ => ⟨rfl, e1, (by decide : 0 + 0 ≤ _), (by decide : 0 + 0 ≤ _)⟩)
      dsimp only [Pt.U, Pt.locs, Pt.cells, Pt.slots] at X4 l4 y4 z4 st4 hQ4
      replace y4 : kx4 = 0 := y4
      replace z4 : nx4 = 0 := z4
      subst y4 z4
      obtain ⟨rfl, Nq4, Kc4, E_o_4, F_un_4, F_up_4, F_pf_4, F_uc_4, V_un_4, V_up_4, V_pf_4, L_up_4, L_pf_4⟩ := hQ4
      have NN : Fr n0 Lx4 := by rw [l4]; exact Fr.app NNl Nq4
      have Nss : ∀ x ∈ [o, un, up, pf], own_ns Z hl x := (allS (own_nsE E_o (hw _ (List.mem_of_getElem? (i := 1) rfl)) (by decide) (by decide)) (allS (own_nsV V_un (by decide)) (allS (own_nsV V_up (by decide)) (allS (own_nsV V_pf (by decide)) all0))))
      have E_o : Exa Z T4.heap o "coppice/marshal/context/NamespaceScope" := E_o.keep Kc4
      have L_up : own_SL Z T4.heap upl sl.2.2.1 := own_SL_keep L_up Kc4 Nss
      have L_pf : own_SL Z T4.heap pfl sl.1 := own_SL_keep L_pf Kc4 Nss
      have F_p : own_S Z T4.heap (.ref a) (some tp) := own_S_keep F_p Kc4 Nss
      have S_c : Sta Z T4.heap "java/lang/String" "COMPACT_STRINGS" "Z" (.int cw) := own_sta_keepN S_c Kc4 Nss
      have Zn : n0 ≤ T4.heap.size := Nat.le_trans Zn Kc4.1
      have K : Keep h0 T4.heap [o, un, up, pf] := K.trans Kc4 (allS (Or.inl (List.mem_of_getElem? (i := 0) rfl)) (allS (Or.inl (List.mem_of_getElem? (i := 1) rfl)) (allS (Or.inl (List.mem_of_getElem? (i := 2) rfl)) (allS (Or.inl (List.mem_of_getElem? (i := 3) rfl)) all0))))
      have pre : ∀ τ, Steps p.tables e below (T4.setTop (mkF m 47 #[.val (.ref o), .val (.int ix), .val (.ref a), .val (.int i)] [])) τ → G τ := fun τ κ => pre τ (st4.trans κ)
      obtain ⟨fsα, hr, hrun, hended, hW, hsame⟩ := X4.leave (v := none) (fun _ => rfl)
      refine hGL ⟨_, _, hG _ (pre _ ?_), hrun, hended, _, _, rfl, ?_, ⟨_, rfl⟩, hW, hsame.mono (by decide) (by decide)⟩
      · exact X4.returnOut hx Bd.returns (hb hby d11_47) hr
      · show Q11 Z o ix a un up pf ku kp kf nz s0 ups pfs tp cw b0 h0 n0 _ T4.heap _
        have hQ : own_de tp ix nz s0 = own_bd sl ix (some tp) := by unfold own_de; rw [← hres]; rfl
        unfold Q11
        rw [hQ]
        exact ⟨_, _, rfl, NN, K, E_o_4, F_un_4, F_up_4, F_pf_4, F_uc_4, V_un_4, V_up_4, V_pf_4, L_up_4, L_pf_4, (by rw [List.length_set]; exact hupl), (by rw [List.length_set]; exact hpfl)⟩
    | succ n ih =>
      intro i sl pfl upl Tl ll hl Xl el NNl K Zn E_o F_un F_up F_pf F_uc V_un V_up V_pf L_up L_pf F_p S_c hn hi0 hub husl hupl hpfl hres pre
      have pre : ∀ τ, Steps p.tables e below (Tl.setTop (mkF m 4 #[.val (.ref o), .val (.int ix), .val (.ref a), .val (.int i)] [(.ref o), (.int i)])) τ → G τ := fun τ κ => pre τ (by
        refine XS.iloadN Xl.here hx rfl (hb hby d11_2) rfl ?_
        show Steps p.tables e below (Tl.setTop (mkF m 3 #[.val (.ref o), .val (.int ix), .val (.ref a), .val (.int i)] [(.int i)])) τ
        refine XS.aloadN Xl.here hx rfl (hb hby d11_3) rfl rfl ?_
        show Steps p.tables e below (Tl.setTop (mkF m 4 #[.val (.ref o), .val (.int ix), .val (.ref a), .val (.int i)] [(.ref o), (.int i)])) τ
        exact κ)
      obtain ⟨T5, X5, e5, st5⟩ := getF Xl hx hZ hown (host := "") (Or.inl (hw _ (List.mem_of_getElem? (i := 16) rfl))) Via.refl el F_pf (g := (mkF m 4 #[.val (.ref o), .val (.int ix), .val (.ref a), .val (.int i)] [(.ref o), (.int i)])) rfl rfl (hb hby d11_4)
      have pre : ∀ τ, Steps p.tables e below (T5.setTop (mkF m 7 #[.val (.ref o), .val (.int ix), .val (.ref a), .val (.int i)] [(.ref pf), (.int i)])) τ → G τ := fun τ κ => pre τ (st5 τ κ)
      obtain ⟨c6, Ar6, -, S6, N6, -, -⟩ := id V_pf
      have pre : ∀ τ, Steps p.tables e below (T5.setTop (mkF m 8 #[.val (.ref o), .val (.int ix), .val (.ref a), .val (.int i)] [(.int nz), (.int i)])) τ → G τ := fun τ κ => pre τ (by
        refine X5.arraylength hx (by rw [e5]; exact Ar6.1) (State.isArrayOf_alike hZ.alike Ar6.2.1) (g := (mkF m 7 #[.val (.ref o), .val (.int ix), .val (.ref a), .val (.int i)] [(.ref pf), (.int i)])) rfl rfl (hb hby d11_7) _ ?_
        rw [len_of S6 N6]
        exact κ)
      have hc7 : i < nz := own_ls hn
      have pre : ∀ τ, Steps p.tables e below (T5.setTop (mkF m 13 #[.val (.ref o), .val (.int ix), .val (.ref a), .val (.int i)] [(.int ix), (.int i)])) τ → G τ := fun τ κ => pre τ (by
        refine XS.icmpNo X5.here hx rfl (hb hby d11_8) rfl (tlt hc7).2.1 ?_
        show Steps p.tables e below (T5.setTop (mkF m 11 #[.val (.ref o), .val (.int ix), .val (.ref a), .val (.int i)] [])) τ
        refine XS.iloadN X5.here hx rfl (hb hby d11_11) rfl ?_
        show Steps p.tables e below (T5.setTop (mkF m 12 #[.val (.ref o), .val (.int ix), .val (.ref a), .val (.int i)] [(.int i)])) τ
        refine XS.iloadN X5.here hx rfl (hb hby d11_12) rfl ?_
        show Steps p.tables e below (T5.setTop (mkF m 13 #[.val (.ref o), .val (.int ix), .val (.ref a), .val (.int i)] [(.int ix), (.int i)])) τ
        exact κ)
      rcases Classical.em (i = ix) with hc13_8 | hc13_8
      ·
        have pre : ∀ τ, Steps p.tables e below (T5.setTop (mkF m 2 #[.val (.ref o), .val (.int ix), .val (.ref a), .val (.int (i + (1 : Int32)))] [])) τ → G τ := fun τ κ => pre τ (by
          refine XS.icmpYes X5.here hx rfl (pc0 := 13) (pc' := 35) rfl (hb hby d11_13) rfl (teq hc13_8).1 (by decide) (by decide) ?_
          show Steps p.tables e below (T5.setTop (mkF m 35 #[.val (.ref o), .val (.int ix), .val (.ref a), .val (.int i)] [])) τ
          refine XS.iinc X5.here hx rfl (hb hby d11_35) rfl (l' := #[.val (.ref o), .val (.int ix), .val (.ref a), .val (.int (i + (1 : Int32)))]) rfl ?_
          show Steps p.tables e below (T5.setTop (mkF m 38 #[.val (.ref o), .val (.int ix), .val (.ref a), .val (.int (i + (1 : Int32)))] [])) τ
          refine XS.goto X5.here hx rfl (pc0 := 38) (pc' := 2) rfl (hb hby d11_38) (by decide) (by decide) ?_
          show Steps p.tables e below (T5.setTop (mkF m 2 #[.val (.ref o), .val (.int ix), .val (.ref a), .val (.int (i + (1 : Int32)))] [])) τ
          exact κ)
        exact ih (i + (1 : Int32)) sl pfl upl T5 _ hl X5 e5 NNl K Zn E_o F_un F_up F_pf F_uc V_un V_up V_pf L_up L_pf F_p S_c (own_l1 hi0 hn) (own_l2 hi0 hn) (own_hub0 hi0 hn hub) husl hupl hpfl (hres ▸ own_dlF (fun q => q.1 hc13_8)) pre
      ·
        have pre : ∀ τ, Steps p.tables e below (T5.setTop (mkF m 18 #[.val (.ref o), .val (.int ix), .val (.ref a), .val (.int i)] [(.ref o), (.ref a)])) τ → G τ := fun τ κ => pre τ (by
          refine XS.icmpNo X5.here hx rfl (hb hby d11_13) rfl (feq hc13_8).1 ?_
          show Steps p.tables e below (T5.setTop (mkF m 16 #[.val (.ref o), .val (.int ix), .val (.ref a), .val (.int i)] [])) τ
          refine XS.aloadN X5.here hx rfl (hb hby d11_16) rfl rfl ?_
          show Steps p.tables e below (T5.setTop (mkF m 17 #[.val (.ref o), .val (.int ix), .val (.ref a), .val (.int i)] [(.ref a)])) τ
          refine XS.aloadN X5.here hx rfl (hb hby d11_17) rfl rfl ?_
          show Steps p.tables e below (T5.setTop (mkF m 18 #[.val (.ref o), .val (.int ix), .val (.ref a), .val (.int i)] [(.ref o), (.ref a)])) τ
          exact κ)
        obtain ⟨T9, X9, e9, st9⟩ := getF X5 hx hZ hown (host := "") (Or.inl (hw _ (List.mem_of_getElem? (i := 16) rfl))) Via.refl e5 F_pf (g := (mkF m 18 #[.val (.ref o), .val (.int ix), .val (.ref a), .val (.int i)] [(.ref o), (.ref a)])) rfl rfl (hb hby d11_18)
        have pre : ∀ τ, Steps p.tables e below (T9.setTop (mkF m 21 #[.val (.ref o), .val (.int ix), .val (.ref a), .val (.int i)] [(.ref pf), (.ref a)])) τ → G τ := fun τ κ => pre τ (st9 τ κ)
        have pre : ∀ τ, Steps p.tables e below (T9.setTop (mkF m 22 #[.val (.ref o), .val (.int ix), .val (.ref a), .val (.int i)] [(.int i), (.ref pf), (.ref a)])) τ → G τ := fun τ κ => pre τ (by
          refine XS.iloadN X9.here hx rfl (hb hby d11_21) rfl ?_
          show Steps p.tables e below (T9.setTop (mkF m 22 #[.val (.ref o), .val (.int ix), .val (.ref a), .val (.int i)] [(.int i), (.ref pf), (.ref a)])) τ
          exact κ)
        obtain ⟨c10, Ar10, q10, S10, Nz10, Hh10, Gg10⟩ := id V_pf
        have F_t : own_S Z hl (pfl.getD (i).toNatClampNeg .null) (sl.1.getD (i).toNatClampNeg none) := L_pf.2 _
        have hin10 : ¬ (i < 0 ∨ c10.slots.size ≤ (i).toNatClampNeg) := inb_of S10 (own_lb hi0 hn)
        have hat10 : c10.slots[(i).toNatClampNeg]? = some (pfl.getD (i).toNatClampNeg .null) := Hh10.at hin10 rfl
        have pre : ∀ τ, Steps p.tables e below (T9.setTop (mkF m 23 #[.val (.ref o), .val (.int ix), .val (.ref a), .val (.int i)] [(pfl.getD (i).toNatClampNeg .null), (.ref a)])) τ → G τ := fun τ κ => pre τ (X9.aaload hx (j := i) (v := (pfl.getD (i).toNatClampNeg .null)) (by rw [e9]; exact Ar10.1) (State.isArrayOf_alike hZ.alike Ar10.2.1) rfl Ar10.2.2 hin10 hat10 (g := (mkF m 22 #[.val (.ref o), .val (.int ix), .val (.ref a), .val (.int i)] [(.int i), (.ref pf), (.ref a)])) rfl rfl (hb hby d11_22) _ κ)
        obtain ⟨cq11, kq11, q11a, q11b, q11c⟩ := isOf hZ e9 (own_S_exa F_p)
        obtain ⟨_, _, ⟨T11, Lx11, kx11, nx11⟩, -, X11, ⟨Lc11, hQ11, l11, y11, z11⟩, st11⟩ := X9.virtualBack hx (y := (⟨"java/lang/String", "equals", "(Ljava/lang/Object;)Z"⟩ : MethodName)) (z := (⟨"java/lang/String", "equals", "(Ljava/lang/Object;)Z"⟩ : MethodName)) hown (mvT hZ (hw _ (List.mem_of_getElem? (i := 70) rfl))) (mvT hZ (hw _ (List.mem_of_getElem? (i := 71) rfl))) (notFace_of_selects (args := #[]) (mvT hZ (hw _ (List.mem_of_getElem? (i := 73) rfl)))) (mvT hZ (hw _ (List.mem_of_getElem? (i := 73) rfl))) (mvT hZ (hw _ (List.mem_of_getElem? (i := 72) rfl))) (by decide) (backOf (W := 0) (rm12 l Z a0 hw [] a (pfl.getD (i).toNatClampNeg .null) tp (sl.1.getD (i).toNatClampNeg none) cw hl n0 Zn F_p F_t S_c hcw) hZ (hw _ (List.mem_of_getElem? (i := 74) rfl)) (hw _ (List.mem_of_getElem? (i := 28) rfl)) (by decide) (by decide)) q11a q11c (g := (mkF m 23 #[.val (.ref o), .val (.int ix), .val (.ref a), .val (.int i)] [(pfl.getD (i).toNatClampNeg .null), (.ref a)])) rfl (by rw [hml]; rfl) (Steps.refl _) (argsL := [(pfl.getD (i).toNatClampNeg .null)]) (rest := []) (lenOf pd_2 rfl) rfl (by show 2 * 0 + _ ≤ _; exact Nat.le_of_eq rfl) (hb hby d11_23) (fun _ _ => ⟨rfl, e9, (by decide : 0 + 0 ≤ _), (by decide : 0 + 0 ≤ _)⟩)
        dsimp only [Pt.U, Pt.locs, Pt.cells, Pt.slots] at X11 l11 y11 z11 st11 hQ11
        replace y11 : kx11 = 0 := y11
        replace z11 : nx11 = 0 := z11
        subst y11 z11
        obtain ⟨rfl, Nq11, hs11⟩ := hQ11
        have NN : Fr n0 Lx11 := by rw [l11]; exact Fr.app NNl Nq11
        have pre : ∀ τ, Steps p.tables e below (T11.setTop (mkF m 26 #[.val (.ref o), .val (.int ix), .val (.ref a), .val (.int i)] [(.int (own_eqt tp (sl.1.getD (i).toNatClampNeg none)))])) τ → G τ := fun τ κ => pre τ (st11.trans κ)
        rcases Classical.em ((own_eqt tp (sl.1.getD (i).toNatClampNeg none)) = (0 : Int32)) with hc26_12 | hc26_12
        ·
          have pre : ∀ τ, Steps p.tables e below (T11.setTop (mkF m 2 #[.val (.ref o), .val (.int ix), .val (.ref a), .val (.int (i + (1 : Int32)))] [])) τ → G τ := fun τ κ => pre τ (by
            refine XS.ifYes X11.here hx rfl (pc0 := 26) (pc' := 35) rfl (hb hby d11_26) rfl ((if0 _ _).trans (teq hc26_12).1) (by decide) (by decide) ?_
            show Steps p.tables e below (T11.setTop (mkF m 35 #[.val (.ref o), .val (.int ix), .val (.ref a), .val (.int i)] [])) τ
            refine XS.iinc X11.here hx rfl (hb hby d11_35) rfl (l' := #[.val (.ref o), .val (.int ix), .val (.ref a), .val (.int (i + (1 : Int32)))]) rfl ?_
            show Steps p.tables e below (T11.setTop (mkF m 38 #[.val (.ref o), .val (.int ix), .val (.ref a), .val (.int (i + (1 : Int32)))] [])) τ
            refine XS.goto X11.here hx rfl (pc0 := 38) (pc' := 2) rfl (hb hby d11_38) (by decide) (by decide) ?_
            show Steps p.tables e below (T11.setTop (mkF m 2 #[.val (.ref o), .val (.int ix), .val (.ref a), .val (.int (i + (1 : Int32)))] [])) τ
            exact κ)
          exact ih (i + (1 : Int32)) sl pfl upl T11 _ hl X11 hs11 NN K Zn E_o F_un F_up F_pf F_uc V_un V_up V_pf L_up L_pf F_p S_c (own_l1 hi0 hn) (own_l2 hi0 hn) (own_hub0 hi0 hn hub) husl hupl hpfl (hres ▸ own_dlF (fun q => q.2 hc26_12)) pre
        ·
          have pre : ∀ τ, Steps p.tables e below (T11.setTop (mkF m 32 #[.val (.ref o), .val (.int ix), .val (.ref a), .val (.int i)] [.null, (.int i), (.ref o)])) τ → G τ := fun τ κ => pre τ (by
            refine XS.ifNo X11.here hx rfl (hb hby d11_26) rfl ((if0 _ _).trans (feq hc26_12).1) ?_
            show Steps p.tables e below (T11.setTop (mkF m 29 #[.val (.ref o), .val (.int ix), .val (.ref a), .val (.int i)] [])) τ
            refine XS.aloadN X11.here hx rfl (hb hby d11_29) rfl rfl ?_
            show Steps p.tables e below (T11.setTop (mkF m 30 #[.val (.ref o), .val (.int ix), .val (.ref a), .val (.int i)] [(.ref o)])) τ
            refine XS.iloadN X11.here hx rfl (hb hby d11_30) rfl ?_
            show Steps p.tables e below (T11.setTop (mkF m 31 #[.val (.ref o), .val (.int ix), .val (.ref a), .val (.int i)] [(.int i), (.ref o)])) τ
            refine XS.aconstNull X11.here hx rfl (hb hby d11_31) ?_
            show Steps p.tables e below (T11.setTop (mkF m 32 #[.val (.ref o), .val (.int ix), .val (.ref a), .val (.int i)] [.null, (.int i), (.ref o)])) τ
            exact κ)
          obtain ⟨cq13, q13, q13'⟩ := E_o.cell
          obtain ⟨_, _, ⟨T13, Lx13, kx13, nx13⟩, -, X13, ⟨Lc13, hQ13, l13, y13, z13⟩, st13⟩ := X11.privateBack hx (y := (⟨"coppice/marshal/context/NamespaceScope", "bind", "(ILjava/lang/String;)V"⟩ : MethodName)) hown (mvT hZ (hw _ (List.mem_of_getElem? (i := 78) rfl))) (mvT hZ (hw _ (List.mem_of_getElem? (i := 79) rfl))) (own_selfp (y := (⟨"coppice/marshal/context/NamespaceScope", "bind", "(ILjava/lang/String;)V"⟩ : MethodName)) (mvT hZ (hw _ (List.mem_of_getElem? (i := 1) rfl))) (Cond.privateMethod_at (mvP hZ (hw _ (List.mem_of_getElem? (i := 80) rfl)) (args := #[]))) (mvT hZ (hw _ (List.mem_of_getElem? (i := 79) rfl))) (by decide)) (Cond.privateMethod_at (mvP hZ (hw _ (List.mem_of_getElem? (i := 80) rfl)) (args := #[]))) (mvT hZ (hw _ (List.mem_of_getElem? (i := 81) rfl))) (by decide) (backOf (W := 0) (rm14 l Z a0 hw [] o i .null un up pf ku kp kf nz sl.2.2.2 sl.2.1 upl pfl sl.2.2.1 sl.1 none hl n0 Zn g_o g_un g_up g_pf E_o F_un F_up F_pf F_uc V_un V_up V_pf L_up L_pf O_up O_pf ne_o__un ne_o__up ne_o__pf ne_un__up ne_un__pf ne_up__pf (Or.inl ⟨rfl, rfl⟩) (own_lb hi0 hn) (own_ub hb0 hi0 hn hub) husl hupl hpfl) hZ (hw _ (List.mem_of_getElem? (i := 81) rfl)) (hw _ (List.mem_of_getElem? (i := 2) rfl)) (by decide) (by decide)) (g := (mkF m 32 #[.val (.ref o), .val (.int ix), .val (.ref a), .val (.int i)] [.null, (.int i), (.ref o)])) rfl (by rw [hml]; rfl) (Steps.refl _) (a := o) (by rw [hs11]; exact q13) q13' (argsL := [(.int i), .null]) (rest := []) (lenOf pd_1 rfl) rfl (by show 2 * 0 + _ ≤ _; exact Nat.le_of_eq rfl) (hb hby d11_32) (fun _ _ => ⟨rfl, hs11, (by decide : 0 + 0 ≤ _), (by decide : 0 + 0 ≤ _)⟩)
          dsimp only [Pt.U, Pt.locs, Pt.cells, Pt.slots] at X13 l13 y13 z13 st13 hQ13
          replace y13 : kx13 = 0 := y13
          replace z13 : nx13 = 0 := z13
          subst y13 z13
          obtain ⟨rfl, Nq13, Kc13, E_o_13, F_un_13, F_up_13, F_pf_13, F_uc_13, V_un_13, V_up_13, V_pf_13, L_up_13, L_pf_13⟩ := hQ13
          have NN : Fr n0 Lx13 := by rw [l13]; exact Fr.app NN Nq13
          have Nss : ∀ x ∈ [o, un, up, pf], own_ns Z hl x := (allS (own_nsE E_o (hw _ (List.mem_of_getElem? (i := 1) rfl)) (by decide) (by decide)) (allS (own_nsV V_un (by decide)) (allS (own_nsV V_up (by decide)) (allS (own_nsV V_pf (by decide)) all0))))
          have E_o : Exa Z T13.heap o "coppice/marshal/context/NamespaceScope" := E_o.keep Kc13
          have L_up : own_SL Z T13.heap upl sl.2.2.1 := own_SL_keep L_up Kc13 Nss
          have L_pf : own_SL Z T13.heap pfl sl.1 := own_SL_keep L_pf Kc13 Nss
          have F_p : own_S Z T13.heap (.ref a) (some tp) := own_S_keep F_p Kc13 Nss
          have S_c : Sta Z T13.heap "java/lang/String" "COMPACT_STRINGS" "Z" (.int cw) := own_sta_keepN S_c Kc13 Nss
          have F_t : own_S Z T13.heap (pfl.getD (i).toNatClampNeg .null) (sl.1.getD (i).toNatClampNeg none) := own_S_keep F_t Kc13 Nss
          have Zn : n0 ≤ T13.heap.size := Nat.le_trans Zn Kc13.1
          have K : Keep h0 T13.heap [o, un, up, pf] := K.trans Kc13 (allS (Or.inl (List.mem_of_getElem? (i := 0) rfl)) (allS (Or.inl (List.mem_of_getElem? (i := 1) rfl)) (allS (Or.inl (List.mem_of_getElem? (i := 2) rfl)) (allS (Or.inl (List.mem_of_getElem? (i := 3) rfl)) all0))))
          have pre : ∀ τ, Steps p.tables e below (T13.setTop (mkF m 35 #[.val (.ref o), .val (.int ix), .val (.ref a), .val (.int i)] [])) τ → G τ := fun τ κ => pre τ (st13.trans κ)
          have E_o := E_o_13
          have F_un := F_un_13
          have F_up := F_up_13
          have F_pf := F_pf_13
          have F_uc := F_uc_13
          have V_un := V_un_13
          have V_up := V_up_13
          have V_pf := V_pf_13
          have L_up := L_up_13
          have L_pf := L_pf_13
          have pre : ∀ τ, Steps p.tables e below (T13.setTop (mkF m 2 #[.val (.ref o), .val (.int ix), .val (.ref a), .val (.int (i + (1 : Int32)))] [])) τ → G τ := fun τ κ => pre τ (by
            refine XS.iinc X13.here hx rfl (hb hby d11_35) rfl (l' := #[.val (.ref o), .val (.int ix), .val (.ref a), .val (.int (i + (1 : Int32)))]) rfl ?_
            show Steps p.tables e below (T13.setTop (mkF m 38 #[.val (.ref o), .val (.int ix), .val (.ref a), .val (.int (i + (1 : Int32)))] [])) τ
            refine XS.goto X13.here hx rfl (pc0 := 38) (pc' := 2) rfl (hb hby d11_38) (by decide) (by decide) ?_
            show Steps p.tables e below (T13.setTop (mkF m 2 #[.val (.ref o), .val (.int ix), .val (.ref a), .val (.int (i + (1 : Int32)))] [])) τ
            exact κ)
          exact ih (i + (1 : Int32)) (own_bd sl i none) (pfl.set (i).toNatClampNeg .null) (upl.set (sl.2.2.2).toNatClampNeg (pfl.getD (i).toNatClampNeg .null)) T13 _ T13.heap X13 rfl NN K Zn E_o F_un F_up F_pf F_uc V_un V_up V_pf L_up L_pf F_p S_c (own_l1 hi0 hn) (own_l2 hi0 hn) (own_hub hb0 hi0 hn hub) (by show (sl.2.1.set _ _).length = 16; rw [List.length_set]; exact husl) (by rw [List.length_set]; exact hupl) (by rw [List.length_set]; exact hpfl) (hres ▸ own_dlT hc13_8 hc26_12) pre
  exact loop nz.toInt.toNat (0 : Int32) s0 pfs ups s₁ _ h0 X0 e0 N0 K Zn E_o F_un F_up F_pf F_uc V_un V_up V_pf L_up L_pf F_p S_c (own_l0 (own_arvn V_pf)) (by decide) (own_hub00 huc) hus hups hpfs rfl pre
theorem pn_4 : plainName "coppice/marshal/context/NamespaceScopeResetPinLaw" = true := by first | (simp [plainName, overriddenIn]; done) | decide +kernel
theorem d5_0 : decode method_2_code 0 = .ok (.iload_n 0, 1) := by decide +kernel
theorem d5_1 : decode method_2_code 1 = .ok (.ldc 7, 2) := by decide +kernel
theorem d5_3 : decode method_2_code 3 = .ok (.iand, 1) := by decide +kernel
theorem d5_4 : decode method_2_code 4 = .ok (.iload_n 1, 1) := by decide +kernel
theorem d5_5 : decode method_2_code 5 = .ok (.irem, 1) := by decide +kernel
theorem d5_6 : decode method_2_code 6 = .ok (.ireturn, 1) := by decide +kernel
theorem ef_5 (m : MethodId) (x0 : Int32) (x1 : Int32) : entryFrame m #[(.int x0), (.int x1)] 2 = mkF m 0 #[.val (.int x0), .val (.int x1)] [] := by first | (simp [entryFrame, mkF, argsToLocals, Value.category]; done) | rfl
def Q5 (Z : State) (nn : Int32) (mm : Int32) (h0 : Heap) (n0 : Nat) (vα : Option Value) (hα : Heap) (Lα : List Loc) : Prop := vα = some (.int ((nn &&& (2147483647 : Int32)) % mm)) ∧ Fr n0 Lα ∧ hα = h0
set_option maxRecDepth 65536 in
set_option maxHeartbeats 40000000 in
theorem rm5 (l : Launch) (Z : State) (a0 : Array Value) (hw : ∀ d ∈ tables_1, d.before a0 Z = true) (ws : List Jvm.Cond) (nn : Int32) (mm : Int32) (h0 : Heap) (n0 : Nat) (Z0 : n0 ≤ h0.size) (hm : ¬ mm = (0 : Int32)) :
    MetFree l (⟨"coppice/marshal/context/NamespaceScopeResetPinLaw", "idx", "(II)I"⟩ : MethodName) (head1 (Jvm.Cond.code (⟨"coppice/marshal/context/NamespaceScopeResetPinLaw", "idx", "(II)I"⟩ : MethodName) method_2_code 2 (some .int) :: ws) ({ frames := 0, cells := 0, slots := 0, locals := 0 } : Room)) (fun aα U => aα = #[(.int nn), (.int mm)] ∧ Z.Warmed39 U.vm ∧ U.heap = h0) (fun _ _ _ _ _ => True) (fun _ U oα U' => ∃ vα Lα, oα = .returned vα ∧ Q5 Z nn mm h0 n0 vα U'.heap Lα ∧ FrameEnd U oα U' Lα ({ frames := 0, cells := 0, slots := 0, locals := 0 } : Room).cells ({ frames := 0, cells := 0, slots := 0, locals := 0 } : Room).slots) := by
  refine MetFree.of_bodySF (plainFor_of_name pn_4) hisR ?_
  intro p e s m args below meth c s₁ Bd hml0 hP hK
  refine own_wrap ?_
  intro GL hGL
  obtain ⟨rfl, hZ, hh⟩ := hP
  have hx := Bd.exec
  have hby := Bd.bytes
  have hml : c.maxLocals = 2 := hml0
  have hown : s.vm.findClass "coppice/marshal/context/NamespaceScopeResetPinLaw" = some m.cls := findClass_of_methodNamed Bd.named
  have hnm := (name_of_methodNamed Bd.named Bd.method).1
  have X0 : Stand p l e ({ frames := 0, cells := 0, slots := 0, locals := 0 } : Room) s m #[(.int nn), (.int mm)] below meth c s₁ [] 0 0 := Stand.of_body Bd
  have e0 : s₁.heap = h0 := by rw [← hh, Bd.state]; rfl
  have N0 := Fr.nil n0
  have pre0 : ∀ τ, Steps p.tables e below (s₁.setTop (mkF m 0 #[.val (.int nn), .val (.int mm)] [])) τ → Steps p.tables e below (s₁.setTop (entryFrame m #[(.int nn), (.int mm)] 2)) τ := fun τ κ => castTop (ef_5 m nn mm) κ
  obtain ⟨G, hG, pre⟩ : ∃ G : State → Prop, (∀ τ, G τ → Steps p.tables e below (s₁.setTop (entryFrame m #[(.int nn), (.int mm)] 2)) τ) ∧ ∀ τ, Steps p.tables e below (s₁.setTop (mkF m 0 #[.val (.int nn), .val (.int mm)] [])) τ → G τ := ⟨_, pre0, fun _ k => k⟩
  have K : Keep h0 h0 [] := Keep.refl h0 _
  have Zn := Z0
  have pre : ∀ τ, Steps p.tables e below (s₁.setTop (mkF m 6 #[.val (.int nn), .val (.int mm)] [(.int ((nn &&& (2147483647 : Int32)) % mm))])) τ → G τ := fun τ κ => pre τ (by
    refine XS.iloadN X0.here hx rfl (hb hby d5_0) rfl ?_
    show Steps p.tables e below (s₁.setTop (mkF m 1 #[.val (.int nn), .val (.int mm)] [(.int nn)])) τ
    refine X0.ldcInt hx hown (mvT hZ (hw _ (List.mem_of_getElem? (i := 43) rfl))) (g := (mkF m 1 #[.val (.int nn), .val (.int mm)] [(.int nn)])) rfl (hb hby d5_1) _ ?_
    show Steps p.tables e below (s₁.setTop (mkF m 3 #[.val (.int nn), .val (.int mm)] [(.int (2147483647 : Int32)), (.int nn)])) τ
    refine XS.iand X0.here hx rfl (hb hby d5_3) rfl ?_
    show Steps p.tables e below (s₁.setTop (mkF m 4 #[.val (.int nn), .val (.int mm)] [(.int (nn &&& (2147483647 : Int32)))])) τ
    refine XS.iloadN X0.here hx rfl (hb hby d5_4) rfl ?_
    show Steps p.tables e below (s₁.setTop (mkF m 5 #[.val (.int nn), .val (.int mm)] [(.int mm), (.int (nn &&& (2147483647 : Int32)))])) τ
    refine iremM X0 hx rfl (hb hby d5_5) rfl hm ?_
    show Steps p.tables e below (s₁.setTop (mkF m 6 #[.val (.int nn), .val (.int mm)] [(.int ((nn &&& (2147483647 : Int32)) % mm))])) τ
    exact κ)
  obtain ⟨fsα, hr, hrun, hended, hW, hsame⟩ := X0.leave (v := some (.int ((nn &&& (2147483647 : Int32)) % mm))) (fun h => by rw [Bd.returns] at h; cases h)
  refine hGL ⟨_, _, hG _ (pre _ ?_), hrun, hended, _, _, rfl, ?_, ⟨_, rfl⟩, hW, hsame.mono (by decide) (by decide)⟩
  · exact retOut X0 hx Bd.returns rfl (Or.inl ⟨rfl, Or.inl rfl, _, rfl⟩) (hb hby d5_6) hr
  · show Q5 Z nn mm h0 n0 _ s₁.heap _
    rw [e0]
    exact ⟨rfl, N0, rfl⟩
theorem d8_0 : decode jdk_43_method_3_code 0 = .ok (.iload_n 0, 1) := by decide +kernel
theorem d8_1 : decode jdk_43_method_3_code 1 = .ok (.sipush 255, 3) := by decide +kernel
theorem d8_4 : decode jdk_43_method_3_code 4 = .ok (.if_icmp .gt 7, 3) := by decide +kernel
theorem d8_7 : decode jdk_43_method_3_code 7 = .ok (.iconst 1, 1) := by decide +kernel
theorem d8_8 : decode jdk_43_method_3_code 8 = .ok (.goto 4, 3) := by decide +kernel
theorem d8_12 : decode jdk_43_method_3_code 12 = .ok (.ireturn, 1) := by decide +kernel
theorem ef_8 (m : MethodId) (x0 : Int32) : entryFrame m #[(.int x0)] 1 = mkF m 0 #[.val (.int x0)] [] := by first | (simp [entryFrame, mkF, argsToLocals, Value.category]; done) | rfl
def Q8 (Z : State) (cc : Int32) (h0 : Heap) (n0 : Nat) (vα : Option Value) (hα : Heap) (Lα : List Loc) : Prop := vα = some (.int (1 : Int32)) ∧ Fr n0 Lα ∧ hα = h0
set_option maxRecDepth 65536 in
set_option maxHeartbeats 40000000 in
theorem rm8 (l : Launch) (Z : State) (a0 : Array Value) (hw : ∀ d ∈ tables_1, d.before a0 Z = true) (ws : List Jvm.Cond) (cc : Int32) (h0 : Heap) (n0 : Nat) (Z0 : n0 ≤ h0.size) (hcc : ¬ (255 : Int32) < cc) :
    MetFree l (⟨"java/lang/StringLatin1", "canEncode", "(C)Z"⟩ : MethodName) (head1 (Jvm.Cond.code (⟨"java/lang/StringLatin1", "canEncode", "(C)Z"⟩ : MethodName) jdk_43_method_3_code 1 (some .boolean) :: ws) ({ frames := 0, cells := 0, slots := 0, locals := 0 } : Room)) (fun aα U => aα = #[(.int cc)] ∧ Z.Warmed39 U.vm ∧ U.heap = h0) (fun _ _ _ _ _ => True) (fun _ U oα U' => ∃ vα Lα, oα = .returned vα ∧ Q8 Z cc h0 n0 vα U'.heap Lα ∧ FrameEnd U oα U' Lα ({ frames := 0, cells := 0, slots := 0, locals := 0 } : Room).cells ({ frames := 0, cells := 0, slots := 0, locals := 0 } : Room).slots) := by
  refine MetFree.of_bodySF (plainFor_of_name pn_0) hisR ?_
  intro p e s m args below meth c s₁ Bd hml0 hP hK
  refine own_wrap ?_
  intro GL hGL
  obtain ⟨rfl, hZ, hh⟩ := hP
  have hx := Bd.exec
  have hby := Bd.bytes
  have hml : c.maxLocals = 1 := hml0
  have hown : s.vm.findClass "java/lang/StringLatin1" = some m.cls := findClass_of_methodNamed Bd.named
  have hnm := (name_of_methodNamed Bd.named Bd.method).1
  have X0 : Stand p l e ({ frames := 0, cells := 0, slots := 0, locals := 0 } : Room) s m #[(.int cc)] below meth c s₁ [] 0 0 := Stand.of_body Bd
  have e0 : s₁.heap = h0 := by rw [← hh, Bd.state]; rfl
  have N0 := Fr.nil n0
  have pre0 : ∀ τ, Steps p.tables e below (s₁.setTop (mkF m 0 #[.val (.int cc)] [])) τ → Steps p.tables e below (s₁.setTop (entryFrame m #[(.int cc)] 1)) τ := fun τ κ => castTop (ef_8 m cc) κ
  obtain ⟨G, hG, pre⟩ : ∃ G : State → Prop, (∀ τ, G τ → Steps p.tables e below (s₁.setTop (entryFrame m #[(.int cc)] 1)) τ) ∧ ∀ τ, Steps p.tables e below (s₁.setTop (mkF m 0 #[.val (.int cc)] [])) τ → G τ := ⟨_, pre0, fun _ k => k⟩
  have K : Keep h0 h0 [] := Keep.refl h0 _
  have Zn := Z0
  have pre : ∀ τ, Steps p.tables e below (s₁.setTop (mkF m 4 #[.val (.int cc)] [(.int (255 : Int32)), (.int cc)])) τ → G τ := fun τ κ => pre τ (by
    refine XS.iloadN X0.here hx rfl (hb hby d8_0) rfl ?_
    show Steps p.tables e below (s₁.setTop (mkF m 1 #[.val (.int cc)] [(.int cc)])) τ
    refine XS.sipush X0.here hx rfl (hb hby d8_1) ?_
    show Steps p.tables e below (s₁.setTop (mkF m 4 #[.val (.int cc)] [(.int (255 : Int32)), (.int cc)])) τ
    exact κ)
  have hc1 : ¬ ((255 : Int32) < cc) := hcc
  have pre : ∀ τ, Steps p.tables e below (s₁.setTop (mkF m 12 #[.val (.int cc)] [(.int (1 : Int32))])) τ → G τ := fun τ κ => pre τ (by
    refine XS.icmpNo X0.here hx rfl (hb hby d8_4) rfl (flt hc1).2.2.1 ?_
    show Steps p.tables e below (s₁.setTop (mkF m 7 #[.val (.int cc)] [])) τ
    refine XS.iconst X0.here hx rfl (hb hby d8_7) ?_
    show Steps p.tables e below (s₁.setTop (mkF m 8 #[.val (.int cc)] [(.int (1 : Int32))])) τ
    refine XS.goto X0.here hx rfl (pc0 := 8) (pc' := 12) rfl (hb hby d8_8) (by decide) (by decide) ?_
    show Steps p.tables e below (s₁.setTop (mkF m 12 #[.val (.int cc)] [(.int (1 : Int32))])) τ
    exact κ)
  obtain ⟨fsα, hr, hrun, hended, hW, hsame⟩ := X0.leave (v := some (.int (1 : Int32))) (fun h => by rw [Bd.returns] at h; cases h)
  refine hGL ⟨_, _, hG _ (pre _ ?_), hrun, hended, _, _, rfl, ?_, ⟨_, rfl⟩, hW, hsame.mono (by decide) (by decide)⟩
  · exact retN X0 hx (t := .boolean) Bd.returns (by simp) (hb hby d8_12) hr
  · show Q8 Z cc h0 n0 _ s₁.heap _
    rw [e0]
    exact ⟨rfl, N0, rfl⟩
theorem d9_0 : decode jdk_43_method_46_code 0 = .ok (.iconst 1, 1) := by decide +kernel
theorem d9_1 : decode jdk_43_method_46_code 1 = .ok (.newarray .byte, 2) := by decide +kernel
theorem d9_3 : decode jdk_43_method_46_code 3 = .ok (.dup, 1) := by decide +kernel
theorem d9_4 : decode jdk_43_method_46_code 4 = .ok (.iconst 0, 1) := by decide +kernel
theorem d9_5 : decode jdk_43_method_46_code 5 = .ok (.iload_n 0, 1) := by decide +kernel
theorem d9_6 : decode jdk_43_method_46_code 6 = .ok (.i2b, 1) := by decide +kernel
theorem d9_7 : decode jdk_43_method_46_code 7 = .ok (.bastore, 1) := by decide +kernel
theorem d9_8 : decode jdk_43_method_46_code 8 = .ok (.areturn, 1) := by decide +kernel
theorem ef_9 (m : MethodId) (x0 : Int32) : entryFrame m #[(.int x0)] 1 = mkF m 0 #[.val (.int x0)] [] := by first | (simp [entryFrame, mkF, argsToLocals, Value.category]; done) | rfl
def Q9 (Z : State) (cc : Int32) (h0 : Heap) (n0 : Nat) (vα : Option Value) (hα : Heap) (Lα : List Loc) : Prop := ∃ (r : Addr) (kr : ClassId) (tr : List Value), vα = some (.ref r) ∧ Fr n0 Lα ∧ Keep h0 hα [] ∧ n0 ≤ r ∧ h0.size ≤ r ∧ Arv Z hα r kr .byte (1 : Int32) tr (.int (0 : Int32)) ∧ tr.length = 1
set_option maxRecDepth 65536 in
set_option maxHeartbeats 40000000 in
theorem rm9 (l : Launch) (Z : State) (a0 : Array Value) (hw : ∀ d ∈ tables_1, d.before a0 Z = true) (ws : List Jvm.Cond) (cc : Int32) (h0 : Heap) (n0 : Nat) (Z0 : n0 ≤ h0.size) :
    MetFree l (⟨"java/lang/StringLatin1", "toBytes", "(C)[B"⟩ : MethodName) (head1 (Jvm.Cond.code (⟨"java/lang/StringLatin1", "toBytes", "(C)[B"⟩ : MethodName) jdk_43_method_46_code 1 (some (.array .byte)) :: ws) ({ frames := 0, cells := 1, slots := 1, locals := 0 } : Room)) (fun aα U => aα = #[(.int cc)] ∧ Z.Warmed39 U.vm ∧ U.heap = h0) (fun _ _ _ _ _ => True) (fun _ U oα U' => ∃ vα Lα, oα = .returned vα ∧ Q9 Z cc h0 n0 vα U'.heap Lα ∧ FrameEnd U oα U' Lα ({ frames := 0, cells := 1, slots := 1, locals := 0 } : Room).cells ({ frames := 0, cells := 1, slots := 1, locals := 0 } : Room).slots) := by
  refine MetFree.of_bodySF (plainFor_of_name pn_0) hisR ?_
  intro p e s m args below meth c s₁ Bd hml0 hP hK
  refine own_wrap ?_
  intro GL hGL
  obtain ⟨rfl, hZ, hh⟩ := hP
  have hx := Bd.exec
  have hby := Bd.bytes
  have hml : c.maxLocals = 1 := hml0
  have hown : s.vm.findClass "java/lang/StringLatin1" = some m.cls := findClass_of_methodNamed Bd.named
  have hnm := (name_of_methodNamed Bd.named Bd.method).1
  have X0 : Stand p l e ({ frames := 0, cells := 1, slots := 1, locals := 0 } : Room) s m #[(.int cc)] below meth c s₁ [] 0 0 := Stand.of_body Bd
  have e0 : s₁.heap = h0 := by rw [← hh, Bd.state]; rfl
  have N0 := Fr.nil n0
  have pre0 : ∀ τ, Steps p.tables e below (s₁.setTop (mkF m 0 #[.val (.int cc)] [])) τ → Steps p.tables e below (s₁.setTop (entryFrame m #[(.int cc)] 1)) τ := fun τ κ => castTop (ef_9 m cc) κ
  obtain ⟨G, hG, pre⟩ : ∃ G : State → Prop, (∀ τ, G τ → Steps p.tables e below (s₁.setTop (entryFrame m #[(.int cc)] 1)) τ) ∧ ∀ τ, Steps p.tables e below (s₁.setTop (mkF m 0 #[.val (.int cc)] [])) τ → G τ := ⟨_, pre0, fun _ k => k⟩
  have K : Keep h0 h0 [] := Keep.refl h0 _
  have Zn := Z0
  have pre : ∀ τ, Steps p.tables e below (s₁.setTop (mkF m 1 #[.val (.int cc)] [(.int (1 : Int32))])) τ → G τ := fun τ κ => pre τ (by
    refine XS.iconst X0.here hx rfl (hb hby d9_0) ?_
    show Steps p.tables e below (s₁.setTop (mkF m 1 #[.val (.int cc)] [(.int (1 : Int32))])) τ
    exact κ)
  obtain ⟨T1, h1, k1, X1, e1, E1, A1, st1⟩ := newP X0 hx hZ (hw _ (List.mem_of_getElem? (i := 30) rfl)) e0 (g := (mkF m 1 #[.val (.int cc)] [(.int (1 : Int32))])) rfl (hb hby d9_1) rfl (by decide) (cap := 1) (by decide) (by decide) (by decide) (by decide)
  obtain ⟨b1, gg1⟩ : ∃ z, z = h0.size := ⟨_, rfl⟩
  rw [← gg1] at A1 st1
  have g_b1 : n0 ≤ b1 := Nat.le_trans Zn (Nat.le_of_eq gg1.symm)
  have sz_b1 : h0.size ≤ b1 := Nat.le_trans K.1 (Nat.le_of_eq gg1.symm)
  have Zn : n0 ≤ h1.size := Nat.le_trans Zn E1.1
  have K : Keep h0 h1 [] := K.ext E1
  have V_b1 : Arv Z h1 b1 k1 .byte (1 : Int32) [(.int (0 : Int32))] (.int (0 : Int32)) := (Arv.new A1 (by decide)).pad (pad_rep [] (.int (0 : Int32)) 1)
  have pre : ∀ τ, Steps p.tables e below (T1.setTop (mkF m 3 #[.val (.int cc)] [(.ref b1)])) τ → G τ := fun τ κ => pre τ (st1 τ κ)
  have pre : ∀ τ, Steps p.tables e below (T1.setTop (mkF m 7 #[.val (.int cc)] [(.int (cc.toInt8.toInt32)), (.int (0 : Int32)), (.ref b1), (.ref b1)])) τ → G τ := fun τ κ => pre τ (by
    refine XS.dup X1.here hx rfl (hb hby d9_3) rfl rfl ?_
    show Steps p.tables e below (T1.setTop (mkF m 4 #[.val (.int cc)] [(.ref b1), (.ref b1)])) τ
    refine XS.iconst X1.here hx rfl (hb hby d9_4) ?_
    show Steps p.tables e below (T1.setTop (mkF m 5 #[.val (.int cc)] [(.int (0 : Int32)), (.ref b1), (.ref b1)])) τ
    refine XS.iloadN X1.here hx rfl (hb hby d9_5) rfl ?_
    show Steps p.tables e below (T1.setTop (mkF m 6 #[.val (.int cc)] [(.int cc), (.int (0 : Int32)), (.ref b1), (.ref b1)])) τ
    refine XS.i2b X1.here hx rfl (hb hby d9_6) rfl ?_
    show Steps p.tables e below (T1.setTop (mkF m 7 #[.val (.int cc)] [(.int (cc.toInt8.toInt32)), (.int (0 : Int32)), (.ref b1), (.ref b1)])) τ
    exact κ)
  obtain ⟨c2, Ar2, q2, S2, Nz2, Hh2, Gg2⟩ := id V_b1
  have hin2 : ¬ ((0 : Int32) < 0 ∨ c2.slots.size ≤ ((0 : Int32)).toNatClampNeg) := inb_of S2 ⟨by decide, by decide⟩
  obtain ⟨T2, h2, X2, e2, W2, st2⟩ := stB X1 hx hZ e1 Ar2 (j := (0 : Int32)) hin2 (g := (mkF m 7 #[.val (.int cc)] [(.int (cc.toInt8.toInt32)), (.int (0 : Int32)), (.ref b1), (.ref b1)])) rfl rfl (hb hby d9_7)
  have V_b1 : Arv Z h2 b1 k1 .byte (1 : Int32) [(.int (nar .byte (cc.toInt8.toInt32)))] (.int (0 : Int32)) := Arv.set Ar2 q2 S2 Nz2 Hh2 Gg2 (fits_nar_byte _) W2 0 rfl (Nat.le_of_ble_eq_true rfl)
  have Zn : n0 ≤ h2.size := Nat.le_trans Zn (Keep.of_wr W2).1
  have K : Keep h0 h2 [] := K.wr W2 (Or.inr sz_b1)
  have NN := Fr.snoc X2 N0 g_b1
  have pre : ∀ τ, Steps p.tables e below (T2.setTop (mkF m 8 #[.val (.int cc)] [(.ref b1)])) τ → G τ := fun τ κ => pre τ (st2 τ κ)
  obtain ⟨fsα, hr, hrun, hended, hW, hsame⟩ := X2.leave (v := some (.ref b1)) (fun h => by rw [Bd.returns] at h; cases h)
  refine hGL ⟨_, _, hG _ (pre _ ?_), hrun, hended, _, _, rfl, ?_, ⟨_, rfl⟩, hW, hsame.mono (by decide) (by decide)⟩
  · exact retOut X2 hx Bd.returns rfl (Or.inr (Or.inr (Or.inr (Or.inr ⟨rfl, rfl, rfl⟩)))) (hb hby d9_8) hr
  · show Q9 Z cc h0 n0 _ T2.heap _
    rw [e2]
    exact ⟨b1, _, _, rfl, NN, K, g_b1, sz_b1, V_b1, rfl⟩
theorem d10_0 : decode jdk_42_method_151_code 0 = .ok (.aload_n 0, 1) := by decide +kernel
theorem d10_1 : decode jdk_42_method_151_code 1 = .ok (.invokespecial 1, 3) := by decide +kernel
theorem d10_4 : decode jdk_42_method_151_code 4 = .ok (.aload_n 0, 1) := by decide +kernel
theorem d10_5 : decode jdk_42_method_151_code 5 = .ok (.aload_n 1, 1) := by decide +kernel
theorem d10_6 : decode jdk_42_method_151_code 6 = .ok (.putfield 9, 3) := by decide +kernel
theorem d10_9 : decode jdk_42_method_151_code 9 = .ok (.aload_n 0, 1) := by decide +kernel
theorem d10_10 : decode jdk_42_method_151_code 10 = .ok (.iload_n 2, 1) := by decide +kernel
theorem d10_11 : decode jdk_42_method_151_code 11 = .ok (.putfield 15, 3) := by decide +kernel
theorem d10_14 : decode jdk_42_method_151_code 14 = .ok (.return_, 1) := by decide +kernel
theorem ef_10 (m : MethodId) (x0 : Addr) (x1 : Addr) (x2 : Int32) : entryFrame m #[(.ref x0), (.ref x1), (.int x2)] 3 = mkF m 0 #[.val (.ref x0), .val (.ref x1), .val (.int x2)] [] := by first | (simp [entryFrame, mkF, argsToLocals, Value.category]; done) | rfl
def Q10 (Z : State) (o : Addr) (ab : Addr) (co : Int32) (u1 : Value) (u2 : Value) (h0 : Heap) (n0 : Nat) (vα : Option Value) (hα : Heap) (Lα : List Loc) : Prop := vα = none ∧ Fr n0 Lα ∧ Keep h0 hα [o] ∧ Exa Z hα o "java/lang/String" ∧ Fld Z hα o "java/lang/String" "value" "[B" (.ref ab) ∧ Fld Z hα o "java/lang/String" "coder" "B" (.int (nar .byte co))
set_option maxRecDepth 65536 in
set_option maxHeartbeats 40000000 in
theorem rm10 (l : Launch) (Z : State) (a0 : Array Value) (hw : ∀ d ∈ tables_1, d.before a0 Z = true) (ws : List Jvm.Cond) (o : Addr) (ab : Addr) (co : Int32) (u1 : Value) (u2 : Value) (h0 : Heap) (n0 : Nat) (Z0 : n0 ≤ h0.size) (g_o : n0 ≤ o) (E_o : Exa Z h0 o "java/lang/String") (F_va : Fld Z h0 o "java/lang/String" "value" "[B" u1) (F_co : Fld Z h0 o "java/lang/String" "coder" "B" u2) :
    MetFree l (⟨"java/lang/String", "<init>", "([BB)V"⟩ : MethodName) (head1 (Jvm.Cond.code (⟨"java/lang/String", "<init>", "([BB)V"⟩ : MethodName) jdk_42_method_151_code 3 none :: ws) ({ frames := 1, cells := 0, slots := 0, locals := 12 } : Room)) (fun aα U => aα = #[(.ref o), (.ref ab), (.int co)] ∧ Z.Warmed39 U.vm ∧ U.heap = h0) (fun _ _ _ _ _ => True) (fun _ U oα U' => ∃ vα Lα, oα = .returned vα ∧ Q10 Z o ab co u1 u2 h0 n0 vα U'.heap Lα ∧ FrameEnd U oα U' Lα ({ frames := 1, cells := 0, slots := 0, locals := 12 } : Room).cells ({ frames := 1, cells := 0, slots := 0, locals := 12 } : Room).slots) := by
  refine MetFree.of_bodySF (plainFor_of_name pn_1) hisR ?_
  intro p e s m args below meth c s₁ Bd hml0 hP hK
  refine own_wrap ?_
  intro GL hGL
  obtain ⟨rfl, hZ, hh⟩ := hP
  have hx := Bd.exec
  have hby := Bd.bytes
  have hml : c.maxLocals = 3 := hml0
  have hown : s.vm.findClass "java/lang/String" = some m.cls := findClass_of_methodNamed Bd.named
  have hnm := (name_of_methodNamed Bd.named Bd.method).1
  have X0 : Stand p l e ({ frames := 1, cells := 0, slots := 0, locals := 12 } : Room) s m #[(.ref o), (.ref ab), (.int co)] below meth c s₁ [] 0 0 := Stand.of_body Bd
  have e0 : s₁.heap = h0 := by rw [← hh, Bd.state]; rfl
  have N0 := Fr.nil n0
  have pre0 : ∀ τ, Steps p.tables e below (s₁.setTop (mkF m 0 #[.val (.ref o), .val (.ref ab), .val (.int co)] [])) τ → Steps p.tables e below (s₁.setTop (entryFrame m #[(.ref o), (.ref ab), (.int co)] 3)) τ := fun τ κ => castTop (ef_10 m o ab co) κ
  obtain ⟨G, hG, pre⟩ : ∃ G : State → Prop, (∀ τ, G τ → Steps p.tables e below (s₁.setTop (entryFrame m #[(.ref o), (.ref ab), (.int co)] 3)) τ) ∧ ∀ τ, Steps p.tables e below (s₁.setTop (mkF m 0 #[.val (.ref o), .val (.ref ab), .val (.int co)] [])) τ → G τ := ⟨_, pre0, fun _ k => k⟩
  have K : Keep h0 h0 [o] := Keep.refl h0 _
  have Zn := Z0
  have pre : ∀ τ, Steps p.tables e below (s₁.setTop (mkF m 1 #[.val (.ref o), .val (.ref ab), .val (.int co)] [(.ref o)])) τ → G τ := fun τ κ => pre τ (by
    refine XS.aloadN X0.here hx rfl (hb hby d10_0) rfl rfl ?_
    show Steps p.tables e below (s₁.setTop (mkF m 1 #[.val (.ref o), .val (.ref ab), .val (.int co)] [(.ref o)])) τ
    exact κ)
  obtain ⟨T1, X1, e1, st1⟩ := initO X0 hx hZ hown (hw _ (List.mem_of_getElem? (i := 62) rfl)) (hw _ (List.mem_of_getElem? (i := 7) rfl)) (hw _ (List.mem_of_getElem? (i := 8) rfl)) e0 (g := (mkF m 1 #[.val (.ref o), .val (.ref ab), .val (.int co)] [(.ref o)])) rfl (by rw [hml]; rfl) rfl (hb hby d10_1) (by decide) (W := 0) (by show 2 * 0 + _ ≤ _; exact Nat.le_of_eq rfl) (by decide)
  have pre : ∀ τ, Steps p.tables e below (T1.setTop (mkF m 4 #[.val (.ref o), .val (.ref ab), .val (.int co)] [])) τ → G τ := fun τ κ => pre τ (st1 τ κ)
  have pre : ∀ τ, Steps p.tables e below (T1.setTop (mkF m 6 #[.val (.ref o), .val (.ref ab), .val (.int co)] [(.ref ab), (.ref o)])) τ → G τ := fun τ κ => pre τ (by
    refine XS.aloadN X1.here hx rfl (hb hby d10_4) rfl rfl ?_
    show Steps p.tables e below (T1.setTop (mkF m 5 #[.val (.ref o), .val (.ref ab), .val (.int co)] [(.ref o)])) τ
    refine XS.aloadN X1.here hx rfl (hb hby d10_5) rfl rfl ?_
    show Steps p.tables e below (T1.setTop (mkF m 6 #[.val (.ref o), .val (.ref ab), .val (.int co)] [(.ref ab), (.ref o)])) τ
    exact κ)
  obtain ⟨T2, h2, X2, e2, W2, st2⟩ := putF X1 hx hZ hown (host := "") (Or.inl (hw _ (List.mem_of_getElem? (i := 63) rfl))) Via.refl e1 F_va E_o (Or.inr ⟨(hw _ (List.mem_of_getElem? (i := 31) rfl)), rfl, hnm⟩) (hw _ (List.mem_of_getElem? (i := 29) rfl)) (ty := (.array .byte)) (by decide) rfl rfl (g := (mkF m 6 #[.val (.ref o), .val (.ref ab), .val (.int co)] [(.ref ab), (.ref o)])) rfl rfl (hb hby d10_6)
  have F_va : Fld Z h2 o "java/lang/String" "value" "[B" (.ref ab) := F_va.same W2
  have E_o : Exa Z h2 o "java/lang/String" := E_o.wr W2
  have F_co : Fld Z h2 o "java/lang/String" "coder" "B" u2 := F_co.other W2 (Or.inr (slot_ne (Or.inr (hw _ (List.mem_of_getElem? (i := 32) rfl))) (Or.inr (hw _ (List.mem_of_getElem? (i := 31) rfl))) (by decide) (t := .byte) (t' := (.array .byte)) (by decide) (by decide)))
  have Zn : n0 ≤ h2.size := Nat.le_trans Zn (Keep.of_wr W2).1
  have K : Keep h0 h2 [o] := K.wr W2 (Or.inl (List.mem_of_getElem? (i := 0) rfl))
  have NN := Fr.snoc X2 N0 g_o
  have pre : ∀ τ, Steps p.tables e below (T2.setTop (mkF m 9 #[.val (.ref o), .val (.ref ab), .val (.int co)] [])) τ → G τ := fun τ κ => pre τ (st2 τ κ)
  have pre : ∀ τ, Steps p.tables e below (T2.setTop (mkF m 11 #[.val (.ref o), .val (.ref ab), .val (.int co)] [(.int co), (.ref o)])) τ → G τ := fun τ κ => pre τ (by
    refine XS.aloadN X2.here hx rfl (hb hby d10_9) rfl rfl ?_
    show Steps p.tables e below (T2.setTop (mkF m 10 #[.val (.ref o), .val (.ref ab), .val (.int co)] [(.ref o)])) τ
    refine XS.iloadN X2.here hx rfl (hb hby d10_10) rfl ?_
    show Steps p.tables e below (T2.setTop (mkF m 11 #[.val (.ref o), .val (.ref ab), .val (.int co)] [(.int co), (.ref o)])) τ
    exact κ)
  obtain ⟨T3, h3, X3, e3, W3, st3⟩ := putFN X2 hx hZ hown (hw _ (List.mem_of_getElem? (i := 64) rfl)) Via.refl e2 F_co E_o (Or.inr ⟨(hw _ (List.mem_of_getElem? (i := 32) rfl)), rfl, hnm⟩) (hw _ (List.mem_of_getElem? (i := 29) rfl)) (ty := .byte) (v' := (.int (nar .byte co))) (by decide) rfl (fits_nar_byte _) (g := (mkF m 11 #[.val (.ref o), .val (.ref ab), .val (.int co)] [(.int co), (.ref o)])) rfl rfl (hb hby d10_11)
  have F_co : Fld Z h3 o "java/lang/String" "coder" "B" (.int (nar .byte co)) := F_co.same W3
  have E_o : Exa Z h3 o "java/lang/String" := E_o.wr W3
  have F_va : Fld Z h3 o "java/lang/String" "value" "[B" (.ref ab) := F_va.other W3 (Or.inr (slot_ne (Or.inr (hw _ (List.mem_of_getElem? (i := 31) rfl))) (Or.inr (hw _ (List.mem_of_getElem? (i := 32) rfl))) (by decide) (t := (.array .byte)) (t' := .byte) (by decide) (by decide)))
  have Zn : n0 ≤ h3.size := Nat.le_trans Zn (Keep.of_wr W3).1
  have K : Keep h0 h3 [o] := K.wr W3 (Or.inl (List.mem_of_getElem? (i := 0) rfl))
  have NN := Fr.snoc X3 NN g_o
  have pre : ∀ τ, Steps p.tables e below (T3.setTop (mkF m 14 #[.val (.ref o), .val (.ref ab), .val (.int co)] [])) τ → G τ := fun τ κ => pre τ (st3 τ κ)
  obtain ⟨fsα, hr, hrun, hended, hW, hsame⟩ := X3.leave (v := none) (fun _ => rfl)
  refine hGL ⟨_, _, hG _ (pre _ ?_), hrun, hended, _, _, rfl, ?_, ⟨_, rfl⟩, hW, hsame.mono (by decide) (by decide)⟩
  · exact X3.returnOut hx Bd.returns (hb hby d10_14) hr
  · show Q10 Z o ab co u1 u2 h0 n0 _ T3.heap _
    rw [e3]
    exact ⟨rfl, NN, K, E_o, F_va, F_co⟩
theorem d7_0 : decode jdk_42_method_139_code 0 = .ok (.getstatic 38, 3) := by decide +kernel
theorem d7_3 : decode jdk_42_method_139_code 3 = .ok (.ifCond .eq 23, 3) := by decide +kernel
theorem d7_6 : decode jdk_42_method_139_code 6 = .ok (.iload_n 0, 1) := by decide +kernel
theorem d7_7 : decode jdk_42_method_139_code 7 = .ok (.invokestatic 1015, 3) := by decide +kernel
theorem pd_3 : parseMethodDescriptor "(C)Z" = some ⟨[.char], some .boolean⟩ := by decide +kernel
theorem d7_10 : decode jdk_42_method_139_code 10 = .ok (.ifCond .eq 16, 3) := by decide +kernel
theorem d7_13 : decode jdk_42_method_139_code 13 = .ok (.new 10, 3) := by decide +kernel
theorem d7_16 : decode jdk_42_method_139_code 16 = .ok (.dup, 1) := by decide +kernel
theorem d7_17 : decode jdk_42_method_139_code 17 = .ok (.iload_n 0, 1) := by decide +kernel
theorem d7_18 : decode jdk_42_method_139_code 18 = .ok (.invokestatic 1018, 3) := by decide +kernel
theorem pd_4 : parseMethodDescriptor "(C)[B" = some ⟨[.char], some (.array .byte)⟩ := by decide +kernel
theorem d7_21 : decode jdk_42_method_139_code 21 = .ok (.iconst 0, 1) := by decide +kernel
theorem d7_22 : decode jdk_42_method_139_code 22 = .ok (.invokespecial 209, 3) := by decide +kernel
theorem pd_5 : parseMethodDescriptor "([BB)V" = some ⟨[(.array .byte), .byte], none⟩ := by decide +kernel
theorem d7_25 : decode jdk_42_method_139_code 25 = .ok (.areturn, 1) := by decide +kernel
theorem ef_7 (m : MethodId) (x0 : Int32) : entryFrame m #[(.int x0)] 1 = mkF m 0 #[.val (.int x0)] [] := by first | (simp [entryFrame, mkF, argsToLocals, Value.category]; done) | rfl
def Q7 (Z : State) (cc : Int32) (cw : Int32) (h0 : Heap) (n0 : Nat) (vα : Option Value) (hα : Heap) (Lα : List Loc) : Prop := ∃ (r : Addr) (tr : List Value), vα = some (.ref r) ∧ Fr n0 Lα ∧ Keep h0 hα [] ∧ n0 ≤ r ∧ h0.size ≤ r ∧ own_S Z hα (.ref r) (some tr)
set_option maxRecDepth 65536 in
set_option maxHeartbeats 40000000 in
theorem rm7 (l : Launch) (Z : State) (a0 : Array Value) (hw : ∀ d ∈ tables_1, d.before a0 Z = true) (ws : List Jvm.Cond) (cc : Int32) (cw : Int32) (h0 : Heap) (n0 : Nat) (Z0 : n0 ≤ h0.size) (hcc : ¬ (255 : Int32) < cc) (S_c : Sta Z h0 "java/lang/String" "COMPACT_STRINGS" "Z" (.int cw)) (hcw : ¬ cw = (0 : Int32)) :
    MetFree l (⟨"java/lang/String", "valueOf", "(C)Ljava/lang/String;"⟩ : MethodName) (head1 (Jvm.Cond.code (⟨"java/lang/String", "valueOf", "(C)Ljava/lang/String;"⟩ : MethodName) jdk_42_method_139_code 1 (some (.object "java/lang/String")) :: ws) ({ frames := 2, cells := 2, slots := 5, locals := 27 } : Room)) (fun aα U => aα = #[(.int cc)] ∧ Z.Warmed39 U.vm ∧ U.heap = h0) (fun _ _ _ _ _ => True) (fun _ U oα U' => ∃ vα Lα, oα = .returned vα ∧ Q7 Z cc cw h0 n0 vα U'.heap Lα ∧ FrameEnd U oα U' Lα ({ frames := 2, cells := 2, slots := 5, locals := 27 } : Room).cells ({ frames := 2, cells := 2, slots := 5, locals := 27 } : Room).slots) := by
  refine MetFree.of_bodySF (plainFor_of_name pn_1) hisR ?_
  intro p e s m args below meth c s₁ Bd hml0 hP hK
  refine own_wrap ?_
  intro GL hGL
  obtain ⟨rfl, hZ, hh⟩ := hP
  have hx := Bd.exec
  have hby := Bd.bytes
  have hml : c.maxLocals = 1 := hml0
  have hown : s.vm.findClass "java/lang/String" = some m.cls := findClass_of_methodNamed Bd.named
  have hnm := (name_of_methodNamed Bd.named Bd.method).1
  have X0 : Stand p l e ({ frames := 2, cells := 2, slots := 5, locals := 27 } : Room) s m #[(.int cc)] below meth c s₁ [] 0 0 := Stand.of_body Bd
  have e0 : s₁.heap = h0 := by rw [← hh, Bd.state]; rfl
  have N0 := Fr.nil n0
  have pre0 : ∀ τ, Steps p.tables e below (s₁.setTop (mkF m 0 #[.val (.int cc)] [])) τ → Steps p.tables e below (s₁.setTop (entryFrame m #[(.int cc)] 1)) τ := fun τ κ => castTop (ef_7 m cc) κ
  obtain ⟨G, hG, pre⟩ : ∃ G : State → Prop, (∀ τ, G τ → Steps p.tables e below (s₁.setTop (entryFrame m #[(.int cc)] 1)) τ) ∧ ∀ τ, Steps p.tables e below (s₁.setTop (mkF m 0 #[.val (.int cc)] [])) τ → G τ := ⟨_, pre0, fun _ k => k⟩
  have K : Keep h0 h0 [] := Keep.refl h0 _
  have Zn := Z0
  obtain ⟨T1, X1, e1, st1⟩ := getS2 X0 hx hZ hown (host := "") (Or.inl (hw _ (List.mem_of_getElem? (i := 50) rfl))) Via.refl e0 S_c (g := (mkF m 0 #[.val (.int cc)] [])) rfl (hb hby d7_0)
  have pre : ∀ τ, Steps p.tables e below (T1.setTop (mkF m 3 #[.val (.int cc)] [(.int cw)])) τ → G τ := fun τ κ => pre τ (st1 τ κ)
  have hc2 : ¬ (cw = (0 : Int32)) := hcw
  have pre : ∀ τ, Steps p.tables e below (T1.setTop (mkF m 7 #[.val (.int cc)] [(.int cc)])) τ → G τ := fun τ κ => pre τ (by
    refine XS.ifNo X1.here hx rfl (hb hby d7_3) rfl ((if0 _ _).trans (feq hc2).1) ?_
    show Steps p.tables e below (T1.setTop (mkF m 6 #[.val (.int cc)] [])) τ
    refine XS.iloadN X1.here hx rfl (hb hby d7_6) rfl ?_
    show Steps p.tables e below (T1.setTop (mkF m 7 #[.val (.int cc)] [(.int cc)])) τ
    exact κ)
  obtain ⟨_, _, ⟨T3, Lx3, kx3, nx3⟩, -, X3, ⟨Lc3, hQ3, l3, y3, z3⟩, st3⟩ := Jvm.LawKit.callS X1 hx (y := (⟨"java/lang/StringLatin1", "canEncode", "(C)Z"⟩ : MethodName)) hown (mvT hZ (hw _ (List.mem_of_getElem? (i := 51) rfl))) (mvT hZ (hw _ (List.mem_of_getElem? (i := 52) rfl))) (mvT hZ (hw _ (List.mem_of_getElem? (i := 53) rfl))) (mvT hZ (hw _ (List.mem_of_getElem? (i := 54) rfl))) (by decide) (backOf (W := 0) (rm8 l Z a0 hw [] cc h0 n0 Zn hcc) hZ (hw _ (List.mem_of_getElem? (i := 54) rfl)) (hw _ (List.mem_of_getElem? (i := 53) rfl)) (by decide) (by decide)) (g := (mkF m 7 #[.val (.int cc)] [(.int cc)])) rfl (by rw [hml]; rfl) (argsL := [(.int cc)]) (rest := []) (lenOf pd_3 rfl) rfl (by show 2 * 0 + _ ≤ _; exact Nat.le_of_eq rfl) (hb hby d7_7) (fun _ _ => ⟨rfl, e1, (by decide : 0 + 0 ≤ _), (by decide : 0 + 0 ≤ _)⟩)
  dsimp only [Pt.U, Pt.locs, Pt.cells, Pt.slots] at X3 l3 y3 z3 st3 hQ3
  replace y3 : kx3 = 0 := y3
  replace z3 : nx3 = 0 := z3
  subst y3 z3
  obtain ⟨rfl, Nq3, hs3⟩ := hQ3
  have NN : Fr n0 Lx3 := by rw [l3]; exact Fr.app N0 Nq3
  have pre : ∀ τ, Steps p.tables e below (T3.setTop (mkF m 10 #[.val (.int cc)] [(.int (1 : Int32))])) τ → G τ := fun τ κ => pre τ (st3 τ κ)
  have hc4 : ¬ ((1 : Int32) = (0 : Int32)) := (by decide)
  have pre : ∀ τ, Steps p.tables e below (T3.setTop (mkF m 13 #[.val (.int cc)] [])) τ → G τ := fun τ κ => pre τ (by
    refine XS.ifNo X3.here hx rfl (hb hby d7_10) rfl ((if0 _ _).trans (feq hc4).1) ?_
    show Steps p.tables e below (T3.setTop (mkF m 13 #[.val (.int cc)] [])) τ
    exact κ)
  obtain ⟨T5, h5, X5, e5, E5, A5, D5, -, st5⟩ := newO X3 hx hZ hown (hw _ (List.mem_of_getElem? (i := 55) rfl)) (hw _ (List.mem_of_getElem? (i := 29) rfl)) (hw _ (List.mem_of_getElem? (i := 28) rfl)) hs3 (g := (mkF m 13 #[.val (.int cc)] [])) rfl (hb hby d7_13) (by decide) (by decide)
  obtain ⟨b5, gg5⟩ : ∃ z, z = h0.size := ⟨_, rfl⟩
  rw [← gg5] at A5 D5 st5
  have g_b5 : n0 ≤ b5 := Nat.le_trans Zn (Nat.le_of_eq gg5.symm)
  have sz_b5 : h0.size ≤ b5 := Nat.le_trans K.1 (Nat.le_of_eq gg5.symm)
  have Zn : n0 ≤ h5.size := Nat.le_trans Zn E5.1
  have K : Keep h0 h5 [] := K.ext E5
  have F_value_b5 : Fld Z h5 b5 "java/lang/String" "value" "[B" .null := D5 (Or.inr (hw _ (List.mem_of_getElem? (i := 31) rfl))) (ty := (.array .byte)) (by decide)
  have F_coder_b5 : Fld Z h5 b5 "java/lang/String" "coder" "B" (.int (0 : Int32)) := D5 (Or.inr (hw _ (List.mem_of_getElem? (i := 32) rfl))) (ty := .byte) (by decide)
  have E_b5 := A5
  have pre : ∀ τ, Steps p.tables e below (T5.setTop (mkF m 16 #[.val (.int cc)] [(.ref b5)])) τ → G τ := fun τ κ => pre τ (st5 τ κ)
  have pre : ∀ τ, Steps p.tables e below (T5.setTop (mkF m 18 #[.val (.int cc)] [(.int cc), (.ref b5), (.ref b5)])) τ → G τ := fun τ κ => pre τ (by
    refine XS.dup X5.here hx rfl (hb hby d7_16) rfl rfl ?_
    show Steps p.tables e below (T5.setTop (mkF m 17 #[.val (.int cc)] [(.ref b5), (.ref b5)])) τ
    refine XS.iloadN X5.here hx rfl (hb hby d7_17) rfl ?_
    show Steps p.tables e below (T5.setTop (mkF m 18 #[.val (.int cc)] [(.int cc), (.ref b5), (.ref b5)])) τ
    exact κ)
  obtain ⟨_, _, ⟨T6, Lx6, kx6, nx6⟩, -, X6, ⟨Lc6, hQ6, l6, y6, z6⟩, st6⟩ := Jvm.LawKit.callS X5 hx (y := (⟨"java/lang/StringLatin1", "toBytes", "(C)[B"⟩ : MethodName)) hown (mvT hZ (hw _ (List.mem_of_getElem? (i := 56) rfl))) (mvT hZ (hw _ (List.mem_of_getElem? (i := 57) rfl))) (mvT hZ (hw _ (List.mem_of_getElem? (i := 53) rfl))) (mvT hZ (hw _ (List.mem_of_getElem? (i := 58) rfl))) (by decide) (backOf (W := 2) (rm9 l Z a0 hw [] cc h5 n0 Zn) hZ (hw _ (List.mem_of_getElem? (i := 58) rfl)) (hw _ (List.mem_of_getElem? (i := 53) rfl)) (by decide) (by decide)) (g := (mkF m 18 #[.val (.int cc)] [(.int cc), (.ref b5), (.ref b5)])) rfl (by rw [hml]; rfl) (argsL := [(.int cc)]) (rest := [(.ref b5), (.ref b5)]) (lenOf pd_4 rfl) rfl (by show 2 * 0 + _ ≤ _; exact Nat.le_of_eq rfl) (hb hby d7_18) (fun _ _ => ⟨rfl, e5, (by decide : 1 + 1 ≤ _), (by decide : 4 + 1 ≤ _)⟩)
  dsimp only [Pt.U, Pt.locs, Pt.cells, Pt.slots] at X6 l6 y6 z6 st6 hQ6
  replace y6 : kx6 = 2 := y6
  replace z6 : nx6 = 5 := z6
  subst y6 z6
  obtain ⟨r_6, kr_6, tr_6, rfl, Nq6, Kc6, gn_r_6, gz_r_6, V_r_6, hlr_6⟩ := hQ6
  have NN : Fr n0 Lx6 := by rw [l6]; exact Fr.app NN Nq6
  have g_r_6 := gn_r_6
  have sz_r_6 : h0.size ≤ r_6 := Nat.le_trans K.1 gz_r_6
  have ne_b5_r_6 : b5 ≠ r_6 := Nat.ne_of_lt (Nat.lt_of_lt_of_le F_value_b5.lt gz_r_6)
  have F_value_b5 : Fld Z T6.heap b5 "java/lang/String" "value" "[B" .null := F_value_b5.keep Kc6 nin0
  have F_coder_b5 : Fld Z T6.heap b5 "java/lang/String" "coder" "B" (.int (0 : Int32)) := F_coder_b5.keep Kc6 nin0
  have E_b5 : Exa Z T6.heap b5 "java/lang/String" := E_b5.keep Kc6
  have Zn : n0 ≤ T6.heap.size := Nat.le_trans Zn Kc6.1
  have K : Keep h0 T6.heap [] := K.trans Kc6 all0
  have pre : ∀ τ, Steps p.tables e below (T6.setTop (mkF m 21 #[.val (.int cc)] [(.ref r_6), (.ref b5), (.ref b5)])) τ → G τ := fun τ κ => pre τ (st6 τ κ)
  have pre : ∀ τ, Steps p.tables e below (T6.setTop (mkF m 22 #[.val (.int cc)] [(.int (0 : Int32)), (.ref r_6), (.ref b5), (.ref b5)])) τ → G τ := fun τ κ => pre τ (by
    refine XS.iconst X6.here hx rfl (hb hby d7_21) ?_
    show Steps p.tables e below (T6.setTop (mkF m 22 #[.val (.int cc)] [(.int (0 : Int32)), (.ref r_6), (.ref b5), (.ref b5)])) τ
    exact κ)
  obtain ⟨_, _, ⟨T7, Lx7, kx7, nx7⟩, -, X7, ⟨Lc7, hQ7, l7, y7, z7⟩, st7⟩ := X6.specialBack hx (y := (⟨"java/lang/String", "<init>", "([BB)V"⟩ : MethodName)) rfl hown (mvT hZ (hw _ (List.mem_of_getElem? (i := 59) rfl))) (mvT hZ (hw _ (List.mem_of_getElem? (i := 60) rfl))) (mvT hZ (hw _ (List.mem_of_getElem? (i := 61) rfl))) (by decide) (backOf (W := 1) (rm10 l Z a0 hw [] b5 r_6 (0 : Int32) .null (.int (0 : Int32)) T6.heap n0 Zn g_b5 E_b5 F_value_b5 F_coder_b5) hZ (hw _ (List.mem_of_getElem? (i := 61) rfl)) (hw _ (List.mem_of_getElem? (i := 28) rfl)) (by decide) (by decide)) (g := (mkF m 22 #[.val (.int cc)] [(.int (0 : Int32)), (.ref r_6), (.ref b5), (.ref b5)])) rfl (by rw [hml]; rfl) (Steps.refl _) (a := b5) (argsL := [(.ref r_6), (.int (0 : Int32))]) (rest := [(.ref b5)]) (lenOf pd_5 rfl) rfl (by show 2 * 0 + _ ≤ _; exact Nat.le_of_eq rfl) (hb hby d7_22) (fun _ _ => ⟨rfl, rfl, (by decide : 2 + 0 ≤ _), (by decide : 5 + 0 ≤ _)⟩)
  dsimp only [Pt.U, Pt.locs, Pt.cells, Pt.slots] at X7 l7 y7 z7 st7 hQ7
  replace y7 : kx7 = 2 := y7
  replace z7 : nx7 = 5 := z7
  subst y7 z7
  obtain ⟨rfl, Nq7, Kc7, E_o_7, F_va_7, F_co_7⟩ := hQ7
  have NN : Fr n0 Lx7 := by rw [l7]; exact Fr.app NN Nq7
  have E_b5 : Exa Z T7.heap b5 "java/lang/String" := E_b5.keep Kc7
  have V_r_6 : Arv Z T7.heap r_6 kr_6 .byte (1 : Int32) tr_6 (.int (0 : Int32)) := V_r_6.keep Kc7 (ninS (Ne.symm ne_b5_r_6) nin0)
  have Zn : n0 ≤ T7.heap.size := Nat.le_trans Zn Kc7.1
  have K : Keep h0 T7.heap [] := K.trans Kc7 (allS (Or.inr sz_b5) all0)
  have pre : ∀ τ, Steps p.tables e below (T7.setTop (mkF m 25 #[.val (.int cc)] [(.ref b5)])) τ → G τ := fun τ κ => pre τ (st7.trans κ)
  obtain ⟨fsα, hr, hrun, hended, hW, hsame⟩ := X7.leave (v := some (.ref b5)) (fun h => by rw [Bd.returns] at h; cases h)
  refine hGL ⟨_, _, hG _ (pre _ ?_), hrun, hended, _, _, rfl, ?_, ⟨_, rfl⟩, hW, hsame.mono (by decide) (by decide)⟩
  · exact retOut X7 hx Bd.returns rfl (Or.inr (Or.inr (Or.inr (Or.inr ⟨rfl, rfl, rfl⟩)))) (hb hby d7_25) hr
  · show Q7 Z cc cw h0 n0 _ T7.heap _
    exact ⟨b5, _, rfl, NN, K, g_b5, sz_b5, Or.inr ⟨_, _, _, _, _, _, rfl, rfl, (hw _ (List.mem_of_getElem? (i := 29) rfl)), E_o_7, F_co_7, F_va_7, V_r_6, by rw [hlr_6]; decide⟩⟩
theorem d6_0 : decode method_3_code 0 = .ok (.iload_n 0, 1) := by decide +kernel
theorem d6_1 : decode method_3_code 1 = .ok (.iconst 3, 1) := by decide +kernel
theorem d6_2 : decode method_3_code 2 = .ok (.iand, 1) := by decide +kernel
theorem d6_3 : decode method_3_code 3 = .ok (.istore_n 1, 1) := by decide +kernel
theorem d6_4 : decode method_3_code 4 = .ok (.iload_n 1, 1) := by decide +kernel
theorem d6_5 : decode method_3_code 5 = .ok (.ifCond .ne 6, 3) := by decide +kernel
theorem d6_8 : decode method_3_code 8 = .ok (.ldc 8, 2) := by decide +kernel
theorem d6_10 : decode method_3_code 10 = .ok (.areturn, 1) := by decide +kernel
theorem d6_11 : decode method_3_code 11 = .ok (.iload_n 1, 1) := by decide +kernel
theorem d6_12 : decode method_3_code 12 = .ok (.iconst 1, 1) := by decide +kernel
theorem d6_13 : decode method_3_code 13 = .ok (.if_icmp .ne 6, 3) := by decide +kernel
theorem d6_16 : decode method_3_code 16 = .ok (.ldc 10, 2) := by decide +kernel
theorem d6_18 : decode method_3_code 18 = .ok (.areturn, 1) := by decide +kernel
theorem d6_19 : decode method_3_code 19 = .ok (.iload_n 0, 1) := by decide +kernel
theorem d6_20 : decode method_3_code 20 = .ok (.iconst 2, 1) := by decide +kernel
theorem d6_21 : decode method_3_code 21 = .ok (.iushr, 1) := by decide +kernel
theorem d6_22 : decode method_3_code 22 = .ok (.sipush 255, 3) := by decide +kernel
theorem d6_25 : decode method_3_code 25 = .ok (.iand, 1) := by decide +kernel
theorem d6_26 : decode method_3_code 26 = .ok (.i2c, 1) := by decide +kernel
theorem d6_27 : decode method_3_code 27 = .ok (.invokestatic 12, 3) := by decide +kernel
theorem pd_6 : parseMethodDescriptor "(C)Ljava/lang/String;" = some ⟨[.char], some (.object "java/lang/String")⟩ := by decide +kernel
theorem d6_30 : decode method_3_code 30 = .ok (.areturn, 1) := by decide +kernel
theorem ef_6 (m : MethodId) (x0 : Int32) : entryFrame m #[(.int x0)] 2 = mkF m 0 #[.val (.int x0), .unset] [] := by first | (simp [entryFrame, mkF, argsToLocals, Value.category]; done) | rfl
def Q6 (Z : State) (vv : Int32) (cw : Int32) (h0 : Heap) (n0 : Nat) (vα : Option Value) (hα : Heap) (Lα : List Loc) : Prop := ∃ (r : Addr) (tr : List Value), vα = some (.ref r) ∧ Fr n0 Lα ∧ Keep h0 hα [] ∧ own_S Z hα (.ref r) (some tr)
set_option maxRecDepth 65536 in
set_option maxHeartbeats 40000000 in
theorem rm6 (l : Launch) (Z : State) (a0 : Array Value) (hw : ∀ d ∈ tables_1, d.before a0 Z = true) (hEL : EW Z a0 own_EL) (wS : ∀ a ∈ Bundle.stringAtoms, a.before a0 Z = true) (ws : List Jvm.Cond) (vv : Int32) (cw : Int32) (h0 : Heap) (n0 : Nat) (Z0 : n0 ≤ h0.size) (S_c : Sta Z h0 "java/lang/String" "COMPACT_STRINGS" "Z" (.int cw)) (hcw : ¬ cw = (0 : Int32)) :
    MetFree l (⟨"coppice/marshal/context/NamespaceScopeResetPinLaw", "pick", "(I)Ljava/lang/String;"⟩ : MethodName) (head1 (Jvm.Cond.code (⟨"coppice/marshal/context/NamespaceScopeResetPinLaw", "pick", "(I)Ljava/lang/String;"⟩ : MethodName) method_3_code 2 (some (.object "java/lang/String")) :: ws) ({ frames := 3, cells := 2, slots := 16, locals := 39 } : Room)) (fun aα U => aα = #[(.int vv)] ∧ Z.Warmed39 U.vm ∧ U.heap = h0 ∧ CHv Z own_EL U.vm h0) (fun _ _ _ _ _ => True) (fun _ U oα U' => ∃ vα Lα, oα = .returned vα ∧ Q6 Z vv cw h0 n0 vα U'.heap Lα ∧ CHr Z own_EL U.vm U.heap U'.vm U'.heap ∧ ReturnedEndW U oα U' Lα ({ frames := 3, cells := 2, slots := 16, locals := 39 } : Room).cells ({ frames := 3, cells := 2, slots := 16, locals := 39 } : Room).slots) := by
  refine MetFree.of_bodySF (plainFor_of_name pn_4) hisR ?_
  intro p e s m args below meth c s₁ Bd hml0 hP hK
  refine own_wrap ?_
  intro GL hGL
  obtain ⟨rfl, hZ, hh, hCH⟩ := hP
  have hx := Bd.exec
  have hby := Bd.bytes
  have hml : c.maxLocals = 2 := hml0
  have hown : s.vm.findClass "coppice/marshal/context/NamespaceScopeResetPinLaw" = some m.cls := findClass_of_methodNamed Bd.named
  have hnm := (name_of_methodNamed Bd.named Bd.method).1
  have X0 : Stand p l e ({ frames := 3, cells := 2, slots := 16, locals := 39 } : Room) (s.setVm s.vm) m #[(.int vv)] below meth c s₁ [] 0 0 := Stand.of_body Bd
  have e0 : s₁.heap = h0 := by rw [← hh, Bd.state]; rfl
  have N0 := Fr.nil n0
  have pre0 : ∀ τ, Steps p.tables e below (s₁.setTop (mkF m 0 #[.val (.int vv), .unset] [])) τ → Steps p.tables e below (s₁.setTop (entryFrame m #[(.int vv)] 2)) τ := fun τ κ => castTop (ef_6 m vv) κ
  obtain ⟨G, hG, pre⟩ : ∃ G : State → Prop, (∀ τ, G τ → Steps p.tables e below (s₁.setTop (entryFrame m #[(.int vv)] 2)) τ) ∧ ∀ τ, Steps p.tables e below (s₁.setTop (mkF m 0 #[.val (.int vv), .unset] [])) τ → G τ := ⟨_, pre0, fun _ k => k⟩
  have K : Keep h0 h0 [] := Keep.refl h0 _
  have Zn := Z0
  have hS : s.Since s.vm h0.size := (State.WarmedH.refl s).since _
  have hk : h0.size ≤ h0.size := Nat.le_refl _
  have H : CHv Z own_EL s.vm h0 := hCH
  have HR : CHr Z own_EL s.vm h0 s.vm h0 := CHr.refl H
  have pre : ∀ τ, Steps p.tables e below (s₁.setTop (mkF m 5 #[.val (.int vv), .val (.int (vv &&& (3 : Int32)))] [(.int (vv &&& (3 : Int32)))])) τ → G τ := fun τ κ => pre τ (by
    refine XS.iloadN X0.here hx rfl (hb hby d6_0) rfl ?_
    show Steps p.tables e below (s₁.setTop (mkF m 1 #[.val (.int vv), .unset] [(.int vv)])) τ
    refine XS.iconst X0.here hx rfl (hb hby d6_1) ?_
    show Steps p.tables e below (s₁.setTop (mkF m 2 #[.val (.int vv), .unset] [(.int (3 : Int32)), (.int vv)])) τ
    refine XS.iand X0.here hx rfl (hb hby d6_2) rfl ?_
    show Steps p.tables e below (s₁.setTop (mkF m 3 #[.val (.int vv), .unset] [(.int (vv &&& (3 : Int32)))])) τ
    refine XS.istoreN X0.here hx rfl (hb hby d6_3) rfl (l' := #[.val (.int vv), .val (.int (vv &&& (3 : Int32)))]) rfl ?_
    show Steps p.tables e below (s₁.setTop (mkF m 4 #[.val (.int vv), .val (.int (vv &&& (3 : Int32)))] [])) τ
    refine XS.iloadN X0.here hx rfl (hb hby d6_4) rfl ?_
    show Steps p.tables e below (s₁.setTop (mkF m 5 #[.val (.int vv), .val (.int (vv &&& (3 : Int32)))] [(.int (vv &&& (3 : Int32)))])) τ
    exact κ)
  rcases Classical.em ((vv &&& (3 : Int32)) = (0 : Int32)) with hc5_1 | hc5_1
  ·
    have pre : ∀ τ, Steps p.tables e below (s₁.setTop (mkF m 8 #[.val (.int vv), .val (.int (vv &&& (3 : Int32)))] [])) τ → G τ := fun τ κ => pre τ (by
      refine XS.ifNo X0.here hx rfl (hb hby d6_5) rfl ((if0 _ _).trans (teq hc5_1).2) ?_
      show Steps p.tables e below (s₁.setTop (mkF m 8 #[.val (.int vv), .val (.int (vv &&& (3 : Int32)))] [])) τ
      exact κ)
    obtain ⟨as2, T2, h2, kn2, bs2, kc2, X2, e2, E2, hS, hk, hZ, hown, Ea2, Ca2, Va2, Ba2, la2, lb2, HRn2, Li2, sf2, st2⟩ := ldcCH X0 hx hZ hown (hw _ (List.mem_of_getElem? (i := 82) rfl)) wS e0 hS hk hEL (List.mem_of_getElem? (i := 2) rfl) H (vs := []) (z := (0 : Int32)) ⟨by decide, rfl⟩ (by decide) rfl (g := (mkF m 8 #[.val (.int vv), .val (.int (vv &&& (3 : Int32)))] [])) rfl (hb hby d6_8) (n := 0) (by decide) (by decide) (by decide) (by decide)
    have S_c : Sta Z h2 "java/lang/String" "COMPACT_STRINGS" "Z" (.int cw) := S_c.ext E2
    have Zn : n0 ≤ h2.size := Nat.le_trans Zn E2.1
    have K : Keep h0 h2 [] := K.ext E2
    have HR := HR.trans HRn2
    have H := HR.1
    have F_s2 : own_S Z h2 (.ref as2) (some []) := Or.inr ⟨_, _, _, _, _, _, rfl, rfl, (hw _ (List.mem_of_getElem? (i := 29) rfl)), Ea2, Ca2, Va2, Ba2, rfl⟩
    have pre : ∀ τ, Steps p.tables e below (T2.setTop (mkF m 10 #[.val (.int vv), .val (.int (vv &&& (3 : Int32)))] [(.ref as2)])) τ → G τ := fun τ κ => pre τ (st2 τ κ)
    have hkT := Nat.le_trans hk (Nat.le_of_eq (congrArg Array.size (Eq.symm e2)))
    obtain ⟨fsα, hr, hrun, hended, hRE⟩ := X2.leaveW hS hkT (v := some (.ref as2)) (fun h => by rw [Bd.returns] at h; cases h)
    refine hGL ⟨_, _, hG _ (pre _ ?_), hrun, hended, _, _, rfl, ?_, ?_, ⟨_, rfl⟩, hRE.2.1, hRE.2.2.1, hRE.2.2.2.mono (by decide) (by decide)⟩
    · exact retOut X2 hx Bd.returns rfl (Or.inr (Or.inr (Or.inr (Or.inr ⟨rfl, rfl, rfl⟩)))) (hb hby d6_10) hr
    · show Q6 Z vv cw h0 n0 _ T2.heap _
      rw [e2]
      exact ⟨as2, _, rfl, N0, K, F_s2⟩
    · show CHr Z own_EL s.vm s.heap T2.vm T2.heap
      rw [hh, e2]
      exact HR.trans (CHv.at X2 hZ hEL H)
  ·
    have pre : ∀ τ, Steps p.tables e below (s₁.setTop (mkF m 13 #[.val (.int vv), .val (.int (vv &&& (3 : Int32)))] [(.int (1 : Int32)), (.int (vv &&& (3 : Int32)))])) τ → G τ := fun τ κ => pre τ (by
      refine XS.ifYes X0.here hx rfl (pc0 := 5) (pc' := 11) rfl (hb hby d6_5) rfl ((if0 _ _).trans (feq hc5_1).2) (by decide) (by decide) ?_
      show Steps p.tables e below (s₁.setTop (mkF m 11 #[.val (.int vv), .val (.int (vv &&& (3 : Int32)))] [])) τ
      refine XS.iloadN X0.here hx rfl (hb hby d6_11) rfl ?_
      show Steps p.tables e below (s₁.setTop (mkF m 12 #[.val (.int vv), .val (.int (vv &&& (3 : Int32)))] [(.int (vv &&& (3 : Int32)))])) τ
      refine XS.iconst X0.here hx rfl (hb hby d6_12) ?_
      show Steps p.tables e below (s₁.setTop (mkF m 13 #[.val (.int vv), .val (.int (vv &&& (3 : Int32)))] [(.int (1 : Int32)), (.int (vv &&& (3 : Int32)))])) τ
      exact κ)
    rcases Classical.em ((vv &&& (3 : Int32)) = (1 : Int32)) with hc13_3 | hc13_3
    ·
      have pre : ∀ τ, Steps p.tables e below (s₁.setTop (mkF m 16 #[.val (.int vv), .val (.int (vv &&& (3 : Int32)))] [])) τ → G τ := fun τ κ => pre τ (by
        refine XS.icmpNo X0.here hx rfl (hb hby d6_13) rfl (teq hc13_3).2 ?_
        show Steps p.tables e below (s₁.setTop (mkF m 16 #[.val (.int vv), .val (.int (vv &&& (3 : Int32)))] [])) τ
        exact κ)
      obtain ⟨as4, T4, h4, kn4, bs4, kc4, X4, e4, E4, hS, hk, hZ, hown, Ea4, Ca4, Va4, Ba4, la4, lb4, HRn4, Li4, sf4, st4⟩ := ldcCH X0 hx hZ hown (hw _ (List.mem_of_getElem? (i := 95) rfl)) wS e0 hS hk hEL (List.mem_of_getElem? (i := 3) rfl) H (vs := [(.int (120 : Int32)), (.int (109 : Int32)), (.int (108 : Int32))]) (z := (3 : Int32)) ⟨by decide, rfl⟩ (by decide) rfl (g := (mkF m 16 #[.val (.int vv), .val (.int (vv &&& (3 : Int32)))] [])) rfl (hb hby d6_16) (n := 12) (by decide) (by decide) (by decide) (by decide)
      have S_c : Sta Z h4 "java/lang/String" "COMPACT_STRINGS" "Z" (.int cw) := S_c.ext E4
      have Zn : n0 ≤ h4.size := Nat.le_trans Zn E4.1
      have K : Keep h0 h4 [] := K.ext E4
      have HR := HR.trans HRn4
      have H := HR.1
      have F_s4 : own_S Z h4 (.ref as4) (some [(.int (120 : Int32)), (.int (109 : Int32)), (.int (108 : Int32))]) := Or.inr ⟨_, _, _, _, _, _, rfl, rfl, (hw _ (List.mem_of_getElem? (i := 29) rfl)), Ea4, Ca4, Va4, Ba4, rfl⟩
      have pre : ∀ τ, Steps p.tables e below (T4.setTop (mkF m 18 #[.val (.int vv), .val (.int (vv &&& (3 : Int32)))] [(.ref as4)])) τ → G τ := fun τ κ => pre τ (st4 τ κ)
      have hkT := Nat.le_trans hk (Nat.le_of_eq (congrArg Array.size (Eq.symm e4)))
      obtain ⟨fsα, hr, hrun, hended, hRE⟩ := X4.leaveW hS hkT (v := some (.ref as4)) (fun h => by rw [Bd.returns] at h; cases h)
      refine hGL ⟨_, _, hG _ (pre _ ?_), hrun, hended, _, _, rfl, ?_, ?_, ⟨_, rfl⟩, hRE.2.1, hRE.2.2.1, hRE.2.2.2.mono (by decide) (by decide)⟩
      · exact retOut X4 hx Bd.returns rfl (Or.inr (Or.inr (Or.inr (Or.inr ⟨rfl, rfl, rfl⟩)))) (hb hby d6_18) hr
      · show Q6 Z vv cw h0 n0 _ T4.heap _
        rw [e4]
        exact ⟨as4, _, rfl, N0, K, F_s4⟩
      · show CHr Z own_EL s.vm s.heap T4.vm T4.heap
        rw [hh, e4]
        exact HR.trans (CHv.at X4 hZ hEL H)
    ·
      have pre : ∀ τ, Steps p.tables e below (s₁.setTop (mkF m 27 #[.val (.int vv), .val (.int (vv &&& (3 : Int32)))] [(.int ((((vv.toUInt32 >>> ((2 : Int32) &&& 31).toUInt32).toInt32) &&& (255 : Int32)).toUInt32.toUInt16.toUInt32.toInt32))])) τ → G τ := fun τ κ => pre τ (by
        refine XS.icmpYes X0.here hx rfl (pc0 := 13) (pc' := 19) rfl (hb hby d6_13) rfl (feq hc13_3).2 (by decide) (by decide) ?_
        show Steps p.tables e below (s₁.setTop (mkF m 19 #[.val (.int vv), .val (.int (vv &&& (3 : Int32)))] [])) τ
        refine XS.iloadN X0.here hx rfl (hb hby d6_19) rfl ?_
        show Steps p.tables e below (s₁.setTop (mkF m 20 #[.val (.int vv), .val (.int (vv &&& (3 : Int32)))] [(.int vv)])) τ
        refine XS.iconst X0.here hx rfl (hb hby d6_20) ?_
        show Steps p.tables e below (s₁.setTop (mkF m 21 #[.val (.int vv), .val (.int (vv &&& (3 : Int32)))] [(.int (2 : Int32)), (.int vv)])) τ
        refine XS.iushr X0.here hx rfl (hb hby d6_21) rfl ?_
        show Steps p.tables e below (s₁.setTop (mkF m 22 #[.val (.int vv), .val (.int (vv &&& (3 : Int32)))] [(.int ((vv.toUInt32 >>> ((2 : Int32) &&& 31).toUInt32).toInt32))])) τ
        refine XS.sipush X0.here hx rfl (hb hby d6_22) ?_
        show Steps p.tables e below (s₁.setTop (mkF m 25 #[.val (.int vv), .val (.int (vv &&& (3 : Int32)))] [(.int (255 : Int32)), (.int ((vv.toUInt32 >>> ((2 : Int32) &&& 31).toUInt32).toInt32))])) τ
        refine XS.iand X0.here hx rfl (hb hby d6_25) rfl ?_
        show Steps p.tables e below (s₁.setTop (mkF m 26 #[.val (.int vv), .val (.int (vv &&& (3 : Int32)))] [(.int (((vv.toUInt32 >>> ((2 : Int32) &&& 31).toUInt32).toInt32) &&& (255 : Int32)))])) τ
        refine XS.i2c X0.here hx rfl (hb hby d6_26) rfl ?_
        show Steps p.tables e below (s₁.setTop (mkF m 27 #[.val (.int vv), .val (.int (vv &&& (3 : Int32)))] [(.int ((((vv.toUInt32 >>> ((2 : Int32) &&& 31).toUInt32).toInt32) &&& (255 : Int32)).toUInt32.toUInt16.toUInt32.toInt32))])) τ
        exact κ)
      obtain ⟨_, _, ⟨T5, Lx5, kx5, nx5⟩, -, X5, ⟨Lc5, hQ5, l5, y5, z5⟩, st5⟩ := Jvm.LawKit.callS X0 hx (y := (⟨"java/lang/String", "valueOf", "(C)Ljava/lang/String;"⟩ : MethodName)) hown (mvT hZ (hw _ (List.mem_of_getElem? (i := 47) rfl))) (mvT hZ (hw _ (List.mem_of_getElem? (i := 48) rfl))) (mvT hZ (hw _ (List.mem_of_getElem? (i := 28) rfl))) (mvT hZ (hw _ (List.mem_of_getElem? (i := 49) rfl))) (by decide) (backOf (W := 0) (rm7 l Z a0 hw [] ((((vv.toUInt32 >>> ((2 : Int32) &&& 31).toUInt32).toInt32) &&& (255 : Int32)).toUInt32.toUInt16.toUInt32.toInt32) cw h0 n0 Zn (own_c255 vv) S_c hcw) hZ (hw _ (List.mem_of_getElem? (i := 49) rfl)) (hw _ (List.mem_of_getElem? (i := 28) rfl)) (by decide) (by decide)) (g := (mkF m 27 #[.val (.int vv), .val (.int (vv &&& (3 : Int32)))] [(.int ((((vv.toUInt32 >>> ((2 : Int32) &&& 31).toUInt32).toInt32) &&& (255 : Int32)).toUInt32.toUInt16.toUInt32.toInt32))])) rfl (by rw [hml]; rfl) (argsL := [(.int ((((vv.toUInt32 >>> ((2 : Int32) &&& 31).toUInt32).toInt32) &&& (255 : Int32)).toUInt32.toUInt16.toUInt32.toInt32))]) (rest := []) (lenOf pd_6 rfl) rfl (by show 2 * 0 + _ ≤ _; exact Nat.le_of_eq rfl) (hb hby d6_27) (fun _ _ => ⟨rfl, e0, (by decide : 0 + 2 ≤ _), (by decide : 0 + 5 ≤ _)⟩)
      dsimp only [Pt.U, Pt.locs, Pt.cells, Pt.slots] at X5 l5 y5 z5 st5 hQ5
      replace y5 : kx5 = 2 := y5
      replace z5 : nx5 = 5 := z5
      subst y5 z5
      obtain ⟨r_5, tr_5, rfl, Nq5, Kc5, gn_r_5, gz_r_5, F_r_5⟩ := hQ5
      have NN : Fr n0 Lx5 := by rw [l5]; exact Fr.app N0 Nq5
      have g_r_5 := gn_r_5
      have sz_r_5 : h0.size ≤ r_5 := Nat.le_trans K.1 gz_r_5
      have Nss : ∀ x ∈ ([] : List Addr), own_ns Z h0 x := all0
      have hk := Nat.le_trans hk Kc5.1
      have HR := HR.trans (CHr.keep Kc5 (fun x hx => own_safe hZ.alike (Nss x hx)) H)
      have H := HR.1
      have S_c : Sta Z T5.heap "java/lang/String" "COMPACT_STRINGS" "Z" (.int cw) := own_sta_keepN S_c Kc5 Nss
      have Zn : n0 ≤ T5.heap.size := Nat.le_trans Zn Kc5.1
      have K : Keep h0 T5.heap [] := K.trans Kc5 all0
      have pre : ∀ τ, Steps p.tables e below (T5.setTop (mkF m 30 #[.val (.int vv), .val (.int (vv &&& (3 : Int32)))] [(.ref r_5)])) τ → G τ := fun τ κ => pre τ (st5 τ κ)
      have hkT := hk
      obtain ⟨fsα, hr, hrun, hended, hRE⟩ := X5.leaveW hS hkT (v := some (.ref r_5)) (fun h => by rw [Bd.returns] at h; cases h)
      refine hGL ⟨_, _, hG _ (pre _ ?_), hrun, hended, _, _, rfl, ?_, ?_, ⟨_, rfl⟩, hRE.2.1, hRE.2.2.1, hRE.2.2.2.mono (by decide) (by decide)⟩
      · exact retOut X5 hx Bd.returns rfl (Or.inr (Or.inr (Or.inr (Or.inr ⟨rfl, rfl, rfl⟩)))) (hb hby d6_30) hr
      · show Q6 Z vv cw h0 n0 _ T5.heap _
        exact ⟨r_5, _, rfl, NN, K, F_r_5⟩
      · show CHr Z own_EL s.vm s.heap T5.vm T5.heap
        rw [hh]
        exact HR.trans (CHv.at X5 hZ hEL H)
theorem d3_0 : decode prog_2_method_2_code 0 = .ok (.aload_n 0, 1) := by decide +kernel
theorem d3_1 : decode prog_2_method_2_code 1 = .ok (.getfield 19, 3) := by decide +kernel
theorem d3_4 : decode prog_2_method_2_code 4 = .ok (.aconst_null, 1) := by decide +kernel
theorem d3_5 : decode prog_2_method_2_code 5 = .ok (.invokestatic 25, 3) := by decide +kernel
theorem pd_7 : parseMethodDescriptor "([Ljava/lang/Object;Ljava/lang/Object;)V" = some ⟨[(.array (.object "java/lang/Object")), (.object "java/lang/Object")], none⟩ := by decide +kernel
theorem d3_8 : decode prog_2_method_2_code 8 = .ok (.aload_n 0, 1) := by decide +kernel
theorem d3_9 : decode prog_2_method_2_code 9 = .ok (.getfield 19, 3) := by decide +kernel
theorem d3_12 : decode prog_2_method_2_code 12 = .ok (.iconst 0, 1) := by decide +kernel
theorem d3_13 : decode prog_2_method_2_code 13 = .ok (.ldc 31, 2) := by decide +kernel
theorem d3_15 : decode prog_2_method_2_code 15 = .ok (.aastore, 1) := by decide +kernel
theorem d3_16 : decode prog_2_method_2_code 16 = .ok (.aload_n 0, 1) := by decide +kernel
theorem d3_17 : decode prog_2_method_2_code 17 = .ok (.getfield 19, 3) := by decide +kernel
theorem d3_20 : decode prog_2_method_2_code 20 = .ok (.iconst 1, 1) := by decide +kernel
theorem d3_21 : decode prog_2_method_2_code 21 = .ok (.ldc 33, 2) := by decide +kernel
theorem d3_23 : decode prog_2_method_2_code 23 = .ok (.aastore, 1) := by decide +kernel
theorem d3_24 : decode prog_2_method_2_code 24 = .ok (.aload_n 0, 1) := by decide +kernel
theorem d3_25 : decode prog_2_method_2_code 25 = .ok (.iconst 0, 1) := by decide +kernel
theorem d3_26 : decode prog_2_method_2_code 26 = .ok (.putfield 35, 3) := by decide +kernel
theorem d3_29 : decode prog_2_method_2_code 29 = .ok (.return_, 1) := by decide +kernel
theorem ef_3 (m : MethodId) (x0 : Addr) : entryFrame m #[(.ref x0)] 1 = mkF m 0 #[.val (.ref x0)] [] := by first | (simp [entryFrame, mkF, argsToLocals, Value.category]; done) | rfl
def Q3 (Z : State) (o : Addr) (un : Addr) (up : Addr) (pf : Addr) (kf : ClassId) (nz : Int32) (pfs : List Value) (u4 : Value) (h0 : Heap) (n0 : Nat) (vα : Option Value) (hα : Heap) (Lα : List Loc) : Prop := ∃ (pfz : List Value), vα = none ∧ Fr n0 Lα ∧ Keep h0 hα [o, pf] ∧ Exa Z hα o "coppice/marshal/context/NamespaceScope" ∧ Fld Z hα o "coppice/marshal/context/NamespaceScope" "undoNamespaces" "[I" (.ref un) ∧ Fld Z hα o "coppice/marshal/context/NamespaceScope" "undoPrefixes" "[Ljava/lang/String;" (.ref up) ∧ Fld Z hα o "coppice/marshal/context/NamespaceScope" "prefixes" "[Ljava/lang/String;" (.ref pf) ∧ Fld Z hα o "coppice/marshal/context/NamespaceScope" "undoCount" "I" (.int (0 : Int32)) ∧ Arv Z hα pf kf (.object "java/lang/String") nz pfz .null ∧ own_SL Z hα pfz (own_r0 nz) ∧ pfz.length = nz.toNatClampNeg
set_option maxRecDepth 65536 in
set_option maxHeartbeats 40000000 in
theorem rm3 (l : Launch) (Z : State) (a0 : Array Value) (hw : ∀ d ∈ tables_1, d.before a0 Z = true) (hEL : EW Z a0 own_EL) (wS : ∀ a ∈ Bundle.stringAtoms, a.before a0 Z = true) (ws : List Jvm.Cond) (o : Addr) (un : Addr) (up : Addr) (pf : Addr) (kf : ClassId) (nz : Int32) (pfs : List Value) (u4 : Value) (h0 : Heap) (n0 : Nat) (Z0 : n0 ≤ h0.size) (g_o : n0 ≤ o) (g_pf : n0 ≤ pf) (E_o : Exa Z h0 o "coppice/marshal/context/NamespaceScope") (F_un : Fld Z h0 o "coppice/marshal/context/NamespaceScope" "undoNamespaces" "[I" (.ref un)) (F_up : Fld Z h0 o "coppice/marshal/context/NamespaceScope" "undoPrefixes" "[Ljava/lang/String;" (.ref up)) (F_pf : Fld Z h0 o "coppice/marshal/context/NamespaceScope" "prefixes" "[Ljava/lang/String;" (.ref pf)) (F_uc : Fld Z h0 o "coppice/marshal/context/NamespaceScope" "undoCount" "I" u4) (V_pf : Arv Z h0 pf kf (.object "java/lang/String") nz pfs .null) (O_pf : Ovr Z kf "java/lang/String") (ne_o__pf : o ≠ pf) (hnz : 2 ≤ nz.toInt) (hpfs : pfs.length = nz.toNatClampNeg) :
    MetFree l (⟨"coppice/marshal/context/NamespaceScope", "reset", "()V"⟩ : MethodName) (head1 (Jvm.Cond.code (⟨"coppice/marshal/context/NamespaceScope", "reset", "()V"⟩ : MethodName) prog_2_method_2_code 1 none :: ws) ({ frames := 1, cells := 4, slots := 20, locals := 15 } : Room)) (fun aα U => aα = #[(.ref o)] ∧ Z.Warmed39 U.vm ∧ U.heap = h0 ∧ CHv Z own_EL U.vm h0) (fun _ _ _ _ _ => True) (fun _ U oα U' => ∃ vα Lα, oα = .returned vα ∧ Q3 Z o un up pf kf nz pfs u4 h0 n0 vα U'.heap Lα ∧ CHr Z own_EL U.vm U.heap U'.vm U'.heap ∧ ReturnedEndW U oα U' Lα ({ frames := 1, cells := 4, slots := 20, locals := 15 } : Room).cells ({ frames := 1, cells := 4, slots := 20, locals := 15 } : Room).slots) := by
  refine MetFree.of_bodySF (plainFor_of_name pn_3) hisR ?_
  intro p e s m args below meth c s₁ Bd hml0 hP hK
  refine own_wrap ?_
  intro GL hGL
  obtain ⟨rfl, hZ, hh, hCH⟩ := hP
  have hx := Bd.exec
  have hby := Bd.bytes
  have hml : c.maxLocals = 1 := hml0
  have hown : s.vm.findClass "coppice/marshal/context/NamespaceScope" = some m.cls := findClass_of_methodNamed Bd.named
  have hnm := (name_of_methodNamed Bd.named Bd.method).1
  have X0 : Stand p l e ({ frames := 1, cells := 4, slots := 20, locals := 15 } : Room) (s.setVm s.vm) m #[(.ref o)] below meth c s₁ [] 0 0 := Stand.of_body Bd
  have e0 : s₁.heap = h0 := by rw [← hh, Bd.state]; rfl
  have N0 := Fr.nil n0
  have pre0 : ∀ τ, Steps p.tables e below (s₁.setTop (mkF m 0 #[.val (.ref o)] [])) τ → Steps p.tables e below (s₁.setTop (entryFrame m #[(.ref o)] 1)) τ := fun τ κ => castTop (ef_3 m o) κ
  obtain ⟨G, hG, pre⟩ : ∃ G : State → Prop, (∀ τ, G τ → Steps p.tables e below (s₁.setTop (entryFrame m #[(.ref o)] 1)) τ) ∧ ∀ τ, Steps p.tables e below (s₁.setTop (mkF m 0 #[.val (.ref o)] [])) τ → G τ := ⟨_, pre0, fun _ k => k⟩
  have K : Keep h0 h0 [o, pf] := Keep.refl h0 _
  have Zn := Z0
  have hS : s.Since s.vm h0.size := (State.WarmedH.refl s).since _
  have hk : h0.size ≤ h0.size := Nat.le_refl _
  have H : CHv Z own_EL s.vm h0 := hCH
  have HR : CHr Z own_EL s.vm h0 s.vm h0 := CHr.refl H
  have pre : ∀ τ, Steps p.tables e below (s₁.setTop (mkF m 1 #[.val (.ref o)] [(.ref o)])) τ → G τ := fun τ κ => pre τ (by
    refine XS.aloadN X0.here hx rfl (hb hby d3_0) rfl rfl ?_
    show Steps p.tables e below (s₁.setTop (mkF m 1 #[.val (.ref o)] [(.ref o)])) τ
    exact κ)
  obtain ⟨T1, X1, e1, st1⟩ := getF X0 hx hZ hown (host := "") (Or.inl (hw _ (List.mem_of_getElem? (i := 16) rfl))) Via.refl e0 F_pf (g := (mkF m 1 #[.val (.ref o)] [(.ref o)])) rfl rfl (hb hby d3_1)
  have pre : ∀ τ, Steps p.tables e below (T1.setTop (mkF m 4 #[.val (.ref o)] [(.ref pf)])) τ → G τ := fun τ κ => pre τ (st1 τ κ)
  have pre : ∀ τ, Steps p.tables e below (T1.setTop (mkF m 5 #[.val (.ref o)] [.null, (.ref pf)])) τ → G τ := fun τ κ => pre τ (by
    refine XS.aconstNull X1.here hx rfl (hb hby d3_4) ?_
    show Steps p.tables e below (T1.setTop (mkF m 5 #[.val (.ref o)] [.null, (.ref pf)])) τ
    exact κ)
  obtain ⟨_, _, ⟨T2, Lx2, kx2, nx2⟩, -, X2, ⟨Lc2, hQ2, l2, y2, z2⟩, st2⟩ := Jvm.LawKit.callS X1 hx (y := (⟨"java/util/Arrays", "fill", "([Ljava/lang/Object;Ljava/lang/Object;)V"⟩ : MethodName)) hown (mvT hZ (hw _ (List.mem_of_getElem? (i := 23) rfl))) (mvT hZ (hw _ (List.mem_of_getElem? (i := 24) rfl))) (mvT hZ (hw _ (List.mem_of_getElem? (i := 25) rfl))) (mvT hZ (hw _ (List.mem_of_getElem? (i := 26) rfl))) (by decide) (backOf (W := 0) (rm4 l Z a0 hw [] pf kf nz pfs h0 n0 Zn g_pf V_pf hpfs) hZ (hw _ (List.mem_of_getElem? (i := 26) rfl)) (hw _ (List.mem_of_getElem? (i := 25) rfl)) (by decide) (by decide)) (g := (mkF m 5 #[.val (.ref o)] [.null, (.ref pf)])) rfl (by rw [hml]; rfl) (argsL := [(.ref pf), .null]) (rest := []) (lenOf pd_7 rfl) rfl (by show 2 * 0 + _ ≤ _; exact Nat.le_of_eq rfl) (hb hby d3_5) (fun _ _ => ⟨rfl, e1, (by decide : 0 + 0 ≤ _), (by decide : 0 + 0 ≤ _)⟩)
  dsimp only [Pt.U, Pt.locs, Pt.cells, Pt.slots] at X2 l2 y2 z2 st2 hQ2
  replace y2 : kx2 = 0 := y2
  replace z2 : nx2 = 0 := z2
  subst y2 z2
  obtain ⟨rfl, Nq2, Kc2, V_arr_2⟩ := hQ2
  have NN : Fr n0 Lx2 := by rw [l2]; exact Fr.app N0 Nq2
  have Nss : ∀ x ∈ [pf], own_ns Z h0 x := (allS (own_nsV V_pf (by decide)) all0)
  have hk := Nat.le_trans hk Kc2.1
  have HR := HR.trans (CHr.keep Kc2 (fun x hx => own_safe hZ.alike (Nss x hx)) H)
  have H := HR.1
  have E_o : Exa Z T2.heap o "coppice/marshal/context/NamespaceScope" := E_o.keep Kc2
  have F_un : Fld Z T2.heap o "coppice/marshal/context/NamespaceScope" "undoNamespaces" "[I" (.ref un) := F_un.keep Kc2 (ninS ne_o__pf nin0)
  have F_up : Fld Z T2.heap o "coppice/marshal/context/NamespaceScope" "undoPrefixes" "[Ljava/lang/String;" (.ref up) := F_up.keep Kc2 (ninS ne_o__pf nin0)
  have F_pf : Fld Z T2.heap o "coppice/marshal/context/NamespaceScope" "prefixes" "[Ljava/lang/String;" (.ref pf) := F_pf.keep Kc2 (ninS ne_o__pf nin0)
  have F_uc : Fld Z T2.heap o "coppice/marshal/context/NamespaceScope" "undoCount" "I" u4 := F_uc.keep Kc2 (ninS ne_o__pf nin0)
  have Zn : n0 ≤ T2.heap.size := Nat.le_trans Zn Kc2.1
  have K : Keep h0 T2.heap [o, pf] := K.trans Kc2 (allS (Or.inl (List.mem_of_getElem? (i := 1) rfl)) all0)
  have pre : ∀ τ, Steps p.tables e below (T2.setTop (mkF m 8 #[.val (.ref o)] [])) τ → G τ := fun τ κ => pre τ (st2 τ κ)
  have L_pf : own_SL Z T2.heap (List.replicate nz.toNatClampNeg .null) (List.replicate nz.toNatClampNeg (none : own_T)) := own_SL_rep _
  have pre : ∀ τ, Steps p.tables e below (T2.setTop (mkF m 9 #[.val (.ref o)] [(.ref o)])) τ → G τ := fun τ κ => pre τ (by
    refine XS.aloadN X2.here hx rfl (hb hby d3_8) rfl rfl ?_
    show Steps p.tables e below (T2.setTop (mkF m 9 #[.val (.ref o)] [(.ref o)])) τ
    exact κ)
  obtain ⟨T3, X3, e3, st3⟩ := getF X2 hx hZ hown (host := "") (Or.inl (hw _ (List.mem_of_getElem? (i := 16) rfl))) Via.refl rfl F_pf (g := (mkF m 9 #[.val (.ref o)] [(.ref o)])) rfl rfl (hb hby d3_9)
  have pre : ∀ τ, Steps p.tables e below (T3.setTop (mkF m 12 #[.val (.ref o)] [(.ref pf)])) τ → G τ := fun τ κ => pre τ (st3 τ κ)
  have pre : ∀ τ, Steps p.tables e below (T3.setTop (mkF m 13 #[.val (.ref o)] [(.int (0 : Int32)), (.ref pf)])) τ → G τ := fun τ κ => pre τ (by
    refine XS.iconst X3.here hx rfl (hb hby d3_12) ?_
    show Steps p.tables e below (T3.setTop (mkF m 13 #[.val (.ref o)] [(.int (0 : Int32)), (.ref pf)])) τ
    exact κ)
  obtain ⟨as4, T4, h4, kn4, bs4, kc4, X4, e4, E4, hS, hk, hZ, hown, Ea4, Ca4, Va4, Ba4, la4, lb4, HRn4, Li4, sf4, st4⟩ := ldcCH X3 hx hZ hown (hw _ (List.mem_of_getElem? (i := 27) rfl)) wS e3 hS hk hEL (List.mem_of_getElem? (i := 0) rfl) H (vs := []) (z := (0 : Int32)) ⟨by decide, rfl⟩ (by decide) rfl (g := (mkF m 13 #[.val (.ref o)] [(.int (0 : Int32)), (.ref pf)])) rfl (hb hby d3_13) (n := 0) (by decide) (by decide) (by decide) (by decide)
  have E_o : Exa Z h4 o "coppice/marshal/context/NamespaceScope" := E_o.ext E4
  have F_un : Fld Z h4 o "coppice/marshal/context/NamespaceScope" "undoNamespaces" "[I" (.ref un) := F_un.ext E4
  have F_up : Fld Z h4 o "coppice/marshal/context/NamespaceScope" "undoPrefixes" "[Ljava/lang/String;" (.ref up) := F_up.ext E4
  have F_pf : Fld Z h4 o "coppice/marshal/context/NamespaceScope" "prefixes" "[Ljava/lang/String;" (.ref pf) := F_pf.ext E4
  have F_uc : Fld Z h4 o "coppice/marshal/context/NamespaceScope" "undoCount" "I" u4 := F_uc.ext E4
  have V_arr_2 : Arv Z h4 pf kf (.object "java/lang/String") nz (List.replicate nz.toNatClampNeg .null) .null := V_arr_2.ext E4
  have L_pf : own_SL Z h4 (List.replicate nz.toNatClampNeg .null) (List.replicate nz.toNatClampNeg (none : own_T)) := own_SL_ext L_pf E4
  have Zn : n0 ≤ h4.size := Nat.le_trans Zn E4.1
  have K : Keep h0 h4 [o, pf] := K.ext E4
  have HR := HR.trans HRn4
  have H := HR.1
  have F_s4 : own_S Z h4 (.ref as4) (some []) := Or.inr ⟨_, _, _, _, _, _, rfl, rfl, (hw _ (List.mem_of_getElem? (i := 29) rfl)), Ea4, Ca4, Va4, Ba4, rfl⟩
  have pre : ∀ τ, Steps p.tables e below (T4.setTop (mkF m 15 #[.val (.ref o)] [(.ref as4), (.int (0 : Int32)), (.ref pf)])) τ → G τ := fun τ κ => pre τ (st4 τ κ)
  obtain ⟨c5, Ar5, q5, S5, Nz5, Hh5, Gg5⟩ := id V_arr_2
  have hin5 : ¬ ((0 : Int32) < 0 ∨ c5.slots.size ≤ ((0 : Int32)).toNatClampNeg) := inb_of S5 (own_b01 hnz).1
  obtain ⟨T5, h5, X5, e5, W5, st5⟩ := stR X4 hx hZ e4 Ar5 (j := (0 : Int32)) hin5 rfl (own_S_sto F_s4 Ar5 q5 O_pf) (g := (mkF m 15 #[.val (.ref o)] [(.ref as4), (.int (0 : Int32)), (.ref pf)])) rfl rfl (hb hby d3_15)
  have V_arr_2 : Arv Z h5 pf kf (.object "java/lang/String") nz ((List.replicate nz.toNatClampNeg .null).set ((0 : Int32)).toNatClampNeg (.ref as4)) .null := Arv.set Ar5 q5 S5 Nz5 Hh5 Gg5 (own_S_fit F_s4) W5 _ rfl (own_lt2 (own_b01 hnz).1 (by rw [List.length_replicate]))
  have Ns := (Or.inr ⟨_, _, Ar5, by decide⟩ : own_ns Z h4 pf)
  have hk := Nat.le_trans hk (Keep.of_wr W5).1
  have HR := HR.trans (CHr.wr W5 (own_safe hZ.alike Ns) H)
  have H := HR.1
  have E_o : Exa Z h5 o "coppice/marshal/context/NamespaceScope" := E_o.wr W5
  have F_un : Fld Z h5 o "coppice/marshal/context/NamespaceScope" "undoNamespaces" "[I" (.ref un) := F_un.other W5 (Or.inl ne_o__pf)
  have F_up : Fld Z h5 o "coppice/marshal/context/NamespaceScope" "undoPrefixes" "[Ljava/lang/String;" (.ref up) := F_up.other W5 (Or.inl ne_o__pf)
  have F_pf : Fld Z h5 o "coppice/marshal/context/NamespaceScope" "prefixes" "[Ljava/lang/String;" (.ref pf) := F_pf.other W5 (Or.inl ne_o__pf)
  have F_uc : Fld Z h5 o "coppice/marshal/context/NamespaceScope" "undoCount" "I" u4 := F_uc.other W5 (Or.inl ne_o__pf)
  have L_pf : own_SL Z h5 (List.replicate nz.toNatClampNeg .null) (List.replicate nz.toNatClampNeg (none : own_T)) := own_SL_wr L_pf W5 Ns
  have F_s4 : own_S Z h5 (.ref as4) (some []) := own_S_wr F_s4 W5 Ns
  have Zn : n0 ≤ h5.size := Nat.le_trans Zn (Keep.of_wr W5).1
  have K : Keep h0 h5 [o, pf] := K.wr W5 (Or.inl (List.mem_of_getElem? (i := 1) rfl))
  have NN := Fr.snoc X5 NN g_pf
  have pre : ∀ τ, Steps p.tables e below (T5.setTop (mkF m 16 #[.val (.ref o)] [])) τ → G τ := fun τ κ => pre τ (st5 τ κ)
  have L_pf : own_SL Z h5 ((List.replicate nz.toNatClampNeg .null).set ((0 : Int32)).toNatClampNeg (.ref as4)) ((List.replicate nz.toNatClampNeg (none : own_T)).set ((0 : Int32)).toNatClampNeg (some [])) := own_SL_set L_pf F_s4 _
  have pre : ∀ τ, Steps p.tables e below (T5.setTop (mkF m 17 #[.val (.ref o)] [(.ref o)])) τ → G τ := fun τ κ => pre τ (by
    refine XS.aloadN X5.here hx rfl (hb hby d3_16) rfl rfl ?_
    show Steps p.tables e below (T5.setTop (mkF m 17 #[.val (.ref o)] [(.ref o)])) τ
    exact κ)
  obtain ⟨T6, X6, e6, st6⟩ := getF X5 hx hZ hown (host := "") (Or.inl (hw _ (List.mem_of_getElem? (i := 16) rfl))) Via.refl e5 F_pf (g := (mkF m 17 #[.val (.ref o)] [(.ref o)])) rfl rfl (hb hby d3_17)
  have pre : ∀ τ, Steps p.tables e below (T6.setTop (mkF m 20 #[.val (.ref o)] [(.ref pf)])) τ → G τ := fun τ κ => pre τ (st6 τ κ)
  have pre : ∀ τ, Steps p.tables e below (T6.setTop (mkF m 21 #[.val (.ref o)] [(.int (1 : Int32)), (.ref pf)])) τ → G τ := fun τ κ => pre τ (by
    refine XS.iconst X6.here hx rfl (hb hby d3_20) ?_
    show Steps p.tables e below (T6.setTop (mkF m 21 #[.val (.ref o)] [(.int (1 : Int32)), (.ref pf)])) τ
    exact κ)
  obtain ⟨as7, T7, h7, kn7, bs7, kc7, X7, e7, E7, hS, hk, hZ, hown, Ea7, Ca7, Va7, Ba7, la7, lb7, HRn7, Li7, sf7, st7⟩ := ldcCH X6 hx hZ hown (hw _ (List.mem_of_getElem? (i := 36) rfl)) wS e6 hS hk hEL (List.mem_of_getElem? (i := 1) rfl) H (vs := [(.int (120 : Int32)), (.int (109 : Int32)), (.int (108 : Int32))]) (z := (3 : Int32)) ⟨by decide, rfl⟩ (by decide) rfl (g := (mkF m 21 #[.val (.ref o)] [(.int (1 : Int32)), (.ref pf)])) rfl (hb hby d3_21) (n := 12) (by decide) (by decide) (by decide) (by decide)
  have E_o : Exa Z h7 o "coppice/marshal/context/NamespaceScope" := E_o.ext E7
  have F_un : Fld Z h7 o "coppice/marshal/context/NamespaceScope" "undoNamespaces" "[I" (.ref un) := F_un.ext E7
  have F_up : Fld Z h7 o "coppice/marshal/context/NamespaceScope" "undoPrefixes" "[Ljava/lang/String;" (.ref up) := F_up.ext E7
  have F_pf : Fld Z h7 o "coppice/marshal/context/NamespaceScope" "prefixes" "[Ljava/lang/String;" (.ref pf) := F_pf.ext E7
  have F_uc : Fld Z h7 o "coppice/marshal/context/NamespaceScope" "undoCount" "I" u4 := F_uc.ext E7
  have V_arr_2 : Arv Z h7 pf kf (.object "java/lang/String") nz ((List.replicate nz.toNatClampNeg .null).set ((0 : Int32)).toNatClampNeg (.ref as4)) .null := V_arr_2.ext E7
  have L_pf : own_SL Z h7 ((List.replicate nz.toNatClampNeg .null).set ((0 : Int32)).toNatClampNeg (.ref as4)) ((List.replicate nz.toNatClampNeg (none : own_T)).set ((0 : Int32)).toNatClampNeg (some [])) := own_SL_ext L_pf E7
  have F_s4 : own_S Z h7 (.ref as4) (some []) := own_S_ext F_s4 E7
  have Zn : n0 ≤ h7.size := Nat.le_trans Zn E7.1
  have K : Keep h0 h7 [o, pf] := K.ext E7
  have HR := HR.trans HRn7
  have H := HR.1
  have F_s7 : own_S Z h7 (.ref as7) (some [(.int (120 : Int32)), (.int (109 : Int32)), (.int (108 : Int32))]) := Or.inr ⟨_, _, _, _, _, _, rfl, rfl, (hw _ (List.mem_of_getElem? (i := 29) rfl)), Ea7, Ca7, Va7, Ba7, rfl⟩
  have pre : ∀ τ, Steps p.tables e below (T7.setTop (mkF m 23 #[.val (.ref o)] [(.ref as7), (.int (1 : Int32)), (.ref pf)])) τ → G τ := fun τ κ => pre τ (st7 τ κ)
  obtain ⟨c8, Ar8, q8, S8, Nz8, Hh8, Gg8⟩ := id V_arr_2
  have hin8 : ¬ ((1 : Int32) < 0 ∨ c8.slots.size ≤ ((1 : Int32)).toNatClampNeg) := inb_of S8 (own_b01 hnz).2
  obtain ⟨T8, h8, X8, e8, W8, st8⟩ := stR X7 hx hZ e7 Ar8 (j := (1 : Int32)) hin8 rfl (own_S_sto F_s7 Ar8 q8 O_pf) (g := (mkF m 23 #[.val (.ref o)] [(.ref as7), (.int (1 : Int32)), (.ref pf)])) rfl rfl (hb hby d3_23)
  have V_arr_2 : Arv Z h8 pf kf (.object "java/lang/String") nz (((List.replicate nz.toNatClampNeg .null).set ((0 : Int32)).toNatClampNeg (.ref as4)).set ((1 : Int32)).toNatClampNeg (.ref as7)) .null := Arv.set Ar8 q8 S8 Nz8 Hh8 Gg8 (own_S_fit F_s7) W8 _ rfl (own_lt2 (own_b01 hnz).2 (by rw [List.length_set, List.length_replicate]))
  have Ns := (Or.inr ⟨_, _, Ar8, by decide⟩ : own_ns Z h7 pf)
  have hk := Nat.le_trans hk (Keep.of_wr W8).1
  have HR := HR.trans (CHr.wr W8 (own_safe hZ.alike Ns) H)
  have H := HR.1
  have E_o : Exa Z h8 o "coppice/marshal/context/NamespaceScope" := E_o.wr W8
  have F_un : Fld Z h8 o "coppice/marshal/context/NamespaceScope" "undoNamespaces" "[I" (.ref un) := F_un.other W8 (Or.inl ne_o__pf)
  have F_up : Fld Z h8 o "coppice/marshal/context/NamespaceScope" "undoPrefixes" "[Ljava/lang/String;" (.ref up) := F_up.other W8 (Or.inl ne_o__pf)
  have F_pf : Fld Z h8 o "coppice/marshal/context/NamespaceScope" "prefixes" "[Ljava/lang/String;" (.ref pf) := F_pf.other W8 (Or.inl ne_o__pf)
  have F_uc : Fld Z h8 o "coppice/marshal/context/NamespaceScope" "undoCount" "I" u4 := F_uc.other W8 (Or.inl ne_o__pf)
  have L_pf : own_SL Z h8 ((List.replicate nz.toNatClampNeg .null).set ((0 : Int32)).toNatClampNeg (.ref as4)) ((List.replicate nz.toNatClampNeg (none : own_T)).set ((0 : Int32)).toNatClampNeg (some [])) := own_SL_wr L_pf W8 Ns
  have F_s4 : own_S Z h8 (.ref as4) (some []) := own_S_wr F_s4 W8 Ns
  have F_s7 : own_S Z h8 (.ref as7) (some [(.int (120 : Int32)), (.int (109 : Int32)), (.int (108 : Int32))]) := own_S_wr F_s7 W8 Ns
  have Zn : n0 ≤ h8.size := Nat.le_trans Zn (Keep.of_wr W8).1
  have K : Keep h0 h8 [o, pf] := K.wr W8 (Or.inl (List.mem_of_getElem? (i := 1) rfl))
  have NN := Fr.snoc X8 NN g_pf
  have pre : ∀ τ, Steps p.tables e below (T8.setTop (mkF m 24 #[.val (.ref o)] [])) τ → G τ := fun τ κ => pre τ (st8 τ κ)
  have L_pf : own_SL Z h8 (((List.replicate nz.toNatClampNeg .null).set ((0 : Int32)).toNatClampNeg (.ref as4)).set ((1 : Int32)).toNatClampNeg (.ref as7)) (((List.replicate nz.toNatClampNeg (none : own_T)).set ((0 : Int32)).toNatClampNeg (some [])).set ((1 : Int32)).toNatClampNeg (some [(.int (120 : Int32)), (.int (109 : Int32)), (.int (108 : Int32))])) := own_SL_set L_pf F_s7 _
  have pre : ∀ τ, Steps p.tables e below (T8.setTop (mkF m 26 #[.val (.ref o)] [(.int (0 : Int32)), (.ref o)])) τ → G τ := fun τ κ => pre τ (by
    refine XS.aloadN X8.here hx rfl (hb hby d3_24) rfl rfl ?_
    show Steps p.tables e below (T8.setTop (mkF m 25 #[.val (.ref o)] [(.ref o)])) τ
    refine XS.iconst X8.here hx rfl (hb hby d3_25) ?_
    show Steps p.tables e below (T8.setTop (mkF m 26 #[.val (.ref o)] [(.int (0 : Int32)), (.ref o)])) τ
    exact κ)
  obtain ⟨T9, h9, X9, e9, W9, st9⟩ := putF X8 hx hZ hown (host := "") (Or.inl (hw _ (List.mem_of_getElem? (i := 37) rfl))) Via.refl e8 F_uc E_o (Or.inl (hw _ (List.mem_of_getElem? (i := 38) rfl))) (hw _ (List.mem_of_getElem? (i := 1) rfl)) (ty := .int) (by decide) rfl rfl (g := (mkF m 26 #[.val (.ref o)] [(.int (0 : Int32)), (.ref o)])) rfl rfl (hb hby d3_26)
  have F_uc : Fld Z h9 o "coppice/marshal/context/NamespaceScope" "undoCount" "I" (.int (0 : Int32)) := F_uc.same W9
  have Ns := (own_nsE E_o (hw _ (List.mem_of_getElem? (i := 1) rfl)) (by decide) (by decide))
  have hk := Nat.le_trans hk (Keep.of_wr W9).1
  have HR := HR.trans (CHr.wr W9 (own_safe hZ.alike Ns) H)
  have H := HR.1
  have E_o : Exa Z h9 o "coppice/marshal/context/NamespaceScope" := E_o.wr W9
  have F_un : Fld Z h9 o "coppice/marshal/context/NamespaceScope" "undoNamespaces" "[I" (.ref un) := F_un.other W9 (Or.inr (slot_ne (Or.inl (hw _ (List.mem_of_getElem? (i := 11) rfl))) (Or.inl (hw _ (List.mem_of_getElem? (i := 38) rfl))) (by decide) (t := (.array .int)) (t' := .int) (by decide) (by decide)))
  have F_up : Fld Z h9 o "coppice/marshal/context/NamespaceScope" "undoPrefixes" "[Ljava/lang/String;" (.ref up) := F_up.other W9 (Or.inr (slot_ne (Or.inl (hw _ (List.mem_of_getElem? (i := 15) rfl))) (Or.inl (hw _ (List.mem_of_getElem? (i := 38) rfl))) (by decide) (t := (.array (.object "java/lang/String"))) (t' := .int) (by decide) (by decide)))
  have F_pf : Fld Z h9 o "coppice/marshal/context/NamespaceScope" "prefixes" "[Ljava/lang/String;" (.ref pf) := F_pf.other W9 (Or.inr (slot_ne (Or.inr (hw _ (List.mem_of_getElem? (i := 17) rfl))) (Or.inl (hw _ (List.mem_of_getElem? (i := 38) rfl))) (by decide) (t := (.array (.object "java/lang/String"))) (t' := .int) (by decide) (by decide)))
  have V_arr_2 : Arv Z h9 pf kf (.object "java/lang/String") nz (((List.replicate nz.toNatClampNeg .null).set ((0 : Int32)).toNatClampNeg (.ref as4)).set ((1 : Int32)).toNatClampNeg (.ref as7)) .null := V_arr_2.other W9 (Ne.symm ne_o__pf)
  have L_pf : own_SL Z h9 (((List.replicate nz.toNatClampNeg .null).set ((0 : Int32)).toNatClampNeg (.ref as4)).set ((1 : Int32)).toNatClampNeg (.ref as7)) (((List.replicate nz.toNatClampNeg (none : own_T)).set ((0 : Int32)).toNatClampNeg (some [])).set ((1 : Int32)).toNatClampNeg (some [(.int (120 : Int32)), (.int (109 : Int32)), (.int (108 : Int32))])) := own_SL_wr L_pf W9 Ns
  have F_s4 : own_S Z h9 (.ref as4) (some []) := own_S_wr F_s4 W9 Ns
  have F_s7 : own_S Z h9 (.ref as7) (some [(.int (120 : Int32)), (.int (109 : Int32)), (.int (108 : Int32))]) := own_S_wr F_s7 W9 Ns
  have Zn : n0 ≤ h9.size := Nat.le_trans Zn (Keep.of_wr W9).1
  have K : Keep h0 h9 [o, pf] := K.wr W9 (Or.inl (List.mem_of_getElem? (i := 0) rfl))
  have NN := Fr.snoc X9 NN g_o
  have pre : ∀ τ, Steps p.tables e below (T9.setTop (mkF m 29 #[.val (.ref o)] [])) τ → G τ := fun τ κ => pre τ (st9 τ κ)
  have hkT := Nat.le_trans hk (Nat.le_of_eq (congrArg Array.size (Eq.symm e9)))
  obtain ⟨fsα, hr, hrun, hended, hRE⟩ := X9.leaveW hS hkT (v := none) (fun _ => rfl)
  refine hGL ⟨_, _, hG _ (pre _ ?_), hrun, hended, _, _, rfl, ?_, ?_, ⟨_, rfl⟩, hRE.2.1, hRE.2.2.1, hRE.2.2.2.mono (by decide) (by decide)⟩
  · exact X9.returnOut hx Bd.returns (hb hby d3_29) hr
  · show Q3 Z o un up pf kf nz pfs u4 h0 n0 _ T9.heap _
    rw [e9]
    exact ⟨_, rfl, NN, K, E_o, F_un, F_up, F_pf, F_uc, V_arr_2, L_pf, by rw [List.length_set, List.length_set, List.length_replicate]⟩
  · show CHr Z own_EL s.vm s.heap T9.vm T9.heap
    rw [hh, e9]
    exact HR.trans (CHv.at X9 hZ hEL H)
theorem d1_0 : decode prog_2_method_1_code 0 = .ok (.aload_n 0, 1) := by decide +kernel
theorem d1_1 : decode prog_2_method_1_code 1 = .ok (.invokespecial 1, 3) := by decide +kernel
theorem d1_4 : decode prog_2_method_1_code 4 = .ok (.aload_n 0, 1) := by decide +kernel
theorem d1_5 : decode prog_2_method_1_code 5 = .ok (.bipush 16, 2) := by decide +kernel
theorem d1_7 : decode prog_2_method_1_code 7 = .ok (.newarray .int, 2) := by decide +kernel
theorem d1_9 : decode prog_2_method_1_code 9 = .ok (.putfield 7, 3) := by decide +kernel
theorem d1_12 : decode prog_2_method_1_code 12 = .ok (.aload_n 0, 1) := by decide +kernel
theorem d1_13 : decode prog_2_method_1_code 13 = .ok (.bipush 16, 2) := by decide +kernel
theorem d1_15 : decode prog_2_method_1_code 15 = .ok (.anewarray 13, 3) := by decide +kernel
theorem d1_18 : decode prog_2_method_1_code 18 = .ok (.putfield 15, 3) := by decide +kernel
theorem d1_21 : decode prog_2_method_1_code 21 = .ok (.aload_n 0, 1) := by decide +kernel
theorem d1_22 : decode prog_2_method_1_code 22 = .ok (.iload_n 1, 1) := by decide +kernel
theorem d1_23 : decode prog_2_method_1_code 23 = .ok (.anewarray 13, 3) := by decide +kernel
theorem d1_26 : decode prog_2_method_1_code 26 = .ok (.putfield 19, 3) := by decide +kernel
theorem d1_29 : decode prog_2_method_1_code 29 = .ok (.aload_n 0, 1) := by decide +kernel
theorem d1_30 : decode prog_2_method_1_code 30 = .ok (.invokevirtual 22, 3) := by decide +kernel
theorem pd_8 : parseMethodDescriptor "()V" = some ⟨[], none⟩ := by decide +kernel
theorem d1_33 : decode prog_2_method_1_code 33 = .ok (.return_, 1) := by decide +kernel
theorem ef_1 (m : MethodId) (x0 : Addr) (x1 : Int32) : entryFrame m #[(.ref x0), (.int x1)] 2 = mkF m 0 #[.val (.ref x0), .val (.int x1)] [] := by first | (simp [entryFrame, mkF, argsToLocals, Value.category]; done) | rfl
def Q1 (Z : State) (o : Addr) (nz : Int32) (u1 : Value) (u2 : Value) (u3 : Value) (u4 : Value) (h0 : Heap) (n0 : Nat) (vα : Option Value) (hα : Heap) (Lα : List Loc) : Prop := ∃ (un : Addr) (up : Addr) (pf : Addr) (ku : ClassId) (kp : ClassId) (kf : ClassId) (pfz : List Value), vα = none ∧ Fr n0 Lα ∧ Keep h0 hα [o] ∧ n0 ≤ un ∧ h0.size ≤ un ∧ n0 ≤ up ∧ h0.size ≤ up ∧ n0 ≤ pf ∧ h0.size ≤ pf ∧ un ≠ up ∧ un ≠ pf ∧ up ≠ pf ∧ Ovr Z kp "java/lang/String" ∧ Ovr Z kf "java/lang/String" ∧ Exa Z hα o "coppice/marshal/context/NamespaceScope" ∧ Fld Z hα o "coppice/marshal/context/NamespaceScope" "undoNamespaces" "[I" (.ref un) ∧ Fld Z hα o "coppice/marshal/context/NamespaceScope" "undoPrefixes" "[Ljava/lang/String;" (.ref up) ∧ Fld Z hα o "coppice/marshal/context/NamespaceScope" "prefixes" "[Ljava/lang/String;" (.ref pf) ∧ Fld Z hα o "coppice/marshal/context/NamespaceScope" "undoCount" "I" (.int (0 : Int32)) ∧ Arv Z hα un ku .int (16 : Int32) (List.replicate 16 (.int (0 : Int32))) (.int (0 : Int32)) ∧ Arv Z hα up kp (.object "java/lang/String") (16 : Int32) (List.replicate 16 .null) .null ∧ Arv Z hα pf kf (.object "java/lang/String") nz pfz .null ∧ own_SL Z hα (List.replicate 16 .null) (List.replicate 16 (none : own_T)) ∧ own_SL Z hα pfz (own_r0 nz) ∧ pfz.length = nz.toNatClampNeg
set_option maxRecDepth 65536 in
set_option maxHeartbeats 40000000 in
theorem rm1 (l : Launch) (Z : State) (a0 : Array Value) (hw : ∀ d ∈ tables_1, d.before a0 Z = true) (hEL : EW Z a0 own_EL) (wS : ∀ a ∈ Bundle.stringAtoms, a.before a0 Z = true) (ws : List Jvm.Cond) (o : Addr) (nz : Int32) (u1 : Value) (u2 : Value) (u3 : Value) (u4 : Value) (h0 : Heap) (n0 : Nat) (Z0 : n0 ≤ h0.size) (g_o : n0 ≤ o) (E_o : Exa Z h0 o "coppice/marshal/context/NamespaceScope") (F_un : Fld Z h0 o "coppice/marshal/context/NamespaceScope" "undoNamespaces" "[I" u1) (F_up : Fld Z h0 o "coppice/marshal/context/NamespaceScope" "undoPrefixes" "[Ljava/lang/String;" u2) (F_pf : Fld Z h0 o "coppice/marshal/context/NamespaceScope" "prefixes" "[Ljava/lang/String;" u3) (F_uc : Fld Z h0 o "coppice/marshal/context/NamespaceScope" "undoCount" "I" u4) (hnz : 2 ≤ nz.toInt) (hcap : nz.toNatClampNeg ≤ 5) :
    MetFree l (⟨"coppice/marshal/context/NamespaceScope", "<init>", "(I)V"⟩ : MethodName) (head1 (Jvm.Cond.code (⟨"coppice/marshal/context/NamespaceScope", "<init>", "(I)V"⟩ : MethodName) prog_2_method_1_code 2 none :: ws) ({ frames := 2, cells := 7, slots := 57, locals := 27 } : Room)) (fun aα U => aα = #[(.ref o), (.int nz)] ∧ Z.Warmed39 U.vm ∧ U.heap = h0 ∧ CHv Z own_EL U.vm h0) (fun _ _ _ _ _ => True) (fun _ U oα U' => ∃ vα Lα, oα = .returned vα ∧ Q1 Z o nz u1 u2 u3 u4 h0 n0 vα U'.heap Lα ∧ CHr Z own_EL U.vm U.heap U'.vm U'.heap ∧ ReturnedEndW U oα U' Lα ({ frames := 2, cells := 7, slots := 57, locals := 27 } : Room).cells ({ frames := 2, cells := 7, slots := 57, locals := 27 } : Room).slots) := by
  refine MetFree.of_bodySF (plainFor_of_name pn_3) hisR ?_
  intro p e s m args below meth c s₁ Bd hml0 hP hK
  refine own_wrap ?_
  intro GL hGL
  obtain ⟨rfl, hZ, hh, hCH⟩ := hP
  have hx := Bd.exec
  have hby := Bd.bytes
  have hml : c.maxLocals = 2 := hml0
  have hown : s.vm.findClass "coppice/marshal/context/NamespaceScope" = some m.cls := findClass_of_methodNamed Bd.named
  have hnm := (name_of_methodNamed Bd.named Bd.method).1
  have X0 : Stand p l e ({ frames := 2, cells := 7, slots := 57, locals := 27 } : Room) (s.setVm s.vm) m #[(.ref o), (.int nz)] below meth c s₁ [] 0 0 := Stand.of_body Bd
  have e0 : s₁.heap = h0 := by rw [← hh, Bd.state]; rfl
  have N0 := Fr.nil n0
  have pre0 : ∀ τ, Steps p.tables e below (s₁.setTop (mkF m 0 #[.val (.ref o), .val (.int nz)] [])) τ → Steps p.tables e below (s₁.setTop (entryFrame m #[(.ref o), (.int nz)] 2)) τ := fun τ κ => castTop (ef_1 m o nz) κ
  obtain ⟨G, hG, pre⟩ : ∃ G : State → Prop, (∀ τ, G τ → Steps p.tables e below (s₁.setTop (entryFrame m #[(.ref o), (.int nz)] 2)) τ) ∧ ∀ τ, Steps p.tables e below (s₁.setTop (mkF m 0 #[.val (.ref o), .val (.int nz)] [])) τ → G τ := ⟨_, pre0, fun _ k => k⟩
  have K : Keep h0 h0 [o] := Keep.refl h0 _
  have Zn := Z0
  have hS : s.Since s.vm h0.size := (State.WarmedH.refl s).since _
  have hk : h0.size ≤ h0.size := Nat.le_refl _
  have H : CHv Z own_EL s.vm h0 := hCH
  have HR : CHr Z own_EL s.vm h0 s.vm h0 := CHr.refl H
  have pre : ∀ τ, Steps p.tables e below (s₁.setTop (mkF m 1 #[.val (.ref o), .val (.int nz)] [(.ref o)])) τ → G τ := fun τ κ => pre τ (by
    refine XS.aloadN X0.here hx rfl (hb hby d1_0) rfl rfl ?_
    show Steps p.tables e below (s₁.setTop (mkF m 1 #[.val (.ref o), .val (.int nz)] [(.ref o)])) τ
    exact κ)
  obtain ⟨T1, X1, e1, st1⟩ := initO X0 hx hZ hown (hw _ (List.mem_of_getElem? (i := 6) rfl)) (hw _ (List.mem_of_getElem? (i := 7) rfl)) (hw _ (List.mem_of_getElem? (i := 8) rfl)) e0 (g := (mkF m 1 #[.val (.ref o), .val (.int nz)] [(.ref o)])) rfl (by rw [hml]; rfl) rfl (hb hby d1_1) (by decide) (W := 0) (by show 2 * 0 + _ ≤ _; exact Nat.le_of_eq rfl) (by decide)
  have pre : ∀ τ, Steps p.tables e below (T1.setTop (mkF m 4 #[.val (.ref o), .val (.int nz)] [])) τ → G τ := fun τ κ => pre τ (st1 τ κ)
  have pre : ∀ τ, Steps p.tables e below (T1.setTop (mkF m 7 #[.val (.ref o), .val (.int nz)] [(.int (16 : Int32)), (.ref o)])) τ → G τ := fun τ κ => pre τ (by
    refine XS.aloadN X1.here hx rfl (hb hby d1_4) rfl rfl ?_
    show Steps p.tables e below (T1.setTop (mkF m 5 #[.val (.ref o), .val (.int nz)] [(.ref o)])) τ
    refine XS.bipush X1.here hx rfl (hb hby d1_5) ?_
    show Steps p.tables e below (T1.setTop (mkF m 7 #[.val (.ref o), .val (.int nz)] [(.int (16 : Int32)), (.ref o)])) τ
    exact κ)
  obtain ⟨T2, h2, k2, X2, e2, E2, A2, st2⟩ := newP X1 hx hZ (hw _ (List.mem_of_getElem? (i := 9) rfl)) e1 (g := (mkF m 7 #[.val (.ref o), .val (.int nz)] [(.int (16 : Int32)), (.ref o)])) rfl (hb hby d1_7) rfl (by decide) (cap := 16) (by decide) (by decide) (by decide) (by decide)
  obtain ⟨b2, gg2⟩ : ∃ z, z = h0.size := ⟨_, rfl⟩
  rw [← gg2] at A2 st2
  have ne_o_b2 : o ≠ b2 := Nat.ne_of_lt (Nat.lt_of_lt_of_le E_o.lt (Nat.le_of_eq gg2.symm))
  have g_b2 : n0 ≤ b2 := Nat.le_trans Zn (Nat.le_of_eq gg2.symm)
  have sz_b2 : h0.size ≤ b2 := Nat.le_trans K.1 (Nat.le_of_eq gg2.symm)
  have hk := Nat.le_trans hk E2.1
  have HR := HR.trans (CHr.ext E2 H)
  have H := HR.1
  have E_o : Exa Z h2 o "coppice/marshal/context/NamespaceScope" := E_o.ext E2
  have F_un : Fld Z h2 o "coppice/marshal/context/NamespaceScope" "undoNamespaces" "[I" u1 := F_un.ext E2
  have F_up : Fld Z h2 o "coppice/marshal/context/NamespaceScope" "undoPrefixes" "[Ljava/lang/String;" u2 := F_up.ext E2
  have F_pf : Fld Z h2 o "coppice/marshal/context/NamespaceScope" "prefixes" "[Ljava/lang/String;" u3 := F_pf.ext E2
  have F_uc : Fld Z h2 o "coppice/marshal/context/NamespaceScope" "undoCount" "I" u4 := F_uc.ext E2
  have Zn : n0 ≤ h2.size := Nat.le_trans Zn E2.1
  have K : Keep h0 h2 [o] := K.ext E2
  have V_b2 : Arv Z h2 b2 k2 .int (16 : Int32) [(.int (0 : Int32)), (.int (0 : Int32)), (.int (0 : Int32)), (.int (0 : Int32)), (.int (0 : Int32)), (.int (0 : Int32)), (.int (0 : Int32)), (.int (0 : Int32)), (.int (0 : Int32)), (.int (0 : Int32)), (.int (0 : Int32)), (.int (0 : Int32)), (.int (0 : Int32)), (.int (0 : Int32)), (.int (0 : Int32)), (.int (0 : Int32))] (.int (0 : Int32)) := (Arv.new A2 (by decide)).pad (pad_rep [] (.int (0 : Int32)) 16)
  have pre : ∀ τ, Steps p.tables e below (T2.setTop (mkF m 9 #[.val (.ref o), .val (.int nz)] [(.ref b2), (.ref o)])) τ → G τ := fun τ κ => pre τ (st2 τ κ)
  obtain ⟨T3, h3, X3, e3, W3, st3⟩ := putF X2 hx hZ hown (host := "") (Or.inl (hw _ (List.mem_of_getElem? (i := 10) rfl))) Via.refl e2 F_un E_o (Or.inl (hw _ (List.mem_of_getElem? (i := 11) rfl))) (hw _ (List.mem_of_getElem? (i := 1) rfl)) (ty := (.array .int)) (by decide) rfl rfl (g := (mkF m 9 #[.val (.ref o), .val (.int nz)] [(.ref b2), (.ref o)])) rfl rfl (hb hby d1_9)
  have F_un : Fld Z h3 o "coppice/marshal/context/NamespaceScope" "undoNamespaces" "[I" (.ref b2) := F_un.same W3
  have Ns := (own_nsE E_o (hw _ (List.mem_of_getElem? (i := 1) rfl)) (by decide) (by decide))
  have hk := Nat.le_trans hk (Keep.of_wr W3).1
  have HR := HR.trans (CHr.wr W3 (own_safe hZ.alike Ns) H)
  have H := HR.1
  have E_o : Exa Z h3 o "coppice/marshal/context/NamespaceScope" := E_o.wr W3
  have F_up : Fld Z h3 o "coppice/marshal/context/NamespaceScope" "undoPrefixes" "[Ljava/lang/String;" u2 := F_up.other W3 (Or.inr (slot_ne (Or.inl (hw _ (List.mem_of_getElem? (i := 15) rfl))) (Or.inl (hw _ (List.mem_of_getElem? (i := 11) rfl))) (by decide) (t := (.array (.object "java/lang/String"))) (t' := (.array .int)) (by decide) (by decide)))
  have F_pf : Fld Z h3 o "coppice/marshal/context/NamespaceScope" "prefixes" "[Ljava/lang/String;" u3 := F_pf.other W3 (Or.inr (slot_ne (Or.inr (hw _ (List.mem_of_getElem? (i := 17) rfl))) (Or.inl (hw _ (List.mem_of_getElem? (i := 11) rfl))) (by decide) (t := (.array (.object "java/lang/String"))) (t' := (.array .int)) (by decide) (by decide)))
  have F_uc : Fld Z h3 o "coppice/marshal/context/NamespaceScope" "undoCount" "I" u4 := F_uc.other W3 (Or.inr (slot_ne (Or.inl (hw _ (List.mem_of_getElem? (i := 38) rfl))) (Or.inl (hw _ (List.mem_of_getElem? (i := 11) rfl))) (by decide) (t := .int) (t' := (.array .int)) (by decide) (by decide)))
  have V_b2 : Arv Z h3 b2 k2 .int (16 : Int32) [(.int (0 : Int32)), (.int (0 : Int32)), (.int (0 : Int32)), (.int (0 : Int32)), (.int (0 : Int32)), (.int (0 : Int32)), (.int (0 : Int32)), (.int (0 : Int32)), (.int (0 : Int32)), (.int (0 : Int32)), (.int (0 : Int32)), (.int (0 : Int32)), (.int (0 : Int32)), (.int (0 : Int32)), (.int (0 : Int32)), (.int (0 : Int32))] (.int (0 : Int32)) := V_b2.other W3 (Ne.symm ne_o_b2)
  have Zn : n0 ≤ h3.size := Nat.le_trans Zn (Keep.of_wr W3).1
  have K : Keep h0 h3 [o] := K.wr W3 (Or.inl (List.mem_of_getElem? (i := 0) rfl))
  have NN := Fr.snoc X3 N0 g_o
  have pre : ∀ τ, Steps p.tables e below (T3.setTop (mkF m 12 #[.val (.ref o), .val (.int nz)] [])) τ → G τ := fun τ κ => pre τ (st3 τ κ)
  have pre : ∀ τ, Steps p.tables e below (T3.setTop (mkF m 15 #[.val (.ref o), .val (.int nz)] [(.int (16 : Int32)), (.ref o)])) τ → G τ := fun τ κ => pre τ (by
    refine XS.aloadN X3.here hx rfl (hb hby d1_12) rfl rfl ?_
    show Steps p.tables e below (T3.setTop (mkF m 13 #[.val (.ref o), .val (.int nz)] [(.ref o)])) τ
    refine XS.bipush X3.here hx rfl (hb hby d1_13) ?_
    show Steps p.tables e below (T3.setTop (mkF m 15 #[.val (.ref o), .val (.int nz)] [(.int (16 : Int32)), (.ref o)])) τ
    exact κ)
  obtain ⟨T4, h4, k4, X4, e4, E4, A4, O4, st4⟩ := newR X3 hx hZ hown (hw _ (List.mem_of_getElem? (i := 12) rfl)) (hw _ (List.mem_of_getElem? (i := 13) rfl)) e3 (g := (mkF m 15 #[.val (.ref o), .val (.int nz)] [(.int (16 : Int32)), (.ref o)])) rfl (hb hby d1_15) rfl (by decide) (cap := 16) (by decide) (by decide) (by decide) (by decide)
  obtain ⟨b4, gg4⟩ : ∃ z, z = h3.size := ⟨_, rfl⟩
  rw [← gg4] at A4 st4
  have ne_o_b4 : o ≠ b4 := Nat.ne_of_lt (Nat.lt_of_lt_of_le E_o.lt (Nat.le_of_eq gg4.symm))
  have ne_b2_b4 : b2 ≠ b4 := Nat.ne_of_lt (Nat.lt_of_lt_of_le V_b2.lt (Nat.le_of_eq gg4.symm))
  have g_b4 : n0 ≤ b4 := Nat.le_trans Zn (Nat.le_of_eq gg4.symm)
  have sz_b4 : h0.size ≤ b4 := Nat.le_trans K.1 (Nat.le_of_eq gg4.symm)
  have hk := Nat.le_trans hk E4.1
  have HR := HR.trans (CHr.ext E4 H)
  have H := HR.1
  have E_o : Exa Z h4 o "coppice/marshal/context/NamespaceScope" := E_o.ext E4
  have F_un : Fld Z h4 o "coppice/marshal/context/NamespaceScope" "undoNamespaces" "[I" (.ref b2) := F_un.ext E4
  have F_up : Fld Z h4 o "coppice/marshal/context/NamespaceScope" "undoPrefixes" "[Ljava/lang/String;" u2 := F_up.ext E4
  have F_pf : Fld Z h4 o "coppice/marshal/context/NamespaceScope" "prefixes" "[Ljava/lang/String;" u3 := F_pf.ext E4
  have F_uc : Fld Z h4 o "coppice/marshal/context/NamespaceScope" "undoCount" "I" u4 := F_uc.ext E4
  have V_b2 : Arv Z h4 b2 k2 .int (16 : Int32) [(.int (0 : Int32)), (.int (0 : Int32)), (.int (0 : Int32)), (.int (0 : Int32)), (.int (0 : Int32)), (.int (0 : Int32)), (.int (0 : Int32)), (.int (0 : Int32)), (.int (0 : Int32)), (.int (0 : Int32)), (.int (0 : Int32)), (.int (0 : Int32)), (.int (0 : Int32)), (.int (0 : Int32)), (.int (0 : Int32)), (.int (0 : Int32))] (.int (0 : Int32)) := V_b2.ext E4
  have Zn : n0 ≤ h4.size := Nat.le_trans Zn E4.1
  have K : Keep h0 h4 [o] := K.ext E4
  have V_b4 : Arv Z h4 b4 k4 (.object "java/lang/String") (16 : Int32) [.null, .null, .null, .null, .null, .null, .null, .null, .null, .null, .null, .null, .null, .null, .null, .null] .null := (Arv.new A4 (by decide)).pad (pad_rep [] .null 16)
  have pre : ∀ τ, Steps p.tables e below (T4.setTop (mkF m 18 #[.val (.ref o), .val (.int nz)] [(.ref b4), (.ref o)])) τ → G τ := fun τ κ => pre τ (st4 τ κ)
  obtain ⟨T5, h5, X5, e5, W5, st5⟩ := putF X4 hx hZ hown (host := "") (Or.inl (hw _ (List.mem_of_getElem? (i := 14) rfl))) Via.refl e4 F_up E_o (Or.inl (hw _ (List.mem_of_getElem? (i := 15) rfl))) (hw _ (List.mem_of_getElem? (i := 1) rfl)) (ty := (.array (.object "java/lang/String"))) (by decide) rfl rfl (g := (mkF m 18 #[.val (.ref o), .val (.int nz)] [(.ref b4), (.ref o)])) rfl rfl (hb hby d1_18)
  have F_up : Fld Z h5 o "coppice/marshal/context/NamespaceScope" "undoPrefixes" "[Ljava/lang/String;" (.ref b4) := F_up.same W5
  have Ns := (own_nsE E_o (hw _ (List.mem_of_getElem? (i := 1) rfl)) (by decide) (by decide))
  have hk := Nat.le_trans hk (Keep.of_wr W5).1
  have HR := HR.trans (CHr.wr W5 (own_safe hZ.alike Ns) H)
  have H := HR.1
  have E_o : Exa Z h5 o "coppice/marshal/context/NamespaceScope" := E_o.wr W5
  have F_un : Fld Z h5 o "coppice/marshal/context/NamespaceScope" "undoNamespaces" "[I" (.ref b2) := F_un.other W5 (Or.inr (slot_ne (Or.inl (hw _ (List.mem_of_getElem? (i := 11) rfl))) (Or.inl (hw _ (List.mem_of_getElem? (i := 15) rfl))) (by decide) (t := (.array .int)) (t' := (.array (.object "java/lang/String"))) (by decide) (by decide)))
  have F_pf : Fld Z h5 o "coppice/marshal/context/NamespaceScope" "prefixes" "[Ljava/lang/String;" u3 := F_pf.other W5 (Or.inr (slot_ne (Or.inr (hw _ (List.mem_of_getElem? (i := 17) rfl))) (Or.inl (hw _ (List.mem_of_getElem? (i := 15) rfl))) (by decide) (t := (.array (.object "java/lang/String"))) (t' := (.array (.object "java/lang/String"))) (by decide) (by decide)))
  have F_uc : Fld Z h5 o "coppice/marshal/context/NamespaceScope" "undoCount" "I" u4 := F_uc.other W5 (Or.inr (slot_ne (Or.inl (hw _ (List.mem_of_getElem? (i := 38) rfl))) (Or.inl (hw _ (List.mem_of_getElem? (i := 15) rfl))) (by decide) (t := .int) (t' := (.array (.object "java/lang/String"))) (by decide) (by decide)))
  have V_b2 : Arv Z h5 b2 k2 .int (16 : Int32) [(.int (0 : Int32)), (.int (0 : Int32)), (.int (0 : Int32)), (.int (0 : Int32)), (.int (0 : Int32)), (.int (0 : Int32)), (.int (0 : Int32)), (.int (0 : Int32)), (.int (0 : Int32)), (.int (0 : Int32)), (.int (0 : Int32)), (.int (0 : Int32)), (.int (0 : Int32)), (.int (0 : Int32)), (.int (0 : Int32)), (.int (0 : Int32))] (.int (0 : Int32)) := V_b2.other W5 (Ne.symm ne_o_b2)
  have V_b4 : Arv Z h5 b4 k4 (.object "java/lang/String") (16 : Int32) [.null, .null, .null, .null, .null, .null, .null, .null, .null, .null, .null, .null, .null, .null, .null, .null] .null := V_b4.other W5 (Ne.symm ne_o_b4)
  have Zn : n0 ≤ h5.size := Nat.le_trans Zn (Keep.of_wr W5).1
  have K : Keep h0 h5 [o] := K.wr W5 (Or.inl (List.mem_of_getElem? (i := 0) rfl))
  have NN := Fr.snoc X5 NN g_o
  have pre : ∀ τ, Steps p.tables e below (T5.setTop (mkF m 21 #[.val (.ref o), .val (.int nz)] [])) τ → G τ := fun τ κ => pre τ (st5 τ κ)
  have pre : ∀ τ, Steps p.tables e below (T5.setTop (mkF m 23 #[.val (.ref o), .val (.int nz)] [(.int nz), (.ref o)])) τ → G τ := fun τ κ => pre τ (by
    refine XS.aloadN X5.here hx rfl (hb hby d1_21) rfl rfl ?_
    show Steps p.tables e below (T5.setTop (mkF m 22 #[.val (.ref o), .val (.int nz)] [(.ref o)])) τ
    refine XS.iloadN X5.here hx rfl (hb hby d1_22) rfl ?_
    show Steps p.tables e below (T5.setTop (mkF m 23 #[.val (.ref o), .val (.int nz)] [(.int nz), (.ref o)])) τ
    exact κ)
  obtain ⟨T6, h6, k6, X6, e6, E6, A6, O6, st6⟩ := newR X5 hx hZ hown (hw _ (List.mem_of_getElem? (i := 12) rfl)) (hw _ (List.mem_of_getElem? (i := 13) rfl)) e5 (g := (mkF m 23 #[.val (.ref o), .val (.int nz)] [(.int nz), (.ref o)])) rfl (hb hby d1_23) rfl (own_ngz hnz) (cap := 5) hcap (by decide) (by decide) (by decide)
  obtain ⟨b6, gg6⟩ : ∃ z, z = h5.size := ⟨_, rfl⟩
  rw [← gg6] at A6 st6
  have ne_o_b6 : o ≠ b6 := Nat.ne_of_lt (Nat.lt_of_lt_of_le E_o.lt (Nat.le_of_eq gg6.symm))
  have ne_b2_b6 : b2 ≠ b6 := Nat.ne_of_lt (Nat.lt_of_lt_of_le V_b2.lt (Nat.le_of_eq gg6.symm))
  have ne_b4_b6 : b4 ≠ b6 := Nat.ne_of_lt (Nat.lt_of_lt_of_le V_b4.lt (Nat.le_of_eq gg6.symm))
  have g_b6 : n0 ≤ b6 := Nat.le_trans Zn (Nat.le_of_eq gg6.symm)
  have sz_b6 : h0.size ≤ b6 := Nat.le_trans K.1 (Nat.le_of_eq gg6.symm)
  have hk := Nat.le_trans hk E6.1
  have HR := HR.trans (CHr.ext E6 H)
  have H := HR.1
  have E_o : Exa Z h6 o "coppice/marshal/context/NamespaceScope" := E_o.ext E6
  have F_un : Fld Z h6 o "coppice/marshal/context/NamespaceScope" "undoNamespaces" "[I" (.ref b2) := F_un.ext E6
  have F_up : Fld Z h6 o "coppice/marshal/context/NamespaceScope" "undoPrefixes" "[Ljava/lang/String;" (.ref b4) := F_up.ext E6
  have F_pf : Fld Z h6 o "coppice/marshal/context/NamespaceScope" "prefixes" "[Ljava/lang/String;" u3 := F_pf.ext E6
  have F_uc : Fld Z h6 o "coppice/marshal/context/NamespaceScope" "undoCount" "I" u4 := F_uc.ext E6
  have V_b2 : Arv Z h6 b2 k2 .int (16 : Int32) [(.int (0 : Int32)), (.int (0 : Int32)), (.int (0 : Int32)), (.int (0 : Int32)), (.int (0 : Int32)), (.int (0 : Int32)), (.int (0 : Int32)), (.int (0 : Int32)), (.int (0 : Int32)), (.int (0 : Int32)), (.int (0 : Int32)), (.int (0 : Int32)), (.int (0 : Int32)), (.int (0 : Int32)), (.int (0 : Int32)), (.int (0 : Int32))] (.int (0 : Int32)) := V_b2.ext E6
  have V_b4 : Arv Z h6 b4 k4 (.object "java/lang/String") (16 : Int32) [.null, .null, .null, .null, .null, .null, .null, .null, .null, .null, .null, .null, .null, .null, .null, .null] .null := V_b4.ext E6
  have Zn : n0 ≤ h6.size := Nat.le_trans Zn E6.1
  have K : Keep h0 h6 [o] := K.ext E6
  have V_b6 : Arv Z h6 b6 k6 (.object "java/lang/String") nz [] .null := Arv.new A6 (own_ngz hnz)
  have pre : ∀ τ, Steps p.tables e below (T6.setTop (mkF m 26 #[.val (.ref o), .val (.int nz)] [(.ref b6), (.ref o)])) τ → G τ := fun τ κ => pre τ (st6 τ κ)
  obtain ⟨T7, h7, X7, e7, W7, st7⟩ := putF X6 hx hZ hown (host := "") (Or.inl (hw _ (List.mem_of_getElem? (i := 16) rfl))) Via.refl e6 F_pf E_o (Or.inr ⟨(hw _ (List.mem_of_getElem? (i := 17) rfl)), rfl, hnm⟩) (hw _ (List.mem_of_getElem? (i := 1) rfl)) (ty := (.array (.object "java/lang/String"))) (by decide) rfl rfl (g := (mkF m 26 #[.val (.ref o), .val (.int nz)] [(.ref b6), (.ref o)])) rfl rfl (hb hby d1_26)
  have F_pf : Fld Z h7 o "coppice/marshal/context/NamespaceScope" "prefixes" "[Ljava/lang/String;" (.ref b6) := F_pf.same W7
  have Ns := (own_nsE E_o (hw _ (List.mem_of_getElem? (i := 1) rfl)) (by decide) (by decide))
  have hk := Nat.le_trans hk (Keep.of_wr W7).1
  have HR := HR.trans (CHr.wr W7 (own_safe hZ.alike Ns) H)
  have H := HR.1
  have E_o : Exa Z h7 o "coppice/marshal/context/NamespaceScope" := E_o.wr W7
  have F_un : Fld Z h7 o "coppice/marshal/context/NamespaceScope" "undoNamespaces" "[I" (.ref b2) := F_un.other W7 (Or.inr (slot_ne (Or.inl (hw _ (List.mem_of_getElem? (i := 11) rfl))) (Or.inr (hw _ (List.mem_of_getElem? (i := 17) rfl))) (by decide) (t := (.array .int)) (t' := (.array (.object "java/lang/String"))) (by decide) (by decide)))
  have F_up : Fld Z h7 o "coppice/marshal/context/NamespaceScope" "undoPrefixes" "[Ljava/lang/String;" (.ref b4) := F_up.other W7 (Or.inr (slot_ne (Or.inl (hw _ (List.mem_of_getElem? (i := 15) rfl))) (Or.inr (hw _ (List.mem_of_getElem? (i := 17) rfl))) (by decide) (t := (.array (.object "java/lang/String"))) (t' := (.array (.object "java/lang/String"))) (by decide) (by decide)))
  have F_uc : Fld Z h7 o "coppice/marshal/context/NamespaceScope" "undoCount" "I" u4 := F_uc.other W7 (Or.inr (slot_ne (Or.inl (hw _ (List.mem_of_getElem? (i := 38) rfl))) (Or.inr (hw _ (List.mem_of_getElem? (i := 17) rfl))) (by decide) (t := .int) (t' := (.array (.object "java/lang/String"))) (by decide) (by decide)))
  have V_b2 : Arv Z h7 b2 k2 .int (16 : Int32) [(.int (0 : Int32)), (.int (0 : Int32)), (.int (0 : Int32)), (.int (0 : Int32)), (.int (0 : Int32)), (.int (0 : Int32)), (.int (0 : Int32)), (.int (0 : Int32)), (.int (0 : Int32)), (.int (0 : Int32)), (.int (0 : Int32)), (.int (0 : Int32)), (.int (0 : Int32)), (.int (0 : Int32)), (.int (0 : Int32)), (.int (0 : Int32))] (.int (0 : Int32)) := V_b2.other W7 (Ne.symm ne_o_b2)
  have V_b4 : Arv Z h7 b4 k4 (.object "java/lang/String") (16 : Int32) [.null, .null, .null, .null, .null, .null, .null, .null, .null, .null, .null, .null, .null, .null, .null, .null] .null := V_b4.other W7 (Ne.symm ne_o_b4)
  have V_b6 : Arv Z h7 b6 k6 (.object "java/lang/String") nz [] .null := V_b6.other W7 (Ne.symm ne_o_b6)
  have Zn : n0 ≤ h7.size := Nat.le_trans Zn (Keep.of_wr W7).1
  have K : Keep h0 h7 [o] := K.wr W7 (Or.inl (List.mem_of_getElem? (i := 0) rfl))
  have NN := Fr.snoc X7 NN g_o
  have pre : ∀ τ, Steps p.tables e below (T7.setTop (mkF m 29 #[.val (.ref o), .val (.int nz)] [])) τ → G τ := fun τ κ => pre τ (st7 τ κ)
  have pre : ∀ τ, Steps p.tables e below (T7.setTop (mkF m 30 #[.val (.ref o), .val (.int nz)] [(.ref o)])) τ → G τ := fun τ κ => pre τ (by
    refine XS.aloadN X7.here hx rfl (hb hby d1_29) rfl rfl ?_
    show Steps p.tables e below (T7.setTop (mkF m 30 #[.val (.ref o), .val (.int nz)] [(.ref o)])) τ
    exact κ)
  have V_b6 : Arv Z h7 b6 k6 (.object "java/lang/String") nz (List.replicate nz.toNatClampNeg .null) .null := own_zeroN V_b6
  obtain ⟨cq8, kq8, q8a, q8b, q8c⟩ := isOf hZ e7 E_o
  obtain ⟨_, _, ⟨T8, Lx8, kx8, nx8⟩, -, X8, hS2, hg2, ⟨Lc8, hQ8, l8, y8, z8, HRc⟩, st8⟩ := X7.virtualBackS hx (y := (⟨"coppice/marshal/context/NamespaceScope", "reset", "()V"⟩ : MethodName)) (z := (⟨"coppice/marshal/context/NamespaceScope", "reset", "()V"⟩ : MethodName)) hown (mvT hZ (hw _ (List.mem_of_getElem? (i := 18) rfl))) (mvT hZ (hw _ (List.mem_of_getElem? (i := 19) rfl))) (notFace_of_selects (args := #[]) (mvT hZ (hw _ (List.mem_of_getElem? (i := 21) rfl)))) (mvT hZ (hw _ (List.mem_of_getElem? (i := 21) rfl))) (mvT hZ (hw _ (List.mem_of_getElem? (i := 20) rfl))) (by decide) (backOfSH (W := 0) (rm3 l Z a0 hw hEL wS [] o b2 b4 b6 k6 nz (List.replicate nz.toNatClampNeg .null) u4 h7 n0 Zn g_o g_b6 E_o F_un F_up F_pf F_uc V_b6 O6 ne_o_b6 hnz List.length_replicate) hZ (hw _ (List.mem_of_getElem? (i := 22) rfl)) (hw _ (List.mem_of_getElem? (i := 2) rfl)) (by decide) (by decide) hEL H) q8a q8c (g := (mkF m 30 #[.val (.ref o), .val (.int nz)] [(.ref o)])) rfl (by rw [hml]; rfl) (Steps.refl _) (argsL := []) (rest := []) (lenOf pd_8 rfl) rfl (by show 2 * 0 + _ ≤ _; exact Nat.le_of_eq rfl) (hb hby d1_30) (fun _ _ => ⟨rfl, e7, (by decide : 3 + 4 ≤ _), (by decide : 37 + 20 ≤ _)⟩)
  dsimp only [Pt.U, Pt.locs, Pt.cells, Pt.slots] at hS2 hg2 HRc
  have hkT := Nat.le_trans hk (Nat.le_of_eq (congrArg Array.size (Eq.symm e7)))
  dsimp only [Pt.U, Pt.locs, Pt.cells, Pt.slots] at X8 l8 y8 z8 st8 hQ8
  replace y8 : kx8 = 7 := y8
  replace z8 : nx8 = 57 := z8
  subst y8 z8
  obtain ⟨pfz_8, rfl, Nq8, Kc8, E_o_8, F_un_8, F_up_8, F_pf_8, F_uc_8, V_pf_8, L_pf_8, hlz_8⟩ := hQ8
  have NN : Fr n0 Lx8 := by rw [l8]; exact Fr.app NN Nq8
  obtain ⟨X8, hS, hZ, hown⟩ := rebS hS hkT X8 hS2 hg2 hZ hown
  have hk := Nat.le_refl T8.heap.size
  have HR := HR.trans HRc
  have H := HR.1
  have Nss : ∀ x ∈ [o, b6], own_ns Z h7 x := (allS (own_nsE E_o (hw _ (List.mem_of_getElem? (i := 1) rfl)) (by decide) (by decide)) (allS (own_nsV V_b6 (by decide)) all0))
  have E_o : Exa Z T8.heap o "coppice/marshal/context/NamespaceScope" := E_o.keep Kc8
  have V_b2 : Arv Z T8.heap b2 k2 .int (16 : Int32) [(.int (0 : Int32)), (.int (0 : Int32)), (.int (0 : Int32)), (.int (0 : Int32)), (.int (0 : Int32)), (.int (0 : Int32)), (.int (0 : Int32)), (.int (0 : Int32)), (.int (0 : Int32)), (.int (0 : Int32)), (.int (0 : Int32)), (.int (0 : Int32)), (.int (0 : Int32)), (.int (0 : Int32)), (.int (0 : Int32)), (.int (0 : Int32))] (.int (0 : Int32)) := V_b2.keep Kc8 (ninS (Ne.symm ne_o_b2) (ninS ne_b2_b6 nin0))
  have V_b4 : Arv Z T8.heap b4 k4 (.object "java/lang/String") (16 : Int32) [.null, .null, .null, .null, .null, .null, .null, .null, .null, .null, .null, .null, .null, .null, .null, .null] .null := V_b4.keep Kc8 (ninS (Ne.symm ne_o_b4) (ninS ne_b4_b6 nin0))
  have Zn : n0 ≤ T8.heap.size := Nat.le_trans Zn Kc8.1
  have K : Keep h0 T8.heap [o] := K.trans Kc8 (allS (Or.inl (List.mem_of_getElem? (i := 0) rfl)) (allS (Or.inr sz_b6) all0))
  have pre : ∀ τ, Steps p.tables e below (T8.setTop (mkF m 33 #[.val (.ref o), .val (.int nz)] [])) τ → G τ := fun τ κ => pre τ (st8.trans κ)
  have hkT := hk
  obtain ⟨fsα, hr, hrun, hended, hRE⟩ := X8.leaveW hS hkT (v := none) (fun _ => rfl)
  refine hGL ⟨_, _, hG _ (pre _ ?_), hrun, hended, _, _, rfl, ?_, ?_, ⟨_, rfl⟩, hRE.2.1, hRE.2.2.1, hRE.2.2.2.mono (by decide) (by decide)⟩
  · exact X8.returnOut hx Bd.returns (hb hby d1_33) hr
  · show Q1 Z o nz u1 u2 u3 u4 h0 n0 _ T8.heap _
    exact ⟨b2, b4, b6, _, _, _, _, rfl, NN, K, g_b2, sz_b2, g_b4, sz_b4, g_b6, sz_b6, ne_b2_b4, ne_b2_b6, ne_b4_b6, O4, O6, E_o_8, F_un_8, F_up_8, F_pf_8, F_uc_8, V_b2, V_b4, V_pf_8, own_SL_rep 16, L_pf_8, hlz_8⟩
  · show CHr Z own_EL s.vm s.heap T8.vm T8.heap
    rw [hh]
    exact HR.trans (CHv.at X8 hZ hEL H)
theorem pd_9 : parseMethodDescriptor "(I)V" = some ⟨[.int], none⟩ := by decide +kernel
theorem pd_10 : parseMethodDescriptor "()I" = some ⟨[], some .int⟩ := by decide +kernel
theorem pd_11 : parseMethodDescriptor "(I)Ljava/lang/String;" = some ⟨[.int], some (.object "java/lang/String")⟩ := by decide +kernel
theorem pd_12 : parseMethodDescriptor "(II)I" = some ⟨[.int, .int], some .int⟩ := by decide +kernel
theorem ef_0 (m : MethodId) (x0 : Int32) (x1 : Int32) (x2 : Int32) (x3 : Int32) (x4 : Int32) (x5 : Int32) : entryFrame m #[(.int x0), (.int x1), (.int x2), (.int x3), (.int x4), (.int x5)] maxLocals = mkF m 0 #[.val (.int x0), .val (.int x1), .val (.int x2), .val (.int x3), .val (.int x4), .val (.int x5), .unset, .unset, .unset, .unset] [] := by first | (simp [entryFrame, mkF, argsToLocals, Value.category, maxLocals]; done) | rfl
def Q0 (Z : State) (p1 : Int32) (p2 : Int32) (p3 : Int32) (p4 : Int32) (p5 : Int32) (p6 : Int32) (cw : Int32) (h0 : Heap) (n0 : Nat) (vα : Option Value) (hα : Heap) (Lα : List Loc) : Prop := vα = some (.int (1 : Int32)) ∧ Fr n0 Lα
set_option maxRecDepth 65536 in
set_option maxHeartbeats 40000000 in
theorem rm0 (l : Launch) (Z : State) (a0 : Array Value) (hw : ∀ d ∈ tables_1, d.before a0 Z = true) (hEL : EW Z a0 own_EL) (wS : ∀ a ∈ Bundle.stringAtoms, a.before a0 Z = true) (ws : List Jvm.Cond) (p1 : Int32) (p2 : Int32) (p3 : Int32) (p4 : Int32) (p5 : Int32) (p6 : Int32) (cw : Int32) (h0 : Heap) (n0 : Nat) (Z0 : n0 ≤ h0.size) (S_c : Sta Z h0 "java/lang/String" "COMPACT_STRINGS" "Z" (.int cw)) (hcw : ¬ cw = (0 : Int32)) :
    MetFree l x (head1 (Jvm.Cond.code x code maxLocals ret :: ws) room_1) (fun aα U => aα = #[(.int p1), (.int p2), (.int p3), (.int p4), (.int p5), (.int p6)] ∧ Z.Warmed39 U.vm ∧ U.heap = h0 ∧ CHv Z own_EL U.vm h0) (fun _ _ _ _ _ => True) (fun _ U oα U' => ∃ vα Lα, oα = .returned vα ∧ Q0 Z p1 p2 p3 p4 p5 p6 cw h0 n0 vα U'.heap Lα ∧ CHr Z own_EL U.vm U.heap U'.vm U'.heap ∧ ReturnedEndW U oα U' Lα room_1.cells room_1.slots) := by
  refine MetFree.of_bodySF (plainFor_of_name pn_4) hisR ?_
  intro p e s m args below meth c s₁ Bd hml0 hP hK
  refine own_wrap ?_
  intro GL hGL
  obtain ⟨rfl, hZ, hh, hCH⟩ := hP
  have hx := Bd.exec
  have hby := Bd.bytes
  have hml : c.maxLocals = 10 := hml0
  have hown : s.vm.findClass "coppice/marshal/context/NamespaceScopeResetPinLaw" = some m.cls := findClass_of_methodNamed Bd.named
  have hnm := (name_of_methodNamed Bd.named Bd.method).1
  have X0 : Stand p l e room_1 (s.setVm s.vm) m #[(.int p1), (.int p2), (.int p3), (.int p4), (.int p5), (.int p6)] below meth c s₁ [] 0 0 := Stand.of_body Bd
  have e0 : s₁.heap = h0 := by rw [← hh, Bd.state]; rfl
  have N0 := Fr.nil n0
  have pre0 : ∀ τ, Steps p.tables e below (s₁.setTop (mkF m 0 #[.val (.int p1), .val (.int p2), .val (.int p3), .val (.int p4), .val (.int p5), .val (.int p6), .unset, .unset, .unset, .unset] [])) τ → Steps p.tables e below (s₁.setTop (entryFrame m #[(.int p1), (.int p2), (.int p3), (.int p4), (.int p5), (.int p6)] maxLocals)) τ := fun τ κ => castTop (ef_0 m p1 p2 p3 p4 p5 p6) κ
  obtain ⟨G, hG, pre⟩ : ∃ G : State → Prop, (∀ τ, G τ → Steps p.tables e below (s₁.setTop (entryFrame m #[(.int p1), (.int p2), (.int p3), (.int p4), (.int p5), (.int p6)] maxLocals)) τ) ∧ ∀ τ, Steps p.tables e below (s₁.setTop (mkF m 0 #[.val (.int p1), .val (.int p2), .val (.int p3), .val (.int p4), .val (.int p5), .val (.int p6), .unset, .unset, .unset, .unset] [])) τ → G τ := ⟨_, pre0, fun _ k => k⟩
  have Zn := Z0
  have hS : s.Since s.vm h0.size := (State.WarmedH.refl s).since _
  have hk : h0.size ≤ h0.size := Nat.le_refl _
  have H : CHv Z own_EL s.vm h0 := hCH
  have HR : CHr Z own_EL s.vm h0 s.vm h0 := CHr.refl H
  have pre : ∀ τ, Steps p.tables e below (s₁.setTop (mkF m 7 #[.val (.int p1), .val (.int p2), .val (.int p3), .val (.int p4), .val (.int p5), .val (.int p6), .val (.int ((2 : Int32) + (p1 &&& (3 : Int32)))), .unset, .unset, .unset] [])) τ → G τ := fun τ κ => pre τ (by
    refine XS.iconst X0.here hx rfl (hb hby at_0) ?_
    show Steps p.tables e below (s₁.setTop (mkF m 1 #[.val (.int p1), .val (.int p2), .val (.int p3), .val (.int p4), .val (.int p5), .val (.int p6), .unset, .unset, .unset, .unset] [(.int (2 : Int32))])) τ
    refine XS.iloadN X0.here hx rfl (hb hby at_1) rfl ?_
    show Steps p.tables e below (s₁.setTop (mkF m 2 #[.val (.int p1), .val (.int p2), .val (.int p3), .val (.int p4), .val (.int p5), .val (.int p6), .unset, .unset, .unset, .unset] [(.int p1), (.int (2 : Int32))])) τ
    refine XS.iconst X0.here hx rfl (hb hby at_2) ?_
    show Steps p.tables e below (s₁.setTop (mkF m 3 #[.val (.int p1), .val (.int p2), .val (.int p3), .val (.int p4), .val (.int p5), .val (.int p6), .unset, .unset, .unset, .unset] [(.int (3 : Int32)), (.int p1), (.int (2 : Int32))])) τ
    refine XS.iand X0.here hx rfl (hb hby at_3) rfl ?_
    show Steps p.tables e below (s₁.setTop (mkF m 4 #[.val (.int p1), .val (.int p2), .val (.int p3), .val (.int p4), .val (.int p5), .val (.int p6), .unset, .unset, .unset, .unset] [(.int (p1 &&& (3 : Int32))), (.int (2 : Int32))])) τ
    refine XS.iadd X0.here hx rfl (hb hby at_4) rfl ?_
    show Steps p.tables e below (s₁.setTop (mkF m 5 #[.val (.int p1), .val (.int p2), .val (.int p3), .val (.int p4), .val (.int p5), .val (.int p6), .unset, .unset, .unset, .unset] [(.int ((2 : Int32) + (p1 &&& (3 : Int32))))])) τ
    refine XS.istore X0.here hx rfl (hb hby at_5) rfl (l' := #[.val (.int p1), .val (.int p2), .val (.int p3), .val (.int p4), .val (.int p5), .val (.int p6), .val (.int ((2 : Int32) + (p1 &&& (3 : Int32)))), .unset, .unset, .unset]) rfl ?_
    show Steps p.tables e below (s₁.setTop (mkF m 7 #[.val (.int p1), .val (.int p2), .val (.int p3), .val (.int p4), .val (.int p5), .val (.int p6), .val (.int ((2 : Int32) + (p1 &&& (3 : Int32)))), .unset, .unset, .unset] [])) τ
    exact κ)
  obtain ⟨nn, hnn⟩ : ∃ z : Int32, z = ((2 : Int32) + (p1 &&& (3 : Int32))) := ⟨_, rfl⟩
  have pre : ∀ τ, Steps p.tables e below (s₁.setTop (mkF m 7 #[.val (.int p1), .val (.int p2), .val (.int p3), .val (.int p4), .val (.int p5), .val (.int p6), .val (.int nn), .unset, .unset, .unset] [])) τ → G τ := by subst hnn; exact pre
  have N5 : 2 ≤ nn.toInt ∧ nn.toInt ≤ 5 := by rw [hnn]; exact own_n5 _
  obtain ⟨T1, h1, X1, e1, E1, A1, D1, -, st1⟩ := newO X0 hx hZ hown (hw _ (List.mem_of_getElem? (i := 0) rfl)) (hw _ (List.mem_of_getElem? (i := 1) rfl)) (hw _ (List.mem_of_getElem? (i := 2) rfl)) e0 (g := (mkF m 7 #[.val (.int p1), .val (.int p2), .val (.int p3), .val (.int p4), .val (.int p5), .val (.int p6), .val (.int nn), .unset, .unset, .unset] [])) rfl (hb hby at_7) (by decide) (by decide)
  obtain ⟨b1, gg1⟩ : ∃ z, z = h0.size := ⟨_, rfl⟩
  rw [← gg1] at A1 D1 st1
  have g_b1 : n0 ≤ b1 := Nat.le_trans Zn (Nat.le_of_eq gg1.symm)
  have hk := Nat.le_trans hk E1.1
  have HR := HR.trans (CHr.ext E1 H)
  have H := HR.1
  have S_c : Sta Z h1 "java/lang/String" "COMPACT_STRINGS" "Z" (.int cw) := S_c.ext E1
  have Zn : n0 ≤ h1.size := Nat.le_trans Zn E1.1
  have F_undoNamespaces_b1 : Fld Z h1 b1 "coppice/marshal/context/NamespaceScope" "undoNamespaces" "[I" .null := D1 (Or.inl (hw _ (List.mem_of_getElem? (i := 11) rfl))) (ty := (.array .int)) (by decide)
  have F_undoPrefixes_b1 : Fld Z h1 b1 "coppice/marshal/context/NamespaceScope" "undoPrefixes" "[Ljava/lang/String;" .null := D1 (Or.inl (hw _ (List.mem_of_getElem? (i := 15) rfl))) (ty := (.array (.object "java/lang/String"))) (by decide)
  have F_prefixes_b1 : Fld Z h1 b1 "coppice/marshal/context/NamespaceScope" "prefixes" "[Ljava/lang/String;" .null := D1 (Or.inr (hw _ (List.mem_of_getElem? (i := 17) rfl))) (ty := (.array (.object "java/lang/String"))) (by decide)
  have F_undoCount_b1 : Fld Z h1 b1 "coppice/marshal/context/NamespaceScope" "undoCount" "I" (.int (0 : Int32)) := D1 (Or.inl (hw _ (List.mem_of_getElem? (i := 38) rfl))) (ty := .int) (by decide)
  have E_b1 := A1
  have pre : ∀ τ, Steps p.tables e below (T1.setTop (mkF m 10 #[.val (.int p1), .val (.int p2), .val (.int p3), .val (.int p4), .val (.int p5), .val (.int p6), .val (.int nn), .unset, .unset, .unset] [(.ref b1)])) τ → G τ := fun τ κ => pre τ (st1 τ κ)
  have pre : ∀ τ, Steps p.tables e below (T1.setTop (mkF m 13 #[.val (.int p1), .val (.int p2), .val (.int p3), .val (.int p4), .val (.int p5), .val (.int p6), .val (.int nn), .unset, .unset, .unset] [(.int nn), (.ref b1), (.ref b1)])) τ → G τ := fun τ κ => pre τ (by
    refine XS.dup X1.here hx rfl (hb hby at_10) rfl rfl ?_
    show Steps p.tables e below (T1.setTop (mkF m 11 #[.val (.int p1), .val (.int p2), .val (.int p3), .val (.int p4), .val (.int p5), .val (.int p6), .val (.int nn), .unset, .unset, .unset] [(.ref b1), (.ref b1)])) τ
    refine XS.iload X1.here hx rfl (hb hby at_11) rfl ?_
    show Steps p.tables e below (T1.setTop (mkF m 13 #[.val (.int p1), .val (.int p2), .val (.int p3), .val (.int p4), .val (.int p5), .val (.int p6), .val (.int nn), .unset, .unset, .unset] [(.int nn), (.ref b1), (.ref b1)])) τ
    exact κ)
  obtain ⟨_, _, ⟨T2, Lx2, kx2, nx2⟩, -, X2, hS2, hg2, ⟨Lc2, hQ2, l2, y2, z2, HRc⟩, st2⟩ := X1.specialBackS hx (y := (⟨"coppice/marshal/context/NamespaceScope", "<init>", "(I)V"⟩ : MethodName)) rfl hown (mvT hZ (hw _ (List.mem_of_getElem? (i := 3) rfl))) (mvT hZ (hw _ (List.mem_of_getElem? (i := 4) rfl))) (mvT hZ (hw _ (List.mem_of_getElem? (i := 5) rfl))) (by decide) (backOfSH (W := 1) (rm1 l Z a0 hw hEL wS [] b1 nn .null .null .null (.int (0 : Int32)) h1 n0 Zn g_b1 E_b1 F_undoNamespaces_b1 F_undoPrefixes_b1 F_prefixes_b1 F_undoCount_b1 N5.1 (own_cap5 N5)) hZ (hw _ (List.mem_of_getElem? (i := 5) rfl)) (hw _ (List.mem_of_getElem? (i := 2) rfl)) (by decide) (by decide) hEL H) (g := (mkF m 13 #[.val (.int p1), .val (.int p2), .val (.int p3), .val (.int p4), .val (.int p5), .val (.int p6), .val (.int nn), .unset, .unset, .unset] [(.int nn), (.ref b1), (.ref b1)])) rfl (by rw [hml]; rfl) (Steps.refl _) (a := b1) (argsL := [(.int nn)]) (rest := [(.ref b1)]) (lenOf pd_9 rfl) rfl (by show 2 * 0 + _ ≤ _; exact Nat.le_of_eq rfl) (hb hby at_13) (fun _ _ => ⟨rfl, e1, (by decide : 1 + 7 ≤ _), (by decide : 4 + 57 ≤ _)⟩)
  dsimp only [Pt.U, Pt.locs, Pt.cells, Pt.slots] at hS2 hg2 HRc
  have hkT := Nat.le_trans hk (Nat.le_of_eq (congrArg Array.size (Eq.symm e1)))
  dsimp only [Pt.U, Pt.locs, Pt.cells, Pt.slots] at X2 l2 y2 z2 st2 hQ2
  replace y2 : kx2 = 8 := y2
  replace z2 : nx2 = 61 := z2
  subst y2 z2
  obtain ⟨un_2, up_2, pf_2, ku_2, kp_2, kf_2, pfz_2, rfl, Nq2, Kc2, gn_un_2, gz_un_2, gn_up_2, gz_up_2, gn_pf_2, gz_pf_2, ne_un__up_2, ne_un__pf_2, ne_up__pf_2, O_up_2, O_pf_2, E_o_2, F_un_2, F_up_2, F_pf_2, F_uc_2, V_un_2, V_up_2, V_pf_2, L_up_2, L_pf_2, hlz_2⟩ := hQ2
  have NN : Fr n0 Lx2 := by rw [l2]; exact Fr.app N0 Nq2
  obtain ⟨X2, hS, hZ, hown⟩ := rebS hS hkT X2 hS2 hg2 hZ hown
  have hk := Nat.le_refl T2.heap.size
  have HR := HR.trans HRc
  have H := HR.1
  have g_un_2 := gn_un_2
  have ne_b1_un_2 : b1 ≠ un_2 := Nat.ne_of_lt (Nat.lt_of_lt_of_le F_undoNamespaces_b1.lt gz_un_2)
  have g_up_2 := gn_up_2
  have ne_b1_up_2 : b1 ≠ up_2 := Nat.ne_of_lt (Nat.lt_of_lt_of_le F_undoNamespaces_b1.lt gz_up_2)
  have g_pf_2 := gn_pf_2
  have ne_b1_pf_2 : b1 ≠ pf_2 := Nat.ne_of_lt (Nat.lt_of_lt_of_le F_undoNamespaces_b1.lt gz_pf_2)
  have Nss : ∀ x ∈ [b1], own_ns Z h1 x := (allS (own_nsE E_b1 (hw _ (List.mem_of_getElem? (i := 1) rfl)) (by decide) (by decide)) all0)
  have S_c : Sta Z T2.heap "java/lang/String" "COMPACT_STRINGS" "Z" (.int cw) := own_sta_keepN S_c Kc2 Nss
  have E_b1 : Exa Z T2.heap b1 "coppice/marshal/context/NamespaceScope" := E_b1.keep Kc2
  have Zn : n0 ≤ T2.heap.size := Nat.le_trans Zn Kc2.1
  have pre : ∀ τ, Steps p.tables e below (T2.setTop (mkF m 16 #[.val (.int p1), .val (.int p2), .val (.int p3), .val (.int p4), .val (.int p5), .val (.int p6), .val (.int nn), .unset, .unset, .unset] [(.ref b1)])) τ → G τ := fun τ κ => pre τ (st2.trans κ)
  obtain ⟨z0, hz0⟩ : ∃ q : own_ST, q = (own_r0 nn, List.replicate 16 (.int (0 : Int32)), List.replicate 16 (none : own_T), (0 : Int32)) := ⟨_, rfl⟩
  have E_o := E_o_2
  have F_un := F_un_2
  have F_up := F_up_2
  have F_pf := F_pf_2
  have F_uc : Fld Z T2.heap b1 "coppice/marshal/context/NamespaceScope" "undoCount" "I" (.int z0.2.2.2) := by rw [hz0]; exact F_uc_2
  have V_un : Arv Z T2.heap un_2 ku_2 .int (16 : Int32) z0.2.1 (.int (0 : Int32)) := by rw [hz0]; exact V_un_2
  have V_up := V_up_2
  have V_pf := V_pf_2
  have L_up : own_SL Z T2.heap (List.replicate 16 .null) z0.2.2.1 := by rw [hz0]; exact L_up_2
  have L_pf : own_SL Z T2.heap pfz_2 z0.1 := by rw [hz0]; exact L_pf_2
  have Jz0 : own_J z0 0 := by rw [hz0]; exact own_J0
  have hup0 : (List.replicate 16 (Value.null)).length = 16 := List.length_replicate
  have hpf0 := hlz_2
  have pre : ∀ τ, Steps p.tables e below (T2.setTop (mkF m 24 #[.val (.int p1), .val (.int p2), .val (.int p3), .val (.int p4), .val (.int p5), .val (.int p6), .val (.int nn), .val (.ref b1), .val (.int (p6 &&& (3 : Int32))), .unset] [])) τ → G τ := fun τ κ => pre τ (by
    refine XS.astore X2.here hx rfl (hb hby at_16) rfl rfl (l' := #[.val (.int p1), .val (.int p2), .val (.int p3), .val (.int p4), .val (.int p5), .val (.int p6), .val (.int nn), .val (.ref b1), .unset, .unset]) rfl ?_
    show Steps p.tables e below (T2.setTop (mkF m 18 #[.val (.int p1), .val (.int p2), .val (.int p3), .val (.int p4), .val (.int p5), .val (.int p6), .val (.int nn), .val (.ref b1), .unset, .unset] [])) τ
    refine XS.iload X2.here hx rfl (hb hby at_18) rfl ?_
    show Steps p.tables e below (T2.setTop (mkF m 20 #[.val (.int p1), .val (.int p2), .val (.int p3), .val (.int p4), .val (.int p5), .val (.int p6), .val (.int nn), .val (.ref b1), .unset, .unset] [(.int p6)])) τ
    refine XS.iconst X2.here hx rfl (hb hby at_20) ?_
    show Steps p.tables e below (T2.setTop (mkF m 21 #[.val (.int p1), .val (.int p2), .val (.int p3), .val (.int p4), .val (.int p5), .val (.int p6), .val (.int nn), .val (.ref b1), .unset, .unset] [(.int (3 : Int32)), (.int p6)])) τ
    refine XS.iand X2.here hx rfl (hb hby at_21) rfl ?_
    show Steps p.tables e below (T2.setTop (mkF m 22 #[.val (.int p1), .val (.int p2), .val (.int p3), .val (.int p4), .val (.int p5), .val (.int p6), .val (.int nn), .val (.ref b1), .unset, .unset] [(.int (p6 &&& (3 : Int32)))])) τ
    refine XS.istore X2.here hx rfl (hb hby at_22) rfl (l' := #[.val (.int p1), .val (.int p2), .val (.int p3), .val (.int p4), .val (.int p5), .val (.int p6), .val (.int nn), .val (.ref b1), .val (.int (p6 &&& (3 : Int32))), .unset]) rfl ?_
    show Steps p.tables e below (T2.setTop (mkF m 24 #[.val (.int p1), .val (.int p2), .val (.int p3), .val (.int p4), .val (.int p5), .val (.int p6), .val (.int nn), .val (.ref b1), .val (.int (p6 &&& (3 : Int32))), .unset] [])) τ
    exact κ)
  obtain ⟨dd, hdd⟩ : ∃ z : Int32, z = (p6 &&& (3 : Int32)) := ⟨_, rfl⟩
  have pre : ∀ τ, Steps p.tables e below (T2.setTop (mkF m 24 #[.val (.int p1), .val (.int p2), .val (.int p3), .val (.int p4), .val (.int p5), .val (.int p6), .val (.int nn), .val (.ref b1), .val (.int dd), .unset] [])) τ → G τ := by subst hdd; exact pre
  rcases (show dd = 0 ∨ dd = 1 ∨ dd = 2 ∨ dd = 3 by rw [hdd]; exact own_r4 _) with hk_dd | hk_dd | hk_dd | hk_dd
  ·
    have pre : ∀ τ, Steps p.tables e below (T2.setTop (mkF m 24 #[.val (.int p1), .val (.int p2), .val (.int p3), .val (.int p4), .val (.int p5), .val (.int p6), .val (.int nn), .val (.ref b1), .val (.int (0 : Int32)), .unset] [])) τ → G τ := (show dd = (0 : Int32) from hk_dd) ▸ pre
    have pre : ∀ τ, Steps p.tables e below (T2.setTop (mkF m 27 #[.val (.int p1), .val (.int p2), .val (.int p3), .val (.int p4), .val (.int p5), .val (.int p6), .val (.int nn), .val (.ref b1), .val (.int (0 : Int32)), .unset] [(.int (1 : Int32)), (.int (0 : Int32))])) τ → G τ := fun τ κ => pre τ (by
      refine XS.iload X2.here hx rfl (hb hby at_24) rfl ?_
      show Steps p.tables e below (T2.setTop (mkF m 26 #[.val (.int p1), .val (.int p2), .val (.int p3), .val (.int p4), .val (.int p5), .val (.int p6), .val (.int nn), .val (.ref b1), .val (.int (0 : Int32)), .unset] [(.int (0 : Int32))])) τ
      refine XS.iconst X2.here hx rfl (hb hby at_26) ?_
      show Steps p.tables e below (T2.setTop (mkF m 27 #[.val (.int p1), .val (.int p2), .val (.int p3), .val (.int p4), .val (.int p5), .val (.int p6), .val (.int nn), .val (.ref b1), .val (.int (0 : Int32)), .unset] [(.int (1 : Int32)), (.int (0 : Int32))])) τ
      exact κ)
    have hc3 : (0 : Int32) < (1 : Int32) := (by decide)
    have pre : ∀ τ, Steps p.tables e below (T2.setTop (mkF m 48 #[.val (.int p1), .val (.int p2), .val (.int p3), .val (.int p4), .val (.int p5), .val (.int p6), .val (.int nn), .val (.ref b1), .val (.int (0 : Int32)), .unset] [(.int (2 : Int32)), (.int (0 : Int32))])) τ → G τ := fun τ κ => pre τ (by
      refine XS.icmpYes X2.here hx rfl (pc0 := 27) (pc' := 45) rfl (hb hby at_27) rfl (tlt hc3).1 (by decide) (by decide) ?_
      show Steps p.tables e below (T2.setTop (mkF m 45 #[.val (.int p1), .val (.int p2), .val (.int p3), .val (.int p4), .val (.int p5), .val (.int p6), .val (.int nn), .val (.ref b1), .val (.int (0 : Int32)), .unset] [])) τ
      refine XS.iload X2.here hx rfl (hb hby at_45) rfl ?_
      show Steps p.tables e below (T2.setTop (mkF m 47 #[.val (.int p1), .val (.int p2), .val (.int p3), .val (.int p4), .val (.int p5), .val (.int p6), .val (.int nn), .val (.ref b1), .val (.int (0 : Int32)), .unset] [(.int (0 : Int32))])) τ
      refine XS.iconst X2.here hx rfl (hb hby at_47) ?_
      show Steps p.tables e below (T2.setTop (mkF m 48 #[.val (.int p1), .val (.int p2), .val (.int p3), .val (.int p4), .val (.int p5), .val (.int p6), .val (.int nn), .val (.ref b1), .val (.int (0 : Int32)), .unset] [(.int (2 : Int32)), (.int (0 : Int32))])) τ
      exact κ)
    have hc4 : (0 : Int32) < (2 : Int32) := (by decide)
    have pre : ∀ τ, Steps p.tables e below (T2.setTop (mkF m 70 #[.val (.int p1), .val (.int p2), .val (.int p3), .val (.int p4), .val (.int p5), .val (.int p6), .val (.int nn), .val (.ref b1), .val (.int (0 : Int32)), .unset] [(.int (3 : Int32)), (.int (0 : Int32))])) τ → G τ := fun τ κ => pre τ (by
      refine XS.icmpYes X2.here hx rfl (pc0 := 48) (pc' := 67) rfl (hb hby at_48) rfl (tlt hc4).1 (by decide) (by decide) ?_
      show Steps p.tables e below (T2.setTop (mkF m 67 #[.val (.int p1), .val (.int p2), .val (.int p3), .val (.int p4), .val (.int p5), .val (.int p6), .val (.int nn), .val (.ref b1), .val (.int (0 : Int32)), .unset] [])) τ
      refine XS.iload X2.here hx rfl (hb hby at_67) rfl ?_
      show Steps p.tables e below (T2.setTop (mkF m 69 #[.val (.int p1), .val (.int p2), .val (.int p3), .val (.int p4), .val (.int p5), .val (.int p6), .val (.int nn), .val (.ref b1), .val (.int (0 : Int32)), .unset] [(.int (0 : Int32))])) τ
      refine XS.iconst X2.here hx rfl (hb hby at_69) ?_
      show Steps p.tables e below (T2.setTop (mkF m 70 #[.val (.int p1), .val (.int p2), .val (.int p3), .val (.int p4), .val (.int p5), .val (.int p6), .val (.int nn), .val (.ref b1), .val (.int (0 : Int32)), .unset] [(.int (3 : Int32)), (.int (0 : Int32))])) τ
      exact κ)
    have hc5 : (0 : Int32) < (3 : Int32) := (by decide)
    have pre : ∀ τ, Steps p.tables e below (T2.setTop (mkF m 95 #[.val (.int p1), .val (.int p2), .val (.int p3), .val (.int p4), .val (.int p5), .val (.int p6), .val (.int nn), .val (.ref b1), .val (.int (0 : Int32)), .unset] [(.ref b1)])) τ → G τ := fun τ κ => pre τ (by
      refine XS.icmpYes X2.here hx rfl (pc0 := 70) (pc' := 93) rfl (hb hby at_70) rfl (tlt hc5).1 (by decide) (by decide) ?_
      show Steps p.tables e below (T2.setTop (mkF m 93 #[.val (.int p1), .val (.int p2), .val (.int p3), .val (.int p4), .val (.int p5), .val (.int p6), .val (.int nn), .val (.ref b1), .val (.int (0 : Int32)), .unset] [])) τ
      refine XS.aload X2.here hx rfl (hb hby at_93) rfl rfl ?_
      show Steps p.tables e below (T2.setTop (mkF m 95 #[.val (.int p1), .val (.int p2), .val (.int p3), .val (.int p4), .val (.int p5), .val (.int p6), .val (.int nn), .val (.ref b1), .val (.int (0 : Int32)), .unset] [(.ref b1)])) τ
      exact κ)
    obtain ⟨cq6, kq6, q6a, q6b, q6c⟩ := isOf hZ rfl E_b1
    obtain ⟨_, _, ⟨T6, Lx6, kx6, nx6⟩, -, X6, hS2, hg2, ⟨Lc6, hQ6, l6, y6, z6, HRc⟩, st6⟩ := X2.virtualBackS hx (y := (⟨"coppice/marshal/context/NamespaceScope", "reset", "()V"⟩ : MethodName)) (z := (⟨"coppice/marshal/context/NamespaceScope", "reset", "()V"⟩ : MethodName)) hown (mvT hZ (hw _ (List.mem_of_getElem? (i := 83) rfl))) (mvT hZ (hw _ (List.mem_of_getElem? (i := 19) rfl))) (notFace_of_selects (args := #[]) (mvT hZ (hw _ (List.mem_of_getElem? (i := 21) rfl)))) (mvT hZ (hw _ (List.mem_of_getElem? (i := 21) rfl))) (mvT hZ (hw _ (List.mem_of_getElem? (i := 20) rfl))) (by decide) (backOfSH (W := 0) (rm3 l Z a0 hw hEL wS [] b1 un_2 up_2 pf_2 kf_2 nn pfz_2 (.int z0.2.2.2) T2.heap n0 Zn g_b1 gn_pf_2 E_b1 F_un F_up F_pf F_uc V_pf O_pf_2 ne_b1_pf_2 N5.1 hpf0) hZ (hw _ (List.mem_of_getElem? (i := 22) rfl)) (hw _ (List.mem_of_getElem? (i := 2) rfl)) (by decide) (by decide) hEL H) q6a q6c (g := (mkF m 95 #[.val (.int p1), .val (.int p2), .val (.int p3), .val (.int p4), .val (.int p5), .val (.int p6), .val (.int nn), .val (.ref b1), .val (.int (0 : Int32)), .unset] [(.ref b1)])) rfl (by rw [hml]; rfl) (Steps.refl _) (argsL := []) (rest := []) (lenOf pd_8 rfl) rfl (by show 2 * 0 + _ ≤ _; exact Nat.le_of_eq rfl) (hb hby at_95) (fun _ _ => ⟨rfl, rfl, (by decide : 8 + 4 ≤ _), (by decide : 61 + 20 ≤ _)⟩)
    dsimp only [Pt.U, Pt.locs, Pt.cells, Pt.slots] at hS2 hg2 HRc
    have hkT := hk
    dsimp only [Pt.U, Pt.locs, Pt.cells, Pt.slots] at X6 l6 y6 z6 st6 hQ6
    replace y6 : kx6 = 12 := y6
    replace z6 : nx6 = 81 := z6
    subst y6 z6
    obtain ⟨pfz_6, rfl, Nq6, Kc6, E_o_6, F_un_6, F_up_6, F_pf_6, F_uc_6, V_pf_6, L_pf_6, hlz_6⟩ := hQ6
    have NN : Fr n0 Lx6 := by rw [l6]; exact Fr.app NN Nq6
    obtain ⟨X6, hS, hZ, hown⟩ := rebS hS hkT X6 hS2 hg2 hZ hown
    have hk := Nat.le_refl T6.heap.size
    have HR := HR.trans HRc
    have H := HR.1
    have Nss : ∀ x ∈ [b1, pf_2], own_ns Z T2.heap x := (allS (own_nsE E_b1 (hw _ (List.mem_of_getElem? (i := 1) rfl)) (by decide) (by decide)) (allS (own_nsV V_pf (by decide)) all0))
    have S_c : Sta Z T6.heap "java/lang/String" "COMPACT_STRINGS" "Z" (.int cw) := own_sta_keepN S_c Kc6 Nss
    have E_b1 : Exa Z T6.heap b1 "coppice/marshal/context/NamespaceScope" := E_b1.keep Kc6
    have E_o : Exa Z T6.heap b1 "coppice/marshal/context/NamespaceScope" := E_o.keep Kc6
    have V_un : Arv Z T6.heap un_2 ku_2 .int (16 : Int32) z0.2.1 (.int (0 : Int32)) := V_un.keep Kc6 (ninS (Ne.symm ne_b1_un_2) (ninS ne_un__pf_2 nin0))
    have V_up : Arv Z T6.heap up_2 kp_2 (.object "java/lang/String") (16 : Int32) (List.replicate 16 .null) .null := V_up.keep Kc6 (ninS (Ne.symm ne_b1_up_2) (ninS ne_up__pf_2 nin0))
    have L_up : own_SL Z T6.heap (List.replicate 16 .null) z0.2.2.1 := own_SL_keep L_up Kc6 Nss
    have L_pf : own_SL Z T6.heap pfz_2 z0.1 := own_SL_keep L_pf Kc6 Nss
    have Zn : n0 ≤ T6.heap.size := Nat.le_trans Zn Kc6.1
    have pre : ∀ τ, Steps p.tables e below (T6.setTop (mkF m 98 #[.val (.int p1), .val (.int p2), .val (.int p3), .val (.int p4), .val (.int p5), .val (.int p6), .val (.int nn), .val (.ref b1), .val (.int (0 : Int32)), .unset] [])) τ → G τ := fun τ κ => pre τ (st6.trans κ)
    have pre : ∀ τ, Steps p.tables e below (T6.setTop (mkF m 100 #[.val (.int p1), .val (.int p2), .val (.int p3), .val (.int p4), .val (.int p5), .val (.int p6), .val (.int nn), .val (.ref b1), .val (.int (0 : Int32)), .unset] [(.ref b1)])) τ → G τ := fun τ κ => pre τ (by
      refine XS.aload X6.here hx rfl (hb hby at_98) rfl rfl ?_
      show Steps p.tables e below (T6.setTop (mkF m 100 #[.val (.int p1), .val (.int p2), .val (.int p3), .val (.int p4), .val (.int p5), .val (.int p6), .val (.int nn), .val (.ref b1), .val (.int (0 : Int32)), .unset] [(.ref b1)])) τ
      exact κ)
    obtain ⟨cq7, kq7, q7a, q7b, q7c⟩ := isOf hZ rfl E_b1
    obtain ⟨_, _, ⟨T7, Lx7, kx7, nx7⟩, -, X7, ⟨Lc7, hQ7, l7, y7, z7⟩, st7⟩ := X6.virtualBack hx (y := (⟨"coppice/marshal/context/NamespaceScope", "mark", "()I"⟩ : MethodName)) (z := (⟨"coppice/marshal/context/NamespaceScope", "mark", "()I"⟩ : MethodName)) hown (mvT hZ (hw _ (List.mem_of_getElem? (i := 84) rfl))) (mvT hZ (hw _ (List.mem_of_getElem? (i := 85) rfl))) (notFace_of_selects (args := #[]) (mvT hZ (hw _ (List.mem_of_getElem? (i := 87) rfl)))) (mvT hZ (hw _ (List.mem_of_getElem? (i := 87) rfl))) (mvT hZ (hw _ (List.mem_of_getElem? (i := 86) rfl))) (by decide) (backOf (W := 0) (rm15 l Z a0 hw [] b1 (0 : Int32) T6.heap n0 Zn F_uc_6) hZ (hw _ (List.mem_of_getElem? (i := 88) rfl)) (hw _ (List.mem_of_getElem? (i := 2) rfl)) (by decide) (by decide)) q7a q7c (g := (mkF m 100 #[.val (.int p1), .val (.int p2), .val (.int p3), .val (.int p4), .val (.int p5), .val (.int p6), .val (.int nn), .val (.ref b1), .val (.int (0 : Int32)), .unset] [(.ref b1)])) rfl (by rw [hml]; rfl) (Steps.refl _) (argsL := []) (rest := []) (lenOf pd_10 rfl) rfl (by show 2 * 0 + _ ≤ _; exact Nat.le_of_eq rfl) (hb hby at_100) (fun _ _ => ⟨rfl, rfl, (by decide : 12 + 0 ≤ _), (by decide : 81 + 0 ≤ _)⟩)
    dsimp only [Pt.U, Pt.locs, Pt.cells, Pt.slots] at X7 l7 y7 z7 st7 hQ7
    replace y7 : kx7 = 12 := y7
    replace z7 : nx7 = 81 := z7
    subst y7 z7
    obtain ⟨rfl, Nq7, hs7⟩ := hQ7
    have NN : Fr n0 Lx7 := by rw [l7]; exact Fr.app NN Nq7
    have pre : ∀ τ, Steps p.tables e below (T7.setTop (mkF m 103 #[.val (.int p1), .val (.int p2), .val (.int p3), .val (.int p4), .val (.int p5), .val (.int p6), .val (.int nn), .val (.ref b1), .val (.int (0 : Int32)), .unset] [(.int (0 : Int32))])) τ → G τ := fun τ κ => pre τ (st7.trans κ)
    have hc8 : (0 : Int32) = (0 : Int32) := rfl
    have pre : ∀ τ, Steps p.tables e below (T7.setTop (mkF m 115 #[.val (.int p1), .val (.int p2), .val (.int p3), .val (.int p4), .val (.int p5), .val (.int p6), .val (.int nn), .val (.ref b1), .val (.int (0 : Int32)), .val (.int (1 : Int32))] [(.int (1 : Int32))])) τ → G τ := fun τ κ => pre τ (by
      refine XS.ifNo X7.here hx rfl (hb hby at_103) rfl ((if0 _ _).trans (teq hc8).2) ?_
      show Steps p.tables e below (T7.setTop (mkF m 106 #[.val (.int p1), .val (.int p2), .val (.int p3), .val (.int p4), .val (.int p5), .val (.int p6), .val (.int nn), .val (.ref b1), .val (.int (0 : Int32)), .unset] [])) τ
      refine XS.iconst X7.here hx rfl (hb hby at_106) ?_
      show Steps p.tables e below (T7.setTop (mkF m 107 #[.val (.int p1), .val (.int p2), .val (.int p3), .val (.int p4), .val (.int p5), .val (.int p6), .val (.int nn), .val (.ref b1), .val (.int (0 : Int32)), .unset] [(.int (1 : Int32))])) τ
      refine XS.goto X7.here hx rfl (pc0 := 107) (pc' := 111) rfl (hb hby at_107) (by decide) (by decide) ?_
      show Steps p.tables e below (T7.setTop (mkF m 111 #[.val (.int p1), .val (.int p2), .val (.int p3), .val (.int p4), .val (.int p5), .val (.int p6), .val (.int nn), .val (.ref b1), .val (.int (0 : Int32)), .unset] [(.int (1 : Int32))])) τ
      refine XS.istore X7.here hx rfl (hb hby at_111) rfl (l' := #[.val (.int p1), .val (.int p2), .val (.int p3), .val (.int p4), .val (.int p5), .val (.int p6), .val (.int nn), .val (.ref b1), .val (.int (0 : Int32)), .val (.int (1 : Int32))]) rfl ?_
      show Steps p.tables e below (T7.setTop (mkF m 113 #[.val (.int p1), .val (.int p2), .val (.int p3), .val (.int p4), .val (.int p5), .val (.int p6), .val (.int nn), .val (.ref b1), .val (.int (0 : Int32)), .val (.int (1 : Int32))] [])) τ
      refine XS.iload X7.here hx rfl (hb hby at_113) rfl ?_
      show Steps p.tables e below (T7.setTop (mkF m 115 #[.val (.int p1), .val (.int p2), .val (.int p3), .val (.int p4), .val (.int p5), .val (.int p6), .val (.int nn), .val (.ref b1), .val (.int (0 : Int32)), .val (.int (1 : Int32))] [(.int (1 : Int32))])) τ
      exact κ)
    have hc9 : ¬ ((1 : Int32) = (0 : Int32)) := (by decide)
    have pre : ∀ τ, Steps p.tables e below (T7.setTop (mkF m 118 #[.val (.int p1), .val (.int p2), .val (.int p3), .val (.int p4), .val (.int p5), .val (.int p6), .val (.int nn), .val (.ref b1), .val (.int (0 : Int32)), .val (.int (1 : Int32))] [])) τ → G τ := fun τ κ => pre τ (by
      refine XS.ifNo X7.here hx rfl (hb hby at_115) rfl ((if0 _ _).trans (feq hc9).1) ?_
      show Steps p.tables e below (T7.setTop (mkF m 118 #[.val (.int p1), .val (.int p2), .val (.int p3), .val (.int p4), .val (.int p5), .val (.int p6), .val (.int nn), .val (.ref b1), .val (.int (0 : Int32)), .val (.int (1 : Int32))] [])) τ
      exact κ)
    obtain ⟨as10, T10, h10, kn10, bs10, kc10, X10, e10, E10, hS, hk, hZ, hown, Ea10, Ca10, Va10, Ba10, la10, lb10, HRn10, Li10, sf10, st10⟩ := ldcCH X7 hx hZ hown (hw _ (List.mem_of_getElem? (i := 82) rfl)) wS hs7 hS hk hEL (List.mem_of_getElem? (i := 2) rfl) H (vs := []) (z := (0 : Int32)) ⟨by decide, rfl⟩ (by decide) rfl (g := (mkF m 118 #[.val (.int p1), .val (.int p2), .val (.int p3), .val (.int p4), .val (.int p5), .val (.int p6), .val (.int nn), .val (.ref b1), .val (.int (0 : Int32)), .val (.int (1 : Int32))] [])) rfl (hb hby at_118) (n := 0) (by decide) (by decide) (by decide) (by decide)
    have S_c : Sta Z h10 "java/lang/String" "COMPACT_STRINGS" "Z" (.int cw) := S_c.ext E10
    have E_b1 : Exa Z h10 b1 "coppice/marshal/context/NamespaceScope" := E_b1.ext E10
    have E_o : Exa Z h10 b1 "coppice/marshal/context/NamespaceScope" := E_o.ext E10
    have V_un : Arv Z h10 un_2 ku_2 .int (16 : Int32) z0.2.1 (.int (0 : Int32)) := V_un.ext E10
    have V_up : Arv Z h10 up_2 kp_2 (.object "java/lang/String") (16 : Int32) (List.replicate 16 .null) .null := V_up.ext E10
    have L_up : own_SL Z h10 (List.replicate 16 .null) z0.2.2.1 := own_SL_ext L_up E10
    have L_pf : own_SL Z h10 pfz_2 z0.1 := own_SL_ext L_pf E10
    have E_o_6 : Exa Z h10 b1 "coppice/marshal/context/NamespaceScope" := E_o_6.ext E10
    have F_un_6 : Fld Z h10 b1 "coppice/marshal/context/NamespaceScope" "undoNamespaces" "[I" (.ref un_2) := F_un_6.ext E10
    have F_up_6 : Fld Z h10 b1 "coppice/marshal/context/NamespaceScope" "undoPrefixes" "[Ljava/lang/String;" (.ref up_2) := F_up_6.ext E10
    have F_pf_6 : Fld Z h10 b1 "coppice/marshal/context/NamespaceScope" "prefixes" "[Ljava/lang/String;" (.ref pf_2) := F_pf_6.ext E10
    have F_uc_6 : Fld Z h10 b1 "coppice/marshal/context/NamespaceScope" "undoCount" "I" (.int (0 : Int32)) := F_uc_6.ext E10
    have V_pf_6 : Arv Z h10 pf_2 kf_2 (.object "java/lang/String") nn pfz_6 .null := V_pf_6.ext E10
    have L_pf_6 : own_SL Z h10 pfz_6 (own_r0 nn) := own_SL_ext L_pf_6 E10
    have Zn : n0 ≤ h10.size := Nat.le_trans Zn E10.1
    have HR := HR.trans HRn10
    have H := HR.1
    have F_s10 : own_S Z h10 (.ref as10) (some []) := Or.inr ⟨_, _, _, _, _, _, rfl, rfl, (hw _ (List.mem_of_getElem? (i := 29) rfl)), Ea10, Ca10, Va10, Ba10, rfl⟩
    have pre : ∀ τ, Steps p.tables e below (T10.setTop (mkF m 120 #[.val (.int p1), .val (.int p2), .val (.int p3), .val (.int p4), .val (.int p5), .val (.int p6), .val (.int nn), .val (.ref b1), .val (.int (0 : Int32)), .val (.int (1 : Int32))] [(.ref as10)])) τ → G τ := fun τ κ => pre τ (st10 τ κ)
    have pre : ∀ τ, Steps p.tables e below (T10.setTop (mkF m 123 #[.val (.int p1), .val (.int p2), .val (.int p3), .val (.int p4), .val (.int p5), .val (.int p6), .val (.int nn), .val (.ref b1), .val (.int (0 : Int32)), .val (.int (1 : Int32))] [(.int (0 : Int32)), (.ref b1), (.ref as10)])) τ → G τ := fun τ κ => pre τ (by
      refine XS.aload X10.here hx rfl (hb hby at_120) rfl rfl ?_
      show Steps p.tables e below (T10.setTop (mkF m 122 #[.val (.int p1), .val (.int p2), .val (.int p3), .val (.int p4), .val (.int p5), .val (.int p6), .val (.int nn), .val (.ref b1), .val (.int (0 : Int32)), .val (.int (1 : Int32))] [(.ref b1), (.ref as10)])) τ
      refine XS.iconst X10.here hx rfl (hb hby at_122) ?_
      show Steps p.tables e below (T10.setTop (mkF m 123 #[.val (.int p1), .val (.int p2), .val (.int p3), .val (.int p4), .val (.int p5), .val (.int p6), .val (.int nn), .val (.ref b1), .val (.int (0 : Int32)), .val (.int (1 : Int32))] [(.int (0 : Int32)), (.ref b1), (.ref as10)])) τ
      exact κ)
    obtain ⟨cq11, kq11, q11a, q11b, q11c⟩ := isOf hZ e10 E_b1
    obtain ⟨_, _, ⟨T11, Lx11, kx11, nx11⟩, -, X11, ⟨Lc11, hQ11, l11, y11, z11⟩, st11⟩ := X10.virtualBack hx (y := (⟨"coppice/marshal/context/NamespaceScope", "prefix", "(I)Ljava/lang/String;"⟩ : MethodName)) (z := (⟨"coppice/marshal/context/NamespaceScope", "prefix", "(I)Ljava/lang/String;"⟩ : MethodName)) hown (mvT hZ (hw _ (List.mem_of_getElem? (i := 89) rfl))) (mvT hZ (hw _ (List.mem_of_getElem? (i := 90) rfl))) (notFace_of_selects (args := #[]) (mvT hZ (hw _ (List.mem_of_getElem? (i := 92) rfl)))) (mvT hZ (hw _ (List.mem_of_getElem? (i := 92) rfl))) (mvT hZ (hw _ (List.mem_of_getElem? (i := 91) rfl))) (by decide) (backOf (W := 1) (rm16 l Z a0 hw [] b1 (0 : Int32) pf_2 kf_2 nn pfz_6 (own_r0 nn) h10 n0 Zn F_pf_6 V_pf_6 L_pf_6 (own_b01 N5.1).1) hZ (hw _ (List.mem_of_getElem? (i := 93) rfl)) (hw _ (List.mem_of_getElem? (i := 2) rfl)) (by decide) (by decide)) q11a q11c (g := (mkF m 123 #[.val (.int p1), .val (.int p2), .val (.int p3), .val (.int p4), .val (.int p5), .val (.int p6), .val (.int nn), .val (.ref b1), .val (.int (0 : Int32)), .val (.int (1 : Int32))] [(.int (0 : Int32)), (.ref b1), (.ref as10)])) rfl (by rw [hml]; rfl) (Steps.refl _) (argsL := [(.int (0 : Int32))]) (rest := [(.ref as10)]) (lenOf pd_11 rfl) rfl (by show 2 * 0 + _ ≤ _; exact Nat.le_of_eq rfl) (hb hby at_123) (fun _ _ => ⟨rfl, e10, (by decide : 14 + 0 ≤ _), (by decide : 85 + 0 ≤ _)⟩)
    dsimp only [Pt.U, Pt.locs, Pt.cells, Pt.slots] at X11 l11 y11 z11 st11 hQ11
    replace y11 : kx11 = 14 := y11
    replace z11 : nx11 = 85 := z11
    subst y11 z11
    obtain ⟨rfl, Nq11, hs11, F_r_11⟩ := hQ11
    have NN : Fr n0 Lx11 := by rw [l11]; exact Fr.app NN Nq11
    have F_r_11 : own_S Z h10 (pfz_6.getD ((0 : Int32)).toNatClampNeg .null) ((own_r0 nn).getD ((0 : Int32)).toNatClampNeg none) := hs11 ▸ F_r_11
    have pre : ∀ τ, Steps p.tables e below (T11.setTop (mkF m 126 #[.val (.int p1), .val (.int p2), .val (.int p3), .val (.int p4), .val (.int p5), .val (.int p6), .val (.int nn), .val (.ref b1), .val (.int (0 : Int32)), .val (.int (1 : Int32))] [(pfz_6.getD ((0 : Int32)).toNatClampNeg .null), (.ref as10)])) τ → G τ := fun τ κ => pre τ (st11.trans κ)
    obtain ⟨cq12, kq12, q12a, q12b, q12c⟩ := isOf hZ hs11 (own_S_exa F_s10)
    obtain ⟨_, _, ⟨T12, Lx12, kx12, nx12⟩, -, X12, ⟨Lc12, hQ12, l12, y12, z12⟩, st12⟩ := X11.virtualBack hx (y := (⟨"java/lang/String", "equals", "(Ljava/lang/Object;)Z"⟩ : MethodName)) (z := (⟨"java/lang/String", "equals", "(Ljava/lang/Object;)Z"⟩ : MethodName)) hown (mvT hZ (hw _ (List.mem_of_getElem? (i := 94) rfl))) (mvT hZ (hw _ (List.mem_of_getElem? (i := 71) rfl))) (notFace_of_selects (args := #[]) (mvT hZ (hw _ (List.mem_of_getElem? (i := 73) rfl)))) (mvT hZ (hw _ (List.mem_of_getElem? (i := 73) rfl))) (mvT hZ (hw _ (List.mem_of_getElem? (i := 72) rfl))) (by decide) (backOf (W := 0) (rm12 l Z a0 hw [] as10 (pfz_6.getD ((0 : Int32)).toNatClampNeg .null) [] ((own_r0 nn).getD ((0 : Int32)).toNatClampNeg none) cw h10 n0 Zn F_s10 F_r_11 S_c hcw) hZ (hw _ (List.mem_of_getElem? (i := 74) rfl)) (hw _ (List.mem_of_getElem? (i := 28) rfl)) (by decide) (by decide)) q12a q12c (g := (mkF m 126 #[.val (.int p1), .val (.int p2), .val (.int p3), .val (.int p4), .val (.int p5), .val (.int p6), .val (.int nn), .val (.ref b1), .val (.int (0 : Int32)), .val (.int (1 : Int32))] [(pfz_6.getD ((0 : Int32)).toNatClampNeg .null), (.ref as10)])) rfl (by rw [hml]; rfl) (Steps.refl _) (argsL := [(pfz_6.getD ((0 : Int32)).toNatClampNeg .null)]) (rest := []) (lenOf pd_2 rfl) rfl (by show 2 * 0 + _ ≤ _; exact Nat.le_of_eq rfl) (hb hby at_126) (fun _ _ => ⟨rfl, hs11, (by decide : 14 + 0 ≤ _), (by decide : 85 + 0 ≤ _)⟩)
    dsimp only [Pt.U, Pt.locs, Pt.cells, Pt.slots] at X12 l12 y12 z12 st12 hQ12
    replace y12 : kx12 = 14 := y12
    replace z12 : nx12 = 85 := z12
    subst y12 z12
    obtain ⟨rfl, Nq12, hs12⟩ := hQ12
    have NN : Fr n0 Lx12 := by rw [l12]; exact Fr.app NN Nq12
    have pre : ∀ τ, Steps p.tables e below (T12.setTop (mkF m 129 #[.val (.int p1), .val (.int p2), .val (.int p3), .val (.int p4), .val (.int p5), .val (.int p6), .val (.int nn), .val (.ref b1), .val (.int (0 : Int32)), .val (.int (1 : Int32))] [(.int (own_eqt [] ((own_r0 nn).getD ((0 : Int32)).toNatClampNeg none)))])) τ → G τ := fun τ κ => pre τ (st12.trans κ)
    have hc13 : ¬ ((own_eqt [] ((own_r0 nn).getD ((0 : Int32)).toNatClampNeg none)) = (0 : Int32)) := (own_eqt1 (own_r00 N5.1))
    have pre : ∀ τ, Steps p.tables e below (T12.setTop (mkF m 141 #[.val (.int p1), .val (.int p2), .val (.int p3), .val (.int p4), .val (.int p5), .val (.int p6), .val (.int nn), .val (.ref b1), .val (.int (0 : Int32)), .val (.int (1 : Int32))] [(.int (1 : Int32))])) τ → G τ := fun τ κ => pre τ (by
      refine XS.ifNo X12.here hx rfl (hb hby at_129) rfl ((if0 _ _).trans (feq hc13).1) ?_
      show Steps p.tables e below (T12.setTop (mkF m 132 #[.val (.int p1), .val (.int p2), .val (.int p3), .val (.int p4), .val (.int p5), .val (.int p6), .val (.int nn), .val (.ref b1), .val (.int (0 : Int32)), .val (.int (1 : Int32))] [])) τ
      refine XS.iconst X12.here hx rfl (hb hby at_132) ?_
      show Steps p.tables e below (T12.setTop (mkF m 133 #[.val (.int p1), .val (.int p2), .val (.int p3), .val (.int p4), .val (.int p5), .val (.int p6), .val (.int nn), .val (.ref b1), .val (.int (0 : Int32)), .val (.int (1 : Int32))] [(.int (1 : Int32))])) τ
      refine XS.goto X12.here hx rfl (pc0 := 133) (pc' := 137) rfl (hb hby at_133) (by decide) (by decide) ?_
      show Steps p.tables e below (T12.setTop (mkF m 137 #[.val (.int p1), .val (.int p2), .val (.int p3), .val (.int p4), .val (.int p5), .val (.int p6), .val (.int nn), .val (.ref b1), .val (.int (0 : Int32)), .val (.int (1 : Int32))] [(.int (1 : Int32))])) τ
      refine XS.istore X12.here hx rfl (hb hby at_137) rfl (l' := #[.val (.int p1), .val (.int p2), .val (.int p3), .val (.int p4), .val (.int p5), .val (.int p6), .val (.int nn), .val (.ref b1), .val (.int (0 : Int32)), .val (.int (1 : Int32))]) rfl ?_
      show Steps p.tables e below (T12.setTop (mkF m 139 #[.val (.int p1), .val (.int p2), .val (.int p3), .val (.int p4), .val (.int p5), .val (.int p6), .val (.int nn), .val (.ref b1), .val (.int (0 : Int32)), .val (.int (1 : Int32))] [])) τ
      refine XS.iload X12.here hx rfl (hb hby at_139) rfl ?_
      show Steps p.tables e below (T12.setTop (mkF m 141 #[.val (.int p1), .val (.int p2), .val (.int p3), .val (.int p4), .val (.int p5), .val (.int p6), .val (.int nn), .val (.ref b1), .val (.int (0 : Int32)), .val (.int (1 : Int32))] [(.int (1 : Int32))])) τ
      exact κ)
    have hc14 : ¬ ((1 : Int32) = (0 : Int32)) := (by decide)
    have pre : ∀ τ, Steps p.tables e below (T12.setTop (mkF m 144 #[.val (.int p1), .val (.int p2), .val (.int p3), .val (.int p4), .val (.int p5), .val (.int p6), .val (.int nn), .val (.ref b1), .val (.int (0 : Int32)), .val (.int (1 : Int32))] [])) τ → G τ := fun τ κ => pre τ (by
      refine XS.ifNo X12.here hx rfl (hb hby at_141) rfl ((if0 _ _).trans (feq hc14).1) ?_
      show Steps p.tables e below (T12.setTop (mkF m 144 #[.val (.int p1), .val (.int p2), .val (.int p3), .val (.int p4), .val (.int p5), .val (.int p6), .val (.int nn), .val (.ref b1), .val (.int (0 : Int32)), .val (.int (1 : Int32))] [])) τ
      exact κ)
    obtain ⟨as15, T15, h15, kn15, bs15, kc15, X15, e15, E15, hS, hk, hZ, hown, Ea15, Ca15, Va15, Ba15, la15, lb15, HRn15, Li15, sf15, st15⟩ := ldcCH X12 hx hZ hown (hw _ (List.mem_of_getElem? (i := 95) rfl)) wS hs12 hS hk hEL (List.mem_of_getElem? (i := 3) rfl) H (vs := [(.int (120 : Int32)), (.int (109 : Int32)), (.int (108 : Int32))]) (z := (3 : Int32)) ⟨by decide, rfl⟩ (by decide) rfl (g := (mkF m 144 #[.val (.int p1), .val (.int p2), .val (.int p3), .val (.int p4), .val (.int p5), .val (.int p6), .val (.int nn), .val (.ref b1), .val (.int (0 : Int32)), .val (.int (1 : Int32))] [])) rfl (hb hby at_144) (n := 12) (by decide) (by decide) (by decide) (by decide)
    have S_c : Sta Z h15 "java/lang/String" "COMPACT_STRINGS" "Z" (.int cw) := S_c.ext E15
    have E_b1 : Exa Z h15 b1 "coppice/marshal/context/NamespaceScope" := E_b1.ext E15
    have E_o : Exa Z h15 b1 "coppice/marshal/context/NamespaceScope" := E_o.ext E15
    have V_un : Arv Z h15 un_2 ku_2 .int (16 : Int32) z0.2.1 (.int (0 : Int32)) := V_un.ext E15
    have V_up : Arv Z h15 up_2 kp_2 (.object "java/lang/String") (16 : Int32) (List.replicate 16 .null) .null := V_up.ext E15
    have L_up : own_SL Z h15 (List.replicate 16 .null) z0.2.2.1 := own_SL_ext L_up E15
    have L_pf : own_SL Z h15 pfz_2 z0.1 := own_SL_ext L_pf E15
    have E_o_6 : Exa Z h15 b1 "coppice/marshal/context/NamespaceScope" := E_o_6.ext E15
    have F_un_6 : Fld Z h15 b1 "coppice/marshal/context/NamespaceScope" "undoNamespaces" "[I" (.ref un_2) := F_un_6.ext E15
    have F_up_6 : Fld Z h15 b1 "coppice/marshal/context/NamespaceScope" "undoPrefixes" "[Ljava/lang/String;" (.ref up_2) := F_up_6.ext E15
    have F_pf_6 : Fld Z h15 b1 "coppice/marshal/context/NamespaceScope" "prefixes" "[Ljava/lang/String;" (.ref pf_2) := F_pf_6.ext E15
    have F_uc_6 : Fld Z h15 b1 "coppice/marshal/context/NamespaceScope" "undoCount" "I" (.int (0 : Int32)) := F_uc_6.ext E15
    have V_pf_6 : Arv Z h15 pf_2 kf_2 (.object "java/lang/String") nn pfz_6 .null := V_pf_6.ext E15
    have L_pf_6 : own_SL Z h15 pfz_6 (own_r0 nn) := own_SL_ext L_pf_6 E15
    have F_s10 : own_S Z h15 (.ref as10) (some []) := own_S_ext F_s10 E15
    have F_r_11 : own_S Z h15 (pfz_6.getD ((0 : Int32)).toNatClampNeg .null) ((own_r0 nn).getD ((0 : Int32)).toNatClampNeg none) := own_S_ext F_r_11 E15
    have Zn : n0 ≤ h15.size := Nat.le_trans Zn E15.1
    have HR := HR.trans HRn15
    have H := HR.1
    have F_s15 : own_S Z h15 (.ref as15) (some [(.int (120 : Int32)), (.int (109 : Int32)), (.int (108 : Int32))]) := Or.inr ⟨_, _, _, _, _, _, rfl, rfl, (hw _ (List.mem_of_getElem? (i := 29) rfl)), Ea15, Ca15, Va15, Ba15, rfl⟩
    have pre : ∀ τ, Steps p.tables e below (T15.setTop (mkF m 146 #[.val (.int p1), .val (.int p2), .val (.int p3), .val (.int p4), .val (.int p5), .val (.int p6), .val (.int nn), .val (.ref b1), .val (.int (0 : Int32)), .val (.int (1 : Int32))] [(.ref as15)])) τ → G τ := fun τ κ => pre τ (st15 τ κ)
    have pre : ∀ τ, Steps p.tables e below (T15.setTop (mkF m 149 #[.val (.int p1), .val (.int p2), .val (.int p3), .val (.int p4), .val (.int p5), .val (.int p6), .val (.int nn), .val (.ref b1), .val (.int (0 : Int32)), .val (.int (1 : Int32))] [(.int (1 : Int32)), (.ref b1), (.ref as15)])) τ → G τ := fun τ κ => pre τ (by
      refine XS.aload X15.here hx rfl (hb hby at_146) rfl rfl ?_
      show Steps p.tables e below (T15.setTop (mkF m 148 #[.val (.int p1), .val (.int p2), .val (.int p3), .val (.int p4), .val (.int p5), .val (.int p6), .val (.int nn), .val (.ref b1), .val (.int (0 : Int32)), .val (.int (1 : Int32))] [(.ref b1), (.ref as15)])) τ
      refine XS.iconst X15.here hx rfl (hb hby at_148) ?_
      show Steps p.tables e below (T15.setTop (mkF m 149 #[.val (.int p1), .val (.int p2), .val (.int p3), .val (.int p4), .val (.int p5), .val (.int p6), .val (.int nn), .val (.ref b1), .val (.int (0 : Int32)), .val (.int (1 : Int32))] [(.int (1 : Int32)), (.ref b1), (.ref as15)])) τ
      exact κ)
    obtain ⟨cq16, kq16, q16a, q16b, q16c⟩ := isOf hZ e15 E_b1
    obtain ⟨_, _, ⟨T16, Lx16, kx16, nx16⟩, -, X16, ⟨Lc16, hQ16, l16, y16, z16⟩, st16⟩ := X15.virtualBack hx (y := (⟨"coppice/marshal/context/NamespaceScope", "prefix", "(I)Ljava/lang/String;"⟩ : MethodName)) (z := (⟨"coppice/marshal/context/NamespaceScope", "prefix", "(I)Ljava/lang/String;"⟩ : MethodName)) hown (mvT hZ (hw _ (List.mem_of_getElem? (i := 89) rfl))) (mvT hZ (hw _ (List.mem_of_getElem? (i := 90) rfl))) (notFace_of_selects (args := #[]) (mvT hZ (hw _ (List.mem_of_getElem? (i := 92) rfl)))) (mvT hZ (hw _ (List.mem_of_getElem? (i := 92) rfl))) (mvT hZ (hw _ (List.mem_of_getElem? (i := 91) rfl))) (by decide) (backOf (W := 1) (rm16 l Z a0 hw [] b1 (1 : Int32) pf_2 kf_2 nn pfz_6 (own_r0 nn) h15 n0 Zn F_pf_6 V_pf_6 L_pf_6 (own_b01 N5.1).2) hZ (hw _ (List.mem_of_getElem? (i := 93) rfl)) (hw _ (List.mem_of_getElem? (i := 2) rfl)) (by decide) (by decide)) q16a q16c (g := (mkF m 149 #[.val (.int p1), .val (.int p2), .val (.int p3), .val (.int p4), .val (.int p5), .val (.int p6), .val (.int nn), .val (.ref b1), .val (.int (0 : Int32)), .val (.int (1 : Int32))] [(.int (1 : Int32)), (.ref b1), (.ref as15)])) rfl (by rw [hml]; rfl) (Steps.refl _) (argsL := [(.int (1 : Int32))]) (rest := [(.ref as15)]) (lenOf pd_11 rfl) rfl (by show 2 * 0 + _ ≤ _; exact Nat.le_of_eq rfl) (hb hby at_149) (fun _ _ => ⟨rfl, e15, (by decide : 16 + 0 ≤ _), (by decide : 101 + 0 ≤ _)⟩)
    dsimp only [Pt.U, Pt.locs, Pt.cells, Pt.slots] at X16 l16 y16 z16 st16 hQ16
    replace y16 : kx16 = 16 := y16
    replace z16 : nx16 = 101 := z16
    subst y16 z16
    obtain ⟨rfl, Nq16, hs16, F_r_16⟩ := hQ16
    have NN : Fr n0 Lx16 := by rw [l16]; exact Fr.app NN Nq16
    have F_r_16 : own_S Z h15 (pfz_6.getD ((1 : Int32)).toNatClampNeg .null) ((own_r0 nn).getD ((1 : Int32)).toNatClampNeg none) := hs16 ▸ F_r_16
    have pre : ∀ τ, Steps p.tables e below (T16.setTop (mkF m 152 #[.val (.int p1), .val (.int p2), .val (.int p3), .val (.int p4), .val (.int p5), .val (.int p6), .val (.int nn), .val (.ref b1), .val (.int (0 : Int32)), .val (.int (1 : Int32))] [(pfz_6.getD ((1 : Int32)).toNatClampNeg .null), (.ref as15)])) τ → G τ := fun τ κ => pre τ (st16.trans κ)
    obtain ⟨cq17, kq17, q17a, q17b, q17c⟩ := isOf hZ hs16 (own_S_exa F_s15)
    obtain ⟨_, _, ⟨T17, Lx17, kx17, nx17⟩, -, X17, ⟨Lc17, hQ17, l17, y17, z17⟩, st17⟩ := X16.virtualBack hx (y := (⟨"java/lang/String", "equals", "(Ljava/lang/Object;)Z"⟩ : MethodName)) (z := (⟨"java/lang/String", "equals", "(Ljava/lang/Object;)Z"⟩ : MethodName)) hown (mvT hZ (hw _ (List.mem_of_getElem? (i := 94) rfl))) (mvT hZ (hw _ (List.mem_of_getElem? (i := 71) rfl))) (notFace_of_selects (args := #[]) (mvT hZ (hw _ (List.mem_of_getElem? (i := 73) rfl)))) (mvT hZ (hw _ (List.mem_of_getElem? (i := 73) rfl))) (mvT hZ (hw _ (List.mem_of_getElem? (i := 72) rfl))) (by decide) (backOf (W := 0) (rm12 l Z a0 hw [] as15 (pfz_6.getD ((1 : Int32)).toNatClampNeg .null) [(.int (120 : Int32)), (.int (109 : Int32)), (.int (108 : Int32))] ((own_r0 nn).getD ((1 : Int32)).toNatClampNeg none) cw h15 n0 Zn F_s15 F_r_16 S_c hcw) hZ (hw _ (List.mem_of_getElem? (i := 74) rfl)) (hw _ (List.mem_of_getElem? (i := 28) rfl)) (by decide) (by decide)) q17a q17c (g := (mkF m 152 #[.val (.int p1), .val (.int p2), .val (.int p3), .val (.int p4), .val (.int p5), .val (.int p6), .val (.int nn), .val (.ref b1), .val (.int (0 : Int32)), .val (.int (1 : Int32))] [(pfz_6.getD ((1 : Int32)).toNatClampNeg .null), (.ref as15)])) rfl (by rw [hml]; rfl) (Steps.refl _) (argsL := [(pfz_6.getD ((1 : Int32)).toNatClampNeg .null)]) (rest := []) (lenOf pd_2 rfl) rfl (by show 2 * 0 + _ ≤ _; exact Nat.le_of_eq rfl) (hb hby at_152) (fun _ _ => ⟨rfl, hs16, (by decide : 16 + 0 ≤ _), (by decide : 101 + 0 ≤ _)⟩)
    dsimp only [Pt.U, Pt.locs, Pt.cells, Pt.slots] at X17 l17 y17 z17 st17 hQ17
    replace y17 : kx17 = 16 := y17
    replace z17 : nx17 = 101 := z17
    subst y17 z17
    obtain ⟨rfl, Nq17, hs17⟩ := hQ17
    have NN : Fr n0 Lx17 := by rw [l17]; exact Fr.app NN Nq17
    have pre : ∀ τ, Steps p.tables e below (T17.setTop (mkF m 155 #[.val (.int p1), .val (.int p2), .val (.int p3), .val (.int p4), .val (.int p5), .val (.int p6), .val (.int nn), .val (.ref b1), .val (.int (0 : Int32)), .val (.int (1 : Int32))] [(.int (own_eqt [(.int (120 : Int32)), (.int (109 : Int32)), (.int (108 : Int32))] ((own_r0 nn).getD ((1 : Int32)).toNatClampNeg none)))])) τ → G τ := fun τ κ => pre τ (st17.trans κ)
    have hc18 : ¬ ((own_eqt [(.int (120 : Int32)), (.int (109 : Int32)), (.int (108 : Int32))] ((own_r0 nn).getD ((1 : Int32)).toNatClampNeg none)) = (0 : Int32)) := (own_eqt1 (own_r01 N5.1))
    have pre : ∀ τ, Steps p.tables e below (T17.setTop (mkF m 165 #[.val (.int p1), .val (.int p2), .val (.int p3), .val (.int p4), .val (.int p5), .val (.int p6), .val (.int nn), .val (.ref b1), .val (.int (0 : Int32)), .val (.int (1 : Int32))] [])) τ → G τ := fun τ κ => pre τ (by
      refine XS.ifNo X17.here hx rfl (hb hby at_155) rfl ((if0 _ _).trans (feq hc18).1) ?_
      show Steps p.tables e below (T17.setTop (mkF m 158 #[.val (.int p1), .val (.int p2), .val (.int p3), .val (.int p4), .val (.int p5), .val (.int p6), .val (.int nn), .val (.ref b1), .val (.int (0 : Int32)), .val (.int (1 : Int32))] [])) τ
      refine XS.iconst X17.here hx rfl (hb hby at_158) ?_
      show Steps p.tables e below (T17.setTop (mkF m 159 #[.val (.int p1), .val (.int p2), .val (.int p3), .val (.int p4), .val (.int p5), .val (.int p6), .val (.int nn), .val (.ref b1), .val (.int (0 : Int32)), .val (.int (1 : Int32))] [(.int (1 : Int32))])) τ
      refine XS.goto X17.here hx rfl (pc0 := 159) (pc' := 163) rfl (hb hby at_159) (by decide) (by decide) ?_
      show Steps p.tables e below (T17.setTop (mkF m 163 #[.val (.int p1), .val (.int p2), .val (.int p3), .val (.int p4), .val (.int p5), .val (.int p6), .val (.int nn), .val (.ref b1), .val (.int (0 : Int32)), .val (.int (1 : Int32))] [(.int (1 : Int32))])) τ
      refine XS.istore X17.here hx rfl (hb hby at_163) rfl (l' := #[.val (.int p1), .val (.int p2), .val (.int p3), .val (.int p4), .val (.int p5), .val (.int p6), .val (.int nn), .val (.ref b1), .val (.int (0 : Int32)), .val (.int (1 : Int32))]) rfl ?_
      show Steps p.tables e below (T17.setTop (mkF m 165 #[.val (.int p1), .val (.int p2), .val (.int p3), .val (.int p4), .val (.int p5), .val (.int p6), .val (.int nn), .val (.ref b1), .val (.int (0 : Int32)), .val (.int (1 : Int32))] [])) τ
      exact κ)
    rcases (show nn = 2 ∨ nn = 3 ∨ nn = 4 ∨ nn = 5 by exact own_r5 N5) with hk_nn | hk_nn | hk_nn | hk_nn
    ·
      have pre : ∀ τ, Steps p.tables e below (T17.setTop (mkF m 165 #[.val (.int p1), .val (.int p2), .val (.int p3), .val (.int p4), .val (.int p5), .val (.int p6), .val (.int (2 : Int32)), .val (.ref b1), .val (.int (0 : Int32)), .val (.int (1 : Int32))] [])) τ → G τ := (show nn = (2 : Int32) from hk_nn) ▸ pre
      have pre : ∀ τ, Steps p.tables e below (T17.setTop (mkF m 168 #[.val (.int p1), .val (.int p2), .val (.int p3), .val (.int p4), .val (.int p5), .val (.int p6), .val (.int (2 : Int32)), .val (.ref b1), .val (.int (0 : Int32)), .val (.int (1 : Int32))] [(.int (2 : Int32)), (.int (2 : Int32))])) τ → G τ := fun τ κ => pre τ (by
        refine XS.iload X17.here hx rfl (hb hby at_165) rfl ?_
        show Steps p.tables e below (T17.setTop (mkF m 167 #[.val (.int p1), .val (.int p2), .val (.int p3), .val (.int p4), .val (.int p5), .val (.int p6), .val (.int (2 : Int32)), .val (.ref b1), .val (.int (0 : Int32)), .val (.int (1 : Int32))] [(.int (2 : Int32))])) τ
        refine XS.iconst X17.here hx rfl (hb hby at_167) ?_
        show Steps p.tables e below (T17.setTop (mkF m 168 #[.val (.int p1), .val (.int p2), .val (.int p3), .val (.int p4), .val (.int p5), .val (.int p6), .val (.int (2 : Int32)), .val (.ref b1), .val (.int (0 : Int32)), .val (.int (1 : Int32))] [(.int (2 : Int32)), (.int (2 : Int32))])) τ
        exact κ)
      have hc19 : ¬ ((2 : Int32) < (2 : Int32)) := (by decide)
      have pre : ∀ τ, Steps p.tables e below (T17.setTop (mkF m 195 #[.val (.int p1), .val (.int p2), .val (.int p3), .val (.int p4), .val (.int p5), .val (.int p6), .val (.int (2 : Int32)), .val (.ref b1), .val (.int (0 : Int32)), .val (.int (1 : Int32))] [(.int (3 : Int32)), (.int (2 : Int32))])) τ → G τ := fun τ κ => pre τ (by
        refine XS.icmpYes X17.here hx rfl (pc0 := 168) (pc' := 192) rfl (hb hby at_168) rfl (flt hc19).2.2.2 (by decide) (by decide) ?_
        show Steps p.tables e below (T17.setTop (mkF m 192 #[.val (.int p1), .val (.int p2), .val (.int p3), .val (.int p4), .val (.int p5), .val (.int p6), .val (.int (2 : Int32)), .val (.ref b1), .val (.int (0 : Int32)), .val (.int (1 : Int32))] [])) τ
        refine XS.iload X17.here hx rfl (hb hby at_192) rfl ?_
        show Steps p.tables e below (T17.setTop (mkF m 194 #[.val (.int p1), .val (.int p2), .val (.int p3), .val (.int p4), .val (.int p5), .val (.int p6), .val (.int (2 : Int32)), .val (.ref b1), .val (.int (0 : Int32)), .val (.int (1 : Int32))] [(.int (2 : Int32))])) τ
        refine XS.iconst X17.here hx rfl (hb hby at_194) ?_
        show Steps p.tables e below (T17.setTop (mkF m 195 #[.val (.int p1), .val (.int p2), .val (.int p3), .val (.int p4), .val (.int p5), .val (.int p6), .val (.int (2 : Int32)), .val (.ref b1), .val (.int (0 : Int32)), .val (.int (1 : Int32))] [(.int (3 : Int32)), (.int (2 : Int32))])) τ
        exact κ)
      have hc20 : ¬ ((3 : Int32) < (2 : Int32)) := (by decide)
      have pre : ∀ τ, Steps p.tables e below (T17.setTop (mkF m 222 #[.val (.int p1), .val (.int p2), .val (.int p3), .val (.int p4), .val (.int p5), .val (.int p6), .val (.int (2 : Int32)), .val (.ref b1), .val (.int (0 : Int32)), .val (.int (1 : Int32))] [(.int (4 : Int32)), (.int (2 : Int32))])) τ → G τ := fun τ κ => pre τ (by
        refine XS.icmpYes X17.here hx rfl (pc0 := 195) (pc' := 219) rfl (hb hby at_195) rfl (flt hc20).2.2.2 (by decide) (by decide) ?_
        show Steps p.tables e below (T17.setTop (mkF m 219 #[.val (.int p1), .val (.int p2), .val (.int p3), .val (.int p4), .val (.int p5), .val (.int p6), .val (.int (2 : Int32)), .val (.ref b1), .val (.int (0 : Int32)), .val (.int (1 : Int32))] [])) τ
        refine XS.iload X17.here hx rfl (hb hby at_219) rfl ?_
        show Steps p.tables e below (T17.setTop (mkF m 221 #[.val (.int p1), .val (.int p2), .val (.int p3), .val (.int p4), .val (.int p5), .val (.int p6), .val (.int (2 : Int32)), .val (.ref b1), .val (.int (0 : Int32)), .val (.int (1 : Int32))] [(.int (2 : Int32))])) τ
        refine XS.iconst X17.here hx rfl (hb hby at_221) ?_
        show Steps p.tables e below (T17.setTop (mkF m 222 #[.val (.int p1), .val (.int p2), .val (.int p3), .val (.int p4), .val (.int p5), .val (.int p6), .val (.int (2 : Int32)), .val (.ref b1), .val (.int (0 : Int32)), .val (.int (1 : Int32))] [(.int (4 : Int32)), (.int (2 : Int32))])) τ
        exact κ)
      have hc21 : ¬ ((4 : Int32) < (2 : Int32)) := (by decide)
      have pre : ∀ τ, Steps p.tables e below (T17.setTop (mkF m 248 #[.val (.int p1), .val (.int p2), .val (.int p3), .val (.int p4), .val (.int p5), .val (.int p6), .val (.int (2 : Int32)), .val (.ref b1), .val (.int (0 : Int32)), .val (.int (1 : Int32))] [(.int (1 : Int32))])) τ → G τ := fun τ κ => pre τ (by
        refine XS.icmpYes X17.here hx rfl (pc0 := 222) (pc' := 246) rfl (hb hby at_222) rfl (flt hc21).2.2.2 (by decide) (by decide) ?_
        show Steps p.tables e below (T17.setTop (mkF m 246 #[.val (.int p1), .val (.int p2), .val (.int p3), .val (.int p4), .val (.int p5), .val (.int p6), .val (.int (2 : Int32)), .val (.ref b1), .val (.int (0 : Int32)), .val (.int (1 : Int32))] [])) τ
        refine XS.iload X17.here hx rfl (hb hby at_246) rfl ?_
        show Steps p.tables e below (T17.setTop (mkF m 248 #[.val (.int p1), .val (.int p2), .val (.int p3), .val (.int p4), .val (.int p5), .val (.int p6), .val (.int (2 : Int32)), .val (.ref b1), .val (.int (0 : Int32)), .val (.int (1 : Int32))] [(.int (1 : Int32))])) τ
        exact κ)
      have hkT := Nat.le_trans hk (Nat.le_of_eq (congrArg Array.size (Eq.symm hs17)))
      obtain ⟨fsα, hr, hrun, hended, hRE⟩ := X17.leaveW hS hkT (v := some (.int (1 : Int32))) (fun h => by rw [Bd.returns] at h; cases h)
      refine hGL ⟨_, _, hG _ (pre _ ?_), hrun, hended, _, _, rfl, ?_, ?_, ⟨_, rfl⟩, hRE.2.1, hRE.2.2.1, hRE.2.2.2.mono (by decide) (by decide)⟩
      · exact retN X17 hx (t := .boolean) Bd.returns (by simp) (hb hby at_248) hr
      · show Q0 Z p1 p2 p3 p4 p5 p6 cw h0 n0 _ T17.heap _
        rw [hs17]
        exact ⟨rfl, NN⟩
      · show CHr Z own_EL s.vm s.heap T17.vm T17.heap
        rw [hh, hs17]
        exact HR.trans (CHv.at X17 hZ hEL H)
    ·
      have pre : ∀ τ, Steps p.tables e below (T17.setTop (mkF m 165 #[.val (.int p1), .val (.int p2), .val (.int p3), .val (.int p4), .val (.int p5), .val (.int p6), .val (.int (3 : Int32)), .val (.ref b1), .val (.int (0 : Int32)), .val (.int (1 : Int32))] [])) τ → G τ := (show nn = (3 : Int32) from hk_nn) ▸ pre
      have pre : ∀ τ, Steps p.tables e below (T17.setTop (mkF m 168 #[.val (.int p1), .val (.int p2), .val (.int p3), .val (.int p4), .val (.int p5), .val (.int p6), .val (.int (3 : Int32)), .val (.ref b1), .val (.int (0 : Int32)), .val (.int (1 : Int32))] [(.int (2 : Int32)), (.int (3 : Int32))])) τ → G τ := fun τ κ => pre τ (by
        refine XS.iload X17.here hx rfl (hb hby at_165) rfl ?_
        show Steps p.tables e below (T17.setTop (mkF m 167 #[.val (.int p1), .val (.int p2), .val (.int p3), .val (.int p4), .val (.int p5), .val (.int p6), .val (.int (3 : Int32)), .val (.ref b1), .val (.int (0 : Int32)), .val (.int (1 : Int32))] [(.int (3 : Int32))])) τ
        refine XS.iconst X17.here hx rfl (hb hby at_167) ?_
        show Steps p.tables e below (T17.setTop (mkF m 168 #[.val (.int p1), .val (.int p2), .val (.int p3), .val (.int p4), .val (.int p5), .val (.int p6), .val (.int (3 : Int32)), .val (.ref b1), .val (.int (0 : Int32)), .val (.int (1 : Int32))] [(.int (2 : Int32)), (.int (3 : Int32))])) τ
        exact κ)
      have hc22 : (2 : Int32) < (3 : Int32) := (by decide)
      have pre : ∀ τ, Steps p.tables e below (T17.setTop (mkF m 173 #[.val (.int p1), .val (.int p2), .val (.int p3), .val (.int p4), .val (.int p5), .val (.int p6), .val (.int (3 : Int32)), .val (.ref b1), .val (.int (0 : Int32)), .val (.int (1 : Int32))] [(.int (1 : Int32))])) τ → G τ := fun τ κ => pre τ (by
        refine XS.icmpNo X17.here hx rfl (hb hby at_168) rfl (tlt hc22).2.2.2 ?_
        show Steps p.tables e below (T17.setTop (mkF m 171 #[.val (.int p1), .val (.int p2), .val (.int p3), .val (.int p4), .val (.int p5), .val (.int p6), .val (.int (3 : Int32)), .val (.ref b1), .val (.int (0 : Int32)), .val (.int (1 : Int32))] [])) τ
        refine XS.iload X17.here hx rfl (hb hby at_171) rfl ?_
        show Steps p.tables e below (T17.setTop (mkF m 173 #[.val (.int p1), .val (.int p2), .val (.int p3), .val (.int p4), .val (.int p5), .val (.int p6), .val (.int (3 : Int32)), .val (.ref b1), .val (.int (0 : Int32)), .val (.int (1 : Int32))] [(.int (1 : Int32))])) τ
        exact κ)
      have hc23 : ¬ ((1 : Int32) = (0 : Int32)) := (by decide)
      have pre : ∀ τ, Steps p.tables e below (T17.setTop (mkF m 179 #[.val (.int p1), .val (.int p2), .val (.int p3), .val (.int p4), .val (.int p5), .val (.int p6), .val (.int (3 : Int32)), .val (.ref b1), .val (.int (0 : Int32)), .val (.int (1 : Int32))] [(.int (2 : Int32)), (.ref b1)])) τ → G τ := fun τ κ => pre τ (by
        refine XS.ifNo X17.here hx rfl (hb hby at_173) rfl ((if0 _ _).trans (feq hc23).1) ?_
        show Steps p.tables e below (T17.setTop (mkF m 176 #[.val (.int p1), .val (.int p2), .val (.int p3), .val (.int p4), .val (.int p5), .val (.int p6), .val (.int (3 : Int32)), .val (.ref b1), .val (.int (0 : Int32)), .val (.int (1 : Int32))] [])) τ
        refine XS.aload X17.here hx rfl (hb hby at_176) rfl rfl ?_
        show Steps p.tables e below (T17.setTop (mkF m 178 #[.val (.int p1), .val (.int p2), .val (.int p3), .val (.int p4), .val (.int p5), .val (.int p6), .val (.int (3 : Int32)), .val (.ref b1), .val (.int (0 : Int32)), .val (.int (1 : Int32))] [(.ref b1)])) τ
        refine XS.iconst X17.here hx rfl (hb hby at_178) ?_
        show Steps p.tables e below (T17.setTop (mkF m 179 #[.val (.int p1), .val (.int p2), .val (.int p3), .val (.int p4), .val (.int p5), .val (.int p6), .val (.int (3 : Int32)), .val (.ref b1), .val (.int (0 : Int32)), .val (.int (1 : Int32))] [(.int (2 : Int32)), (.ref b1)])) τ
        exact κ)
      obtain ⟨cq24, kq24, q24a, q24b, q24c⟩ := isOf hZ hs17 E_b1
      obtain ⟨_, _, ⟨T24, Lx24, kx24, nx24⟩, -, X24, ⟨Lc24, hQ24, l24, y24, z24⟩, st24⟩ := X17.virtualBack hx (y := (⟨"coppice/marshal/context/NamespaceScope", "prefix", "(I)Ljava/lang/String;"⟩ : MethodName)) (z := (⟨"coppice/marshal/context/NamespaceScope", "prefix", "(I)Ljava/lang/String;"⟩ : MethodName)) hown (mvT hZ (hw _ (List.mem_of_getElem? (i := 89) rfl))) (mvT hZ (hw _ (List.mem_of_getElem? (i := 90) rfl))) (notFace_of_selects (args := #[]) (mvT hZ (hw _ (List.mem_of_getElem? (i := 92) rfl)))) (mvT hZ (hw _ (List.mem_of_getElem? (i := 92) rfl))) (mvT hZ (hw _ (List.mem_of_getElem? (i := 91) rfl))) (by decide) (backOf (W := 0) (rm16 l Z a0 hw [] b1 (2 : Int32) pf_2 kf_2 nn pfz_6 (own_r0 nn) h15 n0 Zn F_pf_6 V_pf_6 L_pf_6 ⟨by decide, by rw [hk_nn]; decide⟩) hZ (hw _ (List.mem_of_getElem? (i := 93) rfl)) (hw _ (List.mem_of_getElem? (i := 2) rfl)) (by decide) (by decide)) q24a q24c (g := (mkF m 179 #[.val (.int p1), .val (.int p2), .val (.int p3), .val (.int p4), .val (.int p5), .val (.int p6), .val (.int (3 : Int32)), .val (.ref b1), .val (.int (0 : Int32)), .val (.int (1 : Int32))] [(.int (2 : Int32)), (.ref b1)])) rfl (by rw [hml]; rfl) (Steps.refl _) (argsL := [(.int (2 : Int32))]) (rest := []) (lenOf pd_11 rfl) rfl (by show 2 * 0 + _ ≤ _; exact Nat.le_of_eq rfl) (hb hby at_179) (fun _ _ => ⟨rfl, hs17, (by decide : 16 + 0 ≤ _), (by decide : 101 + 0 ≤ _)⟩)
      dsimp only [Pt.U, Pt.locs, Pt.cells, Pt.slots] at X24 l24 y24 z24 st24 hQ24
      replace y24 : kx24 = 16 := y24
      replace z24 : nx24 = 101 := z24
      subst y24 z24
      obtain ⟨rfl, Nq24, hs24, F_r_24⟩ := hQ24
      have NN : Fr n0 Lx24 := by rw [l24]; exact Fr.app NN Nq24
      have F_r_24 : own_S Z h15 (pfz_6.getD ((2 : Int32)).toNatClampNeg .null) ((own_r0 nn).getD ((2 : Int32)).toNatClampNeg none) := hs24 ▸ F_r_24
      have pre : ∀ τ, Steps p.tables e below (T24.setTop (mkF m 182 #[.val (.int p1), .val (.int p2), .val (.int p3), .val (.int p4), .val (.int p5), .val (.int p6), .val (.int (3 : Int32)), .val (.ref b1), .val (.int (0 : Int32)), .val (.int (1 : Int32))] [(pfz_6.getD ((2 : Int32)).toNatClampNeg .null)])) τ → G τ := fun τ κ => pre τ (st24.trans κ)
      have hnul2 := own_S_none F_r_24 (own_r0n (by decide))
      have pre : ∀ τ, Steps p.tables e below (T24.setTop (mkF m 182 #[.val (.int p1), .val (.int p2), .val (.int p3), .val (.int p4), .val (.int p5), .val (.int p6), .val (.int (3 : Int32)), .val (.ref b1), .val (.int (0 : Int32)), .val (.int (1 : Int32))] [.null])) τ → G τ := by rw [hnul2] at pre; exact pre
      have pre : ∀ τ, Steps p.tables e below (T24.setTop (mkF m 195 #[.val (.int p1), .val (.int p2), .val (.int p3), .val (.int p4), .val (.int p5), .val (.int p6), .val (.int (3 : Int32)), .val (.ref b1), .val (.int (0 : Int32)), .val (.int (1 : Int32))] [(.int (3 : Int32)), (.int (3 : Int32))])) τ → G τ := fun τ κ => pre τ (by
        refine XS.ifnonnullNo X24.here hx rfl (hb hby at_182) rfl ?_
        show Steps p.tables e below (T24.setTop (mkF m 185 #[.val (.int p1), .val (.int p2), .val (.int p3), .val (.int p4), .val (.int p5), .val (.int p6), .val (.int (3 : Int32)), .val (.ref b1), .val (.int (0 : Int32)), .val (.int (1 : Int32))] [])) τ
        refine XS.iconst X24.here hx rfl (hb hby at_185) ?_
        show Steps p.tables e below (T24.setTop (mkF m 186 #[.val (.int p1), .val (.int p2), .val (.int p3), .val (.int p4), .val (.int p5), .val (.int p6), .val (.int (3 : Int32)), .val (.ref b1), .val (.int (0 : Int32)), .val (.int (1 : Int32))] [(.int (1 : Int32))])) τ
        refine XS.goto X24.here hx rfl (pc0 := 186) (pc' := 190) rfl (hb hby at_186) (by decide) (by decide) ?_
        show Steps p.tables e below (T24.setTop (mkF m 190 #[.val (.int p1), .val (.int p2), .val (.int p3), .val (.int p4), .val (.int p5), .val (.int p6), .val (.int (3 : Int32)), .val (.ref b1), .val (.int (0 : Int32)), .val (.int (1 : Int32))] [(.int (1 : Int32))])) τ
        refine XS.istore X24.here hx rfl (hb hby at_190) rfl (l' := #[.val (.int p1), .val (.int p2), .val (.int p3), .val (.int p4), .val (.int p5), .val (.int p6), .val (.int (3 : Int32)), .val (.ref b1), .val (.int (0 : Int32)), .val (.int (1 : Int32))]) rfl ?_
        show Steps p.tables e below (T24.setTop (mkF m 192 #[.val (.int p1), .val (.int p2), .val (.int p3), .val (.int p4), .val (.int p5), .val (.int p6), .val (.int (3 : Int32)), .val (.ref b1), .val (.int (0 : Int32)), .val (.int (1 : Int32))] [])) τ
        refine XS.iload X24.here hx rfl (hb hby at_192) rfl ?_
        show Steps p.tables e below (T24.setTop (mkF m 194 #[.val (.int p1), .val (.int p2), .val (.int p3), .val (.int p4), .val (.int p5), .val (.int p6), .val (.int (3 : Int32)), .val (.ref b1), .val (.int (0 : Int32)), .val (.int (1 : Int32))] [(.int (3 : Int32))])) τ
        refine XS.iconst X24.here hx rfl (hb hby at_194) ?_
        show Steps p.tables e below (T24.setTop (mkF m 195 #[.val (.int p1), .val (.int p2), .val (.int p3), .val (.int p4), .val (.int p5), .val (.int p6), .val (.int (3 : Int32)), .val (.ref b1), .val (.int (0 : Int32)), .val (.int (1 : Int32))] [(.int (3 : Int32)), (.int (3 : Int32))])) τ
        exact κ)
      have hc25 : ¬ ((3 : Int32) < (3 : Int32)) := (by decide)
      have pre : ∀ τ, Steps p.tables e below (T24.setTop (mkF m 222 #[.val (.int p1), .val (.int p2), .val (.int p3), .val (.int p4), .val (.int p5), .val (.int p6), .val (.int (3 : Int32)), .val (.ref b1), .val (.int (0 : Int32)), .val (.int (1 : Int32))] [(.int (4 : Int32)), (.int (3 : Int32))])) τ → G τ := fun τ κ => pre τ (by
        refine XS.icmpYes X24.here hx rfl (pc0 := 195) (pc' := 219) rfl (hb hby at_195) rfl (flt hc25).2.2.2 (by decide) (by decide) ?_
        show Steps p.tables e below (T24.setTop (mkF m 219 #[.val (.int p1), .val (.int p2), .val (.int p3), .val (.int p4), .val (.int p5), .val (.int p6), .val (.int (3 : Int32)), .val (.ref b1), .val (.int (0 : Int32)), .val (.int (1 : Int32))] [])) τ
        refine XS.iload X24.here hx rfl (hb hby at_219) rfl ?_
        show Steps p.tables e below (T24.setTop (mkF m 221 #[.val (.int p1), .val (.int p2), .val (.int p3), .val (.int p4), .val (.int p5), .val (.int p6), .val (.int (3 : Int32)), .val (.ref b1), .val (.int (0 : Int32)), .val (.int (1 : Int32))] [(.int (3 : Int32))])) τ
        refine XS.iconst X24.here hx rfl (hb hby at_221) ?_
        show Steps p.tables e below (T24.setTop (mkF m 222 #[.val (.int p1), .val (.int p2), .val (.int p3), .val (.int p4), .val (.int p5), .val (.int p6), .val (.int (3 : Int32)), .val (.ref b1), .val (.int (0 : Int32)), .val (.int (1 : Int32))] [(.int (4 : Int32)), (.int (3 : Int32))])) τ
        exact κ)
      have hc26 : ¬ ((4 : Int32) < (3 : Int32)) := (by decide)
      have pre : ∀ τ, Steps p.tables e below (T24.setTop (mkF m 248 #[.val (.int p1), .val (.int p2), .val (.int p3), .val (.int p4), .val (.int p5), .val (.int p6), .val (.int (3 : Int32)), .val (.ref b1), .val (.int (0 : Int32)), .val (.int (1 : Int32))] [(.int (1 : Int32))])) τ → G τ := fun τ κ => pre τ (by
        refine XS.icmpYes X24.here hx rfl (pc0 := 222) (pc' := 246) rfl (hb hby at_222) rfl (flt hc26).2.2.2 (by decide) (by decide) ?_
        show Steps p.tables e below (T24.setTop (mkF m 246 #[.val (.int p1), .val (.int p2), .val (.int p3), .val (.int p4), .val (.int p5), .val (.int p6), .val (.int (3 : Int32)), .val (.ref b1), .val (.int (0 : Int32)), .val (.int (1 : Int32))] [])) τ
        refine XS.iload X24.here hx rfl (hb hby at_246) rfl ?_
        show Steps p.tables e below (T24.setTop (mkF m 248 #[.val (.int p1), .val (.int p2), .val (.int p3), .val (.int p4), .val (.int p5), .val (.int p6), .val (.int (3 : Int32)), .val (.ref b1), .val (.int (0 : Int32)), .val (.int (1 : Int32))] [(.int (1 : Int32))])) τ
        exact κ)
      have hkT := Nat.le_trans hk (Nat.le_of_eq (congrArg Array.size (Eq.symm hs24)))
      obtain ⟨fsα, hr, hrun, hended, hRE⟩ := X24.leaveW hS hkT (v := some (.int (1 : Int32))) (fun h => by rw [Bd.returns] at h; cases h)
      refine hGL ⟨_, _, hG _ (pre _ ?_), hrun, hended, _, _, rfl, ?_, ?_, ⟨_, rfl⟩, hRE.2.1, hRE.2.2.1, hRE.2.2.2.mono (by decide) (by decide)⟩
      · exact retN X24 hx (t := .boolean) Bd.returns (by simp) (hb hby at_248) hr
      · show Q0 Z p1 p2 p3 p4 p5 p6 cw h0 n0 _ T24.heap _
        rw [hs24]
        exact ⟨rfl, NN⟩
      · show CHr Z own_EL s.vm s.heap T24.vm T24.heap
        rw [hh, hs24]
        exact HR.trans (CHv.at X24 hZ hEL H)
    ·
      have pre : ∀ τ, Steps p.tables e below (T17.setTop (mkF m 165 #[.val (.int p1), .val (.int p2), .val (.int p3), .val (.int p4), .val (.int p5), .val (.int p6), .val (.int (4 : Int32)), .val (.ref b1), .val (.int (0 : Int32)), .val (.int (1 : Int32))] [])) τ → G τ := (show nn = (4 : Int32) from hk_nn) ▸ pre
      have pre : ∀ τ, Steps p.tables e below (T17.setTop (mkF m 168 #[.val (.int p1), .val (.int p2), .val (.int p3), .val (.int p4), .val (.int p5), .val (.int p6), .val (.int (4 : Int32)), .val (.ref b1), .val (.int (0 : Int32)), .val (.int (1 : Int32))] [(.int (2 : Int32)), (.int (4 : Int32))])) τ → G τ := fun τ κ => pre τ (by
        refine XS.iload X17.here hx rfl (hb hby at_165) rfl ?_
        show Steps p.tables e below (T17.setTop (mkF m 167 #[.val (.int p1), .val (.int p2), .val (.int p3), .val (.int p4), .val (.int p5), .val (.int p6), .val (.int (4 : Int32)), .val (.ref b1), .val (.int (0 : Int32)), .val (.int (1 : Int32))] [(.int (4 : Int32))])) τ
        refine XS.iconst X17.here hx rfl (hb hby at_167) ?_
        show Steps p.tables e below (T17.setTop (mkF m 168 #[.val (.int p1), .val (.int p2), .val (.int p3), .val (.int p4), .val (.int p5), .val (.int p6), .val (.int (4 : Int32)), .val (.ref b1), .val (.int (0 : Int32)), .val (.int (1 : Int32))] [(.int (2 : Int32)), (.int (4 : Int32))])) τ
        exact κ)
      have hc27 : (2 : Int32) < (4 : Int32) := (by decide)
      have pre : ∀ τ, Steps p.tables e below (T17.setTop (mkF m 173 #[.val (.int p1), .val (.int p2), .val (.int p3), .val (.int p4), .val (.int p5), .val (.int p6), .val (.int (4 : Int32)), .val (.ref b1), .val (.int (0 : Int32)), .val (.int (1 : Int32))] [(.int (1 : Int32))])) τ → G τ := fun τ κ => pre τ (by
        refine XS.icmpNo X17.here hx rfl (hb hby at_168) rfl (tlt hc27).2.2.2 ?_
        show Steps p.tables e below (T17.setTop (mkF m 171 #[.val (.int p1), .val (.int p2), .val (.int p3), .val (.int p4), .val (.int p5), .val (.int p6), .val (.int (4 : Int32)), .val (.ref b1), .val (.int (0 : Int32)), .val (.int (1 : Int32))] [])) τ
        refine XS.iload X17.here hx rfl (hb hby at_171) rfl ?_
        show Steps p.tables e below (T17.setTop (mkF m 173 #[.val (.int p1), .val (.int p2), .val (.int p3), .val (.int p4), .val (.int p5), .val (.int p6), .val (.int (4 : Int32)), .val (.ref b1), .val (.int (0 : Int32)), .val (.int (1 : Int32))] [(.int (1 : Int32))])) τ
        exact κ)
      have hc28 : ¬ ((1 : Int32) = (0 : Int32)) := (by decide)
      have pre : ∀ τ, Steps p.tables e below (T17.setTop (mkF m 179 #[.val (.int p1), .val (.int p2), .val (.int p3), .val (.int p4), .val (.int p5), .val (.int p6), .val (.int (4 : Int32)), .val (.ref b1), .val (.int (0 : Int32)), .val (.int (1 : Int32))] [(.int (2 : Int32)), (.ref b1)])) τ → G τ := fun τ κ => pre τ (by
        refine XS.ifNo X17.here hx rfl (hb hby at_173) rfl ((if0 _ _).trans (feq hc28).1) ?_
        show Steps p.tables e below (T17.setTop (mkF m 176 #[.val (.int p1), .val (.int p2), .val (.int p3), .val (.int p4), .val (.int p5), .val (.int p6), .val (.int (4 : Int32)), .val (.ref b1), .val (.int (0 : Int32)), .val (.int (1 : Int32))] [])) τ
        refine XS.aload X17.here hx rfl (hb hby at_176) rfl rfl ?_
        show Steps p.tables e below (T17.setTop (mkF m 178 #[.val (.int p1), .val (.int p2), .val (.int p3), .val (.int p4), .val (.int p5), .val (.int p6), .val (.int (4 : Int32)), .val (.ref b1), .val (.int (0 : Int32)), .val (.int (1 : Int32))] [(.ref b1)])) τ
        refine XS.iconst X17.here hx rfl (hb hby at_178) ?_
        show Steps p.tables e below (T17.setTop (mkF m 179 #[.val (.int p1), .val (.int p2), .val (.int p3), .val (.int p4), .val (.int p5), .val (.int p6), .val (.int (4 : Int32)), .val (.ref b1), .val (.int (0 : Int32)), .val (.int (1 : Int32))] [(.int (2 : Int32)), (.ref b1)])) τ
        exact κ)
      obtain ⟨cq29, kq29, q29a, q29b, q29c⟩ := isOf hZ hs17 E_b1
      obtain ⟨_, _, ⟨T29, Lx29, kx29, nx29⟩, -, X29, ⟨Lc29, hQ29, l29, y29, z29⟩, st29⟩ := X17.virtualBack hx (y := (⟨"coppice/marshal/context/NamespaceScope", "prefix", "(I)Ljava/lang/String;"⟩ : MethodName)) (z := (⟨"coppice/marshal/context/NamespaceScope", "prefix", "(I)Ljava/lang/String;"⟩ : MethodName)) hown (mvT hZ (hw _ (List.mem_of_getElem? (i := 89) rfl))) (mvT hZ (hw _ (List.mem_of_getElem? (i := 90) rfl))) (notFace_of_selects (args := #[]) (mvT hZ (hw _ (List.mem_of_getElem? (i := 92) rfl)))) (mvT hZ (hw _ (List.mem_of_getElem? (i := 92) rfl))) (mvT hZ (hw _ (List.mem_of_getElem? (i := 91) rfl))) (by decide) (backOf (W := 0) (rm16 l Z a0 hw [] b1 (2 : Int32) pf_2 kf_2 nn pfz_6 (own_r0 nn) h15 n0 Zn F_pf_6 V_pf_6 L_pf_6 ⟨by decide, by rw [hk_nn]; decide⟩) hZ (hw _ (List.mem_of_getElem? (i := 93) rfl)) (hw _ (List.mem_of_getElem? (i := 2) rfl)) (by decide) (by decide)) q29a q29c (g := (mkF m 179 #[.val (.int p1), .val (.int p2), .val (.int p3), .val (.int p4), .val (.int p5), .val (.int p6), .val (.int (4 : Int32)), .val (.ref b1), .val (.int (0 : Int32)), .val (.int (1 : Int32))] [(.int (2 : Int32)), (.ref b1)])) rfl (by rw [hml]; rfl) (Steps.refl _) (argsL := [(.int (2 : Int32))]) (rest := []) (lenOf pd_11 rfl) rfl (by show 2 * 0 + _ ≤ _; exact Nat.le_of_eq rfl) (hb hby at_179) (fun _ _ => ⟨rfl, hs17, (by decide : 16 + 0 ≤ _), (by decide : 101 + 0 ≤ _)⟩)
      dsimp only [Pt.U, Pt.locs, Pt.cells, Pt.slots] at X29 l29 y29 z29 st29 hQ29
      replace y29 : kx29 = 16 := y29
      replace z29 : nx29 = 101 := z29
      subst y29 z29
      obtain ⟨rfl, Nq29, hs29, F_r_29⟩ := hQ29
      have NN : Fr n0 Lx29 := by rw [l29]; exact Fr.app NN Nq29
      have F_r_29 : own_S Z h15 (pfz_6.getD ((2 : Int32)).toNatClampNeg .null) ((own_r0 nn).getD ((2 : Int32)).toNatClampNeg none) := hs29 ▸ F_r_29
      have pre : ∀ τ, Steps p.tables e below (T29.setTop (mkF m 182 #[.val (.int p1), .val (.int p2), .val (.int p3), .val (.int p4), .val (.int p5), .val (.int p6), .val (.int (4 : Int32)), .val (.ref b1), .val (.int (0 : Int32)), .val (.int (1 : Int32))] [(pfz_6.getD ((2 : Int32)).toNatClampNeg .null)])) τ → G τ := fun τ κ => pre τ (st29.trans κ)
      have hnul2 := own_S_none F_r_29 (own_r0n (by decide))
      have pre : ∀ τ, Steps p.tables e below (T29.setTop (mkF m 182 #[.val (.int p1), .val (.int p2), .val (.int p3), .val (.int p4), .val (.int p5), .val (.int p6), .val (.int (4 : Int32)), .val (.ref b1), .val (.int (0 : Int32)), .val (.int (1 : Int32))] [.null])) τ → G τ := by rw [hnul2] at pre; exact pre
      have pre : ∀ τ, Steps p.tables e below (T29.setTop (mkF m 195 #[.val (.int p1), .val (.int p2), .val (.int p3), .val (.int p4), .val (.int p5), .val (.int p6), .val (.int (4 : Int32)), .val (.ref b1), .val (.int (0 : Int32)), .val (.int (1 : Int32))] [(.int (3 : Int32)), (.int (4 : Int32))])) τ → G τ := fun τ κ => pre τ (by
        refine XS.ifnonnullNo X29.here hx rfl (hb hby at_182) rfl ?_
        show Steps p.tables e below (T29.setTop (mkF m 185 #[.val (.int p1), .val (.int p2), .val (.int p3), .val (.int p4), .val (.int p5), .val (.int p6), .val (.int (4 : Int32)), .val (.ref b1), .val (.int (0 : Int32)), .val (.int (1 : Int32))] [])) τ
        refine XS.iconst X29.here hx rfl (hb hby at_185) ?_
        show Steps p.tables e below (T29.setTop (mkF m 186 #[.val (.int p1), .val (.int p2), .val (.int p3), .val (.int p4), .val (.int p5), .val (.int p6), .val (.int (4 : Int32)), .val (.ref b1), .val (.int (0 : Int32)), .val (.int (1 : Int32))] [(.int (1 : Int32))])) τ
        refine XS.goto X29.here hx rfl (pc0 := 186) (pc' := 190) rfl (hb hby at_186) (by decide) (by decide) ?_
        show Steps p.tables e below (T29.setTop (mkF m 190 #[.val (.int p1), .val (.int p2), .val (.int p3), .val (.int p4), .val (.int p5), .val (.int p6), .val (.int (4 : Int32)), .val (.ref b1), .val (.int (0 : Int32)), .val (.int (1 : Int32))] [(.int (1 : Int32))])) τ
        refine XS.istore X29.here hx rfl (hb hby at_190) rfl (l' := #[.val (.int p1), .val (.int p2), .val (.int p3), .val (.int p4), .val (.int p5), .val (.int p6), .val (.int (4 : Int32)), .val (.ref b1), .val (.int (0 : Int32)), .val (.int (1 : Int32))]) rfl ?_
        show Steps p.tables e below (T29.setTop (mkF m 192 #[.val (.int p1), .val (.int p2), .val (.int p3), .val (.int p4), .val (.int p5), .val (.int p6), .val (.int (4 : Int32)), .val (.ref b1), .val (.int (0 : Int32)), .val (.int (1 : Int32))] [])) τ
        refine XS.iload X29.here hx rfl (hb hby at_192) rfl ?_
        show Steps p.tables e below (T29.setTop (mkF m 194 #[.val (.int p1), .val (.int p2), .val (.int p3), .val (.int p4), .val (.int p5), .val (.int p6), .val (.int (4 : Int32)), .val (.ref b1), .val (.int (0 : Int32)), .val (.int (1 : Int32))] [(.int (4 : Int32))])) τ
        refine XS.iconst X29.here hx rfl (hb hby at_194) ?_
        show Steps p.tables e below (T29.setTop (mkF m 195 #[.val (.int p1), .val (.int p2), .val (.int p3), .val (.int p4), .val (.int p5), .val (.int p6), .val (.int (4 : Int32)), .val (.ref b1), .val (.int (0 : Int32)), .val (.int (1 : Int32))] [(.int (3 : Int32)), (.int (4 : Int32))])) τ
        exact κ)
      have hc30 : (3 : Int32) < (4 : Int32) := (by decide)
      have pre : ∀ τ, Steps p.tables e below (T29.setTop (mkF m 200 #[.val (.int p1), .val (.int p2), .val (.int p3), .val (.int p4), .val (.int p5), .val (.int p6), .val (.int (4 : Int32)), .val (.ref b1), .val (.int (0 : Int32)), .val (.int (1 : Int32))] [(.int (1 : Int32))])) τ → G τ := fun τ κ => pre τ (by
        refine XS.icmpNo X29.here hx rfl (hb hby at_195) rfl (tlt hc30).2.2.2 ?_
        show Steps p.tables e below (T29.setTop (mkF m 198 #[.val (.int p1), .val (.int p2), .val (.int p3), .val (.int p4), .val (.int p5), .val (.int p6), .val (.int (4 : Int32)), .val (.ref b1), .val (.int (0 : Int32)), .val (.int (1 : Int32))] [])) τ
        refine XS.iload X29.here hx rfl (hb hby at_198) rfl ?_
        show Steps p.tables e below (T29.setTop (mkF m 200 #[.val (.int p1), .val (.int p2), .val (.int p3), .val (.int p4), .val (.int p5), .val (.int p6), .val (.int (4 : Int32)), .val (.ref b1), .val (.int (0 : Int32)), .val (.int (1 : Int32))] [(.int (1 : Int32))])) τ
        exact κ)
      have hc31 : ¬ ((1 : Int32) = (0 : Int32)) := (by decide)
      have pre : ∀ τ, Steps p.tables e below (T29.setTop (mkF m 206 #[.val (.int p1), .val (.int p2), .val (.int p3), .val (.int p4), .val (.int p5), .val (.int p6), .val (.int (4 : Int32)), .val (.ref b1), .val (.int (0 : Int32)), .val (.int (1 : Int32))] [(.int (3 : Int32)), (.ref b1)])) τ → G τ := fun τ κ => pre τ (by
        refine XS.ifNo X29.here hx rfl (hb hby at_200) rfl ((if0 _ _).trans (feq hc31).1) ?_
        show Steps p.tables e below (T29.setTop (mkF m 203 #[.val (.int p1), .val (.int p2), .val (.int p3), .val (.int p4), .val (.int p5), .val (.int p6), .val (.int (4 : Int32)), .val (.ref b1), .val (.int (0 : Int32)), .val (.int (1 : Int32))] [])) τ
        refine XS.aload X29.here hx rfl (hb hby at_203) rfl rfl ?_
        show Steps p.tables e below (T29.setTop (mkF m 205 #[.val (.int p1), .val (.int p2), .val (.int p3), .val (.int p4), .val (.int p5), .val (.int p6), .val (.int (4 : Int32)), .val (.ref b1), .val (.int (0 : Int32)), .val (.int (1 : Int32))] [(.ref b1)])) τ
        refine XS.iconst X29.here hx rfl (hb hby at_205) ?_
        show Steps p.tables e below (T29.setTop (mkF m 206 #[.val (.int p1), .val (.int p2), .val (.int p3), .val (.int p4), .val (.int p5), .val (.int p6), .val (.int (4 : Int32)), .val (.ref b1), .val (.int (0 : Int32)), .val (.int (1 : Int32))] [(.int (3 : Int32)), (.ref b1)])) τ
        exact κ)
      obtain ⟨cq32, kq32, q32a, q32b, q32c⟩ := isOf hZ hs29 E_b1
      obtain ⟨_, _, ⟨T32, Lx32, kx32, nx32⟩, -, X32, ⟨Lc32, hQ32, l32, y32, z32⟩, st32⟩ := X29.virtualBack hx (y := (⟨"coppice/marshal/context/NamespaceScope", "prefix", "(I)Ljava/lang/String;"⟩ : MethodName)) (z := (⟨"coppice/marshal/context/NamespaceScope", "prefix", "(I)Ljava/lang/String;"⟩ : MethodName)) hown (mvT hZ (hw _ (List.mem_of_getElem? (i := 89) rfl))) (mvT hZ (hw _ (List.mem_of_getElem? (i := 90) rfl))) (notFace_of_selects (args := #[]) (mvT hZ (hw _ (List.mem_of_getElem? (i := 92) rfl)))) (mvT hZ (hw _ (List.mem_of_getElem? (i := 92) rfl))) (mvT hZ (hw _ (List.mem_of_getElem? (i := 91) rfl))) (by decide) (backOf (W := 0) (rm16 l Z a0 hw [] b1 (3 : Int32) pf_2 kf_2 nn pfz_6 (own_r0 nn) h15 n0 Zn F_pf_6 V_pf_6 L_pf_6 ⟨by decide, by rw [hk_nn]; decide⟩) hZ (hw _ (List.mem_of_getElem? (i := 93) rfl)) (hw _ (List.mem_of_getElem? (i := 2) rfl)) (by decide) (by decide)) q32a q32c (g := (mkF m 206 #[.val (.int p1), .val (.int p2), .val (.int p3), .val (.int p4), .val (.int p5), .val (.int p6), .val (.int (4 : Int32)), .val (.ref b1), .val (.int (0 : Int32)), .val (.int (1 : Int32))] [(.int (3 : Int32)), (.ref b1)])) rfl (by rw [hml]; rfl) (Steps.refl _) (argsL := [(.int (3 : Int32))]) (rest := []) (lenOf pd_11 rfl) rfl (by show 2 * 0 + _ ≤ _; exact Nat.le_of_eq rfl) (hb hby at_206) (fun _ _ => ⟨rfl, hs29, (by decide : 16 + 0 ≤ _), (by decide : 101 + 0 ≤ _)⟩)
      dsimp only [Pt.U, Pt.locs, Pt.cells, Pt.slots] at X32 l32 y32 z32 st32 hQ32
      replace y32 : kx32 = 16 := y32
      replace z32 : nx32 = 101 := z32
      subst y32 z32
      obtain ⟨rfl, Nq32, hs32, F_r_32⟩ := hQ32
      have NN : Fr n0 Lx32 := by rw [l32]; exact Fr.app NN Nq32
      have F_r_32 : own_S Z h15 (pfz_6.getD ((3 : Int32)).toNatClampNeg .null) ((own_r0 nn).getD ((3 : Int32)).toNatClampNeg none) := hs32 ▸ F_r_32
      have pre : ∀ τ, Steps p.tables e below (T32.setTop (mkF m 209 #[.val (.int p1), .val (.int p2), .val (.int p3), .val (.int p4), .val (.int p5), .val (.int p6), .val (.int (4 : Int32)), .val (.ref b1), .val (.int (0 : Int32)), .val (.int (1 : Int32))] [(pfz_6.getD ((3 : Int32)).toNatClampNeg .null)])) τ → G τ := fun τ κ => pre τ (st32.trans κ)
      have hnul3 := own_S_none F_r_32 (own_r0n (by decide))
      have pre : ∀ τ, Steps p.tables e below (T32.setTop (mkF m 209 #[.val (.int p1), .val (.int p2), .val (.int p3), .val (.int p4), .val (.int p5), .val (.int p6), .val (.int (4 : Int32)), .val (.ref b1), .val (.int (0 : Int32)), .val (.int (1 : Int32))] [.null])) τ → G τ := by rw [hnul3] at pre; exact pre
      have pre : ∀ τ, Steps p.tables e below (T32.setTop (mkF m 222 #[.val (.int p1), .val (.int p2), .val (.int p3), .val (.int p4), .val (.int p5), .val (.int p6), .val (.int (4 : Int32)), .val (.ref b1), .val (.int (0 : Int32)), .val (.int (1 : Int32))] [(.int (4 : Int32)), (.int (4 : Int32))])) τ → G τ := fun τ κ => pre τ (by
        refine XS.ifnonnullNo X32.here hx rfl (hb hby at_209) rfl ?_
        show Steps p.tables e below (T32.setTop (mkF m 212 #[.val (.int p1), .val (.int p2), .val (.int p3), .val (.int p4), .val (.int p5), .val (.int p6), .val (.int (4 : Int32)), .val (.ref b1), .val (.int (0 : Int32)), .val (.int (1 : Int32))] [])) τ
        refine XS.iconst X32.here hx rfl (hb hby at_212) ?_
        show Steps p.tables e below (T32.setTop (mkF m 213 #[.val (.int p1), .val (.int p2), .val (.int p3), .val (.int p4), .val (.int p5), .val (.int p6), .val (.int (4 : Int32)), .val (.ref b1), .val (.int (0 : Int32)), .val (.int (1 : Int32))] [(.int (1 : Int32))])) τ
        refine XS.goto X32.here hx rfl (pc0 := 213) (pc' := 217) rfl (hb hby at_213) (by decide) (by decide) ?_
        show Steps p.tables e below (T32.setTop (mkF m 217 #[.val (.int p1), .val (.int p2), .val (.int p3), .val (.int p4), .val (.int p5), .val (.int p6), .val (.int (4 : Int32)), .val (.ref b1), .val (.int (0 : Int32)), .val (.int (1 : Int32))] [(.int (1 : Int32))])) τ
        refine XS.istore X32.here hx rfl (hb hby at_217) rfl (l' := #[.val (.int p1), .val (.int p2), .val (.int p3), .val (.int p4), .val (.int p5), .val (.int p6), .val (.int (4 : Int32)), .val (.ref b1), .val (.int (0 : Int32)), .val (.int (1 : Int32))]) rfl ?_
        show Steps p.tables e below (T32.setTop (mkF m 219 #[.val (.int p1), .val (.int p2), .val (.int p3), .val (.int p4), .val (.int p5), .val (.int p6), .val (.int (4 : Int32)), .val (.ref b1), .val (.int (0 : Int32)), .val (.int (1 : Int32))] [])) τ
        refine XS.iload X32.here hx rfl (hb hby at_219) rfl ?_
        show Steps p.tables e below (T32.setTop (mkF m 221 #[.val (.int p1), .val (.int p2), .val (.int p3), .val (.int p4), .val (.int p5), .val (.int p6), .val (.int (4 : Int32)), .val (.ref b1), .val (.int (0 : Int32)), .val (.int (1 : Int32))] [(.int (4 : Int32))])) τ
        refine XS.iconst X32.here hx rfl (hb hby at_221) ?_
        show Steps p.tables e below (T32.setTop (mkF m 222 #[.val (.int p1), .val (.int p2), .val (.int p3), .val (.int p4), .val (.int p5), .val (.int p6), .val (.int (4 : Int32)), .val (.ref b1), .val (.int (0 : Int32)), .val (.int (1 : Int32))] [(.int (4 : Int32)), (.int (4 : Int32))])) τ
        exact κ)
      have hc33 : ¬ ((4 : Int32) < (4 : Int32)) := (by decide)
      have pre : ∀ τ, Steps p.tables e below (T32.setTop (mkF m 248 #[.val (.int p1), .val (.int p2), .val (.int p3), .val (.int p4), .val (.int p5), .val (.int p6), .val (.int (4 : Int32)), .val (.ref b1), .val (.int (0 : Int32)), .val (.int (1 : Int32))] [(.int (1 : Int32))])) τ → G τ := fun τ κ => pre τ (by
        refine XS.icmpYes X32.here hx rfl (pc0 := 222) (pc' := 246) rfl (hb hby at_222) rfl (flt hc33).2.2.2 (by decide) (by decide) ?_
        show Steps p.tables e below (T32.setTop (mkF m 246 #[.val (.int p1), .val (.int p2), .val (.int p3), .val (.int p4), .val (.int p5), .val (.int p6), .val (.int (4 : Int32)), .val (.ref b1), .val (.int (0 : Int32)), .val (.int (1 : Int32))] [])) τ
        refine XS.iload X32.here hx rfl (hb hby at_246) rfl ?_
        show Steps p.tables e below (T32.setTop (mkF m 248 #[.val (.int p1), .val (.int p2), .val (.int p3), .val (.int p4), .val (.int p5), .val (.int p6), .val (.int (4 : Int32)), .val (.ref b1), .val (.int (0 : Int32)), .val (.int (1 : Int32))] [(.int (1 : Int32))])) τ
        exact κ)
      have hkT := Nat.le_trans hk (Nat.le_of_eq (congrArg Array.size (Eq.symm hs32)))
      obtain ⟨fsα, hr, hrun, hended, hRE⟩ := X32.leaveW hS hkT (v := some (.int (1 : Int32))) (fun h => by rw [Bd.returns] at h; cases h)
      refine hGL ⟨_, _, hG _ (pre _ ?_), hrun, hended, _, _, rfl, ?_, ?_, ⟨_, rfl⟩, hRE.2.1, hRE.2.2.1, hRE.2.2.2.mono (by decide) (by decide)⟩
      · exact retN X32 hx (t := .boolean) Bd.returns (by simp) (hb hby at_248) hr
      · show Q0 Z p1 p2 p3 p4 p5 p6 cw h0 n0 _ T32.heap _
        rw [hs32]
        exact ⟨rfl, NN⟩
      · show CHr Z own_EL s.vm s.heap T32.vm T32.heap
        rw [hh, hs32]
        exact HR.trans (CHv.at X32 hZ hEL H)
    ·
      have pre : ∀ τ, Steps p.tables e below (T17.setTop (mkF m 165 #[.val (.int p1), .val (.int p2), .val (.int p3), .val (.int p4), .val (.int p5), .val (.int p6), .val (.int (5 : Int32)), .val (.ref b1), .val (.int (0 : Int32)), .val (.int (1 : Int32))] [])) τ → G τ := (show nn = (5 : Int32) from hk_nn) ▸ pre
      have pre : ∀ τ, Steps p.tables e below (T17.setTop (mkF m 168 #[.val (.int p1), .val (.int p2), .val (.int p3), .val (.int p4), .val (.int p5), .val (.int p6), .val (.int (5 : Int32)), .val (.ref b1), .val (.int (0 : Int32)), .val (.int (1 : Int32))] [(.int (2 : Int32)), (.int (5 : Int32))])) τ → G τ := fun τ κ => pre τ (by
        refine XS.iload X17.here hx rfl (hb hby at_165) rfl ?_
        show Steps p.tables e below (T17.setTop (mkF m 167 #[.val (.int p1), .val (.int p2), .val (.int p3), .val (.int p4), .val (.int p5), .val (.int p6), .val (.int (5 : Int32)), .val (.ref b1), .val (.int (0 : Int32)), .val (.int (1 : Int32))] [(.int (5 : Int32))])) τ
        refine XS.iconst X17.here hx rfl (hb hby at_167) ?_
        show Steps p.tables e below (T17.setTop (mkF m 168 #[.val (.int p1), .val (.int p2), .val (.int p3), .val (.int p4), .val (.int p5), .val (.int p6), .val (.int (5 : Int32)), .val (.ref b1), .val (.int (0 : Int32)), .val (.int (1 : Int32))] [(.int (2 : Int32)), (.int (5 : Int32))])) τ
        exact κ)
      have hc34 : (2 : Int32) < (5 : Int32) := (by decide)
      have pre : ∀ τ, Steps p.tables e below (T17.setTop (mkF m 173 #[.val (.int p1), .val (.int p2), .val (.int p3), .val (.int p4), .val (.int p5), .val (.int p6), .val (.int (5 : Int32)), .val (.ref b1), .val (.int (0 : Int32)), .val (.int (1 : Int32))] [(.int (1 : Int32))])) τ → G τ := fun τ κ => pre τ (by
        refine XS.icmpNo X17.here hx rfl (hb hby at_168) rfl (tlt hc34).2.2.2 ?_
        show Steps p.tables e below (T17.setTop (mkF m 171 #[.val (.int p1), .val (.int p2), .val (.int p3), .val (.int p4), .val (.int p5), .val (.int p6), .val (.int (5 : Int32)), .val (.ref b1), .val (.int (0 : Int32)), .val (.int (1 : Int32))] [])) τ
        refine XS.iload X17.here hx rfl (hb hby at_171) rfl ?_
        show Steps p.tables e below (T17.setTop (mkF m 173 #[.val (.int p1), .val (.int p2), .val (.int p3), .val (.int p4), .val (.int p5), .val (.int p6), .val (.int (5 : Int32)), .val (.ref b1), .val (.int (0 : Int32)), .val (.int (1 : Int32))] [(.int (1 : Int32))])) τ
        exact κ)
      have hc35 : ¬ ((1 : Int32) = (0 : Int32)) := (by decide)
      have pre : ∀ τ, Steps p.tables e below (T17.setTop (mkF m 179 #[.val (.int p1), .val (.int p2), .val (.int p3), .val (.int p4), .val (.int p5), .val (.int p6), .val (.int (5 : Int32)), .val (.ref b1), .val (.int (0 : Int32)), .val (.int (1 : Int32))] [(.int (2 : Int32)), (.ref b1)])) τ → G τ := fun τ κ => pre τ (by
        refine XS.ifNo X17.here hx rfl (hb hby at_173) rfl ((if0 _ _).trans (feq hc35).1) ?_
        show Steps p.tables e below (T17.setTop (mkF m 176 #[.val (.int p1), .val (.int p2), .val (.int p3), .val (.int p4), .val (.int p5), .val (.int p6), .val (.int (5 : Int32)), .val (.ref b1), .val (.int (0 : Int32)), .val (.int (1 : Int32))] [])) τ
        refine XS.aload X17.here hx rfl (hb hby at_176) rfl rfl ?_
        show Steps p.tables e below (T17.setTop (mkF m 178 #[.val (.int p1), .val (.int p2), .val (.int p3), .val (.int p4), .val (.int p5), .val (.int p6), .val (.int (5 : Int32)), .val (.ref b1), .val (.int (0 : Int32)), .val (.int (1 : Int32))] [(.ref b1)])) τ
        refine XS.iconst X17.here hx rfl (hb hby at_178) ?_
        show Steps p.tables e below (T17.setTop (mkF m 179 #[.val (.int p1), .val (.int p2), .val (.int p3), .val (.int p4), .val (.int p5), .val (.int p6), .val (.int (5 : Int32)), .val (.ref b1), .val (.int (0 : Int32)), .val (.int (1 : Int32))] [(.int (2 : Int32)), (.ref b1)])) τ
        exact κ)
      obtain ⟨cq36, kq36, q36a, q36b, q36c⟩ := isOf hZ hs17 E_b1
      obtain ⟨_, _, ⟨T36, Lx36, kx36, nx36⟩, -, X36, ⟨Lc36, hQ36, l36, y36, z36⟩, st36⟩ := X17.virtualBack hx (y := (⟨"coppice/marshal/context/NamespaceScope", "prefix", "(I)Ljava/lang/String;"⟩ : MethodName)) (z := (⟨"coppice/marshal/context/NamespaceScope", "prefix", "(I)Ljava/lang/String;"⟩ : MethodName)) hown (mvT hZ (hw _ (List.mem_of_getElem? (i := 89) rfl))) (mvT hZ (hw _ (List.mem_of_getElem? (i := 90) rfl))) (notFace_of_selects (args := #[]) (mvT hZ (hw _ (List.mem_of_getElem? (i := 92) rfl)))) (mvT hZ (hw _ (List.mem_of_getElem? (i := 92) rfl))) (mvT hZ (hw _ (List.mem_of_getElem? (i := 91) rfl))) (by decide) (backOf (W := 0) (rm16 l Z a0 hw [] b1 (2 : Int32) pf_2 kf_2 nn pfz_6 (own_r0 nn) h15 n0 Zn F_pf_6 V_pf_6 L_pf_6 ⟨by decide, by rw [hk_nn]; decide⟩) hZ (hw _ (List.mem_of_getElem? (i := 93) rfl)) (hw _ (List.mem_of_getElem? (i := 2) rfl)) (by decide) (by decide)) q36a q36c (g := (mkF m 179 #[.val (.int p1), .val (.int p2), .val (.int p3), .val (.int p4), .val (.int p5), .val (.int p6), .val (.int (5 : Int32)), .val (.ref b1), .val (.int (0 : Int32)), .val (.int (1 : Int32))] [(.int (2 : Int32)), (.ref b1)])) rfl (by rw [hml]; rfl) (Steps.refl _) (argsL := [(.int (2 : Int32))]) (rest := []) (lenOf pd_11 rfl) rfl (by show 2 * 0 + _ ≤ _; exact Nat.le_of_eq rfl) (hb hby at_179) (fun _ _ => ⟨rfl, hs17, (by decide : 16 + 0 ≤ _), (by decide : 101 + 0 ≤ _)⟩)
      dsimp only [Pt.U, Pt.locs, Pt.cells, Pt.slots] at X36 l36 y36 z36 st36 hQ36
      replace y36 : kx36 = 16 := y36
      replace z36 : nx36 = 101 := z36
      subst y36 z36
      obtain ⟨rfl, Nq36, hs36, F_r_36⟩ := hQ36
      have NN : Fr n0 Lx36 := by rw [l36]; exact Fr.app NN Nq36
      have F_r_36 : own_S Z h15 (pfz_6.getD ((2 : Int32)).toNatClampNeg .null) ((own_r0 nn).getD ((2 : Int32)).toNatClampNeg none) := hs36 ▸ F_r_36
      have pre : ∀ τ, Steps p.tables e below (T36.setTop (mkF m 182 #[.val (.int p1), .val (.int p2), .val (.int p3), .val (.int p4), .val (.int p5), .val (.int p6), .val (.int (5 : Int32)), .val (.ref b1), .val (.int (0 : Int32)), .val (.int (1 : Int32))] [(pfz_6.getD ((2 : Int32)).toNatClampNeg .null)])) τ → G τ := fun τ κ => pre τ (st36.trans κ)
      have hnul2 := own_S_none F_r_36 (own_r0n (by decide))
      have pre : ∀ τ, Steps p.tables e below (T36.setTop (mkF m 182 #[.val (.int p1), .val (.int p2), .val (.int p3), .val (.int p4), .val (.int p5), .val (.int p6), .val (.int (5 : Int32)), .val (.ref b1), .val (.int (0 : Int32)), .val (.int (1 : Int32))] [.null])) τ → G τ := by rw [hnul2] at pre; exact pre
      have pre : ∀ τ, Steps p.tables e below (T36.setTop (mkF m 195 #[.val (.int p1), .val (.int p2), .val (.int p3), .val (.int p4), .val (.int p5), .val (.int p6), .val (.int (5 : Int32)), .val (.ref b1), .val (.int (0 : Int32)), .val (.int (1 : Int32))] [(.int (3 : Int32)), (.int (5 : Int32))])) τ → G τ := fun τ κ => pre τ (by
        refine XS.ifnonnullNo X36.here hx rfl (hb hby at_182) rfl ?_
        show Steps p.tables e below (T36.setTop (mkF m 185 #[.val (.int p1), .val (.int p2), .val (.int p3), .val (.int p4), .val (.int p5), .val (.int p6), .val (.int (5 : Int32)), .val (.ref b1), .val (.int (0 : Int32)), .val (.int (1 : Int32))] [])) τ
        refine XS.iconst X36.here hx rfl (hb hby at_185) ?_
        show Steps p.tables e below (T36.setTop (mkF m 186 #[.val (.int p1), .val (.int p2), .val (.int p3), .val (.int p4), .val (.int p5), .val (.int p6), .val (.int (5 : Int32)), .val (.ref b1), .val (.int (0 : Int32)), .val (.int (1 : Int32))] [(.int (1 : Int32))])) τ
        refine XS.goto X36.here hx rfl (pc0 := 186) (pc' := 190) rfl (hb hby at_186) (by decide) (by decide) ?_
        show Steps p.tables e below (T36.setTop (mkF m 190 #[.val (.int p1), .val (.int p2), .val (.int p3), .val (.int p4), .val (.int p5), .val (.int p6), .val (.int (5 : Int32)), .val (.ref b1), .val (.int (0 : Int32)), .val (.int (1 : Int32))] [(.int (1 : Int32))])) τ
        refine XS.istore X36.here hx rfl (hb hby at_190) rfl (l' := #[.val (.int p1), .val (.int p2), .val (.int p3), .val (.int p4), .val (.int p5), .val (.int p6), .val (.int (5 : Int32)), .val (.ref b1), .val (.int (0 : Int32)), .val (.int (1 : Int32))]) rfl ?_
        show Steps p.tables e below (T36.setTop (mkF m 192 #[.val (.int p1), .val (.int p2), .val (.int p3), .val (.int p4), .val (.int p5), .val (.int p6), .val (.int (5 : Int32)), .val (.ref b1), .val (.int (0 : Int32)), .val (.int (1 : Int32))] [])) τ
        refine XS.iload X36.here hx rfl (hb hby at_192) rfl ?_
        show Steps p.tables e below (T36.setTop (mkF m 194 #[.val (.int p1), .val (.int p2), .val (.int p3), .val (.int p4), .val (.int p5), .val (.int p6), .val (.int (5 : Int32)), .val (.ref b1), .val (.int (0 : Int32)), .val (.int (1 : Int32))] [(.int (5 : Int32))])) τ
        refine XS.iconst X36.here hx rfl (hb hby at_194) ?_
        show Steps p.tables e below (T36.setTop (mkF m 195 #[.val (.int p1), .val (.int p2), .val (.int p3), .val (.int p4), .val (.int p5), .val (.int p6), .val (.int (5 : Int32)), .val (.ref b1), .val (.int (0 : Int32)), .val (.int (1 : Int32))] [(.int (3 : Int32)), (.int (5 : Int32))])) τ
        exact κ)
      have hc37 : (3 : Int32) < (5 : Int32) := (by decide)
      have pre : ∀ τ, Steps p.tables e below (T36.setTop (mkF m 200 #[.val (.int p1), .val (.int p2), .val (.int p3), .val (.int p4), .val (.int p5), .val (.int p6), .val (.int (5 : Int32)), .val (.ref b1), .val (.int (0 : Int32)), .val (.int (1 : Int32))] [(.int (1 : Int32))])) τ → G τ := fun τ κ => pre τ (by
        refine XS.icmpNo X36.here hx rfl (hb hby at_195) rfl (tlt hc37).2.2.2 ?_
        show Steps p.tables e below (T36.setTop (mkF m 198 #[.val (.int p1), .val (.int p2), .val (.int p3), .val (.int p4), .val (.int p5), .val (.int p6), .val (.int (5 : Int32)), .val (.ref b1), .val (.int (0 : Int32)), .val (.int (1 : Int32))] [])) τ
        refine XS.iload X36.here hx rfl (hb hby at_198) rfl ?_
        show Steps p.tables e below (T36.setTop (mkF m 200 #[.val (.int p1), .val (.int p2), .val (.int p3), .val (.int p4), .val (.int p5), .val (.int p6), .val (.int (5 : Int32)), .val (.ref b1), .val (.int (0 : Int32)), .val (.int (1 : Int32))] [(.int (1 : Int32))])) τ
        exact κ)
      have hc38 : ¬ ((1 : Int32) = (0 : Int32)) := (by decide)
      have pre : ∀ τ, Steps p.tables e below (T36.setTop (mkF m 206 #[.val (.int p1), .val (.int p2), .val (.int p3), .val (.int p4), .val (.int p5), .val (.int p6), .val (.int (5 : Int32)), .val (.ref b1), .val (.int (0 : Int32)), .val (.int (1 : Int32))] [(.int (3 : Int32)), (.ref b1)])) τ → G τ := fun τ κ => pre τ (by
        refine XS.ifNo X36.here hx rfl (hb hby at_200) rfl ((if0 _ _).trans (feq hc38).1) ?_
        show Steps p.tables e below (T36.setTop (mkF m 203 #[.val (.int p1), .val (.int p2), .val (.int p3), .val (.int p4), .val (.int p5), .val (.int p6), .val (.int (5 : Int32)), .val (.ref b1), .val (.int (0 : Int32)), .val (.int (1 : Int32))] [])) τ
        refine XS.aload X36.here hx rfl (hb hby at_203) rfl rfl ?_
        show Steps p.tables e below (T36.setTop (mkF m 205 #[.val (.int p1), .val (.int p2), .val (.int p3), .val (.int p4), .val (.int p5), .val (.int p6), .val (.int (5 : Int32)), .val (.ref b1), .val (.int (0 : Int32)), .val (.int (1 : Int32))] [(.ref b1)])) τ
        refine XS.iconst X36.here hx rfl (hb hby at_205) ?_
        show Steps p.tables e below (T36.setTop (mkF m 206 #[.val (.int p1), .val (.int p2), .val (.int p3), .val (.int p4), .val (.int p5), .val (.int p6), .val (.int (5 : Int32)), .val (.ref b1), .val (.int (0 : Int32)), .val (.int (1 : Int32))] [(.int (3 : Int32)), (.ref b1)])) τ
        exact κ)
      obtain ⟨cq39, kq39, q39a, q39b, q39c⟩ := isOf hZ hs36 E_b1
      obtain ⟨_, _, ⟨T39, Lx39, kx39, nx39⟩, -, X39, ⟨Lc39, hQ39, l39, y39, z39⟩, st39⟩ := X36.virtualBack hx (y := (⟨"coppice/marshal/context/NamespaceScope", "prefix", "(I)Ljava/lang/String;"⟩ : MethodName)) (z := (⟨"coppice/marshal/context/NamespaceScope", "prefix", "(I)Ljava/lang/String;"⟩ : MethodName)) hown (mvT hZ (hw _ (List.mem_of_getElem? (i := 89) rfl))) (mvT hZ (hw _ (List.mem_of_getElem? (i := 90) rfl))) (notFace_of_selects (args := #[]) (mvT hZ (hw _ (List.mem_of_getElem? (i := 92) rfl)))) (mvT hZ (hw _ (List.mem_of_getElem? (i := 92) rfl))) (mvT hZ (hw _ (List.mem_of_getElem? (i := 91) rfl))) (by decide) (backOf (W := 0) (rm16 l Z a0 hw [] b1 (3 : Int32) pf_2 kf_2 nn pfz_6 (own_r0 nn) h15 n0 Zn F_pf_6 V_pf_6 L_pf_6 ⟨by decide, by rw [hk_nn]; decide⟩) hZ (hw _ (List.mem_of_getElem? (i := 93) rfl)) (hw _ (List.mem_of_getElem? (i := 2) rfl)) (by decide) (by decide)) q39a q39c (g := (mkF m 206 #[.val (.int p1), .val (.int p2), .val (.int p3), .val (.int p4), .val (.int p5), .val (.int p6), .val (.int (5 : Int32)), .val (.ref b1), .val (.int (0 : Int32)), .val (.int (1 : Int32))] [(.int (3 : Int32)), (.ref b1)])) rfl (by rw [hml]; rfl) (Steps.refl _) (argsL := [(.int (3 : Int32))]) (rest := []) (lenOf pd_11 rfl) rfl (by show 2 * 0 + _ ≤ _; exact Nat.le_of_eq rfl) (hb hby at_206) (fun _ _ => ⟨rfl, hs36, (by decide : 16 + 0 ≤ _), (by decide : 101 + 0 ≤ _)⟩)
      dsimp only [Pt.U, Pt.locs, Pt.cells, Pt.slots] at X39 l39 y39 z39 st39 hQ39
      replace y39 : kx39 = 16 := y39
      replace z39 : nx39 = 101 := z39
      subst y39 z39
      obtain ⟨rfl, Nq39, hs39, F_r_39⟩ := hQ39
      have NN : Fr n0 Lx39 := by rw [l39]; exact Fr.app NN Nq39
      have F_r_39 : own_S Z h15 (pfz_6.getD ((3 : Int32)).toNatClampNeg .null) ((own_r0 nn).getD ((3 : Int32)).toNatClampNeg none) := hs39 ▸ F_r_39
      have pre : ∀ τ, Steps p.tables e below (T39.setTop (mkF m 209 #[.val (.int p1), .val (.int p2), .val (.int p3), .val (.int p4), .val (.int p5), .val (.int p6), .val (.int (5 : Int32)), .val (.ref b1), .val (.int (0 : Int32)), .val (.int (1 : Int32))] [(pfz_6.getD ((3 : Int32)).toNatClampNeg .null)])) τ → G τ := fun τ κ => pre τ (st39.trans κ)
      have hnul3 := own_S_none F_r_39 (own_r0n (by decide))
      have pre : ∀ τ, Steps p.tables e below (T39.setTop (mkF m 209 #[.val (.int p1), .val (.int p2), .val (.int p3), .val (.int p4), .val (.int p5), .val (.int p6), .val (.int (5 : Int32)), .val (.ref b1), .val (.int (0 : Int32)), .val (.int (1 : Int32))] [.null])) τ → G τ := by rw [hnul3] at pre; exact pre
      have pre : ∀ τ, Steps p.tables e below (T39.setTop (mkF m 222 #[.val (.int p1), .val (.int p2), .val (.int p3), .val (.int p4), .val (.int p5), .val (.int p6), .val (.int (5 : Int32)), .val (.ref b1), .val (.int (0 : Int32)), .val (.int (1 : Int32))] [(.int (4 : Int32)), (.int (5 : Int32))])) τ → G τ := fun τ κ => pre τ (by
        refine XS.ifnonnullNo X39.here hx rfl (hb hby at_209) rfl ?_
        show Steps p.tables e below (T39.setTop (mkF m 212 #[.val (.int p1), .val (.int p2), .val (.int p3), .val (.int p4), .val (.int p5), .val (.int p6), .val (.int (5 : Int32)), .val (.ref b1), .val (.int (0 : Int32)), .val (.int (1 : Int32))] [])) τ
        refine XS.iconst X39.here hx rfl (hb hby at_212) ?_
        show Steps p.tables e below (T39.setTop (mkF m 213 #[.val (.int p1), .val (.int p2), .val (.int p3), .val (.int p4), .val (.int p5), .val (.int p6), .val (.int (5 : Int32)), .val (.ref b1), .val (.int (0 : Int32)), .val (.int (1 : Int32))] [(.int (1 : Int32))])) τ
        refine XS.goto X39.here hx rfl (pc0 := 213) (pc' := 217) rfl (hb hby at_213) (by decide) (by decide) ?_
        show Steps p.tables e below (T39.setTop (mkF m 217 #[.val (.int p1), .val (.int p2), .val (.int p3), .val (.int p4), .val (.int p5), .val (.int p6), .val (.int (5 : Int32)), .val (.ref b1), .val (.int (0 : Int32)), .val (.int (1 : Int32))] [(.int (1 : Int32))])) τ
        refine XS.istore X39.here hx rfl (hb hby at_217) rfl (l' := #[.val (.int p1), .val (.int p2), .val (.int p3), .val (.int p4), .val (.int p5), .val (.int p6), .val (.int (5 : Int32)), .val (.ref b1), .val (.int (0 : Int32)), .val (.int (1 : Int32))]) rfl ?_
        show Steps p.tables e below (T39.setTop (mkF m 219 #[.val (.int p1), .val (.int p2), .val (.int p3), .val (.int p4), .val (.int p5), .val (.int p6), .val (.int (5 : Int32)), .val (.ref b1), .val (.int (0 : Int32)), .val (.int (1 : Int32))] [])) τ
        refine XS.iload X39.here hx rfl (hb hby at_219) rfl ?_
        show Steps p.tables e below (T39.setTop (mkF m 221 #[.val (.int p1), .val (.int p2), .val (.int p3), .val (.int p4), .val (.int p5), .val (.int p6), .val (.int (5 : Int32)), .val (.ref b1), .val (.int (0 : Int32)), .val (.int (1 : Int32))] [(.int (5 : Int32))])) τ
        refine XS.iconst X39.here hx rfl (hb hby at_221) ?_
        show Steps p.tables e below (T39.setTop (mkF m 222 #[.val (.int p1), .val (.int p2), .val (.int p3), .val (.int p4), .val (.int p5), .val (.int p6), .val (.int (5 : Int32)), .val (.ref b1), .val (.int (0 : Int32)), .val (.int (1 : Int32))] [(.int (4 : Int32)), (.int (5 : Int32))])) τ
        exact κ)
      have hc40 : (4 : Int32) < (5 : Int32) := (by decide)
      have pre : ∀ τ, Steps p.tables e below (T39.setTop (mkF m 227 #[.val (.int p1), .val (.int p2), .val (.int p3), .val (.int p4), .val (.int p5), .val (.int p6), .val (.int (5 : Int32)), .val (.ref b1), .val (.int (0 : Int32)), .val (.int (1 : Int32))] [(.int (1 : Int32))])) τ → G τ := fun τ κ => pre τ (by
        refine XS.icmpNo X39.here hx rfl (hb hby at_222) rfl (tlt hc40).2.2.2 ?_
        show Steps p.tables e below (T39.setTop (mkF m 225 #[.val (.int p1), .val (.int p2), .val (.int p3), .val (.int p4), .val (.int p5), .val (.int p6), .val (.int (5 : Int32)), .val (.ref b1), .val (.int (0 : Int32)), .val (.int (1 : Int32))] [])) τ
        refine XS.iload X39.here hx rfl (hb hby at_225) rfl ?_
        show Steps p.tables e below (T39.setTop (mkF m 227 #[.val (.int p1), .val (.int p2), .val (.int p3), .val (.int p4), .val (.int p5), .val (.int p6), .val (.int (5 : Int32)), .val (.ref b1), .val (.int (0 : Int32)), .val (.int (1 : Int32))] [(.int (1 : Int32))])) τ
        exact κ)
      have hc41 : ¬ ((1 : Int32) = (0 : Int32)) := (by decide)
      have pre : ∀ τ, Steps p.tables e below (T39.setTop (mkF m 233 #[.val (.int p1), .val (.int p2), .val (.int p3), .val (.int p4), .val (.int p5), .val (.int p6), .val (.int (5 : Int32)), .val (.ref b1), .val (.int (0 : Int32)), .val (.int (1 : Int32))] [(.int (4 : Int32)), (.ref b1)])) τ → G τ := fun τ κ => pre τ (by
        refine XS.ifNo X39.here hx rfl (hb hby at_227) rfl ((if0 _ _).trans (feq hc41).1) ?_
        show Steps p.tables e below (T39.setTop (mkF m 230 #[.val (.int p1), .val (.int p2), .val (.int p3), .val (.int p4), .val (.int p5), .val (.int p6), .val (.int (5 : Int32)), .val (.ref b1), .val (.int (0 : Int32)), .val (.int (1 : Int32))] [])) τ
        refine XS.aload X39.here hx rfl (hb hby at_230) rfl rfl ?_
        show Steps p.tables e below (T39.setTop (mkF m 232 #[.val (.int p1), .val (.int p2), .val (.int p3), .val (.int p4), .val (.int p5), .val (.int p6), .val (.int (5 : Int32)), .val (.ref b1), .val (.int (0 : Int32)), .val (.int (1 : Int32))] [(.ref b1)])) τ
        refine XS.iconst X39.here hx rfl (hb hby at_232) ?_
        show Steps p.tables e below (T39.setTop (mkF m 233 #[.val (.int p1), .val (.int p2), .val (.int p3), .val (.int p4), .val (.int p5), .val (.int p6), .val (.int (5 : Int32)), .val (.ref b1), .val (.int (0 : Int32)), .val (.int (1 : Int32))] [(.int (4 : Int32)), (.ref b1)])) τ
        exact κ)
      obtain ⟨cq42, kq42, q42a, q42b, q42c⟩ := isOf hZ hs39 E_b1
      obtain ⟨_, _, ⟨T42, Lx42, kx42, nx42⟩, -, X42, ⟨Lc42, hQ42, l42, y42, z42⟩, st42⟩ := X39.virtualBack hx (y := (⟨"coppice/marshal/context/NamespaceScope", "prefix", "(I)Ljava/lang/String;"⟩ : MethodName)) (z := (⟨"coppice/marshal/context/NamespaceScope", "prefix", "(I)Ljava/lang/String;"⟩ : MethodName)) hown (mvT hZ (hw _ (List.mem_of_getElem? (i := 89) rfl))) (mvT hZ (hw _ (List.mem_of_getElem? (i := 90) rfl))) (notFace_of_selects (args := #[]) (mvT hZ (hw _ (List.mem_of_getElem? (i := 92) rfl)))) (mvT hZ (hw _ (List.mem_of_getElem? (i := 92) rfl))) (mvT hZ (hw _ (List.mem_of_getElem? (i := 91) rfl))) (by decide) (backOf (W := 0) (rm16 l Z a0 hw [] b1 (4 : Int32) pf_2 kf_2 nn pfz_6 (own_r0 nn) h15 n0 Zn F_pf_6 V_pf_6 L_pf_6 ⟨by decide, by rw [hk_nn]; decide⟩) hZ (hw _ (List.mem_of_getElem? (i := 93) rfl)) (hw _ (List.mem_of_getElem? (i := 2) rfl)) (by decide) (by decide)) q42a q42c (g := (mkF m 233 #[.val (.int p1), .val (.int p2), .val (.int p3), .val (.int p4), .val (.int p5), .val (.int p6), .val (.int (5 : Int32)), .val (.ref b1), .val (.int (0 : Int32)), .val (.int (1 : Int32))] [(.int (4 : Int32)), (.ref b1)])) rfl (by rw [hml]; rfl) (Steps.refl _) (argsL := [(.int (4 : Int32))]) (rest := []) (lenOf pd_11 rfl) rfl (by show 2 * 0 + _ ≤ _; exact Nat.le_of_eq rfl) (hb hby at_233) (fun _ _ => ⟨rfl, hs39, (by decide : 16 + 0 ≤ _), (by decide : 101 + 0 ≤ _)⟩)
      dsimp only [Pt.U, Pt.locs, Pt.cells, Pt.slots] at X42 l42 y42 z42 st42 hQ42
      replace y42 : kx42 = 16 := y42
      replace z42 : nx42 = 101 := z42
      subst y42 z42
      obtain ⟨rfl, Nq42, hs42, F_r_42⟩ := hQ42
      have NN : Fr n0 Lx42 := by rw [l42]; exact Fr.app NN Nq42
      have F_r_42 : own_S Z h15 (pfz_6.getD ((4 : Int32)).toNatClampNeg .null) ((own_r0 nn).getD ((4 : Int32)).toNatClampNeg none) := hs42 ▸ F_r_42
      have pre : ∀ τ, Steps p.tables e below (T42.setTop (mkF m 236 #[.val (.int p1), .val (.int p2), .val (.int p3), .val (.int p4), .val (.int p5), .val (.int p6), .val (.int (5 : Int32)), .val (.ref b1), .val (.int (0 : Int32)), .val (.int (1 : Int32))] [(pfz_6.getD ((4 : Int32)).toNatClampNeg .null)])) τ → G τ := fun τ κ => pre τ (st42.trans κ)
      have hnul4 := own_S_none F_r_42 (own_r0n (by decide))
      have pre : ∀ τ, Steps p.tables e below (T42.setTop (mkF m 236 #[.val (.int p1), .val (.int p2), .val (.int p3), .val (.int p4), .val (.int p5), .val (.int p6), .val (.int (5 : Int32)), .val (.ref b1), .val (.int (0 : Int32)), .val (.int (1 : Int32))] [.null])) τ → G τ := by rw [hnul4] at pre; exact pre
      have pre : ∀ τ, Steps p.tables e below (T42.setTop (mkF m 248 #[.val (.int p1), .val (.int p2), .val (.int p3), .val (.int p4), .val (.int p5), .val (.int p6), .val (.int (5 : Int32)), .val (.ref b1), .val (.int (0 : Int32)), .val (.int (1 : Int32))] [(.int (1 : Int32))])) τ → G τ := fun τ κ => pre τ (by
        refine XS.ifnonnullNo X42.here hx rfl (hb hby at_236) rfl ?_
        show Steps p.tables e below (T42.setTop (mkF m 239 #[.val (.int p1), .val (.int p2), .val (.int p3), .val (.int p4), .val (.int p5), .val (.int p6), .val (.int (5 : Int32)), .val (.ref b1), .val (.int (0 : Int32)), .val (.int (1 : Int32))] [])) τ
        refine XS.iconst X42.here hx rfl (hb hby at_239) ?_
        show Steps p.tables e below (T42.setTop (mkF m 240 #[.val (.int p1), .val (.int p2), .val (.int p3), .val (.int p4), .val (.int p5), .val (.int p6), .val (.int (5 : Int32)), .val (.ref b1), .val (.int (0 : Int32)), .val (.int (1 : Int32))] [(.int (1 : Int32))])) τ
        refine XS.goto X42.here hx rfl (pc0 := 240) (pc' := 244) rfl (hb hby at_240) (by decide) (by decide) ?_
        show Steps p.tables e below (T42.setTop (mkF m 244 #[.val (.int p1), .val (.int p2), .val (.int p3), .val (.int p4), .val (.int p5), .val (.int p6), .val (.int (5 : Int32)), .val (.ref b1), .val (.int (0 : Int32)), .val (.int (1 : Int32))] [(.int (1 : Int32))])) τ
        refine XS.istore X42.here hx rfl (hb hby at_244) rfl (l' := #[.val (.int p1), .val (.int p2), .val (.int p3), .val (.int p4), .val (.int p5), .val (.int p6), .val (.int (5 : Int32)), .val (.ref b1), .val (.int (0 : Int32)), .val (.int (1 : Int32))]) rfl ?_
        show Steps p.tables e below (T42.setTop (mkF m 246 #[.val (.int p1), .val (.int p2), .val (.int p3), .val (.int p4), .val (.int p5), .val (.int p6), .val (.int (5 : Int32)), .val (.ref b1), .val (.int (0 : Int32)), .val (.int (1 : Int32))] [])) τ
        refine XS.iload X42.here hx rfl (hb hby at_246) rfl ?_
        show Steps p.tables e below (T42.setTop (mkF m 248 #[.val (.int p1), .val (.int p2), .val (.int p3), .val (.int p4), .val (.int p5), .val (.int p6), .val (.int (5 : Int32)), .val (.ref b1), .val (.int (0 : Int32)), .val (.int (1 : Int32))] [(.int (1 : Int32))])) τ
        exact κ)
      have hkT := Nat.le_trans hk (Nat.le_of_eq (congrArg Array.size (Eq.symm hs42)))
      obtain ⟨fsα, hr, hrun, hended, hRE⟩ := X42.leaveW hS hkT (v := some (.int (1 : Int32))) (fun h => by rw [Bd.returns] at h; cases h)
      refine hGL ⟨_, _, hG _ (pre _ ?_), hrun, hended, _, _, rfl, ?_, ?_, ⟨_, rfl⟩, hRE.2.1, hRE.2.2.1, hRE.2.2.2.mono (by decide) (by decide)⟩
      · exact retN X42 hx (t := .boolean) Bd.returns (by simp) (hb hby at_248) hr
      · show Q0 Z p1 p2 p3 p4 p5 p6 cw h0 n0 _ T42.heap _
        rw [hs42]
        exact ⟨rfl, NN⟩
      · show CHr Z own_EL s.vm s.heap T42.vm T42.heap
        rw [hh, hs42]
        exact HR.trans (CHv.at X42 hZ hEL H)
  ·
    have pre : ∀ τ, Steps p.tables e below (T2.setTop (mkF m 24 #[.val (.int p1), .val (.int p2), .val (.int p3), .val (.int p4), .val (.int p5), .val (.int p6), .val (.int nn), .val (.ref b1), .val (.int (1 : Int32)), .unset] [])) τ → G τ := (show dd = (1 : Int32) from hk_dd) ▸ pre
    have pre : ∀ τ, Steps p.tables e below (T2.setTop (mkF m 27 #[.val (.int p1), .val (.int p2), .val (.int p3), .val (.int p4), .val (.int p5), .val (.int p6), .val (.int nn), .val (.ref b1), .val (.int (1 : Int32)), .unset] [(.int (1 : Int32)), (.int (1 : Int32))])) τ → G τ := fun τ κ => pre τ (by
      refine XS.iload X2.here hx rfl (hb hby at_24) rfl ?_
      show Steps p.tables e below (T2.setTop (mkF m 26 #[.val (.int p1), .val (.int p2), .val (.int p3), .val (.int p4), .val (.int p5), .val (.int p6), .val (.int nn), .val (.ref b1), .val (.int (1 : Int32)), .unset] [(.int (1 : Int32))])) τ
      refine XS.iconst X2.here hx rfl (hb hby at_26) ?_
      show Steps p.tables e below (T2.setTop (mkF m 27 #[.val (.int p1), .val (.int p2), .val (.int p3), .val (.int p4), .val (.int p5), .val (.int p6), .val (.int nn), .val (.ref b1), .val (.int (1 : Int32)), .unset] [(.int (1 : Int32)), (.int (1 : Int32))])) τ
      exact κ)
    have hc43 : ¬ ((1 : Int32) < (1 : Int32)) := (by decide)
    have pre : ∀ τ, Steps p.tables e below (T2.setTop (mkF m 35 #[.val (.int p1), .val (.int p2), .val (.int p3), .val (.int p4), .val (.int p5), .val (.int p6), .val (.int nn), .val (.ref b1), .val (.int (1 : Int32)), .unset] [(.int nn), (.int p2), (.ref b1)])) τ → G τ := fun τ κ => pre τ (by
      refine XS.icmpNo X2.here hx rfl (hb hby at_27) rfl (flt hc43).1 ?_
      show Steps p.tables e below (T2.setTop (mkF m 30 #[.val (.int p1), .val (.int p2), .val (.int p3), .val (.int p4), .val (.int p5), .val (.int p6), .val (.int nn), .val (.ref b1), .val (.int (1 : Int32)), .unset] [])) τ
      refine XS.aload X2.here hx rfl (hb hby at_30) rfl rfl ?_
      show Steps p.tables e below (T2.setTop (mkF m 32 #[.val (.int p1), .val (.int p2), .val (.int p3), .val (.int p4), .val (.int p5), .val (.int p6), .val (.int nn), .val (.ref b1), .val (.int (1 : Int32)), .unset] [(.ref b1)])) τ
      refine XS.iloadN X2.here hx rfl (hb hby at_32) rfl ?_
      show Steps p.tables e below (T2.setTop (mkF m 33 #[.val (.int p1), .val (.int p2), .val (.int p3), .val (.int p4), .val (.int p5), .val (.int p6), .val (.int nn), .val (.ref b1), .val (.int (1 : Int32)), .unset] [(.int p2), (.ref b1)])) τ
      refine XS.iload X2.here hx rfl (hb hby at_33) rfl ?_
      show Steps p.tables e below (T2.setTop (mkF m 35 #[.val (.int p1), .val (.int p2), .val (.int p3), .val (.int p4), .val (.int p5), .val (.int p6), .val (.int nn), .val (.ref b1), .val (.int (1 : Int32)), .unset] [(.int nn), (.int p2), (.ref b1)])) τ
      exact κ)
    obtain ⟨_, _, ⟨T44, Lx44, kx44, nx44⟩, -, X44, ⟨Lc44, hQ44, l44, y44, z44⟩, st44⟩ := Jvm.LawKit.callS X2 hx (y := (⟨"coppice/marshal/context/NamespaceScopeResetPinLaw", "idx", "(II)I"⟩ : MethodName)) hown (mvT hZ (hw _ (List.mem_of_getElem? (i := 39) rfl))) (mvT hZ (hw _ (List.mem_of_getElem? (i := 40) rfl))) (mvT hZ (hw _ (List.mem_of_getElem? (i := 41) rfl))) (mvT hZ (hw _ (List.mem_of_getElem? (i := 42) rfl))) (by decide) (backOf (W := 1) (rm5 l Z a0 hw [] p2 nn T2.heap n0 Zn (own_nz0 N5.1)) hZ (hw _ (List.mem_of_getElem? (i := 42) rfl)) (hw _ (List.mem_of_getElem? (i := 41) rfl)) (by decide) (by decide)) (g := (mkF m 35 #[.val (.int p1), .val (.int p2), .val (.int p3), .val (.int p4), .val (.int p5), .val (.int p6), .val (.int nn), .val (.ref b1), .val (.int (1 : Int32)), .unset] [(.int nn), (.int p2), (.ref b1)])) rfl (by rw [hml]; rfl) (argsL := [(.int p2), (.int nn)]) (rest := [(.ref b1)]) (lenOf pd_12 rfl) rfl (by show 2 * 0 + _ ≤ _; exact Nat.le_of_eq rfl) (hb hby at_35) (fun _ _ => ⟨rfl, rfl, (by decide : 8 + 0 ≤ _), (by decide : 61 + 0 ≤ _)⟩)
    dsimp only [Pt.U, Pt.locs, Pt.cells, Pt.slots] at X44 l44 y44 z44 st44 hQ44
    replace y44 : kx44 = 8 := y44
    replace z44 : nx44 = 61 := z44
    subst y44 z44
    obtain ⟨rfl, Nq44, hs44⟩ := hQ44
    have NN : Fr n0 Lx44 := by rw [l44]; exact Fr.app NN Nq44
    have pre : ∀ τ, Steps p.tables e below (T44.setTop (mkF m 38 #[.val (.int p1), .val (.int p2), .val (.int p3), .val (.int p4), .val (.int p5), .val (.int p6), .val (.int nn), .val (.ref b1), .val (.int (1 : Int32)), .unset] [(.int ((p2 &&& (2147483647 : Int32)) % nn)), (.ref b1)])) τ → G τ := fun τ κ => pre τ (st44 τ κ)
    obtain ⟨i1, hi1⟩ : ∃ z : Int32, z = ((p2 &&& (2147483647 : Int32)) % nn) := ⟨_, rfl⟩
    have pre : ∀ τ, Steps p.tables e below (T44.setTop (mkF m 38 #[.val (.int p1), .val (.int p2), .val (.int p3), .val (.int p4), .val (.int p5), .val (.int p6), .val (.int nn), .val (.ref b1), .val (.int (1 : Int32)), .unset] [(.int i1), (.ref b1)])) τ → G τ := by subst hi1; exact pre
    have b_i1 : ¬ i1 < 0 ∧ i1 < nn := by rw [hi1]; exact own_idx N5.1
    have pre : ∀ τ, Steps p.tables e below (T44.setTop (mkF m 39 #[.val (.int p1), .val (.int p2), .val (.int p3), .val (.int p4), .val (.int p5), .val (.int p6), .val (.int nn), .val (.ref b1), .val (.int (1 : Int32)), .unset] [(.int p3), (.int i1), (.ref b1)])) τ → G τ := fun τ κ => pre τ (by
      refine XS.iloadN X44.here hx rfl (hb hby at_38) rfl ?_
      show Steps p.tables e below (T44.setTop (mkF m 39 #[.val (.int p1), .val (.int p2), .val (.int p3), .val (.int p4), .val (.int p5), .val (.int p6), .val (.int nn), .val (.ref b1), .val (.int (1 : Int32)), .unset] [(.int p3), (.int i1), (.ref b1)])) τ
      exact κ)
    obtain ⟨_, _, ⟨T45, Lx45, kx45, nx45⟩, -, X45, hS2, hg2, ⟨Lc45, hQ45, l45, y45, z45, HRc⟩, st45⟩ := Jvm.RoadKit.callSS X44 hx (y := (⟨"coppice/marshal/context/NamespaceScopeResetPinLaw", "pick", "(I)Ljava/lang/String;"⟩ : MethodName)) hown (mvT hZ (hw _ (List.mem_of_getElem? (i := 44) rfl))) (mvT hZ (hw _ (List.mem_of_getElem? (i := 45) rfl))) (mvT hZ (hw _ (List.mem_of_getElem? (i := 41) rfl))) (mvT hZ (hw _ (List.mem_of_getElem? (i := 46) rfl))) (by decide) (backOfSH (W := 2) (rm6 l Z a0 hw hEL wS [] p3 cw T2.heap n0 Zn S_c hcw) hZ (hw _ (List.mem_of_getElem? (i := 46) rfl)) (hw _ (List.mem_of_getElem? (i := 41) rfl)) (by decide) (by decide) hEL H) (g := (mkF m 39 #[.val (.int p1), .val (.int p2), .val (.int p3), .val (.int p4), .val (.int p5), .val (.int p6), .val (.int nn), .val (.ref b1), .val (.int (1 : Int32)), .unset] [(.int p3), (.int i1), (.ref b1)])) rfl (by rw [hml]; rfl) (argsL := [(.int p3)]) (rest := [(.int i1), (.ref b1)]) (lenOf pd_11 rfl) rfl (by show 2 * 0 + _ ≤ _; exact Nat.le_of_eq rfl) (hb hby at_39) (fun _ _ => ⟨rfl, hs44, (by decide : 8 + 2 ≤ _), (by decide : 61 + 16 ≤ _)⟩)
    dsimp only [Pt.U, Pt.locs, Pt.cells, Pt.slots] at hS2 hg2 HRc
    have hkT := Nat.le_trans hk (Nat.le_of_eq (congrArg Array.size (Eq.symm hs44)))
    dsimp only [Pt.U, Pt.locs, Pt.cells, Pt.slots] at X45 l45 y45 z45 st45 hQ45
    replace y45 : kx45 = 10 := y45
    replace z45 : nx45 = 77 := z45
    subst y45 z45
    obtain ⟨r_45, tr_45, rfl, Nq45, Kc45, F_r_45⟩ := hQ45
    have NN : Fr n0 Lx45 := by rw [l45]; exact Fr.app NN Nq45
    obtain ⟨X45, hS, hZ, hown⟩ := rebS hS hkT X45 hS2 hg2 hZ hown
    have hk := Nat.le_refl T45.heap.size
    have HR := HR.trans HRc
    have H := HR.1
    have Nss : ∀ x ∈ ([] : List Addr), own_ns Z T2.heap x := all0
    have S_c : Sta Z T45.heap "java/lang/String" "COMPACT_STRINGS" "Z" (.int cw) := own_sta_keepN S_c Kc45 Nss
    have E_b1 : Exa Z T45.heap b1 "coppice/marshal/context/NamespaceScope" := E_b1.keep Kc45
    have E_o : Exa Z T45.heap b1 "coppice/marshal/context/NamespaceScope" := E_o.keep Kc45
    have F_un : Fld Z T45.heap b1 "coppice/marshal/context/NamespaceScope" "undoNamespaces" "[I" (.ref un_2) := F_un.keep Kc45 nin0
    have F_up : Fld Z T45.heap b1 "coppice/marshal/context/NamespaceScope" "undoPrefixes" "[Ljava/lang/String;" (.ref up_2) := F_up.keep Kc45 nin0
    have F_pf : Fld Z T45.heap b1 "coppice/marshal/context/NamespaceScope" "prefixes" "[Ljava/lang/String;" (.ref pf_2) := F_pf.keep Kc45 nin0
    have F_uc : Fld Z T45.heap b1 "coppice/marshal/context/NamespaceScope" "undoCount" "I" (.int z0.2.2.2) := F_uc.keep Kc45 nin0
    have V_un : Arv Z T45.heap un_2 ku_2 .int (16 : Int32) z0.2.1 (.int (0 : Int32)) := V_un.keep Kc45 nin0
    have V_up : Arv Z T45.heap up_2 kp_2 (.object "java/lang/String") (16 : Int32) (List.replicate 16 .null) .null := V_up.keep Kc45 nin0
    have V_pf : Arv Z T45.heap pf_2 kf_2 (.object "java/lang/String") nn pfz_2 .null := V_pf.keep Kc45 nin0
    have L_up : own_SL Z T45.heap (List.replicate 16 .null) z0.2.2.1 := own_SL_keep L_up Kc45 Nss
    have L_pf : own_SL Z T45.heap pfz_2 z0.1 := own_SL_keep L_pf Kc45 Nss
    have Zn : n0 ≤ T45.heap.size := Nat.le_trans Zn Kc45.1
    have pre : ∀ τ, Steps p.tables e below (T45.setTop (mkF m 42 #[.val (.int p1), .val (.int p2), .val (.int p3), .val (.int p4), .val (.int p5), .val (.int p6), .val (.int nn), .val (.ref b1), .val (.int (1 : Int32)), .unset] [(.ref r_45), (.int i1), (.ref b1)])) τ → G τ := fun τ κ => pre τ (st45.trans κ)
    obtain ⟨cq46, kq46, q46a, q46b, q46c⟩ := isOf hZ rfl E_b1
    obtain ⟨_, _, ⟨T46, Lx46, kx46, nx46⟩, -, X46, ⟨Lc46, hQ46, l46, y46, z46⟩, st46⟩ := X45.virtualBack hx (y := (⟨"coppice/marshal/context/NamespaceScope", "declare", "(ILjava/lang/String;)V"⟩ : MethodName)) (z := (⟨"coppice/marshal/context/NamespaceScope", "declare", "(ILjava/lang/String;)V"⟩ : MethodName)) hown (mvT hZ (hw _ (List.mem_of_getElem? (i := 65) rfl))) (mvT hZ (hw _ (List.mem_of_getElem? (i := 66) rfl))) (notFace_of_selects (args := #[]) (mvT hZ (hw _ (List.mem_of_getElem? (i := 68) rfl)))) (mvT hZ (hw _ (List.mem_of_getElem? (i := 68) rfl))) (mvT hZ (hw _ (List.mem_of_getElem? (i := 67) rfl))) (by decide) (backOf (W := 0) (rm11 l Z a0 hw [] b1 i1 r_45 un_2 up_2 pf_2 ku_2 kp_2 kf_2 nn z0 (List.replicate 16 .null) pfz_2 tr_45 cw (0 : Int) T45.heap n0 Zn g_b1 gn_un_2 gn_up_2 gn_pf_2 E_b1 F_un F_up F_pf F_uc V_un V_up V_pf L_up L_pf O_up_2 O_pf_2 ne_b1_un_2 ne_b1_up_2 ne_b1_pf_2 ne_un__up_2 ne_un__pf_2 ne_up__pf_2 F_r_45 S_c hcw b_i1 ⟨Jz0.1, Jz0.2.1⟩ (by omega) Jz0.2.2 hup0 hpf0) hZ (hw _ (List.mem_of_getElem? (i := 69) rfl)) (hw _ (List.mem_of_getElem? (i := 2) rfl)) (by decide) (by decide)) q46a q46c (g := (mkF m 42 #[.val (.int p1), .val (.int p2), .val (.int p3), .val (.int p4), .val (.int p5), .val (.int p6), .val (.int nn), .val (.ref b1), .val (.int (1 : Int32)), .unset] [(.ref r_45), (.int i1), (.ref b1)])) rfl (by rw [hml]; rfl) (Steps.refl _) (argsL := [(.int i1), (.ref r_45)]) (rest := []) (lenOf pd_1 rfl) rfl (by show 2 * 0 + _ ≤ _; exact Nat.le_of_eq rfl) (hb hby at_42) (fun _ _ => ⟨rfl, rfl, (by decide : 10 + 0 ≤ _), (by decide : 77 + 0 ≤ _)⟩)
    dsimp only [Pt.U, Pt.locs, Pt.cells, Pt.slots] at X46 l46 y46 z46 st46 hQ46
    replace y46 : kx46 = 10 := y46
    replace z46 : nx46 = 77 := z46
    subst y46 z46
    obtain ⟨upz_46, pfz_46, rfl, Nq46, Kc46, E_o_46, F_un_46, F_up_46, F_pf_46, F_uc_46, V_un_46, V_up_46, V_pf_46, L_up_46, L_pf_46, hlp_46, hlf_46⟩ := hQ46
    have NN : Fr n0 Lx46 := by rw [l46]; exact Fr.app NN Nq46
    have Nss : ∀ x ∈ [b1, un_2, up_2, pf_2], own_ns Z T45.heap x := (allS (own_nsE E_b1 (hw _ (List.mem_of_getElem? (i := 1) rfl)) (by decide) (by decide)) (allS (own_nsV V_un (by decide)) (allS (own_nsV V_up (by decide)) (allS (own_nsV V_pf (by decide)) all0))))
    have hk := Nat.le_trans hk Kc46.1
    have HR := HR.trans (CHr.keep Kc46 (fun x hx => own_safe hZ.alike (Nss x hx)) H)
    have H := HR.1
    have S_c : Sta Z T46.heap "java/lang/String" "COMPACT_STRINGS" "Z" (.int cw) := own_sta_keepN S_c Kc46 Nss
    have E_b1 : Exa Z T46.heap b1 "coppice/marshal/context/NamespaceScope" := E_b1.keep Kc46
    have E_o : Exa Z T46.heap b1 "coppice/marshal/context/NamespaceScope" := E_o.keep Kc46
    have L_up : own_SL Z T46.heap (List.replicate 16 .null) z0.2.2.1 := own_SL_keep L_up Kc46 Nss
    have L_pf : own_SL Z T46.heap pfz_2 z0.1 := own_SL_keep L_pf Kc46 Nss
    have F_r_45 : own_S Z T46.heap (.ref r_45) (some tr_45) := own_S_keep F_r_45 Kc46 Nss
    have Zn : n0 ≤ T46.heap.size := Nat.le_trans Zn Kc46.1
    have pre : ∀ τ, Steps p.tables e below (T46.setTop (mkF m 45 #[.val (.int p1), .val (.int p2), .val (.int p3), .val (.int p4), .val (.int p5), .val (.int p6), .val (.int nn), .val (.ref b1), .val (.int (1 : Int32)), .unset] [])) τ → G τ := fun τ κ => pre τ (st46.trans κ)
    obtain ⟨z1, hz1⟩ : ∃ q : own_ST, q = own_de tr_45 i1 nn z0 := ⟨_, rfl⟩
    have E_o := E_o_46
    have F_un := F_un_46
    have F_up := F_up_46
    have F_pf := F_pf_46
    have F_uc : Fld Z T46.heap b1 "coppice/marshal/context/NamespaceScope" "undoCount" "I" (.int z1.2.2.2) := by rw [hz1]; exact F_uc_46
    have V_un : Arv Z T46.heap un_2 ku_2 .int (16 : Int32) z1.2.1 (.int (0 : Int32)) := by rw [hz1]; exact V_un_46
    have V_up := V_up_46
    have V_pf := V_pf_46
    have L_up : own_SL Z T46.heap upz_46 z1.2.2.1 := by rw [hz1]; exact L_up_46
    have L_pf : own_SL Z T46.heap pfz_46 z1.1 := by rw [hz1]; exact L_pf_46
    have Jz1 : own_J z1 (0 + nn.toInt) := by rw [hz1]; exact own_Jde b_i1 Jz0 (by omega)
    have pre : ∀ τ, Steps p.tables e below (T46.setTop (mkF m 48 #[.val (.int p1), .val (.int p2), .val (.int p3), .val (.int p4), .val (.int p5), .val (.int p6), .val (.int nn), .val (.ref b1), .val (.int (1 : Int32)), .unset] [(.int (2 : Int32)), (.int (1 : Int32))])) τ → G τ := fun τ κ => pre τ (by
      refine XS.iload X46.here hx rfl (hb hby at_45) rfl ?_
      show Steps p.tables e below (T46.setTop (mkF m 47 #[.val (.int p1), .val (.int p2), .val (.int p3), .val (.int p4), .val (.int p5), .val (.int p6), .val (.int nn), .val (.ref b1), .val (.int (1 : Int32)), .unset] [(.int (1 : Int32))])) τ
      refine XS.iconst X46.here hx rfl (hb hby at_47) ?_
      show Steps p.tables e below (T46.setTop (mkF m 48 #[.val (.int p1), .val (.int p2), .val (.int p3), .val (.int p4), .val (.int p5), .val (.int p6), .val (.int nn), .val (.ref b1), .val (.int (1 : Int32)), .unset] [(.int (2 : Int32)), (.int (1 : Int32))])) τ
      exact κ)
    have hc47 : (1 : Int32) < (2 : Int32) := (by decide)
    have pre : ∀ τ, Steps p.tables e below (T46.setTop (mkF m 70 #[.val (.int p1), .val (.int p2), .val (.int p3), .val (.int p4), .val (.int p5), .val (.int p6), .val (.int nn), .val (.ref b1), .val (.int (1 : Int32)), .unset] [(.int (3 : Int32)), (.int (1 : Int32))])) τ → G τ := fun τ κ => pre τ (by
      refine XS.icmpYes X46.here hx rfl (pc0 := 48) (pc' := 67) rfl (hb hby at_48) rfl (tlt hc47).1 (by decide) (by decide) ?_
      show Steps p.tables e below (T46.setTop (mkF m 67 #[.val (.int p1), .val (.int p2), .val (.int p3), .val (.int p4), .val (.int p5), .val (.int p6), .val (.int nn), .val (.ref b1), .val (.int (1 : Int32)), .unset] [])) τ
      refine XS.iload X46.here hx rfl (hb hby at_67) rfl ?_
      show Steps p.tables e below (T46.setTop (mkF m 69 #[.val (.int p1), .val (.int p2), .val (.int p3), .val (.int p4), .val (.int p5), .val (.int p6), .val (.int nn), .val (.ref b1), .val (.int (1 : Int32)), .unset] [(.int (1 : Int32))])) τ
      refine XS.iconst X46.here hx rfl (hb hby at_69) ?_
      show Steps p.tables e below (T46.setTop (mkF m 70 #[.val (.int p1), .val (.int p2), .val (.int p3), .val (.int p4), .val (.int p5), .val (.int p6), .val (.int nn), .val (.ref b1), .val (.int (1 : Int32)), .unset] [(.int (3 : Int32)), (.int (1 : Int32))])) τ
      exact κ)
    have hc48 : (1 : Int32) < (3 : Int32) := (by decide)
    have pre : ∀ τ, Steps p.tables e below (T46.setTop (mkF m 95 #[.val (.int p1), .val (.int p2), .val (.int p3), .val (.int p4), .val (.int p5), .val (.int p6), .val (.int nn), .val (.ref b1), .val (.int (1 : Int32)), .unset] [(.ref b1)])) τ → G τ := fun τ κ => pre τ (by
      refine XS.icmpYes X46.here hx rfl (pc0 := 70) (pc' := 93) rfl (hb hby at_70) rfl (tlt hc48).1 (by decide) (by decide) ?_
      show Steps p.tables e below (T46.setTop (mkF m 93 #[.val (.int p1), .val (.int p2), .val (.int p3), .val (.int p4), .val (.int p5), .val (.int p6), .val (.int nn), .val (.ref b1), .val (.int (1 : Int32)), .unset] [])) τ
      refine XS.aload X46.here hx rfl (hb hby at_93) rfl rfl ?_
      show Steps p.tables e below (T46.setTop (mkF m 95 #[.val (.int p1), .val (.int p2), .val (.int p3), .val (.int p4), .val (.int p5), .val (.int p6), .val (.int nn), .val (.ref b1), .val (.int (1 : Int32)), .unset] [(.ref b1)])) τ
      exact κ)
    obtain ⟨cq49, kq49, q49a, q49b, q49c⟩ := isOf hZ rfl E_b1
    obtain ⟨_, _, ⟨T49, Lx49, kx49, nx49⟩, -, X49, hS2, hg2, ⟨Lc49, hQ49, l49, y49, z49, HRc⟩, st49⟩ := X46.virtualBackS hx (y := (⟨"coppice/marshal/context/NamespaceScope", "reset", "()V"⟩ : MethodName)) (z := (⟨"coppice/marshal/context/NamespaceScope", "reset", "()V"⟩ : MethodName)) hown (mvT hZ (hw _ (List.mem_of_getElem? (i := 83) rfl))) (mvT hZ (hw _ (List.mem_of_getElem? (i := 19) rfl))) (notFace_of_selects (args := #[]) (mvT hZ (hw _ (List.mem_of_getElem? (i := 21) rfl)))) (mvT hZ (hw _ (List.mem_of_getElem? (i := 21) rfl))) (mvT hZ (hw _ (List.mem_of_getElem? (i := 20) rfl))) (by decide) (backOfSH (W := 0) (rm3 l Z a0 hw hEL wS [] b1 un_2 up_2 pf_2 kf_2 nn pfz_46 (.int z1.2.2.2) T46.heap n0 Zn g_b1 gn_pf_2 E_b1 F_un F_up F_pf F_uc V_pf O_pf_2 ne_b1_pf_2 N5.1 hlf_46) hZ (hw _ (List.mem_of_getElem? (i := 22) rfl)) (hw _ (List.mem_of_getElem? (i := 2) rfl)) (by decide) (by decide) hEL H) q49a q49c (g := (mkF m 95 #[.val (.int p1), .val (.int p2), .val (.int p3), .val (.int p4), .val (.int p5), .val (.int p6), .val (.int nn), .val (.ref b1), .val (.int (1 : Int32)), .unset] [(.ref b1)])) rfl (by rw [hml]; rfl) (Steps.refl _) (argsL := []) (rest := []) (lenOf pd_8 rfl) rfl (by show 2 * 0 + _ ≤ _; exact Nat.le_of_eq rfl) (hb hby at_95) (fun _ _ => ⟨rfl, rfl, (by decide : 10 + 4 ≤ _), (by decide : 77 + 20 ≤ _)⟩)
    dsimp only [Pt.U, Pt.locs, Pt.cells, Pt.slots] at hS2 hg2 HRc
    have hkT := hk
    dsimp only [Pt.U, Pt.locs, Pt.cells, Pt.slots] at X49 l49 y49 z49 st49 hQ49
    replace y49 : kx49 = 14 := y49
    replace z49 : nx49 = 97 := z49
    subst y49 z49
    obtain ⟨pfz_49, rfl, Nq49, Kc49, E_o_49, F_un_49, F_up_49, F_pf_49, F_uc_49, V_pf_49, L_pf_49, hlz_49⟩ := hQ49
    have NN : Fr n0 Lx49 := by rw [l49]; exact Fr.app NN Nq49
    obtain ⟨X49, hS, hZ, hown⟩ := rebS hS hkT X49 hS2 hg2 hZ hown
    have hk := Nat.le_refl T49.heap.size
    have HR := HR.trans HRc
    have H := HR.1
    have Nss : ∀ x ∈ [b1, pf_2], own_ns Z T46.heap x := (allS (own_nsE E_b1 (hw _ (List.mem_of_getElem? (i := 1) rfl)) (by decide) (by decide)) (allS (own_nsV V_pf (by decide)) all0))
    have S_c : Sta Z T49.heap "java/lang/String" "COMPACT_STRINGS" "Z" (.int cw) := own_sta_keepN S_c Kc49 Nss
    have E_b1 : Exa Z T49.heap b1 "coppice/marshal/context/NamespaceScope" := E_b1.keep Kc49
    have F_r_45 : own_S Z T49.heap (.ref r_45) (some tr_45) := own_S_keep F_r_45 Kc49 Nss
    have E_o : Exa Z T49.heap b1 "coppice/marshal/context/NamespaceScope" := E_o.keep Kc49
    have V_un : Arv Z T49.heap un_2 ku_2 .int (16 : Int32) z1.2.1 (.int (0 : Int32)) := V_un.keep Kc49 (ninS (Ne.symm ne_b1_un_2) (ninS ne_un__pf_2 nin0))
    have V_up : Arv Z T49.heap up_2 kp_2 (.object "java/lang/String") (16 : Int32) upz_46 .null := V_up.keep Kc49 (ninS (Ne.symm ne_b1_up_2) (ninS ne_up__pf_2 nin0))
    have L_up : own_SL Z T49.heap upz_46 z1.2.2.1 := own_SL_keep L_up Kc49 Nss
    have L_pf : own_SL Z T49.heap pfz_46 z1.1 := own_SL_keep L_pf Kc49 Nss
    have Zn : n0 ≤ T49.heap.size := Nat.le_trans Zn Kc49.1
    have pre : ∀ τ, Steps p.tables e below (T49.setTop (mkF m 98 #[.val (.int p1), .val (.int p2), .val (.int p3), .val (.int p4), .val (.int p5), .val (.int p6), .val (.int nn), .val (.ref b1), .val (.int (1 : Int32)), .unset] [])) τ → G τ := fun τ κ => pre τ (st49.trans κ)
    have pre : ∀ τ, Steps p.tables e below (T49.setTop (mkF m 100 #[.val (.int p1), .val (.int p2), .val (.int p3), .val (.int p4), .val (.int p5), .val (.int p6), .val (.int nn), .val (.ref b1), .val (.int (1 : Int32)), .unset] [(.ref b1)])) τ → G τ := fun τ κ => pre τ (by
      refine XS.aload X49.here hx rfl (hb hby at_98) rfl rfl ?_
      show Steps p.tables e below (T49.setTop (mkF m 100 #[.val (.int p1), .val (.int p2), .val (.int p3), .val (.int p4), .val (.int p5), .val (.int p6), .val (.int nn), .val (.ref b1), .val (.int (1 : Int32)), .unset] [(.ref b1)])) τ
      exact κ)
    obtain ⟨cq50, kq50, q50a, q50b, q50c⟩ := isOf hZ rfl E_b1
    obtain ⟨_, _, ⟨T50, Lx50, kx50, nx50⟩, -, X50, ⟨Lc50, hQ50, l50, y50, z50⟩, st50⟩ := X49.virtualBack hx (y := (⟨"coppice/marshal/context/NamespaceScope", "mark", "()I"⟩ : MethodName)) (z := (⟨"coppice/marshal/context/NamespaceScope", "mark", "()I"⟩ : MethodName)) hown (mvT hZ (hw _ (List.mem_of_getElem? (i := 84) rfl))) (mvT hZ (hw _ (List.mem_of_getElem? (i := 85) rfl))) (notFace_of_selects (args := #[]) (mvT hZ (hw _ (List.mem_of_getElem? (i := 87) rfl)))) (mvT hZ (hw _ (List.mem_of_getElem? (i := 87) rfl))) (mvT hZ (hw _ (List.mem_of_getElem? (i := 86) rfl))) (by decide) (backOf (W := 0) (rm15 l Z a0 hw [] b1 (0 : Int32) T49.heap n0 Zn F_uc_49) hZ (hw _ (List.mem_of_getElem? (i := 88) rfl)) (hw _ (List.mem_of_getElem? (i := 2) rfl)) (by decide) (by decide)) q50a q50c (g := (mkF m 100 #[.val (.int p1), .val (.int p2), .val (.int p3), .val (.int p4), .val (.int p5), .val (.int p6), .val (.int nn), .val (.ref b1), .val (.int (1 : Int32)), .unset] [(.ref b1)])) rfl (by rw [hml]; rfl) (Steps.refl _) (argsL := []) (rest := []) (lenOf pd_10 rfl) rfl (by show 2 * 0 + _ ≤ _; exact Nat.le_of_eq rfl) (hb hby at_100) (fun _ _ => ⟨rfl, rfl, (by decide : 14 + 0 ≤ _), (by decide : 97 + 0 ≤ _)⟩)
    dsimp only [Pt.U, Pt.locs, Pt.cells, Pt.slots] at X50 l50 y50 z50 st50 hQ50
    replace y50 : kx50 = 14 := y50
    replace z50 : nx50 = 97 := z50
    subst y50 z50
    obtain ⟨rfl, Nq50, hs50⟩ := hQ50
    have NN : Fr n0 Lx50 := by rw [l50]; exact Fr.app NN Nq50
    have pre : ∀ τ, Steps p.tables e below (T50.setTop (mkF m 103 #[.val (.int p1), .val (.int p2), .val (.int p3), .val (.int p4), .val (.int p5), .val (.int p6), .val (.int nn), .val (.ref b1), .val (.int (1 : Int32)), .unset] [(.int (0 : Int32))])) τ → G τ := fun τ κ => pre τ (st50.trans κ)
    have hc51 : (0 : Int32) = (0 : Int32) := rfl
    have pre : ∀ τ, Steps p.tables e below (T50.setTop (mkF m 115 #[.val (.int p1), .val (.int p2), .val (.int p3), .val (.int p4), .val (.int p5), .val (.int p6), .val (.int nn), .val (.ref b1), .val (.int (1 : Int32)), .val (.int (1 : Int32))] [(.int (1 : Int32))])) τ → G τ := fun τ κ => pre τ (by
      refine XS.ifNo X50.here hx rfl (hb hby at_103) rfl ((if0 _ _).trans (teq hc51).2) ?_
      show Steps p.tables e below (T50.setTop (mkF m 106 #[.val (.int p1), .val (.int p2), .val (.int p3), .val (.int p4), .val (.int p5), .val (.int p6), .val (.int nn), .val (.ref b1), .val (.int (1 : Int32)), .unset] [])) τ
      refine XS.iconst X50.here hx rfl (hb hby at_106) ?_
      show Steps p.tables e below (T50.setTop (mkF m 107 #[.val (.int p1), .val (.int p2), .val (.int p3), .val (.int p4), .val (.int p5), .val (.int p6), .val (.int nn), .val (.ref b1), .val (.int (1 : Int32)), .unset] [(.int (1 : Int32))])) τ
      refine XS.goto X50.here hx rfl (pc0 := 107) (pc' := 111) rfl (hb hby at_107) (by decide) (by decide) ?_
      show Steps p.tables e below (T50.setTop (mkF m 111 #[.val (.int p1), .val (.int p2), .val (.int p3), .val (.int p4), .val (.int p5), .val (.int p6), .val (.int nn), .val (.ref b1), .val (.int (1 : Int32)), .unset] [(.int (1 : Int32))])) τ
      refine XS.istore X50.here hx rfl (hb hby at_111) rfl (l' := #[.val (.int p1), .val (.int p2), .val (.int p3), .val (.int p4), .val (.int p5), .val (.int p6), .val (.int nn), .val (.ref b1), .val (.int (1 : Int32)), .val (.int (1 : Int32))]) rfl ?_
      show Steps p.tables e below (T50.setTop (mkF m 113 #[.val (.int p1), .val (.int p2), .val (.int p3), .val (.int p4), .val (.int p5), .val (.int p6), .val (.int nn), .val (.ref b1), .val (.int (1 : Int32)), .val (.int (1 : Int32))] [])) τ
      refine XS.iload X50.here hx rfl (hb hby at_113) rfl ?_
      show Steps p.tables e below (T50.setTop (mkF m 115 #[.val (.int p1), .val (.int p2), .val (.int p3), .val (.int p4), .val (.int p5), .val (.int p6), .val (.int nn), .val (.ref b1), .val (.int (1 : Int32)), .val (.int (1 : Int32))] [(.int (1 : Int32))])) τ
      exact κ)
    have hc52 : ¬ ((1 : Int32) = (0 : Int32)) := (by decide)
    have pre : ∀ τ, Steps p.tables e below (T50.setTop (mkF m 118 #[.val (.int p1), .val (.int p2), .val (.int p3), .val (.int p4), .val (.int p5), .val (.int p6), .val (.int nn), .val (.ref b1), .val (.int (1 : Int32)), .val (.int (1 : Int32))] [])) τ → G τ := fun τ κ => pre τ (by
      refine XS.ifNo X50.here hx rfl (hb hby at_115) rfl ((if0 _ _).trans (feq hc52).1) ?_
      show Steps p.tables e below (T50.setTop (mkF m 118 #[.val (.int p1), .val (.int p2), .val (.int p3), .val (.int p4), .val (.int p5), .val (.int p6), .val (.int nn), .val (.ref b1), .val (.int (1 : Int32)), .val (.int (1 : Int32))] [])) τ
      exact κ)
    obtain ⟨as53, T53, h53, kn53, bs53, kc53, X53, e53, E53, hS, hk, hZ, hown, Ea53, Ca53, Va53, Ba53, la53, lb53, HRn53, Li53, sf53, st53⟩ := ldcCH X50 hx hZ hown (hw _ (List.mem_of_getElem? (i := 82) rfl)) wS hs50 hS hk hEL (List.mem_of_getElem? (i := 2) rfl) H (vs := []) (z := (0 : Int32)) ⟨by decide, rfl⟩ (by decide) rfl (g := (mkF m 118 #[.val (.int p1), .val (.int p2), .val (.int p3), .val (.int p4), .val (.int p5), .val (.int p6), .val (.int nn), .val (.ref b1), .val (.int (1 : Int32)), .val (.int (1 : Int32))] [])) rfl (hb hby at_118) (n := 0) (by decide) (by decide) (by decide) (by decide)
    have S_c : Sta Z h53 "java/lang/String" "COMPACT_STRINGS" "Z" (.int cw) := S_c.ext E53
    have E_b1 : Exa Z h53 b1 "coppice/marshal/context/NamespaceScope" := E_b1.ext E53
    have F_r_45 : own_S Z h53 (.ref r_45) (some tr_45) := own_S_ext F_r_45 E53
    have E_o : Exa Z h53 b1 "coppice/marshal/context/NamespaceScope" := E_o.ext E53
    have V_un : Arv Z h53 un_2 ku_2 .int (16 : Int32) z1.2.1 (.int (0 : Int32)) := V_un.ext E53
    have V_up : Arv Z h53 up_2 kp_2 (.object "java/lang/String") (16 : Int32) upz_46 .null := V_up.ext E53
    have L_up : own_SL Z h53 upz_46 z1.2.2.1 := own_SL_ext L_up E53
    have L_pf : own_SL Z h53 pfz_46 z1.1 := own_SL_ext L_pf E53
    have E_o_49 : Exa Z h53 b1 "coppice/marshal/context/NamespaceScope" := E_o_49.ext E53
    have F_un_49 : Fld Z h53 b1 "coppice/marshal/context/NamespaceScope" "undoNamespaces" "[I" (.ref un_2) := F_un_49.ext E53
    have F_up_49 : Fld Z h53 b1 "coppice/marshal/context/NamespaceScope" "undoPrefixes" "[Ljava/lang/String;" (.ref up_2) := F_up_49.ext E53
    have F_pf_49 : Fld Z h53 b1 "coppice/marshal/context/NamespaceScope" "prefixes" "[Ljava/lang/String;" (.ref pf_2) := F_pf_49.ext E53
    have F_uc_49 : Fld Z h53 b1 "coppice/marshal/context/NamespaceScope" "undoCount" "I" (.int (0 : Int32)) := F_uc_49.ext E53
    have V_pf_49 : Arv Z h53 pf_2 kf_2 (.object "java/lang/String") nn pfz_49 .null := V_pf_49.ext E53
    have L_pf_49 : own_SL Z h53 pfz_49 (own_r0 nn) := own_SL_ext L_pf_49 E53
    have Zn : n0 ≤ h53.size := Nat.le_trans Zn E53.1
    have HR := HR.trans HRn53
    have H := HR.1
    have F_s53 : own_S Z h53 (.ref as53) (some []) := Or.inr ⟨_, _, _, _, _, _, rfl, rfl, (hw _ (List.mem_of_getElem? (i := 29) rfl)), Ea53, Ca53, Va53, Ba53, rfl⟩
    have pre : ∀ τ, Steps p.tables e below (T53.setTop (mkF m 120 #[.val (.int p1), .val (.int p2), .val (.int p3), .val (.int p4), .val (.int p5), .val (.int p6), .val (.int nn), .val (.ref b1), .val (.int (1 : Int32)), .val (.int (1 : Int32))] [(.ref as53)])) τ → G τ := fun τ κ => pre τ (st53 τ κ)
    have pre : ∀ τ, Steps p.tables e below (T53.setTop (mkF m 123 #[.val (.int p1), .val (.int p2), .val (.int p3), .val (.int p4), .val (.int p5), .val (.int p6), .val (.int nn), .val (.ref b1), .val (.int (1 : Int32)), .val (.int (1 : Int32))] [(.int (0 : Int32)), (.ref b1), (.ref as53)])) τ → G τ := fun τ κ => pre τ (by
      refine XS.aload X53.here hx rfl (hb hby at_120) rfl rfl ?_
      show Steps p.tables e below (T53.setTop (mkF m 122 #[.val (.int p1), .val (.int p2), .val (.int p3), .val (.int p4), .val (.int p5), .val (.int p6), .val (.int nn), .val (.ref b1), .val (.int (1 : Int32)), .val (.int (1 : Int32))] [(.ref b1), (.ref as53)])) τ
      refine XS.iconst X53.here hx rfl (hb hby at_122) ?_
      show Steps p.tables e below (T53.setTop (mkF m 123 #[.val (.int p1), .val (.int p2), .val (.int p3), .val (.int p4), .val (.int p5), .val (.int p6), .val (.int nn), .val (.ref b1), .val (.int (1 : Int32)), .val (.int (1 : Int32))] [(.int (0 : Int32)), (.ref b1), (.ref as53)])) τ
      exact κ)
    obtain ⟨cq54, kq54, q54a, q54b, q54c⟩ := isOf hZ e53 E_b1
    obtain ⟨_, _, ⟨T54, Lx54, kx54, nx54⟩, -, X54, ⟨Lc54, hQ54, l54, y54, z54⟩, st54⟩ := X53.virtualBack hx (y := (⟨"coppice/marshal/context/NamespaceScope", "prefix", "(I)Ljava/lang/String;"⟩ : MethodName)) (z := (⟨"coppice/marshal/context/NamespaceScope", "prefix", "(I)Ljava/lang/String;"⟩ : MethodName)) hown (mvT hZ (hw _ (List.mem_of_getElem? (i := 89) rfl))) (mvT hZ (hw _ (List.mem_of_getElem? (i := 90) rfl))) (notFace_of_selects (args := #[]) (mvT hZ (hw _ (List.mem_of_getElem? (i := 92) rfl)))) (mvT hZ (hw _ (List.mem_of_getElem? (i := 92) rfl))) (mvT hZ (hw _ (List.mem_of_getElem? (i := 91) rfl))) (by decide) (backOf (W := 1) (rm16 l Z a0 hw [] b1 (0 : Int32) pf_2 kf_2 nn pfz_49 (own_r0 nn) h53 n0 Zn F_pf_49 V_pf_49 L_pf_49 (own_b01 N5.1).1) hZ (hw _ (List.mem_of_getElem? (i := 93) rfl)) (hw _ (List.mem_of_getElem? (i := 2) rfl)) (by decide) (by decide)) q54a q54c (g := (mkF m 123 #[.val (.int p1), .val (.int p2), .val (.int p3), .val (.int p4), .val (.int p5), .val (.int p6), .val (.int nn), .val (.ref b1), .val (.int (1 : Int32)), .val (.int (1 : Int32))] [(.int (0 : Int32)), (.ref b1), (.ref as53)])) rfl (by rw [hml]; rfl) (Steps.refl _) (argsL := [(.int (0 : Int32))]) (rest := [(.ref as53)]) (lenOf pd_11 rfl) rfl (by show 2 * 0 + _ ≤ _; exact Nat.le_of_eq rfl) (hb hby at_123) (fun _ _ => ⟨rfl, e53, (by decide : 16 + 0 ≤ _), (by decide : 101 + 0 ≤ _)⟩)
    dsimp only [Pt.U, Pt.locs, Pt.cells, Pt.slots] at X54 l54 y54 z54 st54 hQ54
    replace y54 : kx54 = 16 := y54
    replace z54 : nx54 = 101 := z54
    subst y54 z54
    obtain ⟨rfl, Nq54, hs54, F_r_54⟩ := hQ54
    have NN : Fr n0 Lx54 := by rw [l54]; exact Fr.app NN Nq54
    have F_r_54 : own_S Z h53 (pfz_49.getD ((0 : Int32)).toNatClampNeg .null) ((own_r0 nn).getD ((0 : Int32)).toNatClampNeg none) := hs54 ▸ F_r_54
    have pre : ∀ τ, Steps p.tables e below (T54.setTop (mkF m 126 #[.val (.int p1), .val (.int p2), .val (.int p3), .val (.int p4), .val (.int p5), .val (.int p6), .val (.int nn), .val (.ref b1), .val (.int (1 : Int32)), .val (.int (1 : Int32))] [(pfz_49.getD ((0 : Int32)).toNatClampNeg .null), (.ref as53)])) τ → G τ := fun τ κ => pre τ (st54.trans κ)
    obtain ⟨cq55, kq55, q55a, q55b, q55c⟩ := isOf hZ hs54 (own_S_exa F_s53)
    obtain ⟨_, _, ⟨T55, Lx55, kx55, nx55⟩, -, X55, ⟨Lc55, hQ55, l55, y55, z55⟩, st55⟩ := X54.virtualBack hx (y := (⟨"java/lang/String", "equals", "(Ljava/lang/Object;)Z"⟩ : MethodName)) (z := (⟨"java/lang/String", "equals", "(Ljava/lang/Object;)Z"⟩ : MethodName)) hown (mvT hZ (hw _ (List.mem_of_getElem? (i := 94) rfl))) (mvT hZ (hw _ (List.mem_of_getElem? (i := 71) rfl))) (notFace_of_selects (args := #[]) (mvT hZ (hw _ (List.mem_of_getElem? (i := 73) rfl)))) (mvT hZ (hw _ (List.mem_of_getElem? (i := 73) rfl))) (mvT hZ (hw _ (List.mem_of_getElem? (i := 72) rfl))) (by decide) (backOf (W := 0) (rm12 l Z a0 hw [] as53 (pfz_49.getD ((0 : Int32)).toNatClampNeg .null) [] ((own_r0 nn).getD ((0 : Int32)).toNatClampNeg none) cw h53 n0 Zn F_s53 F_r_54 S_c hcw) hZ (hw _ (List.mem_of_getElem? (i := 74) rfl)) (hw _ (List.mem_of_getElem? (i := 28) rfl)) (by decide) (by decide)) q55a q55c (g := (mkF m 126 #[.val (.int p1), .val (.int p2), .val (.int p3), .val (.int p4), .val (.int p5), .val (.int p6), .val (.int nn), .val (.ref b1), .val (.int (1 : Int32)), .val (.int (1 : Int32))] [(pfz_49.getD ((0 : Int32)).toNatClampNeg .null), (.ref as53)])) rfl (by rw [hml]; rfl) (Steps.refl _) (argsL := [(pfz_49.getD ((0 : Int32)).toNatClampNeg .null)]) (rest := []) (lenOf pd_2 rfl) rfl (by show 2 * 0 + _ ≤ _; exact Nat.le_of_eq rfl) (hb hby at_126) (fun _ _ => ⟨rfl, hs54, (by decide : 16 + 0 ≤ _), (by decide : 101 + 0 ≤ _)⟩)
    dsimp only [Pt.U, Pt.locs, Pt.cells, Pt.slots] at X55 l55 y55 z55 st55 hQ55
    replace y55 : kx55 = 16 := y55
    replace z55 : nx55 = 101 := z55
    subst y55 z55
    obtain ⟨rfl, Nq55, hs55⟩ := hQ55
    have NN : Fr n0 Lx55 := by rw [l55]; exact Fr.app NN Nq55
    have pre : ∀ τ, Steps p.tables e below (T55.setTop (mkF m 129 #[.val (.int p1), .val (.int p2), .val (.int p3), .val (.int p4), .val (.int p5), .val (.int p6), .val (.int nn), .val (.ref b1), .val (.int (1 : Int32)), .val (.int (1 : Int32))] [(.int (own_eqt [] ((own_r0 nn).getD ((0 : Int32)).toNatClampNeg none)))])) τ → G τ := fun τ κ => pre τ (st55.trans κ)
    have hc56 : ¬ ((own_eqt [] ((own_r0 nn).getD ((0 : Int32)).toNatClampNeg none)) = (0 : Int32)) := (own_eqt1 (own_r00 N5.1))
    have pre : ∀ τ, Steps p.tables e below (T55.setTop (mkF m 141 #[.val (.int p1), .val (.int p2), .val (.int p3), .val (.int p4), .val (.int p5), .val (.int p6), .val (.int nn), .val (.ref b1), .val (.int (1 : Int32)), .val (.int (1 : Int32))] [(.int (1 : Int32))])) τ → G τ := fun τ κ => pre τ (by
      refine XS.ifNo X55.here hx rfl (hb hby at_129) rfl ((if0 _ _).trans (feq hc56).1) ?_
      show Steps p.tables e below (T55.setTop (mkF m 132 #[.val (.int p1), .val (.int p2), .val (.int p3), .val (.int p4), .val (.int p5), .val (.int p6), .val (.int nn), .val (.ref b1), .val (.int (1 : Int32)), .val (.int (1 : Int32))] [])) τ
      refine XS.iconst X55.here hx rfl (hb hby at_132) ?_
      show Steps p.tables e below (T55.setTop (mkF m 133 #[.val (.int p1), .val (.int p2), .val (.int p3), .val (.int p4), .val (.int p5), .val (.int p6), .val (.int nn), .val (.ref b1), .val (.int (1 : Int32)), .val (.int (1 : Int32))] [(.int (1 : Int32))])) τ
      refine XS.goto X55.here hx rfl (pc0 := 133) (pc' := 137) rfl (hb hby at_133) (by decide) (by decide) ?_
      show Steps p.tables e below (T55.setTop (mkF m 137 #[.val (.int p1), .val (.int p2), .val (.int p3), .val (.int p4), .val (.int p5), .val (.int p6), .val (.int nn), .val (.ref b1), .val (.int (1 : Int32)), .val (.int (1 : Int32))] [(.int (1 : Int32))])) τ
      refine XS.istore X55.here hx rfl (hb hby at_137) rfl (l' := #[.val (.int p1), .val (.int p2), .val (.int p3), .val (.int p4), .val (.int p5), .val (.int p6), .val (.int nn), .val (.ref b1), .val (.int (1 : Int32)), .val (.int (1 : Int32))]) rfl ?_
      show Steps p.tables e below (T55.setTop (mkF m 139 #[.val (.int p1), .val (.int p2), .val (.int p3), .val (.int p4), .val (.int p5), .val (.int p6), .val (.int nn), .val (.ref b1), .val (.int (1 : Int32)), .val (.int (1 : Int32))] [])) τ
      refine XS.iload X55.here hx rfl (hb hby at_139) rfl ?_
      show Steps p.tables e below (T55.setTop (mkF m 141 #[.val (.int p1), .val (.int p2), .val (.int p3), .val (.int p4), .val (.int p5), .val (.int p6), .val (.int nn), .val (.ref b1), .val (.int (1 : Int32)), .val (.int (1 : Int32))] [(.int (1 : Int32))])) τ
      exact κ)
    have hc57 : ¬ ((1 : Int32) = (0 : Int32)) := (by decide)
    have pre : ∀ τ, Steps p.tables e below (T55.setTop (mkF m 144 #[.val (.int p1), .val (.int p2), .val (.int p3), .val (.int p4), .val (.int p5), .val (.int p6), .val (.int nn), .val (.ref b1), .val (.int (1 : Int32)), .val (.int (1 : Int32))] [])) τ → G τ := fun τ κ => pre τ (by
      refine XS.ifNo X55.here hx rfl (hb hby at_141) rfl ((if0 _ _).trans (feq hc57).1) ?_
      show Steps p.tables e below (T55.setTop (mkF m 144 #[.val (.int p1), .val (.int p2), .val (.int p3), .val (.int p4), .val (.int p5), .val (.int p6), .val (.int nn), .val (.ref b1), .val (.int (1 : Int32)), .val (.int (1 : Int32))] [])) τ
      exact κ)
    obtain ⟨as58, T58, h58, kn58, bs58, kc58, X58, e58, E58, hS, hk, hZ, hown, Ea58, Ca58, Va58, Ba58, la58, lb58, HRn58, Li58, sf58, st58⟩ := ldcCH X55 hx hZ hown (hw _ (List.mem_of_getElem? (i := 95) rfl)) wS hs55 hS hk hEL (List.mem_of_getElem? (i := 3) rfl) H (vs := [(.int (120 : Int32)), (.int (109 : Int32)), (.int (108 : Int32))]) (z := (3 : Int32)) ⟨by decide, rfl⟩ (by decide) rfl (g := (mkF m 144 #[.val (.int p1), .val (.int p2), .val (.int p3), .val (.int p4), .val (.int p5), .val (.int p6), .val (.int nn), .val (.ref b1), .val (.int (1 : Int32)), .val (.int (1 : Int32))] [])) rfl (hb hby at_144) (n := 12) (by decide) (by decide) (by decide) (by decide)
    have S_c : Sta Z h58 "java/lang/String" "COMPACT_STRINGS" "Z" (.int cw) := S_c.ext E58
    have E_b1 : Exa Z h58 b1 "coppice/marshal/context/NamespaceScope" := E_b1.ext E58
    have F_r_45 : own_S Z h58 (.ref r_45) (some tr_45) := own_S_ext F_r_45 E58
    have E_o : Exa Z h58 b1 "coppice/marshal/context/NamespaceScope" := E_o.ext E58
    have V_un : Arv Z h58 un_2 ku_2 .int (16 : Int32) z1.2.1 (.int (0 : Int32)) := V_un.ext E58
    have V_up : Arv Z h58 up_2 kp_2 (.object "java/lang/String") (16 : Int32) upz_46 .null := V_up.ext E58
    have L_up : own_SL Z h58 upz_46 z1.2.2.1 := own_SL_ext L_up E58
    have L_pf : own_SL Z h58 pfz_46 z1.1 := own_SL_ext L_pf E58
    have E_o_49 : Exa Z h58 b1 "coppice/marshal/context/NamespaceScope" := E_o_49.ext E58
    have F_un_49 : Fld Z h58 b1 "coppice/marshal/context/NamespaceScope" "undoNamespaces" "[I" (.ref un_2) := F_un_49.ext E58
    have F_up_49 : Fld Z h58 b1 "coppice/marshal/context/NamespaceScope" "undoPrefixes" "[Ljava/lang/String;" (.ref up_2) := F_up_49.ext E58
    have F_pf_49 : Fld Z h58 b1 "coppice/marshal/context/NamespaceScope" "prefixes" "[Ljava/lang/String;" (.ref pf_2) := F_pf_49.ext E58
    have F_uc_49 : Fld Z h58 b1 "coppice/marshal/context/NamespaceScope" "undoCount" "I" (.int (0 : Int32)) := F_uc_49.ext E58
    have V_pf_49 : Arv Z h58 pf_2 kf_2 (.object "java/lang/String") nn pfz_49 .null := V_pf_49.ext E58
    have L_pf_49 : own_SL Z h58 pfz_49 (own_r0 nn) := own_SL_ext L_pf_49 E58
    have F_s53 : own_S Z h58 (.ref as53) (some []) := own_S_ext F_s53 E58
    have F_r_54 : own_S Z h58 (pfz_49.getD ((0 : Int32)).toNatClampNeg .null) ((own_r0 nn).getD ((0 : Int32)).toNatClampNeg none) := own_S_ext F_r_54 E58
    have Zn : n0 ≤ h58.size := Nat.le_trans Zn E58.1
    have HR := HR.trans HRn58
    have H := HR.1
    have F_s58 : own_S Z h58 (.ref as58) (some [(.int (120 : Int32)), (.int (109 : Int32)), (.int (108 : Int32))]) := Or.inr ⟨_, _, _, _, _, _, rfl, rfl, (hw _ (List.mem_of_getElem? (i := 29) rfl)), Ea58, Ca58, Va58, Ba58, rfl⟩
    have pre : ∀ τ, Steps p.tables e below (T58.setTop (mkF m 146 #[.val (.int p1), .val (.int p2), .val (.int p3), .val (.int p4), .val (.int p5), .val (.int p6), .val (.int nn), .val (.ref b1), .val (.int (1 : Int32)), .val (.int (1 : Int32))] [(.ref as58)])) τ → G τ := fun τ κ => pre τ (st58 τ κ)
    have pre : ∀ τ, Steps p.tables e below (T58.setTop (mkF m 149 #[.val (.int p1), .val (.int p2), .val (.int p3), .val (.int p4), .val (.int p5), .val (.int p6), .val (.int nn), .val (.ref b1), .val (.int (1 : Int32)), .val (.int (1 : Int32))] [(.int (1 : Int32)), (.ref b1), (.ref as58)])) τ → G τ := fun τ κ => pre τ (by
      refine XS.aload X58.here hx rfl (hb hby at_146) rfl rfl ?_
      show Steps p.tables e below (T58.setTop (mkF m 148 #[.val (.int p1), .val (.int p2), .val (.int p3), .val (.int p4), .val (.int p5), .val (.int p6), .val (.int nn), .val (.ref b1), .val (.int (1 : Int32)), .val (.int (1 : Int32))] [(.ref b1), (.ref as58)])) τ
      refine XS.iconst X58.here hx rfl (hb hby at_148) ?_
      show Steps p.tables e below (T58.setTop (mkF m 149 #[.val (.int p1), .val (.int p2), .val (.int p3), .val (.int p4), .val (.int p5), .val (.int p6), .val (.int nn), .val (.ref b1), .val (.int (1 : Int32)), .val (.int (1 : Int32))] [(.int (1 : Int32)), (.ref b1), (.ref as58)])) τ
      exact κ)
    obtain ⟨cq59, kq59, q59a, q59b, q59c⟩ := isOf hZ e58 E_b1
    obtain ⟨_, _, ⟨T59, Lx59, kx59, nx59⟩, -, X59, ⟨Lc59, hQ59, l59, y59, z59⟩, st59⟩ := X58.virtualBack hx (y := (⟨"coppice/marshal/context/NamespaceScope", "prefix", "(I)Ljava/lang/String;"⟩ : MethodName)) (z := (⟨"coppice/marshal/context/NamespaceScope", "prefix", "(I)Ljava/lang/String;"⟩ : MethodName)) hown (mvT hZ (hw _ (List.mem_of_getElem? (i := 89) rfl))) (mvT hZ (hw _ (List.mem_of_getElem? (i := 90) rfl))) (notFace_of_selects (args := #[]) (mvT hZ (hw _ (List.mem_of_getElem? (i := 92) rfl)))) (mvT hZ (hw _ (List.mem_of_getElem? (i := 92) rfl))) (mvT hZ (hw _ (List.mem_of_getElem? (i := 91) rfl))) (by decide) (backOf (W := 1) (rm16 l Z a0 hw [] b1 (1 : Int32) pf_2 kf_2 nn pfz_49 (own_r0 nn) h58 n0 Zn F_pf_49 V_pf_49 L_pf_49 (own_b01 N5.1).2) hZ (hw _ (List.mem_of_getElem? (i := 93) rfl)) (hw _ (List.mem_of_getElem? (i := 2) rfl)) (by decide) (by decide)) q59a q59c (g := (mkF m 149 #[.val (.int p1), .val (.int p2), .val (.int p3), .val (.int p4), .val (.int p5), .val (.int p6), .val (.int nn), .val (.ref b1), .val (.int (1 : Int32)), .val (.int (1 : Int32))] [(.int (1 : Int32)), (.ref b1), (.ref as58)])) rfl (by rw [hml]; rfl) (Steps.refl _) (argsL := [(.int (1 : Int32))]) (rest := [(.ref as58)]) (lenOf pd_11 rfl) rfl (by show 2 * 0 + _ ≤ _; exact Nat.le_of_eq rfl) (hb hby at_149) (fun _ _ => ⟨rfl, e58, (by decide : 18 + 0 ≤ _), (by decide : 117 + 0 ≤ _)⟩)
    dsimp only [Pt.U, Pt.locs, Pt.cells, Pt.slots] at X59 l59 y59 z59 st59 hQ59
    replace y59 : kx59 = 18 := y59
    replace z59 : nx59 = 117 := z59
    subst y59 z59
    obtain ⟨rfl, Nq59, hs59, F_r_59⟩ := hQ59
    have NN : Fr n0 Lx59 := by rw [l59]; exact Fr.app NN Nq59
    have F_r_59 : own_S Z h58 (pfz_49.getD ((1 : Int32)).toNatClampNeg .null) ((own_r0 nn).getD ((1 : Int32)).toNatClampNeg none) := hs59 ▸ F_r_59
    have pre : ∀ τ, Steps p.tables e below (T59.setTop (mkF m 152 #[.val (.int p1), .val (.int p2), .val (.int p3), .val (.int p4), .val (.int p5), .val (.int p6), .val (.int nn), .val (.ref b1), .val (.int (1 : Int32)), .val (.int (1 : Int32))] [(pfz_49.getD ((1 : Int32)).toNatClampNeg .null), (.ref as58)])) τ → G τ := fun τ κ => pre τ (st59.trans κ)
    obtain ⟨cq60, kq60, q60a, q60b, q60c⟩ := isOf hZ hs59 (own_S_exa F_s58)
    obtain ⟨_, _, ⟨T60, Lx60, kx60, nx60⟩, -, X60, ⟨Lc60, hQ60, l60, y60, z60⟩, st60⟩ := X59.virtualBack hx (y := (⟨"java/lang/String", "equals", "(Ljava/lang/Object;)Z"⟩ : MethodName)) (z := (⟨"java/lang/String", "equals", "(Ljava/lang/Object;)Z"⟩ : MethodName)) hown (mvT hZ (hw _ (List.mem_of_getElem? (i := 94) rfl))) (mvT hZ (hw _ (List.mem_of_getElem? (i := 71) rfl))) (notFace_of_selects (args := #[]) (mvT hZ (hw _ (List.mem_of_getElem? (i := 73) rfl)))) (mvT hZ (hw _ (List.mem_of_getElem? (i := 73) rfl))) (mvT hZ (hw _ (List.mem_of_getElem? (i := 72) rfl))) (by decide) (backOf (W := 0) (rm12 l Z a0 hw [] as58 (pfz_49.getD ((1 : Int32)).toNatClampNeg .null) [(.int (120 : Int32)), (.int (109 : Int32)), (.int (108 : Int32))] ((own_r0 nn).getD ((1 : Int32)).toNatClampNeg none) cw h58 n0 Zn F_s58 F_r_59 S_c hcw) hZ (hw _ (List.mem_of_getElem? (i := 74) rfl)) (hw _ (List.mem_of_getElem? (i := 28) rfl)) (by decide) (by decide)) q60a q60c (g := (mkF m 152 #[.val (.int p1), .val (.int p2), .val (.int p3), .val (.int p4), .val (.int p5), .val (.int p6), .val (.int nn), .val (.ref b1), .val (.int (1 : Int32)), .val (.int (1 : Int32))] [(pfz_49.getD ((1 : Int32)).toNatClampNeg .null), (.ref as58)])) rfl (by rw [hml]; rfl) (Steps.refl _) (argsL := [(pfz_49.getD ((1 : Int32)).toNatClampNeg .null)]) (rest := []) (lenOf pd_2 rfl) rfl (by show 2 * 0 + _ ≤ _; exact Nat.le_of_eq rfl) (hb hby at_152) (fun _ _ => ⟨rfl, hs59, (by decide : 18 + 0 ≤ _), (by decide : 117 + 0 ≤ _)⟩)
    dsimp only [Pt.U, Pt.locs, Pt.cells, Pt.slots] at X60 l60 y60 z60 st60 hQ60
    replace y60 : kx60 = 18 := y60
    replace z60 : nx60 = 117 := z60
    subst y60 z60
    obtain ⟨rfl, Nq60, hs60⟩ := hQ60
    have NN : Fr n0 Lx60 := by rw [l60]; exact Fr.app NN Nq60
    have pre : ∀ τ, Steps p.tables e below (T60.setTop (mkF m 155 #[.val (.int p1), .val (.int p2), .val (.int p3), .val (.int p4), .val (.int p5), .val (.int p6), .val (.int nn), .val (.ref b1), .val (.int (1 : Int32)), .val (.int (1 : Int32))] [(.int (own_eqt [(.int (120 : Int32)), (.int (109 : Int32)), (.int (108 : Int32))] ((own_r0 nn).getD ((1 : Int32)).toNatClampNeg none)))])) τ → G τ := fun τ κ => pre τ (st60.trans κ)
    have hc61 : ¬ ((own_eqt [(.int (120 : Int32)), (.int (109 : Int32)), (.int (108 : Int32))] ((own_r0 nn).getD ((1 : Int32)).toNatClampNeg none)) = (0 : Int32)) := (own_eqt1 (own_r01 N5.1))
    have pre : ∀ τ, Steps p.tables e below (T60.setTop (mkF m 165 #[.val (.int p1), .val (.int p2), .val (.int p3), .val (.int p4), .val (.int p5), .val (.int p6), .val (.int nn), .val (.ref b1), .val (.int (1 : Int32)), .val (.int (1 : Int32))] [])) τ → G τ := fun τ κ => pre τ (by
      refine XS.ifNo X60.here hx rfl (hb hby at_155) rfl ((if0 _ _).trans (feq hc61).1) ?_
      show Steps p.tables e below (T60.setTop (mkF m 158 #[.val (.int p1), .val (.int p2), .val (.int p3), .val (.int p4), .val (.int p5), .val (.int p6), .val (.int nn), .val (.ref b1), .val (.int (1 : Int32)), .val (.int (1 : Int32))] [])) τ
      refine XS.iconst X60.here hx rfl (hb hby at_158) ?_
      show Steps p.tables e below (T60.setTop (mkF m 159 #[.val (.int p1), .val (.int p2), .val (.int p3), .val (.int p4), .val (.int p5), .val (.int p6), .val (.int nn), .val (.ref b1), .val (.int (1 : Int32)), .val (.int (1 : Int32))] [(.int (1 : Int32))])) τ
      refine XS.goto X60.here hx rfl (pc0 := 159) (pc' := 163) rfl (hb hby at_159) (by decide) (by decide) ?_
      show Steps p.tables e below (T60.setTop (mkF m 163 #[.val (.int p1), .val (.int p2), .val (.int p3), .val (.int p4), .val (.int p5), .val (.int p6), .val (.int nn), .val (.ref b1), .val (.int (1 : Int32)), .val (.int (1 : Int32))] [(.int (1 : Int32))])) τ
      refine XS.istore X60.here hx rfl (hb hby at_163) rfl (l' := #[.val (.int p1), .val (.int p2), .val (.int p3), .val (.int p4), .val (.int p5), .val (.int p6), .val (.int nn), .val (.ref b1), .val (.int (1 : Int32)), .val (.int (1 : Int32))]) rfl ?_
      show Steps p.tables e below (T60.setTop (mkF m 165 #[.val (.int p1), .val (.int p2), .val (.int p3), .val (.int p4), .val (.int p5), .val (.int p6), .val (.int nn), .val (.ref b1), .val (.int (1 : Int32)), .val (.int (1 : Int32))] [])) τ
      exact κ)
    rcases (show nn = 2 ∨ nn = 3 ∨ nn = 4 ∨ nn = 5 by exact own_r5 N5) with hk_nn | hk_nn | hk_nn | hk_nn
    ·
      have pre : ∀ τ, Steps p.tables e below (T60.setTop (mkF m 165 #[.val (.int p1), .val (.int p2), .val (.int p3), .val (.int p4), .val (.int p5), .val (.int p6), .val (.int (2 : Int32)), .val (.ref b1), .val (.int (1 : Int32)), .val (.int (1 : Int32))] [])) τ → G τ := (show nn = (2 : Int32) from hk_nn) ▸ pre
      have pre : ∀ τ, Steps p.tables e below (T60.setTop (mkF m 168 #[.val (.int p1), .val (.int p2), .val (.int p3), .val (.int p4), .val (.int p5), .val (.int p6), .val (.int (2 : Int32)), .val (.ref b1), .val (.int (1 : Int32)), .val (.int (1 : Int32))] [(.int (2 : Int32)), (.int (2 : Int32))])) τ → G τ := fun τ κ => pre τ (by
        refine XS.iload X60.here hx rfl (hb hby at_165) rfl ?_
        show Steps p.tables e below (T60.setTop (mkF m 167 #[.val (.int p1), .val (.int p2), .val (.int p3), .val (.int p4), .val (.int p5), .val (.int p6), .val (.int (2 : Int32)), .val (.ref b1), .val (.int (1 : Int32)), .val (.int (1 : Int32))] [(.int (2 : Int32))])) τ
        refine XS.iconst X60.here hx rfl (hb hby at_167) ?_
        show Steps p.tables e below (T60.setTop (mkF m 168 #[.val (.int p1), .val (.int p2), .val (.int p3), .val (.int p4), .val (.int p5), .val (.int p6), .val (.int (2 : Int32)), .val (.ref b1), .val (.int (1 : Int32)), .val (.int (1 : Int32))] [(.int (2 : Int32)), (.int (2 : Int32))])) τ
        exact κ)
      have hc62 : ¬ ((2 : Int32) < (2 : Int32)) := (by decide)
      have pre : ∀ τ, Steps p.tables e below (T60.setTop (mkF m 195 #[.val (.int p1), .val (.int p2), .val (.int p3), .val (.int p4), .val (.int p5), .val (.int p6), .val (.int (2 : Int32)), .val (.ref b1), .val (.int (1 : Int32)), .val (.int (1 : Int32))] [(.int (3 : Int32)), (.int (2 : Int32))])) τ → G τ := fun τ κ => pre τ (by
        refine XS.icmpYes X60.here hx rfl (pc0 := 168) (pc' := 192) rfl (hb hby at_168) rfl (flt hc62).2.2.2 (by decide) (by decide) ?_
        show Steps p.tables e below (T60.setTop (mkF m 192 #[.val (.int p1), .val (.int p2), .val (.int p3), .val (.int p4), .val (.int p5), .val (.int p6), .val (.int (2 : Int32)), .val (.ref b1), .val (.int (1 : Int32)), .val (.int (1 : Int32))] [])) τ
        refine XS.iload X60.here hx rfl (hb hby at_192) rfl ?_
        show Steps p.tables e below (T60.setTop (mkF m 194 #[.val (.int p1), .val (.int p2), .val (.int p3), .val (.int p4), .val (.int p5), .val (.int p6), .val (.int (2 : Int32)), .val (.ref b1), .val (.int (1 : Int32)), .val (.int (1 : Int32))] [(.int (2 : Int32))])) τ
        refine XS.iconst X60.here hx rfl (hb hby at_194) ?_
        show Steps p.tables e below (T60.setTop (mkF m 195 #[.val (.int p1), .val (.int p2), .val (.int p3), .val (.int p4), .val (.int p5), .val (.int p6), .val (.int (2 : Int32)), .val (.ref b1), .val (.int (1 : Int32)), .val (.int (1 : Int32))] [(.int (3 : Int32)), (.int (2 : Int32))])) τ
        exact κ)
      have hc63 : ¬ ((3 : Int32) < (2 : Int32)) := (by decide)
      have pre : ∀ τ, Steps p.tables e below (T60.setTop (mkF m 222 #[.val (.int p1), .val (.int p2), .val (.int p3), .val (.int p4), .val (.int p5), .val (.int p6), .val (.int (2 : Int32)), .val (.ref b1), .val (.int (1 : Int32)), .val (.int (1 : Int32))] [(.int (4 : Int32)), (.int (2 : Int32))])) τ → G τ := fun τ κ => pre τ (by
        refine XS.icmpYes X60.here hx rfl (pc0 := 195) (pc' := 219) rfl (hb hby at_195) rfl (flt hc63).2.2.2 (by decide) (by decide) ?_
        show Steps p.tables e below (T60.setTop (mkF m 219 #[.val (.int p1), .val (.int p2), .val (.int p3), .val (.int p4), .val (.int p5), .val (.int p6), .val (.int (2 : Int32)), .val (.ref b1), .val (.int (1 : Int32)), .val (.int (1 : Int32))] [])) τ
        refine XS.iload X60.here hx rfl (hb hby at_219) rfl ?_
        show Steps p.tables e below (T60.setTop (mkF m 221 #[.val (.int p1), .val (.int p2), .val (.int p3), .val (.int p4), .val (.int p5), .val (.int p6), .val (.int (2 : Int32)), .val (.ref b1), .val (.int (1 : Int32)), .val (.int (1 : Int32))] [(.int (2 : Int32))])) τ
        refine XS.iconst X60.here hx rfl (hb hby at_221) ?_
        show Steps p.tables e below (T60.setTop (mkF m 222 #[.val (.int p1), .val (.int p2), .val (.int p3), .val (.int p4), .val (.int p5), .val (.int p6), .val (.int (2 : Int32)), .val (.ref b1), .val (.int (1 : Int32)), .val (.int (1 : Int32))] [(.int (4 : Int32)), (.int (2 : Int32))])) τ
        exact κ)
      have hc64 : ¬ ((4 : Int32) < (2 : Int32)) := (by decide)
      have pre : ∀ τ, Steps p.tables e below (T60.setTop (mkF m 248 #[.val (.int p1), .val (.int p2), .val (.int p3), .val (.int p4), .val (.int p5), .val (.int p6), .val (.int (2 : Int32)), .val (.ref b1), .val (.int (1 : Int32)), .val (.int (1 : Int32))] [(.int (1 : Int32))])) τ → G τ := fun τ κ => pre τ (by
        refine XS.icmpYes X60.here hx rfl (pc0 := 222) (pc' := 246) rfl (hb hby at_222) rfl (flt hc64).2.2.2 (by decide) (by decide) ?_
        show Steps p.tables e below (T60.setTop (mkF m 246 #[.val (.int p1), .val (.int p2), .val (.int p3), .val (.int p4), .val (.int p5), .val (.int p6), .val (.int (2 : Int32)), .val (.ref b1), .val (.int (1 : Int32)), .val (.int (1 : Int32))] [])) τ
        refine XS.iload X60.here hx rfl (hb hby at_246) rfl ?_
        show Steps p.tables e below (T60.setTop (mkF m 248 #[.val (.int p1), .val (.int p2), .val (.int p3), .val (.int p4), .val (.int p5), .val (.int p6), .val (.int (2 : Int32)), .val (.ref b1), .val (.int (1 : Int32)), .val (.int (1 : Int32))] [(.int (1 : Int32))])) τ
        exact κ)
      have hkT := Nat.le_trans hk (Nat.le_of_eq (congrArg Array.size (Eq.symm hs60)))
      obtain ⟨fsα, hr, hrun, hended, hRE⟩ := X60.leaveW hS hkT (v := some (.int (1 : Int32))) (fun h => by rw [Bd.returns] at h; cases h)
      refine hGL ⟨_, _, hG _ (pre _ ?_), hrun, hended, _, _, rfl, ?_, ?_, ⟨_, rfl⟩, hRE.2.1, hRE.2.2.1, hRE.2.2.2.mono (by decide) (by decide)⟩
      · exact retN X60 hx (t := .boolean) Bd.returns (by simp) (hb hby at_248) hr
      · show Q0 Z p1 p2 p3 p4 p5 p6 cw h0 n0 _ T60.heap _
        rw [hs60]
        exact ⟨rfl, NN⟩
      · show CHr Z own_EL s.vm s.heap T60.vm T60.heap
        rw [hh, hs60]
        exact HR.trans (CHv.at X60 hZ hEL H)
    ·
      have pre : ∀ τ, Steps p.tables e below (T60.setTop (mkF m 165 #[.val (.int p1), .val (.int p2), .val (.int p3), .val (.int p4), .val (.int p5), .val (.int p6), .val (.int (3 : Int32)), .val (.ref b1), .val (.int (1 : Int32)), .val (.int (1 : Int32))] [])) τ → G τ := (show nn = (3 : Int32) from hk_nn) ▸ pre
      have pre : ∀ τ, Steps p.tables e below (T60.setTop (mkF m 168 #[.val (.int p1), .val (.int p2), .val (.int p3), .val (.int p4), .val (.int p5), .val (.int p6), .val (.int (3 : Int32)), .val (.ref b1), .val (.int (1 : Int32)), .val (.int (1 : Int32))] [(.int (2 : Int32)), (.int (3 : Int32))])) τ → G τ := fun τ κ => pre τ (by
        refine XS.iload X60.here hx rfl (hb hby at_165) rfl ?_
        show Steps p.tables e below (T60.setTop (mkF m 167 #[.val (.int p1), .val (.int p2), .val (.int p3), .val (.int p4), .val (.int p5), .val (.int p6), .val (.int (3 : Int32)), .val (.ref b1), .val (.int (1 : Int32)), .val (.int (1 : Int32))] [(.int (3 : Int32))])) τ
        refine XS.iconst X60.here hx rfl (hb hby at_167) ?_
        show Steps p.tables e below (T60.setTop (mkF m 168 #[.val (.int p1), .val (.int p2), .val (.int p3), .val (.int p4), .val (.int p5), .val (.int p6), .val (.int (3 : Int32)), .val (.ref b1), .val (.int (1 : Int32)), .val (.int (1 : Int32))] [(.int (2 : Int32)), (.int (3 : Int32))])) τ
        exact κ)
      have hc65 : (2 : Int32) < (3 : Int32) := (by decide)
      have pre : ∀ τ, Steps p.tables e below (T60.setTop (mkF m 173 #[.val (.int p1), .val (.int p2), .val (.int p3), .val (.int p4), .val (.int p5), .val (.int p6), .val (.int (3 : Int32)), .val (.ref b1), .val (.int (1 : Int32)), .val (.int (1 : Int32))] [(.int (1 : Int32))])) τ → G τ := fun τ κ => pre τ (by
        refine XS.icmpNo X60.here hx rfl (hb hby at_168) rfl (tlt hc65).2.2.2 ?_
        show Steps p.tables e below (T60.setTop (mkF m 171 #[.val (.int p1), .val (.int p2), .val (.int p3), .val (.int p4), .val (.int p5), .val (.int p6), .val (.int (3 : Int32)), .val (.ref b1), .val (.int (1 : Int32)), .val (.int (1 : Int32))] [])) τ
        refine XS.iload X60.here hx rfl (hb hby at_171) rfl ?_
        show Steps p.tables e below (T60.setTop (mkF m 173 #[.val (.int p1), .val (.int p2), .val (.int p3), .val (.int p4), .val (.int p5), .val (.int p6), .val (.int (3 : Int32)), .val (.ref b1), .val (.int (1 : Int32)), .val (.int (1 : Int32))] [(.int (1 : Int32))])) τ
        exact κ)
      have hc66 : ¬ ((1 : Int32) = (0 : Int32)) := (by decide)
      have pre : ∀ τ, Steps p.tables e below (T60.setTop (mkF m 179 #[.val (.int p1), .val (.int p2), .val (.int p3), .val (.int p4), .val (.int p5), .val (.int p6), .val (.int (3 : Int32)), .val (.ref b1), .val (.int (1 : Int32)), .val (.int (1 : Int32))] [(.int (2 : Int32)), (.ref b1)])) τ → G τ := fun τ κ => pre τ (by
        refine XS.ifNo X60.here hx rfl (hb hby at_173) rfl ((if0 _ _).trans (feq hc66).1) ?_
        show Steps p.tables e below (T60.setTop (mkF m 176 #[.val (.int p1), .val (.int p2), .val (.int p3), .val (.int p4), .val (.int p5), .val (.int p6), .val (.int (3 : Int32)), .val (.ref b1), .val (.int (1 : Int32)), .val (.int (1 : Int32))] [])) τ
        refine XS.aload X60.here hx rfl (hb hby at_176) rfl rfl ?_
        show Steps p.tables e below (T60.setTop (mkF m 178 #[.val (.int p1), .val (.int p2), .val (.int p3), .val (.int p4), .val (.int p5), .val (.int p6), .val (.int (3 : Int32)), .val (.ref b1), .val (.int (1 : Int32)), .val (.int (1 : Int32))] [(.ref b1)])) τ
        refine XS.iconst X60.here hx rfl (hb hby at_178) ?_
        show Steps p.tables e below (T60.setTop (mkF m 179 #[.val (.int p1), .val (.int p2), .val (.int p3), .val (.int p4), .val (.int p5), .val (.int p6), .val (.int (3 : Int32)), .val (.ref b1), .val (.int (1 : Int32)), .val (.int (1 : Int32))] [(.int (2 : Int32)), (.ref b1)])) τ
        exact κ)
      obtain ⟨cq67, kq67, q67a, q67b, q67c⟩ := isOf hZ hs60 E_b1
      obtain ⟨_, _, ⟨T67, Lx67, kx67, nx67⟩, -, X67, ⟨Lc67, hQ67, l67, y67, z67⟩, st67⟩ := X60.virtualBack hx (y := (⟨"coppice/marshal/context/NamespaceScope", "prefix", "(I)Ljava/lang/String;"⟩ : MethodName)) (z := (⟨"coppice/marshal/context/NamespaceScope", "prefix", "(I)Ljava/lang/String;"⟩ : MethodName)) hown (mvT hZ (hw _ (List.mem_of_getElem? (i := 89) rfl))) (mvT hZ (hw _ (List.mem_of_getElem? (i := 90) rfl))) (notFace_of_selects (args := #[]) (mvT hZ (hw _ (List.mem_of_getElem? (i := 92) rfl)))) (mvT hZ (hw _ (List.mem_of_getElem? (i := 92) rfl))) (mvT hZ (hw _ (List.mem_of_getElem? (i := 91) rfl))) (by decide) (backOf (W := 0) (rm16 l Z a0 hw [] b1 (2 : Int32) pf_2 kf_2 nn pfz_49 (own_r0 nn) h58 n0 Zn F_pf_49 V_pf_49 L_pf_49 ⟨by decide, by rw [hk_nn]; decide⟩) hZ (hw _ (List.mem_of_getElem? (i := 93) rfl)) (hw _ (List.mem_of_getElem? (i := 2) rfl)) (by decide) (by decide)) q67a q67c (g := (mkF m 179 #[.val (.int p1), .val (.int p2), .val (.int p3), .val (.int p4), .val (.int p5), .val (.int p6), .val (.int (3 : Int32)), .val (.ref b1), .val (.int (1 : Int32)), .val (.int (1 : Int32))] [(.int (2 : Int32)), (.ref b1)])) rfl (by rw [hml]; rfl) (Steps.refl _) (argsL := [(.int (2 : Int32))]) (rest := []) (lenOf pd_11 rfl) rfl (by show 2 * 0 + _ ≤ _; exact Nat.le_of_eq rfl) (hb hby at_179) (fun _ _ => ⟨rfl, hs60, (by decide : 18 + 0 ≤ _), (by decide : 117 + 0 ≤ _)⟩)
      dsimp only [Pt.U, Pt.locs, Pt.cells, Pt.slots] at X67 l67 y67 z67 st67 hQ67
      replace y67 : kx67 = 18 := y67
      replace z67 : nx67 = 117 := z67
      subst y67 z67
      obtain ⟨rfl, Nq67, hs67, F_r_67⟩ := hQ67
      have NN : Fr n0 Lx67 := by rw [l67]; exact Fr.app NN Nq67
      have F_r_67 : own_S Z h58 (pfz_49.getD ((2 : Int32)).toNatClampNeg .null) ((own_r0 nn).getD ((2 : Int32)).toNatClampNeg none) := hs67 ▸ F_r_67
      have pre : ∀ τ, Steps p.tables e below (T67.setTop (mkF m 182 #[.val (.int p1), .val (.int p2), .val (.int p3), .val (.int p4), .val (.int p5), .val (.int p6), .val (.int (3 : Int32)), .val (.ref b1), .val (.int (1 : Int32)), .val (.int (1 : Int32))] [(pfz_49.getD ((2 : Int32)).toNatClampNeg .null)])) τ → G τ := fun τ κ => pre τ (st67.trans κ)
      have hnul2 := own_S_none F_r_67 (own_r0n (by decide))
      have pre : ∀ τ, Steps p.tables e below (T67.setTop (mkF m 182 #[.val (.int p1), .val (.int p2), .val (.int p3), .val (.int p4), .val (.int p5), .val (.int p6), .val (.int (3 : Int32)), .val (.ref b1), .val (.int (1 : Int32)), .val (.int (1 : Int32))] [.null])) τ → G τ := by rw [hnul2] at pre; exact pre
      have pre : ∀ τ, Steps p.tables e below (T67.setTop (mkF m 195 #[.val (.int p1), .val (.int p2), .val (.int p3), .val (.int p4), .val (.int p5), .val (.int p6), .val (.int (3 : Int32)), .val (.ref b1), .val (.int (1 : Int32)), .val (.int (1 : Int32))] [(.int (3 : Int32)), (.int (3 : Int32))])) τ → G τ := fun τ κ => pre τ (by
        refine XS.ifnonnullNo X67.here hx rfl (hb hby at_182) rfl ?_
        show Steps p.tables e below (T67.setTop (mkF m 185 #[.val (.int p1), .val (.int p2), .val (.int p3), .val (.int p4), .val (.int p5), .val (.int p6), .val (.int (3 : Int32)), .val (.ref b1), .val (.int (1 : Int32)), .val (.int (1 : Int32))] [])) τ
        refine XS.iconst X67.here hx rfl (hb hby at_185) ?_
        show Steps p.tables e below (T67.setTop (mkF m 186 #[.val (.int p1), .val (.int p2), .val (.int p3), .val (.int p4), .val (.int p5), .val (.int p6), .val (.int (3 : Int32)), .val (.ref b1), .val (.int (1 : Int32)), .val (.int (1 : Int32))] [(.int (1 : Int32))])) τ
        refine XS.goto X67.here hx rfl (pc0 := 186) (pc' := 190) rfl (hb hby at_186) (by decide) (by decide) ?_
        show Steps p.tables e below (T67.setTop (mkF m 190 #[.val (.int p1), .val (.int p2), .val (.int p3), .val (.int p4), .val (.int p5), .val (.int p6), .val (.int (3 : Int32)), .val (.ref b1), .val (.int (1 : Int32)), .val (.int (1 : Int32))] [(.int (1 : Int32))])) τ
        refine XS.istore X67.here hx rfl (hb hby at_190) rfl (l' := #[.val (.int p1), .val (.int p2), .val (.int p3), .val (.int p4), .val (.int p5), .val (.int p6), .val (.int (3 : Int32)), .val (.ref b1), .val (.int (1 : Int32)), .val (.int (1 : Int32))]) rfl ?_
        show Steps p.tables e below (T67.setTop (mkF m 192 #[.val (.int p1), .val (.int p2), .val (.int p3), .val (.int p4), .val (.int p5), .val (.int p6), .val (.int (3 : Int32)), .val (.ref b1), .val (.int (1 : Int32)), .val (.int (1 : Int32))] [])) τ
        refine XS.iload X67.here hx rfl (hb hby at_192) rfl ?_
        show Steps p.tables e below (T67.setTop (mkF m 194 #[.val (.int p1), .val (.int p2), .val (.int p3), .val (.int p4), .val (.int p5), .val (.int p6), .val (.int (3 : Int32)), .val (.ref b1), .val (.int (1 : Int32)), .val (.int (1 : Int32))] [(.int (3 : Int32))])) τ
        refine XS.iconst X67.here hx rfl (hb hby at_194) ?_
        show Steps p.tables e below (T67.setTop (mkF m 195 #[.val (.int p1), .val (.int p2), .val (.int p3), .val (.int p4), .val (.int p5), .val (.int p6), .val (.int (3 : Int32)), .val (.ref b1), .val (.int (1 : Int32)), .val (.int (1 : Int32))] [(.int (3 : Int32)), (.int (3 : Int32))])) τ
        exact κ)
      have hc68 : ¬ ((3 : Int32) < (3 : Int32)) := (by decide)
      have pre : ∀ τ, Steps p.tables e below (T67.setTop (mkF m 222 #[.val (.int p1), .val (.int p2), .val (.int p3), .val (.int p4), .val (.int p5), .val (.int p6), .val (.int (3 : Int32)), .val (.ref b1), .val (.int (1 : Int32)), .val (.int (1 : Int32))] [(.int (4 : Int32)), (.int (3 : Int32))])) τ → G τ := fun τ κ => pre τ (by
        refine XS.icmpYes X67.here hx rfl (pc0 := 195) (pc' := 219) rfl (hb hby at_195) rfl (flt hc68).2.2.2 (by decide) (by decide) ?_
        show Steps p.tables e below (T67.setTop (mkF m 219 #[.val (.int p1), .val (.int p2), .val (.int p3), .val (.int p4), .val (.int p5), .val (.int p6), .val (.int (3 : Int32)), .val (.ref b1), .val (.int (1 : Int32)), .val (.int (1 : Int32))] [])) τ
        refine XS.iload X67.here hx rfl (hb hby at_219) rfl ?_
        show Steps p.tables e below (T67.setTop (mkF m 221 #[.val (.int p1), .val (.int p2), .val (.int p3), .val (.int p4), .val (.int p5), .val (.int p6), .val (.int (3 : Int32)), .val (.ref b1), .val (.int (1 : Int32)), .val (.int (1 : Int32))] [(.int (3 : Int32))])) τ
        refine XS.iconst X67.here hx rfl (hb hby at_221) ?_
        show Steps p.tables e below (T67.setTop (mkF m 222 #[.val (.int p1), .val (.int p2), .val (.int p3), .val (.int p4), .val (.int p5), .val (.int p6), .val (.int (3 : Int32)), .val (.ref b1), .val (.int (1 : Int32)), .val (.int (1 : Int32))] [(.int (4 : Int32)), (.int (3 : Int32))])) τ
        exact κ)
      have hc69 : ¬ ((4 : Int32) < (3 : Int32)) := (by decide)
      have pre : ∀ τ, Steps p.tables e below (T67.setTop (mkF m 248 #[.val (.int p1), .val (.int p2), .val (.int p3), .val (.int p4), .val (.int p5), .val (.int p6), .val (.int (3 : Int32)), .val (.ref b1), .val (.int (1 : Int32)), .val (.int (1 : Int32))] [(.int (1 : Int32))])) τ → G τ := fun τ κ => pre τ (by
        refine XS.icmpYes X67.here hx rfl (pc0 := 222) (pc' := 246) rfl (hb hby at_222) rfl (flt hc69).2.2.2 (by decide) (by decide) ?_
        show Steps p.tables e below (T67.setTop (mkF m 246 #[.val (.int p1), .val (.int p2), .val (.int p3), .val (.int p4), .val (.int p5), .val (.int p6), .val (.int (3 : Int32)), .val (.ref b1), .val (.int (1 : Int32)), .val (.int (1 : Int32))] [])) τ
        refine XS.iload X67.here hx rfl (hb hby at_246) rfl ?_
        show Steps p.tables e below (T67.setTop (mkF m 248 #[.val (.int p1), .val (.int p2), .val (.int p3), .val (.int p4), .val (.int p5), .val (.int p6), .val (.int (3 : Int32)), .val (.ref b1), .val (.int (1 : Int32)), .val (.int (1 : Int32))] [(.int (1 : Int32))])) τ
        exact κ)
      have hkT := Nat.le_trans hk (Nat.le_of_eq (congrArg Array.size (Eq.symm hs67)))
      obtain ⟨fsα, hr, hrun, hended, hRE⟩ := X67.leaveW hS hkT (v := some (.int (1 : Int32))) (fun h => by rw [Bd.returns] at h; cases h)
      refine hGL ⟨_, _, hG _ (pre _ ?_), hrun, hended, _, _, rfl, ?_, ?_, ⟨_, rfl⟩, hRE.2.1, hRE.2.2.1, hRE.2.2.2.mono (by decide) (by decide)⟩
      · exact retN X67 hx (t := .boolean) Bd.returns (by simp) (hb hby at_248) hr
      · show Q0 Z p1 p2 p3 p4 p5 p6 cw h0 n0 _ T67.heap _
        rw [hs67]
        exact ⟨rfl, NN⟩
      · show CHr Z own_EL s.vm s.heap T67.vm T67.heap
        rw [hh, hs67]
        exact HR.trans (CHv.at X67 hZ hEL H)
    ·
      have pre : ∀ τ, Steps p.tables e below (T60.setTop (mkF m 165 #[.val (.int p1), .val (.int p2), .val (.int p3), .val (.int p4), .val (.int p5), .val (.int p6), .val (.int (4 : Int32)), .val (.ref b1), .val (.int (1 : Int32)), .val (.int (1 : Int32))] [])) τ → G τ := (show nn = (4 : Int32) from hk_nn) ▸ pre
      have pre : ∀ τ, Steps p.tables e below (T60.setTop (mkF m 168 #[.val (.int p1), .val (.int p2), .val (.int p3), .val (.int p4), .val (.int p5), .val (.int p6), .val (.int (4 : Int32)), .val (.ref b1), .val (.int (1 : Int32)), .val (.int (1 : Int32))] [(.int (2 : Int32)), (.int (4 : Int32))])) τ → G τ := fun τ κ => pre τ (by
        refine XS.iload X60.here hx rfl (hb hby at_165) rfl ?_
        show Steps p.tables e below (T60.setTop (mkF m 167 #[.val (.int p1), .val (.int p2), .val (.int p3), .val (.int p4), .val (.int p5), .val (.int p6), .val (.int (4 : Int32)), .val (.ref b1), .val (.int (1 : Int32)), .val (.int (1 : Int32))] [(.int (4 : Int32))])) τ
        refine XS.iconst X60.here hx rfl (hb hby at_167) ?_
        show Steps p.tables e below (T60.setTop (mkF m 168 #[.val (.int p1), .val (.int p2), .val (.int p3), .val (.int p4), .val (.int p5), .val (.int p6), .val (.int (4 : Int32)), .val (.ref b1), .val (.int (1 : Int32)), .val (.int (1 : Int32))] [(.int (2 : Int32)), (.int (4 : Int32))])) τ
        exact κ)
      have hc70 : (2 : Int32) < (4 : Int32) := (by decide)
      have pre : ∀ τ, Steps p.tables e below (T60.setTop (mkF m 173 #[.val (.int p1), .val (.int p2), .val (.int p3), .val (.int p4), .val (.int p5), .val (.int p6), .val (.int (4 : Int32)), .val (.ref b1), .val (.int (1 : Int32)), .val (.int (1 : Int32))] [(.int (1 : Int32))])) τ → G τ := fun τ κ => pre τ (by
        refine XS.icmpNo X60.here hx rfl (hb hby at_168) rfl (tlt hc70).2.2.2 ?_
        show Steps p.tables e below (T60.setTop (mkF m 171 #[.val (.int p1), .val (.int p2), .val (.int p3), .val (.int p4), .val (.int p5), .val (.int p6), .val (.int (4 : Int32)), .val (.ref b1), .val (.int (1 : Int32)), .val (.int (1 : Int32))] [])) τ
        refine XS.iload X60.here hx rfl (hb hby at_171) rfl ?_
        show Steps p.tables e below (T60.setTop (mkF m 173 #[.val (.int p1), .val (.int p2), .val (.int p3), .val (.int p4), .val (.int p5), .val (.int p6), .val (.int (4 : Int32)), .val (.ref b1), .val (.int (1 : Int32)), .val (.int (1 : Int32))] [(.int (1 : Int32))])) τ
        exact κ)
      have hc71 : ¬ ((1 : Int32) = (0 : Int32)) := (by decide)
      have pre : ∀ τ, Steps p.tables e below (T60.setTop (mkF m 179 #[.val (.int p1), .val (.int p2), .val (.int p3), .val (.int p4), .val (.int p5), .val (.int p6), .val (.int (4 : Int32)), .val (.ref b1), .val (.int (1 : Int32)), .val (.int (1 : Int32))] [(.int (2 : Int32)), (.ref b1)])) τ → G τ := fun τ κ => pre τ (by
        refine XS.ifNo X60.here hx rfl (hb hby at_173) rfl ((if0 _ _).trans (feq hc71).1) ?_
        show Steps p.tables e below (T60.setTop (mkF m 176 #[.val (.int p1), .val (.int p2), .val (.int p3), .val (.int p4), .val (.int p5), .val (.int p6), .val (.int (4 : Int32)), .val (.ref b1), .val (.int (1 : Int32)), .val (.int (1 : Int32))] [])) τ
        refine XS.aload X60.here hx rfl (hb hby at_176) rfl rfl ?_
        show Steps p.tables e below (T60.setTop (mkF m 178 #[.val (.int p1), .val (.int p2), .val (.int p3), .val (.int p4), .val (.int p5), .val (.int p6), .val (.int (4 : Int32)), .val (.ref b1), .val (.int (1 : Int32)), .val (.int (1 : Int32))] [(.ref b1)])) τ
        refine XS.iconst X60.here hx rfl (hb hby at_178) ?_
        show Steps p.tables e below (T60.setTop (mkF m 179 #[.val (.int p1), .val (.int p2), .val (.int p3), .val (.int p4), .val (.int p5), .val (.int p6), .val (.int (4 : Int32)), .val (.ref b1), .val (.int (1 : Int32)), .val (.int (1 : Int32))] [(.int (2 : Int32)), (.ref b1)])) τ
        exact κ)
      obtain ⟨cq72, kq72, q72a, q72b, q72c⟩ := isOf hZ hs60 E_b1
      obtain ⟨_, _, ⟨T72, Lx72, kx72, nx72⟩, -, X72, ⟨Lc72, hQ72, l72, y72, z72⟩, st72⟩ := X60.virtualBack hx (y := (⟨"coppice/marshal/context/NamespaceScope", "prefix", "(I)Ljava/lang/String;"⟩ : MethodName)) (z := (⟨"coppice/marshal/context/NamespaceScope", "prefix", "(I)Ljava/lang/String;"⟩ : MethodName)) hown (mvT hZ (hw _ (List.mem_of_getElem? (i := 89) rfl))) (mvT hZ (hw _ (List.mem_of_getElem? (i := 90) rfl))) (notFace_of_selects (args := #[]) (mvT hZ (hw _ (List.mem_of_getElem? (i := 92) rfl)))) (mvT hZ (hw _ (List.mem_of_getElem? (i := 92) rfl))) (mvT hZ (hw _ (List.mem_of_getElem? (i := 91) rfl))) (by decide) (backOf (W := 0) (rm16 l Z a0 hw [] b1 (2 : Int32) pf_2 kf_2 nn pfz_49 (own_r0 nn) h58 n0 Zn F_pf_49 V_pf_49 L_pf_49 ⟨by decide, by rw [hk_nn]; decide⟩) hZ (hw _ (List.mem_of_getElem? (i := 93) rfl)) (hw _ (List.mem_of_getElem? (i := 2) rfl)) (by decide) (by decide)) q72a q72c (g := (mkF m 179 #[.val (.int p1), .val (.int p2), .val (.int p3), .val (.int p4), .val (.int p5), .val (.int p6), .val (.int (4 : Int32)), .val (.ref b1), .val (.int (1 : Int32)), .val (.int (1 : Int32))] [(.int (2 : Int32)), (.ref b1)])) rfl (by rw [hml]; rfl) (Steps.refl _) (argsL := [(.int (2 : Int32))]) (rest := []) (lenOf pd_11 rfl) rfl (by show 2 * 0 + _ ≤ _; exact Nat.le_of_eq rfl) (hb hby at_179) (fun _ _ => ⟨rfl, hs60, (by decide : 18 + 0 ≤ _), (by decide : 117 + 0 ≤ _)⟩)
      dsimp only [Pt.U, Pt.locs, Pt.cells, Pt.slots] at X72 l72 y72 z72 st72 hQ72
      replace y72 : kx72 = 18 := y72
      replace z72 : nx72 = 117 := z72
      subst y72 z72
      obtain ⟨rfl, Nq72, hs72, F_r_72⟩ := hQ72
      have NN : Fr n0 Lx72 := by rw [l72]; exact Fr.app NN Nq72
      have F_r_72 : own_S Z h58 (pfz_49.getD ((2 : Int32)).toNatClampNeg .null) ((own_r0 nn).getD ((2 : Int32)).toNatClampNeg none) := hs72 ▸ F_r_72
      have pre : ∀ τ, Steps p.tables e below (T72.setTop (mkF m 182 #[.val (.int p1), .val (.int p2), .val (.int p3), .val (.int p4), .val (.int p5), .val (.int p6), .val (.int (4 : Int32)), .val (.ref b1), .val (.int (1 : Int32)), .val (.int (1 : Int32))] [(pfz_49.getD ((2 : Int32)).toNatClampNeg .null)])) τ → G τ := fun τ κ => pre τ (st72.trans κ)
      have hnul2 := own_S_none F_r_72 (own_r0n (by decide))
      have pre : ∀ τ, Steps p.tables e below (T72.setTop (mkF m 182 #[.val (.int p1), .val (.int p2), .val (.int p3), .val (.int p4), .val (.int p5), .val (.int p6), .val (.int (4 : Int32)), .val (.ref b1), .val (.int (1 : Int32)), .val (.int (1 : Int32))] [.null])) τ → G τ := by rw [hnul2] at pre; exact pre
      have pre : ∀ τ, Steps p.tables e below (T72.setTop (mkF m 195 #[.val (.int p1), .val (.int p2), .val (.int p3), .val (.int p4), .val (.int p5), .val (.int p6), .val (.int (4 : Int32)), .val (.ref b1), .val (.int (1 : Int32)), .val (.int (1 : Int32))] [(.int (3 : Int32)), (.int (4 : Int32))])) τ → G τ := fun τ κ => pre τ (by
        refine XS.ifnonnullNo X72.here hx rfl (hb hby at_182) rfl ?_
        show Steps p.tables e below (T72.setTop (mkF m 185 #[.val (.int p1), .val (.int p2), .val (.int p3), .val (.int p4), .val (.int p5), .val (.int p6), .val (.int (4 : Int32)), .val (.ref b1), .val (.int (1 : Int32)), .val (.int (1 : Int32))] [])) τ
        refine XS.iconst X72.here hx rfl (hb hby at_185) ?_
        show Steps p.tables e below (T72.setTop (mkF m 186 #[.val (.int p1), .val (.int p2), .val (.int p3), .val (.int p4), .val (.int p5), .val (.int p6), .val (.int (4 : Int32)), .val (.ref b1), .val (.int (1 : Int32)), .val (.int (1 : Int32))] [(.int (1 : Int32))])) τ
        refine XS.goto X72.here hx rfl (pc0 := 186) (pc' := 190) rfl (hb hby at_186) (by decide) (by decide) ?_
        show Steps p.tables e below (T72.setTop (mkF m 190 #[.val (.int p1), .val (.int p2), .val (.int p3), .val (.int p4), .val (.int p5), .val (.int p6), .val (.int (4 : Int32)), .val (.ref b1), .val (.int (1 : Int32)), .val (.int (1 : Int32))] [(.int (1 : Int32))])) τ
        refine XS.istore X72.here hx rfl (hb hby at_190) rfl (l' := #[.val (.int p1), .val (.int p2), .val (.int p3), .val (.int p4), .val (.int p5), .val (.int p6), .val (.int (4 : Int32)), .val (.ref b1), .val (.int (1 : Int32)), .val (.int (1 : Int32))]) rfl ?_
        show Steps p.tables e below (T72.setTop (mkF m 192 #[.val (.int p1), .val (.int p2), .val (.int p3), .val (.int p4), .val (.int p5), .val (.int p6), .val (.int (4 : Int32)), .val (.ref b1), .val (.int (1 : Int32)), .val (.int (1 : Int32))] [])) τ
        refine XS.iload X72.here hx rfl (hb hby at_192) rfl ?_
        show Steps p.tables e below (T72.setTop (mkF m 194 #[.val (.int p1), .val (.int p2), .val (.int p3), .val (.int p4), .val (.int p5), .val (.int p6), .val (.int (4 : Int32)), .val (.ref b1), .val (.int (1 : Int32)), .val (.int (1 : Int32))] [(.int (4 : Int32))])) τ
        refine XS.iconst X72.here hx rfl (hb hby at_194) ?_
        show Steps p.tables e below (T72.setTop (mkF m 195 #[.val (.int p1), .val (.int p2), .val (.int p3), .val (.int p4), .val (.int p5), .val (.int p6), .val (.int (4 : Int32)), .val (.ref b1), .val (.int (1 : Int32)), .val (.int (1 : Int32))] [(.int (3 : Int32)), (.int (4 : Int32))])) τ
        exact κ)
      have hc73 : (3 : Int32) < (4 : Int32) := (by decide)
      have pre : ∀ τ, Steps p.tables e below (T72.setTop (mkF m 200 #[.val (.int p1), .val (.int p2), .val (.int p3), .val (.int p4), .val (.int p5), .val (.int p6), .val (.int (4 : Int32)), .val (.ref b1), .val (.int (1 : Int32)), .val (.int (1 : Int32))] [(.int (1 : Int32))])) τ → G τ := fun τ κ => pre τ (by
        refine XS.icmpNo X72.here hx rfl (hb hby at_195) rfl (tlt hc73).2.2.2 ?_
        show Steps p.tables e below (T72.setTop (mkF m 198 #[.val (.int p1), .val (.int p2), .val (.int p3), .val (.int p4), .val (.int p5), .val (.int p6), .val (.int (4 : Int32)), .val (.ref b1), .val (.int (1 : Int32)), .val (.int (1 : Int32))] [])) τ
        refine XS.iload X72.here hx rfl (hb hby at_198) rfl ?_
        show Steps p.tables e below (T72.setTop (mkF m 200 #[.val (.int p1), .val (.int p2), .val (.int p3), .val (.int p4), .val (.int p5), .val (.int p6), .val (.int (4 : Int32)), .val (.ref b1), .val (.int (1 : Int32)), .val (.int (1 : Int32))] [(.int (1 : Int32))])) τ
        exact κ)
      have hc74 : ¬ ((1 : Int32) = (0 : Int32)) := (by decide)
      have pre : ∀ τ, Steps p.tables e below (T72.setTop (mkF m 206 #[.val (.int p1), .val (.int p2), .val (.int p3), .val (.int p4), .val (.int p5), .val (.int p6), .val (.int (4 : Int32)), .val (.ref b1), .val (.int (1 : Int32)), .val (.int (1 : Int32))] [(.int (3 : Int32)), (.ref b1)])) τ → G τ := fun τ κ => pre τ (by
        refine XS.ifNo X72.here hx rfl (hb hby at_200) rfl ((if0 _ _).trans (feq hc74).1) ?_
        show Steps p.tables e below (T72.setTop (mkF m 203 #[.val (.int p1), .val (.int p2), .val (.int p3), .val (.int p4), .val (.int p5), .val (.int p6), .val (.int (4 : Int32)), .val (.ref b1), .val (.int (1 : Int32)), .val (.int (1 : Int32))] [])) τ
        refine XS.aload X72.here hx rfl (hb hby at_203) rfl rfl ?_
        show Steps p.tables e below (T72.setTop (mkF m 205 #[.val (.int p1), .val (.int p2), .val (.int p3), .val (.int p4), .val (.int p5), .val (.int p6), .val (.int (4 : Int32)), .val (.ref b1), .val (.int (1 : Int32)), .val (.int (1 : Int32))] [(.ref b1)])) τ
        refine XS.iconst X72.here hx rfl (hb hby at_205) ?_
        show Steps p.tables e below (T72.setTop (mkF m 206 #[.val (.int p1), .val (.int p2), .val (.int p3), .val (.int p4), .val (.int p5), .val (.int p6), .val (.int (4 : Int32)), .val (.ref b1), .val (.int (1 : Int32)), .val (.int (1 : Int32))] [(.int (3 : Int32)), (.ref b1)])) τ
        exact κ)
      obtain ⟨cq75, kq75, q75a, q75b, q75c⟩ := isOf hZ hs72 E_b1
      obtain ⟨_, _, ⟨T75, Lx75, kx75, nx75⟩, -, X75, ⟨Lc75, hQ75, l75, y75, z75⟩, st75⟩ := X72.virtualBack hx (y := (⟨"coppice/marshal/context/NamespaceScope", "prefix", "(I)Ljava/lang/String;"⟩ : MethodName)) (z := (⟨"coppice/marshal/context/NamespaceScope", "prefix", "(I)Ljava/lang/String;"⟩ : MethodName)) hown (mvT hZ (hw _ (List.mem_of_getElem? (i := 89) rfl))) (mvT hZ (hw _ (List.mem_of_getElem? (i := 90) rfl))) (notFace_of_selects (args := #[]) (mvT hZ (hw _ (List.mem_of_getElem? (i := 92) rfl)))) (mvT hZ (hw _ (List.mem_of_getElem? (i := 92) rfl))) (mvT hZ (hw _ (List.mem_of_getElem? (i := 91) rfl))) (by decide) (backOf (W := 0) (rm16 l Z a0 hw [] b1 (3 : Int32) pf_2 kf_2 nn pfz_49 (own_r0 nn) h58 n0 Zn F_pf_49 V_pf_49 L_pf_49 ⟨by decide, by rw [hk_nn]; decide⟩) hZ (hw _ (List.mem_of_getElem? (i := 93) rfl)) (hw _ (List.mem_of_getElem? (i := 2) rfl)) (by decide) (by decide)) q75a q75c (g := (mkF m 206 #[.val (.int p1), .val (.int p2), .val (.int p3), .val (.int p4), .val (.int p5), .val (.int p6), .val (.int (4 : Int32)), .val (.ref b1), .val (.int (1 : Int32)), .val (.int (1 : Int32))] [(.int (3 : Int32)), (.ref b1)])) rfl (by rw [hml]; rfl) (Steps.refl _) (argsL := [(.int (3 : Int32))]) (rest := []) (lenOf pd_11 rfl) rfl (by show 2 * 0 + _ ≤ _; exact Nat.le_of_eq rfl) (hb hby at_206) (fun _ _ => ⟨rfl, hs72, (by decide : 18 + 0 ≤ _), (by decide : 117 + 0 ≤ _)⟩)
      dsimp only [Pt.U, Pt.locs, Pt.cells, Pt.slots] at X75 l75 y75 z75 st75 hQ75
      replace y75 : kx75 = 18 := y75
      replace z75 : nx75 = 117 := z75
      subst y75 z75
      obtain ⟨rfl, Nq75, hs75, F_r_75⟩ := hQ75
      have NN : Fr n0 Lx75 := by rw [l75]; exact Fr.app NN Nq75
      have F_r_75 : own_S Z h58 (pfz_49.getD ((3 : Int32)).toNatClampNeg .null) ((own_r0 nn).getD ((3 : Int32)).toNatClampNeg none) := hs75 ▸ F_r_75
      have pre : ∀ τ, Steps p.tables e below (T75.setTop (mkF m 209 #[.val (.int p1), .val (.int p2), .val (.int p3), .val (.int p4), .val (.int p5), .val (.int p6), .val (.int (4 : Int32)), .val (.ref b1), .val (.int (1 : Int32)), .val (.int (1 : Int32))] [(pfz_49.getD ((3 : Int32)).toNatClampNeg .null)])) τ → G τ := fun τ κ => pre τ (st75.trans κ)
      have hnul3 := own_S_none F_r_75 (own_r0n (by decide))
      have pre : ∀ τ, Steps p.tables e below (T75.setTop (mkF m 209 #[.val (.int p1), .val (.int p2), .val (.int p3), .val (.int p4), .val (.int p5), .val (.int p6), .val (.int (4 : Int32)), .val (.ref b1), .val (.int (1 : Int32)), .val (.int (1 : Int32))] [.null])) τ → G τ := by rw [hnul3] at pre; exact pre
      have pre : ∀ τ, Steps p.tables e below (T75.setTop (mkF m 222 #[.val (.int p1), .val (.int p2), .val (.int p3), .val (.int p4), .val (.int p5), .val (.int p6), .val (.int (4 : Int32)), .val (.ref b1), .val (.int (1 : Int32)), .val (.int (1 : Int32))] [(.int (4 : Int32)), (.int (4 : Int32))])) τ → G τ := fun τ κ => pre τ (by
        refine XS.ifnonnullNo X75.here hx rfl (hb hby at_209) rfl ?_
        show Steps p.tables e below (T75.setTop (mkF m 212 #[.val (.int p1), .val (.int p2), .val (.int p3), .val (.int p4), .val (.int p5), .val (.int p6), .val (.int (4 : Int32)), .val (.ref b1), .val (.int (1 : Int32)), .val (.int (1 : Int32))] [])) τ
        refine XS.iconst X75.here hx rfl (hb hby at_212) ?_
        show Steps p.tables e below (T75.setTop (mkF m 213 #[.val (.int p1), .val (.int p2), .val (.int p3), .val (.int p4), .val (.int p5), .val (.int p6), .val (.int (4 : Int32)), .val (.ref b1), .val (.int (1 : Int32)), .val (.int (1 : Int32))] [(.int (1 : Int32))])) τ
        refine XS.goto X75.here hx rfl (pc0 := 213) (pc' := 217) rfl (hb hby at_213) (by decide) (by decide) ?_
        show Steps p.tables e below (T75.setTop (mkF m 217 #[.val (.int p1), .val (.int p2), .val (.int p3), .val (.int p4), .val (.int p5), .val (.int p6), .val (.int (4 : Int32)), .val (.ref b1), .val (.int (1 : Int32)), .val (.int (1 : Int32))] [(.int (1 : Int32))])) τ
        refine XS.istore X75.here hx rfl (hb hby at_217) rfl (l' := #[.val (.int p1), .val (.int p2), .val (.int p3), .val (.int p4), .val (.int p5), .val (.int p6), .val (.int (4 : Int32)), .val (.ref b1), .val (.int (1 : Int32)), .val (.int (1 : Int32))]) rfl ?_
        show Steps p.tables e below (T75.setTop (mkF m 219 #[.val (.int p1), .val (.int p2), .val (.int p3), .val (.int p4), .val (.int p5), .val (.int p6), .val (.int (4 : Int32)), .val (.ref b1), .val (.int (1 : Int32)), .val (.int (1 : Int32))] [])) τ
        refine XS.iload X75.here hx rfl (hb hby at_219) rfl ?_
        show Steps p.tables e below (T75.setTop (mkF m 221 #[.val (.int p1), .val (.int p2), .val (.int p3), .val (.int p4), .val (.int p5), .val (.int p6), .val (.int (4 : Int32)), .val (.ref b1), .val (.int (1 : Int32)), .val (.int (1 : Int32))] [(.int (4 : Int32))])) τ
        refine XS.iconst X75.here hx rfl (hb hby at_221) ?_
        show Steps p.tables e below (T75.setTop (mkF m 222 #[.val (.int p1), .val (.int p2), .val (.int p3), .val (.int p4), .val (.int p5), .val (.int p6), .val (.int (4 : Int32)), .val (.ref b1), .val (.int (1 : Int32)), .val (.int (1 : Int32))] [(.int (4 : Int32)), (.int (4 : Int32))])) τ
        exact κ)
      have hc76 : ¬ ((4 : Int32) < (4 : Int32)) := (by decide)
      have pre : ∀ τ, Steps p.tables e below (T75.setTop (mkF m 248 #[.val (.int p1), .val (.int p2), .val (.int p3), .val (.int p4), .val (.int p5), .val (.int p6), .val (.int (4 : Int32)), .val (.ref b1), .val (.int (1 : Int32)), .val (.int (1 : Int32))] [(.int (1 : Int32))])) τ → G τ := fun τ κ => pre τ (by
        refine XS.icmpYes X75.here hx rfl (pc0 := 222) (pc' := 246) rfl (hb hby at_222) rfl (flt hc76).2.2.2 (by decide) (by decide) ?_
        show Steps p.tables e below (T75.setTop (mkF m 246 #[.val (.int p1), .val (.int p2), .val (.int p3), .val (.int p4), .val (.int p5), .val (.int p6), .val (.int (4 : Int32)), .val (.ref b1), .val (.int (1 : Int32)), .val (.int (1 : Int32))] [])) τ
        refine XS.iload X75.here hx rfl (hb hby at_246) rfl ?_
        show Steps p.tables e below (T75.setTop (mkF m 248 #[.val (.int p1), .val (.int p2), .val (.int p3), .val (.int p4), .val (.int p5), .val (.int p6), .val (.int (4 : Int32)), .val (.ref b1), .val (.int (1 : Int32)), .val (.int (1 : Int32))] [(.int (1 : Int32))])) τ
        exact κ)
      have hkT := Nat.le_trans hk (Nat.le_of_eq (congrArg Array.size (Eq.symm hs75)))
      obtain ⟨fsα, hr, hrun, hended, hRE⟩ := X75.leaveW hS hkT (v := some (.int (1 : Int32))) (fun h => by rw [Bd.returns] at h; cases h)
      refine hGL ⟨_, _, hG _ (pre _ ?_), hrun, hended, _, _, rfl, ?_, ?_, ⟨_, rfl⟩, hRE.2.1, hRE.2.2.1, hRE.2.2.2.mono (by decide) (by decide)⟩
      · exact retN X75 hx (t := .boolean) Bd.returns (by simp) (hb hby at_248) hr
      · show Q0 Z p1 p2 p3 p4 p5 p6 cw h0 n0 _ T75.heap _
        rw [hs75]
        exact ⟨rfl, NN⟩
      · show CHr Z own_EL s.vm s.heap T75.vm T75.heap
        rw [hh, hs75]
        exact HR.trans (CHv.at X75 hZ hEL H)
    ·
      have pre : ∀ τ, Steps p.tables e below (T60.setTop (mkF m 165 #[.val (.int p1), .val (.int p2), .val (.int p3), .val (.int p4), .val (.int p5), .val (.int p6), .val (.int (5 : Int32)), .val (.ref b1), .val (.int (1 : Int32)), .val (.int (1 : Int32))] [])) τ → G τ := (show nn = (5 : Int32) from hk_nn) ▸ pre
      have pre : ∀ τ, Steps p.tables e below (T60.setTop (mkF m 168 #[.val (.int p1), .val (.int p2), .val (.int p3), .val (.int p4), .val (.int p5), .val (.int p6), .val (.int (5 : Int32)), .val (.ref b1), .val (.int (1 : Int32)), .val (.int (1 : Int32))] [(.int (2 : Int32)), (.int (5 : Int32))])) τ → G τ := fun τ κ => pre τ (by
        refine XS.iload X60.here hx rfl (hb hby at_165) rfl ?_
        show Steps p.tables e below (T60.setTop (mkF m 167 #[.val (.int p1), .val (.int p2), .val (.int p3), .val (.int p4), .val (.int p5), .val (.int p6), .val (.int (5 : Int32)), .val (.ref b1), .val (.int (1 : Int32)), .val (.int (1 : Int32))] [(.int (5 : Int32))])) τ
        refine XS.iconst X60.here hx rfl (hb hby at_167) ?_
        show Steps p.tables e below (T60.setTop (mkF m 168 #[.val (.int p1), .val (.int p2), .val (.int p3), .val (.int p4), .val (.int p5), .val (.int p6), .val (.int (5 : Int32)), .val (.ref b1), .val (.int (1 : Int32)), .val (.int (1 : Int32))] [(.int (2 : Int32)), (.int (5 : Int32))])) τ
        exact κ)
      have hc77 : (2 : Int32) < (5 : Int32) := (by decide)
      have pre : ∀ τ, Steps p.tables e below (T60.setTop (mkF m 173 #[.val (.int p1), .val (.int p2), .val (.int p3), .val (.int p4), .val (.int p5), .val (.int p6), .val (.int (5 : Int32)), .val (.ref b1), .val (.int (1 : Int32)), .val (.int (1 : Int32))] [(.int (1 : Int32))])) τ → G τ := fun τ κ => pre τ (by
        refine XS.icmpNo X60.here hx rfl (hb hby at_168) rfl (tlt hc77).2.2.2 ?_
        show Steps p.tables e below (T60.setTop (mkF m 171 #[.val (.int p1), .val (.int p2), .val (.int p3), .val (.int p4), .val (.int p5), .val (.int p6), .val (.int (5 : Int32)), .val (.ref b1), .val (.int (1 : Int32)), .val (.int (1 : Int32))] [])) τ
        refine XS.iload X60.here hx rfl (hb hby at_171) rfl ?_
        show Steps p.tables e below (T60.setTop (mkF m 173 #[.val (.int p1), .val (.int p2), .val (.int p3), .val (.int p4), .val (.int p5), .val (.int p6), .val (.int (5 : Int32)), .val (.ref b1), .val (.int (1 : Int32)), .val (.int (1 : Int32))] [(.int (1 : Int32))])) τ
        exact κ)
      have hc78 : ¬ ((1 : Int32) = (0 : Int32)) := (by decide)
      have pre : ∀ τ, Steps p.tables e below (T60.setTop (mkF m 179 #[.val (.int p1), .val (.int p2), .val (.int p3), .val (.int p4), .val (.int p5), .val (.int p6), .val (.int (5 : Int32)), .val (.ref b1), .val (.int (1 : Int32)), .val (.int (1 : Int32))] [(.int (2 : Int32)), (.ref b1)])) τ → G τ := fun τ κ => pre τ (by
        refine XS.ifNo X60.here hx rfl (hb hby at_173) rfl ((if0 _ _).trans (feq hc78).1) ?_
        show Steps p.tables e below (T60.setTop (mkF m 176 #[.val (.int p1), .val (.int p2), .val (.int p3), .val (.int p4), .val (.int p5), .val (.int p6), .val (.int (5 : Int32)), .val (.ref b1), .val (.int (1 : Int32)), .val (.int (1 : Int32))] [])) τ
        refine XS.aload X60.here hx rfl (hb hby at_176) rfl rfl ?_
        show Steps p.tables e below (T60.setTop (mkF m 178 #[.val (.int p1), .val (.int p2), .val (.int p3), .val (.int p4), .val (.int p5), .val (.int p6), .val (.int (5 : Int32)), .val (.ref b1), .val (.int (1 : Int32)), .val (.int (1 : Int32))] [(.ref b1)])) τ
        refine XS.iconst X60.here hx rfl (hb hby at_178) ?_
        show Steps p.tables e below (T60.setTop (mkF m 179 #[.val (.int p1), .val (.int p2), .val (.int p3), .val (.int p4), .val (.int p5), .val (.int p6), .val (.int (5 : Int32)), .val (.ref b1), .val (.int (1 : Int32)), .val (.int (1 : Int32))] [(.int (2 : Int32)), (.ref b1)])) τ
        exact κ)
      obtain ⟨cq79, kq79, q79a, q79b, q79c⟩ := isOf hZ hs60 E_b1
      obtain ⟨_, _, ⟨T79, Lx79, kx79, nx79⟩, -, X79, ⟨Lc79, hQ79, l79, y79, z79⟩, st79⟩ := X60.virtualBack hx (y := (⟨"coppice/marshal/context/NamespaceScope", "prefix", "(I)Ljava/lang/String;"⟩ : MethodName)) (z := (⟨"coppice/marshal/context/NamespaceScope", "prefix", "(I)Ljava/lang/String;"⟩ : MethodName)) hown (mvT hZ (hw _ (List.mem_of_getElem? (i := 89) rfl))) (mvT hZ (hw _ (List.mem_of_getElem? (i := 90) rfl))) (notFace_of_selects (args := #[]) (mvT hZ (hw _ (List.mem_of_getElem? (i := 92) rfl)))) (mvT hZ (hw _ (List.mem_of_getElem? (i := 92) rfl))) (mvT hZ (hw _ (List.mem_of_getElem? (i := 91) rfl))) (by decide) (backOf (W := 0) (rm16 l Z a0 hw [] b1 (2 : Int32) pf_2 kf_2 nn pfz_49 (own_r0 nn) h58 n0 Zn F_pf_49 V_pf_49 L_pf_49 ⟨by decide, by rw [hk_nn]; decide⟩) hZ (hw _ (List.mem_of_getElem? (i := 93) rfl)) (hw _ (List.mem_of_getElem? (i := 2) rfl)) (by decide) (by decide)) q79a q79c (g := (mkF m 179 #[.val (.int p1), .val (.int p2), .val (.int p3), .val (.int p4), .val (.int p5), .val (.int p6), .val (.int (5 : Int32)), .val (.ref b1), .val (.int (1 : Int32)), .val (.int (1 : Int32))] [(.int (2 : Int32)), (.ref b1)])) rfl (by rw [hml]; rfl) (Steps.refl _) (argsL := [(.int (2 : Int32))]) (rest := []) (lenOf pd_11 rfl) rfl (by show 2 * 0 + _ ≤ _; exact Nat.le_of_eq rfl) (hb hby at_179) (fun _ _ => ⟨rfl, hs60, (by decide : 18 + 0 ≤ _), (by decide : 117 + 0 ≤ _)⟩)
      dsimp only [Pt.U, Pt.locs, Pt.cells, Pt.slots] at X79 l79 y79 z79 st79 hQ79
      replace y79 : kx79 = 18 := y79
      replace z79 : nx79 = 117 := z79
      subst y79 z79
      obtain ⟨rfl, Nq79, hs79, F_r_79⟩ := hQ79
      have NN : Fr n0 Lx79 := by rw [l79]; exact Fr.app NN Nq79
      have F_r_79 : own_S Z h58 (pfz_49.getD ((2 : Int32)).toNatClampNeg .null) ((own_r0 nn).getD ((2 : Int32)).toNatClampNeg none) := hs79 ▸ F_r_79
      have pre : ∀ τ, Steps p.tables e below (T79.setTop (mkF m 182 #[.val (.int p1), .val (.int p2), .val (.int p3), .val (.int p4), .val (.int p5), .val (.int p6), .val (.int (5 : Int32)), .val (.ref b1), .val (.int (1 : Int32)), .val (.int (1 : Int32))] [(pfz_49.getD ((2 : Int32)).toNatClampNeg .null)])) τ → G τ := fun τ κ => pre τ (st79.trans κ)
      have hnul2 := own_S_none F_r_79 (own_r0n (by decide))
      have pre : ∀ τ, Steps p.tables e below (T79.setTop (mkF m 182 #[.val (.int p1), .val (.int p2), .val (.int p3), .val (.int p4), .val (.int p5), .val (.int p6), .val (.int (5 : Int32)), .val (.ref b1), .val (.int (1 : Int32)), .val (.int (1 : Int32))] [.null])) τ → G τ := by rw [hnul2] at pre; exact pre
      have pre : ∀ τ, Steps p.tables e below (T79.setTop (mkF m 195 #[.val (.int p1), .val (.int p2), .val (.int p3), .val (.int p4), .val (.int p5), .val (.int p6), .val (.int (5 : Int32)), .val (.ref b1), .val (.int (1 : Int32)), .val (.int (1 : Int32))] [(.int (3 : Int32)), (.int (5 : Int32))])) τ → G τ := fun τ κ => pre τ (by
        refine XS.ifnonnullNo X79.here hx rfl (hb hby at_182) rfl ?_
        show Steps p.tables e below (T79.setTop (mkF m 185 #[.val (.int p1), .val (.int p2), .val (.int p3), .val (.int p4), .val (.int p5), .val (.int p6), .val (.int (5 : Int32)), .val (.ref b1), .val (.int (1 : Int32)), .val (.int (1 : Int32))] [])) τ
        refine XS.iconst X79.here hx rfl (hb hby at_185) ?_
        show Steps p.tables e below (T79.setTop (mkF m 186 #[.val (.int p1), .val (.int p2), .val (.int p3), .val (.int p4), .val (.int p5), .val (.int p6), .val (.int (5 : Int32)), .val (.ref b1), .val (.int (1 : Int32)), .val (.int (1 : Int32))] [(.int (1 : Int32))])) τ
        refine XS.goto X79.here hx rfl (pc0 := 186) (pc' := 190) rfl (hb hby at_186) (by decide) (by decide) ?_
        show Steps p.tables e below (T79.setTop (mkF m 190 #[.val (.int p1), .val (.int p2), .val (.int p3), .val (.int p4), .val (.int p5), .val (.int p6), .val (.int (5 : Int32)), .val (.ref b1), .val (.int (1 : Int32)), .val (.int (1 : Int32))] [(.int (1 : Int32))])) τ
        refine XS.istore X79.here hx rfl (hb hby at_190) rfl (l' := #[.val (.int p1), .val (.int p2), .val (.int p3), .val (.int p4), .val (.int p5), .val (.int p6), .val (.int (5 : Int32)), .val (.ref b1), .val (.int (1 : Int32)), .val (.int (1 : Int32))]) rfl ?_
        show Steps p.tables e below (T79.setTop (mkF m 192 #[.val (.int p1), .val (.int p2), .val (.int p3), .val (.int p4), .val (.int p5), .val (.int p6), .val (.int (5 : Int32)), .val (.ref b1), .val (.int (1 : Int32)), .val (.int (1 : Int32))] [])) τ
        refine XS.iload X79.here hx rfl (hb hby at_192) rfl ?_
        show Steps p.tables e below (T79.setTop (mkF m 194 #[.val (.int p1), .val (.int p2), .val (.int p3), .val (.int p4), .val (.int p5), .val (.int p6), .val (.int (5 : Int32)), .val (.ref b1), .val (.int (1 : Int32)), .val (.int (1 : Int32))] [(.int (5 : Int32))])) τ
        refine XS.iconst X79.here hx rfl (hb hby at_194) ?_
        show Steps p.tables e below (T79.setTop (mkF m 195 #[.val (.int p1), .val (.int p2), .val (.int p3), .val (.int p4), .val (.int p5), .val (.int p6), .val (.int (5 : Int32)), .val (.ref b1), .val (.int (1 : Int32)), .val (.int (1 : Int32))] [(.int (3 : Int32)), (.int (5 : Int32))])) τ
        exact κ)
      have hc80 : (3 : Int32) < (5 : Int32) := (by decide)
      have pre : ∀ τ, Steps p.tables e below (T79.setTop (mkF m 200 #[.val (.int p1), .val (.int p2), .val (.int p3), .val (.int p4), .val (.int p5), .val (.int p6), .val (.int (5 : Int32)), .val (.ref b1), .val (.int (1 : Int32)), .val (.int (1 : Int32))] [(.int (1 : Int32))])) τ → G τ := fun τ κ => pre τ (by
        refine XS.icmpNo X79.here hx rfl (hb hby at_195) rfl (tlt hc80).2.2.2 ?_
        show Steps p.tables e below (T79.setTop (mkF m 198 #[.val (.int p1), .val (.int p2), .val (.int p3), .val (.int p4), .val (.int p5), .val (.int p6), .val (.int (5 : Int32)), .val (.ref b1), .val (.int (1 : Int32)), .val (.int (1 : Int32))] [])) τ
        refine XS.iload X79.here hx rfl (hb hby at_198) rfl ?_
        show Steps p.tables e below (T79.setTop (mkF m 200 #[.val (.int p1), .val (.int p2), .val (.int p3), .val (.int p4), .val (.int p5), .val (.int p6), .val (.int (5 : Int32)), .val (.ref b1), .val (.int (1 : Int32)), .val (.int (1 : Int32))] [(.int (1 : Int32))])) τ
        exact κ)
      have hc81 : ¬ ((1 : Int32) = (0 : Int32)) := (by decide)
      have pre : ∀ τ, Steps p.tables e below (T79.setTop (mkF m 206 #[.val (.int p1), .val (.int p2), .val (.int p3), .val (.int p4), .val (.int p5), .val (.int p6), .val (.int (5 : Int32)), .val (.ref b1), .val (.int (1 : Int32)), .val (.int (1 : Int32))] [(.int (3 : Int32)), (.ref b1)])) τ → G τ := fun τ κ => pre τ (by
        refine XS.ifNo X79.here hx rfl (hb hby at_200) rfl ((if0 _ _).trans (feq hc81).1) ?_
        show Steps p.tables e below (T79.setTop (mkF m 203 #[.val (.int p1), .val (.int p2), .val (.int p3), .val (.int p4), .val (.int p5), .val (.int p6), .val (.int (5 : Int32)), .val (.ref b1), .val (.int (1 : Int32)), .val (.int (1 : Int32))] [])) τ
        refine XS.aload X79.here hx rfl (hb hby at_203) rfl rfl ?_
        show Steps p.tables e below (T79.setTop (mkF m 205 #[.val (.int p1), .val (.int p2), .val (.int p3), .val (.int p4), .val (.int p5), .val (.int p6), .val (.int (5 : Int32)), .val (.ref b1), .val (.int (1 : Int32)), .val (.int (1 : Int32))] [(.ref b1)])) τ
        refine XS.iconst X79.here hx rfl (hb hby at_205) ?_
        show Steps p.tables e below (T79.setTop (mkF m 206 #[.val (.int p1), .val (.int p2), .val (.int p3), .val (.int p4), .val (.int p5), .val (.int p6), .val (.int (5 : Int32)), .val (.ref b1), .val (.int (1 : Int32)), .val (.int (1 : Int32))] [(.int (3 : Int32)), (.ref b1)])) τ
        exact κ)
      obtain ⟨cq82, kq82, q82a, q82b, q82c⟩ := isOf hZ hs79 E_b1
      obtain ⟨_, _, ⟨T82, Lx82, kx82, nx82⟩, -, X82, ⟨Lc82, hQ82, l82, y82, z82⟩, st82⟩ := X79.virtualBack hx (y := (⟨"coppice/marshal/context/NamespaceScope", "prefix", "(I)Ljava/lang/String;"⟩ : MethodName)) (z := (⟨"coppice/marshal/context/NamespaceScope", "prefix", "(I)Ljava/lang/String;"⟩ : MethodName)) hown (mvT hZ (hw _ (List.mem_of_getElem? (i := 89) rfl))) (mvT hZ (hw _ (List.mem_of_getElem? (i := 90) rfl))) (notFace_of_selects (args := #[]) (mvT hZ (hw _ (List.mem_of_getElem? (i := 92) rfl)))) (mvT hZ (hw _ (List.mem_of_getElem? (i := 92) rfl))) (mvT hZ (hw _ (List.mem_of_getElem? (i := 91) rfl))) (by decide) (backOf (W := 0) (rm16 l Z a0 hw [] b1 (3 : Int32) pf_2 kf_2 nn pfz_49 (own_r0 nn) h58 n0 Zn F_pf_49 V_pf_49 L_pf_49 ⟨by decide, by rw [hk_nn]; decide⟩) hZ (hw _ (List.mem_of_getElem? (i := 93) rfl)) (hw _ (List.mem_of_getElem? (i := 2) rfl)) (by decide) (by decide)) q82a q82c (g := (mkF m 206 #[.val (.int p1), .val (.int p2), .val (.int p3), .val (.int p4), .val (.int p5), .val (.int p6), .val (.int (5 : Int32)), .val (.ref b1), .val (.int (1 : Int32)), .val (.int (1 : Int32))] [(.int (3 : Int32)), (.ref b1)])) rfl (by rw [hml]; rfl) (Steps.refl _) (argsL := [(.int (3 : Int32))]) (rest := []) (lenOf pd_11 rfl) rfl (by show 2 * 0 + _ ≤ _; exact Nat.le_of_eq rfl) (hb hby at_206) (fun _ _ => ⟨rfl, hs79, (by decide : 18 + 0 ≤ _), (by decide : 117 + 0 ≤ _)⟩)
      dsimp only [Pt.U, Pt.locs, Pt.cells, Pt.slots] at X82 l82 y82 z82 st82 hQ82
      replace y82 : kx82 = 18 := y82
      replace z82 : nx82 = 117 := z82
      subst y82 z82
      obtain ⟨rfl, Nq82, hs82, F_r_82⟩ := hQ82
      have NN : Fr n0 Lx82 := by rw [l82]; exact Fr.app NN Nq82
      have F_r_82 : own_S Z h58 (pfz_49.getD ((3 : Int32)).toNatClampNeg .null) ((own_r0 nn).getD ((3 : Int32)).toNatClampNeg none) := hs82 ▸ F_r_82
      have pre : ∀ τ, Steps p.tables e below (T82.setTop (mkF m 209 #[.val (.int p1), .val (.int p2), .val (.int p3), .val (.int p4), .val (.int p5), .val (.int p6), .val (.int (5 : Int32)), .val (.ref b1), .val (.int (1 : Int32)), .val (.int (1 : Int32))] [(pfz_49.getD ((3 : Int32)).toNatClampNeg .null)])) τ → G τ := fun τ κ => pre τ (st82.trans κ)
      have hnul3 := own_S_none F_r_82 (own_r0n (by decide))
      have pre : ∀ τ, Steps p.tables e below (T82.setTop (mkF m 209 #[.val (.int p1), .val (.int p2), .val (.int p3), .val (.int p4), .val (.int p5), .val (.int p6), .val (.int (5 : Int32)), .val (.ref b1), .val (.int (1 : Int32)), .val (.int (1 : Int32))] [.null])) τ → G τ := by rw [hnul3] at pre; exact pre
      have pre : ∀ τ, Steps p.tables e below (T82.setTop (mkF m 222 #[.val (.int p1), .val (.int p2), .val (.int p3), .val (.int p4), .val (.int p5), .val (.int p6), .val (.int (5 : Int32)), .val (.ref b1), .val (.int (1 : Int32)), .val (.int (1 : Int32))] [(.int (4 : Int32)), (.int (5 : Int32))])) τ → G τ := fun τ κ => pre τ (by
        refine XS.ifnonnullNo X82.here hx rfl (hb hby at_209) rfl ?_
        show Steps p.tables e below (T82.setTop (mkF m 212 #[.val (.int p1), .val (.int p2), .val (.int p3), .val (.int p4), .val (.int p5), .val (.int p6), .val (.int (5 : Int32)), .val (.ref b1), .val (.int (1 : Int32)), .val (.int (1 : Int32))] [])) τ
        refine XS.iconst X82.here hx rfl (hb hby at_212) ?_
        show Steps p.tables e below (T82.setTop (mkF m 213 #[.val (.int p1), .val (.int p2), .val (.int p3), .val (.int p4), .val (.int p5), .val (.int p6), .val (.int (5 : Int32)), .val (.ref b1), .val (.int (1 : Int32)), .val (.int (1 : Int32))] [(.int (1 : Int32))])) τ
        refine XS.goto X82.here hx rfl (pc0 := 213) (pc' := 217) rfl (hb hby at_213) (by decide) (by decide) ?_
        show Steps p.tables e below (T82.setTop (mkF m 217 #[.val (.int p1), .val (.int p2), .val (.int p3), .val (.int p4), .val (.int p5), .val (.int p6), .val (.int (5 : Int32)), .val (.ref b1), .val (.int (1 : Int32)), .val (.int (1 : Int32))] [(.int (1 : Int32))])) τ
        refine XS.istore X82.here hx rfl (hb hby at_217) rfl (l' := #[.val (.int p1), .val (.int p2), .val (.int p3), .val (.int p4), .val (.int p5), .val (.int p6), .val (.int (5 : Int32)), .val (.ref b1), .val (.int (1 : Int32)), .val (.int (1 : Int32))]) rfl ?_
        show Steps p.tables e below (T82.setTop (mkF m 219 #[.val (.int p1), .val (.int p2), .val (.int p3), .val (.int p4), .val (.int p5), .val (.int p6), .val (.int (5 : Int32)), .val (.ref b1), .val (.int (1 : Int32)), .val (.int (1 : Int32))] [])) τ
        refine XS.iload X82.here hx rfl (hb hby at_219) rfl ?_
        show Steps p.tables e below (T82.setTop (mkF m 221 #[.val (.int p1), .val (.int p2), .val (.int p3), .val (.int p4), .val (.int p5), .val (.int p6), .val (.int (5 : Int32)), .val (.ref b1), .val (.int (1 : Int32)), .val (.int (1 : Int32))] [(.int (5 : Int32))])) τ
        refine XS.iconst X82.here hx rfl (hb hby at_221) ?_
        show Steps p.tables e below (T82.setTop (mkF m 222 #[.val (.int p1), .val (.int p2), .val (.int p3), .val (.int p4), .val (.int p5), .val (.int p6), .val (.int (5 : Int32)), .val (.ref b1), .val (.int (1 : Int32)), .val (.int (1 : Int32))] [(.int (4 : Int32)), (.int (5 : Int32))])) τ
        exact κ)
      have hc83 : (4 : Int32) < (5 : Int32) := (by decide)
      have pre : ∀ τ, Steps p.tables e below (T82.setTop (mkF m 227 #[.val (.int p1), .val (.int p2), .val (.int p3), .val (.int p4), .val (.int p5), .val (.int p6), .val (.int (5 : Int32)), .val (.ref b1), .val (.int (1 : Int32)), .val (.int (1 : Int32))] [(.int (1 : Int32))])) τ → G τ := fun τ κ => pre τ (by
        refine XS.icmpNo X82.here hx rfl (hb hby at_222) rfl (tlt hc83).2.2.2 ?_
        show Steps p.tables e below (T82.setTop (mkF m 225 #[.val (.int p1), .val (.int p2), .val (.int p3), .val (.int p4), .val (.int p5), .val (.int p6), .val (.int (5 : Int32)), .val (.ref b1), .val (.int (1 : Int32)), .val (.int (1 : Int32))] [])) τ
        refine XS.iload X82.here hx rfl (hb hby at_225) rfl ?_
        show Steps p.tables e below (T82.setTop (mkF m 227 #[.val (.int p1), .val (.int p2), .val (.int p3), .val (.int p4), .val (.int p5), .val (.int p6), .val (.int (5 : Int32)), .val (.ref b1), .val (.int (1 : Int32)), .val (.int (1 : Int32))] [(.int (1 : Int32))])) τ
        exact κ)
      have hc84 : ¬ ((1 : Int32) = (0 : Int32)) := (by decide)
      have pre : ∀ τ, Steps p.tables e below (T82.setTop (mkF m 233 #[.val (.int p1), .val (.int p2), .val (.int p3), .val (.int p4), .val (.int p5), .val (.int p6), .val (.int (5 : Int32)), .val (.ref b1), .val (.int (1 : Int32)), .val (.int (1 : Int32))] [(.int (4 : Int32)), (.ref b1)])) τ → G τ := fun τ κ => pre τ (by
        refine XS.ifNo X82.here hx rfl (hb hby at_227) rfl ((if0 _ _).trans (feq hc84).1) ?_
        show Steps p.tables e below (T82.setTop (mkF m 230 #[.val (.int p1), .val (.int p2), .val (.int p3), .val (.int p4), .val (.int p5), .val (.int p6), .val (.int (5 : Int32)), .val (.ref b1), .val (.int (1 : Int32)), .val (.int (1 : Int32))] [])) τ
        refine XS.aload X82.here hx rfl (hb hby at_230) rfl rfl ?_
        show Steps p.tables e below (T82.setTop (mkF m 232 #[.val (.int p1), .val (.int p2), .val (.int p3), .val (.int p4), .val (.int p5), .val (.int p6), .val (.int (5 : Int32)), .val (.ref b1), .val (.int (1 : Int32)), .val (.int (1 : Int32))] [(.ref b1)])) τ
        refine XS.iconst X82.here hx rfl (hb hby at_232) ?_
        show Steps p.tables e below (T82.setTop (mkF m 233 #[.val (.int p1), .val (.int p2), .val (.int p3), .val (.int p4), .val (.int p5), .val (.int p6), .val (.int (5 : Int32)), .val (.ref b1), .val (.int (1 : Int32)), .val (.int (1 : Int32))] [(.int (4 : Int32)), (.ref b1)])) τ
        exact κ)
      obtain ⟨cq85, kq85, q85a, q85b, q85c⟩ := isOf hZ hs82 E_b1
      obtain ⟨_, _, ⟨T85, Lx85, kx85, nx85⟩, -, X85, ⟨Lc85, hQ85, l85, y85, z85⟩, st85⟩ := X82.virtualBack hx (y := (⟨"coppice/marshal/context/NamespaceScope", "prefix", "(I)Ljava/lang/String;"⟩ : MethodName)) (z := (⟨"coppice/marshal/context/NamespaceScope", "prefix", "(I)Ljava/lang/String;"⟩ : MethodName)) hown (mvT hZ (hw _ (List.mem_of_getElem? (i := 89) rfl))) (mvT hZ (hw _ (List.mem_of_getElem? (i := 90) rfl))) (notFace_of_selects (args := #[]) (mvT hZ (hw _ (List.mem_of_getElem? (i := 92) rfl)))) (mvT hZ (hw _ (List.mem_of_getElem? (i := 92) rfl))) (mvT hZ (hw _ (List.mem_of_getElem? (i := 91) rfl))) (by decide) (backOf (W := 0) (rm16 l Z a0 hw [] b1 (4 : Int32) pf_2 kf_2 nn pfz_49 (own_r0 nn) h58 n0 Zn F_pf_49 V_pf_49 L_pf_49 ⟨by decide, by rw [hk_nn]; decide⟩) hZ (hw _ (List.mem_of_getElem? (i := 93) rfl)) (hw _ (List.mem_of_getElem? (i := 2) rfl)) (by decide) (by decide)) q85a q85c (g := (mkF m 233 #[.val (.int p1), .val (.int p2), .val (.int p3), .val (.int p4), .val (.int p5), .val (.int p6), .val (.int (5 : Int32)), .val (.ref b1), .val (.int (1 : Int32)), .val (.int (1 : Int32))] [(.int (4 : Int32)), (.ref b1)])) rfl (by rw [hml]; rfl) (Steps.refl _) (argsL := [(.int (4 : Int32))]) (rest := []) (lenOf pd_11 rfl) rfl (by show 2 * 0 + _ ≤ _; exact Nat.le_of_eq rfl) (hb hby at_233) (fun _ _ => ⟨rfl, hs82, (by decide : 18 + 0 ≤ _), (by decide : 117 + 0 ≤ _)⟩)
      dsimp only [Pt.U, Pt.locs, Pt.cells, Pt.slots] at X85 l85 y85 z85 st85 hQ85
      replace y85 : kx85 = 18 := y85
      replace z85 : nx85 = 117 := z85
      subst y85 z85
      obtain ⟨rfl, Nq85, hs85, F_r_85⟩ := hQ85
      have NN : Fr n0 Lx85 := by rw [l85]; exact Fr.app NN Nq85
      have F_r_85 : own_S Z h58 (pfz_49.getD ((4 : Int32)).toNatClampNeg .null) ((own_r0 nn).getD ((4 : Int32)).toNatClampNeg none) := hs85 ▸ F_r_85
      have pre : ∀ τ, Steps p.tables e below (T85.setTop (mkF m 236 #[.val (.int p1), .val (.int p2), .val (.int p3), .val (.int p4), .val (.int p5), .val (.int p6), .val (.int (5 : Int32)), .val (.ref b1), .val (.int (1 : Int32)), .val (.int (1 : Int32))] [(pfz_49.getD ((4 : Int32)).toNatClampNeg .null)])) τ → G τ := fun τ κ => pre τ (st85.trans κ)
      have hnul4 := own_S_none F_r_85 (own_r0n (by decide))
      have pre : ∀ τ, Steps p.tables e below (T85.setTop (mkF m 236 #[.val (.int p1), .val (.int p2), .val (.int p3), .val (.int p4), .val (.int p5), .val (.int p6), .val (.int (5 : Int32)), .val (.ref b1), .val (.int (1 : Int32)), .val (.int (1 : Int32))] [.null])) τ → G τ := by rw [hnul4] at pre; exact pre
      have pre : ∀ τ, Steps p.tables e below (T85.setTop (mkF m 248 #[.val (.int p1), .val (.int p2), .val (.int p3), .val (.int p4), .val (.int p5), .val (.int p6), .val (.int (5 : Int32)), .val (.ref b1), .val (.int (1 : Int32)), .val (.int (1 : Int32))] [(.int (1 : Int32))])) τ → G τ := fun τ κ => pre τ (by
        refine XS.ifnonnullNo X85.here hx rfl (hb hby at_236) rfl ?_
        show Steps p.tables e below (T85.setTop (mkF m 239 #[.val (.int p1), .val (.int p2), .val (.int p3), .val (.int p4), .val (.int p5), .val (.int p6), .val (.int (5 : Int32)), .val (.ref b1), .val (.int (1 : Int32)), .val (.int (1 : Int32))] [])) τ
        refine XS.iconst X85.here hx rfl (hb hby at_239) ?_
        show Steps p.tables e below (T85.setTop (mkF m 240 #[.val (.int p1), .val (.int p2), .val (.int p3), .val (.int p4), .val (.int p5), .val (.int p6), .val (.int (5 : Int32)), .val (.ref b1), .val (.int (1 : Int32)), .val (.int (1 : Int32))] [(.int (1 : Int32))])) τ
        refine XS.goto X85.here hx rfl (pc0 := 240) (pc' := 244) rfl (hb hby at_240) (by decide) (by decide) ?_
        show Steps p.tables e below (T85.setTop (mkF m 244 #[.val (.int p1), .val (.int p2), .val (.int p3), .val (.int p4), .val (.int p5), .val (.int p6), .val (.int (5 : Int32)), .val (.ref b1), .val (.int (1 : Int32)), .val (.int (1 : Int32))] [(.int (1 : Int32))])) τ
        refine XS.istore X85.here hx rfl (hb hby at_244) rfl (l' := #[.val (.int p1), .val (.int p2), .val (.int p3), .val (.int p4), .val (.int p5), .val (.int p6), .val (.int (5 : Int32)), .val (.ref b1), .val (.int (1 : Int32)), .val (.int (1 : Int32))]) rfl ?_
        show Steps p.tables e below (T85.setTop (mkF m 246 #[.val (.int p1), .val (.int p2), .val (.int p3), .val (.int p4), .val (.int p5), .val (.int p6), .val (.int (5 : Int32)), .val (.ref b1), .val (.int (1 : Int32)), .val (.int (1 : Int32))] [])) τ
        refine XS.iload X85.here hx rfl (hb hby at_246) rfl ?_
        show Steps p.tables e below (T85.setTop (mkF m 248 #[.val (.int p1), .val (.int p2), .val (.int p3), .val (.int p4), .val (.int p5), .val (.int p6), .val (.int (5 : Int32)), .val (.ref b1), .val (.int (1 : Int32)), .val (.int (1 : Int32))] [(.int (1 : Int32))])) τ
        exact κ)
      have hkT := Nat.le_trans hk (Nat.le_of_eq (congrArg Array.size (Eq.symm hs85)))
      obtain ⟨fsα, hr, hrun, hended, hRE⟩ := X85.leaveW hS hkT (v := some (.int (1 : Int32))) (fun h => by rw [Bd.returns] at h; cases h)
      refine hGL ⟨_, _, hG _ (pre _ ?_), hrun, hended, _, _, rfl, ?_, ?_, ⟨_, rfl⟩, hRE.2.1, hRE.2.2.1, hRE.2.2.2.mono (by decide) (by decide)⟩
      · exact retN X85 hx (t := .boolean) Bd.returns (by simp) (hb hby at_248) hr
      · show Q0 Z p1 p2 p3 p4 p5 p6 cw h0 n0 _ T85.heap _
        rw [hs85]
        exact ⟨rfl, NN⟩
      · show CHr Z own_EL s.vm s.heap T85.vm T85.heap
        rw [hh, hs85]
        exact HR.trans (CHv.at X85 hZ hEL H)
  ·
    have pre : ∀ τ, Steps p.tables e below (T2.setTop (mkF m 24 #[.val (.int p1), .val (.int p2), .val (.int p3), .val (.int p4), .val (.int p5), .val (.int p6), .val (.int nn), .val (.ref b1), .val (.int (2 : Int32)), .unset] [])) τ → G τ := (show dd = (2 : Int32) from hk_dd) ▸ pre
    have pre : ∀ τ, Steps p.tables e below (T2.setTop (mkF m 27 #[.val (.int p1), .val (.int p2), .val (.int p3), .val (.int p4), .val (.int p5), .val (.int p6), .val (.int nn), .val (.ref b1), .val (.int (2 : Int32)), .unset] [(.int (1 : Int32)), (.int (2 : Int32))])) τ → G τ := fun τ κ => pre τ (by
      refine XS.iload X2.here hx rfl (hb hby at_24) rfl ?_
      show Steps p.tables e below (T2.setTop (mkF m 26 #[.val (.int p1), .val (.int p2), .val (.int p3), .val (.int p4), .val (.int p5), .val (.int p6), .val (.int nn), .val (.ref b1), .val (.int (2 : Int32)), .unset] [(.int (2 : Int32))])) τ
      refine XS.iconst X2.here hx rfl (hb hby at_26) ?_
      show Steps p.tables e below (T2.setTop (mkF m 27 #[.val (.int p1), .val (.int p2), .val (.int p3), .val (.int p4), .val (.int p5), .val (.int p6), .val (.int nn), .val (.ref b1), .val (.int (2 : Int32)), .unset] [(.int (1 : Int32)), (.int (2 : Int32))])) τ
      exact κ)
    have hc86 : ¬ ((2 : Int32) < (1 : Int32)) := (by decide)
    have pre : ∀ τ, Steps p.tables e below (T2.setTop (mkF m 35 #[.val (.int p1), .val (.int p2), .val (.int p3), .val (.int p4), .val (.int p5), .val (.int p6), .val (.int nn), .val (.ref b1), .val (.int (2 : Int32)), .unset] [(.int nn), (.int p2), (.ref b1)])) τ → G τ := fun τ κ => pre τ (by
      refine XS.icmpNo X2.here hx rfl (hb hby at_27) rfl (flt hc86).1 ?_
      show Steps p.tables e below (T2.setTop (mkF m 30 #[.val (.int p1), .val (.int p2), .val (.int p3), .val (.int p4), .val (.int p5), .val (.int p6), .val (.int nn), .val (.ref b1), .val (.int (2 : Int32)), .unset] [])) τ
      refine XS.aload X2.here hx rfl (hb hby at_30) rfl rfl ?_
      show Steps p.tables e below (T2.setTop (mkF m 32 #[.val (.int p1), .val (.int p2), .val (.int p3), .val (.int p4), .val (.int p5), .val (.int p6), .val (.int nn), .val (.ref b1), .val (.int (2 : Int32)), .unset] [(.ref b1)])) τ
      refine XS.iloadN X2.here hx rfl (hb hby at_32) rfl ?_
      show Steps p.tables e below (T2.setTop (mkF m 33 #[.val (.int p1), .val (.int p2), .val (.int p3), .val (.int p4), .val (.int p5), .val (.int p6), .val (.int nn), .val (.ref b1), .val (.int (2 : Int32)), .unset] [(.int p2), (.ref b1)])) τ
      refine XS.iload X2.here hx rfl (hb hby at_33) rfl ?_
      show Steps p.tables e below (T2.setTop (mkF m 35 #[.val (.int p1), .val (.int p2), .val (.int p3), .val (.int p4), .val (.int p5), .val (.int p6), .val (.int nn), .val (.ref b1), .val (.int (2 : Int32)), .unset] [(.int nn), (.int p2), (.ref b1)])) τ
      exact κ)
    obtain ⟨_, _, ⟨T87, Lx87, kx87, nx87⟩, -, X87, ⟨Lc87, hQ87, l87, y87, z87⟩, st87⟩ := Jvm.LawKit.callS X2 hx (y := (⟨"coppice/marshal/context/NamespaceScopeResetPinLaw", "idx", "(II)I"⟩ : MethodName)) hown (mvT hZ (hw _ (List.mem_of_getElem? (i := 39) rfl))) (mvT hZ (hw _ (List.mem_of_getElem? (i := 40) rfl))) (mvT hZ (hw _ (List.mem_of_getElem? (i := 41) rfl))) (mvT hZ (hw _ (List.mem_of_getElem? (i := 42) rfl))) (by decide) (backOf (W := 1) (rm5 l Z a0 hw [] p2 nn T2.heap n0 Zn (own_nz0 N5.1)) hZ (hw _ (List.mem_of_getElem? (i := 42) rfl)) (hw _ (List.mem_of_getElem? (i := 41) rfl)) (by decide) (by decide)) (g := (mkF m 35 #[.val (.int p1), .val (.int p2), .val (.int p3), .val (.int p4), .val (.int p5), .val (.int p6), .val (.int nn), .val (.ref b1), .val (.int (2 : Int32)), .unset] [(.int nn), (.int p2), (.ref b1)])) rfl (by rw [hml]; rfl) (argsL := [(.int p2), (.int nn)]) (rest := [(.ref b1)]) (lenOf pd_12 rfl) rfl (by show 2 * 0 + _ ≤ _; exact Nat.le_of_eq rfl) (hb hby at_35) (fun _ _ => ⟨rfl, rfl, (by decide : 8 + 0 ≤ _), (by decide : 61 + 0 ≤ _)⟩)
    dsimp only [Pt.U, Pt.locs, Pt.cells, Pt.slots] at X87 l87 y87 z87 st87 hQ87
    replace y87 : kx87 = 8 := y87
    replace z87 : nx87 = 61 := z87
    subst y87 z87
    obtain ⟨rfl, Nq87, hs87⟩ := hQ87
    have NN : Fr n0 Lx87 := by rw [l87]; exact Fr.app NN Nq87
    have pre : ∀ τ, Steps p.tables e below (T87.setTop (mkF m 38 #[.val (.int p1), .val (.int p2), .val (.int p3), .val (.int p4), .val (.int p5), .val (.int p6), .val (.int nn), .val (.ref b1), .val (.int (2 : Int32)), .unset] [(.int ((p2 &&& (2147483647 : Int32)) % nn)), (.ref b1)])) τ → G τ := fun τ κ => pre τ (st87 τ κ)
    obtain ⟨i1, hi1⟩ : ∃ z : Int32, z = ((p2 &&& (2147483647 : Int32)) % nn) := ⟨_, rfl⟩
    have pre : ∀ τ, Steps p.tables e below (T87.setTop (mkF m 38 #[.val (.int p1), .val (.int p2), .val (.int p3), .val (.int p4), .val (.int p5), .val (.int p6), .val (.int nn), .val (.ref b1), .val (.int (2 : Int32)), .unset] [(.int i1), (.ref b1)])) τ → G τ := by subst hi1; exact pre
    have b_i1 : ¬ i1 < 0 ∧ i1 < nn := by rw [hi1]; exact own_idx N5.1
    have pre : ∀ τ, Steps p.tables e below (T87.setTop (mkF m 39 #[.val (.int p1), .val (.int p2), .val (.int p3), .val (.int p4), .val (.int p5), .val (.int p6), .val (.int nn), .val (.ref b1), .val (.int (2 : Int32)), .unset] [(.int p3), (.int i1), (.ref b1)])) τ → G τ := fun τ κ => pre τ (by
      refine XS.iloadN X87.here hx rfl (hb hby at_38) rfl ?_
      show Steps p.tables e below (T87.setTop (mkF m 39 #[.val (.int p1), .val (.int p2), .val (.int p3), .val (.int p4), .val (.int p5), .val (.int p6), .val (.int nn), .val (.ref b1), .val (.int (2 : Int32)), .unset] [(.int p3), (.int i1), (.ref b1)])) τ
      exact κ)
    obtain ⟨_, _, ⟨T88, Lx88, kx88, nx88⟩, -, X88, hS2, hg2, ⟨Lc88, hQ88, l88, y88, z88, HRc⟩, st88⟩ := Jvm.RoadKit.callSS X87 hx (y := (⟨"coppice/marshal/context/NamespaceScopeResetPinLaw", "pick", "(I)Ljava/lang/String;"⟩ : MethodName)) hown (mvT hZ (hw _ (List.mem_of_getElem? (i := 44) rfl))) (mvT hZ (hw _ (List.mem_of_getElem? (i := 45) rfl))) (mvT hZ (hw _ (List.mem_of_getElem? (i := 41) rfl))) (mvT hZ (hw _ (List.mem_of_getElem? (i := 46) rfl))) (by decide) (backOfSH (W := 2) (rm6 l Z a0 hw hEL wS [] p3 cw T2.heap n0 Zn S_c hcw) hZ (hw _ (List.mem_of_getElem? (i := 46) rfl)) (hw _ (List.mem_of_getElem? (i := 41) rfl)) (by decide) (by decide) hEL H) (g := (mkF m 39 #[.val (.int p1), .val (.int p2), .val (.int p3), .val (.int p4), .val (.int p5), .val (.int p6), .val (.int nn), .val (.ref b1), .val (.int (2 : Int32)), .unset] [(.int p3), (.int i1), (.ref b1)])) rfl (by rw [hml]; rfl) (argsL := [(.int p3)]) (rest := [(.int i1), (.ref b1)]) (lenOf pd_11 rfl) rfl (by show 2 * 0 + _ ≤ _; exact Nat.le_of_eq rfl) (hb hby at_39) (fun _ _ => ⟨rfl, hs87, (by decide : 8 + 2 ≤ _), (by decide : 61 + 16 ≤ _)⟩)
    dsimp only [Pt.U, Pt.locs, Pt.cells, Pt.slots] at hS2 hg2 HRc
    have hkT := Nat.le_trans hk (Nat.le_of_eq (congrArg Array.size (Eq.symm hs87)))
    dsimp only [Pt.U, Pt.locs, Pt.cells, Pt.slots] at X88 l88 y88 z88 st88 hQ88
    replace y88 : kx88 = 10 := y88
    replace z88 : nx88 = 77 := z88
    subst y88 z88
    obtain ⟨r_88, tr_88, rfl, Nq88, Kc88, F_r_88⟩ := hQ88
    have NN : Fr n0 Lx88 := by rw [l88]; exact Fr.app NN Nq88
    obtain ⟨X88, hS, hZ, hown⟩ := rebS hS hkT X88 hS2 hg2 hZ hown
    have hk := Nat.le_refl T88.heap.size
    have HR := HR.trans HRc
    have H := HR.1
    have Nss : ∀ x ∈ ([] : List Addr), own_ns Z T2.heap x := all0
    have S_c : Sta Z T88.heap "java/lang/String" "COMPACT_STRINGS" "Z" (.int cw) := own_sta_keepN S_c Kc88 Nss
    have E_b1 : Exa Z T88.heap b1 "coppice/marshal/context/NamespaceScope" := E_b1.keep Kc88
    have E_o : Exa Z T88.heap b1 "coppice/marshal/context/NamespaceScope" := E_o.keep Kc88
    have F_un : Fld Z T88.heap b1 "coppice/marshal/context/NamespaceScope" "undoNamespaces" "[I" (.ref un_2) := F_un.keep Kc88 nin0
    have F_up : Fld Z T88.heap b1 "coppice/marshal/context/NamespaceScope" "undoPrefixes" "[Ljava/lang/String;" (.ref up_2) := F_up.keep Kc88 nin0
    have F_pf : Fld Z T88.heap b1 "coppice/marshal/context/NamespaceScope" "prefixes" "[Ljava/lang/String;" (.ref pf_2) := F_pf.keep Kc88 nin0
    have F_uc : Fld Z T88.heap b1 "coppice/marshal/context/NamespaceScope" "undoCount" "I" (.int z0.2.2.2) := F_uc.keep Kc88 nin0
    have V_un : Arv Z T88.heap un_2 ku_2 .int (16 : Int32) z0.2.1 (.int (0 : Int32)) := V_un.keep Kc88 nin0
    have V_up : Arv Z T88.heap up_2 kp_2 (.object "java/lang/String") (16 : Int32) (List.replicate 16 .null) .null := V_up.keep Kc88 nin0
    have V_pf : Arv Z T88.heap pf_2 kf_2 (.object "java/lang/String") nn pfz_2 .null := V_pf.keep Kc88 nin0
    have L_up : own_SL Z T88.heap (List.replicate 16 .null) z0.2.2.1 := own_SL_keep L_up Kc88 Nss
    have L_pf : own_SL Z T88.heap pfz_2 z0.1 := own_SL_keep L_pf Kc88 Nss
    have Zn : n0 ≤ T88.heap.size := Nat.le_trans Zn Kc88.1
    have pre : ∀ τ, Steps p.tables e below (T88.setTop (mkF m 42 #[.val (.int p1), .val (.int p2), .val (.int p3), .val (.int p4), .val (.int p5), .val (.int p6), .val (.int nn), .val (.ref b1), .val (.int (2 : Int32)), .unset] [(.ref r_88), (.int i1), (.ref b1)])) τ → G τ := fun τ κ => pre τ (st88.trans κ)
    obtain ⟨cq89, kq89, q89a, q89b, q89c⟩ := isOf hZ rfl E_b1
    obtain ⟨_, _, ⟨T89, Lx89, kx89, nx89⟩, -, X89, ⟨Lc89, hQ89, l89, y89, z89⟩, st89⟩ := X88.virtualBack hx (y := (⟨"coppice/marshal/context/NamespaceScope", "declare", "(ILjava/lang/String;)V"⟩ : MethodName)) (z := (⟨"coppice/marshal/context/NamespaceScope", "declare", "(ILjava/lang/String;)V"⟩ : MethodName)) hown (mvT hZ (hw _ (List.mem_of_getElem? (i := 65) rfl))) (mvT hZ (hw _ (List.mem_of_getElem? (i := 66) rfl))) (notFace_of_selects (args := #[]) (mvT hZ (hw _ (List.mem_of_getElem? (i := 68) rfl)))) (mvT hZ (hw _ (List.mem_of_getElem? (i := 68) rfl))) (mvT hZ (hw _ (List.mem_of_getElem? (i := 67) rfl))) (by decide) (backOf (W := 0) (rm11 l Z a0 hw [] b1 i1 r_88 un_2 up_2 pf_2 ku_2 kp_2 kf_2 nn z0 (List.replicate 16 .null) pfz_2 tr_88 cw (0 : Int) T88.heap n0 Zn g_b1 gn_un_2 gn_up_2 gn_pf_2 E_b1 F_un F_up F_pf F_uc V_un V_up V_pf L_up L_pf O_up_2 O_pf_2 ne_b1_un_2 ne_b1_up_2 ne_b1_pf_2 ne_un__up_2 ne_un__pf_2 ne_up__pf_2 F_r_88 S_c hcw b_i1 ⟨Jz0.1, Jz0.2.1⟩ (by omega) Jz0.2.2 hup0 hpf0) hZ (hw _ (List.mem_of_getElem? (i := 69) rfl)) (hw _ (List.mem_of_getElem? (i := 2) rfl)) (by decide) (by decide)) q89a q89c (g := (mkF m 42 #[.val (.int p1), .val (.int p2), .val (.int p3), .val (.int p4), .val (.int p5), .val (.int p6), .val (.int nn), .val (.ref b1), .val (.int (2 : Int32)), .unset] [(.ref r_88), (.int i1), (.ref b1)])) rfl (by rw [hml]; rfl) (Steps.refl _) (argsL := [(.int i1), (.ref r_88)]) (rest := []) (lenOf pd_1 rfl) rfl (by show 2 * 0 + _ ≤ _; exact Nat.le_of_eq rfl) (hb hby at_42) (fun _ _ => ⟨rfl, rfl, (by decide : 10 + 0 ≤ _), (by decide : 77 + 0 ≤ _)⟩)
    dsimp only [Pt.U, Pt.locs, Pt.cells, Pt.slots] at X89 l89 y89 z89 st89 hQ89
    replace y89 : kx89 = 10 := y89
    replace z89 : nx89 = 77 := z89
    subst y89 z89
    obtain ⟨upz_89, pfz_89, rfl, Nq89, Kc89, E_o_89, F_un_89, F_up_89, F_pf_89, F_uc_89, V_un_89, V_up_89, V_pf_89, L_up_89, L_pf_89, hlp_89, hlf_89⟩ := hQ89
    have NN : Fr n0 Lx89 := by rw [l89]; exact Fr.app NN Nq89
    have Nss : ∀ x ∈ [b1, un_2, up_2, pf_2], own_ns Z T88.heap x := (allS (own_nsE E_b1 (hw _ (List.mem_of_getElem? (i := 1) rfl)) (by decide) (by decide)) (allS (own_nsV V_un (by decide)) (allS (own_nsV V_up (by decide)) (allS (own_nsV V_pf (by decide)) all0))))
    have hk := Nat.le_trans hk Kc89.1
    have HR := HR.trans (CHr.keep Kc89 (fun x hx => own_safe hZ.alike (Nss x hx)) H)
    have H := HR.1
    have S_c : Sta Z T89.heap "java/lang/String" "COMPACT_STRINGS" "Z" (.int cw) := own_sta_keepN S_c Kc89 Nss
    have E_b1 : Exa Z T89.heap b1 "coppice/marshal/context/NamespaceScope" := E_b1.keep Kc89
    have E_o : Exa Z T89.heap b1 "coppice/marshal/context/NamespaceScope" := E_o.keep Kc89
    have L_up : own_SL Z T89.heap (List.replicate 16 .null) z0.2.2.1 := own_SL_keep L_up Kc89 Nss
    have L_pf : own_SL Z T89.heap pfz_2 z0.1 := own_SL_keep L_pf Kc89 Nss
    have F_r_88 : own_S Z T89.heap (.ref r_88) (some tr_88) := own_S_keep F_r_88 Kc89 Nss
    have Zn : n0 ≤ T89.heap.size := Nat.le_trans Zn Kc89.1
    have pre : ∀ τ, Steps p.tables e below (T89.setTop (mkF m 45 #[.val (.int p1), .val (.int p2), .val (.int p3), .val (.int p4), .val (.int p5), .val (.int p6), .val (.int nn), .val (.ref b1), .val (.int (2 : Int32)), .unset] [])) τ → G τ := fun τ κ => pre τ (st89.trans κ)
    obtain ⟨z1, hz1⟩ : ∃ q : own_ST, q = own_de tr_88 i1 nn z0 := ⟨_, rfl⟩
    have E_o := E_o_89
    have F_un := F_un_89
    have F_up := F_up_89
    have F_pf := F_pf_89
    have F_uc : Fld Z T89.heap b1 "coppice/marshal/context/NamespaceScope" "undoCount" "I" (.int z1.2.2.2) := by rw [hz1]; exact F_uc_89
    have V_un : Arv Z T89.heap un_2 ku_2 .int (16 : Int32) z1.2.1 (.int (0 : Int32)) := by rw [hz1]; exact V_un_89
    have V_up := V_up_89
    have V_pf := V_pf_89
    have L_up : own_SL Z T89.heap upz_89 z1.2.2.1 := by rw [hz1]; exact L_up_89
    have L_pf : own_SL Z T89.heap pfz_89 z1.1 := by rw [hz1]; exact L_pf_89
    have Jz1 : own_J z1 (0 + nn.toInt) := by rw [hz1]; exact own_Jde b_i1 Jz0 (by omega)
    have pre : ∀ τ, Steps p.tables e below (T89.setTop (mkF m 48 #[.val (.int p1), .val (.int p2), .val (.int p3), .val (.int p4), .val (.int p5), .val (.int p6), .val (.int nn), .val (.ref b1), .val (.int (2 : Int32)), .unset] [(.int (2 : Int32)), (.int (2 : Int32))])) τ → G τ := fun τ κ => pre τ (by
      refine XS.iload X89.here hx rfl (hb hby at_45) rfl ?_
      show Steps p.tables e below (T89.setTop (mkF m 47 #[.val (.int p1), .val (.int p2), .val (.int p3), .val (.int p4), .val (.int p5), .val (.int p6), .val (.int nn), .val (.ref b1), .val (.int (2 : Int32)), .unset] [(.int (2 : Int32))])) τ
      refine XS.iconst X89.here hx rfl (hb hby at_47) ?_
      show Steps p.tables e below (T89.setTop (mkF m 48 #[.val (.int p1), .val (.int p2), .val (.int p3), .val (.int p4), .val (.int p5), .val (.int p6), .val (.int nn), .val (.ref b1), .val (.int (2 : Int32)), .unset] [(.int (2 : Int32)), (.int (2 : Int32))])) τ
      exact κ)
    have hc90 : ¬ ((2 : Int32) < (2 : Int32)) := (by decide)
    have pre : ∀ τ, Steps p.tables e below (T89.setTop (mkF m 56 #[.val (.int p1), .val (.int p2), .val (.int p3), .val (.int p4), .val (.int p5), .val (.int p6), .val (.int nn), .val (.ref b1), .val (.int (2 : Int32)), .unset] [(.int nn), (.int p4), (.ref b1)])) τ → G τ := fun τ κ => pre τ (by
      refine XS.icmpNo X89.here hx rfl (hb hby at_48) rfl (flt hc90).1 ?_
      show Steps p.tables e below (T89.setTop (mkF m 51 #[.val (.int p1), .val (.int p2), .val (.int p3), .val (.int p4), .val (.int p5), .val (.int p6), .val (.int nn), .val (.ref b1), .val (.int (2 : Int32)), .unset] [])) τ
      refine XS.aload X89.here hx rfl (hb hby at_51) rfl rfl ?_
      show Steps p.tables e below (T89.setTop (mkF m 53 #[.val (.int p1), .val (.int p2), .val (.int p3), .val (.int p4), .val (.int p5), .val (.int p6), .val (.int nn), .val (.ref b1), .val (.int (2 : Int32)), .unset] [(.ref b1)])) τ
      refine XS.iloadN X89.here hx rfl (hb hby at_53) rfl ?_
      show Steps p.tables e below (T89.setTop (mkF m 54 #[.val (.int p1), .val (.int p2), .val (.int p3), .val (.int p4), .val (.int p5), .val (.int p6), .val (.int nn), .val (.ref b1), .val (.int (2 : Int32)), .unset] [(.int p4), (.ref b1)])) τ
      refine XS.iload X89.here hx rfl (hb hby at_54) rfl ?_
      show Steps p.tables e below (T89.setTop (mkF m 56 #[.val (.int p1), .val (.int p2), .val (.int p3), .val (.int p4), .val (.int p5), .val (.int p6), .val (.int nn), .val (.ref b1), .val (.int (2 : Int32)), .unset] [(.int nn), (.int p4), (.ref b1)])) τ
      exact κ)
    obtain ⟨_, _, ⟨T91, Lx91, kx91, nx91⟩, -, X91, ⟨Lc91, hQ91, l91, y91, z91⟩, st91⟩ := Jvm.LawKit.callS X89 hx (y := (⟨"coppice/marshal/context/NamespaceScopeResetPinLaw", "idx", "(II)I"⟩ : MethodName)) hown (mvT hZ (hw _ (List.mem_of_getElem? (i := 39) rfl))) (mvT hZ (hw _ (List.mem_of_getElem? (i := 40) rfl))) (mvT hZ (hw _ (List.mem_of_getElem? (i := 41) rfl))) (mvT hZ (hw _ (List.mem_of_getElem? (i := 42) rfl))) (by decide) (backOf (W := 1) (rm5 l Z a0 hw [] p4 nn T89.heap n0 Zn (own_nz0 N5.1)) hZ (hw _ (List.mem_of_getElem? (i := 42) rfl)) (hw _ (List.mem_of_getElem? (i := 41) rfl)) (by decide) (by decide)) (g := (mkF m 56 #[.val (.int p1), .val (.int p2), .val (.int p3), .val (.int p4), .val (.int p5), .val (.int p6), .val (.int nn), .val (.ref b1), .val (.int (2 : Int32)), .unset] [(.int nn), (.int p4), (.ref b1)])) rfl (by rw [hml]; rfl) (argsL := [(.int p4), (.int nn)]) (rest := [(.ref b1)]) (lenOf pd_12 rfl) rfl (by show 2 * 0 + _ ≤ _; exact Nat.le_of_eq rfl) (hb hby at_56) (fun _ _ => ⟨rfl, rfl, (by decide : 10 + 0 ≤ _), (by decide : 77 + 0 ≤ _)⟩)
    dsimp only [Pt.U, Pt.locs, Pt.cells, Pt.slots] at X91 l91 y91 z91 st91 hQ91
    replace y91 : kx91 = 10 := y91
    replace z91 : nx91 = 77 := z91
    subst y91 z91
    obtain ⟨rfl, Nq91, hs91⟩ := hQ91
    have NN : Fr n0 Lx91 := by rw [l91]; exact Fr.app NN Nq91
    have pre : ∀ τ, Steps p.tables e below (T91.setTop (mkF m 59 #[.val (.int p1), .val (.int p2), .val (.int p3), .val (.int p4), .val (.int p5), .val (.int p6), .val (.int nn), .val (.ref b1), .val (.int (2 : Int32)), .unset] [(.int ((p4 &&& (2147483647 : Int32)) % nn)), (.ref b1)])) τ → G τ := fun τ κ => pre τ (st91 τ κ)
    obtain ⟨i2, hi2⟩ : ∃ z : Int32, z = ((p4 &&& (2147483647 : Int32)) % nn) := ⟨_, rfl⟩
    have pre : ∀ τ, Steps p.tables e below (T91.setTop (mkF m 59 #[.val (.int p1), .val (.int p2), .val (.int p3), .val (.int p4), .val (.int p5), .val (.int p6), .val (.int nn), .val (.ref b1), .val (.int (2 : Int32)), .unset] [(.int i2), (.ref b1)])) τ → G τ := by subst hi2; exact pre
    have b_i2 : ¬ i2 < 0 ∧ i2 < nn := by rw [hi2]; exact own_idx N5.1
    have pre : ∀ τ, Steps p.tables e below (T91.setTop (mkF m 61 #[.val (.int p1), .val (.int p2), .val (.int p3), .val (.int p4), .val (.int p5), .val (.int p6), .val (.int nn), .val (.ref b1), .val (.int (2 : Int32)), .unset] [(.int p5), (.int i2), (.ref b1)])) τ → G τ := fun τ κ => pre τ (by
      refine XS.iload X91.here hx rfl (hb hby at_59) rfl ?_
      show Steps p.tables e below (T91.setTop (mkF m 61 #[.val (.int p1), .val (.int p2), .val (.int p3), .val (.int p4), .val (.int p5), .val (.int p6), .val (.int nn), .val (.ref b1), .val (.int (2 : Int32)), .unset] [(.int p5), (.int i2), (.ref b1)])) τ
      exact κ)
    obtain ⟨_, _, ⟨T92, Lx92, kx92, nx92⟩, -, X92, hS2, hg2, ⟨Lc92, hQ92, l92, y92, z92, HRc⟩, st92⟩ := Jvm.RoadKit.callSS X91 hx (y := (⟨"coppice/marshal/context/NamespaceScopeResetPinLaw", "pick", "(I)Ljava/lang/String;"⟩ : MethodName)) hown (mvT hZ (hw _ (List.mem_of_getElem? (i := 44) rfl))) (mvT hZ (hw _ (List.mem_of_getElem? (i := 45) rfl))) (mvT hZ (hw _ (List.mem_of_getElem? (i := 41) rfl))) (mvT hZ (hw _ (List.mem_of_getElem? (i := 46) rfl))) (by decide) (backOfSH (W := 2) (rm6 l Z a0 hw hEL wS [] p5 cw T89.heap n0 Zn S_c hcw) hZ (hw _ (List.mem_of_getElem? (i := 46) rfl)) (hw _ (List.mem_of_getElem? (i := 41) rfl)) (by decide) (by decide) hEL H) (g := (mkF m 61 #[.val (.int p1), .val (.int p2), .val (.int p3), .val (.int p4), .val (.int p5), .val (.int p6), .val (.int nn), .val (.ref b1), .val (.int (2 : Int32)), .unset] [(.int p5), (.int i2), (.ref b1)])) rfl (by rw [hml]; rfl) (argsL := [(.int p5)]) (rest := [(.int i2), (.ref b1)]) (lenOf pd_11 rfl) rfl (by show 2 * 0 + _ ≤ _; exact Nat.le_of_eq rfl) (hb hby at_61) (fun _ _ => ⟨rfl, hs91, (by decide : 10 + 2 ≤ _), (by decide : 77 + 16 ≤ _)⟩)
    dsimp only [Pt.U, Pt.locs, Pt.cells, Pt.slots] at hS2 hg2 HRc
    have hkT := Nat.le_trans hk (Nat.le_of_eq (congrArg Array.size (Eq.symm hs91)))
    dsimp only [Pt.U, Pt.locs, Pt.cells, Pt.slots] at X92 l92 y92 z92 st92 hQ92
    replace y92 : kx92 = 12 := y92
    replace z92 : nx92 = 93 := z92
    subst y92 z92
    obtain ⟨r_92, tr_92, rfl, Nq92, Kc92, F_r_92⟩ := hQ92
    have NN : Fr n0 Lx92 := by rw [l92]; exact Fr.app NN Nq92
    obtain ⟨X92, hS, hZ, hown⟩ := rebS hS hkT X92 hS2 hg2 hZ hown
    have hk := Nat.le_refl T92.heap.size
    have HR := HR.trans HRc
    have H := HR.1
    have Nss : ∀ x ∈ ([] : List Addr), own_ns Z T89.heap x := all0
    have S_c : Sta Z T92.heap "java/lang/String" "COMPACT_STRINGS" "Z" (.int cw) := own_sta_keepN S_c Kc92 Nss
    have E_b1 : Exa Z T92.heap b1 "coppice/marshal/context/NamespaceScope" := E_b1.keep Kc92
    have F_r_88 : own_S Z T92.heap (.ref r_88) (some tr_88) := own_S_keep F_r_88 Kc92 Nss
    have E_o : Exa Z T92.heap b1 "coppice/marshal/context/NamespaceScope" := E_o.keep Kc92
    have F_un : Fld Z T92.heap b1 "coppice/marshal/context/NamespaceScope" "undoNamespaces" "[I" (.ref un_2) := F_un.keep Kc92 nin0
    have F_up : Fld Z T92.heap b1 "coppice/marshal/context/NamespaceScope" "undoPrefixes" "[Ljava/lang/String;" (.ref up_2) := F_up.keep Kc92 nin0
    have F_pf : Fld Z T92.heap b1 "coppice/marshal/context/NamespaceScope" "prefixes" "[Ljava/lang/String;" (.ref pf_2) := F_pf.keep Kc92 nin0
    have F_uc : Fld Z T92.heap b1 "coppice/marshal/context/NamespaceScope" "undoCount" "I" (.int z1.2.2.2) := F_uc.keep Kc92 nin0
    have V_un : Arv Z T92.heap un_2 ku_2 .int (16 : Int32) z1.2.1 (.int (0 : Int32)) := V_un.keep Kc92 nin0
    have V_up : Arv Z T92.heap up_2 kp_2 (.object "java/lang/String") (16 : Int32) upz_89 .null := V_up.keep Kc92 nin0
    have V_pf : Arv Z T92.heap pf_2 kf_2 (.object "java/lang/String") nn pfz_89 .null := V_pf.keep Kc92 nin0
    have L_up : own_SL Z T92.heap upz_89 z1.2.2.1 := own_SL_keep L_up Kc92 Nss
    have L_pf : own_SL Z T92.heap pfz_89 z1.1 := own_SL_keep L_pf Kc92 Nss
    have Zn : n0 ≤ T92.heap.size := Nat.le_trans Zn Kc92.1
    have pre : ∀ τ, Steps p.tables e below (T92.setTop (mkF m 64 #[.val (.int p1), .val (.int p2), .val (.int p3), .val (.int p4), .val (.int p5), .val (.int p6), .val (.int nn), .val (.ref b1), .val (.int (2 : Int32)), .unset] [(.ref r_92), (.int i2), (.ref b1)])) τ → G τ := fun τ κ => pre τ (st92.trans κ)
    obtain ⟨cq93, kq93, q93a, q93b, q93c⟩ := isOf hZ rfl E_b1
    obtain ⟨_, _, ⟨T93, Lx93, kx93, nx93⟩, -, X93, ⟨Lc93, hQ93, l93, y93, z93⟩, st93⟩ := X92.virtualBack hx (y := (⟨"coppice/marshal/context/NamespaceScope", "declare", "(ILjava/lang/String;)V"⟩ : MethodName)) (z := (⟨"coppice/marshal/context/NamespaceScope", "declare", "(ILjava/lang/String;)V"⟩ : MethodName)) hown (mvT hZ (hw _ (List.mem_of_getElem? (i := 65) rfl))) (mvT hZ (hw _ (List.mem_of_getElem? (i := 66) rfl))) (notFace_of_selects (args := #[]) (mvT hZ (hw _ (List.mem_of_getElem? (i := 68) rfl)))) (mvT hZ (hw _ (List.mem_of_getElem? (i := 68) rfl))) (mvT hZ (hw _ (List.mem_of_getElem? (i := 67) rfl))) (by decide) (backOf (W := 0) (rm11 l Z a0 hw [] b1 i2 r_92 un_2 up_2 pf_2 ku_2 kp_2 kf_2 nn z1 upz_89 pfz_89 tr_92 cw ((0 + nn.toInt) : Int) T92.heap n0 Zn g_b1 gn_un_2 gn_up_2 gn_pf_2 E_b1 F_un F_up F_pf F_uc V_un V_up V_pf L_up L_pf O_up_2 O_pf_2 ne_b1_un_2 ne_b1_up_2 ne_b1_pf_2 ne_un__up_2 ne_un__pf_2 ne_up__pf_2 F_r_92 S_c hcw b_i2 ⟨Jz1.1, Jz1.2.1⟩ (by omega) Jz1.2.2 hlp_89 hlf_89) hZ (hw _ (List.mem_of_getElem? (i := 69) rfl)) (hw _ (List.mem_of_getElem? (i := 2) rfl)) (by decide) (by decide)) q93a q93c (g := (mkF m 64 #[.val (.int p1), .val (.int p2), .val (.int p3), .val (.int p4), .val (.int p5), .val (.int p6), .val (.int nn), .val (.ref b1), .val (.int (2 : Int32)), .unset] [(.ref r_92), (.int i2), (.ref b1)])) rfl (by rw [hml]; rfl) (Steps.refl _) (argsL := [(.int i2), (.ref r_92)]) (rest := []) (lenOf pd_1 rfl) rfl (by show 2 * 0 + _ ≤ _; exact Nat.le_of_eq rfl) (hb hby at_64) (fun _ _ => ⟨rfl, rfl, (by decide : 12 + 0 ≤ _), (by decide : 93 + 0 ≤ _)⟩)
    dsimp only [Pt.U, Pt.locs, Pt.cells, Pt.slots] at X93 l93 y93 z93 st93 hQ93
    replace y93 : kx93 = 12 := y93
    replace z93 : nx93 = 93 := z93
    subst y93 z93
    obtain ⟨upz_93, pfz_93, rfl, Nq93, Kc93, E_o_93, F_un_93, F_up_93, F_pf_93, F_uc_93, V_un_93, V_up_93, V_pf_93, L_up_93, L_pf_93, hlp_93, hlf_93⟩ := hQ93
    have NN : Fr n0 Lx93 := by rw [l93]; exact Fr.app NN Nq93
    have Nss : ∀ x ∈ [b1, un_2, up_2, pf_2], own_ns Z T92.heap x := (allS (own_nsE E_b1 (hw _ (List.mem_of_getElem? (i := 1) rfl)) (by decide) (by decide)) (allS (own_nsV V_un (by decide)) (allS (own_nsV V_up (by decide)) (allS (own_nsV V_pf (by decide)) all0))))
    have hk := Nat.le_trans hk Kc93.1
    have HR := HR.trans (CHr.keep Kc93 (fun x hx => own_safe hZ.alike (Nss x hx)) H)
    have H := HR.1
    have S_c : Sta Z T93.heap "java/lang/String" "COMPACT_STRINGS" "Z" (.int cw) := own_sta_keepN S_c Kc93 Nss
    have E_b1 : Exa Z T93.heap b1 "coppice/marshal/context/NamespaceScope" := E_b1.keep Kc93
    have F_r_88 : own_S Z T93.heap (.ref r_88) (some tr_88) := own_S_keep F_r_88 Kc93 Nss
    have E_o : Exa Z T93.heap b1 "coppice/marshal/context/NamespaceScope" := E_o.keep Kc93
    have L_up : own_SL Z T93.heap upz_89 z1.2.2.1 := own_SL_keep L_up Kc93 Nss
    have L_pf : own_SL Z T93.heap pfz_89 z1.1 := own_SL_keep L_pf Kc93 Nss
    have F_r_92 : own_S Z T93.heap (.ref r_92) (some tr_92) := own_S_keep F_r_92 Kc93 Nss
    have Zn : n0 ≤ T93.heap.size := Nat.le_trans Zn Kc93.1
    have pre : ∀ τ, Steps p.tables e below (T93.setTop (mkF m 67 #[.val (.int p1), .val (.int p2), .val (.int p3), .val (.int p4), .val (.int p5), .val (.int p6), .val (.int nn), .val (.ref b1), .val (.int (2 : Int32)), .unset] [])) τ → G τ := fun τ κ => pre τ (st93.trans κ)
    obtain ⟨z2, hz2⟩ : ∃ q : own_ST, q = own_de tr_92 i2 nn z1 := ⟨_, rfl⟩
    have E_o := E_o_93
    have F_un := F_un_93
    have F_up := F_up_93
    have F_pf := F_pf_93
    have F_uc : Fld Z T93.heap b1 "coppice/marshal/context/NamespaceScope" "undoCount" "I" (.int z2.2.2.2) := by rw [hz2]; exact F_uc_93
    have V_un : Arv Z T93.heap un_2 ku_2 .int (16 : Int32) z2.2.1 (.int (0 : Int32)) := by rw [hz2]; exact V_un_93
    have V_up := V_up_93
    have V_pf := V_pf_93
    have L_up : own_SL Z T93.heap upz_93 z2.2.2.1 := by rw [hz2]; exact L_up_93
    have L_pf : own_SL Z T93.heap pfz_93 z2.1 := by rw [hz2]; exact L_pf_93
    have Jz2 : own_J z2 ((0 + nn.toInt) + nn.toInt) := by rw [hz2]; exact own_Jde b_i2 Jz1 (by omega)
    have pre : ∀ τ, Steps p.tables e below (T93.setTop (mkF m 70 #[.val (.int p1), .val (.int p2), .val (.int p3), .val (.int p4), .val (.int p5), .val (.int p6), .val (.int nn), .val (.ref b1), .val (.int (2 : Int32)), .unset] [(.int (3 : Int32)), (.int (2 : Int32))])) τ → G τ := fun τ κ => pre τ (by
      refine XS.iload X93.here hx rfl (hb hby at_67) rfl ?_
      show Steps p.tables e below (T93.setTop (mkF m 69 #[.val (.int p1), .val (.int p2), .val (.int p3), .val (.int p4), .val (.int p5), .val (.int p6), .val (.int nn), .val (.ref b1), .val (.int (2 : Int32)), .unset] [(.int (2 : Int32))])) τ
      refine XS.iconst X93.here hx rfl (hb hby at_69) ?_
      show Steps p.tables e below (T93.setTop (mkF m 70 #[.val (.int p1), .val (.int p2), .val (.int p3), .val (.int p4), .val (.int p5), .val (.int p6), .val (.int nn), .val (.ref b1), .val (.int (2 : Int32)), .unset] [(.int (3 : Int32)), (.int (2 : Int32))])) τ
      exact κ)
    have hc94 : (2 : Int32) < (3 : Int32) := (by decide)
    have pre : ∀ τ, Steps p.tables e below (T93.setTop (mkF m 95 #[.val (.int p1), .val (.int p2), .val (.int p3), .val (.int p4), .val (.int p5), .val (.int p6), .val (.int nn), .val (.ref b1), .val (.int (2 : Int32)), .unset] [(.ref b1)])) τ → G τ := fun τ κ => pre τ (by
      refine XS.icmpYes X93.here hx rfl (pc0 := 70) (pc' := 93) rfl (hb hby at_70) rfl (tlt hc94).1 (by decide) (by decide) ?_
      show Steps p.tables e below (T93.setTop (mkF m 93 #[.val (.int p1), .val (.int p2), .val (.int p3), .val (.int p4), .val (.int p5), .val (.int p6), .val (.int nn), .val (.ref b1), .val (.int (2 : Int32)), .unset] [])) τ
      refine XS.aload X93.here hx rfl (hb hby at_93) rfl rfl ?_
      show Steps p.tables e below (T93.setTop (mkF m 95 #[.val (.int p1), .val (.int p2), .val (.int p3), .val (.int p4), .val (.int p5), .val (.int p6), .val (.int nn), .val (.ref b1), .val (.int (2 : Int32)), .unset] [(.ref b1)])) τ
      exact κ)
    obtain ⟨cq95, kq95, q95a, q95b, q95c⟩ := isOf hZ rfl E_b1
    obtain ⟨_, _, ⟨T95, Lx95, kx95, nx95⟩, -, X95, hS2, hg2, ⟨Lc95, hQ95, l95, y95, z95, HRc⟩, st95⟩ := X93.virtualBackS hx (y := (⟨"coppice/marshal/context/NamespaceScope", "reset", "()V"⟩ : MethodName)) (z := (⟨"coppice/marshal/context/NamespaceScope", "reset", "()V"⟩ : MethodName)) hown (mvT hZ (hw _ (List.mem_of_getElem? (i := 83) rfl))) (mvT hZ (hw _ (List.mem_of_getElem? (i := 19) rfl))) (notFace_of_selects (args := #[]) (mvT hZ (hw _ (List.mem_of_getElem? (i := 21) rfl)))) (mvT hZ (hw _ (List.mem_of_getElem? (i := 21) rfl))) (mvT hZ (hw _ (List.mem_of_getElem? (i := 20) rfl))) (by decide) (backOfSH (W := 0) (rm3 l Z a0 hw hEL wS [] b1 un_2 up_2 pf_2 kf_2 nn pfz_93 (.int z2.2.2.2) T93.heap n0 Zn g_b1 gn_pf_2 E_b1 F_un F_up F_pf F_uc V_pf O_pf_2 ne_b1_pf_2 N5.1 hlf_93) hZ (hw _ (List.mem_of_getElem? (i := 22) rfl)) (hw _ (List.mem_of_getElem? (i := 2) rfl)) (by decide) (by decide) hEL H) q95a q95c (g := (mkF m 95 #[.val (.int p1), .val (.int p2), .val (.int p3), .val (.int p4), .val (.int p5), .val (.int p6), .val (.int nn), .val (.ref b1), .val (.int (2 : Int32)), .unset] [(.ref b1)])) rfl (by rw [hml]; rfl) (Steps.refl _) (argsL := []) (rest := []) (lenOf pd_8 rfl) rfl (by show 2 * 0 + _ ≤ _; exact Nat.le_of_eq rfl) (hb hby at_95) (fun _ _ => ⟨rfl, rfl, (by decide : 12 + 4 ≤ _), (by decide : 93 + 20 ≤ _)⟩)
    dsimp only [Pt.U, Pt.locs, Pt.cells, Pt.slots] at hS2 hg2 HRc
    have hkT := hk
    dsimp only [Pt.U, Pt.locs, Pt.cells, Pt.slots] at X95 l95 y95 z95 st95 hQ95
    replace y95 : kx95 = 16 := y95
    replace z95 : nx95 = 113 := z95
    subst y95 z95
    obtain ⟨pfz_95, rfl, Nq95, Kc95, E_o_95, F_un_95, F_up_95, F_pf_95, F_uc_95, V_pf_95, L_pf_95, hlz_95⟩ := hQ95
    have NN : Fr n0 Lx95 := by rw [l95]; exact Fr.app NN Nq95
    obtain ⟨X95, hS, hZ, hown⟩ := rebS hS hkT X95 hS2 hg2 hZ hown
    have hk := Nat.le_refl T95.heap.size
    have HR := HR.trans HRc
    have H := HR.1
    have Nss : ∀ x ∈ [b1, pf_2], own_ns Z T93.heap x := (allS (own_nsE E_b1 (hw _ (List.mem_of_getElem? (i := 1) rfl)) (by decide) (by decide)) (allS (own_nsV V_pf (by decide)) all0))
    have S_c : Sta Z T95.heap "java/lang/String" "COMPACT_STRINGS" "Z" (.int cw) := own_sta_keepN S_c Kc95 Nss
    have E_b1 : Exa Z T95.heap b1 "coppice/marshal/context/NamespaceScope" := E_b1.keep Kc95
    have F_r_88 : own_S Z T95.heap (.ref r_88) (some tr_88) := own_S_keep F_r_88 Kc95 Nss
    have F_r_92 : own_S Z T95.heap (.ref r_92) (some tr_92) := own_S_keep F_r_92 Kc95 Nss
    have E_o : Exa Z T95.heap b1 "coppice/marshal/context/NamespaceScope" := E_o.keep Kc95
    have V_un : Arv Z T95.heap un_2 ku_2 .int (16 : Int32) z2.2.1 (.int (0 : Int32)) := V_un.keep Kc95 (ninS (Ne.symm ne_b1_un_2) (ninS ne_un__pf_2 nin0))
    have V_up : Arv Z T95.heap up_2 kp_2 (.object "java/lang/String") (16 : Int32) upz_93 .null := V_up.keep Kc95 (ninS (Ne.symm ne_b1_up_2) (ninS ne_up__pf_2 nin0))
    have L_up : own_SL Z T95.heap upz_93 z2.2.2.1 := own_SL_keep L_up Kc95 Nss
    have L_pf : own_SL Z T95.heap pfz_93 z2.1 := own_SL_keep L_pf Kc95 Nss
    have Zn : n0 ≤ T95.heap.size := Nat.le_trans Zn Kc95.1
    have pre : ∀ τ, Steps p.tables e below (T95.setTop (mkF m 98 #[.val (.int p1), .val (.int p2), .val (.int p3), .val (.int p4), .val (.int p5), .val (.int p6), .val (.int nn), .val (.ref b1), .val (.int (2 : Int32)), .unset] [])) τ → G τ := fun τ κ => pre τ (st95.trans κ)
    have pre : ∀ τ, Steps p.tables e below (T95.setTop (mkF m 100 #[.val (.int p1), .val (.int p2), .val (.int p3), .val (.int p4), .val (.int p5), .val (.int p6), .val (.int nn), .val (.ref b1), .val (.int (2 : Int32)), .unset] [(.ref b1)])) τ → G τ := fun τ κ => pre τ (by
      refine XS.aload X95.here hx rfl (hb hby at_98) rfl rfl ?_
      show Steps p.tables e below (T95.setTop (mkF m 100 #[.val (.int p1), .val (.int p2), .val (.int p3), .val (.int p4), .val (.int p5), .val (.int p6), .val (.int nn), .val (.ref b1), .val (.int (2 : Int32)), .unset] [(.ref b1)])) τ
      exact κ)
    obtain ⟨cq96, kq96, q96a, q96b, q96c⟩ := isOf hZ rfl E_b1
    obtain ⟨_, _, ⟨T96, Lx96, kx96, nx96⟩, -, X96, ⟨Lc96, hQ96, l96, y96, z96⟩, st96⟩ := X95.virtualBack hx (y := (⟨"coppice/marshal/context/NamespaceScope", "mark", "()I"⟩ : MethodName)) (z := (⟨"coppice/marshal/context/NamespaceScope", "mark", "()I"⟩ : MethodName)) hown (mvT hZ (hw _ (List.mem_of_getElem? (i := 84) rfl))) (mvT hZ (hw _ (List.mem_of_getElem? (i := 85) rfl))) (notFace_of_selects (args := #[]) (mvT hZ (hw _ (List.mem_of_getElem? (i := 87) rfl)))) (mvT hZ (hw _ (List.mem_of_getElem? (i := 87) rfl))) (mvT hZ (hw _ (List.mem_of_getElem? (i := 86) rfl))) (by decide) (backOf (W := 0) (rm15 l Z a0 hw [] b1 (0 : Int32) T95.heap n0 Zn F_uc_95) hZ (hw _ (List.mem_of_getElem? (i := 88) rfl)) (hw _ (List.mem_of_getElem? (i := 2) rfl)) (by decide) (by decide)) q96a q96c (g := (mkF m 100 #[.val (.int p1), .val (.int p2), .val (.int p3), .val (.int p4), .val (.int p5), .val (.int p6), .val (.int nn), .val (.ref b1), .val (.int (2 : Int32)), .unset] [(.ref b1)])) rfl (by rw [hml]; rfl) (Steps.refl _) (argsL := []) (rest := []) (lenOf pd_10 rfl) rfl (by show 2 * 0 + _ ≤ _; exact Nat.le_of_eq rfl) (hb hby at_100) (fun _ _ => ⟨rfl, rfl, (by decide : 16 + 0 ≤ _), (by decide : 113 + 0 ≤ _)⟩)
    dsimp only [Pt.U, Pt.locs, Pt.cells, Pt.slots] at X96 l96 y96 z96 st96 hQ96
    replace y96 : kx96 = 16 := y96
    replace z96 : nx96 = 113 := z96
    subst y96 z96
    obtain ⟨rfl, Nq96, hs96⟩ := hQ96
    have NN : Fr n0 Lx96 := by rw [l96]; exact Fr.app NN Nq96
    have pre : ∀ τ, Steps p.tables e below (T96.setTop (mkF m 103 #[.val (.int p1), .val (.int p2), .val (.int p3), .val (.int p4), .val (.int p5), .val (.int p6), .val (.int nn), .val (.ref b1), .val (.int (2 : Int32)), .unset] [(.int (0 : Int32))])) τ → G τ := fun τ κ => pre τ (st96.trans κ)
    have hc97 : (0 : Int32) = (0 : Int32) := rfl
    have pre : ∀ τ, Steps p.tables e below (T96.setTop (mkF m 115 #[.val (.int p1), .val (.int p2), .val (.int p3), .val (.int p4), .val (.int p5), .val (.int p6), .val (.int nn), .val (.ref b1), .val (.int (2 : Int32)), .val (.int (1 : Int32))] [(.int (1 : Int32))])) τ → G τ := fun τ κ => pre τ (by
      refine XS.ifNo X96.here hx rfl (hb hby at_103) rfl ((if0 _ _).trans (teq hc97).2) ?_
      show Steps p.tables e below (T96.setTop (mkF m 106 #[.val (.int p1), .val (.int p2), .val (.int p3), .val (.int p4), .val (.int p5), .val (.int p6), .val (.int nn), .val (.ref b1), .val (.int (2 : Int32)), .unset] [])) τ
      refine XS.iconst X96.here hx rfl (hb hby at_106) ?_
      show Steps p.tables e below (T96.setTop (mkF m 107 #[.val (.int p1), .val (.int p2), .val (.int p3), .val (.int p4), .val (.int p5), .val (.int p6), .val (.int nn), .val (.ref b1), .val (.int (2 : Int32)), .unset] [(.int (1 : Int32))])) τ
      refine XS.goto X96.here hx rfl (pc0 := 107) (pc' := 111) rfl (hb hby at_107) (by decide) (by decide) ?_
      show Steps p.tables e below (T96.setTop (mkF m 111 #[.val (.int p1), .val (.int p2), .val (.int p3), .val (.int p4), .val (.int p5), .val (.int p6), .val (.int nn), .val (.ref b1), .val (.int (2 : Int32)), .unset] [(.int (1 : Int32))])) τ
      refine XS.istore X96.here hx rfl (hb hby at_111) rfl (l' := #[.val (.int p1), .val (.int p2), .val (.int p3), .val (.int p4), .val (.int p5), .val (.int p6), .val (.int nn), .val (.ref b1), .val (.int (2 : Int32)), .val (.int (1 : Int32))]) rfl ?_
      show Steps p.tables e below (T96.setTop (mkF m 113 #[.val (.int p1), .val (.int p2), .val (.int p3), .val (.int p4), .val (.int p5), .val (.int p6), .val (.int nn), .val (.ref b1), .val (.int (2 : Int32)), .val (.int (1 : Int32))] [])) τ
      refine XS.iload X96.here hx rfl (hb hby at_113) rfl ?_
      show Steps p.tables e below (T96.setTop (mkF m 115 #[.val (.int p1), .val (.int p2), .val (.int p3), .val (.int p4), .val (.int p5), .val (.int p6), .val (.int nn), .val (.ref b1), .val (.int (2 : Int32)), .val (.int (1 : Int32))] [(.int (1 : Int32))])) τ
      exact κ)
    have hc98 : ¬ ((1 : Int32) = (0 : Int32)) := (by decide)
    have pre : ∀ τ, Steps p.tables e below (T96.setTop (mkF m 118 #[.val (.int p1), .val (.int p2), .val (.int p3), .val (.int p4), .val (.int p5), .val (.int p6), .val (.int nn), .val (.ref b1), .val (.int (2 : Int32)), .val (.int (1 : Int32))] [])) τ → G τ := fun τ κ => pre τ (by
      refine XS.ifNo X96.here hx rfl (hb hby at_115) rfl ((if0 _ _).trans (feq hc98).1) ?_
      show Steps p.tables e below (T96.setTop (mkF m 118 #[.val (.int p1), .val (.int p2), .val (.int p3), .val (.int p4), .val (.int p5), .val (.int p6), .val (.int nn), .val (.ref b1), .val (.int (2 : Int32)), .val (.int (1 : Int32))] [])) τ
      exact κ)
    obtain ⟨as99, T99, h99, kn99, bs99, kc99, X99, e99, E99, hS, hk, hZ, hown, Ea99, Ca99, Va99, Ba99, la99, lb99, HRn99, Li99, sf99, st99⟩ := ldcCH X96 hx hZ hown (hw _ (List.mem_of_getElem? (i := 82) rfl)) wS hs96 hS hk hEL (List.mem_of_getElem? (i := 2) rfl) H (vs := []) (z := (0 : Int32)) ⟨by decide, rfl⟩ (by decide) rfl (g := (mkF m 118 #[.val (.int p1), .val (.int p2), .val (.int p3), .val (.int p4), .val (.int p5), .val (.int p6), .val (.int nn), .val (.ref b1), .val (.int (2 : Int32)), .val (.int (1 : Int32))] [])) rfl (hb hby at_118) (n := 0) (by decide) (by decide) (by decide) (by decide)
    have S_c : Sta Z h99 "java/lang/String" "COMPACT_STRINGS" "Z" (.int cw) := S_c.ext E99
    have E_b1 : Exa Z h99 b1 "coppice/marshal/context/NamespaceScope" := E_b1.ext E99
    have F_r_88 : own_S Z h99 (.ref r_88) (some tr_88) := own_S_ext F_r_88 E99
    have F_r_92 : own_S Z h99 (.ref r_92) (some tr_92) := own_S_ext F_r_92 E99
    have E_o : Exa Z h99 b1 "coppice/marshal/context/NamespaceScope" := E_o.ext E99
    have V_un : Arv Z h99 un_2 ku_2 .int (16 : Int32) z2.2.1 (.int (0 : Int32)) := V_un.ext E99
    have V_up : Arv Z h99 up_2 kp_2 (.object "java/lang/String") (16 : Int32) upz_93 .null := V_up.ext E99
    have L_up : own_SL Z h99 upz_93 z2.2.2.1 := own_SL_ext L_up E99
    have L_pf : own_SL Z h99 pfz_93 z2.1 := own_SL_ext L_pf E99
    have E_o_95 : Exa Z h99 b1 "coppice/marshal/context/NamespaceScope" := E_o_95.ext E99
    have F_un_95 : Fld Z h99 b1 "coppice/marshal/context/NamespaceScope" "undoNamespaces" "[I" (.ref un_2) := F_un_95.ext E99
    have F_up_95 : Fld Z h99 b1 "coppice/marshal/context/NamespaceScope" "undoPrefixes" "[Ljava/lang/String;" (.ref up_2) := F_up_95.ext E99
    have F_pf_95 : Fld Z h99 b1 "coppice/marshal/context/NamespaceScope" "prefixes" "[Ljava/lang/String;" (.ref pf_2) := F_pf_95.ext E99
    have F_uc_95 : Fld Z h99 b1 "coppice/marshal/context/NamespaceScope" "undoCount" "I" (.int (0 : Int32)) := F_uc_95.ext E99
    have V_pf_95 : Arv Z h99 pf_2 kf_2 (.object "java/lang/String") nn pfz_95 .null := V_pf_95.ext E99
    have L_pf_95 : own_SL Z h99 pfz_95 (own_r0 nn) := own_SL_ext L_pf_95 E99
    have Zn : n0 ≤ h99.size := Nat.le_trans Zn E99.1
    have HR := HR.trans HRn99
    have H := HR.1
    have F_s99 : own_S Z h99 (.ref as99) (some []) := Or.inr ⟨_, _, _, _, _, _, rfl, rfl, (hw _ (List.mem_of_getElem? (i := 29) rfl)), Ea99, Ca99, Va99, Ba99, rfl⟩
    have pre : ∀ τ, Steps p.tables e below (T99.setTop (mkF m 120 #[.val (.int p1), .val (.int p2), .val (.int p3), .val (.int p4), .val (.int p5), .val (.int p6), .val (.int nn), .val (.ref b1), .val (.int (2 : Int32)), .val (.int (1 : Int32))] [(.ref as99)])) τ → G τ := fun τ κ => pre τ (st99 τ κ)
    have pre : ∀ τ, Steps p.tables e below (T99.setTop (mkF m 123 #[.val (.int p1), .val (.int p2), .val (.int p3), .val (.int p4), .val (.int p5), .val (.int p6), .val (.int nn), .val (.ref b1), .val (.int (2 : Int32)), .val (.int (1 : Int32))] [(.int (0 : Int32)), (.ref b1), (.ref as99)])) τ → G τ := fun τ κ => pre τ (by
      refine XS.aload X99.here hx rfl (hb hby at_120) rfl rfl ?_
      show Steps p.tables e below (T99.setTop (mkF m 122 #[.val (.int p1), .val (.int p2), .val (.int p3), .val (.int p4), .val (.int p5), .val (.int p6), .val (.int nn), .val (.ref b1), .val (.int (2 : Int32)), .val (.int (1 : Int32))] [(.ref b1), (.ref as99)])) τ
      refine XS.iconst X99.here hx rfl (hb hby at_122) ?_
      show Steps p.tables e below (T99.setTop (mkF m 123 #[.val (.int p1), .val (.int p2), .val (.int p3), .val (.int p4), .val (.int p5), .val (.int p6), .val (.int nn), .val (.ref b1), .val (.int (2 : Int32)), .val (.int (1 : Int32))] [(.int (0 : Int32)), (.ref b1), (.ref as99)])) τ
      exact κ)
    obtain ⟨cq100, kq100, q100a, q100b, q100c⟩ := isOf hZ e99 E_b1
    obtain ⟨_, _, ⟨T100, Lx100, kx100, nx100⟩, -, X100, ⟨Lc100, hQ100, l100, y100, z100⟩, st100⟩ := X99.virtualBack hx (y := (⟨"coppice/marshal/context/NamespaceScope", "prefix", "(I)Ljava/lang/String;"⟩ : MethodName)) (z := (⟨"coppice/marshal/context/NamespaceScope", "prefix", "(I)Ljava/lang/String;"⟩ : MethodName)) hown (mvT hZ (hw _ (List.mem_of_getElem? (i := 89) rfl))) (mvT hZ (hw _ (List.mem_of_getElem? (i := 90) rfl))) (notFace_of_selects (args := #[]) (mvT hZ (hw _ (List.mem_of_getElem? (i := 92) rfl)))) (mvT hZ (hw _ (List.mem_of_getElem? (i := 92) rfl))) (mvT hZ (hw _ (List.mem_of_getElem? (i := 91) rfl))) (by decide) (backOf (W := 1) (rm16 l Z a0 hw [] b1 (0 : Int32) pf_2 kf_2 nn pfz_95 (own_r0 nn) h99 n0 Zn F_pf_95 V_pf_95 L_pf_95 (own_b01 N5.1).1) hZ (hw _ (List.mem_of_getElem? (i := 93) rfl)) (hw _ (List.mem_of_getElem? (i := 2) rfl)) (by decide) (by decide)) q100a q100c (g := (mkF m 123 #[.val (.int p1), .val (.int p2), .val (.int p3), .val (.int p4), .val (.int p5), .val (.int p6), .val (.int nn), .val (.ref b1), .val (.int (2 : Int32)), .val (.int (1 : Int32))] [(.int (0 : Int32)), (.ref b1), (.ref as99)])) rfl (by rw [hml]; rfl) (Steps.refl _) (argsL := [(.int (0 : Int32))]) (rest := [(.ref as99)]) (lenOf pd_11 rfl) rfl (by show 2 * 0 + _ ≤ _; exact Nat.le_of_eq rfl) (hb hby at_123) (fun _ _ => ⟨rfl, e99, (by decide : 18 + 0 ≤ _), (by decide : 117 + 0 ≤ _)⟩)
    dsimp only [Pt.U, Pt.locs, Pt.cells, Pt.slots] at X100 l100 y100 z100 st100 hQ100
    replace y100 : kx100 = 18 := y100
    replace z100 : nx100 = 117 := z100
    subst y100 z100
    obtain ⟨rfl, Nq100, hs100, F_r_100⟩ := hQ100
    have NN : Fr n0 Lx100 := by rw [l100]; exact Fr.app NN Nq100
    have F_r_100 : own_S Z h99 (pfz_95.getD ((0 : Int32)).toNatClampNeg .null) ((own_r0 nn).getD ((0 : Int32)).toNatClampNeg none) := hs100 ▸ F_r_100
    have pre : ∀ τ, Steps p.tables e below (T100.setTop (mkF m 126 #[.val (.int p1), .val (.int p2), .val (.int p3), .val (.int p4), .val (.int p5), .val (.int p6), .val (.int nn), .val (.ref b1), .val (.int (2 : Int32)), .val (.int (1 : Int32))] [(pfz_95.getD ((0 : Int32)).toNatClampNeg .null), (.ref as99)])) τ → G τ := fun τ κ => pre τ (st100.trans κ)
    obtain ⟨cq101, kq101, q101a, q101b, q101c⟩ := isOf hZ hs100 (own_S_exa F_s99)
    obtain ⟨_, _, ⟨T101, Lx101, kx101, nx101⟩, -, X101, ⟨Lc101, hQ101, l101, y101, z101⟩, st101⟩ := X100.virtualBack hx (y := (⟨"java/lang/String", "equals", "(Ljava/lang/Object;)Z"⟩ : MethodName)) (z := (⟨"java/lang/String", "equals", "(Ljava/lang/Object;)Z"⟩ : MethodName)) hown (mvT hZ (hw _ (List.mem_of_getElem? (i := 94) rfl))) (mvT hZ (hw _ (List.mem_of_getElem? (i := 71) rfl))) (notFace_of_selects (args := #[]) (mvT hZ (hw _ (List.mem_of_getElem? (i := 73) rfl)))) (mvT hZ (hw _ (List.mem_of_getElem? (i := 73) rfl))) (mvT hZ (hw _ (List.mem_of_getElem? (i := 72) rfl))) (by decide) (backOf (W := 0) (rm12 l Z a0 hw [] as99 (pfz_95.getD ((0 : Int32)).toNatClampNeg .null) [] ((own_r0 nn).getD ((0 : Int32)).toNatClampNeg none) cw h99 n0 Zn F_s99 F_r_100 S_c hcw) hZ (hw _ (List.mem_of_getElem? (i := 74) rfl)) (hw _ (List.mem_of_getElem? (i := 28) rfl)) (by decide) (by decide)) q101a q101c (g := (mkF m 126 #[.val (.int p1), .val (.int p2), .val (.int p3), .val (.int p4), .val (.int p5), .val (.int p6), .val (.int nn), .val (.ref b1), .val (.int (2 : Int32)), .val (.int (1 : Int32))] [(pfz_95.getD ((0 : Int32)).toNatClampNeg .null), (.ref as99)])) rfl (by rw [hml]; rfl) (Steps.refl _) (argsL := [(pfz_95.getD ((0 : Int32)).toNatClampNeg .null)]) (rest := []) (lenOf pd_2 rfl) rfl (by show 2 * 0 + _ ≤ _; exact Nat.le_of_eq rfl) (hb hby at_126) (fun _ _ => ⟨rfl, hs100, (by decide : 18 + 0 ≤ _), (by decide : 117 + 0 ≤ _)⟩)
    dsimp only [Pt.U, Pt.locs, Pt.cells, Pt.slots] at X101 l101 y101 z101 st101 hQ101
    replace y101 : kx101 = 18 := y101
    replace z101 : nx101 = 117 := z101
    subst y101 z101
    obtain ⟨rfl, Nq101, hs101⟩ := hQ101
    have NN : Fr n0 Lx101 := by rw [l101]; exact Fr.app NN Nq101
    have pre : ∀ τ, Steps p.tables e below (T101.setTop (mkF m 129 #[.val (.int p1), .val (.int p2), .val (.int p3), .val (.int p4), .val (.int p5), .val (.int p6), .val (.int nn), .val (.ref b1), .val (.int (2 : Int32)), .val (.int (1 : Int32))] [(.int (own_eqt [] ((own_r0 nn).getD ((0 : Int32)).toNatClampNeg none)))])) τ → G τ := fun τ κ => pre τ (st101.trans κ)
    have hc102 : ¬ ((own_eqt [] ((own_r0 nn).getD ((0 : Int32)).toNatClampNeg none)) = (0 : Int32)) := (own_eqt1 (own_r00 N5.1))
    have pre : ∀ τ, Steps p.tables e below (T101.setTop (mkF m 141 #[.val (.int p1), .val (.int p2), .val (.int p3), .val (.int p4), .val (.int p5), .val (.int p6), .val (.int nn), .val (.ref b1), .val (.int (2 : Int32)), .val (.int (1 : Int32))] [(.int (1 : Int32))])) τ → G τ := fun τ κ => pre τ (by
      refine XS.ifNo X101.here hx rfl (hb hby at_129) rfl ((if0 _ _).trans (feq hc102).1) ?_
      show Steps p.tables e below (T101.setTop (mkF m 132 #[.val (.int p1), .val (.int p2), .val (.int p3), .val (.int p4), .val (.int p5), .val (.int p6), .val (.int nn), .val (.ref b1), .val (.int (2 : Int32)), .val (.int (1 : Int32))] [])) τ
      refine XS.iconst X101.here hx rfl (hb hby at_132) ?_
      show Steps p.tables e below (T101.setTop (mkF m 133 #[.val (.int p1), .val (.int p2), .val (.int p3), .val (.int p4), .val (.int p5), .val (.int p6), .val (.int nn), .val (.ref b1), .val (.int (2 : Int32)), .val (.int (1 : Int32))] [(.int (1 : Int32))])) τ
      refine XS.goto X101.here hx rfl (pc0 := 133) (pc' := 137) rfl (hb hby at_133) (by decide) (by decide) ?_
      show Steps p.tables e below (T101.setTop (mkF m 137 #[.val (.int p1), .val (.int p2), .val (.int p3), .val (.int p4), .val (.int p5), .val (.int p6), .val (.int nn), .val (.ref b1), .val (.int (2 : Int32)), .val (.int (1 : Int32))] [(.int (1 : Int32))])) τ
      refine XS.istore X101.here hx rfl (hb hby at_137) rfl (l' := #[.val (.int p1), .val (.int p2), .val (.int p3), .val (.int p4), .val (.int p5), .val (.int p6), .val (.int nn), .val (.ref b1), .val (.int (2 : Int32)), .val (.int (1 : Int32))]) rfl ?_
      show Steps p.tables e below (T101.setTop (mkF m 139 #[.val (.int p1), .val (.int p2), .val (.int p3), .val (.int p4), .val (.int p5), .val (.int p6), .val (.int nn), .val (.ref b1), .val (.int (2 : Int32)), .val (.int (1 : Int32))] [])) τ
      refine XS.iload X101.here hx rfl (hb hby at_139) rfl ?_
      show Steps p.tables e below (T101.setTop (mkF m 141 #[.val (.int p1), .val (.int p2), .val (.int p3), .val (.int p4), .val (.int p5), .val (.int p6), .val (.int nn), .val (.ref b1), .val (.int (2 : Int32)), .val (.int (1 : Int32))] [(.int (1 : Int32))])) τ
      exact κ)
    have hc103 : ¬ ((1 : Int32) = (0 : Int32)) := (by decide)
    have pre : ∀ τ, Steps p.tables e below (T101.setTop (mkF m 144 #[.val (.int p1), .val (.int p2), .val (.int p3), .val (.int p4), .val (.int p5), .val (.int p6), .val (.int nn), .val (.ref b1), .val (.int (2 : Int32)), .val (.int (1 : Int32))] [])) τ → G τ := fun τ κ => pre τ (by
      refine XS.ifNo X101.here hx rfl (hb hby at_141) rfl ((if0 _ _).trans (feq hc103).1) ?_
      show Steps p.tables e below (T101.setTop (mkF m 144 #[.val (.int p1), .val (.int p2), .val (.int p3), .val (.int p4), .val (.int p5), .val (.int p6), .val (.int nn), .val (.ref b1), .val (.int (2 : Int32)), .val (.int (1 : Int32))] [])) τ
      exact κ)
    obtain ⟨as104, T104, h104, kn104, bs104, kc104, X104, e104, E104, hS, hk, hZ, hown, Ea104, Ca104, Va104, Ba104, la104, lb104, HRn104, Li104, sf104, st104⟩ := ldcCH X101 hx hZ hown (hw _ (List.mem_of_getElem? (i := 95) rfl)) wS hs101 hS hk hEL (List.mem_of_getElem? (i := 3) rfl) H (vs := [(.int (120 : Int32)), (.int (109 : Int32)), (.int (108 : Int32))]) (z := (3 : Int32)) ⟨by decide, rfl⟩ (by decide) rfl (g := (mkF m 144 #[.val (.int p1), .val (.int p2), .val (.int p3), .val (.int p4), .val (.int p5), .val (.int p6), .val (.int nn), .val (.ref b1), .val (.int (2 : Int32)), .val (.int (1 : Int32))] [])) rfl (hb hby at_144) (n := 12) (by decide) (by decide) (by decide) (by decide)
    have S_c : Sta Z h104 "java/lang/String" "COMPACT_STRINGS" "Z" (.int cw) := S_c.ext E104
    have E_b1 : Exa Z h104 b1 "coppice/marshal/context/NamespaceScope" := E_b1.ext E104
    have F_r_88 : own_S Z h104 (.ref r_88) (some tr_88) := own_S_ext F_r_88 E104
    have F_r_92 : own_S Z h104 (.ref r_92) (some tr_92) := own_S_ext F_r_92 E104
    have E_o : Exa Z h104 b1 "coppice/marshal/context/NamespaceScope" := E_o.ext E104
    have V_un : Arv Z h104 un_2 ku_2 .int (16 : Int32) z2.2.1 (.int (0 : Int32)) := V_un.ext E104
    have V_up : Arv Z h104 up_2 kp_2 (.object "java/lang/String") (16 : Int32) upz_93 .null := V_up.ext E104
    have L_up : own_SL Z h104 upz_93 z2.2.2.1 := own_SL_ext L_up E104
    have L_pf : own_SL Z h104 pfz_93 z2.1 := own_SL_ext L_pf E104
    have E_o_95 : Exa Z h104 b1 "coppice/marshal/context/NamespaceScope" := E_o_95.ext E104
    have F_un_95 : Fld Z h104 b1 "coppice/marshal/context/NamespaceScope" "undoNamespaces" "[I" (.ref un_2) := F_un_95.ext E104
    have F_up_95 : Fld Z h104 b1 "coppice/marshal/context/NamespaceScope" "undoPrefixes" "[Ljava/lang/String;" (.ref up_2) := F_up_95.ext E104
    have F_pf_95 : Fld Z h104 b1 "coppice/marshal/context/NamespaceScope" "prefixes" "[Ljava/lang/String;" (.ref pf_2) := F_pf_95.ext E104
    have F_uc_95 : Fld Z h104 b1 "coppice/marshal/context/NamespaceScope" "undoCount" "I" (.int (0 : Int32)) := F_uc_95.ext E104
    have V_pf_95 : Arv Z h104 pf_2 kf_2 (.object "java/lang/String") nn pfz_95 .null := V_pf_95.ext E104
    have L_pf_95 : own_SL Z h104 pfz_95 (own_r0 nn) := own_SL_ext L_pf_95 E104
    have F_s99 : own_S Z h104 (.ref as99) (some []) := own_S_ext F_s99 E104
    have F_r_100 : own_S Z h104 (pfz_95.getD ((0 : Int32)).toNatClampNeg .null) ((own_r0 nn).getD ((0 : Int32)).toNatClampNeg none) := own_S_ext F_r_100 E104
    have Zn : n0 ≤ h104.size := Nat.le_trans Zn E104.1
    have HR := HR.trans HRn104
    have H := HR.1
    have F_s104 : own_S Z h104 (.ref as104) (some [(.int (120 : Int32)), (.int (109 : Int32)), (.int (108 : Int32))]) := Or.inr ⟨_, _, _, _, _, _, rfl, rfl, (hw _ (List.mem_of_getElem? (i := 29) rfl)), Ea104, Ca104, Va104, Ba104, rfl⟩
    have pre : ∀ τ, Steps p.tables e below (T104.setTop (mkF m 146 #[.val (.int p1), .val (.int p2), .val (.int p3), .val (.int p4), .val (.int p5), .val (.int p6), .val (.int nn), .val (.ref b1), .val (.int (2 : Int32)), .val (.int (1 : Int32))] [(.ref as104)])) τ → G τ := fun τ κ => pre τ (st104 τ κ)
    have pre : ∀ τ, Steps p.tables e below (T104.setTop (mkF m 149 #[.val (.int p1), .val (.int p2), .val (.int p3), .val (.int p4), .val (.int p5), .val (.int p6), .val (.int nn), .val (.ref b1), .val (.int (2 : Int32)), .val (.int (1 : Int32))] [(.int (1 : Int32)), (.ref b1), (.ref as104)])) τ → G τ := fun τ κ => pre τ (by
      refine XS.aload X104.here hx rfl (hb hby at_146) rfl rfl ?_
      show Steps p.tables e below (T104.setTop (mkF m 148 #[.val (.int p1), .val (.int p2), .val (.int p3), .val (.int p4), .val (.int p5), .val (.int p6), .val (.int nn), .val (.ref b1), .val (.int (2 : Int32)), .val (.int (1 : Int32))] [(.ref b1), (.ref as104)])) τ
      refine XS.iconst X104.here hx rfl (hb hby at_148) ?_
      show Steps p.tables e below (T104.setTop (mkF m 149 #[.val (.int p1), .val (.int p2), .val (.int p3), .val (.int p4), .val (.int p5), .val (.int p6), .val (.int nn), .val (.ref b1), .val (.int (2 : Int32)), .val (.int (1 : Int32))] [(.int (1 : Int32)), (.ref b1), (.ref as104)])) τ
      exact κ)
    obtain ⟨cq105, kq105, q105a, q105b, q105c⟩ := isOf hZ e104 E_b1
    obtain ⟨_, _, ⟨T105, Lx105, kx105, nx105⟩, -, X105, ⟨Lc105, hQ105, l105, y105, z105⟩, st105⟩ := X104.virtualBack hx (y := (⟨"coppice/marshal/context/NamespaceScope", "prefix", "(I)Ljava/lang/String;"⟩ : MethodName)) (z := (⟨"coppice/marshal/context/NamespaceScope", "prefix", "(I)Ljava/lang/String;"⟩ : MethodName)) hown (mvT hZ (hw _ (List.mem_of_getElem? (i := 89) rfl))) (mvT hZ (hw _ (List.mem_of_getElem? (i := 90) rfl))) (notFace_of_selects (args := #[]) (mvT hZ (hw _ (List.mem_of_getElem? (i := 92) rfl)))) (mvT hZ (hw _ (List.mem_of_getElem? (i := 92) rfl))) (mvT hZ (hw _ (List.mem_of_getElem? (i := 91) rfl))) (by decide) (backOf (W := 1) (rm16 l Z a0 hw [] b1 (1 : Int32) pf_2 kf_2 nn pfz_95 (own_r0 nn) h104 n0 Zn F_pf_95 V_pf_95 L_pf_95 (own_b01 N5.1).2) hZ (hw _ (List.mem_of_getElem? (i := 93) rfl)) (hw _ (List.mem_of_getElem? (i := 2) rfl)) (by decide) (by decide)) q105a q105c (g := (mkF m 149 #[.val (.int p1), .val (.int p2), .val (.int p3), .val (.int p4), .val (.int p5), .val (.int p6), .val (.int nn), .val (.ref b1), .val (.int (2 : Int32)), .val (.int (1 : Int32))] [(.int (1 : Int32)), (.ref b1), (.ref as104)])) rfl (by rw [hml]; rfl) (Steps.refl _) (argsL := [(.int (1 : Int32))]) (rest := [(.ref as104)]) (lenOf pd_11 rfl) rfl (by show 2 * 0 + _ ≤ _; exact Nat.le_of_eq rfl) (hb hby at_149) (fun _ _ => ⟨rfl, e104, (by decide : 20 + 0 ≤ _), (by decide : 133 + 0 ≤ _)⟩)
    dsimp only [Pt.U, Pt.locs, Pt.cells, Pt.slots] at X105 l105 y105 z105 st105 hQ105
    replace y105 : kx105 = 20 := y105
    replace z105 : nx105 = 133 := z105
    subst y105 z105
    obtain ⟨rfl, Nq105, hs105, F_r_105⟩ := hQ105
    have NN : Fr n0 Lx105 := by rw [l105]; exact Fr.app NN Nq105
    have F_r_105 : own_S Z h104 (pfz_95.getD ((1 : Int32)).toNatClampNeg .null) ((own_r0 nn).getD ((1 : Int32)).toNatClampNeg none) := hs105 ▸ F_r_105
    have pre : ∀ τ, Steps p.tables e below (T105.setTop (mkF m 152 #[.val (.int p1), .val (.int p2), .val (.int p3), .val (.int p4), .val (.int p5), .val (.int p6), .val (.int nn), .val (.ref b1), .val (.int (2 : Int32)), .val (.int (1 : Int32))] [(pfz_95.getD ((1 : Int32)).toNatClampNeg .null), (.ref as104)])) τ → G τ := fun τ κ => pre τ (st105.trans κ)
    obtain ⟨cq106, kq106, q106a, q106b, q106c⟩ := isOf hZ hs105 (own_S_exa F_s104)
    obtain ⟨_, _, ⟨T106, Lx106, kx106, nx106⟩, -, X106, ⟨Lc106, hQ106, l106, y106, z106⟩, st106⟩ := X105.virtualBack hx (y := (⟨"java/lang/String", "equals", "(Ljava/lang/Object;)Z"⟩ : MethodName)) (z := (⟨"java/lang/String", "equals", "(Ljava/lang/Object;)Z"⟩ : MethodName)) hown (mvT hZ (hw _ (List.mem_of_getElem? (i := 94) rfl))) (mvT hZ (hw _ (List.mem_of_getElem? (i := 71) rfl))) (notFace_of_selects (args := #[]) (mvT hZ (hw _ (List.mem_of_getElem? (i := 73) rfl)))) (mvT hZ (hw _ (List.mem_of_getElem? (i := 73) rfl))) (mvT hZ (hw _ (List.mem_of_getElem? (i := 72) rfl))) (by decide) (backOf (W := 0) (rm12 l Z a0 hw [] as104 (pfz_95.getD ((1 : Int32)).toNatClampNeg .null) [(.int (120 : Int32)), (.int (109 : Int32)), (.int (108 : Int32))] ((own_r0 nn).getD ((1 : Int32)).toNatClampNeg none) cw h104 n0 Zn F_s104 F_r_105 S_c hcw) hZ (hw _ (List.mem_of_getElem? (i := 74) rfl)) (hw _ (List.mem_of_getElem? (i := 28) rfl)) (by decide) (by decide)) q106a q106c (g := (mkF m 152 #[.val (.int p1), .val (.int p2), .val (.int p3), .val (.int p4), .val (.int p5), .val (.int p6), .val (.int nn), .val (.ref b1), .val (.int (2 : Int32)), .val (.int (1 : Int32))] [(pfz_95.getD ((1 : Int32)).toNatClampNeg .null), (.ref as104)])) rfl (by rw [hml]; rfl) (Steps.refl _) (argsL := [(pfz_95.getD ((1 : Int32)).toNatClampNeg .null)]) (rest := []) (lenOf pd_2 rfl) rfl (by show 2 * 0 + _ ≤ _; exact Nat.le_of_eq rfl) (hb hby at_152) (fun _ _ => ⟨rfl, hs105, (by decide : 20 + 0 ≤ _), (by decide : 133 + 0 ≤ _)⟩)
    dsimp only [Pt.U, Pt.locs, Pt.cells, Pt.slots] at X106 l106 y106 z106 st106 hQ106
    replace y106 : kx106 = 20 := y106
    replace z106 : nx106 = 133 := z106
    subst y106 z106
    obtain ⟨rfl, Nq106, hs106⟩ := hQ106
    have NN : Fr n0 Lx106 := by rw [l106]; exact Fr.app NN Nq106
    have pre : ∀ τ, Steps p.tables e below (T106.setTop (mkF m 155 #[.val (.int p1), .val (.int p2), .val (.int p3), .val (.int p4), .val (.int p5), .val (.int p6), .val (.int nn), .val (.ref b1), .val (.int (2 : Int32)), .val (.int (1 : Int32))] [(.int (own_eqt [(.int (120 : Int32)), (.int (109 : Int32)), (.int (108 : Int32))] ((own_r0 nn).getD ((1 : Int32)).toNatClampNeg none)))])) τ → G τ := fun τ κ => pre τ (st106.trans κ)
    have hc107 : ¬ ((own_eqt [(.int (120 : Int32)), (.int (109 : Int32)), (.int (108 : Int32))] ((own_r0 nn).getD ((1 : Int32)).toNatClampNeg none)) = (0 : Int32)) := (own_eqt1 (own_r01 N5.1))
    have pre : ∀ τ, Steps p.tables e below (T106.setTop (mkF m 165 #[.val (.int p1), .val (.int p2), .val (.int p3), .val (.int p4), .val (.int p5), .val (.int p6), .val (.int nn), .val (.ref b1), .val (.int (2 : Int32)), .val (.int (1 : Int32))] [])) τ → G τ := fun τ κ => pre τ (by
      refine XS.ifNo X106.here hx rfl (hb hby at_155) rfl ((if0 _ _).trans (feq hc107).1) ?_
      show Steps p.tables e below (T106.setTop (mkF m 158 #[.val (.int p1), .val (.int p2), .val (.int p3), .val (.int p4), .val (.int p5), .val (.int p6), .val (.int nn), .val (.ref b1), .val (.int (2 : Int32)), .val (.int (1 : Int32))] [])) τ
      refine XS.iconst X106.here hx rfl (hb hby at_158) ?_
      show Steps p.tables e below (T106.setTop (mkF m 159 #[.val (.int p1), .val (.int p2), .val (.int p3), .val (.int p4), .val (.int p5), .val (.int p6), .val (.int nn), .val (.ref b1), .val (.int (2 : Int32)), .val (.int (1 : Int32))] [(.int (1 : Int32))])) τ
      refine XS.goto X106.here hx rfl (pc0 := 159) (pc' := 163) rfl (hb hby at_159) (by decide) (by decide) ?_
      show Steps p.tables e below (T106.setTop (mkF m 163 #[.val (.int p1), .val (.int p2), .val (.int p3), .val (.int p4), .val (.int p5), .val (.int p6), .val (.int nn), .val (.ref b1), .val (.int (2 : Int32)), .val (.int (1 : Int32))] [(.int (1 : Int32))])) τ
      refine XS.istore X106.here hx rfl (hb hby at_163) rfl (l' := #[.val (.int p1), .val (.int p2), .val (.int p3), .val (.int p4), .val (.int p5), .val (.int p6), .val (.int nn), .val (.ref b1), .val (.int (2 : Int32)), .val (.int (1 : Int32))]) rfl ?_
      show Steps p.tables e below (T106.setTop (mkF m 165 #[.val (.int p1), .val (.int p2), .val (.int p3), .val (.int p4), .val (.int p5), .val (.int p6), .val (.int nn), .val (.ref b1), .val (.int (2 : Int32)), .val (.int (1 : Int32))] [])) τ
      exact κ)
    rcases (show nn = 2 ∨ nn = 3 ∨ nn = 4 ∨ nn = 5 by exact own_r5 N5) with hk_nn | hk_nn | hk_nn | hk_nn
    ·
      have pre : ∀ τ, Steps p.tables e below (T106.setTop (mkF m 165 #[.val (.int p1), .val (.int p2), .val (.int p3), .val (.int p4), .val (.int p5), .val (.int p6), .val (.int (2 : Int32)), .val (.ref b1), .val (.int (2 : Int32)), .val (.int (1 : Int32))] [])) τ → G τ := (show nn = (2 : Int32) from hk_nn) ▸ pre
      have pre : ∀ τ, Steps p.tables e below (T106.setTop (mkF m 168 #[.val (.int p1), .val (.int p2), .val (.int p3), .val (.int p4), .val (.int p5), .val (.int p6), .val (.int (2 : Int32)), .val (.ref b1), .val (.int (2 : Int32)), .val (.int (1 : Int32))] [(.int (2 : Int32)), (.int (2 : Int32))])) τ → G τ := fun τ κ => pre τ (by
        refine XS.iload X106.here hx rfl (hb hby at_165) rfl ?_
        show Steps p.tables e below (T106.setTop (mkF m 167 #[.val (.int p1), .val (.int p2), .val (.int p3), .val (.int p4), .val (.int p5), .val (.int p6), .val (.int (2 : Int32)), .val (.ref b1), .val (.int (2 : Int32)), .val (.int (1 : Int32))] [(.int (2 : Int32))])) τ
        refine XS.iconst X106.here hx rfl (hb hby at_167) ?_
        show Steps p.tables e below (T106.setTop (mkF m 168 #[.val (.int p1), .val (.int p2), .val (.int p3), .val (.int p4), .val (.int p5), .val (.int p6), .val (.int (2 : Int32)), .val (.ref b1), .val (.int (2 : Int32)), .val (.int (1 : Int32))] [(.int (2 : Int32)), (.int (2 : Int32))])) τ
        exact κ)
      have hc108 : ¬ ((2 : Int32) < (2 : Int32)) := (by decide)
      have pre : ∀ τ, Steps p.tables e below (T106.setTop (mkF m 195 #[.val (.int p1), .val (.int p2), .val (.int p3), .val (.int p4), .val (.int p5), .val (.int p6), .val (.int (2 : Int32)), .val (.ref b1), .val (.int (2 : Int32)), .val (.int (1 : Int32))] [(.int (3 : Int32)), (.int (2 : Int32))])) τ → G τ := fun τ κ => pre τ (by
        refine XS.icmpYes X106.here hx rfl (pc0 := 168) (pc' := 192) rfl (hb hby at_168) rfl (flt hc108).2.2.2 (by decide) (by decide) ?_
        show Steps p.tables e below (T106.setTop (mkF m 192 #[.val (.int p1), .val (.int p2), .val (.int p3), .val (.int p4), .val (.int p5), .val (.int p6), .val (.int (2 : Int32)), .val (.ref b1), .val (.int (2 : Int32)), .val (.int (1 : Int32))] [])) τ
        refine XS.iload X106.here hx rfl (hb hby at_192) rfl ?_
        show Steps p.tables e below (T106.setTop (mkF m 194 #[.val (.int p1), .val (.int p2), .val (.int p3), .val (.int p4), .val (.int p5), .val (.int p6), .val (.int (2 : Int32)), .val (.ref b1), .val (.int (2 : Int32)), .val (.int (1 : Int32))] [(.int (2 : Int32))])) τ
        refine XS.iconst X106.here hx rfl (hb hby at_194) ?_
        show Steps p.tables e below (T106.setTop (mkF m 195 #[.val (.int p1), .val (.int p2), .val (.int p3), .val (.int p4), .val (.int p5), .val (.int p6), .val (.int (2 : Int32)), .val (.ref b1), .val (.int (2 : Int32)), .val (.int (1 : Int32))] [(.int (3 : Int32)), (.int (2 : Int32))])) τ
        exact κ)
      have hc109 : ¬ ((3 : Int32) < (2 : Int32)) := (by decide)
      have pre : ∀ τ, Steps p.tables e below (T106.setTop (mkF m 222 #[.val (.int p1), .val (.int p2), .val (.int p3), .val (.int p4), .val (.int p5), .val (.int p6), .val (.int (2 : Int32)), .val (.ref b1), .val (.int (2 : Int32)), .val (.int (1 : Int32))] [(.int (4 : Int32)), (.int (2 : Int32))])) τ → G τ := fun τ κ => pre τ (by
        refine XS.icmpYes X106.here hx rfl (pc0 := 195) (pc' := 219) rfl (hb hby at_195) rfl (flt hc109).2.2.2 (by decide) (by decide) ?_
        show Steps p.tables e below (T106.setTop (mkF m 219 #[.val (.int p1), .val (.int p2), .val (.int p3), .val (.int p4), .val (.int p5), .val (.int p6), .val (.int (2 : Int32)), .val (.ref b1), .val (.int (2 : Int32)), .val (.int (1 : Int32))] [])) τ
        refine XS.iload X106.here hx rfl (hb hby at_219) rfl ?_
        show Steps p.tables e below (T106.setTop (mkF m 221 #[.val (.int p1), .val (.int p2), .val (.int p3), .val (.int p4), .val (.int p5), .val (.int p6), .val (.int (2 : Int32)), .val (.ref b1), .val (.int (2 : Int32)), .val (.int (1 : Int32))] [(.int (2 : Int32))])) τ
        refine XS.iconst X106.here hx rfl (hb hby at_221) ?_
        show Steps p.tables e below (T106.setTop (mkF m 222 #[.val (.int p1), .val (.int p2), .val (.int p3), .val (.int p4), .val (.int p5), .val (.int p6), .val (.int (2 : Int32)), .val (.ref b1), .val (.int (2 : Int32)), .val (.int (1 : Int32))] [(.int (4 : Int32)), (.int (2 : Int32))])) τ
        exact κ)
      have hc110 : ¬ ((4 : Int32) < (2 : Int32)) := (by decide)
      have pre : ∀ τ, Steps p.tables e below (T106.setTop (mkF m 248 #[.val (.int p1), .val (.int p2), .val (.int p3), .val (.int p4), .val (.int p5), .val (.int p6), .val (.int (2 : Int32)), .val (.ref b1), .val (.int (2 : Int32)), .val (.int (1 : Int32))] [(.int (1 : Int32))])) τ → G τ := fun τ κ => pre τ (by
        refine XS.icmpYes X106.here hx rfl (pc0 := 222) (pc' := 246) rfl (hb hby at_222) rfl (flt hc110).2.2.2 (by decide) (by decide) ?_
        show Steps p.tables e below (T106.setTop (mkF m 246 #[.val (.int p1), .val (.int p2), .val (.int p3), .val (.int p4), .val (.int p5), .val (.int p6), .val (.int (2 : Int32)), .val (.ref b1), .val (.int (2 : Int32)), .val (.int (1 : Int32))] [])) τ
        refine XS.iload X106.here hx rfl (hb hby at_246) rfl ?_
        show Steps p.tables e below (T106.setTop (mkF m 248 #[.val (.int p1), .val (.int p2), .val (.int p3), .val (.int p4), .val (.int p5), .val (.int p6), .val (.int (2 : Int32)), .val (.ref b1), .val (.int (2 : Int32)), .val (.int (1 : Int32))] [(.int (1 : Int32))])) τ
        exact κ)
      have hkT := Nat.le_trans hk (Nat.le_of_eq (congrArg Array.size (Eq.symm hs106)))
      obtain ⟨fsα, hr, hrun, hended, hRE⟩ := X106.leaveW hS hkT (v := some (.int (1 : Int32))) (fun h => by rw [Bd.returns] at h; cases h)
      refine hGL ⟨_, _, hG _ (pre _ ?_), hrun, hended, _, _, rfl, ?_, ?_, ⟨_, rfl⟩, hRE.2.1, hRE.2.2.1, hRE.2.2.2.mono (by decide) (by decide)⟩
      · exact retN X106 hx (t := .boolean) Bd.returns (by simp) (hb hby at_248) hr
      · show Q0 Z p1 p2 p3 p4 p5 p6 cw h0 n0 _ T106.heap _
        rw [hs106]
        exact ⟨rfl, NN⟩
      · show CHr Z own_EL s.vm s.heap T106.vm T106.heap
        rw [hh, hs106]
        exact HR.trans (CHv.at X106 hZ hEL H)
    ·
      have pre : ∀ τ, Steps p.tables e below (T106.setTop (mkF m 165 #[.val (.int p1), .val (.int p2), .val (.int p3), .val (.int p4), .val (.int p5), .val (.int p6), .val (.int (3 : Int32)), .val (.ref b1), .val (.int (2 : Int32)), .val (.int (1 : Int32))] [])) τ → G τ := (show nn = (3 : Int32) from hk_nn) ▸ pre
      have pre : ∀ τ, Steps p.tables e below (T106.setTop (mkF m 168 #[.val (.int p1), .val (.int p2), .val (.int p3), .val (.int p4), .val (.int p5), .val (.int p6), .val (.int (3 : Int32)), .val (.ref b1), .val (.int (2 : Int32)), .val (.int (1 : Int32))] [(.int (2 : Int32)), (.int (3 : Int32))])) τ → G τ := fun τ κ => pre τ (by
        refine XS.iload X106.here hx rfl (hb hby at_165) rfl ?_
        show Steps p.tables e below (T106.setTop (mkF m 167 #[.val (.int p1), .val (.int p2), .val (.int p3), .val (.int p4), .val (.int p5), .val (.int p6), .val (.int (3 : Int32)), .val (.ref b1), .val (.int (2 : Int32)), .val (.int (1 : Int32))] [(.int (3 : Int32))])) τ
        refine XS.iconst X106.here hx rfl (hb hby at_167) ?_
        show Steps p.tables e below (T106.setTop (mkF m 168 #[.val (.int p1), .val (.int p2), .val (.int p3), .val (.int p4), .val (.int p5), .val (.int p6), .val (.int (3 : Int32)), .val (.ref b1), .val (.int (2 : Int32)), .val (.int (1 : Int32))] [(.int (2 : Int32)), (.int (3 : Int32))])) τ
        exact κ)
      have hc111 : (2 : Int32) < (3 : Int32) := (by decide)
      have pre : ∀ τ, Steps p.tables e below (T106.setTop (mkF m 173 #[.val (.int p1), .val (.int p2), .val (.int p3), .val (.int p4), .val (.int p5), .val (.int p6), .val (.int (3 : Int32)), .val (.ref b1), .val (.int (2 : Int32)), .val (.int (1 : Int32))] [(.int (1 : Int32))])) τ → G τ := fun τ κ => pre τ (by
        refine XS.icmpNo X106.here hx rfl (hb hby at_168) rfl (tlt hc111).2.2.2 ?_
        show Steps p.tables e below (T106.setTop (mkF m 171 #[.val (.int p1), .val (.int p2), .val (.int p3), .val (.int p4), .val (.int p5), .val (.int p6), .val (.int (3 : Int32)), .val (.ref b1), .val (.int (2 : Int32)), .val (.int (1 : Int32))] [])) τ
        refine XS.iload X106.here hx rfl (hb hby at_171) rfl ?_
        show Steps p.tables e below (T106.setTop (mkF m 173 #[.val (.int p1), .val (.int p2), .val (.int p3), .val (.int p4), .val (.int p5), .val (.int p6), .val (.int (3 : Int32)), .val (.ref b1), .val (.int (2 : Int32)), .val (.int (1 : Int32))] [(.int (1 : Int32))])) τ
        exact κ)
      have hc112 : ¬ ((1 : Int32) = (0 : Int32)) := (by decide)
      have pre : ∀ τ, Steps p.tables e below (T106.setTop (mkF m 179 #[.val (.int p1), .val (.int p2), .val (.int p3), .val (.int p4), .val (.int p5), .val (.int p6), .val (.int (3 : Int32)), .val (.ref b1), .val (.int (2 : Int32)), .val (.int (1 : Int32))] [(.int (2 : Int32)), (.ref b1)])) τ → G τ := fun τ κ => pre τ (by
        refine XS.ifNo X106.here hx rfl (hb hby at_173) rfl ((if0 _ _).trans (feq hc112).1) ?_
        show Steps p.tables e below (T106.setTop (mkF m 176 #[.val (.int p1), .val (.int p2), .val (.int p3), .val (.int p4), .val (.int p5), .val (.int p6), .val (.int (3 : Int32)), .val (.ref b1), .val (.int (2 : Int32)), .val (.int (1 : Int32))] [])) τ
        refine XS.aload X106.here hx rfl (hb hby at_176) rfl rfl ?_
        show Steps p.tables e below (T106.setTop (mkF m 178 #[.val (.int p1), .val (.int p2), .val (.int p3), .val (.int p4), .val (.int p5), .val (.int p6), .val (.int (3 : Int32)), .val (.ref b1), .val (.int (2 : Int32)), .val (.int (1 : Int32))] [(.ref b1)])) τ
        refine XS.iconst X106.here hx rfl (hb hby at_178) ?_
        show Steps p.tables e below (T106.setTop (mkF m 179 #[.val (.int p1), .val (.int p2), .val (.int p3), .val (.int p4), .val (.int p5), .val (.int p6), .val (.int (3 : Int32)), .val (.ref b1), .val (.int (2 : Int32)), .val (.int (1 : Int32))] [(.int (2 : Int32)), (.ref b1)])) τ
        exact κ)
      obtain ⟨cq113, kq113, q113a, q113b, q113c⟩ := isOf hZ hs106 E_b1
      obtain ⟨_, _, ⟨T113, Lx113, kx113, nx113⟩, -, X113, ⟨Lc113, hQ113, l113, y113, z113⟩, st113⟩ := X106.virtualBack hx (y := (⟨"coppice/marshal/context/NamespaceScope", "prefix", "(I)Ljava/lang/String;"⟩ : MethodName)) (z := (⟨"coppice/marshal/context/NamespaceScope", "prefix", "(I)Ljava/lang/String;"⟩ : MethodName)) hown (mvT hZ (hw _ (List.mem_of_getElem? (i := 89) rfl))) (mvT hZ (hw _ (List.mem_of_getElem? (i := 90) rfl))) (notFace_of_selects (args := #[]) (mvT hZ (hw _ (List.mem_of_getElem? (i := 92) rfl)))) (mvT hZ (hw _ (List.mem_of_getElem? (i := 92) rfl))) (mvT hZ (hw _ (List.mem_of_getElem? (i := 91) rfl))) (by decide) (backOf (W := 0) (rm16 l Z a0 hw [] b1 (2 : Int32) pf_2 kf_2 nn pfz_95 (own_r0 nn) h104 n0 Zn F_pf_95 V_pf_95 L_pf_95 ⟨by decide, by rw [hk_nn]; decide⟩) hZ (hw _ (List.mem_of_getElem? (i := 93) rfl)) (hw _ (List.mem_of_getElem? (i := 2) rfl)) (by decide) (by decide)) q113a q113c (g := (mkF m 179 #[.val (.int p1), .val (.int p2), .val (.int p3), .val (.int p4), .val (.int p5), .val (.int p6), .val (.int (3 : Int32)), .val (.ref b1), .val (.int (2 : Int32)), .val (.int (1 : Int32))] [(.int (2 : Int32)), (.ref b1)])) rfl (by rw [hml]; rfl) (Steps.refl _) (argsL := [(.int (2 : Int32))]) (rest := []) (lenOf pd_11 rfl) rfl (by show 2 * 0 + _ ≤ _; exact Nat.le_of_eq rfl) (hb hby at_179) (fun _ _ => ⟨rfl, hs106, (by decide : 20 + 0 ≤ _), (by decide : 133 + 0 ≤ _)⟩)
      dsimp only [Pt.U, Pt.locs, Pt.cells, Pt.slots] at X113 l113 y113 z113 st113 hQ113
      replace y113 : kx113 = 20 := y113
      replace z113 : nx113 = 133 := z113
      subst y113 z113
      obtain ⟨rfl, Nq113, hs113, F_r_113⟩ := hQ113
      have NN : Fr n0 Lx113 := by rw [l113]; exact Fr.app NN Nq113
      have F_r_113 : own_S Z h104 (pfz_95.getD ((2 : Int32)).toNatClampNeg .null) ((own_r0 nn).getD ((2 : Int32)).toNatClampNeg none) := hs113 ▸ F_r_113
      have pre : ∀ τ, Steps p.tables e below (T113.setTop (mkF m 182 #[.val (.int p1), .val (.int p2), .val (.int p3), .val (.int p4), .val (.int p5), .val (.int p6), .val (.int (3 : Int32)), .val (.ref b1), .val (.int (2 : Int32)), .val (.int (1 : Int32))] [(pfz_95.getD ((2 : Int32)).toNatClampNeg .null)])) τ → G τ := fun τ κ => pre τ (st113.trans κ)
      have hnul2 := own_S_none F_r_113 (own_r0n (by decide))
      have pre : ∀ τ, Steps p.tables e below (T113.setTop (mkF m 182 #[.val (.int p1), .val (.int p2), .val (.int p3), .val (.int p4), .val (.int p5), .val (.int p6), .val (.int (3 : Int32)), .val (.ref b1), .val (.int (2 : Int32)), .val (.int (1 : Int32))] [.null])) τ → G τ := by rw [hnul2] at pre; exact pre
      have pre : ∀ τ, Steps p.tables e below (T113.setTop (mkF m 195 #[.val (.int p1), .val (.int p2), .val (.int p3), .val (.int p4), .val (.int p5), .val (.int p6), .val (.int (3 : Int32)), .val (.ref b1), .val (.int (2 : Int32)), .val (.int (1 : Int32))] [(.int (3 : Int32)), (.int (3 : Int32))])) τ → G τ := fun τ κ => pre τ (by
        refine XS.ifnonnullNo X113.here hx rfl (hb hby at_182) rfl ?_
        show Steps p.tables e below (T113.setTop (mkF m 185 #[.val (.int p1), .val (.int p2), .val (.int p3), .val (.int p4), .val (.int p5), .val (.int p6), .val (.int (3 : Int32)), .val (.ref b1), .val (.int (2 : Int32)), .val (.int (1 : Int32))] [])) τ
        refine XS.iconst X113.here hx rfl (hb hby at_185) ?_
        show Steps p.tables e below (T113.setTop (mkF m 186 #[.val (.int p1), .val (.int p2), .val (.int p3), .val (.int p4), .val (.int p5), .val (.int p6), .val (.int (3 : Int32)), .val (.ref b1), .val (.int (2 : Int32)), .val (.int (1 : Int32))] [(.int (1 : Int32))])) τ
        refine XS.goto X113.here hx rfl (pc0 := 186) (pc' := 190) rfl (hb hby at_186) (by decide) (by decide) ?_
        show Steps p.tables e below (T113.setTop (mkF m 190 #[.val (.int p1), .val (.int p2), .val (.int p3), .val (.int p4), .val (.int p5), .val (.int p6), .val (.int (3 : Int32)), .val (.ref b1), .val (.int (2 : Int32)), .val (.int (1 : Int32))] [(.int (1 : Int32))])) τ
        refine XS.istore X113.here hx rfl (hb hby at_190) rfl (l' := #[.val (.int p1), .val (.int p2), .val (.int p3), .val (.int p4), .val (.int p5), .val (.int p6), .val (.int (3 : Int32)), .val (.ref b1), .val (.int (2 : Int32)), .val (.int (1 : Int32))]) rfl ?_
        show Steps p.tables e below (T113.setTop (mkF m 192 #[.val (.int p1), .val (.int p2), .val (.int p3), .val (.int p4), .val (.int p5), .val (.int p6), .val (.int (3 : Int32)), .val (.ref b1), .val (.int (2 : Int32)), .val (.int (1 : Int32))] [])) τ
        refine XS.iload X113.here hx rfl (hb hby at_192) rfl ?_
        show Steps p.tables e below (T113.setTop (mkF m 194 #[.val (.int p1), .val (.int p2), .val (.int p3), .val (.int p4), .val (.int p5), .val (.int p6), .val (.int (3 : Int32)), .val (.ref b1), .val (.int (2 : Int32)), .val (.int (1 : Int32))] [(.int (3 : Int32))])) τ
        refine XS.iconst X113.here hx rfl (hb hby at_194) ?_
        show Steps p.tables e below (T113.setTop (mkF m 195 #[.val (.int p1), .val (.int p2), .val (.int p3), .val (.int p4), .val (.int p5), .val (.int p6), .val (.int (3 : Int32)), .val (.ref b1), .val (.int (2 : Int32)), .val (.int (1 : Int32))] [(.int (3 : Int32)), (.int (3 : Int32))])) τ
        exact κ)
      have hc114 : ¬ ((3 : Int32) < (3 : Int32)) := (by decide)
      have pre : ∀ τ, Steps p.tables e below (T113.setTop (mkF m 222 #[.val (.int p1), .val (.int p2), .val (.int p3), .val (.int p4), .val (.int p5), .val (.int p6), .val (.int (3 : Int32)), .val (.ref b1), .val (.int (2 : Int32)), .val (.int (1 : Int32))] [(.int (4 : Int32)), (.int (3 : Int32))])) τ → G τ := fun τ κ => pre τ (by
        refine XS.icmpYes X113.here hx rfl (pc0 := 195) (pc' := 219) rfl (hb hby at_195) rfl (flt hc114).2.2.2 (by decide) (by decide) ?_
        show Steps p.tables e below (T113.setTop (mkF m 219 #[.val (.int p1), .val (.int p2), .val (.int p3), .val (.int p4), .val (.int p5), .val (.int p6), .val (.int (3 : Int32)), .val (.ref b1), .val (.int (2 : Int32)), .val (.int (1 : Int32))] [])) τ
        refine XS.iload X113.here hx rfl (hb hby at_219) rfl ?_
        show Steps p.tables e below (T113.setTop (mkF m 221 #[.val (.int p1), .val (.int p2), .val (.int p3), .val (.int p4), .val (.int p5), .val (.int p6), .val (.int (3 : Int32)), .val (.ref b1), .val (.int (2 : Int32)), .val (.int (1 : Int32))] [(.int (3 : Int32))])) τ
        refine XS.iconst X113.here hx rfl (hb hby at_221) ?_
        show Steps p.tables e below (T113.setTop (mkF m 222 #[.val (.int p1), .val (.int p2), .val (.int p3), .val (.int p4), .val (.int p5), .val (.int p6), .val (.int (3 : Int32)), .val (.ref b1), .val (.int (2 : Int32)), .val (.int (1 : Int32))] [(.int (4 : Int32)), (.int (3 : Int32))])) τ
        exact κ)
      have hc115 : ¬ ((4 : Int32) < (3 : Int32)) := (by decide)
      have pre : ∀ τ, Steps p.tables e below (T113.setTop (mkF m 248 #[.val (.int p1), .val (.int p2), .val (.int p3), .val (.int p4), .val (.int p5), .val (.int p6), .val (.int (3 : Int32)), .val (.ref b1), .val (.int (2 : Int32)), .val (.int (1 : Int32))] [(.int (1 : Int32))])) τ → G τ := fun τ κ => pre τ (by
        refine XS.icmpYes X113.here hx rfl (pc0 := 222) (pc' := 246) rfl (hb hby at_222) rfl (flt hc115).2.2.2 (by decide) (by decide) ?_
        show Steps p.tables e below (T113.setTop (mkF m 246 #[.val (.int p1), .val (.int p2), .val (.int p3), .val (.int p4), .val (.int p5), .val (.int p6), .val (.int (3 : Int32)), .val (.ref b1), .val (.int (2 : Int32)), .val (.int (1 : Int32))] [])) τ
        refine XS.iload X113.here hx rfl (hb hby at_246) rfl ?_
        show Steps p.tables e below (T113.setTop (mkF m 248 #[.val (.int p1), .val (.int p2), .val (.int p3), .val (.int p4), .val (.int p5), .val (.int p6), .val (.int (3 : Int32)), .val (.ref b1), .val (.int (2 : Int32)), .val (.int (1 : Int32))] [(.int (1 : Int32))])) τ
        exact κ)
      have hkT := Nat.le_trans hk (Nat.le_of_eq (congrArg Array.size (Eq.symm hs113)))
      obtain ⟨fsα, hr, hrun, hended, hRE⟩ := X113.leaveW hS hkT (v := some (.int (1 : Int32))) (fun h => by rw [Bd.returns] at h; cases h)
      refine hGL ⟨_, _, hG _ (pre _ ?_), hrun, hended, _, _, rfl, ?_, ?_, ⟨_, rfl⟩, hRE.2.1, hRE.2.2.1, hRE.2.2.2.mono (by decide) (by decide)⟩
      · exact retN X113 hx (t := .boolean) Bd.returns (by simp) (hb hby at_248) hr
      · show Q0 Z p1 p2 p3 p4 p5 p6 cw h0 n0 _ T113.heap _
        rw [hs113]
        exact ⟨rfl, NN⟩
      · show CHr Z own_EL s.vm s.heap T113.vm T113.heap
        rw [hh, hs113]
        exact HR.trans (CHv.at X113 hZ hEL H)
    ·
      have pre : ∀ τ, Steps p.tables e below (T106.setTop (mkF m 165 #[.val (.int p1), .val (.int p2), .val (.int p3), .val (.int p4), .val (.int p5), .val (.int p6), .val (.int (4 : Int32)), .val (.ref b1), .val (.int (2 : Int32)), .val (.int (1 : Int32))] [])) τ → G τ := (show nn = (4 : Int32) from hk_nn) ▸ pre
      have pre : ∀ τ, Steps p.tables e below (T106.setTop (mkF m 168 #[.val (.int p1), .val (.int p2), .val (.int p3), .val (.int p4), .val (.int p5), .val (.int p6), .val (.int (4 : Int32)), .val (.ref b1), .val (.int (2 : Int32)), .val (.int (1 : Int32))] [(.int (2 : Int32)), (.int (4 : Int32))])) τ → G τ := fun τ κ => pre τ (by
        refine XS.iload X106.here hx rfl (hb hby at_165) rfl ?_
        show Steps p.tables e below (T106.setTop (mkF m 167 #[.val (.int p1), .val (.int p2), .val (.int p3), .val (.int p4), .val (.int p5), .val (.int p6), .val (.int (4 : Int32)), .val (.ref b1), .val (.int (2 : Int32)), .val (.int (1 : Int32))] [(.int (4 : Int32))])) τ
        refine XS.iconst X106.here hx rfl (hb hby at_167) ?_
        show Steps p.tables e below (T106.setTop (mkF m 168 #[.val (.int p1), .val (.int p2), .val (.int p3), .val (.int p4), .val (.int p5), .val (.int p6), .val (.int (4 : Int32)), .val (.ref b1), .val (.int (2 : Int32)), .val (.int (1 : Int32))] [(.int (2 : Int32)), (.int (4 : Int32))])) τ
        exact κ)
      have hc116 : (2 : Int32) < (4 : Int32) := (by decide)
      have pre : ∀ τ, Steps p.tables e below (T106.setTop (mkF m 173 #[.val (.int p1), .val (.int p2), .val (.int p3), .val (.int p4), .val (.int p5), .val (.int p6), .val (.int (4 : Int32)), .val (.ref b1), .val (.int (2 : Int32)), .val (.int (1 : Int32))] [(.int (1 : Int32))])) τ → G τ := fun τ κ => pre τ (by
        refine XS.icmpNo X106.here hx rfl (hb hby at_168) rfl (tlt hc116).2.2.2 ?_
        show Steps p.tables e below (T106.setTop (mkF m 171 #[.val (.int p1), .val (.int p2), .val (.int p3), .val (.int p4), .val (.int p5), .val (.int p6), .val (.int (4 : Int32)), .val (.ref b1), .val (.int (2 : Int32)), .val (.int (1 : Int32))] [])) τ
        refine XS.iload X106.here hx rfl (hb hby at_171) rfl ?_
        show Steps p.tables e below (T106.setTop (mkF m 173 #[.val (.int p1), .val (.int p2), .val (.int p3), .val (.int p4), .val (.int p5), .val (.int p6), .val (.int (4 : Int32)), .val (.ref b1), .val (.int (2 : Int32)), .val (.int (1 : Int32))] [(.int (1 : Int32))])) τ
        exact κ)
      have hc117 : ¬ ((1 : Int32) = (0 : Int32)) := (by decide)
      have pre : ∀ τ, Steps p.tables e below (T106.setTop (mkF m 179 #[.val (.int p1), .val (.int p2), .val (.int p3), .val (.int p4), .val (.int p5), .val (.int p6), .val (.int (4 : Int32)), .val (.ref b1), .val (.int (2 : Int32)), .val (.int (1 : Int32))] [(.int (2 : Int32)), (.ref b1)])) τ → G τ := fun τ κ => pre τ (by
        refine XS.ifNo X106.here hx rfl (hb hby at_173) rfl ((if0 _ _).trans (feq hc117).1) ?_
        show Steps p.tables e below (T106.setTop (mkF m 176 #[.val (.int p1), .val (.int p2), .val (.int p3), .val (.int p4), .val (.int p5), .val (.int p6), .val (.int (4 : Int32)), .val (.ref b1), .val (.int (2 : Int32)), .val (.int (1 : Int32))] [])) τ
        refine XS.aload X106.here hx rfl (hb hby at_176) rfl rfl ?_
        show Steps p.tables e below (T106.setTop (mkF m 178 #[.val (.int p1), .val (.int p2), .val (.int p3), .val (.int p4), .val (.int p5), .val (.int p6), .val (.int (4 : Int32)), .val (.ref b1), .val (.int (2 : Int32)), .val (.int (1 : Int32))] [(.ref b1)])) τ
        refine XS.iconst X106.here hx rfl (hb hby at_178) ?_
        show Steps p.tables e below (T106.setTop (mkF m 179 #[.val (.int p1), .val (.int p2), .val (.int p3), .val (.int p4), .val (.int p5), .val (.int p6), .val (.int (4 : Int32)), .val (.ref b1), .val (.int (2 : Int32)), .val (.int (1 : Int32))] [(.int (2 : Int32)), (.ref b1)])) τ
        exact κ)
      obtain ⟨cq118, kq118, q118a, q118b, q118c⟩ := isOf hZ hs106 E_b1
      obtain ⟨_, _, ⟨T118, Lx118, kx118, nx118⟩, -, X118, ⟨Lc118, hQ118, l118, y118, z118⟩, st118⟩ := X106.virtualBack hx (y := (⟨"coppice/marshal/context/NamespaceScope", "prefix", "(I)Ljava/lang/String;"⟩ : MethodName)) (z := (⟨"coppice/marshal/context/NamespaceScope", "prefix", "(I)Ljava/lang/String;"⟩ : MethodName)) hown (mvT hZ (hw _ (List.mem_of_getElem? (i := 89) rfl))) (mvT hZ (hw _ (List.mem_of_getElem? (i := 90) rfl))) (notFace_of_selects (args := #[]) (mvT hZ (hw _ (List.mem_of_getElem? (i := 92) rfl)))) (mvT hZ (hw _ (List.mem_of_getElem? (i := 92) rfl))) (mvT hZ (hw _ (List.mem_of_getElem? (i := 91) rfl))) (by decide) (backOf (W := 0) (rm16 l Z a0 hw [] b1 (2 : Int32) pf_2 kf_2 nn pfz_95 (own_r0 nn) h104 n0 Zn F_pf_95 V_pf_95 L_pf_95 ⟨by decide, by rw [hk_nn]; decide⟩) hZ (hw _ (List.mem_of_getElem? (i := 93) rfl)) (hw _ (List.mem_of_getElem? (i := 2) rfl)) (by decide) (by decide)) q118a q118c (g := (mkF m 179 #[.val (.int p1), .val (.int p2), .val (.int p3), .val (.int p4), .val (.int p5), .val (.int p6), .val (.int (4 : Int32)), .val (.ref b1), .val (.int (2 : Int32)), .val (.int (1 : Int32))] [(.int (2 : Int32)), (.ref b1)])) rfl (by rw [hml]; rfl) (Steps.refl _) (argsL := [(.int (2 : Int32))]) (rest := []) (lenOf pd_11 rfl) rfl (by show 2 * 0 + _ ≤ _; exact Nat.le_of_eq rfl) (hb hby at_179) (fun _ _ => ⟨rfl, hs106, (by decide : 20 + 0 ≤ _), (by decide : 133 + 0 ≤ _)⟩)
      dsimp only [Pt.U, Pt.locs, Pt.cells, Pt.slots] at X118 l118 y118 z118 st118 hQ118
      replace y118 : kx118 = 20 := y118
      replace z118 : nx118 = 133 := z118
      subst y118 z118
      obtain ⟨rfl, Nq118, hs118, F_r_118⟩ := hQ118
      have NN : Fr n0 Lx118 := by rw [l118]; exact Fr.app NN Nq118
      have F_r_118 : own_S Z h104 (pfz_95.getD ((2 : Int32)).toNatClampNeg .null) ((own_r0 nn).getD ((2 : Int32)).toNatClampNeg none) := hs118 ▸ F_r_118
      have pre : ∀ τ, Steps p.tables e below (T118.setTop (mkF m 182 #[.val (.int p1), .val (.int p2), .val (.int p3), .val (.int p4), .val (.int p5), .val (.int p6), .val (.int (4 : Int32)), .val (.ref b1), .val (.int (2 : Int32)), .val (.int (1 : Int32))] [(pfz_95.getD ((2 : Int32)).toNatClampNeg .null)])) τ → G τ := fun τ κ => pre τ (st118.trans κ)
      have hnul2 := own_S_none F_r_118 (own_r0n (by decide))
      have pre : ∀ τ, Steps p.tables e below (T118.setTop (mkF m 182 #[.val (.int p1), .val (.int p2), .val (.int p3), .val (.int p4), .val (.int p5), .val (.int p6), .val (.int (4 : Int32)), .val (.ref b1), .val (.int (2 : Int32)), .val (.int (1 : Int32))] [.null])) τ → G τ := by rw [hnul2] at pre; exact pre
      have pre : ∀ τ, Steps p.tables e below (T118.setTop (mkF m 195 #[.val (.int p1), .val (.int p2), .val (.int p3), .val (.int p4), .val (.int p5), .val (.int p6), .val (.int (4 : Int32)), .val (.ref b1), .val (.int (2 : Int32)), .val (.int (1 : Int32))] [(.int (3 : Int32)), (.int (4 : Int32))])) τ → G τ := fun τ κ => pre τ (by
        refine XS.ifnonnullNo X118.here hx rfl (hb hby at_182) rfl ?_
        show Steps p.tables e below (T118.setTop (mkF m 185 #[.val (.int p1), .val (.int p2), .val (.int p3), .val (.int p4), .val (.int p5), .val (.int p6), .val (.int (4 : Int32)), .val (.ref b1), .val (.int (2 : Int32)), .val (.int (1 : Int32))] [])) τ
        refine XS.iconst X118.here hx rfl (hb hby at_185) ?_
        show Steps p.tables e below (T118.setTop (mkF m 186 #[.val (.int p1), .val (.int p2), .val (.int p3), .val (.int p4), .val (.int p5), .val (.int p6), .val (.int (4 : Int32)), .val (.ref b1), .val (.int (2 : Int32)), .val (.int (1 : Int32))] [(.int (1 : Int32))])) τ
        refine XS.goto X118.here hx rfl (pc0 := 186) (pc' := 190) rfl (hb hby at_186) (by decide) (by decide) ?_
        show Steps p.tables e below (T118.setTop (mkF m 190 #[.val (.int p1), .val (.int p2), .val (.int p3), .val (.int p4), .val (.int p5), .val (.int p6), .val (.int (4 : Int32)), .val (.ref b1), .val (.int (2 : Int32)), .val (.int (1 : Int32))] [(.int (1 : Int32))])) τ
        refine XS.istore X118.here hx rfl (hb hby at_190) rfl (l' := #[.val (.int p1), .val (.int p2), .val (.int p3), .val (.int p4), .val (.int p5), .val (.int p6), .val (.int (4 : Int32)), .val (.ref b1), .val (.int (2 : Int32)), .val (.int (1 : Int32))]) rfl ?_
        show Steps p.tables e below (T118.setTop (mkF m 192 #[.val (.int p1), .val (.int p2), .val (.int p3), .val (.int p4), .val (.int p5), .val (.int p6), .val (.int (4 : Int32)), .val (.ref b1), .val (.int (2 : Int32)), .val (.int (1 : Int32))] [])) τ
        refine XS.iload X118.here hx rfl (hb hby at_192) rfl ?_
        show Steps p.tables e below (T118.setTop (mkF m 194 #[.val (.int p1), .val (.int p2), .val (.int p3), .val (.int p4), .val (.int p5), .val (.int p6), .val (.int (4 : Int32)), .val (.ref b1), .val (.int (2 : Int32)), .val (.int (1 : Int32))] [(.int (4 : Int32))])) τ
        refine XS.iconst X118.here hx rfl (hb hby at_194) ?_
        show Steps p.tables e below (T118.setTop (mkF m 195 #[.val (.int p1), .val (.int p2), .val (.int p3), .val (.int p4), .val (.int p5), .val (.int p6), .val (.int (4 : Int32)), .val (.ref b1), .val (.int (2 : Int32)), .val (.int (1 : Int32))] [(.int (3 : Int32)), (.int (4 : Int32))])) τ
        exact κ)
      have hc119 : (3 : Int32) < (4 : Int32) := (by decide)
      have pre : ∀ τ, Steps p.tables e below (T118.setTop (mkF m 200 #[.val (.int p1), .val (.int p2), .val (.int p3), .val (.int p4), .val (.int p5), .val (.int p6), .val (.int (4 : Int32)), .val (.ref b1), .val (.int (2 : Int32)), .val (.int (1 : Int32))] [(.int (1 : Int32))])) τ → G τ := fun τ κ => pre τ (by
        refine XS.icmpNo X118.here hx rfl (hb hby at_195) rfl (tlt hc119).2.2.2 ?_
        show Steps p.tables e below (T118.setTop (mkF m 198 #[.val (.int p1), .val (.int p2), .val (.int p3), .val (.int p4), .val (.int p5), .val (.int p6), .val (.int (4 : Int32)), .val (.ref b1), .val (.int (2 : Int32)), .val (.int (1 : Int32))] [])) τ
        refine XS.iload X118.here hx rfl (hb hby at_198) rfl ?_
        show Steps p.tables e below (T118.setTop (mkF m 200 #[.val (.int p1), .val (.int p2), .val (.int p3), .val (.int p4), .val (.int p5), .val (.int p6), .val (.int (4 : Int32)), .val (.ref b1), .val (.int (2 : Int32)), .val (.int (1 : Int32))] [(.int (1 : Int32))])) τ
        exact κ)
      have hc120 : ¬ ((1 : Int32) = (0 : Int32)) := (by decide)
      have pre : ∀ τ, Steps p.tables e below (T118.setTop (mkF m 206 #[.val (.int p1), .val (.int p2), .val (.int p3), .val (.int p4), .val (.int p5), .val (.int p6), .val (.int (4 : Int32)), .val (.ref b1), .val (.int (2 : Int32)), .val (.int (1 : Int32))] [(.int (3 : Int32)), (.ref b1)])) τ → G τ := fun τ κ => pre τ (by
        refine XS.ifNo X118.here hx rfl (hb hby at_200) rfl ((if0 _ _).trans (feq hc120).1) ?_
        show Steps p.tables e below (T118.setTop (mkF m 203 #[.val (.int p1), .val (.int p2), .val (.int p3), .val (.int p4), .val (.int p5), .val (.int p6), .val (.int (4 : Int32)), .val (.ref b1), .val (.int (2 : Int32)), .val (.int (1 : Int32))] [])) τ
        refine XS.aload X118.here hx rfl (hb hby at_203) rfl rfl ?_
        show Steps p.tables e below (T118.setTop (mkF m 205 #[.val (.int p1), .val (.int p2), .val (.int p3), .val (.int p4), .val (.int p5), .val (.int p6), .val (.int (4 : Int32)), .val (.ref b1), .val (.int (2 : Int32)), .val (.int (1 : Int32))] [(.ref b1)])) τ
        refine XS.iconst X118.here hx rfl (hb hby at_205) ?_
        show Steps p.tables e below (T118.setTop (mkF m 206 #[.val (.int p1), .val (.int p2), .val (.int p3), .val (.int p4), .val (.int p5), .val (.int p6), .val (.int (4 : Int32)), .val (.ref b1), .val (.int (2 : Int32)), .val (.int (1 : Int32))] [(.int (3 : Int32)), (.ref b1)])) τ
        exact κ)
      obtain ⟨cq121, kq121, q121a, q121b, q121c⟩ := isOf hZ hs118 E_b1
      obtain ⟨_, _, ⟨T121, Lx121, kx121, nx121⟩, -, X121, ⟨Lc121, hQ121, l121, y121, z121⟩, st121⟩ := X118.virtualBack hx (y := (⟨"coppice/marshal/context/NamespaceScope", "prefix", "(I)Ljava/lang/String;"⟩ : MethodName)) (z := (⟨"coppice/marshal/context/NamespaceScope", "prefix", "(I)Ljava/lang/String;"⟩ : MethodName)) hown (mvT hZ (hw _ (List.mem_of_getElem? (i := 89) rfl))) (mvT hZ (hw _ (List.mem_of_getElem? (i := 90) rfl))) (notFace_of_selects (args := #[]) (mvT hZ (hw _ (List.mem_of_getElem? (i := 92) rfl)))) (mvT hZ (hw _ (List.mem_of_getElem? (i := 92) rfl))) (mvT hZ (hw _ (List.mem_of_getElem? (i := 91) rfl))) (by decide) (backOf (W := 0) (rm16 l Z a0 hw [] b1 (3 : Int32) pf_2 kf_2 nn pfz_95 (own_r0 nn) h104 n0 Zn F_pf_95 V_pf_95 L_pf_95 ⟨by decide, by rw [hk_nn]; decide⟩) hZ (hw _ (List.mem_of_getElem? (i := 93) rfl)) (hw _ (List.mem_of_getElem? (i := 2) rfl)) (by decide) (by decide)) q121a q121c (g := (mkF m 206 #[.val (.int p1), .val (.int p2), .val (.int p3), .val (.int p4), .val (.int p5), .val (.int p6), .val (.int (4 : Int32)), .val (.ref b1), .val (.int (2 : Int32)), .val (.int (1 : Int32))] [(.int (3 : Int32)), (.ref b1)])) rfl (by rw [hml]; rfl) (Steps.refl _) (argsL := [(.int (3 : Int32))]) (rest := []) (lenOf pd_11 rfl) rfl (by show 2 * 0 + _ ≤ _; exact Nat.le_of_eq rfl) (hb hby at_206) (fun _ _ => ⟨rfl, hs118, (by decide : 20 + 0 ≤ _), (by decide : 133 + 0 ≤ _)⟩)
      dsimp only [Pt.U, Pt.locs, Pt.cells, Pt.slots] at X121 l121 y121 z121 st121 hQ121
      replace y121 : kx121 = 20 := y121
      replace z121 : nx121 = 133 := z121
      subst y121 z121
      obtain ⟨rfl, Nq121, hs121, F_r_121⟩ := hQ121
      have NN : Fr n0 Lx121 := by rw [l121]; exact Fr.app NN Nq121
      have F_r_121 : own_S Z h104 (pfz_95.getD ((3 : Int32)).toNatClampNeg .null) ((own_r0 nn).getD ((3 : Int32)).toNatClampNeg none) := hs121 ▸ F_r_121
      have pre : ∀ τ, Steps p.tables e below (T121.setTop (mkF m 209 #[.val (.int p1), .val (.int p2), .val (.int p3), .val (.int p4), .val (.int p5), .val (.int p6), .val (.int (4 : Int32)), .val (.ref b1), .val (.int (2 : Int32)), .val (.int (1 : Int32))] [(pfz_95.getD ((3 : Int32)).toNatClampNeg .null)])) τ → G τ := fun τ κ => pre τ (st121.trans κ)
      have hnul3 := own_S_none F_r_121 (own_r0n (by decide))
      have pre : ∀ τ, Steps p.tables e below (T121.setTop (mkF m 209 #[.val (.int p1), .val (.int p2), .val (.int p3), .val (.int p4), .val (.int p5), .val (.int p6), .val (.int (4 : Int32)), .val (.ref b1), .val (.int (2 : Int32)), .val (.int (1 : Int32))] [.null])) τ → G τ := by rw [hnul3] at pre; exact pre
      have pre : ∀ τ, Steps p.tables e below (T121.setTop (mkF m 222 #[.val (.int p1), .val (.int p2), .val (.int p3), .val (.int p4), .val (.int p5), .val (.int p6), .val (.int (4 : Int32)), .val (.ref b1), .val (.int (2 : Int32)), .val (.int (1 : Int32))] [(.int (4 : Int32)), (.int (4 : Int32))])) τ → G τ := fun τ κ => pre τ (by
        refine XS.ifnonnullNo X121.here hx rfl (hb hby at_209) rfl ?_
        show Steps p.tables e below (T121.setTop (mkF m 212 #[.val (.int p1), .val (.int p2), .val (.int p3), .val (.int p4), .val (.int p5), .val (.int p6), .val (.int (4 : Int32)), .val (.ref b1), .val (.int (2 : Int32)), .val (.int (1 : Int32))] [])) τ
        refine XS.iconst X121.here hx rfl (hb hby at_212) ?_
        show Steps p.tables e below (T121.setTop (mkF m 213 #[.val (.int p1), .val (.int p2), .val (.int p3), .val (.int p4), .val (.int p5), .val (.int p6), .val (.int (4 : Int32)), .val (.ref b1), .val (.int (2 : Int32)), .val (.int (1 : Int32))] [(.int (1 : Int32))])) τ
        refine XS.goto X121.here hx rfl (pc0 := 213) (pc' := 217) rfl (hb hby at_213) (by decide) (by decide) ?_
        show Steps p.tables e below (T121.setTop (mkF m 217 #[.val (.int p1), .val (.int p2), .val (.int p3), .val (.int p4), .val (.int p5), .val (.int p6), .val (.int (4 : Int32)), .val (.ref b1), .val (.int (2 : Int32)), .val (.int (1 : Int32))] [(.int (1 : Int32))])) τ
        refine XS.istore X121.here hx rfl (hb hby at_217) rfl (l' := #[.val (.int p1), .val (.int p2), .val (.int p3), .val (.int p4), .val (.int p5), .val (.int p6), .val (.int (4 : Int32)), .val (.ref b1), .val (.int (2 : Int32)), .val (.int (1 : Int32))]) rfl ?_
        show Steps p.tables e below (T121.setTop (mkF m 219 #[.val (.int p1), .val (.int p2), .val (.int p3), .val (.int p4), .val (.int p5), .val (.int p6), .val (.int (4 : Int32)), .val (.ref b1), .val (.int (2 : Int32)), .val (.int (1 : Int32))] [])) τ
        refine XS.iload X121.here hx rfl (hb hby at_219) rfl ?_
        show Steps p.tables e below (T121.setTop (mkF m 221 #[.val (.int p1), .val (.int p2), .val (.int p3), .val (.int p4), .val (.int p5), .val (.int p6), .val (.int (4 : Int32)), .val (.ref b1), .val (.int (2 : Int32)), .val (.int (1 : Int32))] [(.int (4 : Int32))])) τ
        refine XS.iconst X121.here hx rfl (hb hby at_221) ?_
        show Steps p.tables e below (T121.setTop (mkF m 222 #[.val (.int p1), .val (.int p2), .val (.int p3), .val (.int p4), .val (.int p5), .val (.int p6), .val (.int (4 : Int32)), .val (.ref b1), .val (.int (2 : Int32)), .val (.int (1 : Int32))] [(.int (4 : Int32)), (.int (4 : Int32))])) τ
        exact κ)
      have hc122 : ¬ ((4 : Int32) < (4 : Int32)) := (by decide)
      have pre : ∀ τ, Steps p.tables e below (T121.setTop (mkF m 248 #[.val (.int p1), .val (.int p2), .val (.int p3), .val (.int p4), .val (.int p5), .val (.int p6), .val (.int (4 : Int32)), .val (.ref b1), .val (.int (2 : Int32)), .val (.int (1 : Int32))] [(.int (1 : Int32))])) τ → G τ := fun τ κ => pre τ (by
        refine XS.icmpYes X121.here hx rfl (pc0 := 222) (pc' := 246) rfl (hb hby at_222) rfl (flt hc122).2.2.2 (by decide) (by decide) ?_
        show Steps p.tables e below (T121.setTop (mkF m 246 #[.val (.int p1), .val (.int p2), .val (.int p3), .val (.int p4), .val (.int p5), .val (.int p6), .val (.int (4 : Int32)), .val (.ref b1), .val (.int (2 : Int32)), .val (.int (1 : Int32))] [])) τ
        refine XS.iload X121.here hx rfl (hb hby at_246) rfl ?_
        show Steps p.tables e below (T121.setTop (mkF m 248 #[.val (.int p1), .val (.int p2), .val (.int p3), .val (.int p4), .val (.int p5), .val (.int p6), .val (.int (4 : Int32)), .val (.ref b1), .val (.int (2 : Int32)), .val (.int (1 : Int32))] [(.int (1 : Int32))])) τ
        exact κ)
      have hkT := Nat.le_trans hk (Nat.le_of_eq (congrArg Array.size (Eq.symm hs121)))
      obtain ⟨fsα, hr, hrun, hended, hRE⟩ := X121.leaveW hS hkT (v := some (.int (1 : Int32))) (fun h => by rw [Bd.returns] at h; cases h)
      refine hGL ⟨_, _, hG _ (pre _ ?_), hrun, hended, _, _, rfl, ?_, ?_, ⟨_, rfl⟩, hRE.2.1, hRE.2.2.1, hRE.2.2.2.mono (by decide) (by decide)⟩
      · exact retN X121 hx (t := .boolean) Bd.returns (by simp) (hb hby at_248) hr
      · show Q0 Z p1 p2 p3 p4 p5 p6 cw h0 n0 _ T121.heap _
        rw [hs121]
        exact ⟨rfl, NN⟩
      · show CHr Z own_EL s.vm s.heap T121.vm T121.heap
        rw [hh, hs121]
        exact HR.trans (CHv.at X121 hZ hEL H)
    ·
      have pre : ∀ τ, Steps p.tables e below (T106.setTop (mkF m 165 #[.val (.int p1), .val (.int p2), .val (.int p3), .val (.int p4), .val (.int p5), .val (.int p6), .val (.int (5 : Int32)), .val (.ref b1), .val (.int (2 : Int32)), .val (.int (1 : Int32))] [])) τ → G τ := (show nn = (5 : Int32) from hk_nn) ▸ pre
      have pre : ∀ τ, Steps p.tables e below (T106.setTop (mkF m 168 #[.val (.int p1), .val (.int p2), .val (.int p3), .val (.int p4), .val (.int p5), .val (.int p6), .val (.int (5 : Int32)), .val (.ref b1), .val (.int (2 : Int32)), .val (.int (1 : Int32))] [(.int (2 : Int32)), (.int (5 : Int32))])) τ → G τ := fun τ κ => pre τ (by
        refine XS.iload X106.here hx rfl (hb hby at_165) rfl ?_
        show Steps p.tables e below (T106.setTop (mkF m 167 #[.val (.int p1), .val (.int p2), .val (.int p3), .val (.int p4), .val (.int p5), .val (.int p6), .val (.int (5 : Int32)), .val (.ref b1), .val (.int (2 : Int32)), .val (.int (1 : Int32))] [(.int (5 : Int32))])) τ
        refine XS.iconst X106.here hx rfl (hb hby at_167) ?_
        show Steps p.tables e below (T106.setTop (mkF m 168 #[.val (.int p1), .val (.int p2), .val (.int p3), .val (.int p4), .val (.int p5), .val (.int p6), .val (.int (5 : Int32)), .val (.ref b1), .val (.int (2 : Int32)), .val (.int (1 : Int32))] [(.int (2 : Int32)), (.int (5 : Int32))])) τ
        exact κ)
      have hc123 : (2 : Int32) < (5 : Int32) := (by decide)
      have pre : ∀ τ, Steps p.tables e below (T106.setTop (mkF m 173 #[.val (.int p1), .val (.int p2), .val (.int p3), .val (.int p4), .val (.int p5), .val (.int p6), .val (.int (5 : Int32)), .val (.ref b1), .val (.int (2 : Int32)), .val (.int (1 : Int32))] [(.int (1 : Int32))])) τ → G τ := fun τ κ => pre τ (by
        refine XS.icmpNo X106.here hx rfl (hb hby at_168) rfl (tlt hc123).2.2.2 ?_
        show Steps p.tables e below (T106.setTop (mkF m 171 #[.val (.int p1), .val (.int p2), .val (.int p3), .val (.int p4), .val (.int p5), .val (.int p6), .val (.int (5 : Int32)), .val (.ref b1), .val (.int (2 : Int32)), .val (.int (1 : Int32))] [])) τ
        refine XS.iload X106.here hx rfl (hb hby at_171) rfl ?_
        show Steps p.tables e below (T106.setTop (mkF m 173 #[.val (.int p1), .val (.int p2), .val (.int p3), .val (.int p4), .val (.int p5), .val (.int p6), .val (.int (5 : Int32)), .val (.ref b1), .val (.int (2 : Int32)), .val (.int (1 : Int32))] [(.int (1 : Int32))])) τ
        exact κ)
      have hc124 : ¬ ((1 : Int32) = (0 : Int32)) := (by decide)
      have pre : ∀ τ, Steps p.tables e below (T106.setTop (mkF m 179 #[.val (.int p1), .val (.int p2), .val (.int p3), .val (.int p4), .val (.int p5), .val (.int p6), .val (.int (5 : Int32)), .val (.ref b1), .val (.int (2 : Int32)), .val (.int (1 : Int32))] [(.int (2 : Int32)), (.ref b1)])) τ → G τ := fun τ κ => pre τ (by
        refine XS.ifNo X106.here hx rfl (hb hby at_173) rfl ((if0 _ _).trans (feq hc124).1) ?_
        show Steps p.tables e below (T106.setTop (mkF m 176 #[.val (.int p1), .val (.int p2), .val (.int p3), .val (.int p4), .val (.int p5), .val (.int p6), .val (.int (5 : Int32)), .val (.ref b1), .val (.int (2 : Int32)), .val (.int (1 : Int32))] [])) τ
        refine XS.aload X106.here hx rfl (hb hby at_176) rfl rfl ?_
        show Steps p.tables e below (T106.setTop (mkF m 178 #[.val (.int p1), .val (.int p2), .val (.int p3), .val (.int p4), .val (.int p5), .val (.int p6), .val (.int (5 : Int32)), .val (.ref b1), .val (.int (2 : Int32)), .val (.int (1 : Int32))] [(.ref b1)])) τ
        refine XS.iconst X106.here hx rfl (hb hby at_178) ?_
        show Steps p.tables e below (T106.setTop (mkF m 179 #[.val (.int p1), .val (.int p2), .val (.int p3), .val (.int p4), .val (.int p5), .val (.int p6), .val (.int (5 : Int32)), .val (.ref b1), .val (.int (2 : Int32)), .val (.int (1 : Int32))] [(.int (2 : Int32)), (.ref b1)])) τ
        exact κ)
      obtain ⟨cq125, kq125, q125a, q125b, q125c⟩ := isOf hZ hs106 E_b1
      obtain ⟨_, _, ⟨T125, Lx125, kx125, nx125⟩, -, X125, ⟨Lc125, hQ125, l125, y125, z125⟩, st125⟩ := X106.virtualBack hx (y := (⟨"coppice/marshal/context/NamespaceScope", "prefix", "(I)Ljava/lang/String;"⟩ : MethodName)) (z := (⟨"coppice/marshal/context/NamespaceScope", "prefix", "(I)Ljava/lang/String;"⟩ : MethodName)) hown (mvT hZ (hw _ (List.mem_of_getElem? (i := 89) rfl))) (mvT hZ (hw _ (List.mem_of_getElem? (i := 90) rfl))) (notFace_of_selects (args := #[]) (mvT hZ (hw _ (List.mem_of_getElem? (i := 92) rfl)))) (mvT hZ (hw _ (List.mem_of_getElem? (i := 92) rfl))) (mvT hZ (hw _ (List.mem_of_getElem? (i := 91) rfl))) (by decide) (backOf (W := 0) (rm16 l Z a0 hw [] b1 (2 : Int32) pf_2 kf_2 nn pfz_95 (own_r0 nn) h104 n0 Zn F_pf_95 V_pf_95 L_pf_95 ⟨by decide, by rw [hk_nn]; decide⟩) hZ (hw _ (List.mem_of_getElem? (i := 93) rfl)) (hw _ (List.mem_of_getElem? (i := 2) rfl)) (by decide) (by decide)) q125a q125c (g := (mkF m 179 #[.val (.int p1), .val (.int p2), .val (.int p3), .val (.int p4), .val (.int p5), .val (.int p6), .val (.int (5 : Int32)), .val (.ref b1), .val (.int (2 : Int32)), .val (.int (1 : Int32))] [(.int (2 : Int32)), (.ref b1)])) rfl (by rw [hml]; rfl) (Steps.refl _) (argsL := [(.int (2 : Int32))]) (rest := []) (lenOf pd_11 rfl) rfl (by show 2 * 0 + _ ≤ _; exact Nat.le_of_eq rfl) (hb hby at_179) (fun _ _ => ⟨rfl, hs106, (by decide : 20 + 0 ≤ _), (by decide : 133 + 0 ≤ _)⟩)
      dsimp only [Pt.U, Pt.locs, Pt.cells, Pt.slots] at X125 l125 y125 z125 st125 hQ125
      replace y125 : kx125 = 20 := y125
      replace z125 : nx125 = 133 := z125
      subst y125 z125
      obtain ⟨rfl, Nq125, hs125, F_r_125⟩ := hQ125
      have NN : Fr n0 Lx125 := by rw [l125]; exact Fr.app NN Nq125
      have F_r_125 : own_S Z h104 (pfz_95.getD ((2 : Int32)).toNatClampNeg .null) ((own_r0 nn).getD ((2 : Int32)).toNatClampNeg none) := hs125 ▸ F_r_125
      have pre : ∀ τ, Steps p.tables e below (T125.setTop (mkF m 182 #[.val (.int p1), .val (.int p2), .val (.int p3), .val (.int p4), .val (.int p5), .val (.int p6), .val (.int (5 : Int32)), .val (.ref b1), .val (.int (2 : Int32)), .val (.int (1 : Int32))] [(pfz_95.getD ((2 : Int32)).toNatClampNeg .null)])) τ → G τ := fun τ κ => pre τ (st125.trans κ)
      have hnul2 := own_S_none F_r_125 (own_r0n (by decide))
      have pre : ∀ τ, Steps p.tables e below (T125.setTop (mkF m 182 #[.val (.int p1), .val (.int p2), .val (.int p3), .val (.int p4), .val (.int p5), .val (.int p6), .val (.int (5 : Int32)), .val (.ref b1), .val (.int (2 : Int32)), .val (.int (1 : Int32))] [.null])) τ → G τ := by rw [hnul2] at pre; exact pre
      have pre : ∀ τ, Steps p.tables e below (T125.setTop (mkF m 195 #[.val (.int p1), .val (.int p2), .val (.int p3), .val (.int p4), .val (.int p5), .val (.int p6), .val (.int (5 : Int32)), .val (.ref b1), .val (.int (2 : Int32)), .val (.int (1 : Int32))] [(.int (3 : Int32)), (.int (5 : Int32))])) τ → G τ := fun τ κ => pre τ (by
        refine XS.ifnonnullNo X125.here hx rfl (hb hby at_182) rfl ?_
        show Steps p.tables e below (T125.setTop (mkF m 185 #[.val (.int p1), .val (.int p2), .val (.int p3), .val (.int p4), .val (.int p5), .val (.int p6), .val (.int (5 : Int32)), .val (.ref b1), .val (.int (2 : Int32)), .val (.int (1 : Int32))] [])) τ
        refine XS.iconst X125.here hx rfl (hb hby at_185) ?_
        show Steps p.tables e below (T125.setTop (mkF m 186 #[.val (.int p1), .val (.int p2), .val (.int p3), .val (.int p4), .val (.int p5), .val (.int p6), .val (.int (5 : Int32)), .val (.ref b1), .val (.int (2 : Int32)), .val (.int (1 : Int32))] [(.int (1 : Int32))])) τ
        refine XS.goto X125.here hx rfl (pc0 := 186) (pc' := 190) rfl (hb hby at_186) (by decide) (by decide) ?_
        show Steps p.tables e below (T125.setTop (mkF m 190 #[.val (.int p1), .val (.int p2), .val (.int p3), .val (.int p4), .val (.int p5), .val (.int p6), .val (.int (5 : Int32)), .val (.ref b1), .val (.int (2 : Int32)), .val (.int (1 : Int32))] [(.int (1 : Int32))])) τ
        refine XS.istore X125.here hx rfl (hb hby at_190) rfl (l' := #[.val (.int p1), .val (.int p2), .val (.int p3), .val (.int p4), .val (.int p5), .val (.int p6), .val (.int (5 : Int32)), .val (.ref b1), .val (.int (2 : Int32)), .val (.int (1 : Int32))]) rfl ?_
        show Steps p.tables e below (T125.setTop (mkF m 192 #[.val (.int p1), .val (.int p2), .val (.int p3), .val (.int p4), .val (.int p5), .val (.int p6), .val (.int (5 : Int32)), .val (.ref b1), .val (.int (2 : Int32)), .val (.int (1 : Int32))] [])) τ
        refine XS.iload X125.here hx rfl (hb hby at_192) rfl ?_
        show Steps p.tables e below (T125.setTop (mkF m 194 #[.val (.int p1), .val (.int p2), .val (.int p3), .val (.int p4), .val (.int p5), .val (.int p6), .val (.int (5 : Int32)), .val (.ref b1), .val (.int (2 : Int32)), .val (.int (1 : Int32))] [(.int (5 : Int32))])) τ
        refine XS.iconst X125.here hx rfl (hb hby at_194) ?_
        show Steps p.tables e below (T125.setTop (mkF m 195 #[.val (.int p1), .val (.int p2), .val (.int p3), .val (.int p4), .val (.int p5), .val (.int p6), .val (.int (5 : Int32)), .val (.ref b1), .val (.int (2 : Int32)), .val (.int (1 : Int32))] [(.int (3 : Int32)), (.int (5 : Int32))])) τ
        exact κ)
      have hc126 : (3 : Int32) < (5 : Int32) := (by decide)
      have pre : ∀ τ, Steps p.tables e below (T125.setTop (mkF m 200 #[.val (.int p1), .val (.int p2), .val (.int p3), .val (.int p4), .val (.int p5), .val (.int p6), .val (.int (5 : Int32)), .val (.ref b1), .val (.int (2 : Int32)), .val (.int (1 : Int32))] [(.int (1 : Int32))])) τ → G τ := fun τ κ => pre τ (by
        refine XS.icmpNo X125.here hx rfl (hb hby at_195) rfl (tlt hc126).2.2.2 ?_
        show Steps p.tables e below (T125.setTop (mkF m 198 #[.val (.int p1), .val (.int p2), .val (.int p3), .val (.int p4), .val (.int p5), .val (.int p6), .val (.int (5 : Int32)), .val (.ref b1), .val (.int (2 : Int32)), .val (.int (1 : Int32))] [])) τ
        refine XS.iload X125.here hx rfl (hb hby at_198) rfl ?_
        show Steps p.tables e below (T125.setTop (mkF m 200 #[.val (.int p1), .val (.int p2), .val (.int p3), .val (.int p4), .val (.int p5), .val (.int p6), .val (.int (5 : Int32)), .val (.ref b1), .val (.int (2 : Int32)), .val (.int (1 : Int32))] [(.int (1 : Int32))])) τ
        exact κ)
      have hc127 : ¬ ((1 : Int32) = (0 : Int32)) := (by decide)
      have pre : ∀ τ, Steps p.tables e below (T125.setTop (mkF m 206 #[.val (.int p1), .val (.int p2), .val (.int p3), .val (.int p4), .val (.int p5), .val (.int p6), .val (.int (5 : Int32)), .val (.ref b1), .val (.int (2 : Int32)), .val (.int (1 : Int32))] [(.int (3 : Int32)), (.ref b1)])) τ → G τ := fun τ κ => pre τ (by
        refine XS.ifNo X125.here hx rfl (hb hby at_200) rfl ((if0 _ _).trans (feq hc127).1) ?_
        show Steps p.tables e below (T125.setTop (mkF m 203 #[.val (.int p1), .val (.int p2), .val (.int p3), .val (.int p4), .val (.int p5), .val (.int p6), .val (.int (5 : Int32)), .val (.ref b1), .val (.int (2 : Int32)), .val (.int (1 : Int32))] [])) τ
        refine XS.aload X125.here hx rfl (hb hby at_203) rfl rfl ?_
        show Steps p.tables e below (T125.setTop (mkF m 205 #[.val (.int p1), .val (.int p2), .val (.int p3), .val (.int p4), .val (.int p5), .val (.int p6), .val (.int (5 : Int32)), .val (.ref b1), .val (.int (2 : Int32)), .val (.int (1 : Int32))] [(.ref b1)])) τ
        refine XS.iconst X125.here hx rfl (hb hby at_205) ?_
        show Steps p.tables e below (T125.setTop (mkF m 206 #[.val (.int p1), .val (.int p2), .val (.int p3), .val (.int p4), .val (.int p5), .val (.int p6), .val (.int (5 : Int32)), .val (.ref b1), .val (.int (2 : Int32)), .val (.int (1 : Int32))] [(.int (3 : Int32)), (.ref b1)])) τ
        exact κ)
      obtain ⟨cq128, kq128, q128a, q128b, q128c⟩ := isOf hZ hs125 E_b1
      obtain ⟨_, _, ⟨T128, Lx128, kx128, nx128⟩, -, X128, ⟨Lc128, hQ128, l128, y128, z128⟩, st128⟩ := X125.virtualBack hx (y := (⟨"coppice/marshal/context/NamespaceScope", "prefix", "(I)Ljava/lang/String;"⟩ : MethodName)) (z := (⟨"coppice/marshal/context/NamespaceScope", "prefix", "(I)Ljava/lang/String;"⟩ : MethodName)) hown (mvT hZ (hw _ (List.mem_of_getElem? (i := 89) rfl))) (mvT hZ (hw _ (List.mem_of_getElem? (i := 90) rfl))) (notFace_of_selects (args := #[]) (mvT hZ (hw _ (List.mem_of_getElem? (i := 92) rfl)))) (mvT hZ (hw _ (List.mem_of_getElem? (i := 92) rfl))) (mvT hZ (hw _ (List.mem_of_getElem? (i := 91) rfl))) (by decide) (backOf (W := 0) (rm16 l Z a0 hw [] b1 (3 : Int32) pf_2 kf_2 nn pfz_95 (own_r0 nn) h104 n0 Zn F_pf_95 V_pf_95 L_pf_95 ⟨by decide, by rw [hk_nn]; decide⟩) hZ (hw _ (List.mem_of_getElem? (i := 93) rfl)) (hw _ (List.mem_of_getElem? (i := 2) rfl)) (by decide) (by decide)) q128a q128c (g := (mkF m 206 #[.val (.int p1), .val (.int p2), .val (.int p3), .val (.int p4), .val (.int p5), .val (.int p6), .val (.int (5 : Int32)), .val (.ref b1), .val (.int (2 : Int32)), .val (.int (1 : Int32))] [(.int (3 : Int32)), (.ref b1)])) rfl (by rw [hml]; rfl) (Steps.refl _) (argsL := [(.int (3 : Int32))]) (rest := []) (lenOf pd_11 rfl) rfl (by show 2 * 0 + _ ≤ _; exact Nat.le_of_eq rfl) (hb hby at_206) (fun _ _ => ⟨rfl, hs125, (by decide : 20 + 0 ≤ _), (by decide : 133 + 0 ≤ _)⟩)
      dsimp only [Pt.U, Pt.locs, Pt.cells, Pt.slots] at X128 l128 y128 z128 st128 hQ128
      replace y128 : kx128 = 20 := y128
      replace z128 : nx128 = 133 := z128
      subst y128 z128
      obtain ⟨rfl, Nq128, hs128, F_r_128⟩ := hQ128
      have NN : Fr n0 Lx128 := by rw [l128]; exact Fr.app NN Nq128
      have F_r_128 : own_S Z h104 (pfz_95.getD ((3 : Int32)).toNatClampNeg .null) ((own_r0 nn).getD ((3 : Int32)).toNatClampNeg none) := hs128 ▸ F_r_128
      have pre : ∀ τ, Steps p.tables e below (T128.setTop (mkF m 209 #[.val (.int p1), .val (.int p2), .val (.int p3), .val (.int p4), .val (.int p5), .val (.int p6), .val (.int (5 : Int32)), .val (.ref b1), .val (.int (2 : Int32)), .val (.int (1 : Int32))] [(pfz_95.getD ((3 : Int32)).toNatClampNeg .null)])) τ → G τ := fun τ κ => pre τ (st128.trans κ)
      have hnul3 := own_S_none F_r_128 (own_r0n (by decide))
      have pre : ∀ τ, Steps p.tables e below (T128.setTop (mkF m 209 #[.val (.int p1), .val (.int p2), .val (.int p3), .val (.int p4), .val (.int p5), .val (.int p6), .val (.int (5 : Int32)), .val (.ref b1), .val (.int (2 : Int32)), .val (.int (1 : Int32))] [.null])) τ → G τ := by rw [hnul3] at pre; exact pre
      have pre : ∀ τ, Steps p.tables e below (T128.setTop (mkF m 222 #[.val (.int p1), .val (.int p2), .val (.int p3), .val (.int p4), .val (.int p5), .val (.int p6), .val (.int (5 : Int32)), .val (.ref b1), .val (.int (2 : Int32)), .val (.int (1 : Int32))] [(.int (4 : Int32)), (.int (5 : Int32))])) τ → G τ := fun τ κ => pre τ (by
        refine XS.ifnonnullNo X128.here hx rfl (hb hby at_209) rfl ?_
        show Steps p.tables e below (T128.setTop (mkF m 212 #[.val (.int p1), .val (.int p2), .val (.int p3), .val (.int p4), .val (.int p5), .val (.int p6), .val (.int (5 : Int32)), .val (.ref b1), .val (.int (2 : Int32)), .val (.int (1 : Int32))] [])) τ
        refine XS.iconst X128.here hx rfl (hb hby at_212) ?_
        show Steps p.tables e below (T128.setTop (mkF m 213 #[.val (.int p1), .val (.int p2), .val (.int p3), .val (.int p4), .val (.int p5), .val (.int p6), .val (.int (5 : Int32)), .val (.ref b1), .val (.int (2 : Int32)), .val (.int (1 : Int32))] [(.int (1 : Int32))])) τ
        refine XS.goto X128.here hx rfl (pc0 := 213) (pc' := 217) rfl (hb hby at_213) (by decide) (by decide) ?_
        show Steps p.tables e below (T128.setTop (mkF m 217 #[.val (.int p1), .val (.int p2), .val (.int p3), .val (.int p4), .val (.int p5), .val (.int p6), .val (.int (5 : Int32)), .val (.ref b1), .val (.int (2 : Int32)), .val (.int (1 : Int32))] [(.int (1 : Int32))])) τ
        refine XS.istore X128.here hx rfl (hb hby at_217) rfl (l' := #[.val (.int p1), .val (.int p2), .val (.int p3), .val (.int p4), .val (.int p5), .val (.int p6), .val (.int (5 : Int32)), .val (.ref b1), .val (.int (2 : Int32)), .val (.int (1 : Int32))]) rfl ?_
        show Steps p.tables e below (T128.setTop (mkF m 219 #[.val (.int p1), .val (.int p2), .val (.int p3), .val (.int p4), .val (.int p5), .val (.int p6), .val (.int (5 : Int32)), .val (.ref b1), .val (.int (2 : Int32)), .val (.int (1 : Int32))] [])) τ
        refine XS.iload X128.here hx rfl (hb hby at_219) rfl ?_
        show Steps p.tables e below (T128.setTop (mkF m 221 #[.val (.int p1), .val (.int p2), .val (.int p3), .val (.int p4), .val (.int p5), .val (.int p6), .val (.int (5 : Int32)), .val (.ref b1), .val (.int (2 : Int32)), .val (.int (1 : Int32))] [(.int (5 : Int32))])) τ
        refine XS.iconst X128.here hx rfl (hb hby at_221) ?_
        show Steps p.tables e below (T128.setTop (mkF m 222 #[.val (.int p1), .val (.int p2), .val (.int p3), .val (.int p4), .val (.int p5), .val (.int p6), .val (.int (5 : Int32)), .val (.ref b1), .val (.int (2 : Int32)), .val (.int (1 : Int32))] [(.int (4 : Int32)), (.int (5 : Int32))])) τ
        exact κ)
      have hc129 : (4 : Int32) < (5 : Int32) := (by decide)
      have pre : ∀ τ, Steps p.tables e below (T128.setTop (mkF m 227 #[.val (.int p1), .val (.int p2), .val (.int p3), .val (.int p4), .val (.int p5), .val (.int p6), .val (.int (5 : Int32)), .val (.ref b1), .val (.int (2 : Int32)), .val (.int (1 : Int32))] [(.int (1 : Int32))])) τ → G τ := fun τ κ => pre τ (by
        refine XS.icmpNo X128.here hx rfl (hb hby at_222) rfl (tlt hc129).2.2.2 ?_
        show Steps p.tables e below (T128.setTop (mkF m 225 #[.val (.int p1), .val (.int p2), .val (.int p3), .val (.int p4), .val (.int p5), .val (.int p6), .val (.int (5 : Int32)), .val (.ref b1), .val (.int (2 : Int32)), .val (.int (1 : Int32))] [])) τ
        refine XS.iload X128.here hx rfl (hb hby at_225) rfl ?_
        show Steps p.tables e below (T128.setTop (mkF m 227 #[.val (.int p1), .val (.int p2), .val (.int p3), .val (.int p4), .val (.int p5), .val (.int p6), .val (.int (5 : Int32)), .val (.ref b1), .val (.int (2 : Int32)), .val (.int (1 : Int32))] [(.int (1 : Int32))])) τ
        exact κ)
      have hc130 : ¬ ((1 : Int32) = (0 : Int32)) := (by decide)
      have pre : ∀ τ, Steps p.tables e below (T128.setTop (mkF m 233 #[.val (.int p1), .val (.int p2), .val (.int p3), .val (.int p4), .val (.int p5), .val (.int p6), .val (.int (5 : Int32)), .val (.ref b1), .val (.int (2 : Int32)), .val (.int (1 : Int32))] [(.int (4 : Int32)), (.ref b1)])) τ → G τ := fun τ κ => pre τ (by
        refine XS.ifNo X128.here hx rfl (hb hby at_227) rfl ((if0 _ _).trans (feq hc130).1) ?_
        show Steps p.tables e below (T128.setTop (mkF m 230 #[.val (.int p1), .val (.int p2), .val (.int p3), .val (.int p4), .val (.int p5), .val (.int p6), .val (.int (5 : Int32)), .val (.ref b1), .val (.int (2 : Int32)), .val (.int (1 : Int32))] [])) τ
        refine XS.aload X128.here hx rfl (hb hby at_230) rfl rfl ?_
        show Steps p.tables e below (T128.setTop (mkF m 232 #[.val (.int p1), .val (.int p2), .val (.int p3), .val (.int p4), .val (.int p5), .val (.int p6), .val (.int (5 : Int32)), .val (.ref b1), .val (.int (2 : Int32)), .val (.int (1 : Int32))] [(.ref b1)])) τ
        refine XS.iconst X128.here hx rfl (hb hby at_232) ?_
        show Steps p.tables e below (T128.setTop (mkF m 233 #[.val (.int p1), .val (.int p2), .val (.int p3), .val (.int p4), .val (.int p5), .val (.int p6), .val (.int (5 : Int32)), .val (.ref b1), .val (.int (2 : Int32)), .val (.int (1 : Int32))] [(.int (4 : Int32)), (.ref b1)])) τ
        exact κ)
      obtain ⟨cq131, kq131, q131a, q131b, q131c⟩ := isOf hZ hs128 E_b1
      obtain ⟨_, _, ⟨T131, Lx131, kx131, nx131⟩, -, X131, ⟨Lc131, hQ131, l131, y131, z131⟩, st131⟩ := X128.virtualBack hx (y := (⟨"coppice/marshal/context/NamespaceScope", "prefix", "(I)Ljava/lang/String;"⟩ : MethodName)) (z := (⟨"coppice/marshal/context/NamespaceScope", "prefix", "(I)Ljava/lang/String;"⟩ : MethodName)) hown (mvT hZ (hw _ (List.mem_of_getElem? (i := 89) rfl))) (mvT hZ (hw _ (List.mem_of_getElem? (i := 90) rfl))) (notFace_of_selects (args := #[]) (mvT hZ (hw _ (List.mem_of_getElem? (i := 92) rfl)))) (mvT hZ (hw _ (List.mem_of_getElem? (i := 92) rfl))) (mvT hZ (hw _ (List.mem_of_getElem? (i := 91) rfl))) (by decide) (backOf (W := 0) (rm16 l Z a0 hw [] b1 (4 : Int32) pf_2 kf_2 nn pfz_95 (own_r0 nn) h104 n0 Zn F_pf_95 V_pf_95 L_pf_95 ⟨by decide, by rw [hk_nn]; decide⟩) hZ (hw _ (List.mem_of_getElem? (i := 93) rfl)) (hw _ (List.mem_of_getElem? (i := 2) rfl)) (by decide) (by decide)) q131a q131c (g := (mkF m 233 #[.val (.int p1), .val (.int p2), .val (.int p3), .val (.int p4), .val (.int p5), .val (.int p6), .val (.int (5 : Int32)), .val (.ref b1), .val (.int (2 : Int32)), .val (.int (1 : Int32))] [(.int (4 : Int32)), (.ref b1)])) rfl (by rw [hml]; rfl) (Steps.refl _) (argsL := [(.int (4 : Int32))]) (rest := []) (lenOf pd_11 rfl) rfl (by show 2 * 0 + _ ≤ _; exact Nat.le_of_eq rfl) (hb hby at_233) (fun _ _ => ⟨rfl, hs128, (by decide : 20 + 0 ≤ _), (by decide : 133 + 0 ≤ _)⟩)
      dsimp only [Pt.U, Pt.locs, Pt.cells, Pt.slots] at X131 l131 y131 z131 st131 hQ131
      replace y131 : kx131 = 20 := y131
      replace z131 : nx131 = 133 := z131
      subst y131 z131
      obtain ⟨rfl, Nq131, hs131, F_r_131⟩ := hQ131
      have NN : Fr n0 Lx131 := by rw [l131]; exact Fr.app NN Nq131
      have F_r_131 : own_S Z h104 (pfz_95.getD ((4 : Int32)).toNatClampNeg .null) ((own_r0 nn).getD ((4 : Int32)).toNatClampNeg none) := hs131 ▸ F_r_131
      have pre : ∀ τ, Steps p.tables e below (T131.setTop (mkF m 236 #[.val (.int p1), .val (.int p2), .val (.int p3), .val (.int p4), .val (.int p5), .val (.int p6), .val (.int (5 : Int32)), .val (.ref b1), .val (.int (2 : Int32)), .val (.int (1 : Int32))] [(pfz_95.getD ((4 : Int32)).toNatClampNeg .null)])) τ → G τ := fun τ κ => pre τ (st131.trans κ)
      have hnul4 := own_S_none F_r_131 (own_r0n (by decide))
      have pre : ∀ τ, Steps p.tables e below (T131.setTop (mkF m 236 #[.val (.int p1), .val (.int p2), .val (.int p3), .val (.int p4), .val (.int p5), .val (.int p6), .val (.int (5 : Int32)), .val (.ref b1), .val (.int (2 : Int32)), .val (.int (1 : Int32))] [.null])) τ → G τ := by rw [hnul4] at pre; exact pre
      have pre : ∀ τ, Steps p.tables e below (T131.setTop (mkF m 248 #[.val (.int p1), .val (.int p2), .val (.int p3), .val (.int p4), .val (.int p5), .val (.int p6), .val (.int (5 : Int32)), .val (.ref b1), .val (.int (2 : Int32)), .val (.int (1 : Int32))] [(.int (1 : Int32))])) τ → G τ := fun τ κ => pre τ (by
        refine XS.ifnonnullNo X131.here hx rfl (hb hby at_236) rfl ?_
        show Steps p.tables e below (T131.setTop (mkF m 239 #[.val (.int p1), .val (.int p2), .val (.int p3), .val (.int p4), .val (.int p5), .val (.int p6), .val (.int (5 : Int32)), .val (.ref b1), .val (.int (2 : Int32)), .val (.int (1 : Int32))] [])) τ
        refine XS.iconst X131.here hx rfl (hb hby at_239) ?_
        show Steps p.tables e below (T131.setTop (mkF m 240 #[.val (.int p1), .val (.int p2), .val (.int p3), .val (.int p4), .val (.int p5), .val (.int p6), .val (.int (5 : Int32)), .val (.ref b1), .val (.int (2 : Int32)), .val (.int (1 : Int32))] [(.int (1 : Int32))])) τ
        refine XS.goto X131.here hx rfl (pc0 := 240) (pc' := 244) rfl (hb hby at_240) (by decide) (by decide) ?_
        show Steps p.tables e below (T131.setTop (mkF m 244 #[.val (.int p1), .val (.int p2), .val (.int p3), .val (.int p4), .val (.int p5), .val (.int p6), .val (.int (5 : Int32)), .val (.ref b1), .val (.int (2 : Int32)), .val (.int (1 : Int32))] [(.int (1 : Int32))])) τ
        refine XS.istore X131.here hx rfl (hb hby at_244) rfl (l' := #[.val (.int p1), .val (.int p2), .val (.int p3), .val (.int p4), .val (.int p5), .val (.int p6), .val (.int (5 : Int32)), .val (.ref b1), .val (.int (2 : Int32)), .val (.int (1 : Int32))]) rfl ?_
        show Steps p.tables e below (T131.setTop (mkF m 246 #[.val (.int p1), .val (.int p2), .val (.int p3), .val (.int p4), .val (.int p5), .val (.int p6), .val (.int (5 : Int32)), .val (.ref b1), .val (.int (2 : Int32)), .val (.int (1 : Int32))] [])) τ
        refine XS.iload X131.here hx rfl (hb hby at_246) rfl ?_
        show Steps p.tables e below (T131.setTop (mkF m 248 #[.val (.int p1), .val (.int p2), .val (.int p3), .val (.int p4), .val (.int p5), .val (.int p6), .val (.int (5 : Int32)), .val (.ref b1), .val (.int (2 : Int32)), .val (.int (1 : Int32))] [(.int (1 : Int32))])) τ
        exact κ)
      have hkT := Nat.le_trans hk (Nat.le_of_eq (congrArg Array.size (Eq.symm hs131)))
      obtain ⟨fsα, hr, hrun, hended, hRE⟩ := X131.leaveW hS hkT (v := some (.int (1 : Int32))) (fun h => by rw [Bd.returns] at h; cases h)
      refine hGL ⟨_, _, hG _ (pre _ ?_), hrun, hended, _, _, rfl, ?_, ?_, ⟨_, rfl⟩, hRE.2.1, hRE.2.2.1, hRE.2.2.2.mono (by decide) (by decide)⟩
      · exact retN X131 hx (t := .boolean) Bd.returns (by simp) (hb hby at_248) hr
      · show Q0 Z p1 p2 p3 p4 p5 p6 cw h0 n0 _ T131.heap _
        rw [hs131]
        exact ⟨rfl, NN⟩
      · show CHr Z own_EL s.vm s.heap T131.vm T131.heap
        rw [hh, hs131]
        exact HR.trans (CHv.at X131 hZ hEL H)
  ·
    have pre : ∀ τ, Steps p.tables e below (T2.setTop (mkF m 24 #[.val (.int p1), .val (.int p2), .val (.int p3), .val (.int p4), .val (.int p5), .val (.int p6), .val (.int nn), .val (.ref b1), .val (.int (3 : Int32)), .unset] [])) τ → G τ := (show dd = (3 : Int32) from hk_dd) ▸ pre
    have pre : ∀ τ, Steps p.tables e below (T2.setTop (mkF m 27 #[.val (.int p1), .val (.int p2), .val (.int p3), .val (.int p4), .val (.int p5), .val (.int p6), .val (.int nn), .val (.ref b1), .val (.int (3 : Int32)), .unset] [(.int (1 : Int32)), (.int (3 : Int32))])) τ → G τ := fun τ κ => pre τ (by
      refine XS.iload X2.here hx rfl (hb hby at_24) rfl ?_
      show Steps p.tables e below (T2.setTop (mkF m 26 #[.val (.int p1), .val (.int p2), .val (.int p3), .val (.int p4), .val (.int p5), .val (.int p6), .val (.int nn), .val (.ref b1), .val (.int (3 : Int32)), .unset] [(.int (3 : Int32))])) τ
      refine XS.iconst X2.here hx rfl (hb hby at_26) ?_
      show Steps p.tables e below (T2.setTop (mkF m 27 #[.val (.int p1), .val (.int p2), .val (.int p3), .val (.int p4), .val (.int p5), .val (.int p6), .val (.int nn), .val (.ref b1), .val (.int (3 : Int32)), .unset] [(.int (1 : Int32)), (.int (3 : Int32))])) τ
      exact κ)
    have hc132 : ¬ ((3 : Int32) < (1 : Int32)) := (by decide)
    have pre : ∀ τ, Steps p.tables e below (T2.setTop (mkF m 35 #[.val (.int p1), .val (.int p2), .val (.int p3), .val (.int p4), .val (.int p5), .val (.int p6), .val (.int nn), .val (.ref b1), .val (.int (3 : Int32)), .unset] [(.int nn), (.int p2), (.ref b1)])) τ → G τ := fun τ κ => pre τ (by
      refine XS.icmpNo X2.here hx rfl (hb hby at_27) rfl (flt hc132).1 ?_
      show Steps p.tables e below (T2.setTop (mkF m 30 #[.val (.int p1), .val (.int p2), .val (.int p3), .val (.int p4), .val (.int p5), .val (.int p6), .val (.int nn), .val (.ref b1), .val (.int (3 : Int32)), .unset] [])) τ
      refine XS.aload X2.here hx rfl (hb hby at_30) rfl rfl ?_
      show Steps p.tables e below (T2.setTop (mkF m 32 #[.val (.int p1), .val (.int p2), .val (.int p3), .val (.int p4), .val (.int p5), .val (.int p6), .val (.int nn), .val (.ref b1), .val (.int (3 : Int32)), .unset] [(.ref b1)])) τ
      refine XS.iloadN X2.here hx rfl (hb hby at_32) rfl ?_
      show Steps p.tables e below (T2.setTop (mkF m 33 #[.val (.int p1), .val (.int p2), .val (.int p3), .val (.int p4), .val (.int p5), .val (.int p6), .val (.int nn), .val (.ref b1), .val (.int (3 : Int32)), .unset] [(.int p2), (.ref b1)])) τ
      refine XS.iload X2.here hx rfl (hb hby at_33) rfl ?_
      show Steps p.tables e below (T2.setTop (mkF m 35 #[.val (.int p1), .val (.int p2), .val (.int p3), .val (.int p4), .val (.int p5), .val (.int p6), .val (.int nn), .val (.ref b1), .val (.int (3 : Int32)), .unset] [(.int nn), (.int p2), (.ref b1)])) τ
      exact κ)
    obtain ⟨_, _, ⟨T133, Lx133, kx133, nx133⟩, -, X133, ⟨Lc133, hQ133, l133, y133, z133⟩, st133⟩ := Jvm.LawKit.callS X2 hx (y := (⟨"coppice/marshal/context/NamespaceScopeResetPinLaw", "idx", "(II)I"⟩ : MethodName)) hown (mvT hZ (hw _ (List.mem_of_getElem? (i := 39) rfl))) (mvT hZ (hw _ (List.mem_of_getElem? (i := 40) rfl))) (mvT hZ (hw _ (List.mem_of_getElem? (i := 41) rfl))) (mvT hZ (hw _ (List.mem_of_getElem? (i := 42) rfl))) (by decide) (backOf (W := 1) (rm5 l Z a0 hw [] p2 nn T2.heap n0 Zn (own_nz0 N5.1)) hZ (hw _ (List.mem_of_getElem? (i := 42) rfl)) (hw _ (List.mem_of_getElem? (i := 41) rfl)) (by decide) (by decide)) (g := (mkF m 35 #[.val (.int p1), .val (.int p2), .val (.int p3), .val (.int p4), .val (.int p5), .val (.int p6), .val (.int nn), .val (.ref b1), .val (.int (3 : Int32)), .unset] [(.int nn), (.int p2), (.ref b1)])) rfl (by rw [hml]; rfl) (argsL := [(.int p2), (.int nn)]) (rest := [(.ref b1)]) (lenOf pd_12 rfl) rfl (by show 2 * 0 + _ ≤ _; exact Nat.le_of_eq rfl) (hb hby at_35) (fun _ _ => ⟨rfl, rfl, (by decide : 8 + 0 ≤ _), (by decide : 61 + 0 ≤ _)⟩)
    dsimp only [Pt.U, Pt.locs, Pt.cells, Pt.slots] at X133 l133 y133 z133 st133 hQ133
    replace y133 : kx133 = 8 := y133
    replace z133 : nx133 = 61 := z133
    subst y133 z133
    obtain ⟨rfl, Nq133, hs133⟩ := hQ133
    have NN : Fr n0 Lx133 := by rw [l133]; exact Fr.app NN Nq133
    have pre : ∀ τ, Steps p.tables e below (T133.setTop (mkF m 38 #[.val (.int p1), .val (.int p2), .val (.int p3), .val (.int p4), .val (.int p5), .val (.int p6), .val (.int nn), .val (.ref b1), .val (.int (3 : Int32)), .unset] [(.int ((p2 &&& (2147483647 : Int32)) % nn)), (.ref b1)])) τ → G τ := fun τ κ => pre τ (st133 τ κ)
    obtain ⟨i1, hi1⟩ : ∃ z : Int32, z = ((p2 &&& (2147483647 : Int32)) % nn) := ⟨_, rfl⟩
    have pre : ∀ τ, Steps p.tables e below (T133.setTop (mkF m 38 #[.val (.int p1), .val (.int p2), .val (.int p3), .val (.int p4), .val (.int p5), .val (.int p6), .val (.int nn), .val (.ref b1), .val (.int (3 : Int32)), .unset] [(.int i1), (.ref b1)])) τ → G τ := by subst hi1; exact pre
    have b_i1 : ¬ i1 < 0 ∧ i1 < nn := by rw [hi1]; exact own_idx N5.1
    have pre : ∀ τ, Steps p.tables e below (T133.setTop (mkF m 39 #[.val (.int p1), .val (.int p2), .val (.int p3), .val (.int p4), .val (.int p5), .val (.int p6), .val (.int nn), .val (.ref b1), .val (.int (3 : Int32)), .unset] [(.int p3), (.int i1), (.ref b1)])) τ → G τ := fun τ κ => pre τ (by
      refine XS.iloadN X133.here hx rfl (hb hby at_38) rfl ?_
      show Steps p.tables e below (T133.setTop (mkF m 39 #[.val (.int p1), .val (.int p2), .val (.int p3), .val (.int p4), .val (.int p5), .val (.int p6), .val (.int nn), .val (.ref b1), .val (.int (3 : Int32)), .unset] [(.int p3), (.int i1), (.ref b1)])) τ
      exact κ)
    obtain ⟨_, _, ⟨T134, Lx134, kx134, nx134⟩, -, X134, hS2, hg2, ⟨Lc134, hQ134, l134, y134, z134, HRc⟩, st134⟩ := Jvm.RoadKit.callSS X133 hx (y := (⟨"coppice/marshal/context/NamespaceScopeResetPinLaw", "pick", "(I)Ljava/lang/String;"⟩ : MethodName)) hown (mvT hZ (hw _ (List.mem_of_getElem? (i := 44) rfl))) (mvT hZ (hw _ (List.mem_of_getElem? (i := 45) rfl))) (mvT hZ (hw _ (List.mem_of_getElem? (i := 41) rfl))) (mvT hZ (hw _ (List.mem_of_getElem? (i := 46) rfl))) (by decide) (backOfSH (W := 2) (rm6 l Z a0 hw hEL wS [] p3 cw T2.heap n0 Zn S_c hcw) hZ (hw _ (List.mem_of_getElem? (i := 46) rfl)) (hw _ (List.mem_of_getElem? (i := 41) rfl)) (by decide) (by decide) hEL H) (g := (mkF m 39 #[.val (.int p1), .val (.int p2), .val (.int p3), .val (.int p4), .val (.int p5), .val (.int p6), .val (.int nn), .val (.ref b1), .val (.int (3 : Int32)), .unset] [(.int p3), (.int i1), (.ref b1)])) rfl (by rw [hml]; rfl) (argsL := [(.int p3)]) (rest := [(.int i1), (.ref b1)]) (lenOf pd_11 rfl) rfl (by show 2 * 0 + _ ≤ _; exact Nat.le_of_eq rfl) (hb hby at_39) (fun _ _ => ⟨rfl, hs133, (by decide : 8 + 2 ≤ _), (by decide : 61 + 16 ≤ _)⟩)
    dsimp only [Pt.U, Pt.locs, Pt.cells, Pt.slots] at hS2 hg2 HRc
    have hkT := Nat.le_trans hk (Nat.le_of_eq (congrArg Array.size (Eq.symm hs133)))
    dsimp only [Pt.U, Pt.locs, Pt.cells, Pt.slots] at X134 l134 y134 z134 st134 hQ134
    replace y134 : kx134 = 10 := y134
    replace z134 : nx134 = 77 := z134
    subst y134 z134
    obtain ⟨r_134, tr_134, rfl, Nq134, Kc134, F_r_134⟩ := hQ134
    have NN : Fr n0 Lx134 := by rw [l134]; exact Fr.app NN Nq134
    obtain ⟨X134, hS, hZ, hown⟩ := rebS hS hkT X134 hS2 hg2 hZ hown
    have hk := Nat.le_refl T134.heap.size
    have HR := HR.trans HRc
    have H := HR.1
    have Nss : ∀ x ∈ ([] : List Addr), own_ns Z T2.heap x := all0
    have S_c : Sta Z T134.heap "java/lang/String" "COMPACT_STRINGS" "Z" (.int cw) := own_sta_keepN S_c Kc134 Nss
    have E_b1 : Exa Z T134.heap b1 "coppice/marshal/context/NamespaceScope" := E_b1.keep Kc134
    have E_o : Exa Z T134.heap b1 "coppice/marshal/context/NamespaceScope" := E_o.keep Kc134
    have F_un : Fld Z T134.heap b1 "coppice/marshal/context/NamespaceScope" "undoNamespaces" "[I" (.ref un_2) := F_un.keep Kc134 nin0
    have F_up : Fld Z T134.heap b1 "coppice/marshal/context/NamespaceScope" "undoPrefixes" "[Ljava/lang/String;" (.ref up_2) := F_up.keep Kc134 nin0
    have F_pf : Fld Z T134.heap b1 "coppice/marshal/context/NamespaceScope" "prefixes" "[Ljava/lang/String;" (.ref pf_2) := F_pf.keep Kc134 nin0
    have F_uc : Fld Z T134.heap b1 "coppice/marshal/context/NamespaceScope" "undoCount" "I" (.int z0.2.2.2) := F_uc.keep Kc134 nin0
    have V_un : Arv Z T134.heap un_2 ku_2 .int (16 : Int32) z0.2.1 (.int (0 : Int32)) := V_un.keep Kc134 nin0
    have V_up : Arv Z T134.heap up_2 kp_2 (.object "java/lang/String") (16 : Int32) (List.replicate 16 .null) .null := V_up.keep Kc134 nin0
    have V_pf : Arv Z T134.heap pf_2 kf_2 (.object "java/lang/String") nn pfz_2 .null := V_pf.keep Kc134 nin0
    have L_up : own_SL Z T134.heap (List.replicate 16 .null) z0.2.2.1 := own_SL_keep L_up Kc134 Nss
    have L_pf : own_SL Z T134.heap pfz_2 z0.1 := own_SL_keep L_pf Kc134 Nss
    have Zn : n0 ≤ T134.heap.size := Nat.le_trans Zn Kc134.1
    have pre : ∀ τ, Steps p.tables e below (T134.setTop (mkF m 42 #[.val (.int p1), .val (.int p2), .val (.int p3), .val (.int p4), .val (.int p5), .val (.int p6), .val (.int nn), .val (.ref b1), .val (.int (3 : Int32)), .unset] [(.ref r_134), (.int i1), (.ref b1)])) τ → G τ := fun τ κ => pre τ (st134.trans κ)
    obtain ⟨cq135, kq135, q135a, q135b, q135c⟩ := isOf hZ rfl E_b1
    obtain ⟨_, _, ⟨T135, Lx135, kx135, nx135⟩, -, X135, ⟨Lc135, hQ135, l135, y135, z135⟩, st135⟩ := X134.virtualBack hx (y := (⟨"coppice/marshal/context/NamespaceScope", "declare", "(ILjava/lang/String;)V"⟩ : MethodName)) (z := (⟨"coppice/marshal/context/NamespaceScope", "declare", "(ILjava/lang/String;)V"⟩ : MethodName)) hown (mvT hZ (hw _ (List.mem_of_getElem? (i := 65) rfl))) (mvT hZ (hw _ (List.mem_of_getElem? (i := 66) rfl))) (notFace_of_selects (args := #[]) (mvT hZ (hw _ (List.mem_of_getElem? (i := 68) rfl)))) (mvT hZ (hw _ (List.mem_of_getElem? (i := 68) rfl))) (mvT hZ (hw _ (List.mem_of_getElem? (i := 67) rfl))) (by decide) (backOf (W := 0) (rm11 l Z a0 hw [] b1 i1 r_134 un_2 up_2 pf_2 ku_2 kp_2 kf_2 nn z0 (List.replicate 16 .null) pfz_2 tr_134 cw (0 : Int) T134.heap n0 Zn g_b1 gn_un_2 gn_up_2 gn_pf_2 E_b1 F_un F_up F_pf F_uc V_un V_up V_pf L_up L_pf O_up_2 O_pf_2 ne_b1_un_2 ne_b1_up_2 ne_b1_pf_2 ne_un__up_2 ne_un__pf_2 ne_up__pf_2 F_r_134 S_c hcw b_i1 ⟨Jz0.1, Jz0.2.1⟩ (by omega) Jz0.2.2 hup0 hpf0) hZ (hw _ (List.mem_of_getElem? (i := 69) rfl)) (hw _ (List.mem_of_getElem? (i := 2) rfl)) (by decide) (by decide)) q135a q135c (g := (mkF m 42 #[.val (.int p1), .val (.int p2), .val (.int p3), .val (.int p4), .val (.int p5), .val (.int p6), .val (.int nn), .val (.ref b1), .val (.int (3 : Int32)), .unset] [(.ref r_134), (.int i1), (.ref b1)])) rfl (by rw [hml]; rfl) (Steps.refl _) (argsL := [(.int i1), (.ref r_134)]) (rest := []) (lenOf pd_1 rfl) rfl (by show 2 * 0 + _ ≤ _; exact Nat.le_of_eq rfl) (hb hby at_42) (fun _ _ => ⟨rfl, rfl, (by decide : 10 + 0 ≤ _), (by decide : 77 + 0 ≤ _)⟩)
    dsimp only [Pt.U, Pt.locs, Pt.cells, Pt.slots] at X135 l135 y135 z135 st135 hQ135
    replace y135 : kx135 = 10 := y135
    replace z135 : nx135 = 77 := z135
    subst y135 z135
    obtain ⟨upz_135, pfz_135, rfl, Nq135, Kc135, E_o_135, F_un_135, F_up_135, F_pf_135, F_uc_135, V_un_135, V_up_135, V_pf_135, L_up_135, L_pf_135, hlp_135, hlf_135⟩ := hQ135
    have NN : Fr n0 Lx135 := by rw [l135]; exact Fr.app NN Nq135
    have Nss : ∀ x ∈ [b1, un_2, up_2, pf_2], own_ns Z T134.heap x := (allS (own_nsE E_b1 (hw _ (List.mem_of_getElem? (i := 1) rfl)) (by decide) (by decide)) (allS (own_nsV V_un (by decide)) (allS (own_nsV V_up (by decide)) (allS (own_nsV V_pf (by decide)) all0))))
    have hk := Nat.le_trans hk Kc135.1
    have HR := HR.trans (CHr.keep Kc135 (fun x hx => own_safe hZ.alike (Nss x hx)) H)
    have H := HR.1
    have S_c : Sta Z T135.heap "java/lang/String" "COMPACT_STRINGS" "Z" (.int cw) := own_sta_keepN S_c Kc135 Nss
    have E_b1 : Exa Z T135.heap b1 "coppice/marshal/context/NamespaceScope" := E_b1.keep Kc135
    have E_o : Exa Z T135.heap b1 "coppice/marshal/context/NamespaceScope" := E_o.keep Kc135
    have L_up : own_SL Z T135.heap (List.replicate 16 .null) z0.2.2.1 := own_SL_keep L_up Kc135 Nss
    have L_pf : own_SL Z T135.heap pfz_2 z0.1 := own_SL_keep L_pf Kc135 Nss
    have F_r_134 : own_S Z T135.heap (.ref r_134) (some tr_134) := own_S_keep F_r_134 Kc135 Nss
    have Zn : n0 ≤ T135.heap.size := Nat.le_trans Zn Kc135.1
    have pre : ∀ τ, Steps p.tables e below (T135.setTop (mkF m 45 #[.val (.int p1), .val (.int p2), .val (.int p3), .val (.int p4), .val (.int p5), .val (.int p6), .val (.int nn), .val (.ref b1), .val (.int (3 : Int32)), .unset] [])) τ → G τ := fun τ κ => pre τ (st135.trans κ)
    obtain ⟨z1, hz1⟩ : ∃ q : own_ST, q = own_de tr_134 i1 nn z0 := ⟨_, rfl⟩
    have E_o := E_o_135
    have F_un := F_un_135
    have F_up := F_up_135
    have F_pf := F_pf_135
    have F_uc : Fld Z T135.heap b1 "coppice/marshal/context/NamespaceScope" "undoCount" "I" (.int z1.2.2.2) := by rw [hz1]; exact F_uc_135
    have V_un : Arv Z T135.heap un_2 ku_2 .int (16 : Int32) z1.2.1 (.int (0 : Int32)) := by rw [hz1]; exact V_un_135
    have V_up := V_up_135
    have V_pf := V_pf_135
    have L_up : own_SL Z T135.heap upz_135 z1.2.2.1 := by rw [hz1]; exact L_up_135
    have L_pf : own_SL Z T135.heap pfz_135 z1.1 := by rw [hz1]; exact L_pf_135
    have Jz1 : own_J z1 (0 + nn.toInt) := by rw [hz1]; exact own_Jde b_i1 Jz0 (by omega)
    have pre : ∀ τ, Steps p.tables e below (T135.setTop (mkF m 48 #[.val (.int p1), .val (.int p2), .val (.int p3), .val (.int p4), .val (.int p5), .val (.int p6), .val (.int nn), .val (.ref b1), .val (.int (3 : Int32)), .unset] [(.int (2 : Int32)), (.int (3 : Int32))])) τ → G τ := fun τ κ => pre τ (by
      refine XS.iload X135.here hx rfl (hb hby at_45) rfl ?_
      show Steps p.tables e below (T135.setTop (mkF m 47 #[.val (.int p1), .val (.int p2), .val (.int p3), .val (.int p4), .val (.int p5), .val (.int p6), .val (.int nn), .val (.ref b1), .val (.int (3 : Int32)), .unset] [(.int (3 : Int32))])) τ
      refine XS.iconst X135.here hx rfl (hb hby at_47) ?_
      show Steps p.tables e below (T135.setTop (mkF m 48 #[.val (.int p1), .val (.int p2), .val (.int p3), .val (.int p4), .val (.int p5), .val (.int p6), .val (.int nn), .val (.ref b1), .val (.int (3 : Int32)), .unset] [(.int (2 : Int32)), (.int (3 : Int32))])) τ
      exact κ)
    have hc136 : ¬ ((3 : Int32) < (2 : Int32)) := (by decide)
    have pre : ∀ τ, Steps p.tables e below (T135.setTop (mkF m 56 #[.val (.int p1), .val (.int p2), .val (.int p3), .val (.int p4), .val (.int p5), .val (.int p6), .val (.int nn), .val (.ref b1), .val (.int (3 : Int32)), .unset] [(.int nn), (.int p4), (.ref b1)])) τ → G τ := fun τ κ => pre τ (by
      refine XS.icmpNo X135.here hx rfl (hb hby at_48) rfl (flt hc136).1 ?_
      show Steps p.tables e below (T135.setTop (mkF m 51 #[.val (.int p1), .val (.int p2), .val (.int p3), .val (.int p4), .val (.int p5), .val (.int p6), .val (.int nn), .val (.ref b1), .val (.int (3 : Int32)), .unset] [])) τ
      refine XS.aload X135.here hx rfl (hb hby at_51) rfl rfl ?_
      show Steps p.tables e below (T135.setTop (mkF m 53 #[.val (.int p1), .val (.int p2), .val (.int p3), .val (.int p4), .val (.int p5), .val (.int p6), .val (.int nn), .val (.ref b1), .val (.int (3 : Int32)), .unset] [(.ref b1)])) τ
      refine XS.iloadN X135.here hx rfl (hb hby at_53) rfl ?_
      show Steps p.tables e below (T135.setTop (mkF m 54 #[.val (.int p1), .val (.int p2), .val (.int p3), .val (.int p4), .val (.int p5), .val (.int p6), .val (.int nn), .val (.ref b1), .val (.int (3 : Int32)), .unset] [(.int p4), (.ref b1)])) τ
      refine XS.iload X135.here hx rfl (hb hby at_54) rfl ?_
      show Steps p.tables e below (T135.setTop (mkF m 56 #[.val (.int p1), .val (.int p2), .val (.int p3), .val (.int p4), .val (.int p5), .val (.int p6), .val (.int nn), .val (.ref b1), .val (.int (3 : Int32)), .unset] [(.int nn), (.int p4), (.ref b1)])) τ
      exact κ)
    obtain ⟨_, _, ⟨T137, Lx137, kx137, nx137⟩, -, X137, ⟨Lc137, hQ137, l137, y137, z137⟩, st137⟩ := Jvm.LawKit.callS X135 hx (y := (⟨"coppice/marshal/context/NamespaceScopeResetPinLaw", "idx", "(II)I"⟩ : MethodName)) hown (mvT hZ (hw _ (List.mem_of_getElem? (i := 39) rfl))) (mvT hZ (hw _ (List.mem_of_getElem? (i := 40) rfl))) (mvT hZ (hw _ (List.mem_of_getElem? (i := 41) rfl))) (mvT hZ (hw _ (List.mem_of_getElem? (i := 42) rfl))) (by decide) (backOf (W := 1) (rm5 l Z a0 hw [] p4 nn T135.heap n0 Zn (own_nz0 N5.1)) hZ (hw _ (List.mem_of_getElem? (i := 42) rfl)) (hw _ (List.mem_of_getElem? (i := 41) rfl)) (by decide) (by decide)) (g := (mkF m 56 #[.val (.int p1), .val (.int p2), .val (.int p3), .val (.int p4), .val (.int p5), .val (.int p6), .val (.int nn), .val (.ref b1), .val (.int (3 : Int32)), .unset] [(.int nn), (.int p4), (.ref b1)])) rfl (by rw [hml]; rfl) (argsL := [(.int p4), (.int nn)]) (rest := [(.ref b1)]) (lenOf pd_12 rfl) rfl (by show 2 * 0 + _ ≤ _; exact Nat.le_of_eq rfl) (hb hby at_56) (fun _ _ => ⟨rfl, rfl, (by decide : 10 + 0 ≤ _), (by decide : 77 + 0 ≤ _)⟩)
    dsimp only [Pt.U, Pt.locs, Pt.cells, Pt.slots] at X137 l137 y137 z137 st137 hQ137
    replace y137 : kx137 = 10 := y137
    replace z137 : nx137 = 77 := z137
    subst y137 z137
    obtain ⟨rfl, Nq137, hs137⟩ := hQ137
    have NN : Fr n0 Lx137 := by rw [l137]; exact Fr.app NN Nq137
    have pre : ∀ τ, Steps p.tables e below (T137.setTop (mkF m 59 #[.val (.int p1), .val (.int p2), .val (.int p3), .val (.int p4), .val (.int p5), .val (.int p6), .val (.int nn), .val (.ref b1), .val (.int (3 : Int32)), .unset] [(.int ((p4 &&& (2147483647 : Int32)) % nn)), (.ref b1)])) τ → G τ := fun τ κ => pre τ (st137 τ κ)
    obtain ⟨i2, hi2⟩ : ∃ z : Int32, z = ((p4 &&& (2147483647 : Int32)) % nn) := ⟨_, rfl⟩
    have pre : ∀ τ, Steps p.tables e below (T137.setTop (mkF m 59 #[.val (.int p1), .val (.int p2), .val (.int p3), .val (.int p4), .val (.int p5), .val (.int p6), .val (.int nn), .val (.ref b1), .val (.int (3 : Int32)), .unset] [(.int i2), (.ref b1)])) τ → G τ := by subst hi2; exact pre
    have b_i2 : ¬ i2 < 0 ∧ i2 < nn := by rw [hi2]; exact own_idx N5.1
    have pre : ∀ τ, Steps p.tables e below (T137.setTop (mkF m 61 #[.val (.int p1), .val (.int p2), .val (.int p3), .val (.int p4), .val (.int p5), .val (.int p6), .val (.int nn), .val (.ref b1), .val (.int (3 : Int32)), .unset] [(.int p5), (.int i2), (.ref b1)])) τ → G τ := fun τ κ => pre τ (by
      refine XS.iload X137.here hx rfl (hb hby at_59) rfl ?_
      show Steps p.tables e below (T137.setTop (mkF m 61 #[.val (.int p1), .val (.int p2), .val (.int p3), .val (.int p4), .val (.int p5), .val (.int p6), .val (.int nn), .val (.ref b1), .val (.int (3 : Int32)), .unset] [(.int p5), (.int i2), (.ref b1)])) τ
      exact κ)
    obtain ⟨_, _, ⟨T138, Lx138, kx138, nx138⟩, -, X138, hS2, hg2, ⟨Lc138, hQ138, l138, y138, z138, HRc⟩, st138⟩ := Jvm.RoadKit.callSS X137 hx (y := (⟨"coppice/marshal/context/NamespaceScopeResetPinLaw", "pick", "(I)Ljava/lang/String;"⟩ : MethodName)) hown (mvT hZ (hw _ (List.mem_of_getElem? (i := 44) rfl))) (mvT hZ (hw _ (List.mem_of_getElem? (i := 45) rfl))) (mvT hZ (hw _ (List.mem_of_getElem? (i := 41) rfl))) (mvT hZ (hw _ (List.mem_of_getElem? (i := 46) rfl))) (by decide) (backOfSH (W := 2) (rm6 l Z a0 hw hEL wS [] p5 cw T135.heap n0 Zn S_c hcw) hZ (hw _ (List.mem_of_getElem? (i := 46) rfl)) (hw _ (List.mem_of_getElem? (i := 41) rfl)) (by decide) (by decide) hEL H) (g := (mkF m 61 #[.val (.int p1), .val (.int p2), .val (.int p3), .val (.int p4), .val (.int p5), .val (.int p6), .val (.int nn), .val (.ref b1), .val (.int (3 : Int32)), .unset] [(.int p5), (.int i2), (.ref b1)])) rfl (by rw [hml]; rfl) (argsL := [(.int p5)]) (rest := [(.int i2), (.ref b1)]) (lenOf pd_11 rfl) rfl (by show 2 * 0 + _ ≤ _; exact Nat.le_of_eq rfl) (hb hby at_61) (fun _ _ => ⟨rfl, hs137, (by decide : 10 + 2 ≤ _), (by decide : 77 + 16 ≤ _)⟩)
    dsimp only [Pt.U, Pt.locs, Pt.cells, Pt.slots] at hS2 hg2 HRc
    have hkT := Nat.le_trans hk (Nat.le_of_eq (congrArg Array.size (Eq.symm hs137)))
    dsimp only [Pt.U, Pt.locs, Pt.cells, Pt.slots] at X138 l138 y138 z138 st138 hQ138
    replace y138 : kx138 = 12 := y138
    replace z138 : nx138 = 93 := z138
    subst y138 z138
    obtain ⟨r_138, tr_138, rfl, Nq138, Kc138, F_r_138⟩ := hQ138
    have NN : Fr n0 Lx138 := by rw [l138]; exact Fr.app NN Nq138
    obtain ⟨X138, hS, hZ, hown⟩ := rebS hS hkT X138 hS2 hg2 hZ hown
    have hk := Nat.le_refl T138.heap.size
    have HR := HR.trans HRc
    have H := HR.1
    have Nss : ∀ x ∈ ([] : List Addr), own_ns Z T135.heap x := all0
    have S_c : Sta Z T138.heap "java/lang/String" "COMPACT_STRINGS" "Z" (.int cw) := own_sta_keepN S_c Kc138 Nss
    have E_b1 : Exa Z T138.heap b1 "coppice/marshal/context/NamespaceScope" := E_b1.keep Kc138
    have F_r_134 : own_S Z T138.heap (.ref r_134) (some tr_134) := own_S_keep F_r_134 Kc138 Nss
    have E_o : Exa Z T138.heap b1 "coppice/marshal/context/NamespaceScope" := E_o.keep Kc138
    have F_un : Fld Z T138.heap b1 "coppice/marshal/context/NamespaceScope" "undoNamespaces" "[I" (.ref un_2) := F_un.keep Kc138 nin0
    have F_up : Fld Z T138.heap b1 "coppice/marshal/context/NamespaceScope" "undoPrefixes" "[Ljava/lang/String;" (.ref up_2) := F_up.keep Kc138 nin0
    have F_pf : Fld Z T138.heap b1 "coppice/marshal/context/NamespaceScope" "prefixes" "[Ljava/lang/String;" (.ref pf_2) := F_pf.keep Kc138 nin0
    have F_uc : Fld Z T138.heap b1 "coppice/marshal/context/NamespaceScope" "undoCount" "I" (.int z1.2.2.2) := F_uc.keep Kc138 nin0
    have V_un : Arv Z T138.heap un_2 ku_2 .int (16 : Int32) z1.2.1 (.int (0 : Int32)) := V_un.keep Kc138 nin0
    have V_up : Arv Z T138.heap up_2 kp_2 (.object "java/lang/String") (16 : Int32) upz_135 .null := V_up.keep Kc138 nin0
    have V_pf : Arv Z T138.heap pf_2 kf_2 (.object "java/lang/String") nn pfz_135 .null := V_pf.keep Kc138 nin0
    have L_up : own_SL Z T138.heap upz_135 z1.2.2.1 := own_SL_keep L_up Kc138 Nss
    have L_pf : own_SL Z T138.heap pfz_135 z1.1 := own_SL_keep L_pf Kc138 Nss
    have Zn : n0 ≤ T138.heap.size := Nat.le_trans Zn Kc138.1
    have pre : ∀ τ, Steps p.tables e below (T138.setTop (mkF m 64 #[.val (.int p1), .val (.int p2), .val (.int p3), .val (.int p4), .val (.int p5), .val (.int p6), .val (.int nn), .val (.ref b1), .val (.int (3 : Int32)), .unset] [(.ref r_138), (.int i2), (.ref b1)])) τ → G τ := fun τ κ => pre τ (st138.trans κ)
    obtain ⟨cq139, kq139, q139a, q139b, q139c⟩ := isOf hZ rfl E_b1
    obtain ⟨_, _, ⟨T139, Lx139, kx139, nx139⟩, -, X139, ⟨Lc139, hQ139, l139, y139, z139⟩, st139⟩ := X138.virtualBack hx (y := (⟨"coppice/marshal/context/NamespaceScope", "declare", "(ILjava/lang/String;)V"⟩ : MethodName)) (z := (⟨"coppice/marshal/context/NamespaceScope", "declare", "(ILjava/lang/String;)V"⟩ : MethodName)) hown (mvT hZ (hw _ (List.mem_of_getElem? (i := 65) rfl))) (mvT hZ (hw _ (List.mem_of_getElem? (i := 66) rfl))) (notFace_of_selects (args := #[]) (mvT hZ (hw _ (List.mem_of_getElem? (i := 68) rfl)))) (mvT hZ (hw _ (List.mem_of_getElem? (i := 68) rfl))) (mvT hZ (hw _ (List.mem_of_getElem? (i := 67) rfl))) (by decide) (backOf (W := 0) (rm11 l Z a0 hw [] b1 i2 r_138 un_2 up_2 pf_2 ku_2 kp_2 kf_2 nn z1 upz_135 pfz_135 tr_138 cw ((0 + nn.toInt) : Int) T138.heap n0 Zn g_b1 gn_un_2 gn_up_2 gn_pf_2 E_b1 F_un F_up F_pf F_uc V_un V_up V_pf L_up L_pf O_up_2 O_pf_2 ne_b1_un_2 ne_b1_up_2 ne_b1_pf_2 ne_un__up_2 ne_un__pf_2 ne_up__pf_2 F_r_138 S_c hcw b_i2 ⟨Jz1.1, Jz1.2.1⟩ (by omega) Jz1.2.2 hlp_135 hlf_135) hZ (hw _ (List.mem_of_getElem? (i := 69) rfl)) (hw _ (List.mem_of_getElem? (i := 2) rfl)) (by decide) (by decide)) q139a q139c (g := (mkF m 64 #[.val (.int p1), .val (.int p2), .val (.int p3), .val (.int p4), .val (.int p5), .val (.int p6), .val (.int nn), .val (.ref b1), .val (.int (3 : Int32)), .unset] [(.ref r_138), (.int i2), (.ref b1)])) rfl (by rw [hml]; rfl) (Steps.refl _) (argsL := [(.int i2), (.ref r_138)]) (rest := []) (lenOf pd_1 rfl) rfl (by show 2 * 0 + _ ≤ _; exact Nat.le_of_eq rfl) (hb hby at_64) (fun _ _ => ⟨rfl, rfl, (by decide : 12 + 0 ≤ _), (by decide : 93 + 0 ≤ _)⟩)
    dsimp only [Pt.U, Pt.locs, Pt.cells, Pt.slots] at X139 l139 y139 z139 st139 hQ139
    replace y139 : kx139 = 12 := y139
    replace z139 : nx139 = 93 := z139
    subst y139 z139
    obtain ⟨upz_139, pfz_139, rfl, Nq139, Kc139, E_o_139, F_un_139, F_up_139, F_pf_139, F_uc_139, V_un_139, V_up_139, V_pf_139, L_up_139, L_pf_139, hlp_139, hlf_139⟩ := hQ139
    have NN : Fr n0 Lx139 := by rw [l139]; exact Fr.app NN Nq139
    have Nss : ∀ x ∈ [b1, un_2, up_2, pf_2], own_ns Z T138.heap x := (allS (own_nsE E_b1 (hw _ (List.mem_of_getElem? (i := 1) rfl)) (by decide) (by decide)) (allS (own_nsV V_un (by decide)) (allS (own_nsV V_up (by decide)) (allS (own_nsV V_pf (by decide)) all0))))
    have hk := Nat.le_trans hk Kc139.1
    have HR := HR.trans (CHr.keep Kc139 (fun x hx => own_safe hZ.alike (Nss x hx)) H)
    have H := HR.1
    have S_c : Sta Z T139.heap "java/lang/String" "COMPACT_STRINGS" "Z" (.int cw) := own_sta_keepN S_c Kc139 Nss
    have E_b1 : Exa Z T139.heap b1 "coppice/marshal/context/NamespaceScope" := E_b1.keep Kc139
    have F_r_134 : own_S Z T139.heap (.ref r_134) (some tr_134) := own_S_keep F_r_134 Kc139 Nss
    have E_o : Exa Z T139.heap b1 "coppice/marshal/context/NamespaceScope" := E_o.keep Kc139
    have L_up : own_SL Z T139.heap upz_135 z1.2.2.1 := own_SL_keep L_up Kc139 Nss
    have L_pf : own_SL Z T139.heap pfz_135 z1.1 := own_SL_keep L_pf Kc139 Nss
    have F_r_138 : own_S Z T139.heap (.ref r_138) (some tr_138) := own_S_keep F_r_138 Kc139 Nss
    have Zn : n0 ≤ T139.heap.size := Nat.le_trans Zn Kc139.1
    have pre : ∀ τ, Steps p.tables e below (T139.setTop (mkF m 67 #[.val (.int p1), .val (.int p2), .val (.int p3), .val (.int p4), .val (.int p5), .val (.int p6), .val (.int nn), .val (.ref b1), .val (.int (3 : Int32)), .unset] [])) τ → G τ := fun τ κ => pre τ (st139.trans κ)
    obtain ⟨z2, hz2⟩ : ∃ q : own_ST, q = own_de tr_138 i2 nn z1 := ⟨_, rfl⟩
    have E_o := E_o_139
    have F_un := F_un_139
    have F_up := F_up_139
    have F_pf := F_pf_139
    have F_uc : Fld Z T139.heap b1 "coppice/marshal/context/NamespaceScope" "undoCount" "I" (.int z2.2.2.2) := by rw [hz2]; exact F_uc_139
    have V_un : Arv Z T139.heap un_2 ku_2 .int (16 : Int32) z2.2.1 (.int (0 : Int32)) := by rw [hz2]; exact V_un_139
    have V_up := V_up_139
    have V_pf := V_pf_139
    have L_up : own_SL Z T139.heap upz_139 z2.2.2.1 := by rw [hz2]; exact L_up_139
    have L_pf : own_SL Z T139.heap pfz_139 z2.1 := by rw [hz2]; exact L_pf_139
    have Jz2 : own_J z2 ((0 + nn.toInt) + nn.toInt) := by rw [hz2]; exact own_Jde b_i2 Jz1 (by omega)
    have pre : ∀ τ, Steps p.tables e below (T139.setTop (mkF m 70 #[.val (.int p1), .val (.int p2), .val (.int p3), .val (.int p4), .val (.int p5), .val (.int p6), .val (.int nn), .val (.ref b1), .val (.int (3 : Int32)), .unset] [(.int (3 : Int32)), (.int (3 : Int32))])) τ → G τ := fun τ κ => pre τ (by
      refine XS.iload X139.here hx rfl (hb hby at_67) rfl ?_
      show Steps p.tables e below (T139.setTop (mkF m 69 #[.val (.int p1), .val (.int p2), .val (.int p3), .val (.int p4), .val (.int p5), .val (.int p6), .val (.int nn), .val (.ref b1), .val (.int (3 : Int32)), .unset] [(.int (3 : Int32))])) τ
      refine XS.iconst X139.here hx rfl (hb hby at_69) ?_
      show Steps p.tables e below (T139.setTop (mkF m 70 #[.val (.int p1), .val (.int p2), .val (.int p3), .val (.int p4), .val (.int p5), .val (.int p6), .val (.int nn), .val (.ref b1), .val (.int (3 : Int32)), .unset] [(.int (3 : Int32)), (.int (3 : Int32))])) τ
      exact κ)
    have hc140 : ¬ ((3 : Int32) < (3 : Int32)) := (by decide)
    have pre : ∀ τ, Steps p.tables e below (T139.setTop (mkF m 80 #[.val (.int p1), .val (.int p2), .val (.int p3), .val (.int p4), .val (.int p5), .val (.int p6), .val (.int nn), .val (.ref b1), .val (.int (3 : Int32)), .unset] [(.int nn), (.int (p2 ^^^ p4)), (.ref b1)])) τ → G τ := fun τ κ => pre τ (by
      refine XS.icmpNo X139.here hx rfl (hb hby at_70) rfl (flt hc140).1 ?_
      show Steps p.tables e below (T139.setTop (mkF m 73 #[.val (.int p1), .val (.int p2), .val (.int p3), .val (.int p4), .val (.int p5), .val (.int p6), .val (.int nn), .val (.ref b1), .val (.int (3 : Int32)), .unset] [])) τ
      refine XS.aload X139.here hx rfl (hb hby at_73) rfl rfl ?_
      show Steps p.tables e below (T139.setTop (mkF m 75 #[.val (.int p1), .val (.int p2), .val (.int p3), .val (.int p4), .val (.int p5), .val (.int p6), .val (.int nn), .val (.ref b1), .val (.int (3 : Int32)), .unset] [(.ref b1)])) τ
      refine XS.iloadN X139.here hx rfl (hb hby at_75) rfl ?_
      show Steps p.tables e below (T139.setTop (mkF m 76 #[.val (.int p1), .val (.int p2), .val (.int p3), .val (.int p4), .val (.int p5), .val (.int p6), .val (.int nn), .val (.ref b1), .val (.int (3 : Int32)), .unset] [(.int p2), (.ref b1)])) τ
      refine XS.iloadN X139.here hx rfl (hb hby at_76) rfl ?_
      show Steps p.tables e below (T139.setTop (mkF m 77 #[.val (.int p1), .val (.int p2), .val (.int p3), .val (.int p4), .val (.int p5), .val (.int p6), .val (.int nn), .val (.ref b1), .val (.int (3 : Int32)), .unset] [(.int p4), (.int p2), (.ref b1)])) τ
      refine XS.ixor X139.here hx rfl (hb hby at_77) rfl ?_
      show Steps p.tables e below (T139.setTop (mkF m 78 #[.val (.int p1), .val (.int p2), .val (.int p3), .val (.int p4), .val (.int p5), .val (.int p6), .val (.int nn), .val (.ref b1), .val (.int (3 : Int32)), .unset] [(.int (p2 ^^^ p4)), (.ref b1)])) τ
      refine XS.iload X139.here hx rfl (hb hby at_78) rfl ?_
      show Steps p.tables e below (T139.setTop (mkF m 80 #[.val (.int p1), .val (.int p2), .val (.int p3), .val (.int p4), .val (.int p5), .val (.int p6), .val (.int nn), .val (.ref b1), .val (.int (3 : Int32)), .unset] [(.int nn), (.int (p2 ^^^ p4)), (.ref b1)])) τ
      exact κ)
    obtain ⟨_, _, ⟨T141, Lx141, kx141, nx141⟩, -, X141, ⟨Lc141, hQ141, l141, y141, z141⟩, st141⟩ := Jvm.LawKit.callS X139 hx (y := (⟨"coppice/marshal/context/NamespaceScopeResetPinLaw", "idx", "(II)I"⟩ : MethodName)) hown (mvT hZ (hw _ (List.mem_of_getElem? (i := 39) rfl))) (mvT hZ (hw _ (List.mem_of_getElem? (i := 40) rfl))) (mvT hZ (hw _ (List.mem_of_getElem? (i := 41) rfl))) (mvT hZ (hw _ (List.mem_of_getElem? (i := 42) rfl))) (by decide) (backOf (W := 1) (rm5 l Z a0 hw [] (p2 ^^^ p4) nn T139.heap n0 Zn (own_nz0 N5.1)) hZ (hw _ (List.mem_of_getElem? (i := 42) rfl)) (hw _ (List.mem_of_getElem? (i := 41) rfl)) (by decide) (by decide)) (g := (mkF m 80 #[.val (.int p1), .val (.int p2), .val (.int p3), .val (.int p4), .val (.int p5), .val (.int p6), .val (.int nn), .val (.ref b1), .val (.int (3 : Int32)), .unset] [(.int nn), (.int (p2 ^^^ p4)), (.ref b1)])) rfl (by rw [hml]; rfl) (argsL := [(.int (p2 ^^^ p4)), (.int nn)]) (rest := [(.ref b1)]) (lenOf pd_12 rfl) rfl (by show 2 * 0 + _ ≤ _; exact Nat.le_of_eq rfl) (hb hby at_80) (fun _ _ => ⟨rfl, rfl, (by decide : 12 + 0 ≤ _), (by decide : 93 + 0 ≤ _)⟩)
    dsimp only [Pt.U, Pt.locs, Pt.cells, Pt.slots] at X141 l141 y141 z141 st141 hQ141
    replace y141 : kx141 = 12 := y141
    replace z141 : nx141 = 93 := z141
    subst y141 z141
    obtain ⟨rfl, Nq141, hs141⟩ := hQ141
    have NN : Fr n0 Lx141 := by rw [l141]; exact Fr.app NN Nq141
    have pre : ∀ τ, Steps p.tables e below (T141.setTop (mkF m 83 #[.val (.int p1), .val (.int p2), .val (.int p3), .val (.int p4), .val (.int p5), .val (.int p6), .val (.int nn), .val (.ref b1), .val (.int (3 : Int32)), .unset] [(.int (((p2 ^^^ p4) &&& (2147483647 : Int32)) % nn)), (.ref b1)])) τ → G τ := fun τ κ => pre τ (st141 τ κ)
    obtain ⟨i3, hi3⟩ : ∃ z : Int32, z = (((p2 ^^^ p4) &&& (2147483647 : Int32)) % nn) := ⟨_, rfl⟩
    have pre : ∀ τ, Steps p.tables e below (T141.setTop (mkF m 83 #[.val (.int p1), .val (.int p2), .val (.int p3), .val (.int p4), .val (.int p5), .val (.int p6), .val (.int nn), .val (.ref b1), .val (.int (3 : Int32)), .unset] [(.int i3), (.ref b1)])) τ → G τ := by subst hi3; exact pre
    have b_i3 : ¬ i3 < 0 ∧ i3 < nn := by rw [hi3]; exact own_idx N5.1
    have pre : ∀ τ, Steps p.tables e below (T141.setTop (mkF m 87 #[.val (.int p1), .val (.int p2), .val (.int p3), .val (.int p4), .val (.int p5), .val (.int p6), .val (.int nn), .val (.ref b1), .val (.int (3 : Int32)), .unset] [(.int (p3 ^^^ p5)), (.int i3), (.ref b1)])) τ → G τ := fun τ κ => pre τ (by
      refine XS.iloadN X141.here hx rfl (hb hby at_83) rfl ?_
      show Steps p.tables e below (T141.setTop (mkF m 84 #[.val (.int p1), .val (.int p2), .val (.int p3), .val (.int p4), .val (.int p5), .val (.int p6), .val (.int nn), .val (.ref b1), .val (.int (3 : Int32)), .unset] [(.int p3), (.int i3), (.ref b1)])) τ
      refine XS.iload X141.here hx rfl (hb hby at_84) rfl ?_
      show Steps p.tables e below (T141.setTop (mkF m 86 #[.val (.int p1), .val (.int p2), .val (.int p3), .val (.int p4), .val (.int p5), .val (.int p6), .val (.int nn), .val (.ref b1), .val (.int (3 : Int32)), .unset] [(.int p5), (.int p3), (.int i3), (.ref b1)])) τ
      refine XS.ixor X141.here hx rfl (hb hby at_86) rfl ?_
      show Steps p.tables e below (T141.setTop (mkF m 87 #[.val (.int p1), .val (.int p2), .val (.int p3), .val (.int p4), .val (.int p5), .val (.int p6), .val (.int nn), .val (.ref b1), .val (.int (3 : Int32)), .unset] [(.int (p3 ^^^ p5)), (.int i3), (.ref b1)])) τ
      exact κ)
    obtain ⟨_, _, ⟨T142, Lx142, kx142, nx142⟩, -, X142, hS2, hg2, ⟨Lc142, hQ142, l142, y142, z142, HRc⟩, st142⟩ := Jvm.RoadKit.callSS X141 hx (y := (⟨"coppice/marshal/context/NamespaceScopeResetPinLaw", "pick", "(I)Ljava/lang/String;"⟩ : MethodName)) hown (mvT hZ (hw _ (List.mem_of_getElem? (i := 44) rfl))) (mvT hZ (hw _ (List.mem_of_getElem? (i := 45) rfl))) (mvT hZ (hw _ (List.mem_of_getElem? (i := 41) rfl))) (mvT hZ (hw _ (List.mem_of_getElem? (i := 46) rfl))) (by decide) (backOfSH (W := 2) (rm6 l Z a0 hw hEL wS [] (p3 ^^^ p5) cw T139.heap n0 Zn S_c hcw) hZ (hw _ (List.mem_of_getElem? (i := 46) rfl)) (hw _ (List.mem_of_getElem? (i := 41) rfl)) (by decide) (by decide) hEL H) (g := (mkF m 87 #[.val (.int p1), .val (.int p2), .val (.int p3), .val (.int p4), .val (.int p5), .val (.int p6), .val (.int nn), .val (.ref b1), .val (.int (3 : Int32)), .unset] [(.int (p3 ^^^ p5)), (.int i3), (.ref b1)])) rfl (by rw [hml]; rfl) (argsL := [(.int (p3 ^^^ p5))]) (rest := [(.int i3), (.ref b1)]) (lenOf pd_11 rfl) rfl (by show 2 * 0 + _ ≤ _; exact Nat.le_of_eq rfl) (hb hby at_87) (fun _ _ => ⟨rfl, hs141, (by decide : 12 + 2 ≤ _), (by decide : 93 + 16 ≤ _)⟩)
    dsimp only [Pt.U, Pt.locs, Pt.cells, Pt.slots] at hS2 hg2 HRc
    have hkT := Nat.le_trans hk (Nat.le_of_eq (congrArg Array.size (Eq.symm hs141)))
    dsimp only [Pt.U, Pt.locs, Pt.cells, Pt.slots] at X142 l142 y142 z142 st142 hQ142
    replace y142 : kx142 = 14 := y142
    replace z142 : nx142 = 109 := z142
    subst y142 z142
    obtain ⟨r_142, tr_142, rfl, Nq142, Kc142, F_r_142⟩ := hQ142
    have NN : Fr n0 Lx142 := by rw [l142]; exact Fr.app NN Nq142
    obtain ⟨X142, hS, hZ, hown⟩ := rebS hS hkT X142 hS2 hg2 hZ hown
    have hk := Nat.le_refl T142.heap.size
    have HR := HR.trans HRc
    have H := HR.1
    have Nss : ∀ x ∈ ([] : List Addr), own_ns Z T139.heap x := all0
    have S_c : Sta Z T142.heap "java/lang/String" "COMPACT_STRINGS" "Z" (.int cw) := own_sta_keepN S_c Kc142 Nss
    have E_b1 : Exa Z T142.heap b1 "coppice/marshal/context/NamespaceScope" := E_b1.keep Kc142
    have F_r_134 : own_S Z T142.heap (.ref r_134) (some tr_134) := own_S_keep F_r_134 Kc142 Nss
    have F_r_138 : own_S Z T142.heap (.ref r_138) (some tr_138) := own_S_keep F_r_138 Kc142 Nss
    have E_o : Exa Z T142.heap b1 "coppice/marshal/context/NamespaceScope" := E_o.keep Kc142
    have F_un : Fld Z T142.heap b1 "coppice/marshal/context/NamespaceScope" "undoNamespaces" "[I" (.ref un_2) := F_un.keep Kc142 nin0
    have F_up : Fld Z T142.heap b1 "coppice/marshal/context/NamespaceScope" "undoPrefixes" "[Ljava/lang/String;" (.ref up_2) := F_up.keep Kc142 nin0
    have F_pf : Fld Z T142.heap b1 "coppice/marshal/context/NamespaceScope" "prefixes" "[Ljava/lang/String;" (.ref pf_2) := F_pf.keep Kc142 nin0
    have F_uc : Fld Z T142.heap b1 "coppice/marshal/context/NamespaceScope" "undoCount" "I" (.int z2.2.2.2) := F_uc.keep Kc142 nin0
    have V_un : Arv Z T142.heap un_2 ku_2 .int (16 : Int32) z2.2.1 (.int (0 : Int32)) := V_un.keep Kc142 nin0
    have V_up : Arv Z T142.heap up_2 kp_2 (.object "java/lang/String") (16 : Int32) upz_139 .null := V_up.keep Kc142 nin0
    have V_pf : Arv Z T142.heap pf_2 kf_2 (.object "java/lang/String") nn pfz_139 .null := V_pf.keep Kc142 nin0
    have L_up : own_SL Z T142.heap upz_139 z2.2.2.1 := own_SL_keep L_up Kc142 Nss
    have L_pf : own_SL Z T142.heap pfz_139 z2.1 := own_SL_keep L_pf Kc142 Nss
    have Zn : n0 ≤ T142.heap.size := Nat.le_trans Zn Kc142.1
    have pre : ∀ τ, Steps p.tables e below (T142.setTop (mkF m 90 #[.val (.int p1), .val (.int p2), .val (.int p3), .val (.int p4), .val (.int p5), .val (.int p6), .val (.int nn), .val (.ref b1), .val (.int (3 : Int32)), .unset] [(.ref r_142), (.int i3), (.ref b1)])) τ → G τ := fun τ κ => pre τ (st142.trans κ)
    obtain ⟨cq143, kq143, q143a, q143b, q143c⟩ := isOf hZ rfl E_b1
    obtain ⟨_, _, ⟨T143, Lx143, kx143, nx143⟩, -, X143, ⟨Lc143, hQ143, l143, y143, z143⟩, st143⟩ := X142.virtualBack hx (y := (⟨"coppice/marshal/context/NamespaceScope", "declare", "(ILjava/lang/String;)V"⟩ : MethodName)) (z := (⟨"coppice/marshal/context/NamespaceScope", "declare", "(ILjava/lang/String;)V"⟩ : MethodName)) hown (mvT hZ (hw _ (List.mem_of_getElem? (i := 65) rfl))) (mvT hZ (hw _ (List.mem_of_getElem? (i := 66) rfl))) (notFace_of_selects (args := #[]) (mvT hZ (hw _ (List.mem_of_getElem? (i := 68) rfl)))) (mvT hZ (hw _ (List.mem_of_getElem? (i := 68) rfl))) (mvT hZ (hw _ (List.mem_of_getElem? (i := 67) rfl))) (by decide) (backOf (W := 0) (rm11 l Z a0 hw [] b1 i3 r_142 un_2 up_2 pf_2 ku_2 kp_2 kf_2 nn z2 upz_139 pfz_139 tr_142 cw (((0 + nn.toInt) + nn.toInt) : Int) T142.heap n0 Zn g_b1 gn_un_2 gn_up_2 gn_pf_2 E_b1 F_un F_up F_pf F_uc V_un V_up V_pf L_up L_pf O_up_2 O_pf_2 ne_b1_un_2 ne_b1_up_2 ne_b1_pf_2 ne_un__up_2 ne_un__pf_2 ne_up__pf_2 F_r_142 S_c hcw b_i3 ⟨Jz2.1, Jz2.2.1⟩ (by omega) Jz2.2.2 hlp_139 hlf_139) hZ (hw _ (List.mem_of_getElem? (i := 69) rfl)) (hw _ (List.mem_of_getElem? (i := 2) rfl)) (by decide) (by decide)) q143a q143c (g := (mkF m 90 #[.val (.int p1), .val (.int p2), .val (.int p3), .val (.int p4), .val (.int p5), .val (.int p6), .val (.int nn), .val (.ref b1), .val (.int (3 : Int32)), .unset] [(.ref r_142), (.int i3), (.ref b1)])) rfl (by rw [hml]; rfl) (Steps.refl _) (argsL := [(.int i3), (.ref r_142)]) (rest := []) (lenOf pd_1 rfl) rfl (by show 2 * 0 + _ ≤ _; exact Nat.le_of_eq rfl) (hb hby at_90) (fun _ _ => ⟨rfl, rfl, (by decide : 14 + 0 ≤ _), (by decide : 109 + 0 ≤ _)⟩)
    dsimp only [Pt.U, Pt.locs, Pt.cells, Pt.slots] at X143 l143 y143 z143 st143 hQ143
    replace y143 : kx143 = 14 := y143
    replace z143 : nx143 = 109 := z143
    subst y143 z143
    obtain ⟨upz_143, pfz_143, rfl, Nq143, Kc143, E_o_143, F_un_143, F_up_143, F_pf_143, F_uc_143, V_un_143, V_up_143, V_pf_143, L_up_143, L_pf_143, hlp_143, hlf_143⟩ := hQ143
    have NN : Fr n0 Lx143 := by rw [l143]; exact Fr.app NN Nq143
    have Nss : ∀ x ∈ [b1, un_2, up_2, pf_2], own_ns Z T142.heap x := (allS (own_nsE E_b1 (hw _ (List.mem_of_getElem? (i := 1) rfl)) (by decide) (by decide)) (allS (own_nsV V_un (by decide)) (allS (own_nsV V_up (by decide)) (allS (own_nsV V_pf (by decide)) all0))))
    have hk := Nat.le_trans hk Kc143.1
    have HR := HR.trans (CHr.keep Kc143 (fun x hx => own_safe hZ.alike (Nss x hx)) H)
    have H := HR.1
    have S_c : Sta Z T143.heap "java/lang/String" "COMPACT_STRINGS" "Z" (.int cw) := own_sta_keepN S_c Kc143 Nss
    have E_b1 : Exa Z T143.heap b1 "coppice/marshal/context/NamespaceScope" := E_b1.keep Kc143
    have F_r_134 : own_S Z T143.heap (.ref r_134) (some tr_134) := own_S_keep F_r_134 Kc143 Nss
    have F_r_138 : own_S Z T143.heap (.ref r_138) (some tr_138) := own_S_keep F_r_138 Kc143 Nss
    have E_o : Exa Z T143.heap b1 "coppice/marshal/context/NamespaceScope" := E_o.keep Kc143
    have L_up : own_SL Z T143.heap upz_139 z2.2.2.1 := own_SL_keep L_up Kc143 Nss
    have L_pf : own_SL Z T143.heap pfz_139 z2.1 := own_SL_keep L_pf Kc143 Nss
    have F_r_142 : own_S Z T143.heap (.ref r_142) (some tr_142) := own_S_keep F_r_142 Kc143 Nss
    have Zn : n0 ≤ T143.heap.size := Nat.le_trans Zn Kc143.1
    have pre : ∀ τ, Steps p.tables e below (T143.setTop (mkF m 93 #[.val (.int p1), .val (.int p2), .val (.int p3), .val (.int p4), .val (.int p5), .val (.int p6), .val (.int nn), .val (.ref b1), .val (.int (3 : Int32)), .unset] [])) τ → G τ := fun τ κ => pre τ (st143.trans κ)
    obtain ⟨z3, hz3⟩ : ∃ q : own_ST, q = own_de tr_142 i3 nn z2 := ⟨_, rfl⟩
    have E_o := E_o_143
    have F_un := F_un_143
    have F_up := F_up_143
    have F_pf := F_pf_143
    have F_uc : Fld Z T143.heap b1 "coppice/marshal/context/NamespaceScope" "undoCount" "I" (.int z3.2.2.2) := by rw [hz3]; exact F_uc_143
    have V_un : Arv Z T143.heap un_2 ku_2 .int (16 : Int32) z3.2.1 (.int (0 : Int32)) := by rw [hz3]; exact V_un_143
    have V_up := V_up_143
    have V_pf := V_pf_143
    have L_up : own_SL Z T143.heap upz_143 z3.2.2.1 := by rw [hz3]; exact L_up_143
    have L_pf : own_SL Z T143.heap pfz_143 z3.1 := by rw [hz3]; exact L_pf_143
    have Jz3 : own_J z3 (((0 + nn.toInt) + nn.toInt) + nn.toInt) := by rw [hz3]; exact own_Jde b_i3 Jz2 (by omega)
    have pre : ∀ τ, Steps p.tables e below (T143.setTop (mkF m 95 #[.val (.int p1), .val (.int p2), .val (.int p3), .val (.int p4), .val (.int p5), .val (.int p6), .val (.int nn), .val (.ref b1), .val (.int (3 : Int32)), .unset] [(.ref b1)])) τ → G τ := fun τ κ => pre τ (by
      refine XS.aload X143.here hx rfl (hb hby at_93) rfl rfl ?_
      show Steps p.tables e below (T143.setTop (mkF m 95 #[.val (.int p1), .val (.int p2), .val (.int p3), .val (.int p4), .val (.int p5), .val (.int p6), .val (.int nn), .val (.ref b1), .val (.int (3 : Int32)), .unset] [(.ref b1)])) τ
      exact κ)
    obtain ⟨cq144, kq144, q144a, q144b, q144c⟩ := isOf hZ rfl E_b1
    obtain ⟨_, _, ⟨T144, Lx144, kx144, nx144⟩, -, X144, hS2, hg2, ⟨Lc144, hQ144, l144, y144, z144, HRc⟩, st144⟩ := X143.virtualBackS hx (y := (⟨"coppice/marshal/context/NamespaceScope", "reset", "()V"⟩ : MethodName)) (z := (⟨"coppice/marshal/context/NamespaceScope", "reset", "()V"⟩ : MethodName)) hown (mvT hZ (hw _ (List.mem_of_getElem? (i := 83) rfl))) (mvT hZ (hw _ (List.mem_of_getElem? (i := 19) rfl))) (notFace_of_selects (args := #[]) (mvT hZ (hw _ (List.mem_of_getElem? (i := 21) rfl)))) (mvT hZ (hw _ (List.mem_of_getElem? (i := 21) rfl))) (mvT hZ (hw _ (List.mem_of_getElem? (i := 20) rfl))) (by decide) (backOfSH (W := 0) (rm3 l Z a0 hw hEL wS [] b1 un_2 up_2 pf_2 kf_2 nn pfz_143 (.int z3.2.2.2) T143.heap n0 Zn g_b1 gn_pf_2 E_b1 F_un F_up F_pf F_uc V_pf O_pf_2 ne_b1_pf_2 N5.1 hlf_143) hZ (hw _ (List.mem_of_getElem? (i := 22) rfl)) (hw _ (List.mem_of_getElem? (i := 2) rfl)) (by decide) (by decide) hEL H) q144a q144c (g := (mkF m 95 #[.val (.int p1), .val (.int p2), .val (.int p3), .val (.int p4), .val (.int p5), .val (.int p6), .val (.int nn), .val (.ref b1), .val (.int (3 : Int32)), .unset] [(.ref b1)])) rfl (by rw [hml]; rfl) (Steps.refl _) (argsL := []) (rest := []) (lenOf pd_8 rfl) rfl (by show 2 * 0 + _ ≤ _; exact Nat.le_of_eq rfl) (hb hby at_95) (fun _ _ => ⟨rfl, rfl, (by decide : 14 + 4 ≤ _), (by decide : 109 + 20 ≤ _)⟩)
    dsimp only [Pt.U, Pt.locs, Pt.cells, Pt.slots] at hS2 hg2 HRc
    have hkT := hk
    dsimp only [Pt.U, Pt.locs, Pt.cells, Pt.slots] at X144 l144 y144 z144 st144 hQ144
    replace y144 : kx144 = 18 := y144
    replace z144 : nx144 = 129 := z144
    subst y144 z144
    obtain ⟨pfz_144, rfl, Nq144, Kc144, E_o_144, F_un_144, F_up_144, F_pf_144, F_uc_144, V_pf_144, L_pf_144, hlz_144⟩ := hQ144
    have NN : Fr n0 Lx144 := by rw [l144]; exact Fr.app NN Nq144
    obtain ⟨X144, hS, hZ, hown⟩ := rebS hS hkT X144 hS2 hg2 hZ hown
    have hk := Nat.le_refl T144.heap.size
    have HR := HR.trans HRc
    have H := HR.1
    have Nss : ∀ x ∈ [b1, pf_2], own_ns Z T143.heap x := (allS (own_nsE E_b1 (hw _ (List.mem_of_getElem? (i := 1) rfl)) (by decide) (by decide)) (allS (own_nsV V_pf (by decide)) all0))
    have S_c : Sta Z T144.heap "java/lang/String" "COMPACT_STRINGS" "Z" (.int cw) := own_sta_keepN S_c Kc144 Nss
    have E_b1 : Exa Z T144.heap b1 "coppice/marshal/context/NamespaceScope" := E_b1.keep Kc144
    have F_r_134 : own_S Z T144.heap (.ref r_134) (some tr_134) := own_S_keep F_r_134 Kc144 Nss
    have F_r_138 : own_S Z T144.heap (.ref r_138) (some tr_138) := own_S_keep F_r_138 Kc144 Nss
    have F_r_142 : own_S Z T144.heap (.ref r_142) (some tr_142) := own_S_keep F_r_142 Kc144 Nss
    have E_o : Exa Z T144.heap b1 "coppice/marshal/context/NamespaceScope" := E_o.keep Kc144
    have V_un : Arv Z T144.heap un_2 ku_2 .int (16 : Int32) z3.2.1 (.int (0 : Int32)) := V_un.keep Kc144 (ninS (Ne.symm ne_b1_un_2) (ninS ne_un__pf_2 nin0))
    have V_up : Arv Z T144.heap up_2 kp_2 (.object "java/lang/String") (16 : Int32) upz_143 .null := V_up.keep Kc144 (ninS (Ne.symm ne_b1_up_2) (ninS ne_up__pf_2 nin0))
    have L_up : own_SL Z T144.heap upz_143 z3.2.2.1 := own_SL_keep L_up Kc144 Nss
    have L_pf : own_SL Z T144.heap pfz_143 z3.1 := own_SL_keep L_pf Kc144 Nss
    have Zn : n0 ≤ T144.heap.size := Nat.le_trans Zn Kc144.1
    have pre : ∀ τ, Steps p.tables e below (T144.setTop (mkF m 98 #[.val (.int p1), .val (.int p2), .val (.int p3), .val (.int p4), .val (.int p5), .val (.int p6), .val (.int nn), .val (.ref b1), .val (.int (3 : Int32)), .unset] [])) τ → G τ := fun τ κ => pre τ (st144.trans κ)
    have pre : ∀ τ, Steps p.tables e below (T144.setTop (mkF m 100 #[.val (.int p1), .val (.int p2), .val (.int p3), .val (.int p4), .val (.int p5), .val (.int p6), .val (.int nn), .val (.ref b1), .val (.int (3 : Int32)), .unset] [(.ref b1)])) τ → G τ := fun τ κ => pre τ (by
      refine XS.aload X144.here hx rfl (hb hby at_98) rfl rfl ?_
      show Steps p.tables e below (T144.setTop (mkF m 100 #[.val (.int p1), .val (.int p2), .val (.int p3), .val (.int p4), .val (.int p5), .val (.int p6), .val (.int nn), .val (.ref b1), .val (.int (3 : Int32)), .unset] [(.ref b1)])) τ
      exact κ)
    obtain ⟨cq145, kq145, q145a, q145b, q145c⟩ := isOf hZ rfl E_b1
    obtain ⟨_, _, ⟨T145, Lx145, kx145, nx145⟩, -, X145, ⟨Lc145, hQ145, l145, y145, z145⟩, st145⟩ := X144.virtualBack hx (y := (⟨"coppice/marshal/context/NamespaceScope", "mark", "()I"⟩ : MethodName)) (z := (⟨"coppice/marshal/context/NamespaceScope", "mark", "()I"⟩ : MethodName)) hown (mvT hZ (hw _ (List.mem_of_getElem? (i := 84) rfl))) (mvT hZ (hw _ (List.mem_of_getElem? (i := 85) rfl))) (notFace_of_selects (args := #[]) (mvT hZ (hw _ (List.mem_of_getElem? (i := 87) rfl)))) (mvT hZ (hw _ (List.mem_of_getElem? (i := 87) rfl))) (mvT hZ (hw _ (List.mem_of_getElem? (i := 86) rfl))) (by decide) (backOf (W := 0) (rm15 l Z a0 hw [] b1 (0 : Int32) T144.heap n0 Zn F_uc_144) hZ (hw _ (List.mem_of_getElem? (i := 88) rfl)) (hw _ (List.mem_of_getElem? (i := 2) rfl)) (by decide) (by decide)) q145a q145c (g := (mkF m 100 #[.val (.int p1), .val (.int p2), .val (.int p3), .val (.int p4), .val (.int p5), .val (.int p6), .val (.int nn), .val (.ref b1), .val (.int (3 : Int32)), .unset] [(.ref b1)])) rfl (by rw [hml]; rfl) (Steps.refl _) (argsL := []) (rest := []) (lenOf pd_10 rfl) rfl (by show 2 * 0 + _ ≤ _; exact Nat.le_of_eq rfl) (hb hby at_100) (fun _ _ => ⟨rfl, rfl, (by decide : 18 + 0 ≤ _), (by decide : 129 + 0 ≤ _)⟩)
    dsimp only [Pt.U, Pt.locs, Pt.cells, Pt.slots] at X145 l145 y145 z145 st145 hQ145
    replace y145 : kx145 = 18 := y145
    replace z145 : nx145 = 129 := z145
    subst y145 z145
    obtain ⟨rfl, Nq145, hs145⟩ := hQ145
    have NN : Fr n0 Lx145 := by rw [l145]; exact Fr.app NN Nq145
    have pre : ∀ τ, Steps p.tables e below (T145.setTop (mkF m 103 #[.val (.int p1), .val (.int p2), .val (.int p3), .val (.int p4), .val (.int p5), .val (.int p6), .val (.int nn), .val (.ref b1), .val (.int (3 : Int32)), .unset] [(.int (0 : Int32))])) τ → G τ := fun τ κ => pre τ (st145.trans κ)
    have hc146 : (0 : Int32) = (0 : Int32) := rfl
    have pre : ∀ τ, Steps p.tables e below (T145.setTop (mkF m 115 #[.val (.int p1), .val (.int p2), .val (.int p3), .val (.int p4), .val (.int p5), .val (.int p6), .val (.int nn), .val (.ref b1), .val (.int (3 : Int32)), .val (.int (1 : Int32))] [(.int (1 : Int32))])) τ → G τ := fun τ κ => pre τ (by
      refine XS.ifNo X145.here hx rfl (hb hby at_103) rfl ((if0 _ _).trans (teq hc146).2) ?_
      show Steps p.tables e below (T145.setTop (mkF m 106 #[.val (.int p1), .val (.int p2), .val (.int p3), .val (.int p4), .val (.int p5), .val (.int p6), .val (.int nn), .val (.ref b1), .val (.int (3 : Int32)), .unset] [])) τ
      refine XS.iconst X145.here hx rfl (hb hby at_106) ?_
      show Steps p.tables e below (T145.setTop (mkF m 107 #[.val (.int p1), .val (.int p2), .val (.int p3), .val (.int p4), .val (.int p5), .val (.int p6), .val (.int nn), .val (.ref b1), .val (.int (3 : Int32)), .unset] [(.int (1 : Int32))])) τ
      refine XS.goto X145.here hx rfl (pc0 := 107) (pc' := 111) rfl (hb hby at_107) (by decide) (by decide) ?_
      show Steps p.tables e below (T145.setTop (mkF m 111 #[.val (.int p1), .val (.int p2), .val (.int p3), .val (.int p4), .val (.int p5), .val (.int p6), .val (.int nn), .val (.ref b1), .val (.int (3 : Int32)), .unset] [(.int (1 : Int32))])) τ
      refine XS.istore X145.here hx rfl (hb hby at_111) rfl (l' := #[.val (.int p1), .val (.int p2), .val (.int p3), .val (.int p4), .val (.int p5), .val (.int p6), .val (.int nn), .val (.ref b1), .val (.int (3 : Int32)), .val (.int (1 : Int32))]) rfl ?_
      show Steps p.tables e below (T145.setTop (mkF m 113 #[.val (.int p1), .val (.int p2), .val (.int p3), .val (.int p4), .val (.int p5), .val (.int p6), .val (.int nn), .val (.ref b1), .val (.int (3 : Int32)), .val (.int (1 : Int32))] [])) τ
      refine XS.iload X145.here hx rfl (hb hby at_113) rfl ?_
      show Steps p.tables e below (T145.setTop (mkF m 115 #[.val (.int p1), .val (.int p2), .val (.int p3), .val (.int p4), .val (.int p5), .val (.int p6), .val (.int nn), .val (.ref b1), .val (.int (3 : Int32)), .val (.int (1 : Int32))] [(.int (1 : Int32))])) τ
      exact κ)
    have hc147 : ¬ ((1 : Int32) = (0 : Int32)) := (by decide)
    have pre : ∀ τ, Steps p.tables e below (T145.setTop (mkF m 118 #[.val (.int p1), .val (.int p2), .val (.int p3), .val (.int p4), .val (.int p5), .val (.int p6), .val (.int nn), .val (.ref b1), .val (.int (3 : Int32)), .val (.int (1 : Int32))] [])) τ → G τ := fun τ κ => pre τ (by
      refine XS.ifNo X145.here hx rfl (hb hby at_115) rfl ((if0 _ _).trans (feq hc147).1) ?_
      show Steps p.tables e below (T145.setTop (mkF m 118 #[.val (.int p1), .val (.int p2), .val (.int p3), .val (.int p4), .val (.int p5), .val (.int p6), .val (.int nn), .val (.ref b1), .val (.int (3 : Int32)), .val (.int (1 : Int32))] [])) τ
      exact κ)
    obtain ⟨as148, T148, h148, kn148, bs148, kc148, X148, e148, E148, hS, hk, hZ, hown, Ea148, Ca148, Va148, Ba148, la148, lb148, HRn148, Li148, sf148, st148⟩ := ldcCH X145 hx hZ hown (hw _ (List.mem_of_getElem? (i := 82) rfl)) wS hs145 hS hk hEL (List.mem_of_getElem? (i := 2) rfl) H (vs := []) (z := (0 : Int32)) ⟨by decide, rfl⟩ (by decide) rfl (g := (mkF m 118 #[.val (.int p1), .val (.int p2), .val (.int p3), .val (.int p4), .val (.int p5), .val (.int p6), .val (.int nn), .val (.ref b1), .val (.int (3 : Int32)), .val (.int (1 : Int32))] [])) rfl (hb hby at_118) (n := 0) (by decide) (by decide) (by decide) (by decide)
    have S_c : Sta Z h148 "java/lang/String" "COMPACT_STRINGS" "Z" (.int cw) := S_c.ext E148
    have E_b1 : Exa Z h148 b1 "coppice/marshal/context/NamespaceScope" := E_b1.ext E148
    have F_r_134 : own_S Z h148 (.ref r_134) (some tr_134) := own_S_ext F_r_134 E148
    have F_r_138 : own_S Z h148 (.ref r_138) (some tr_138) := own_S_ext F_r_138 E148
    have F_r_142 : own_S Z h148 (.ref r_142) (some tr_142) := own_S_ext F_r_142 E148
    have E_o : Exa Z h148 b1 "coppice/marshal/context/NamespaceScope" := E_o.ext E148
    have V_un : Arv Z h148 un_2 ku_2 .int (16 : Int32) z3.2.1 (.int (0 : Int32)) := V_un.ext E148
    have V_up : Arv Z h148 up_2 kp_2 (.object "java/lang/String") (16 : Int32) upz_143 .null := V_up.ext E148
    have L_up : own_SL Z h148 upz_143 z3.2.2.1 := own_SL_ext L_up E148
    have L_pf : own_SL Z h148 pfz_143 z3.1 := own_SL_ext L_pf E148
    have E_o_144 : Exa Z h148 b1 "coppice/marshal/context/NamespaceScope" := E_o_144.ext E148
    have F_un_144 : Fld Z h148 b1 "coppice/marshal/context/NamespaceScope" "undoNamespaces" "[I" (.ref un_2) := F_un_144.ext E148
    have F_up_144 : Fld Z h148 b1 "coppice/marshal/context/NamespaceScope" "undoPrefixes" "[Ljava/lang/String;" (.ref up_2) := F_up_144.ext E148
    have F_pf_144 : Fld Z h148 b1 "coppice/marshal/context/NamespaceScope" "prefixes" "[Ljava/lang/String;" (.ref pf_2) := F_pf_144.ext E148
    have F_uc_144 : Fld Z h148 b1 "coppice/marshal/context/NamespaceScope" "undoCount" "I" (.int (0 : Int32)) := F_uc_144.ext E148
    have V_pf_144 : Arv Z h148 pf_2 kf_2 (.object "java/lang/String") nn pfz_144 .null := V_pf_144.ext E148
    have L_pf_144 : own_SL Z h148 pfz_144 (own_r0 nn) := own_SL_ext L_pf_144 E148
    have Zn : n0 ≤ h148.size := Nat.le_trans Zn E148.1
    have HR := HR.trans HRn148
    have H := HR.1
    have F_s148 : own_S Z h148 (.ref as148) (some []) := Or.inr ⟨_, _, _, _, _, _, rfl, rfl, (hw _ (List.mem_of_getElem? (i := 29) rfl)), Ea148, Ca148, Va148, Ba148, rfl⟩
    have pre : ∀ τ, Steps p.tables e below (T148.setTop (mkF m 120 #[.val (.int p1), .val (.int p2), .val (.int p3), .val (.int p4), .val (.int p5), .val (.int p6), .val (.int nn), .val (.ref b1), .val (.int (3 : Int32)), .val (.int (1 : Int32))] [(.ref as148)])) τ → G τ := fun τ κ => pre τ (st148 τ κ)
    have pre : ∀ τ, Steps p.tables e below (T148.setTop (mkF m 123 #[.val (.int p1), .val (.int p2), .val (.int p3), .val (.int p4), .val (.int p5), .val (.int p6), .val (.int nn), .val (.ref b1), .val (.int (3 : Int32)), .val (.int (1 : Int32))] [(.int (0 : Int32)), (.ref b1), (.ref as148)])) τ → G τ := fun τ κ => pre τ (by
      refine XS.aload X148.here hx rfl (hb hby at_120) rfl rfl ?_
      show Steps p.tables e below (T148.setTop (mkF m 122 #[.val (.int p1), .val (.int p2), .val (.int p3), .val (.int p4), .val (.int p5), .val (.int p6), .val (.int nn), .val (.ref b1), .val (.int (3 : Int32)), .val (.int (1 : Int32))] [(.ref b1), (.ref as148)])) τ
      refine XS.iconst X148.here hx rfl (hb hby at_122) ?_
      show Steps p.tables e below (T148.setTop (mkF m 123 #[.val (.int p1), .val (.int p2), .val (.int p3), .val (.int p4), .val (.int p5), .val (.int p6), .val (.int nn), .val (.ref b1), .val (.int (3 : Int32)), .val (.int (1 : Int32))] [(.int (0 : Int32)), (.ref b1), (.ref as148)])) τ
      exact κ)
    obtain ⟨cq149, kq149, q149a, q149b, q149c⟩ := isOf hZ e148 E_b1
    obtain ⟨_, _, ⟨T149, Lx149, kx149, nx149⟩, -, X149, ⟨Lc149, hQ149, l149, y149, z149⟩, st149⟩ := X148.virtualBack hx (y := (⟨"coppice/marshal/context/NamespaceScope", "prefix", "(I)Ljava/lang/String;"⟩ : MethodName)) (z := (⟨"coppice/marshal/context/NamespaceScope", "prefix", "(I)Ljava/lang/String;"⟩ : MethodName)) hown (mvT hZ (hw _ (List.mem_of_getElem? (i := 89) rfl))) (mvT hZ (hw _ (List.mem_of_getElem? (i := 90) rfl))) (notFace_of_selects (args := #[]) (mvT hZ (hw _ (List.mem_of_getElem? (i := 92) rfl)))) (mvT hZ (hw _ (List.mem_of_getElem? (i := 92) rfl))) (mvT hZ (hw _ (List.mem_of_getElem? (i := 91) rfl))) (by decide) (backOf (W := 1) (rm16 l Z a0 hw [] b1 (0 : Int32) pf_2 kf_2 nn pfz_144 (own_r0 nn) h148 n0 Zn F_pf_144 V_pf_144 L_pf_144 (own_b01 N5.1).1) hZ (hw _ (List.mem_of_getElem? (i := 93) rfl)) (hw _ (List.mem_of_getElem? (i := 2) rfl)) (by decide) (by decide)) q149a q149c (g := (mkF m 123 #[.val (.int p1), .val (.int p2), .val (.int p3), .val (.int p4), .val (.int p5), .val (.int p6), .val (.int nn), .val (.ref b1), .val (.int (3 : Int32)), .val (.int (1 : Int32))] [(.int (0 : Int32)), (.ref b1), (.ref as148)])) rfl (by rw [hml]; rfl) (Steps.refl _) (argsL := [(.int (0 : Int32))]) (rest := [(.ref as148)]) (lenOf pd_11 rfl) rfl (by show 2 * 0 + _ ≤ _; exact Nat.le_of_eq rfl) (hb hby at_123) (fun _ _ => ⟨rfl, e148, (by decide : 20 + 0 ≤ _), (by decide : 133 + 0 ≤ _)⟩)
    dsimp only [Pt.U, Pt.locs, Pt.cells, Pt.slots] at X149 l149 y149 z149 st149 hQ149
    replace y149 : kx149 = 20 := y149
    replace z149 : nx149 = 133 := z149
    subst y149 z149
    obtain ⟨rfl, Nq149, hs149, F_r_149⟩ := hQ149
    have NN : Fr n0 Lx149 := by rw [l149]; exact Fr.app NN Nq149
    have F_r_149 : own_S Z h148 (pfz_144.getD ((0 : Int32)).toNatClampNeg .null) ((own_r0 nn).getD ((0 : Int32)).toNatClampNeg none) := hs149 ▸ F_r_149
    have pre : ∀ τ, Steps p.tables e below (T149.setTop (mkF m 126 #[.val (.int p1), .val (.int p2), .val (.int p3), .val (.int p4), .val (.int p5), .val (.int p6), .val (.int nn), .val (.ref b1), .val (.int (3 : Int32)), .val (.int (1 : Int32))] [(pfz_144.getD ((0 : Int32)).toNatClampNeg .null), (.ref as148)])) τ → G τ := fun τ κ => pre τ (st149.trans κ)
    obtain ⟨cq150, kq150, q150a, q150b, q150c⟩ := isOf hZ hs149 (own_S_exa F_s148)
    obtain ⟨_, _, ⟨T150, Lx150, kx150, nx150⟩, -, X150, ⟨Lc150, hQ150, l150, y150, z150⟩, st150⟩ := X149.virtualBack hx (y := (⟨"java/lang/String", "equals", "(Ljava/lang/Object;)Z"⟩ : MethodName)) (z := (⟨"java/lang/String", "equals", "(Ljava/lang/Object;)Z"⟩ : MethodName)) hown (mvT hZ (hw _ (List.mem_of_getElem? (i := 94) rfl))) (mvT hZ (hw _ (List.mem_of_getElem? (i := 71) rfl))) (notFace_of_selects (args := #[]) (mvT hZ (hw _ (List.mem_of_getElem? (i := 73) rfl)))) (mvT hZ (hw _ (List.mem_of_getElem? (i := 73) rfl))) (mvT hZ (hw _ (List.mem_of_getElem? (i := 72) rfl))) (by decide) (backOf (W := 0) (rm12 l Z a0 hw [] as148 (pfz_144.getD ((0 : Int32)).toNatClampNeg .null) [] ((own_r0 nn).getD ((0 : Int32)).toNatClampNeg none) cw h148 n0 Zn F_s148 F_r_149 S_c hcw) hZ (hw _ (List.mem_of_getElem? (i := 74) rfl)) (hw _ (List.mem_of_getElem? (i := 28) rfl)) (by decide) (by decide)) q150a q150c (g := (mkF m 126 #[.val (.int p1), .val (.int p2), .val (.int p3), .val (.int p4), .val (.int p5), .val (.int p6), .val (.int nn), .val (.ref b1), .val (.int (3 : Int32)), .val (.int (1 : Int32))] [(pfz_144.getD ((0 : Int32)).toNatClampNeg .null), (.ref as148)])) rfl (by rw [hml]; rfl) (Steps.refl _) (argsL := [(pfz_144.getD ((0 : Int32)).toNatClampNeg .null)]) (rest := []) (lenOf pd_2 rfl) rfl (by show 2 * 0 + _ ≤ _; exact Nat.le_of_eq rfl) (hb hby at_126) (fun _ _ => ⟨rfl, hs149, (by decide : 20 + 0 ≤ _), (by decide : 133 + 0 ≤ _)⟩)
    dsimp only [Pt.U, Pt.locs, Pt.cells, Pt.slots] at X150 l150 y150 z150 st150 hQ150
    replace y150 : kx150 = 20 := y150
    replace z150 : nx150 = 133 := z150
    subst y150 z150
    obtain ⟨rfl, Nq150, hs150⟩ := hQ150
    have NN : Fr n0 Lx150 := by rw [l150]; exact Fr.app NN Nq150
    have pre : ∀ τ, Steps p.tables e below (T150.setTop (mkF m 129 #[.val (.int p1), .val (.int p2), .val (.int p3), .val (.int p4), .val (.int p5), .val (.int p6), .val (.int nn), .val (.ref b1), .val (.int (3 : Int32)), .val (.int (1 : Int32))] [(.int (own_eqt [] ((own_r0 nn).getD ((0 : Int32)).toNatClampNeg none)))])) τ → G τ := fun τ κ => pre τ (st150.trans κ)
    have hc151 : ¬ ((own_eqt [] ((own_r0 nn).getD ((0 : Int32)).toNatClampNeg none)) = (0 : Int32)) := (own_eqt1 (own_r00 N5.1))
    have pre : ∀ τ, Steps p.tables e below (T150.setTop (mkF m 141 #[.val (.int p1), .val (.int p2), .val (.int p3), .val (.int p4), .val (.int p5), .val (.int p6), .val (.int nn), .val (.ref b1), .val (.int (3 : Int32)), .val (.int (1 : Int32))] [(.int (1 : Int32))])) τ → G τ := fun τ κ => pre τ (by
      refine XS.ifNo X150.here hx rfl (hb hby at_129) rfl ((if0 _ _).trans (feq hc151).1) ?_
      show Steps p.tables e below (T150.setTop (mkF m 132 #[.val (.int p1), .val (.int p2), .val (.int p3), .val (.int p4), .val (.int p5), .val (.int p6), .val (.int nn), .val (.ref b1), .val (.int (3 : Int32)), .val (.int (1 : Int32))] [])) τ
      refine XS.iconst X150.here hx rfl (hb hby at_132) ?_
      show Steps p.tables e below (T150.setTop (mkF m 133 #[.val (.int p1), .val (.int p2), .val (.int p3), .val (.int p4), .val (.int p5), .val (.int p6), .val (.int nn), .val (.ref b1), .val (.int (3 : Int32)), .val (.int (1 : Int32))] [(.int (1 : Int32))])) τ
      refine XS.goto X150.here hx rfl (pc0 := 133) (pc' := 137) rfl (hb hby at_133) (by decide) (by decide) ?_
      show Steps p.tables e below (T150.setTop (mkF m 137 #[.val (.int p1), .val (.int p2), .val (.int p3), .val (.int p4), .val (.int p5), .val (.int p6), .val (.int nn), .val (.ref b1), .val (.int (3 : Int32)), .val (.int (1 : Int32))] [(.int (1 : Int32))])) τ
      refine XS.istore X150.here hx rfl (hb hby at_137) rfl (l' := #[.val (.int p1), .val (.int p2), .val (.int p3), .val (.int p4), .val (.int p5), .val (.int p6), .val (.int nn), .val (.ref b1), .val (.int (3 : Int32)), .val (.int (1 : Int32))]) rfl ?_
      show Steps p.tables e below (T150.setTop (mkF m 139 #[.val (.int p1), .val (.int p2), .val (.int p3), .val (.int p4), .val (.int p5), .val (.int p6), .val (.int nn), .val (.ref b1), .val (.int (3 : Int32)), .val (.int (1 : Int32))] [])) τ
      refine XS.iload X150.here hx rfl (hb hby at_139) rfl ?_
      show Steps p.tables e below (T150.setTop (mkF m 141 #[.val (.int p1), .val (.int p2), .val (.int p3), .val (.int p4), .val (.int p5), .val (.int p6), .val (.int nn), .val (.ref b1), .val (.int (3 : Int32)), .val (.int (1 : Int32))] [(.int (1 : Int32))])) τ
      exact κ)
    have hc152 : ¬ ((1 : Int32) = (0 : Int32)) := (by decide)
    have pre : ∀ τ, Steps p.tables e below (T150.setTop (mkF m 144 #[.val (.int p1), .val (.int p2), .val (.int p3), .val (.int p4), .val (.int p5), .val (.int p6), .val (.int nn), .val (.ref b1), .val (.int (3 : Int32)), .val (.int (1 : Int32))] [])) τ → G τ := fun τ κ => pre τ (by
      refine XS.ifNo X150.here hx rfl (hb hby at_141) rfl ((if0 _ _).trans (feq hc152).1) ?_
      show Steps p.tables e below (T150.setTop (mkF m 144 #[.val (.int p1), .val (.int p2), .val (.int p3), .val (.int p4), .val (.int p5), .val (.int p6), .val (.int nn), .val (.ref b1), .val (.int (3 : Int32)), .val (.int (1 : Int32))] [])) τ
      exact κ)
    obtain ⟨as153, T153, h153, kn153, bs153, kc153, X153, e153, E153, hS, hk, hZ, hown, Ea153, Ca153, Va153, Ba153, la153, lb153, HRn153, Li153, sf153, st153⟩ := ldcCH X150 hx hZ hown (hw _ (List.mem_of_getElem? (i := 95) rfl)) wS hs150 hS hk hEL (List.mem_of_getElem? (i := 3) rfl) H (vs := [(.int (120 : Int32)), (.int (109 : Int32)), (.int (108 : Int32))]) (z := (3 : Int32)) ⟨by decide, rfl⟩ (by decide) rfl (g := (mkF m 144 #[.val (.int p1), .val (.int p2), .val (.int p3), .val (.int p4), .val (.int p5), .val (.int p6), .val (.int nn), .val (.ref b1), .val (.int (3 : Int32)), .val (.int (1 : Int32))] [])) rfl (hb hby at_144) (n := 12) (by decide) (by decide) (by decide) (by decide)
    have S_c : Sta Z h153 "java/lang/String" "COMPACT_STRINGS" "Z" (.int cw) := S_c.ext E153
    have E_b1 : Exa Z h153 b1 "coppice/marshal/context/NamespaceScope" := E_b1.ext E153
    have F_r_134 : own_S Z h153 (.ref r_134) (some tr_134) := own_S_ext F_r_134 E153
    have F_r_138 : own_S Z h153 (.ref r_138) (some tr_138) := own_S_ext F_r_138 E153
    have F_r_142 : own_S Z h153 (.ref r_142) (some tr_142) := own_S_ext F_r_142 E153
    have E_o : Exa Z h153 b1 "coppice/marshal/context/NamespaceScope" := E_o.ext E153
    have V_un : Arv Z h153 un_2 ku_2 .int (16 : Int32) z3.2.1 (.int (0 : Int32)) := V_un.ext E153
    have V_up : Arv Z h153 up_2 kp_2 (.object "java/lang/String") (16 : Int32) upz_143 .null := V_up.ext E153
    have L_up : own_SL Z h153 upz_143 z3.2.2.1 := own_SL_ext L_up E153
    have L_pf : own_SL Z h153 pfz_143 z3.1 := own_SL_ext L_pf E153
    have E_o_144 : Exa Z h153 b1 "coppice/marshal/context/NamespaceScope" := E_o_144.ext E153
    have F_un_144 : Fld Z h153 b1 "coppice/marshal/context/NamespaceScope" "undoNamespaces" "[I" (.ref un_2) := F_un_144.ext E153
    have F_up_144 : Fld Z h153 b1 "coppice/marshal/context/NamespaceScope" "undoPrefixes" "[Ljava/lang/String;" (.ref up_2) := F_up_144.ext E153
    have F_pf_144 : Fld Z h153 b1 "coppice/marshal/context/NamespaceScope" "prefixes" "[Ljava/lang/String;" (.ref pf_2) := F_pf_144.ext E153
    have F_uc_144 : Fld Z h153 b1 "coppice/marshal/context/NamespaceScope" "undoCount" "I" (.int (0 : Int32)) := F_uc_144.ext E153
    have V_pf_144 : Arv Z h153 pf_2 kf_2 (.object "java/lang/String") nn pfz_144 .null := V_pf_144.ext E153
    have L_pf_144 : own_SL Z h153 pfz_144 (own_r0 nn) := own_SL_ext L_pf_144 E153
    have F_s148 : own_S Z h153 (.ref as148) (some []) := own_S_ext F_s148 E153
    have F_r_149 : own_S Z h153 (pfz_144.getD ((0 : Int32)).toNatClampNeg .null) ((own_r0 nn).getD ((0 : Int32)).toNatClampNeg none) := own_S_ext F_r_149 E153
    have Zn : n0 ≤ h153.size := Nat.le_trans Zn E153.1
    have HR := HR.trans HRn153
    have H := HR.1
    have F_s153 : own_S Z h153 (.ref as153) (some [(.int (120 : Int32)), (.int (109 : Int32)), (.int (108 : Int32))]) := Or.inr ⟨_, _, _, _, _, _, rfl, rfl, (hw _ (List.mem_of_getElem? (i := 29) rfl)), Ea153, Ca153, Va153, Ba153, rfl⟩
    have pre : ∀ τ, Steps p.tables e below (T153.setTop (mkF m 146 #[.val (.int p1), .val (.int p2), .val (.int p3), .val (.int p4), .val (.int p5), .val (.int p6), .val (.int nn), .val (.ref b1), .val (.int (3 : Int32)), .val (.int (1 : Int32))] [(.ref as153)])) τ → G τ := fun τ κ => pre τ (st153 τ κ)
    have pre : ∀ τ, Steps p.tables e below (T153.setTop (mkF m 149 #[.val (.int p1), .val (.int p2), .val (.int p3), .val (.int p4), .val (.int p5), .val (.int p6), .val (.int nn), .val (.ref b1), .val (.int (3 : Int32)), .val (.int (1 : Int32))] [(.int (1 : Int32)), (.ref b1), (.ref as153)])) τ → G τ := fun τ κ => pre τ (by
      refine XS.aload X153.here hx rfl (hb hby at_146) rfl rfl ?_
      show Steps p.tables e below (T153.setTop (mkF m 148 #[.val (.int p1), .val (.int p2), .val (.int p3), .val (.int p4), .val (.int p5), .val (.int p6), .val (.int nn), .val (.ref b1), .val (.int (3 : Int32)), .val (.int (1 : Int32))] [(.ref b1), (.ref as153)])) τ
      refine XS.iconst X153.here hx rfl (hb hby at_148) ?_
      show Steps p.tables e below (T153.setTop (mkF m 149 #[.val (.int p1), .val (.int p2), .val (.int p3), .val (.int p4), .val (.int p5), .val (.int p6), .val (.int nn), .val (.ref b1), .val (.int (3 : Int32)), .val (.int (1 : Int32))] [(.int (1 : Int32)), (.ref b1), (.ref as153)])) τ
      exact κ)
    obtain ⟨cq154, kq154, q154a, q154b, q154c⟩ := isOf hZ e153 E_b1
    obtain ⟨_, _, ⟨T154, Lx154, kx154, nx154⟩, -, X154, ⟨Lc154, hQ154, l154, y154, z154⟩, st154⟩ := X153.virtualBack hx (y := (⟨"coppice/marshal/context/NamespaceScope", "prefix", "(I)Ljava/lang/String;"⟩ : MethodName)) (z := (⟨"coppice/marshal/context/NamespaceScope", "prefix", "(I)Ljava/lang/String;"⟩ : MethodName)) hown (mvT hZ (hw _ (List.mem_of_getElem? (i := 89) rfl))) (mvT hZ (hw _ (List.mem_of_getElem? (i := 90) rfl))) (notFace_of_selects (args := #[]) (mvT hZ (hw _ (List.mem_of_getElem? (i := 92) rfl)))) (mvT hZ (hw _ (List.mem_of_getElem? (i := 92) rfl))) (mvT hZ (hw _ (List.mem_of_getElem? (i := 91) rfl))) (by decide) (backOf (W := 1) (rm16 l Z a0 hw [] b1 (1 : Int32) pf_2 kf_2 nn pfz_144 (own_r0 nn) h153 n0 Zn F_pf_144 V_pf_144 L_pf_144 (own_b01 N5.1).2) hZ (hw _ (List.mem_of_getElem? (i := 93) rfl)) (hw _ (List.mem_of_getElem? (i := 2) rfl)) (by decide) (by decide)) q154a q154c (g := (mkF m 149 #[.val (.int p1), .val (.int p2), .val (.int p3), .val (.int p4), .val (.int p5), .val (.int p6), .val (.int nn), .val (.ref b1), .val (.int (3 : Int32)), .val (.int (1 : Int32))] [(.int (1 : Int32)), (.ref b1), (.ref as153)])) rfl (by rw [hml]; rfl) (Steps.refl _) (argsL := [(.int (1 : Int32))]) (rest := [(.ref as153)]) (lenOf pd_11 rfl) rfl (by show 2 * 0 + _ ≤ _; exact Nat.le_of_eq rfl) (hb hby at_149) (fun _ _ => ⟨rfl, e153, (by decide : 22 + 0 ≤ _), (by decide : 149 + 0 ≤ _)⟩)
    dsimp only [Pt.U, Pt.locs, Pt.cells, Pt.slots] at X154 l154 y154 z154 st154 hQ154
    replace y154 : kx154 = 22 := y154
    replace z154 : nx154 = 149 := z154
    subst y154 z154
    obtain ⟨rfl, Nq154, hs154, F_r_154⟩ := hQ154
    have NN : Fr n0 Lx154 := by rw [l154]; exact Fr.app NN Nq154
    have F_r_154 : own_S Z h153 (pfz_144.getD ((1 : Int32)).toNatClampNeg .null) ((own_r0 nn).getD ((1 : Int32)).toNatClampNeg none) := hs154 ▸ F_r_154
    have pre : ∀ τ, Steps p.tables e below (T154.setTop (mkF m 152 #[.val (.int p1), .val (.int p2), .val (.int p3), .val (.int p4), .val (.int p5), .val (.int p6), .val (.int nn), .val (.ref b1), .val (.int (3 : Int32)), .val (.int (1 : Int32))] [(pfz_144.getD ((1 : Int32)).toNatClampNeg .null), (.ref as153)])) τ → G τ := fun τ κ => pre τ (st154.trans κ)
    obtain ⟨cq155, kq155, q155a, q155b, q155c⟩ := isOf hZ hs154 (own_S_exa F_s153)
    obtain ⟨_, _, ⟨T155, Lx155, kx155, nx155⟩, -, X155, ⟨Lc155, hQ155, l155, y155, z155⟩, st155⟩ := X154.virtualBack hx (y := (⟨"java/lang/String", "equals", "(Ljava/lang/Object;)Z"⟩ : MethodName)) (z := (⟨"java/lang/String", "equals", "(Ljava/lang/Object;)Z"⟩ : MethodName)) hown (mvT hZ (hw _ (List.mem_of_getElem? (i := 94) rfl))) (mvT hZ (hw _ (List.mem_of_getElem? (i := 71) rfl))) (notFace_of_selects (args := #[]) (mvT hZ (hw _ (List.mem_of_getElem? (i := 73) rfl)))) (mvT hZ (hw _ (List.mem_of_getElem? (i := 73) rfl))) (mvT hZ (hw _ (List.mem_of_getElem? (i := 72) rfl))) (by decide) (backOf (W := 0) (rm12 l Z a0 hw [] as153 (pfz_144.getD ((1 : Int32)).toNatClampNeg .null) [(.int (120 : Int32)), (.int (109 : Int32)), (.int (108 : Int32))] ((own_r0 nn).getD ((1 : Int32)).toNatClampNeg none) cw h153 n0 Zn F_s153 F_r_154 S_c hcw) hZ (hw _ (List.mem_of_getElem? (i := 74) rfl)) (hw _ (List.mem_of_getElem? (i := 28) rfl)) (by decide) (by decide)) q155a q155c (g := (mkF m 152 #[.val (.int p1), .val (.int p2), .val (.int p3), .val (.int p4), .val (.int p5), .val (.int p6), .val (.int nn), .val (.ref b1), .val (.int (3 : Int32)), .val (.int (1 : Int32))] [(pfz_144.getD ((1 : Int32)).toNatClampNeg .null), (.ref as153)])) rfl (by rw [hml]; rfl) (Steps.refl _) (argsL := [(pfz_144.getD ((1 : Int32)).toNatClampNeg .null)]) (rest := []) (lenOf pd_2 rfl) rfl (by show 2 * 0 + _ ≤ _; exact Nat.le_of_eq rfl) (hb hby at_152) (fun _ _ => ⟨rfl, hs154, (by decide : 22 + 0 ≤ _), (by decide : 149 + 0 ≤ _)⟩)
    dsimp only [Pt.U, Pt.locs, Pt.cells, Pt.slots] at X155 l155 y155 z155 st155 hQ155
    replace y155 : kx155 = 22 := y155
    replace z155 : nx155 = 149 := z155
    subst y155 z155
    obtain ⟨rfl, Nq155, hs155⟩ := hQ155
    have NN : Fr n0 Lx155 := by rw [l155]; exact Fr.app NN Nq155
    have pre : ∀ τ, Steps p.tables e below (T155.setTop (mkF m 155 #[.val (.int p1), .val (.int p2), .val (.int p3), .val (.int p4), .val (.int p5), .val (.int p6), .val (.int nn), .val (.ref b1), .val (.int (3 : Int32)), .val (.int (1 : Int32))] [(.int (own_eqt [(.int (120 : Int32)), (.int (109 : Int32)), (.int (108 : Int32))] ((own_r0 nn).getD ((1 : Int32)).toNatClampNeg none)))])) τ → G τ := fun τ κ => pre τ (st155.trans κ)
    have hc156 : ¬ ((own_eqt [(.int (120 : Int32)), (.int (109 : Int32)), (.int (108 : Int32))] ((own_r0 nn).getD ((1 : Int32)).toNatClampNeg none)) = (0 : Int32)) := (own_eqt1 (own_r01 N5.1))
    have pre : ∀ τ, Steps p.tables e below (T155.setTop (mkF m 165 #[.val (.int p1), .val (.int p2), .val (.int p3), .val (.int p4), .val (.int p5), .val (.int p6), .val (.int nn), .val (.ref b1), .val (.int (3 : Int32)), .val (.int (1 : Int32))] [])) τ → G τ := fun τ κ => pre τ (by
      refine XS.ifNo X155.here hx rfl (hb hby at_155) rfl ((if0 _ _).trans (feq hc156).1) ?_
      show Steps p.tables e below (T155.setTop (mkF m 158 #[.val (.int p1), .val (.int p2), .val (.int p3), .val (.int p4), .val (.int p5), .val (.int p6), .val (.int nn), .val (.ref b1), .val (.int (3 : Int32)), .val (.int (1 : Int32))] [])) τ
      refine XS.iconst X155.here hx rfl (hb hby at_158) ?_
      show Steps p.tables e below (T155.setTop (mkF m 159 #[.val (.int p1), .val (.int p2), .val (.int p3), .val (.int p4), .val (.int p5), .val (.int p6), .val (.int nn), .val (.ref b1), .val (.int (3 : Int32)), .val (.int (1 : Int32))] [(.int (1 : Int32))])) τ
      refine XS.goto X155.here hx rfl (pc0 := 159) (pc' := 163) rfl (hb hby at_159) (by decide) (by decide) ?_
      show Steps p.tables e below (T155.setTop (mkF m 163 #[.val (.int p1), .val (.int p2), .val (.int p3), .val (.int p4), .val (.int p5), .val (.int p6), .val (.int nn), .val (.ref b1), .val (.int (3 : Int32)), .val (.int (1 : Int32))] [(.int (1 : Int32))])) τ
      refine XS.istore X155.here hx rfl (hb hby at_163) rfl (l' := #[.val (.int p1), .val (.int p2), .val (.int p3), .val (.int p4), .val (.int p5), .val (.int p6), .val (.int nn), .val (.ref b1), .val (.int (3 : Int32)), .val (.int (1 : Int32))]) rfl ?_
      show Steps p.tables e below (T155.setTop (mkF m 165 #[.val (.int p1), .val (.int p2), .val (.int p3), .val (.int p4), .val (.int p5), .val (.int p6), .val (.int nn), .val (.ref b1), .val (.int (3 : Int32)), .val (.int (1 : Int32))] [])) τ
      exact κ)
    rcases (show nn = 2 ∨ nn = 3 ∨ nn = 4 ∨ nn = 5 by exact own_r5 N5) with hk_nn | hk_nn | hk_nn | hk_nn
    ·
      have pre : ∀ τ, Steps p.tables e below (T155.setTop (mkF m 165 #[.val (.int p1), .val (.int p2), .val (.int p3), .val (.int p4), .val (.int p5), .val (.int p6), .val (.int (2 : Int32)), .val (.ref b1), .val (.int (3 : Int32)), .val (.int (1 : Int32))] [])) τ → G τ := (show nn = (2 : Int32) from hk_nn) ▸ pre
      have pre : ∀ τ, Steps p.tables e below (T155.setTop (mkF m 168 #[.val (.int p1), .val (.int p2), .val (.int p3), .val (.int p4), .val (.int p5), .val (.int p6), .val (.int (2 : Int32)), .val (.ref b1), .val (.int (3 : Int32)), .val (.int (1 : Int32))] [(.int (2 : Int32)), (.int (2 : Int32))])) τ → G τ := fun τ κ => pre τ (by
        refine XS.iload X155.here hx rfl (hb hby at_165) rfl ?_
        show Steps p.tables e below (T155.setTop (mkF m 167 #[.val (.int p1), .val (.int p2), .val (.int p3), .val (.int p4), .val (.int p5), .val (.int p6), .val (.int (2 : Int32)), .val (.ref b1), .val (.int (3 : Int32)), .val (.int (1 : Int32))] [(.int (2 : Int32))])) τ
        refine XS.iconst X155.here hx rfl (hb hby at_167) ?_
        show Steps p.tables e below (T155.setTop (mkF m 168 #[.val (.int p1), .val (.int p2), .val (.int p3), .val (.int p4), .val (.int p5), .val (.int p6), .val (.int (2 : Int32)), .val (.ref b1), .val (.int (3 : Int32)), .val (.int (1 : Int32))] [(.int (2 : Int32)), (.int (2 : Int32))])) τ
        exact κ)
      have hc157 : ¬ ((2 : Int32) < (2 : Int32)) := (by decide)
      have pre : ∀ τ, Steps p.tables e below (T155.setTop (mkF m 195 #[.val (.int p1), .val (.int p2), .val (.int p3), .val (.int p4), .val (.int p5), .val (.int p6), .val (.int (2 : Int32)), .val (.ref b1), .val (.int (3 : Int32)), .val (.int (1 : Int32))] [(.int (3 : Int32)), (.int (2 : Int32))])) τ → G τ := fun τ κ => pre τ (by
        refine XS.icmpYes X155.here hx rfl (pc0 := 168) (pc' := 192) rfl (hb hby at_168) rfl (flt hc157).2.2.2 (by decide) (by decide) ?_
        show Steps p.tables e below (T155.setTop (mkF m 192 #[.val (.int p1), .val (.int p2), .val (.int p3), .val (.int p4), .val (.int p5), .val (.int p6), .val (.int (2 : Int32)), .val (.ref b1), .val (.int (3 : Int32)), .val (.int (1 : Int32))] [])) τ
        refine XS.iload X155.here hx rfl (hb hby at_192) rfl ?_
        show Steps p.tables e below (T155.setTop (mkF m 194 #[.val (.int p1), .val (.int p2), .val (.int p3), .val (.int p4), .val (.int p5), .val (.int p6), .val (.int (2 : Int32)), .val (.ref b1), .val (.int (3 : Int32)), .val (.int (1 : Int32))] [(.int (2 : Int32))])) τ
        refine XS.iconst X155.here hx rfl (hb hby at_194) ?_
        show Steps p.tables e below (T155.setTop (mkF m 195 #[.val (.int p1), .val (.int p2), .val (.int p3), .val (.int p4), .val (.int p5), .val (.int p6), .val (.int (2 : Int32)), .val (.ref b1), .val (.int (3 : Int32)), .val (.int (1 : Int32))] [(.int (3 : Int32)), (.int (2 : Int32))])) τ
        exact κ)
      have hc158 : ¬ ((3 : Int32) < (2 : Int32)) := (by decide)
      have pre : ∀ τ, Steps p.tables e below (T155.setTop (mkF m 222 #[.val (.int p1), .val (.int p2), .val (.int p3), .val (.int p4), .val (.int p5), .val (.int p6), .val (.int (2 : Int32)), .val (.ref b1), .val (.int (3 : Int32)), .val (.int (1 : Int32))] [(.int (4 : Int32)), (.int (2 : Int32))])) τ → G τ := fun τ κ => pre τ (by
        refine XS.icmpYes X155.here hx rfl (pc0 := 195) (pc' := 219) rfl (hb hby at_195) rfl (flt hc158).2.2.2 (by decide) (by decide) ?_
        show Steps p.tables e below (T155.setTop (mkF m 219 #[.val (.int p1), .val (.int p2), .val (.int p3), .val (.int p4), .val (.int p5), .val (.int p6), .val (.int (2 : Int32)), .val (.ref b1), .val (.int (3 : Int32)), .val (.int (1 : Int32))] [])) τ
        refine XS.iload X155.here hx rfl (hb hby at_219) rfl ?_
        show Steps p.tables e below (T155.setTop (mkF m 221 #[.val (.int p1), .val (.int p2), .val (.int p3), .val (.int p4), .val (.int p5), .val (.int p6), .val (.int (2 : Int32)), .val (.ref b1), .val (.int (3 : Int32)), .val (.int (1 : Int32))] [(.int (2 : Int32))])) τ
        refine XS.iconst X155.here hx rfl (hb hby at_221) ?_
        show Steps p.tables e below (T155.setTop (mkF m 222 #[.val (.int p1), .val (.int p2), .val (.int p3), .val (.int p4), .val (.int p5), .val (.int p6), .val (.int (2 : Int32)), .val (.ref b1), .val (.int (3 : Int32)), .val (.int (1 : Int32))] [(.int (4 : Int32)), (.int (2 : Int32))])) τ
        exact κ)
      have hc159 : ¬ ((4 : Int32) < (2 : Int32)) := (by decide)
      have pre : ∀ τ, Steps p.tables e below (T155.setTop (mkF m 248 #[.val (.int p1), .val (.int p2), .val (.int p3), .val (.int p4), .val (.int p5), .val (.int p6), .val (.int (2 : Int32)), .val (.ref b1), .val (.int (3 : Int32)), .val (.int (1 : Int32))] [(.int (1 : Int32))])) τ → G τ := fun τ κ => pre τ (by
        refine XS.icmpYes X155.here hx rfl (pc0 := 222) (pc' := 246) rfl (hb hby at_222) rfl (flt hc159).2.2.2 (by decide) (by decide) ?_
        show Steps p.tables e below (T155.setTop (mkF m 246 #[.val (.int p1), .val (.int p2), .val (.int p3), .val (.int p4), .val (.int p5), .val (.int p6), .val (.int (2 : Int32)), .val (.ref b1), .val (.int (3 : Int32)), .val (.int (1 : Int32))] [])) τ
        refine XS.iload X155.here hx rfl (hb hby at_246) rfl ?_
        show Steps p.tables e below (T155.setTop (mkF m 248 #[.val (.int p1), .val (.int p2), .val (.int p3), .val (.int p4), .val (.int p5), .val (.int p6), .val (.int (2 : Int32)), .val (.ref b1), .val (.int (3 : Int32)), .val (.int (1 : Int32))] [(.int (1 : Int32))])) τ
        exact κ)
      have hkT := Nat.le_trans hk (Nat.le_of_eq (congrArg Array.size (Eq.symm hs155)))
      obtain ⟨fsα, hr, hrun, hended, hRE⟩ := X155.leaveW hS hkT (v := some (.int (1 : Int32))) (fun h => by rw [Bd.returns] at h; cases h)
      refine hGL ⟨_, _, hG _ (pre _ ?_), hrun, hended, _, _, rfl, ?_, ?_, ⟨_, rfl⟩, hRE.2.1, hRE.2.2.1, hRE.2.2.2.mono (by decide) (by decide)⟩
      · exact retN X155 hx (t := .boolean) Bd.returns (by simp) (hb hby at_248) hr
      · show Q0 Z p1 p2 p3 p4 p5 p6 cw h0 n0 _ T155.heap _
        rw [hs155]
        exact ⟨rfl, NN⟩
      · show CHr Z own_EL s.vm s.heap T155.vm T155.heap
        rw [hh, hs155]
        exact HR.trans (CHv.at X155 hZ hEL H)
    ·
      have pre : ∀ τ, Steps p.tables e below (T155.setTop (mkF m 165 #[.val (.int p1), .val (.int p2), .val (.int p3), .val (.int p4), .val (.int p5), .val (.int p6), .val (.int (3 : Int32)), .val (.ref b1), .val (.int (3 : Int32)), .val (.int (1 : Int32))] [])) τ → G τ := (show nn = (3 : Int32) from hk_nn) ▸ pre
      have pre : ∀ τ, Steps p.tables e below (T155.setTop (mkF m 168 #[.val (.int p1), .val (.int p2), .val (.int p3), .val (.int p4), .val (.int p5), .val (.int p6), .val (.int (3 : Int32)), .val (.ref b1), .val (.int (3 : Int32)), .val (.int (1 : Int32))] [(.int (2 : Int32)), (.int (3 : Int32))])) τ → G τ := fun τ κ => pre τ (by
        refine XS.iload X155.here hx rfl (hb hby at_165) rfl ?_
        show Steps p.tables e below (T155.setTop (mkF m 167 #[.val (.int p1), .val (.int p2), .val (.int p3), .val (.int p4), .val (.int p5), .val (.int p6), .val (.int (3 : Int32)), .val (.ref b1), .val (.int (3 : Int32)), .val (.int (1 : Int32))] [(.int (3 : Int32))])) τ
        refine XS.iconst X155.here hx rfl (hb hby at_167) ?_
        show Steps p.tables e below (T155.setTop (mkF m 168 #[.val (.int p1), .val (.int p2), .val (.int p3), .val (.int p4), .val (.int p5), .val (.int p6), .val (.int (3 : Int32)), .val (.ref b1), .val (.int (3 : Int32)), .val (.int (1 : Int32))] [(.int (2 : Int32)), (.int (3 : Int32))])) τ
        exact κ)
      have hc160 : (2 : Int32) < (3 : Int32) := (by decide)
      have pre : ∀ τ, Steps p.tables e below (T155.setTop (mkF m 173 #[.val (.int p1), .val (.int p2), .val (.int p3), .val (.int p4), .val (.int p5), .val (.int p6), .val (.int (3 : Int32)), .val (.ref b1), .val (.int (3 : Int32)), .val (.int (1 : Int32))] [(.int (1 : Int32))])) τ → G τ := fun τ κ => pre τ (by
        refine XS.icmpNo X155.here hx rfl (hb hby at_168) rfl (tlt hc160).2.2.2 ?_
        show Steps p.tables e below (T155.setTop (mkF m 171 #[.val (.int p1), .val (.int p2), .val (.int p3), .val (.int p4), .val (.int p5), .val (.int p6), .val (.int (3 : Int32)), .val (.ref b1), .val (.int (3 : Int32)), .val (.int (1 : Int32))] [])) τ
        refine XS.iload X155.here hx rfl (hb hby at_171) rfl ?_
        show Steps p.tables e below (T155.setTop (mkF m 173 #[.val (.int p1), .val (.int p2), .val (.int p3), .val (.int p4), .val (.int p5), .val (.int p6), .val (.int (3 : Int32)), .val (.ref b1), .val (.int (3 : Int32)), .val (.int (1 : Int32))] [(.int (1 : Int32))])) τ
        exact κ)
      have hc161 : ¬ ((1 : Int32) = (0 : Int32)) := (by decide)
      have pre : ∀ τ, Steps p.tables e below (T155.setTop (mkF m 179 #[.val (.int p1), .val (.int p2), .val (.int p3), .val (.int p4), .val (.int p5), .val (.int p6), .val (.int (3 : Int32)), .val (.ref b1), .val (.int (3 : Int32)), .val (.int (1 : Int32))] [(.int (2 : Int32)), (.ref b1)])) τ → G τ := fun τ κ => pre τ (by
        refine XS.ifNo X155.here hx rfl (hb hby at_173) rfl ((if0 _ _).trans (feq hc161).1) ?_
        show Steps p.tables e below (T155.setTop (mkF m 176 #[.val (.int p1), .val (.int p2), .val (.int p3), .val (.int p4), .val (.int p5), .val (.int p6), .val (.int (3 : Int32)), .val (.ref b1), .val (.int (3 : Int32)), .val (.int (1 : Int32))] [])) τ
        refine XS.aload X155.here hx rfl (hb hby at_176) rfl rfl ?_
        show Steps p.tables e below (T155.setTop (mkF m 178 #[.val (.int p1), .val (.int p2), .val (.int p3), .val (.int p4), .val (.int p5), .val (.int p6), .val (.int (3 : Int32)), .val (.ref b1), .val (.int (3 : Int32)), .val (.int (1 : Int32))] [(.ref b1)])) τ
        refine XS.iconst X155.here hx rfl (hb hby at_178) ?_
        show Steps p.tables e below (T155.setTop (mkF m 179 #[.val (.int p1), .val (.int p2), .val (.int p3), .val (.int p4), .val (.int p5), .val (.int p6), .val (.int (3 : Int32)), .val (.ref b1), .val (.int (3 : Int32)), .val (.int (1 : Int32))] [(.int (2 : Int32)), (.ref b1)])) τ
        exact κ)
      obtain ⟨cq162, kq162, q162a, q162b, q162c⟩ := isOf hZ hs155 E_b1
      obtain ⟨_, _, ⟨T162, Lx162, kx162, nx162⟩, -, X162, ⟨Lc162, hQ162, l162, y162, z162⟩, st162⟩ := X155.virtualBack hx (y := (⟨"coppice/marshal/context/NamespaceScope", "prefix", "(I)Ljava/lang/String;"⟩ : MethodName)) (z := (⟨"coppice/marshal/context/NamespaceScope", "prefix", "(I)Ljava/lang/String;"⟩ : MethodName)) hown (mvT hZ (hw _ (List.mem_of_getElem? (i := 89) rfl))) (mvT hZ (hw _ (List.mem_of_getElem? (i := 90) rfl))) (notFace_of_selects (args := #[]) (mvT hZ (hw _ (List.mem_of_getElem? (i := 92) rfl)))) (mvT hZ (hw _ (List.mem_of_getElem? (i := 92) rfl))) (mvT hZ (hw _ (List.mem_of_getElem? (i := 91) rfl))) (by decide) (backOf (W := 0) (rm16 l Z a0 hw [] b1 (2 : Int32) pf_2 kf_2 nn pfz_144 (own_r0 nn) h153 n0 Zn F_pf_144 V_pf_144 L_pf_144 ⟨by decide, by rw [hk_nn]; decide⟩) hZ (hw _ (List.mem_of_getElem? (i := 93) rfl)) (hw _ (List.mem_of_getElem? (i := 2) rfl)) (by decide) (by decide)) q162a q162c (g := (mkF m 179 #[.val (.int p1), .val (.int p2), .val (.int p3), .val (.int p4), .val (.int p5), .val (.int p6), .val (.int (3 : Int32)), .val (.ref b1), .val (.int (3 : Int32)), .val (.int (1 : Int32))] [(.int (2 : Int32)), (.ref b1)])) rfl (by rw [hml]; rfl) (Steps.refl _) (argsL := [(.int (2 : Int32))]) (rest := []) (lenOf pd_11 rfl) rfl (by show 2 * 0 + _ ≤ _; exact Nat.le_of_eq rfl) (hb hby at_179) (fun _ _ => ⟨rfl, hs155, (by decide : 22 + 0 ≤ _), (by decide : 149 + 0 ≤ _)⟩)
      dsimp only [Pt.U, Pt.locs, Pt.cells, Pt.slots] at X162 l162 y162 z162 st162 hQ162
      replace y162 : kx162 = 22 := y162
      replace z162 : nx162 = 149 := z162
      subst y162 z162
      obtain ⟨rfl, Nq162, hs162, F_r_162⟩ := hQ162
      have NN : Fr n0 Lx162 := by rw [l162]; exact Fr.app NN Nq162
      have F_r_162 : own_S Z h153 (pfz_144.getD ((2 : Int32)).toNatClampNeg .null) ((own_r0 nn).getD ((2 : Int32)).toNatClampNeg none) := hs162 ▸ F_r_162
      have pre : ∀ τ, Steps p.tables e below (T162.setTop (mkF m 182 #[.val (.int p1), .val (.int p2), .val (.int p3), .val (.int p4), .val (.int p5), .val (.int p6), .val (.int (3 : Int32)), .val (.ref b1), .val (.int (3 : Int32)), .val (.int (1 : Int32))] [(pfz_144.getD ((2 : Int32)).toNatClampNeg .null)])) τ → G τ := fun τ κ => pre τ (st162.trans κ)
      have hnul2 := own_S_none F_r_162 (own_r0n (by decide))
      have pre : ∀ τ, Steps p.tables e below (T162.setTop (mkF m 182 #[.val (.int p1), .val (.int p2), .val (.int p3), .val (.int p4), .val (.int p5), .val (.int p6), .val (.int (3 : Int32)), .val (.ref b1), .val (.int (3 : Int32)), .val (.int (1 : Int32))] [.null])) τ → G τ := by rw [hnul2] at pre; exact pre
      have pre : ∀ τ, Steps p.tables e below (T162.setTop (mkF m 195 #[.val (.int p1), .val (.int p2), .val (.int p3), .val (.int p4), .val (.int p5), .val (.int p6), .val (.int (3 : Int32)), .val (.ref b1), .val (.int (3 : Int32)), .val (.int (1 : Int32))] [(.int (3 : Int32)), (.int (3 : Int32))])) τ → G τ := fun τ κ => pre τ (by
        refine XS.ifnonnullNo X162.here hx rfl (hb hby at_182) rfl ?_
        show Steps p.tables e below (T162.setTop (mkF m 185 #[.val (.int p1), .val (.int p2), .val (.int p3), .val (.int p4), .val (.int p5), .val (.int p6), .val (.int (3 : Int32)), .val (.ref b1), .val (.int (3 : Int32)), .val (.int (1 : Int32))] [])) τ
        refine XS.iconst X162.here hx rfl (hb hby at_185) ?_
        show Steps p.tables e below (T162.setTop (mkF m 186 #[.val (.int p1), .val (.int p2), .val (.int p3), .val (.int p4), .val (.int p5), .val (.int p6), .val (.int (3 : Int32)), .val (.ref b1), .val (.int (3 : Int32)), .val (.int (1 : Int32))] [(.int (1 : Int32))])) τ
        refine XS.goto X162.here hx rfl (pc0 := 186) (pc' := 190) rfl (hb hby at_186) (by decide) (by decide) ?_
        show Steps p.tables e below (T162.setTop (mkF m 190 #[.val (.int p1), .val (.int p2), .val (.int p3), .val (.int p4), .val (.int p5), .val (.int p6), .val (.int (3 : Int32)), .val (.ref b1), .val (.int (3 : Int32)), .val (.int (1 : Int32))] [(.int (1 : Int32))])) τ
        refine XS.istore X162.here hx rfl (hb hby at_190) rfl (l' := #[.val (.int p1), .val (.int p2), .val (.int p3), .val (.int p4), .val (.int p5), .val (.int p6), .val (.int (3 : Int32)), .val (.ref b1), .val (.int (3 : Int32)), .val (.int (1 : Int32))]) rfl ?_
        show Steps p.tables e below (T162.setTop (mkF m 192 #[.val (.int p1), .val (.int p2), .val (.int p3), .val (.int p4), .val (.int p5), .val (.int p6), .val (.int (3 : Int32)), .val (.ref b1), .val (.int (3 : Int32)), .val (.int (1 : Int32))] [])) τ
        refine XS.iload X162.here hx rfl (hb hby at_192) rfl ?_
        show Steps p.tables e below (T162.setTop (mkF m 194 #[.val (.int p1), .val (.int p2), .val (.int p3), .val (.int p4), .val (.int p5), .val (.int p6), .val (.int (3 : Int32)), .val (.ref b1), .val (.int (3 : Int32)), .val (.int (1 : Int32))] [(.int (3 : Int32))])) τ
        refine XS.iconst X162.here hx rfl (hb hby at_194) ?_
        show Steps p.tables e below (T162.setTop (mkF m 195 #[.val (.int p1), .val (.int p2), .val (.int p3), .val (.int p4), .val (.int p5), .val (.int p6), .val (.int (3 : Int32)), .val (.ref b1), .val (.int (3 : Int32)), .val (.int (1 : Int32))] [(.int (3 : Int32)), (.int (3 : Int32))])) τ
        exact κ)
      have hc163 : ¬ ((3 : Int32) < (3 : Int32)) := (by decide)
      have pre : ∀ τ, Steps p.tables e below (T162.setTop (mkF m 222 #[.val (.int p1), .val (.int p2), .val (.int p3), .val (.int p4), .val (.int p5), .val (.int p6), .val (.int (3 : Int32)), .val (.ref b1), .val (.int (3 : Int32)), .val (.int (1 : Int32))] [(.int (4 : Int32)), (.int (3 : Int32))])) τ → G τ := fun τ κ => pre τ (by
        refine XS.icmpYes X162.here hx rfl (pc0 := 195) (pc' := 219) rfl (hb hby at_195) rfl (flt hc163).2.2.2 (by decide) (by decide) ?_
        show Steps p.tables e below (T162.setTop (mkF m 219 #[.val (.int p1), .val (.int p2), .val (.int p3), .val (.int p4), .val (.int p5), .val (.int p6), .val (.int (3 : Int32)), .val (.ref b1), .val (.int (3 : Int32)), .val (.int (1 : Int32))] [])) τ
        refine XS.iload X162.here hx rfl (hb hby at_219) rfl ?_
        show Steps p.tables e below (T162.setTop (mkF m 221 #[.val (.int p1), .val (.int p2), .val (.int p3), .val (.int p4), .val (.int p5), .val (.int p6), .val (.int (3 : Int32)), .val (.ref b1), .val (.int (3 : Int32)), .val (.int (1 : Int32))] [(.int (3 : Int32))])) τ
        refine XS.iconst X162.here hx rfl (hb hby at_221) ?_
        show Steps p.tables e below (T162.setTop (mkF m 222 #[.val (.int p1), .val (.int p2), .val (.int p3), .val (.int p4), .val (.int p5), .val (.int p6), .val (.int (3 : Int32)), .val (.ref b1), .val (.int (3 : Int32)), .val (.int (1 : Int32))] [(.int (4 : Int32)), (.int (3 : Int32))])) τ
        exact κ)
      have hc164 : ¬ ((4 : Int32) < (3 : Int32)) := (by decide)
      have pre : ∀ τ, Steps p.tables e below (T162.setTop (mkF m 248 #[.val (.int p1), .val (.int p2), .val (.int p3), .val (.int p4), .val (.int p5), .val (.int p6), .val (.int (3 : Int32)), .val (.ref b1), .val (.int (3 : Int32)), .val (.int (1 : Int32))] [(.int (1 : Int32))])) τ → G τ := fun τ κ => pre τ (by
        refine XS.icmpYes X162.here hx rfl (pc0 := 222) (pc' := 246) rfl (hb hby at_222) rfl (flt hc164).2.2.2 (by decide) (by decide) ?_
        show Steps p.tables e below (T162.setTop (mkF m 246 #[.val (.int p1), .val (.int p2), .val (.int p3), .val (.int p4), .val (.int p5), .val (.int p6), .val (.int (3 : Int32)), .val (.ref b1), .val (.int (3 : Int32)), .val (.int (1 : Int32))] [])) τ
        refine XS.iload X162.here hx rfl (hb hby at_246) rfl ?_
        show Steps p.tables e below (T162.setTop (mkF m 248 #[.val (.int p1), .val (.int p2), .val (.int p3), .val (.int p4), .val (.int p5), .val (.int p6), .val (.int (3 : Int32)), .val (.ref b1), .val (.int (3 : Int32)), .val (.int (1 : Int32))] [(.int (1 : Int32))])) τ
        exact κ)
      have hkT := Nat.le_trans hk (Nat.le_of_eq (congrArg Array.size (Eq.symm hs162)))
      obtain ⟨fsα, hr, hrun, hended, hRE⟩ := X162.leaveW hS hkT (v := some (.int (1 : Int32))) (fun h => by rw [Bd.returns] at h; cases h)
      refine hGL ⟨_, _, hG _ (pre _ ?_), hrun, hended, _, _, rfl, ?_, ?_, ⟨_, rfl⟩, hRE.2.1, hRE.2.2.1, hRE.2.2.2.mono (by decide) (by decide)⟩
      · exact retN X162 hx (t := .boolean) Bd.returns (by simp) (hb hby at_248) hr
      · show Q0 Z p1 p2 p3 p4 p5 p6 cw h0 n0 _ T162.heap _
        rw [hs162]
        exact ⟨rfl, NN⟩
      · show CHr Z own_EL s.vm s.heap T162.vm T162.heap
        rw [hh, hs162]
        exact HR.trans (CHv.at X162 hZ hEL H)
    ·
      have pre : ∀ τ, Steps p.tables e below (T155.setTop (mkF m 165 #[.val (.int p1), .val (.int p2), .val (.int p3), .val (.int p4), .val (.int p5), .val (.int p6), .val (.int (4 : Int32)), .val (.ref b1), .val (.int (3 : Int32)), .val (.int (1 : Int32))] [])) τ → G τ := (show nn = (4 : Int32) from hk_nn) ▸ pre
      have pre : ∀ τ, Steps p.tables e below (T155.setTop (mkF m 168 #[.val (.int p1), .val (.int p2), .val (.int p3), .val (.int p4), .val (.int p5), .val (.int p6), .val (.int (4 : Int32)), .val (.ref b1), .val (.int (3 : Int32)), .val (.int (1 : Int32))] [(.int (2 : Int32)), (.int (4 : Int32))])) τ → G τ := fun τ κ => pre τ (by
        refine XS.iload X155.here hx rfl (hb hby at_165) rfl ?_
        show Steps p.tables e below (T155.setTop (mkF m 167 #[.val (.int p1), .val (.int p2), .val (.int p3), .val (.int p4), .val (.int p5), .val (.int p6), .val (.int (4 : Int32)), .val (.ref b1), .val (.int (3 : Int32)), .val (.int (1 : Int32))] [(.int (4 : Int32))])) τ
        refine XS.iconst X155.here hx rfl (hb hby at_167) ?_
        show Steps p.tables e below (T155.setTop (mkF m 168 #[.val (.int p1), .val (.int p2), .val (.int p3), .val (.int p4), .val (.int p5), .val (.int p6), .val (.int (4 : Int32)), .val (.ref b1), .val (.int (3 : Int32)), .val (.int (1 : Int32))] [(.int (2 : Int32)), (.int (4 : Int32))])) τ
        exact κ)
      have hc165 : (2 : Int32) < (4 : Int32) := (by decide)
      have pre : ∀ τ, Steps p.tables e below (T155.setTop (mkF m 173 #[.val (.int p1), .val (.int p2), .val (.int p3), .val (.int p4), .val (.int p5), .val (.int p6), .val (.int (4 : Int32)), .val (.ref b1), .val (.int (3 : Int32)), .val (.int (1 : Int32))] [(.int (1 : Int32))])) τ → G τ := fun τ κ => pre τ (by
        refine XS.icmpNo X155.here hx rfl (hb hby at_168) rfl (tlt hc165).2.2.2 ?_
        show Steps p.tables e below (T155.setTop (mkF m 171 #[.val (.int p1), .val (.int p2), .val (.int p3), .val (.int p4), .val (.int p5), .val (.int p6), .val (.int (4 : Int32)), .val (.ref b1), .val (.int (3 : Int32)), .val (.int (1 : Int32))] [])) τ
        refine XS.iload X155.here hx rfl (hb hby at_171) rfl ?_
        show Steps p.tables e below (T155.setTop (mkF m 173 #[.val (.int p1), .val (.int p2), .val (.int p3), .val (.int p4), .val (.int p5), .val (.int p6), .val (.int (4 : Int32)), .val (.ref b1), .val (.int (3 : Int32)), .val (.int (1 : Int32))] [(.int (1 : Int32))])) τ
        exact κ)
      have hc166 : ¬ ((1 : Int32) = (0 : Int32)) := (by decide)
      have pre : ∀ τ, Steps p.tables e below (T155.setTop (mkF m 179 #[.val (.int p1), .val (.int p2), .val (.int p3), .val (.int p4), .val (.int p5), .val (.int p6), .val (.int (4 : Int32)), .val (.ref b1), .val (.int (3 : Int32)), .val (.int (1 : Int32))] [(.int (2 : Int32)), (.ref b1)])) τ → G τ := fun τ κ => pre τ (by
        refine XS.ifNo X155.here hx rfl (hb hby at_173) rfl ((if0 _ _).trans (feq hc166).1) ?_
        show Steps p.tables e below (T155.setTop (mkF m 176 #[.val (.int p1), .val (.int p2), .val (.int p3), .val (.int p4), .val (.int p5), .val (.int p6), .val (.int (4 : Int32)), .val (.ref b1), .val (.int (3 : Int32)), .val (.int (1 : Int32))] [])) τ
        refine XS.aload X155.here hx rfl (hb hby at_176) rfl rfl ?_
        show Steps p.tables e below (T155.setTop (mkF m 178 #[.val (.int p1), .val (.int p2), .val (.int p3), .val (.int p4), .val (.int p5), .val (.int p6), .val (.int (4 : Int32)), .val (.ref b1), .val (.int (3 : Int32)), .val (.int (1 : Int32))] [(.ref b1)])) τ
        refine XS.iconst X155.here hx rfl (hb hby at_178) ?_
        show Steps p.tables e below (T155.setTop (mkF m 179 #[.val (.int p1), .val (.int p2), .val (.int p3), .val (.int p4), .val (.int p5), .val (.int p6), .val (.int (4 : Int32)), .val (.ref b1), .val (.int (3 : Int32)), .val (.int (1 : Int32))] [(.int (2 : Int32)), (.ref b1)])) τ
        exact κ)
      obtain ⟨cq167, kq167, q167a, q167b, q167c⟩ := isOf hZ hs155 E_b1
      obtain ⟨_, _, ⟨T167, Lx167, kx167, nx167⟩, -, X167, ⟨Lc167, hQ167, l167, y167, z167⟩, st167⟩ := X155.virtualBack hx (y := (⟨"coppice/marshal/context/NamespaceScope", "prefix", "(I)Ljava/lang/String;"⟩ : MethodName)) (z := (⟨"coppice/marshal/context/NamespaceScope", "prefix", "(I)Ljava/lang/String;"⟩ : MethodName)) hown (mvT hZ (hw _ (List.mem_of_getElem? (i := 89) rfl))) (mvT hZ (hw _ (List.mem_of_getElem? (i := 90) rfl))) (notFace_of_selects (args := #[]) (mvT hZ (hw _ (List.mem_of_getElem? (i := 92) rfl)))) (mvT hZ (hw _ (List.mem_of_getElem? (i := 92) rfl))) (mvT hZ (hw _ (List.mem_of_getElem? (i := 91) rfl))) (by decide) (backOf (W := 0) (rm16 l Z a0 hw [] b1 (2 : Int32) pf_2 kf_2 nn pfz_144 (own_r0 nn) h153 n0 Zn F_pf_144 V_pf_144 L_pf_144 ⟨by decide, by rw [hk_nn]; decide⟩) hZ (hw _ (List.mem_of_getElem? (i := 93) rfl)) (hw _ (List.mem_of_getElem? (i := 2) rfl)) (by decide) (by decide)) q167a q167c (g := (mkF m 179 #[.val (.int p1), .val (.int p2), .val (.int p3), .val (.int p4), .val (.int p5), .val (.int p6), .val (.int (4 : Int32)), .val (.ref b1), .val (.int (3 : Int32)), .val (.int (1 : Int32))] [(.int (2 : Int32)), (.ref b1)])) rfl (by rw [hml]; rfl) (Steps.refl _) (argsL := [(.int (2 : Int32))]) (rest := []) (lenOf pd_11 rfl) rfl (by show 2 * 0 + _ ≤ _; exact Nat.le_of_eq rfl) (hb hby at_179) (fun _ _ => ⟨rfl, hs155, (by decide : 22 + 0 ≤ _), (by decide : 149 + 0 ≤ _)⟩)
      dsimp only [Pt.U, Pt.locs, Pt.cells, Pt.slots] at X167 l167 y167 z167 st167 hQ167
      replace y167 : kx167 = 22 := y167
      replace z167 : nx167 = 149 := z167
      subst y167 z167
      obtain ⟨rfl, Nq167, hs167, F_r_167⟩ := hQ167
      have NN : Fr n0 Lx167 := by rw [l167]; exact Fr.app NN Nq167
      have F_r_167 : own_S Z h153 (pfz_144.getD ((2 : Int32)).toNatClampNeg .null) ((own_r0 nn).getD ((2 : Int32)).toNatClampNeg none) := hs167 ▸ F_r_167
      have pre : ∀ τ, Steps p.tables e below (T167.setTop (mkF m 182 #[.val (.int p1), .val (.int p2), .val (.int p3), .val (.int p4), .val (.int p5), .val (.int p6), .val (.int (4 : Int32)), .val (.ref b1), .val (.int (3 : Int32)), .val (.int (1 : Int32))] [(pfz_144.getD ((2 : Int32)).toNatClampNeg .null)])) τ → G τ := fun τ κ => pre τ (st167.trans κ)
      have hnul2 := own_S_none F_r_167 (own_r0n (by decide))
      have pre : ∀ τ, Steps p.tables e below (T167.setTop (mkF m 182 #[.val (.int p1), .val (.int p2), .val (.int p3), .val (.int p4), .val (.int p5), .val (.int p6), .val (.int (4 : Int32)), .val (.ref b1), .val (.int (3 : Int32)), .val (.int (1 : Int32))] [.null])) τ → G τ := by rw [hnul2] at pre; exact pre
      have pre : ∀ τ, Steps p.tables e below (T167.setTop (mkF m 195 #[.val (.int p1), .val (.int p2), .val (.int p3), .val (.int p4), .val (.int p5), .val (.int p6), .val (.int (4 : Int32)), .val (.ref b1), .val (.int (3 : Int32)), .val (.int (1 : Int32))] [(.int (3 : Int32)), (.int (4 : Int32))])) τ → G τ := fun τ κ => pre τ (by
        refine XS.ifnonnullNo X167.here hx rfl (hb hby at_182) rfl ?_
        show Steps p.tables e below (T167.setTop (mkF m 185 #[.val (.int p1), .val (.int p2), .val (.int p3), .val (.int p4), .val (.int p5), .val (.int p6), .val (.int (4 : Int32)), .val (.ref b1), .val (.int (3 : Int32)), .val (.int (1 : Int32))] [])) τ
        refine XS.iconst X167.here hx rfl (hb hby at_185) ?_
        show Steps p.tables e below (T167.setTop (mkF m 186 #[.val (.int p1), .val (.int p2), .val (.int p3), .val (.int p4), .val (.int p5), .val (.int p6), .val (.int (4 : Int32)), .val (.ref b1), .val (.int (3 : Int32)), .val (.int (1 : Int32))] [(.int (1 : Int32))])) τ
        refine XS.goto X167.here hx rfl (pc0 := 186) (pc' := 190) rfl (hb hby at_186) (by decide) (by decide) ?_
        show Steps p.tables e below (T167.setTop (mkF m 190 #[.val (.int p1), .val (.int p2), .val (.int p3), .val (.int p4), .val (.int p5), .val (.int p6), .val (.int (4 : Int32)), .val (.ref b1), .val (.int (3 : Int32)), .val (.int (1 : Int32))] [(.int (1 : Int32))])) τ
        refine XS.istore X167.here hx rfl (hb hby at_190) rfl (l' := #[.val (.int p1), .val (.int p2), .val (.int p3), .val (.int p4), .val (.int p5), .val (.int p6), .val (.int (4 : Int32)), .val (.ref b1), .val (.int (3 : Int32)), .val (.int (1 : Int32))]) rfl ?_
        show Steps p.tables e below (T167.setTop (mkF m 192 #[.val (.int p1), .val (.int p2), .val (.int p3), .val (.int p4), .val (.int p5), .val (.int p6), .val (.int (4 : Int32)), .val (.ref b1), .val (.int (3 : Int32)), .val (.int (1 : Int32))] [])) τ
        refine XS.iload X167.here hx rfl (hb hby at_192) rfl ?_
        show Steps p.tables e below (T167.setTop (mkF m 194 #[.val (.int p1), .val (.int p2), .val (.int p3), .val (.int p4), .val (.int p5), .val (.int p6), .val (.int (4 : Int32)), .val (.ref b1), .val (.int (3 : Int32)), .val (.int (1 : Int32))] [(.int (4 : Int32))])) τ
        refine XS.iconst X167.here hx rfl (hb hby at_194) ?_
        show Steps p.tables e below (T167.setTop (mkF m 195 #[.val (.int p1), .val (.int p2), .val (.int p3), .val (.int p4), .val (.int p5), .val (.int p6), .val (.int (4 : Int32)), .val (.ref b1), .val (.int (3 : Int32)), .val (.int (1 : Int32))] [(.int (3 : Int32)), (.int (4 : Int32))])) τ
        exact κ)
      have hc168 : (3 : Int32) < (4 : Int32) := (by decide)
      have pre : ∀ τ, Steps p.tables e below (T167.setTop (mkF m 200 #[.val (.int p1), .val (.int p2), .val (.int p3), .val (.int p4), .val (.int p5), .val (.int p6), .val (.int (4 : Int32)), .val (.ref b1), .val (.int (3 : Int32)), .val (.int (1 : Int32))] [(.int (1 : Int32))])) τ → G τ := fun τ κ => pre τ (by
        refine XS.icmpNo X167.here hx rfl (hb hby at_195) rfl (tlt hc168).2.2.2 ?_
        show Steps p.tables e below (T167.setTop (mkF m 198 #[.val (.int p1), .val (.int p2), .val (.int p3), .val (.int p4), .val (.int p5), .val (.int p6), .val (.int (4 : Int32)), .val (.ref b1), .val (.int (3 : Int32)), .val (.int (1 : Int32))] [])) τ
        refine XS.iload X167.here hx rfl (hb hby at_198) rfl ?_
        show Steps p.tables e below (T167.setTop (mkF m 200 #[.val (.int p1), .val (.int p2), .val (.int p3), .val (.int p4), .val (.int p5), .val (.int p6), .val (.int (4 : Int32)), .val (.ref b1), .val (.int (3 : Int32)), .val (.int (1 : Int32))] [(.int (1 : Int32))])) τ
        exact κ)
      have hc169 : ¬ ((1 : Int32) = (0 : Int32)) := (by decide)
      have pre : ∀ τ, Steps p.tables e below (T167.setTop (mkF m 206 #[.val (.int p1), .val (.int p2), .val (.int p3), .val (.int p4), .val (.int p5), .val (.int p6), .val (.int (4 : Int32)), .val (.ref b1), .val (.int (3 : Int32)), .val (.int (1 : Int32))] [(.int (3 : Int32)), (.ref b1)])) τ → G τ := fun τ κ => pre τ (by
        refine XS.ifNo X167.here hx rfl (hb hby at_200) rfl ((if0 _ _).trans (feq hc169).1) ?_
        show Steps p.tables e below (T167.setTop (mkF m 203 #[.val (.int p1), .val (.int p2), .val (.int p3), .val (.int p4), .val (.int p5), .val (.int p6), .val (.int (4 : Int32)), .val (.ref b1), .val (.int (3 : Int32)), .val (.int (1 : Int32))] [])) τ
        refine XS.aload X167.here hx rfl (hb hby at_203) rfl rfl ?_
        show Steps p.tables e below (T167.setTop (mkF m 205 #[.val (.int p1), .val (.int p2), .val (.int p3), .val (.int p4), .val (.int p5), .val (.int p6), .val (.int (4 : Int32)), .val (.ref b1), .val (.int (3 : Int32)), .val (.int (1 : Int32))] [(.ref b1)])) τ
        refine XS.iconst X167.here hx rfl (hb hby at_205) ?_
        show Steps p.tables e below (T167.setTop (mkF m 206 #[.val (.int p1), .val (.int p2), .val (.int p3), .val (.int p4), .val (.int p5), .val (.int p6), .val (.int (4 : Int32)), .val (.ref b1), .val (.int (3 : Int32)), .val (.int (1 : Int32))] [(.int (3 : Int32)), (.ref b1)])) τ
        exact κ)
      obtain ⟨cq170, kq170, q170a, q170b, q170c⟩ := isOf hZ hs167 E_b1
      obtain ⟨_, _, ⟨T170, Lx170, kx170, nx170⟩, -, X170, ⟨Lc170, hQ170, l170, y170, z170⟩, st170⟩ := X167.virtualBack hx (y := (⟨"coppice/marshal/context/NamespaceScope", "prefix", "(I)Ljava/lang/String;"⟩ : MethodName)) (z := (⟨"coppice/marshal/context/NamespaceScope", "prefix", "(I)Ljava/lang/String;"⟩ : MethodName)) hown (mvT hZ (hw _ (List.mem_of_getElem? (i := 89) rfl))) (mvT hZ (hw _ (List.mem_of_getElem? (i := 90) rfl))) (notFace_of_selects (args := #[]) (mvT hZ (hw _ (List.mem_of_getElem? (i := 92) rfl)))) (mvT hZ (hw _ (List.mem_of_getElem? (i := 92) rfl))) (mvT hZ (hw _ (List.mem_of_getElem? (i := 91) rfl))) (by decide) (backOf (W := 0) (rm16 l Z a0 hw [] b1 (3 : Int32) pf_2 kf_2 nn pfz_144 (own_r0 nn) h153 n0 Zn F_pf_144 V_pf_144 L_pf_144 ⟨by decide, by rw [hk_nn]; decide⟩) hZ (hw _ (List.mem_of_getElem? (i := 93) rfl)) (hw _ (List.mem_of_getElem? (i := 2) rfl)) (by decide) (by decide)) q170a q170c (g := (mkF m 206 #[.val (.int p1), .val (.int p2), .val (.int p3), .val (.int p4), .val (.int p5), .val (.int p6), .val (.int (4 : Int32)), .val (.ref b1), .val (.int (3 : Int32)), .val (.int (1 : Int32))] [(.int (3 : Int32)), (.ref b1)])) rfl (by rw [hml]; rfl) (Steps.refl _) (argsL := [(.int (3 : Int32))]) (rest := []) (lenOf pd_11 rfl) rfl (by show 2 * 0 + _ ≤ _; exact Nat.le_of_eq rfl) (hb hby at_206) (fun _ _ => ⟨rfl, hs167, (by decide : 22 + 0 ≤ _), (by decide : 149 + 0 ≤ _)⟩)
      dsimp only [Pt.U, Pt.locs, Pt.cells, Pt.slots] at X170 l170 y170 z170 st170 hQ170
      replace y170 : kx170 = 22 := y170
      replace z170 : nx170 = 149 := z170
      subst y170 z170
      obtain ⟨rfl, Nq170, hs170, F_r_170⟩ := hQ170
      have NN : Fr n0 Lx170 := by rw [l170]; exact Fr.app NN Nq170
      have F_r_170 : own_S Z h153 (pfz_144.getD ((3 : Int32)).toNatClampNeg .null) ((own_r0 nn).getD ((3 : Int32)).toNatClampNeg none) := hs170 ▸ F_r_170
      have pre : ∀ τ, Steps p.tables e below (T170.setTop (mkF m 209 #[.val (.int p1), .val (.int p2), .val (.int p3), .val (.int p4), .val (.int p5), .val (.int p6), .val (.int (4 : Int32)), .val (.ref b1), .val (.int (3 : Int32)), .val (.int (1 : Int32))] [(pfz_144.getD ((3 : Int32)).toNatClampNeg .null)])) τ → G τ := fun τ κ => pre τ (st170.trans κ)
      have hnul3 := own_S_none F_r_170 (own_r0n (by decide))
      have pre : ∀ τ, Steps p.tables e below (T170.setTop (mkF m 209 #[.val (.int p1), .val (.int p2), .val (.int p3), .val (.int p4), .val (.int p5), .val (.int p6), .val (.int (4 : Int32)), .val (.ref b1), .val (.int (3 : Int32)), .val (.int (1 : Int32))] [.null])) τ → G τ := by rw [hnul3] at pre; exact pre
      have pre : ∀ τ, Steps p.tables e below (T170.setTop (mkF m 222 #[.val (.int p1), .val (.int p2), .val (.int p3), .val (.int p4), .val (.int p5), .val (.int p6), .val (.int (4 : Int32)), .val (.ref b1), .val (.int (3 : Int32)), .val (.int (1 : Int32))] [(.int (4 : Int32)), (.int (4 : Int32))])) τ → G τ := fun τ κ => pre τ (by
        refine XS.ifnonnullNo X170.here hx rfl (hb hby at_209) rfl ?_
        show Steps p.tables e below (T170.setTop (mkF m 212 #[.val (.int p1), .val (.int p2), .val (.int p3), .val (.int p4), .val (.int p5), .val (.int p6), .val (.int (4 : Int32)), .val (.ref b1), .val (.int (3 : Int32)), .val (.int (1 : Int32))] [])) τ
        refine XS.iconst X170.here hx rfl (hb hby at_212) ?_
        show Steps p.tables e below (T170.setTop (mkF m 213 #[.val (.int p1), .val (.int p2), .val (.int p3), .val (.int p4), .val (.int p5), .val (.int p6), .val (.int (4 : Int32)), .val (.ref b1), .val (.int (3 : Int32)), .val (.int (1 : Int32))] [(.int (1 : Int32))])) τ
        refine XS.goto X170.here hx rfl (pc0 := 213) (pc' := 217) rfl (hb hby at_213) (by decide) (by decide) ?_
        show Steps p.tables e below (T170.setTop (mkF m 217 #[.val (.int p1), .val (.int p2), .val (.int p3), .val (.int p4), .val (.int p5), .val (.int p6), .val (.int (4 : Int32)), .val (.ref b1), .val (.int (3 : Int32)), .val (.int (1 : Int32))] [(.int (1 : Int32))])) τ
        refine XS.istore X170.here hx rfl (hb hby at_217) rfl (l' := #[.val (.int p1), .val (.int p2), .val (.int p3), .val (.int p4), .val (.int p5), .val (.int p6), .val (.int (4 : Int32)), .val (.ref b1), .val (.int (3 : Int32)), .val (.int (1 : Int32))]) rfl ?_
        show Steps p.tables e below (T170.setTop (mkF m 219 #[.val (.int p1), .val (.int p2), .val (.int p3), .val (.int p4), .val (.int p5), .val (.int p6), .val (.int (4 : Int32)), .val (.ref b1), .val (.int (3 : Int32)), .val (.int (1 : Int32))] [])) τ
        refine XS.iload X170.here hx rfl (hb hby at_219) rfl ?_
        show Steps p.tables e below (T170.setTop (mkF m 221 #[.val (.int p1), .val (.int p2), .val (.int p3), .val (.int p4), .val (.int p5), .val (.int p6), .val (.int (4 : Int32)), .val (.ref b1), .val (.int (3 : Int32)), .val (.int (1 : Int32))] [(.int (4 : Int32))])) τ
        refine XS.iconst X170.here hx rfl (hb hby at_221) ?_
        show Steps p.tables e below (T170.setTop (mkF m 222 #[.val (.int p1), .val (.int p2), .val (.int p3), .val (.int p4), .val (.int p5), .val (.int p6), .val (.int (4 : Int32)), .val (.ref b1), .val (.int (3 : Int32)), .val (.int (1 : Int32))] [(.int (4 : Int32)), (.int (4 : Int32))])) τ
        exact κ)
      have hc171 : ¬ ((4 : Int32) < (4 : Int32)) := (by decide)
      have pre : ∀ τ, Steps p.tables e below (T170.setTop (mkF m 248 #[.val (.int p1), .val (.int p2), .val (.int p3), .val (.int p4), .val (.int p5), .val (.int p6), .val (.int (4 : Int32)), .val (.ref b1), .val (.int (3 : Int32)), .val (.int (1 : Int32))] [(.int (1 : Int32))])) τ → G τ := fun τ κ => pre τ (by
        refine XS.icmpYes X170.here hx rfl (pc0 := 222) (pc' := 246) rfl (hb hby at_222) rfl (flt hc171).2.2.2 (by decide) (by decide) ?_
        show Steps p.tables e below (T170.setTop (mkF m 246 #[.val (.int p1), .val (.int p2), .val (.int p3), .val (.int p4), .val (.int p5), .val (.int p6), .val (.int (4 : Int32)), .val (.ref b1), .val (.int (3 : Int32)), .val (.int (1 : Int32))] [])) τ
        refine XS.iload X170.here hx rfl (hb hby at_246) rfl ?_
        show Steps p.tables e below (T170.setTop (mkF m 248 #[.val (.int p1), .val (.int p2), .val (.int p3), .val (.int p4), .val (.int p5), .val (.int p6), .val (.int (4 : Int32)), .val (.ref b1), .val (.int (3 : Int32)), .val (.int (1 : Int32))] [(.int (1 : Int32))])) τ
        exact κ)
      have hkT := Nat.le_trans hk (Nat.le_of_eq (congrArg Array.size (Eq.symm hs170)))
      obtain ⟨fsα, hr, hrun, hended, hRE⟩ := X170.leaveW hS hkT (v := some (.int (1 : Int32))) (fun h => by rw [Bd.returns] at h; cases h)
      refine hGL ⟨_, _, hG _ (pre _ ?_), hrun, hended, _, _, rfl, ?_, ?_, ⟨_, rfl⟩, hRE.2.1, hRE.2.2.1, hRE.2.2.2.mono (by decide) (by decide)⟩
      · exact retN X170 hx (t := .boolean) Bd.returns (by simp) (hb hby at_248) hr
      · show Q0 Z p1 p2 p3 p4 p5 p6 cw h0 n0 _ T170.heap _
        rw [hs170]
        exact ⟨rfl, NN⟩
      · show CHr Z own_EL s.vm s.heap T170.vm T170.heap
        rw [hh, hs170]
        exact HR.trans (CHv.at X170 hZ hEL H)
    ·
      have pre : ∀ τ, Steps p.tables e below (T155.setTop (mkF m 165 #[.val (.int p1), .val (.int p2), .val (.int p3), .val (.int p4), .val (.int p5), .val (.int p6), .val (.int (5 : Int32)), .val (.ref b1), .val (.int (3 : Int32)), .val (.int (1 : Int32))] [])) τ → G τ := (show nn = (5 : Int32) from hk_nn) ▸ pre
      have pre : ∀ τ, Steps p.tables e below (T155.setTop (mkF m 168 #[.val (.int p1), .val (.int p2), .val (.int p3), .val (.int p4), .val (.int p5), .val (.int p6), .val (.int (5 : Int32)), .val (.ref b1), .val (.int (3 : Int32)), .val (.int (1 : Int32))] [(.int (2 : Int32)), (.int (5 : Int32))])) τ → G τ := fun τ κ => pre τ (by
        refine XS.iload X155.here hx rfl (hb hby at_165) rfl ?_
        show Steps p.tables e below (T155.setTop (mkF m 167 #[.val (.int p1), .val (.int p2), .val (.int p3), .val (.int p4), .val (.int p5), .val (.int p6), .val (.int (5 : Int32)), .val (.ref b1), .val (.int (3 : Int32)), .val (.int (1 : Int32))] [(.int (5 : Int32))])) τ
        refine XS.iconst X155.here hx rfl (hb hby at_167) ?_
        show Steps p.tables e below (T155.setTop (mkF m 168 #[.val (.int p1), .val (.int p2), .val (.int p3), .val (.int p4), .val (.int p5), .val (.int p6), .val (.int (5 : Int32)), .val (.ref b1), .val (.int (3 : Int32)), .val (.int (1 : Int32))] [(.int (2 : Int32)), (.int (5 : Int32))])) τ
        exact κ)
      have hc172 : (2 : Int32) < (5 : Int32) := (by decide)
      have pre : ∀ τ, Steps p.tables e below (T155.setTop (mkF m 173 #[.val (.int p1), .val (.int p2), .val (.int p3), .val (.int p4), .val (.int p5), .val (.int p6), .val (.int (5 : Int32)), .val (.ref b1), .val (.int (3 : Int32)), .val (.int (1 : Int32))] [(.int (1 : Int32))])) τ → G τ := fun τ κ => pre τ (by
        refine XS.icmpNo X155.here hx rfl (hb hby at_168) rfl (tlt hc172).2.2.2 ?_
        show Steps p.tables e below (T155.setTop (mkF m 171 #[.val (.int p1), .val (.int p2), .val (.int p3), .val (.int p4), .val (.int p5), .val (.int p6), .val (.int (5 : Int32)), .val (.ref b1), .val (.int (3 : Int32)), .val (.int (1 : Int32))] [])) τ
        refine XS.iload X155.here hx rfl (hb hby at_171) rfl ?_
        show Steps p.tables e below (T155.setTop (mkF m 173 #[.val (.int p1), .val (.int p2), .val (.int p3), .val (.int p4), .val (.int p5), .val (.int p6), .val (.int (5 : Int32)), .val (.ref b1), .val (.int (3 : Int32)), .val (.int (1 : Int32))] [(.int (1 : Int32))])) τ
        exact κ)
      have hc173 : ¬ ((1 : Int32) = (0 : Int32)) := (by decide)
      have pre : ∀ τ, Steps p.tables e below (T155.setTop (mkF m 179 #[.val (.int p1), .val (.int p2), .val (.int p3), .val (.int p4), .val (.int p5), .val (.int p6), .val (.int (5 : Int32)), .val (.ref b1), .val (.int (3 : Int32)), .val (.int (1 : Int32))] [(.int (2 : Int32)), (.ref b1)])) τ → G τ := fun τ κ => pre τ (by
        refine XS.ifNo X155.here hx rfl (hb hby at_173) rfl ((if0 _ _).trans (feq hc173).1) ?_
        show Steps p.tables e below (T155.setTop (mkF m 176 #[.val (.int p1), .val (.int p2), .val (.int p3), .val (.int p4), .val (.int p5), .val (.int p6), .val (.int (5 : Int32)), .val (.ref b1), .val (.int (3 : Int32)), .val (.int (1 : Int32))] [])) τ
        refine XS.aload X155.here hx rfl (hb hby at_176) rfl rfl ?_
        show Steps p.tables e below (T155.setTop (mkF m 178 #[.val (.int p1), .val (.int p2), .val (.int p3), .val (.int p4), .val (.int p5), .val (.int p6), .val (.int (5 : Int32)), .val (.ref b1), .val (.int (3 : Int32)), .val (.int (1 : Int32))] [(.ref b1)])) τ
        refine XS.iconst X155.here hx rfl (hb hby at_178) ?_
        show Steps p.tables e below (T155.setTop (mkF m 179 #[.val (.int p1), .val (.int p2), .val (.int p3), .val (.int p4), .val (.int p5), .val (.int p6), .val (.int (5 : Int32)), .val (.ref b1), .val (.int (3 : Int32)), .val (.int (1 : Int32))] [(.int (2 : Int32)), (.ref b1)])) τ
        exact κ)
      obtain ⟨cq174, kq174, q174a, q174b, q174c⟩ := isOf hZ hs155 E_b1
      obtain ⟨_, _, ⟨T174, Lx174, kx174, nx174⟩, -, X174, ⟨Lc174, hQ174, l174, y174, z174⟩, st174⟩ := X155.virtualBack hx (y := (⟨"coppice/marshal/context/NamespaceScope", "prefix", "(I)Ljava/lang/String;"⟩ : MethodName)) (z := (⟨"coppice/marshal/context/NamespaceScope", "prefix", "(I)Ljava/lang/String;"⟩ : MethodName)) hown (mvT hZ (hw _ (List.mem_of_getElem? (i := 89) rfl))) (mvT hZ (hw _ (List.mem_of_getElem? (i := 90) rfl))) (notFace_of_selects (args := #[]) (mvT hZ (hw _ (List.mem_of_getElem? (i := 92) rfl)))) (mvT hZ (hw _ (List.mem_of_getElem? (i := 92) rfl))) (mvT hZ (hw _ (List.mem_of_getElem? (i := 91) rfl))) (by decide) (backOf (W := 0) (rm16 l Z a0 hw [] b1 (2 : Int32) pf_2 kf_2 nn pfz_144 (own_r0 nn) h153 n0 Zn F_pf_144 V_pf_144 L_pf_144 ⟨by decide, by rw [hk_nn]; decide⟩) hZ (hw _ (List.mem_of_getElem? (i := 93) rfl)) (hw _ (List.mem_of_getElem? (i := 2) rfl)) (by decide) (by decide)) q174a q174c (g := (mkF m 179 #[.val (.int p1), .val (.int p2), .val (.int p3), .val (.int p4), .val (.int p5), .val (.int p6), .val (.int (5 : Int32)), .val (.ref b1), .val (.int (3 : Int32)), .val (.int (1 : Int32))] [(.int (2 : Int32)), (.ref b1)])) rfl (by rw [hml]; rfl) (Steps.refl _) (argsL := [(.int (2 : Int32))]) (rest := []) (lenOf pd_11 rfl) rfl (by show 2 * 0 + _ ≤ _; exact Nat.le_of_eq rfl) (hb hby at_179) (fun _ _ => ⟨rfl, hs155, (by decide : 22 + 0 ≤ _), (by decide : 149 + 0 ≤ _)⟩)
      dsimp only [Pt.U, Pt.locs, Pt.cells, Pt.slots] at X174 l174 y174 z174 st174 hQ174
      replace y174 : kx174 = 22 := y174
      replace z174 : nx174 = 149 := z174
      subst y174 z174
      obtain ⟨rfl, Nq174, hs174, F_r_174⟩ := hQ174
      have NN : Fr n0 Lx174 := by rw [l174]; exact Fr.app NN Nq174
      have F_r_174 : own_S Z h153 (pfz_144.getD ((2 : Int32)).toNatClampNeg .null) ((own_r0 nn).getD ((2 : Int32)).toNatClampNeg none) := hs174 ▸ F_r_174
      have pre : ∀ τ, Steps p.tables e below (T174.setTop (mkF m 182 #[.val (.int p1), .val (.int p2), .val (.int p3), .val (.int p4), .val (.int p5), .val (.int p6), .val (.int (5 : Int32)), .val (.ref b1), .val (.int (3 : Int32)), .val (.int (1 : Int32))] [(pfz_144.getD ((2 : Int32)).toNatClampNeg .null)])) τ → G τ := fun τ κ => pre τ (st174.trans κ)
      have hnul2 := own_S_none F_r_174 (own_r0n (by decide))
      have pre : ∀ τ, Steps p.tables e below (T174.setTop (mkF m 182 #[.val (.int p1), .val (.int p2), .val (.int p3), .val (.int p4), .val (.int p5), .val (.int p6), .val (.int (5 : Int32)), .val (.ref b1), .val (.int (3 : Int32)), .val (.int (1 : Int32))] [.null])) τ → G τ := by rw [hnul2] at pre; exact pre
      have pre : ∀ τ, Steps p.tables e below (T174.setTop (mkF m 195 #[.val (.int p1), .val (.int p2), .val (.int p3), .val (.int p4), .val (.int p5), .val (.int p6), .val (.int (5 : Int32)), .val (.ref b1), .val (.int (3 : Int32)), .val (.int (1 : Int32))] [(.int (3 : Int32)), (.int (5 : Int32))])) τ → G τ := fun τ κ => pre τ (by
        refine XS.ifnonnullNo X174.here hx rfl (hb hby at_182) rfl ?_
        show Steps p.tables e below (T174.setTop (mkF m 185 #[.val (.int p1), .val (.int p2), .val (.int p3), .val (.int p4), .val (.int p5), .val (.int p6), .val (.int (5 : Int32)), .val (.ref b1), .val (.int (3 : Int32)), .val (.int (1 : Int32))] [])) τ
        refine XS.iconst X174.here hx rfl (hb hby at_185) ?_
        show Steps p.tables e below (T174.setTop (mkF m 186 #[.val (.int p1), .val (.int p2), .val (.int p3), .val (.int p4), .val (.int p5), .val (.int p6), .val (.int (5 : Int32)), .val (.ref b1), .val (.int (3 : Int32)), .val (.int (1 : Int32))] [(.int (1 : Int32))])) τ
        refine XS.goto X174.here hx rfl (pc0 := 186) (pc' := 190) rfl (hb hby at_186) (by decide) (by decide) ?_
        show Steps p.tables e below (T174.setTop (mkF m 190 #[.val (.int p1), .val (.int p2), .val (.int p3), .val (.int p4), .val (.int p5), .val (.int p6), .val (.int (5 : Int32)), .val (.ref b1), .val (.int (3 : Int32)), .val (.int (1 : Int32))] [(.int (1 : Int32))])) τ
        refine XS.istore X174.here hx rfl (hb hby at_190) rfl (l' := #[.val (.int p1), .val (.int p2), .val (.int p3), .val (.int p4), .val (.int p5), .val (.int p6), .val (.int (5 : Int32)), .val (.ref b1), .val (.int (3 : Int32)), .val (.int (1 : Int32))]) rfl ?_
        show Steps p.tables e below (T174.setTop (mkF m 192 #[.val (.int p1), .val (.int p2), .val (.int p3), .val (.int p4), .val (.int p5), .val (.int p6), .val (.int (5 : Int32)), .val (.ref b1), .val (.int (3 : Int32)), .val (.int (1 : Int32))] [])) τ
        refine XS.iload X174.here hx rfl (hb hby at_192) rfl ?_
        show Steps p.tables e below (T174.setTop (mkF m 194 #[.val (.int p1), .val (.int p2), .val (.int p3), .val (.int p4), .val (.int p5), .val (.int p6), .val (.int (5 : Int32)), .val (.ref b1), .val (.int (3 : Int32)), .val (.int (1 : Int32))] [(.int (5 : Int32))])) τ
        refine XS.iconst X174.here hx rfl (hb hby at_194) ?_
        show Steps p.tables e below (T174.setTop (mkF m 195 #[.val (.int p1), .val (.int p2), .val (.int p3), .val (.int p4), .val (.int p5), .val (.int p6), .val (.int (5 : Int32)), .val (.ref b1), .val (.int (3 : Int32)), .val (.int (1 : Int32))] [(.int (3 : Int32)), (.int (5 : Int32))])) τ
        exact κ)
      have hc175 : (3 : Int32) < (5 : Int32) := (by decide)
      have pre : ∀ τ, Steps p.tables e below (T174.setTop (mkF m 200 #[.val (.int p1), .val (.int p2), .val (.int p3), .val (.int p4), .val (.int p5), .val (.int p6), .val (.int (5 : Int32)), .val (.ref b1), .val (.int (3 : Int32)), .val (.int (1 : Int32))] [(.int (1 : Int32))])) τ → G τ := fun τ κ => pre τ (by
        refine XS.icmpNo X174.here hx rfl (hb hby at_195) rfl (tlt hc175).2.2.2 ?_
        show Steps p.tables e below (T174.setTop (mkF m 198 #[.val (.int p1), .val (.int p2), .val (.int p3), .val (.int p4), .val (.int p5), .val (.int p6), .val (.int (5 : Int32)), .val (.ref b1), .val (.int (3 : Int32)), .val (.int (1 : Int32))] [])) τ
        refine XS.iload X174.here hx rfl (hb hby at_198) rfl ?_
        show Steps p.tables e below (T174.setTop (mkF m 200 #[.val (.int p1), .val (.int p2), .val (.int p3), .val (.int p4), .val (.int p5), .val (.int p6), .val (.int (5 : Int32)), .val (.ref b1), .val (.int (3 : Int32)), .val (.int (1 : Int32))] [(.int (1 : Int32))])) τ
        exact κ)
      have hc176 : ¬ ((1 : Int32) = (0 : Int32)) := (by decide)
      have pre : ∀ τ, Steps p.tables e below (T174.setTop (mkF m 206 #[.val (.int p1), .val (.int p2), .val (.int p3), .val (.int p4), .val (.int p5), .val (.int p6), .val (.int (5 : Int32)), .val (.ref b1), .val (.int (3 : Int32)), .val (.int (1 : Int32))] [(.int (3 : Int32)), (.ref b1)])) τ → G τ := fun τ κ => pre τ (by
        refine XS.ifNo X174.here hx rfl (hb hby at_200) rfl ((if0 _ _).trans (feq hc176).1) ?_
        show Steps p.tables e below (T174.setTop (mkF m 203 #[.val (.int p1), .val (.int p2), .val (.int p3), .val (.int p4), .val (.int p5), .val (.int p6), .val (.int (5 : Int32)), .val (.ref b1), .val (.int (3 : Int32)), .val (.int (1 : Int32))] [])) τ
        refine XS.aload X174.here hx rfl (hb hby at_203) rfl rfl ?_
        show Steps p.tables e below (T174.setTop (mkF m 205 #[.val (.int p1), .val (.int p2), .val (.int p3), .val (.int p4), .val (.int p5), .val (.int p6), .val (.int (5 : Int32)), .val (.ref b1), .val (.int (3 : Int32)), .val (.int (1 : Int32))] [(.ref b1)])) τ
        refine XS.iconst X174.here hx rfl (hb hby at_205) ?_
        show Steps p.tables e below (T174.setTop (mkF m 206 #[.val (.int p1), .val (.int p2), .val (.int p3), .val (.int p4), .val (.int p5), .val (.int p6), .val (.int (5 : Int32)), .val (.ref b1), .val (.int (3 : Int32)), .val (.int (1 : Int32))] [(.int (3 : Int32)), (.ref b1)])) τ
        exact κ)
      obtain ⟨cq177, kq177, q177a, q177b, q177c⟩ := isOf hZ hs174 E_b1
      obtain ⟨_, _, ⟨T177, Lx177, kx177, nx177⟩, -, X177, ⟨Lc177, hQ177, l177, y177, z177⟩, st177⟩ := X174.virtualBack hx (y := (⟨"coppice/marshal/context/NamespaceScope", "prefix", "(I)Ljava/lang/String;"⟩ : MethodName)) (z := (⟨"coppice/marshal/context/NamespaceScope", "prefix", "(I)Ljava/lang/String;"⟩ : MethodName)) hown (mvT hZ (hw _ (List.mem_of_getElem? (i := 89) rfl))) (mvT hZ (hw _ (List.mem_of_getElem? (i := 90) rfl))) (notFace_of_selects (args := #[]) (mvT hZ (hw _ (List.mem_of_getElem? (i := 92) rfl)))) (mvT hZ (hw _ (List.mem_of_getElem? (i := 92) rfl))) (mvT hZ (hw _ (List.mem_of_getElem? (i := 91) rfl))) (by decide) (backOf (W := 0) (rm16 l Z a0 hw [] b1 (3 : Int32) pf_2 kf_2 nn pfz_144 (own_r0 nn) h153 n0 Zn F_pf_144 V_pf_144 L_pf_144 ⟨by decide, by rw [hk_nn]; decide⟩) hZ (hw _ (List.mem_of_getElem? (i := 93) rfl)) (hw _ (List.mem_of_getElem? (i := 2) rfl)) (by decide) (by decide)) q177a q177c (g := (mkF m 206 #[.val (.int p1), .val (.int p2), .val (.int p3), .val (.int p4), .val (.int p5), .val (.int p6), .val (.int (5 : Int32)), .val (.ref b1), .val (.int (3 : Int32)), .val (.int (1 : Int32))] [(.int (3 : Int32)), (.ref b1)])) rfl (by rw [hml]; rfl) (Steps.refl _) (argsL := [(.int (3 : Int32))]) (rest := []) (lenOf pd_11 rfl) rfl (by show 2 * 0 + _ ≤ _; exact Nat.le_of_eq rfl) (hb hby at_206) (fun _ _ => ⟨rfl, hs174, (by decide : 22 + 0 ≤ _), (by decide : 149 + 0 ≤ _)⟩)
      dsimp only [Pt.U, Pt.locs, Pt.cells, Pt.slots] at X177 l177 y177 z177 st177 hQ177
      replace y177 : kx177 = 22 := y177
      replace z177 : nx177 = 149 := z177
      subst y177 z177
      obtain ⟨rfl, Nq177, hs177, F_r_177⟩ := hQ177
      have NN : Fr n0 Lx177 := by rw [l177]; exact Fr.app NN Nq177
      have F_r_177 : own_S Z h153 (pfz_144.getD ((3 : Int32)).toNatClampNeg .null) ((own_r0 nn).getD ((3 : Int32)).toNatClampNeg none) := hs177 ▸ F_r_177
      have pre : ∀ τ, Steps p.tables e below (T177.setTop (mkF m 209 #[.val (.int p1), .val (.int p2), .val (.int p3), .val (.int p4), .val (.int p5), .val (.int p6), .val (.int (5 : Int32)), .val (.ref b1), .val (.int (3 : Int32)), .val (.int (1 : Int32))] [(pfz_144.getD ((3 : Int32)).toNatClampNeg .null)])) τ → G τ := fun τ κ => pre τ (st177.trans κ)
      have hnul3 := own_S_none F_r_177 (own_r0n (by decide))
      have pre : ∀ τ, Steps p.tables e below (T177.setTop (mkF m 209 #[.val (.int p1), .val (.int p2), .val (.int p3), .val (.int p4), .val (.int p5), .val (.int p6), .val (.int (5 : Int32)), .val (.ref b1), .val (.int (3 : Int32)), .val (.int (1 : Int32))] [.null])) τ → G τ := by rw [hnul3] at pre; exact pre
      have pre : ∀ τ, Steps p.tables e below (T177.setTop (mkF m 222 #[.val (.int p1), .val (.int p2), .val (.int p3), .val (.int p4), .val (.int p5), .val (.int p6), .val (.int (5 : Int32)), .val (.ref b1), .val (.int (3 : Int32)), .val (.int (1 : Int32))] [(.int (4 : Int32)), (.int (5 : Int32))])) τ → G τ := fun τ κ => pre τ (by
        refine XS.ifnonnullNo X177.here hx rfl (hb hby at_209) rfl ?_
        show Steps p.tables e below (T177.setTop (mkF m 212 #[.val (.int p1), .val (.int p2), .val (.int p3), .val (.int p4), .val (.int p5), .val (.int p6), .val (.int (5 : Int32)), .val (.ref b1), .val (.int (3 : Int32)), .val (.int (1 : Int32))] [])) τ
        refine XS.iconst X177.here hx rfl (hb hby at_212) ?_
        show Steps p.tables e below (T177.setTop (mkF m 213 #[.val (.int p1), .val (.int p2), .val (.int p3), .val (.int p4), .val (.int p5), .val (.int p6), .val (.int (5 : Int32)), .val (.ref b1), .val (.int (3 : Int32)), .val (.int (1 : Int32))] [(.int (1 : Int32))])) τ
        refine XS.goto X177.here hx rfl (pc0 := 213) (pc' := 217) rfl (hb hby at_213) (by decide) (by decide) ?_
        show Steps p.tables e below (T177.setTop (mkF m 217 #[.val (.int p1), .val (.int p2), .val (.int p3), .val (.int p4), .val (.int p5), .val (.int p6), .val (.int (5 : Int32)), .val (.ref b1), .val (.int (3 : Int32)), .val (.int (1 : Int32))] [(.int (1 : Int32))])) τ
        refine XS.istore X177.here hx rfl (hb hby at_217) rfl (l' := #[.val (.int p1), .val (.int p2), .val (.int p3), .val (.int p4), .val (.int p5), .val (.int p6), .val (.int (5 : Int32)), .val (.ref b1), .val (.int (3 : Int32)), .val (.int (1 : Int32))]) rfl ?_
        show Steps p.tables e below (T177.setTop (mkF m 219 #[.val (.int p1), .val (.int p2), .val (.int p3), .val (.int p4), .val (.int p5), .val (.int p6), .val (.int (5 : Int32)), .val (.ref b1), .val (.int (3 : Int32)), .val (.int (1 : Int32))] [])) τ
        refine XS.iload X177.here hx rfl (hb hby at_219) rfl ?_
        show Steps p.tables e below (T177.setTop (mkF m 221 #[.val (.int p1), .val (.int p2), .val (.int p3), .val (.int p4), .val (.int p5), .val (.int p6), .val (.int (5 : Int32)), .val (.ref b1), .val (.int (3 : Int32)), .val (.int (1 : Int32))] [(.int (5 : Int32))])) τ
        refine XS.iconst X177.here hx rfl (hb hby at_221) ?_
        show Steps p.tables e below (T177.setTop (mkF m 222 #[.val (.int p1), .val (.int p2), .val (.int p3), .val (.int p4), .val (.int p5), .val (.int p6), .val (.int (5 : Int32)), .val (.ref b1), .val (.int (3 : Int32)), .val (.int (1 : Int32))] [(.int (4 : Int32)), (.int (5 : Int32))])) τ
        exact κ)
      have hc178 : (4 : Int32) < (5 : Int32) := (by decide)
      have pre : ∀ τ, Steps p.tables e below (T177.setTop (mkF m 227 #[.val (.int p1), .val (.int p2), .val (.int p3), .val (.int p4), .val (.int p5), .val (.int p6), .val (.int (5 : Int32)), .val (.ref b1), .val (.int (3 : Int32)), .val (.int (1 : Int32))] [(.int (1 : Int32))])) τ → G τ := fun τ κ => pre τ (by
        refine XS.icmpNo X177.here hx rfl (hb hby at_222) rfl (tlt hc178).2.2.2 ?_
        show Steps p.tables e below (T177.setTop (mkF m 225 #[.val (.int p1), .val (.int p2), .val (.int p3), .val (.int p4), .val (.int p5), .val (.int p6), .val (.int (5 : Int32)), .val (.ref b1), .val (.int (3 : Int32)), .val (.int (1 : Int32))] [])) τ
        refine XS.iload X177.here hx rfl (hb hby at_225) rfl ?_
        show Steps p.tables e below (T177.setTop (mkF m 227 #[.val (.int p1), .val (.int p2), .val (.int p3), .val (.int p4), .val (.int p5), .val (.int p6), .val (.int (5 : Int32)), .val (.ref b1), .val (.int (3 : Int32)), .val (.int (1 : Int32))] [(.int (1 : Int32))])) τ
        exact κ)
      have hc179 : ¬ ((1 : Int32) = (0 : Int32)) := (by decide)
      have pre : ∀ τ, Steps p.tables e below (T177.setTop (mkF m 233 #[.val (.int p1), .val (.int p2), .val (.int p3), .val (.int p4), .val (.int p5), .val (.int p6), .val (.int (5 : Int32)), .val (.ref b1), .val (.int (3 : Int32)), .val (.int (1 : Int32))] [(.int (4 : Int32)), (.ref b1)])) τ → G τ := fun τ κ => pre τ (by
        refine XS.ifNo X177.here hx rfl (hb hby at_227) rfl ((if0 _ _).trans (feq hc179).1) ?_
        show Steps p.tables e below (T177.setTop (mkF m 230 #[.val (.int p1), .val (.int p2), .val (.int p3), .val (.int p4), .val (.int p5), .val (.int p6), .val (.int (5 : Int32)), .val (.ref b1), .val (.int (3 : Int32)), .val (.int (1 : Int32))] [])) τ
        refine XS.aload X177.here hx rfl (hb hby at_230) rfl rfl ?_
        show Steps p.tables e below (T177.setTop (mkF m 232 #[.val (.int p1), .val (.int p2), .val (.int p3), .val (.int p4), .val (.int p5), .val (.int p6), .val (.int (5 : Int32)), .val (.ref b1), .val (.int (3 : Int32)), .val (.int (1 : Int32))] [(.ref b1)])) τ
        refine XS.iconst X177.here hx rfl (hb hby at_232) ?_
        show Steps p.tables e below (T177.setTop (mkF m 233 #[.val (.int p1), .val (.int p2), .val (.int p3), .val (.int p4), .val (.int p5), .val (.int p6), .val (.int (5 : Int32)), .val (.ref b1), .val (.int (3 : Int32)), .val (.int (1 : Int32))] [(.int (4 : Int32)), (.ref b1)])) τ
        exact κ)
      obtain ⟨cq180, kq180, q180a, q180b, q180c⟩ := isOf hZ hs177 E_b1
      obtain ⟨_, _, ⟨T180, Lx180, kx180, nx180⟩, -, X180, ⟨Lc180, hQ180, l180, y180, z180⟩, st180⟩ := X177.virtualBack hx (y := (⟨"coppice/marshal/context/NamespaceScope", "prefix", "(I)Ljava/lang/String;"⟩ : MethodName)) (z := (⟨"coppice/marshal/context/NamespaceScope", "prefix", "(I)Ljava/lang/String;"⟩ : MethodName)) hown (mvT hZ (hw _ (List.mem_of_getElem? (i := 89) rfl))) (mvT hZ (hw _ (List.mem_of_getElem? (i := 90) rfl))) (notFace_of_selects (args := #[]) (mvT hZ (hw _ (List.mem_of_getElem? (i := 92) rfl)))) (mvT hZ (hw _ (List.mem_of_getElem? (i := 92) rfl))) (mvT hZ (hw _ (List.mem_of_getElem? (i := 91) rfl))) (by decide) (backOf (W := 0) (rm16 l Z a0 hw [] b1 (4 : Int32) pf_2 kf_2 nn pfz_144 (own_r0 nn) h153 n0 Zn F_pf_144 V_pf_144 L_pf_144 ⟨by decide, by rw [hk_nn]; decide⟩) hZ (hw _ (List.mem_of_getElem? (i := 93) rfl)) (hw _ (List.mem_of_getElem? (i := 2) rfl)) (by decide) (by decide)) q180a q180c (g := (mkF m 233 #[.val (.int p1), .val (.int p2), .val (.int p3), .val (.int p4), .val (.int p5), .val (.int p6), .val (.int (5 : Int32)), .val (.ref b1), .val (.int (3 : Int32)), .val (.int (1 : Int32))] [(.int (4 : Int32)), (.ref b1)])) rfl (by rw [hml]; rfl) (Steps.refl _) (argsL := [(.int (4 : Int32))]) (rest := []) (lenOf pd_11 rfl) rfl (by show 2 * 0 + _ ≤ _; exact Nat.le_of_eq rfl) (hb hby at_233) (fun _ _ => ⟨rfl, hs177, (by decide : 22 + 0 ≤ _), (by decide : 149 + 0 ≤ _)⟩)
      dsimp only [Pt.U, Pt.locs, Pt.cells, Pt.slots] at X180 l180 y180 z180 st180 hQ180
      replace y180 : kx180 = 22 := y180
      replace z180 : nx180 = 149 := z180
      subst y180 z180
      obtain ⟨rfl, Nq180, hs180, F_r_180⟩ := hQ180
      have NN : Fr n0 Lx180 := by rw [l180]; exact Fr.app NN Nq180
      have F_r_180 : own_S Z h153 (pfz_144.getD ((4 : Int32)).toNatClampNeg .null) ((own_r0 nn).getD ((4 : Int32)).toNatClampNeg none) := hs180 ▸ F_r_180
      have pre : ∀ τ, Steps p.tables e below (T180.setTop (mkF m 236 #[.val (.int p1), .val (.int p2), .val (.int p3), .val (.int p4), .val (.int p5), .val (.int p6), .val (.int (5 : Int32)), .val (.ref b1), .val (.int (3 : Int32)), .val (.int (1 : Int32))] [(pfz_144.getD ((4 : Int32)).toNatClampNeg .null)])) τ → G τ := fun τ κ => pre τ (st180.trans κ)
      have hnul4 := own_S_none F_r_180 (own_r0n (by decide))
      have pre : ∀ τ, Steps p.tables e below (T180.setTop (mkF m 236 #[.val (.int p1), .val (.int p2), .val (.int p3), .val (.int p4), .val (.int p5), .val (.int p6), .val (.int (5 : Int32)), .val (.ref b1), .val (.int (3 : Int32)), .val (.int (1 : Int32))] [.null])) τ → G τ := by rw [hnul4] at pre; exact pre
      have pre : ∀ τ, Steps p.tables e below (T180.setTop (mkF m 248 #[.val (.int p1), .val (.int p2), .val (.int p3), .val (.int p4), .val (.int p5), .val (.int p6), .val (.int (5 : Int32)), .val (.ref b1), .val (.int (3 : Int32)), .val (.int (1 : Int32))] [(.int (1 : Int32))])) τ → G τ := fun τ κ => pre τ (by
        refine XS.ifnonnullNo X180.here hx rfl (hb hby at_236) rfl ?_
        show Steps p.tables e below (T180.setTop (mkF m 239 #[.val (.int p1), .val (.int p2), .val (.int p3), .val (.int p4), .val (.int p5), .val (.int p6), .val (.int (5 : Int32)), .val (.ref b1), .val (.int (3 : Int32)), .val (.int (1 : Int32))] [])) τ
        refine XS.iconst X180.here hx rfl (hb hby at_239) ?_
        show Steps p.tables e below (T180.setTop (mkF m 240 #[.val (.int p1), .val (.int p2), .val (.int p3), .val (.int p4), .val (.int p5), .val (.int p6), .val (.int (5 : Int32)), .val (.ref b1), .val (.int (3 : Int32)), .val (.int (1 : Int32))] [(.int (1 : Int32))])) τ
        refine XS.goto X180.here hx rfl (pc0 := 240) (pc' := 244) rfl (hb hby at_240) (by decide) (by decide) ?_
        show Steps p.tables e below (T180.setTop (mkF m 244 #[.val (.int p1), .val (.int p2), .val (.int p3), .val (.int p4), .val (.int p5), .val (.int p6), .val (.int (5 : Int32)), .val (.ref b1), .val (.int (3 : Int32)), .val (.int (1 : Int32))] [(.int (1 : Int32))])) τ
        refine XS.istore X180.here hx rfl (hb hby at_244) rfl (l' := #[.val (.int p1), .val (.int p2), .val (.int p3), .val (.int p4), .val (.int p5), .val (.int p6), .val (.int (5 : Int32)), .val (.ref b1), .val (.int (3 : Int32)), .val (.int (1 : Int32))]) rfl ?_
        show Steps p.tables e below (T180.setTop (mkF m 246 #[.val (.int p1), .val (.int p2), .val (.int p3), .val (.int p4), .val (.int p5), .val (.int p6), .val (.int (5 : Int32)), .val (.ref b1), .val (.int (3 : Int32)), .val (.int (1 : Int32))] [])) τ
        refine XS.iload X180.here hx rfl (hb hby at_246) rfl ?_
        show Steps p.tables e below (T180.setTop (mkF m 248 #[.val (.int p1), .val (.int p2), .val (.int p3), .val (.int p4), .val (.int p5), .val (.int p6), .val (.int (5 : Int32)), .val (.ref b1), .val (.int (3 : Int32)), .val (.int (1 : Int32))] [(.int (1 : Int32))])) τ
        exact κ)
      have hkT := Nat.le_trans hk (Nat.le_of_eq (congrArg Array.size (Eq.symm hs180)))
      obtain ⟨fsα, hr, hrun, hended, hRE⟩ := X180.leaveW hS hkT (v := some (.int (1 : Int32))) (fun h => by rw [Bd.returns] at h; cases h)
      refine hGL ⟨_, _, hG _ (pre _ ?_), hrun, hended, _, _, rfl, ?_, ?_, ⟨_, rfl⟩, hRE.2.1, hRE.2.2.1, hRE.2.2.2.mono (by decide) (by decide)⟩
      · exact retN X180 hx (t := .boolean) Bd.returns (by simp) (hb hby at_248) hr
      · show Q0 Z p1 p2 p3 p4 p5 p6 cw h0 n0 _ T180.heap _
        rw [hs180]
        exact ⟨rfl, NN⟩
      · show CHr Z own_EL s.vm s.heap T180.vm T180.heap
        rw [hh, hs180]
        exact HR.trans (CHv.at X180 hZ hEL H)
set_option maxRecDepth 65536 in
set_option maxHeartbeats 40000000 in
theorem comes_1 {Post : Tables → Env → Array Value → State → Outcome → State → Prop} (hpost : ∀ tb e args s v u, (limb_1_1.after args s (.returned v) u = true ∧ limb_1_2.after args s (.returned v) u = true ∧ True) → FramedW s (.returned v) u (Jvm.fieldLocs frame_1_writes args s ++ Jvm.arrayLocs frame_1_arrays args s ++ Jvm.staticLocs frame_1_statics s) 32 4288 → Post tb e args s (.returned v) u) :
    ArmFor flags0 classFile x code maxLocals ret World_1 tables_1 room_1 Calls_1 rest_1 Pre_1 Post := by
  intro l hfl _ _ p e ha hc hk s m args below hf hA hF happ hP
  obtain ⟨hcalls, hrest, hpre⟩ := hP
  obtain ⟨-, -, -, hnamed, -, -, -, hat⟩ := (Spec.applies_iff hf).mp happ
  obtain ⟨hg, hn⟩ := and_e (Cond.before_iff.mp (show (Jvm.Cond.and given_1 narrow_1).before args s = true from hpre))
  obtain ⟨gv1, gv2⟩ := and_e hg
  obtain ⟨gv3, gv4⟩ := and_e gv2
  obtain ⟨gv5, gv6⟩ := and_e gv4
  obtain ⟨gv7, gv8⟩ := and_e gv6
  obtain ⟨gv9, gv10⟩ := and_e gv8
  obtain ⟨gv11, gv12⟩ := and_e gv10
  obtain ⟨w0, w1, w2, w3, w4, w5, rfl⟩ : ∃ w0 w1 w2 w3 w4 w5 : Value, args = #[w0, w1, w2, w3, w4, w5] := by
    have hs : args.size = 6 := by simpa [Cond.value, given_1] using gv1
    obtain ⟨L⟩ := args
    match L, hs with
    | [w0, w1, w2, w3, w4, w5], _ => exact ⟨w0, w1, w2, w3, w4, w5, rfl⟩
  have hw := fun d (hd : d ∈ tables_1) => atoms_spec (ws := Jvm.Cond.code x code maxLocals ret :: tables_1) hat d (List.mem_cons_of_mem _ hd)
  have hfit : Fit s := fun {y c} hc i hi => by
    obtain ⟨ha, rfl⟩ := Array.getElem?_eq_some_iff.mp hc
    have q := List.all_eq_true.mp ((Array.all_eq_true_iff_forall_mem.mp hF) _ (Array.getElem_mem ha)) i (List.mem_range.mpr hi)
    simpa [Array.getElem?_eq_getElem hi] using q
  obtain ⟨hsets, hown0⟩ := atoms_of _ (rest_1_c_eq ▸ (show rest_1_c.before _ s = true from hrest))
  have hr0 := Cond.before_iff.mp hown0
  obtain ⟨i0, ei0⟩ := is_v gv3
  obtain rfl : w0 = (.int i0) := Option.some.inj ei0
  obtain ⟨i1, ei1⟩ := is_v gv5
  obtain rfl : w1 = (.int i1) := Option.some.inj ei1
  obtain ⟨i2, ei2⟩ := is_v gv7
  obtain rfl : w2 = (.int i2) := Option.some.inj ei2
  obtain ⟨i3, ei3⟩ := is_v gv9
  obtain rfl : w3 = (.int i3) := Option.some.inj ei3
  obtain ⟨i4, ei4⟩ := is_v gv11
  obtain rfl : w4 = (.int i4) := Option.some.inj ei4
  obtain ⟨i5, ei5⟩ := is_v gv12
  obtain rfl : w5 = (.int i5) := Option.some.inj ei5
  have hEL : EW s _ own_EL := (EW.cons (hw _ (List.mem_of_getElem? (i := 27) rfl)) (by decide) (EW.cons (hw _ (List.mem_of_getElem? (i := 36) rfl)) (by decide) (EW.cons (hw _ (List.mem_of_getElem? (i := 82) rfl)) (by decide) (EW.cons (hw _ (List.mem_of_getElem? (i := 95) rfl)) (by decide) EW.nil))))
  have wS : ∀ a ∈ Bundle.stringAtoms, a.before #[.int i0, .int i1, .int i2, .int i3, .int i4, .int i5] s = true := by
    intro a ha
    simp only [Bundle.stringAtoms, List.mem_cons, List.not_mem_nil, or_false] at ha
    rcases ha with rfl | rfl | rfl | rfl | rfl | rfl | rfl
    · exact (hw _ (List.mem_of_getElem? (i := 28) rfl))
    · exact (hw _ (List.mem_of_getElem? (i := 29) rfl))
    · exact (hw _ (List.mem_of_getElem? (i := 30) rfl))
    · exact (hw _ (List.mem_of_getElem? (i := 31) rfl))
    · exact (hw _ (List.mem_of_getElem? (i := 32) rfl))
    · exact (hw _ (List.mem_of_getElem? (i := 33) rfl))
    · exact (hw _ (List.mem_of_getElem? (i := 34) rfl))
  have hheld : ∀ p ∈ own_EL, Jvm.Lit.constHeld s p.1 p.2 := hcalls.1
  obtain ⟨cw, ecw⟩ := is_v (Cond.before_iff.mp (hsets _ (List.mem_of_getElem? (i := 1) rfl)))
  have S_c := Sta.start ecw (Or.inl (hsets _ (List.mem_of_getElem? (i := 0) rfl)))
  have hcw : ¬ cw = (0 : Int32) := gotF (Cond.eq_ints ecw (Term.int_eval (0))) (not_v (Cond.before_iff.mp (hsets _ (List.mem_of_getElem? (i := 2) rfl))))
  obtain ⟨n, o, h1, h2, h3, _, L, rfl, ⟨rfl, N⟩, hCHr, hq⟩ := rm0 l s _ hw hEL wS tables_1 i0 i1 i2 i3 i4 i5 cw s.heap s.heap.size (Nat.le_refl _) S_c hcw p e ha hc hk s m _ below hf ((Spec.applies_iff_loose hf).mp happ).1 ⟨rfl, State.Warmed39.refl s, rfl, CHv.start hEL hheld (hsets _ (List.mem_of_getElem? (i := 2) rfl)) (hw _ (List.mem_of_getElem? (i := 30) rfl)) (hw _ (List.mem_of_getElem? (i := 29) rfl))⟩ trivial
  refine ⟨n, _, h1, h2, h3, hpost _ _ _ _ _ _ ⟨Cond.after_iff.mpr rfl, Cond.after_iff.mpr (eq_i res_at (Term.int_eval (1)) rfl), trivial⟩ ⟨hq.1, hq.2.1, hq.2.2.1, (hq.2.2.2.sift fun y hy => Or.inr (N y hy)).mono (by decide) (by decide)⟩⟩
theorem main_1_1 : Claimed_1_1 := comes_1 fun _ _ _ _ _ _ h hF => ⟨h.1, hF⟩
theorem main_1_2 : Claimed_1_2 := comes_1 fun _ _ _ _ _ _ h hF => ⟨h.2.1, hF⟩
end Jvm.Pilot.@@N@@
namespace Jvm.Pilot.@@N@@
open Jvm Jvm.ClassFile Sem Op Lib Jvm.Free Jvm.Stand Jvm.Pilot.@@N@@.Jvm.D
/-! MADE BY PROGRAM (witnessworld.py) out of the Statement's table words and the real class files: 19 classes; the members and pool entries that the words name. The judged class is class 1, her method 3. -/
namespace start1
open Jvm.ClassFile
def u (s : String) : CpInfo := .utf8 (stringToUtf16 s)
/-- a pool by its gaps: so many unusable entries, then the entry; so many at the end -/
def gap : Nat → List CpInfo → List CpInfo
  | 0, r => r
  | n + 1, r => .unusable :: gap n r
def poolList (es : List (Nat × CpInfo)) (last : Nat) : List CpInfo := es.foldr (fun e r => gap e.1 (e.2 :: r)) (gap last [])
def pool (es : List (Nat × CpInfo)) (last : Nat) : Array CpInfo := ⟨poolList es last⟩
def fileOf (pool : Array CpInfo) (this : Nat) (attrs : Array Attribute := #[]) (ms : Array MethodInfo := #[]) (fl : Nat := 33) (sup : Nat := 0) (ifs : Array Nat := #[]) (fds : Array FieldInfo := #[]) : ClassFile where
  minorVersion := 0
  majorVersion := 65
  constantPool := pool
  accessFlags := fl
  thisClass := this
  superClass := sup
  interfaces := ifs
  fields := fds
  methods := ms
  attributes := attrs
def plain (name : String) (sup : Option ClassId) : Class where
  name := name
  kind := .ordinary
  loader := none
  accessFlags := 33
  super := sup
  interfaces := #[]
  cf := none
  fields := #[]
  methods := #[]
  instanceTypes := #[]
  staticTypes := #[]
  resolved := #[]
  callSites := []
  init := .initialized
  statics := none
  mirror := none

def pool0 : Array CpInfo := pool [(5, u "<init>"), (0, u "()V"), (1, .class_ 10), (1, u "java/lang/Object")] 113

def k0c0 : Code := { maxStack := 0, maxLocals := 1, code := object_method_1_code, exceptionTable := #[], attributes := #[] }
def k0m0 : Method := { name := "<init>", desc := "()V", sig := { parameters := [], returnType := none }, accessFlags := 1, code := some k0c0 }
/-- java/lang/Object -/
def k0 : Class := { plain "java/lang/Object" none with
  accessFlags := 33
  interfaces := #[]
  cf := some (fileOf pool0 8 #[] #[{ accessFlags := 1, nameIndex := 5, descriptorIndex := 6, attributes := #[] }] 33 0 #[] #[])
  fields := #[]
  methods := #[k0m0]
  instanceTypes := #[]
  staticTypes := #[]
  resolved := Array.replicate 124 none
  statics := none }

def pool1 : Array CpInfo := pool [(2, .class_ 4), (1, u "java/lang/Object"), (0, u "<init>"), (0, u "()V"), (0, .integer 2147483647), (0, .string 9), (0, u ""), (0, .string 11), (0, u "xml"), (0, .methodref 13 14), (0, .class_ 15), (0, .nameAndType 16 17), (0, u "java/lang/String"), (0, u "valueOf"), (0, u "(C)Ljava/lang/String;"), (0, .class_ 19), (0, u "coppice/marshal/context/NamespaceScope"), (0, .methodref 18 21), (0, .nameAndType 5 22), (0, u "(I)V"), (0, .methodref 24 25), (0, .class_ 26), (0, .nameAndType 27 28), (0, u "coppice/marshal/context/NamespaceScopeResetPinLaw"), (0, u "idx"), (0, u "(II)I"), (0, .methodref 24 30), (0, .nameAndType 31 32), (0, u "pick"), (0, u "(I)Ljava/lang/String;"), (0, .methodref 18 34), (0, .nameAndType 35 36), (0, u "declare"), (0, u "(ILjava/lang/String;)V"), (0, .methodref 18 38), (0, .nameAndType 39 6), (0, u "reset"), (0, .methodref 18 41), (0, .nameAndType 42 43), (0, u "mark"), (0, u "()I"), (0, .methodref 18 45), (0, .nameAndType 46 32), (0, u "prefix"), (0, .methodref 13 48), (0, .nameAndType 49 50), (0, u "equals"), (0, u "(Ljava/lang/Object;)Z"), (3, u "law"), (0, u "(IIIIII)Z")] 2

def k1m0 : Method := { name := "<init>", desc := "()V", sig := { parameters := [], returnType := none }, accessFlags := 1, code := none }
def k1c1 : Code := { maxStack := 2, maxLocals := 2, code := method_2_code, exceptionTable := #[], attributes := #[] }
def k1m1 : Method := { name := "idx", desc := "(II)I", sig := { parameters := [.int, .int], returnType := some .int }, accessFlags := 10, code := some k1c1 }
def k1c2 : Code := { maxStack := 2, maxLocals := 2, code := method_3_code, exceptionTable := #[], attributes := #[] }
def k1m2 : Method := { name := "pick", desc := "(I)Ljava/lang/String;", sig := { parameters := [.int], returnType := some (.object "java/lang/String") }, accessFlags := 10, code := some k1c2 }
def k1c3 : Code := { maxStack := 4, maxLocals := 10, code := code, exceptionTable := #[], attributes := #[] }
def k1m3 : Method := { name := "law", desc := "(IIIIII)Z", sig := { parameters := [.int, .int, .int, .int, .int, .int], returnType := some .boolean }, accessFlags := 9, code := some k1c3 }
/-- coppice/marshal/context/NamespaceScopeResetPinLaw -/
def k1 : Class := { plain "coppice/marshal/context/NamespaceScopeResetPinLaw" (some 0) with
  accessFlags := 49
  interfaces := #[]
  cf := some (fileOf pool1 24 #[] #[{ accessFlags := 1, nameIndex := 5, descriptorIndex := 6, attributes := #[] }, { accessFlags := 10, nameIndex := 27, descriptorIndex := 28, attributes := #[] }, { accessFlags := 10, nameIndex := 31, descriptorIndex := 32, attributes := #[] }, { accessFlags := 9, nameIndex := 54, descriptorIndex := 55, attributes := #[] }] 49 2 #[] #[])
  fields := #[]
  methods := #[k1m0, k1m1, k1m2, k1m3]
  instanceTypes := #[]
  staticTypes := #[]
  resolved := Array.replicate 58 none
  statics := none }

def pool2 : Array CpInfo := pool [(1, .methodref 2 3), (0, .class_ 4), (0, .nameAndType 5 6), (0, u "java/lang/Object"), (0, u "<init>"), (0, u "()V"), (0, .fieldref 8 9), (0, .class_ 10), (0, .nameAndType 11 12), (0, u "coppice/marshal/context/NamespaceScope"), (0, u "undoNamespaces"), (0, u "[I"), (0, .class_ 14), (0, u "java/lang/String"), (0, .fieldref 8 16), (0, .nameAndType 17 18), (0, u "undoPrefixes"), (0, u "[Ljava/lang/String;"), (0, .fieldref 8 20), (0, .nameAndType 21 18), (0, u "prefixes"), (0, .methodref 8 23), (0, .nameAndType 24 6), (0, u "reset"), (0, .methodref 26 27), (0, .class_ 28), (0, .nameAndType 29 30), (0, u "java/util/Arrays"), (0, u "fill"), (0, u "([Ljava/lang/Object;Ljava/lang/Object;)V"), (0, .string 32), (0, u ""), (0, .string 34), (0, u "xml"), (0, .fieldref 8 36), (0, .nameAndType 37 38), (0, u "undoCount"), (0, u "I"), (0, .methodref 13 40), (0, .nameAndType 41 42), (0, u "equals"), (0, u "(Ljava/lang/Object;)Z"), (0, .methodref 8 44), (0, .nameAndType 45 46), (0, u "bind"), (0, u "(ILjava/lang/String;)V"), (8, u "(I)V"), (2, u "prefix"), (0, u "(I)Ljava/lang/String;"), (0, u "mark"), (0, u "()I"), (0, u "declare")] 4

def k2c0 : Code := { maxStack := 2, maxLocals := 2, code := prog_2_method_1_code, exceptionTable := #[], attributes := #[] }
def k2m0 : Method := { name := "<init>", desc := "(I)V", sig := { parameters := [.int], returnType := none }, accessFlags := 0, code := some k2c0 }
def k2c1 : Code := { maxStack := 3, maxLocals := 1, code := prog_2_method_2_code, exceptionTable := #[], attributes := #[] }
def k2m1 : Method := { name := "reset", desc := "()V", sig := { parameters := [], returnType := none }, accessFlags := 0, code := some k2c1 }
def k2c2 : Code := { maxStack := 2, maxLocals := 2, code := prog_2_method_3_code, exceptionTable := #[], attributes := #[] }
def k2m2 : Method := { name := "prefix", desc := "(I)Ljava/lang/String;", sig := { parameters := [.int], returnType := some (.object "java/lang/String") }, accessFlags := 0, code := some k2c2 }
def k2c3 : Code := { maxStack := 1, maxLocals := 1, code := prog_2_method_4_code, exceptionTable := #[], attributes := #[] }
def k2m3 : Method := { name := "mark", desc := "()I", sig := { parameters := [], returnType := some .int }, accessFlags := 0, code := some k2c3 }
def k2c4 : Code := { maxStack := 3, maxLocals := 4, code := prog_2_method_5_code, exceptionTable := #[], attributes := #[] }
def k2m4 : Method := { name := "declare", desc := "(ILjava/lang/String;)V", sig := { parameters := [.int, (.object "java/lang/String")], returnType := none }, accessFlags := 0, code := some k2c4 }
def k2c5 : Code := { maxStack := 4, maxLocals := 3, code := prog_2_method_7_code, exceptionTable := #[], attributes := #[] }
def k2m5 : Method := { name := "bind", desc := "(ILjava/lang/String;)V", sig := { parameters := [.int, (.object "java/lang/String")], returnType := none }, accessFlags := 2, code := some k2c5 }
/-- coppice/marshal/context/NamespaceScope -/
def k2 : Class := { plain "coppice/marshal/context/NamespaceScope" (some 0) with
  accessFlags := 48
  interfaces := #[]
  cf := some (fileOf pool2 8 #[] #[{ accessFlags := 0, nameIndex := 5, descriptorIndex := 55, attributes := #[] }, { accessFlags := 0, nameIndex := 24, descriptorIndex := 6, attributes := #[] }, { accessFlags := 0, nameIndex := 58, descriptorIndex := 59, attributes := #[] }, { accessFlags := 0, nameIndex := 60, descriptorIndex := 61, attributes := #[] }, { accessFlags := 0, nameIndex := 62, descriptorIndex := 46, attributes := #[] }, { accessFlags := 2, nameIndex := 45, descriptorIndex := 46, attributes := #[] }] 48 2 #[] #[{ accessFlags := 18, nameIndex := 21, descriptorIndex := 18, attributes := #[] }, { accessFlags := 2, nameIndex := 11, descriptorIndex := 12, attributes := #[] }, { accessFlags := 2, nameIndex := 17, descriptorIndex := 18, attributes := #[] }, { accessFlags := 2, nameIndex := 37, descriptorIndex := 38, attributes := #[] }])
  fields := #[{ name := "prefixes", type := (.array (.object "java/lang/String")), accessFlags := 18, slot := 0, constantValue := 0 }, { name := "undoNamespaces", type := (.array .int), accessFlags := 2, slot := 1, constantValue := 0 }, { name := "undoPrefixes", type := (.array (.object "java/lang/String")), accessFlags := 2, slot := 2, constantValue := 0 }, { name := "undoCount", type := .int, accessFlags := 2, slot := 3, constantValue := 0 }]
  methods := #[k2m0, k2m1, k2m2, k2m3, k2m4, k2m5]
  instanceTypes := #[(.array (.object "java/lang/String")), (.array .int), (.array (.object "java/lang/String")), .int]
  staticTypes := #[]
  resolved := Array.replicate 67 none
  statics := none }

def pool3 : Array CpInfo := pool [(1, .class_ 2), (0, u "java/io/Serializable"), (0, .class_ 4), (0, u "java/lang/Object")] 2

/-- java/io/Serializable -/
def k3 : Class := { plain "java/io/Serializable" (some 0) with
  accessFlags := 1537
  interfaces := #[]
  cf := some (fileOf pool3 1 #[] #[] 1537 3 #[] #[])
  fields := #[]
  methods := #[]
  instanceTypes := #[]
  staticTypes := #[]
  resolved := Array.replicate 7 none
  statics := none }

def pool4 : Array CpInfo := pool [(1, .class_ 2), (0, u "java/lang/Comparable"), (0, .class_ 4), (0, u "java/lang/Object")] 7

/-- java/lang/Comparable -/
def k4 : Class := { plain "java/lang/Comparable" (some 0) with
  accessFlags := 1537
  interfaces := #[]
  cf := some (fileOf pool4 1 #[] #[] 1537 3 #[] #[])
  fields := #[]
  methods := #[]
  instanceTypes := #[]
  staticTypes := #[]
  resolved := Array.replicate 12 none
  statics := none }

def pool5 : Array CpInfo := pool [(2, .class_ 4), (1, u "java/lang/CharSequence"), (42, .class_ 48), (0, u "java/lang/CharSequence$1CodePointIterator"), (10, .class_ 60), (0, u "java/lang/CharSequence$1CharIterator"), (5, .class_ 67), (0, u "java/lang/Object")] 63

/-- java/lang/CharSequence -/
def k5 : Class := { plain "java/lang/CharSequence" (some 0) with
  accessFlags := 1537
  interfaces := #[]
  cf := some (fileOf pool5 2 #[.nestMembers #[47, 59]] #[] 1537 66 #[] #[])
  fields := #[]
  methods := #[]
  instanceTypes := #[]
  staticTypes := #[]
  resolved := Array.replicate 131 none
  statics := none }

def pool6 : Array CpInfo := pool [(1, .class_ 2), (0, u "java/lang/constant/Constable"), (0, .class_ 4), (0, u "java/lang/Object")] 6

/-- java/lang/constant/Constable -/
def k6 : Class := { plain "java/lang/constant/Constable" (some 0) with
  accessFlags := 1537
  interfaces := #[]
  cf := some (fileOf pool6 1 #[] #[] 1537 3 #[] #[])
  fields := #[]
  methods := #[]
  instanceTypes := #[]
  staticTypes := #[]
  resolved := Array.replicate 11 none
  statics := none }

def pool7 : Array CpInfo := pool [(1, .class_ 2), (0, u "java/lang/constant/ConstantDesc"), (0, .class_ 4), (0, u "java/lang/Object")] 32

/-- java/lang/constant/ConstantDesc -/
def k7 : Class := { plain "java/lang/constant/ConstantDesc" (some 0) with
  accessFlags := 1537
  interfaces := #[]
  cf := some (fileOf pool7 1 #[] #[] 1537 3 #[] #[])
  fields := #[]
  methods := #[]
  instanceTypes := #[]
  staticTypes := #[]
  resolved := Array.replicate 37 none
  statics := none }

def pool8 : Array CpInfo := pool [(1, .methodref 2 3), (0, .class_ 4), (0, .nameAndType 5 6), (0, u "java/lang/Object"), (0, u "<init>"), (0, u "()V"), (2, .fieldref 10 11), (0, .class_ 12), (0, .nameAndType 13 14), (0, u "java/lang/String"), (0, u "value"), (0, u "[B"), (0, .fieldref 10 16), (0, .nameAndType 17 18), (0, u "coder"), (0, u "B"), (2, u "hash"), (0, u "I"), (2, u "hashIsZero"), (0, u "Z"), (11, .fieldref 10 39), (0, .nameAndType 40 26), (0, u "COMPACT_STRINGS"), (12, u "toBytes"), (53, .class_ 109), (1, u "java/lang/StringLatin1"), (99, .methodref 10 210), (0, .nameAndType 5 211), (0, u "([BB)V"), (157, u "(C)Z"), (171, .methodref 107 542), (0, .nameAndType 543 544), (0, u "equals"), (0, u "([B[B)Z"), (28, u "(Ljava/lang/Object;)Z"), (1, .class_ 576), (0, u "java/lang/CharSequence"), (22, u "CASE_INSENSITIVE_ORDER"), (0, u "Ljava/util/Comparator;"), (181, u "valueOf"), (0, u "(C)Ljava/lang/String;"), (231, .methodref 107 1016), (0, .nameAndType 1017 369), (0, u "canEncode"), (0, .methodref 107 1019), (0, .nameAndType 53 1020), (0, u "(C)[B"), (80, u "serialPersistentFields"), (0, u "[Ljava/io/ObjectStreamField;"), (0, .class_ 1104), (0, u "java/lang/String$CaseInsensitiveComparator"), (1, .class_ 1107), (0, u "java/io/Serializable"), (0, .class_ 1109), (0, u "java/lang/Comparable"), (0, .class_ 1111), (0, u "java/lang/constant/Constable"), (0, .class_ 1113), (0, u "java/lang/constant/ConstantDesc"), (2, u "serialVersionUID"), (0, u "J"), (3, u "REPL"), (0, u "C"), (2, u "LATIN1"), (1, u "UTF16")] 323

def k8m0 : Method := { name := "<init>", desc := "()V", sig := { parameters := [], returnType := none }, accessFlags := 1, code := none }
def k8c1 : Code := { maxStack := 2, maxLocals := 3, code := jdk_42_method_66_code, exceptionTable := #[], attributes := #[] }
def k8m1 : Method := { name := "equals", desc := "(Ljava/lang/Object;)Z", sig := { parameters := [(.object "java/lang/Object")], returnType := some .boolean }, accessFlags := 1, code := some k8c1 }
def k8c2 : Code := { maxStack := 4, maxLocals := 1, code := jdk_42_method_139_code, exceptionTable := #[], attributes := #[] }
def k8m2 : Method := { name := "valueOf", desc := "(C)Ljava/lang/String;", sig := { parameters := [.char], returnType := some (.object "java/lang/String") }, accessFlags := 9, code := some k8c2 }
def k8c3 : Code := { maxStack := 2, maxLocals := 3, code := jdk_42_method_151_code, exceptionTable := #[], attributes := #[] }
def k8m3 : Method := { name := "<init>", desc := "([BB)V", sig := { parameters := [(.array .byte), .byte], returnType := none }, accessFlags := 0, code := some k8c3 }
/-- java/lang/String -/
def k8 : Class := { plain "java/lang/String" (some 0) with
  accessFlags := 49
  interfaces := #[3, 4, 5, 6, 7]
  cf := some (fileOf pool8 10 #[.nestMembers #[1103]] #[{ accessFlags := 1, nameIndex := 5, descriptorIndex := 6, attributes := #[] }, { accessFlags := 1, nameIndex := 543, descriptorIndex := 573, attributes := #[] }, { accessFlags := 9, nameIndex := 782, descriptorIndex := 783, attributes := #[] }, { accessFlags := 0, nameIndex := 5, descriptorIndex := 211, attributes := #[] }] 49 2 #[1106, 1108, 575, 1110, 1112] #[{ accessFlags := 18, nameIndex := 13, descriptorIndex := 14, attributes := #[] }, { accessFlags := 18, nameIndex := 17, descriptorIndex := 18, attributes := #[] }, { accessFlags := 2, nameIndex := 21, descriptorIndex := 22, attributes := #[] }, { accessFlags := 2, nameIndex := 25, descriptorIndex := 26, attributes := #[] }, { accessFlags := 26, nameIndex := 1116, descriptorIndex := 1117, attributes := #[] }, { accessFlags := 24, nameIndex := 40, descriptorIndex := 26, attributes := #[] }, { accessFlags := 26, nameIndex := 1101, descriptorIndex := 1102, attributes := #[] }, { accessFlags := 26, nameIndex := 1121, descriptorIndex := 1122, attributes := #[] }, { accessFlags := 25, nameIndex := 599, descriptorIndex := 600, attributes := #[] }, { accessFlags := 24, nameIndex := 1125, descriptorIndex := 18, attributes := #[] }, { accessFlags := 24, nameIndex := 1127, descriptorIndex := 18, attributes := #[] }])
  fields := #[{ name := "value", type := (.array .byte), accessFlags := 18, slot := 0, constantValue := 0 }, { name := "coder", type := .byte, accessFlags := 18, slot := 1, constantValue := 0 }, { name := "hash", type := .int, accessFlags := 2, slot := 2, constantValue := 0 }, { name := "hashIsZero", type := .boolean, accessFlags := 2, slot := 3, constantValue := 0 }, { name := "serialVersionUID", type := .long, accessFlags := 26, slot := 0, constantValue := 0 }, { name := "COMPACT_STRINGS", type := .boolean, accessFlags := 24, slot := 1, constantValue := 0 }, { name := "serialPersistentFields", type := (.array (.object "java/io/ObjectStreamField")), accessFlags := 26, slot := 2, constantValue := 0 }, { name := "REPL", type := .char, accessFlags := 26, slot := 3, constantValue := 0 }, { name := "CASE_INSENSITIVE_ORDER", type := (.object "java/util/Comparator"), accessFlags := 25, slot := 4, constantValue := 0 }, { name := "LATIN1", type := .byte, accessFlags := 24, slot := 5, constantValue := 0 }, { name := "UTF16", type := .byte, accessFlags := 24, slot := 6, constantValue := 0 }]
  methods := #[k8m0, k8m1, k8m2, k8m3]
  instanceTypes := #[(.array .byte), .byte, .int, .boolean]
  staticTypes := #[.long, .boolean, (.array (.object "java/io/ObjectStreamField")), .char, (.object "java/util/Comparator"), .byte, .byte]
  resolved := Array.replicate 1451 none
  statics := some 0 }

def pool9 : Array CpInfo := pool [(2, .class_ 4), (1, u "java/lang/Object"), (0, u "<init>"), (0, u "()V"), (7, .class_ 16), (1, u "java/util/Arrays"), (57, .class_ 76), (1, u "java/util/Arrays$NaturalOrder"), (36, .class_ 115), (1, u "java/util/Arrays$LegacyMergeSort"), (1, u "Z"), (257, .class_ 376), (0, u "java/util/Arrays$ArrayList"), (68, u "$assertionsDisabled"), (269, u "MIN_ARRAY_SORT_GRAN"), (0, u "I"), (2, u "INSERTIONSORT_THRESHOLD"), (120, u "fill"), (17, u "([Ljava/lang/Object;Ljava/lang/Object;)V"), (116, .class_ 976), (0, u "java/util/Arrays$ArrayItr")] 52

def k9m0 : Method := { name := "<init>", desc := "()V", sig := { parameters := [], returnType := none }, accessFlags := 2, code := none }
def k9c1 : Code := { maxStack := 3, maxLocals := 4, code := jdk_65_method_117_code, exceptionTable := #[], attributes := #[] }
def k9m1 : Method := { name := "fill", desc := "([Ljava/lang/Object;Ljava/lang/Object;)V", sig := { parameters := [(.array (.object "java/lang/Object")), (.object "java/lang/Object")], returnType := none }, accessFlags := 9, code := some k9c1 }
/-- java/util/Arrays -/
def k9 : Class := { plain "java/util/Arrays" (some 0) with
  accessFlags := 49
  interfaces := #[]
  cf := some (fileOf pool9 14 #[.nestMembers #[975, 375, 113, 74]] #[{ accessFlags := 2, nameIndex := 5, descriptorIndex := 6, attributes := #[] }, { accessFlags := 9, nameIndex := 840, descriptorIndex := 858, attributes := #[] }] 49 2 #[] #[{ accessFlags := 26, nameIndex := 715, descriptorIndex := 716, attributes := #[] }, { accessFlags := 26, nameIndex := 719, descriptorIndex := 716, attributes := #[] }, { accessFlags := 4120, nameIndex := 445, descriptorIndex := 117, attributes := #[] }])
  fields := #[{ name := "MIN_ARRAY_SORT_GRAN", type := .int, accessFlags := 26, slot := 0, constantValue := 0 }, { name := "INSERTIONSORT_THRESHOLD", type := .int, accessFlags := 26, slot := 1, constantValue := 0 }, { name := "$assertionsDisabled", type := .boolean, accessFlags := 4120, slot := 2, constantValue := 0 }]
  methods := #[k9m0, k9m1]
  instanceTypes := #[]
  staticTypes := #[.int, .int, .boolean]
  resolved := Array.replicate 1029 none
  statics := none }

def pool10 : Array CpInfo := pool [(4, .class_ 6), (1, u "java/lang/Object"), (0, u "<init>"), (0, u "()V"), (5, .class_ 16), (1, u "java/lang/StringLatin1"), (73, u "canEncode"), (14, u "(C)Z"), (15, u "$assertionsDisabled"), (0, u "Z"), (98, .class_ 223), (1, u "java/lang/StringLatin1$LinesSpliterator"), (57, u "equals"), (0, u "([B[B)Z"), (97, u "toBytes"), (1, u "(C)[B"), (7, .class_ 391), (0, u "java/lang/StringLatin1$CharsSpliterator")] 3

def k10m0 : Method := { name := "<init>", desc := "()V", sig := { parameters := [], returnType := none }, accessFlags := 0, code := none }
def k10c1 : Code := { maxStack := 2, maxLocals := 1, code := jdk_43_method_3_code, exceptionTable := #[], attributes := #[] }
def k10m1 : Method := { name := "canEncode", desc := "(C)Z", sig := { parameters := [.char], returnType := some .boolean }, accessFlags := 9, code := some k10c1 }
def k10c2 : Code := { maxStack := 3, maxLocals := 3, code := jdk_43_method_13_code, exceptionTable := #[], attributes := #[] }
def k10m2 : Method := { name := "equals", desc := "([B[B)Z", sig := { parameters := [(.array .byte), (.array .byte)], returnType := some .boolean }, accessFlags := 9, code := some k10c2 }
def k10c3 : Code := { maxStack := 4, maxLocals := 1, code := jdk_43_method_46_code, exceptionTable := #[], attributes := #[] }
def k10m3 : Method := { name := "toBytes", desc := "(C)[B", sig := { parameters := [.char], returnType := some (.array .byte) }, accessFlags := 9, code := some k10c3 }
/-- java/lang/StringLatin1 -/
def k10 : Class := { plain "java/lang/StringLatin1" (some 0) with
  accessFlags := 48
  interfaces := #[]
  cf := some (fileOf pool10 14 #[.nestMembers #[390, 221]] #[{ accessFlags := 0, nameIndex := 7, descriptorIndex := 8, attributes := #[] }, { accessFlags := 9, nameIndex := 90, descriptorIndex := 105, attributes := #[] }, { accessFlags := 9, nameIndex := 281, descriptorIndex := 282, attributes := #[] }, { accessFlags := 9, nameIndex := 380, descriptorIndex := 382, attributes := #[] }] 48 4 #[] #[{ accessFlags := 4120, nameIndex := 121, descriptorIndex := 122, attributes := #[] }])
  fields := #[{ name := "$assertionsDisabled", type := .boolean, accessFlags := 4120, slot := 0, constantValue := 0 }]
  methods := #[k10m0, k10m1, k10m2, k10m3]
  instanceTypes := #[]
  staticTypes := #[.boolean]
  resolved := Array.replicate 395 none
  statics := none }

def pool11 : Array CpInfo := pool [(2, .class_ 4), (1, u "java/lang/Object"), (0, u "<init>"), (0, u "()V"), (17, .class_ 26), (1, u "jdk/internal/util/Preconditions"), (28, .class_ 56), (0, u "jdk/internal/util/Preconditions$4"), (57, .class_ 115), (0, u "jdk/internal/util/Preconditions$1"), (7, u "SIOOBE_FORMATTER"), (0, u "Ljava/util/function/BiFunction;"), (0, .class_ 126), (0, u "jdk/internal/util/Preconditions$2"), (3, u "AIOOBE_FORMATTER"), (0, .class_ 132), (0, u "jdk/internal/util/Preconditions$3"), (3, u "IOOBE_FORMATTER")] 57

def k11m0 : Method := { name := "<init>", desc := "()V", sig := { parameters := [], returnType := none }, accessFlags := 1, code := none }
/-- jdk/internal/util/Preconditions -/
def k11 : Class := { plain "jdk/internal/util/Preconditions" (some 0) with
  accessFlags := 33
  interfaces := #[]
  cf := some (fileOf pool11 24 #[.nestMembers #[55, 131, 125, 114]] #[{ accessFlags := 1, nameIndex := 5, descriptorIndex := 6, attributes := #[] }] 33 2 #[] #[{ accessFlags := 25, nameIndex := 123, descriptorIndex := 124, attributes := #[] }, { accessFlags := 25, nameIndex := 130, descriptorIndex := 124, attributes := #[] }, { accessFlags := 25, nameIndex := 136, descriptorIndex := 124, attributes := #[] }])
  fields := #[{ name := "SIOOBE_FORMATTER", type := (.object "java/util/function/BiFunction"), accessFlags := 25, slot := 0, constantValue := 0 }, { name := "AIOOBE_FORMATTER", type := (.object "java/util/function/BiFunction"), accessFlags := 25, slot := 1, constantValue := 0 }, { name := "IOOBE_FORMATTER", type := (.object "java/util/function/BiFunction"), accessFlags := 25, slot := 2, constantValue := 0 }]
  methods := #[k11m0]
  instanceTypes := #[]
  staticTypes := #[(.object "java/util/function/BiFunction"), (.object "java/util/function/BiFunction"), (.object "java/util/function/BiFunction")]
  resolved := Array.replicate 194 none
  statics := some 1 }

def pool12 : Array CpInfo := pool [(9, u "<init>"), (6, .class_ 18), (1, u "java/lang/Object"), (0, u "()V"), (1, .class_ 23), (1, u "jdk/internal/util/ArraysSupport"), (0, u "LOG2_ARRAY_LONG_INDEX_SCALE"), (0, u "I"), (2, u "U"), (0, u "Ljdk/internal/misc/Unsafe;"), (8, u "BIG_ENDIAN"), (0, u "Z"), (8, u "LOG2_BYTE_BIT_SIZE"), (4, u "LOG2_ARRAY_INT_INDEX_SCALE"), (54, u "JLA"), (0, u "Ljdk/internal/access/JavaLangAccess;"), (11, u "LOG2_ARRAY_BOOLEAN_INDEX_SCALE"), (9, u "LOG2_ARRAY_BYTE_INDEX_SCALE"), (5, u "LOG2_ARRAY_CHAR_INDEX_SCALE"), (5, u "LOG2_ARRAY_SHORT_INDEX_SCALE"), (18, u "LOG2_ARRAY_FLOAT_INDEX_SCALE"), (24, u "LOG2_ARRAY_DOUBLE_INDEX_SCALE"), (89, u "T_BOOLEAN"), (2, u "T_CHAR"), (1, u "T_FLOAT"), (1, u "T_DOUBLE"), (1, u "T_BYTE"), (1, u "T_SHORT"), (1, u "T_INT"), (1, u "T_LONG"), (1, u "SOFT_MAX_ARRAY_LENGTH")] 83

def k12m0 : Method := { name := "<init>", desc := "()V", sig := { parameters := [], returnType := none }, accessFlags := 2, code := none }
/-- jdk/internal/util/ArraysSupport -/
def k12 : Class := { plain "jdk/internal/util/ArraysSupport" (some 0) with
  accessFlags := 33
  interfaces := #[]
  cf := some (fileOf pool12 21 #[] #[{ accessFlags := 2, nameIndex := 9, descriptorIndex := 19, attributes := #[] }] 33 16 #[] #[{ accessFlags := 24, nameIndex := 28, descriptorIndex := 29, attributes := #[] }, { accessFlags := 26, nameIndex := 38, descriptorIndex := 39, attributes := #[] }, { accessFlags := 25, nameIndex := 121, descriptorIndex := 25, attributes := #[] }, { accessFlags := 25, nameIndex := 131, descriptorIndex := 25, attributes := #[] }, { accessFlags := 25, nameIndex := 137, descriptorIndex := 25, attributes := #[] }, { accessFlags := 25, nameIndex := 143, descriptorIndex := 25, attributes := #[] }, { accessFlags := 25, nameIndex := 53, descriptorIndex := 25, attributes := #[] }, { accessFlags := 25, nameIndex := 24, descriptorIndex := 25, attributes := #[] }, { accessFlags := 25, nameIndex := 162, descriptorIndex := 25, attributes := #[] }, { accessFlags := 25, nameIndex := 187, descriptorIndex := 25, attributes := #[] }, { accessFlags := 26, nameIndex := 48, descriptorIndex := 25, attributes := #[] }, { accessFlags := 25, nameIndex := 277, descriptorIndex := 25, attributes := #[] }, { accessFlags := 25, nameIndex := 280, descriptorIndex := 25, attributes := #[] }, { accessFlags := 25, nameIndex := 282, descriptorIndex := 25, attributes := #[] }, { accessFlags := 25, nameIndex := 284, descriptorIndex := 25, attributes := #[] }, { accessFlags := 25, nameIndex := 286, descriptorIndex := 25, attributes := #[] }, { accessFlags := 25, nameIndex := 288, descriptorIndex := 25, attributes := #[] }, { accessFlags := 25, nameIndex := 290, descriptorIndex := 25, attributes := #[] }, { accessFlags := 25, nameIndex := 292, descriptorIndex := 25, attributes := #[] }, { accessFlags := 26, nameIndex := 108, descriptorIndex := 109, attributes := #[] }, { accessFlags := 25, nameIndex := 294, descriptorIndex := 25, attributes := #[] }])
  fields := #[{ name := "U", type := (.object "jdk/internal/misc/Unsafe"), accessFlags := 24, slot := 0, constantValue := 0 }, { name := "BIG_ENDIAN", type := .boolean, accessFlags := 26, slot := 1, constantValue := 0 }, { name := "LOG2_ARRAY_BOOLEAN_INDEX_SCALE", type := .int, accessFlags := 25, slot := 2, constantValue := 0 }, { name := "LOG2_ARRAY_BYTE_INDEX_SCALE", type := .int, accessFlags := 25, slot := 3, constantValue := 0 }, { name := "LOG2_ARRAY_CHAR_INDEX_SCALE", type := .int, accessFlags := 25, slot := 4, constantValue := 0 }, { name := "LOG2_ARRAY_SHORT_INDEX_SCALE", type := .int, accessFlags := 25, slot := 5, constantValue := 0 }, { name := "LOG2_ARRAY_INT_INDEX_SCALE", type := .int, accessFlags := 25, slot := 6, constantValue := 0 }, { name := "LOG2_ARRAY_LONG_INDEX_SCALE", type := .int, accessFlags := 25, slot := 7, constantValue := 0 }, { name := "LOG2_ARRAY_FLOAT_INDEX_SCALE", type := .int, accessFlags := 25, slot := 8, constantValue := 0 }, { name := "LOG2_ARRAY_DOUBLE_INDEX_SCALE", type := .int, accessFlags := 25, slot := 9, constantValue := 0 }, { name := "LOG2_BYTE_BIT_SIZE", type := .int, accessFlags := 26, slot := 10, constantValue := 0 }, { name := "T_BOOLEAN", type := .int, accessFlags := 25, slot := 11, constantValue := 0 }, { name := "T_CHAR", type := .int, accessFlags := 25, slot := 12, constantValue := 0 }, { name := "T_FLOAT", type := .int, accessFlags := 25, slot := 13, constantValue := 0 }, { name := "T_DOUBLE", type := .int, accessFlags := 25, slot := 14, constantValue := 0 }, { name := "T_BYTE", type := .int, accessFlags := 25, slot := 15, constantValue := 0 }, { name := "T_SHORT", type := .int, accessFlags := 25, slot := 16, constantValue := 0 }, { name := "T_INT", type := .int, accessFlags := 25, slot := 17, constantValue := 0 }, { name := "T_LONG", type := .int, accessFlags := 25, slot := 18, constantValue := 0 }, { name := "JLA", type := (.object "jdk/internal/access/JavaLangAccess"), accessFlags := 26, slot := 19, constantValue := 0 }, { name := "SOFT_MAX_ARRAY_LENGTH", type := .int, accessFlags := 25, slot := 20, constantValue := 0 }]
  methods := #[k12m0]
  instanceTypes := #[]
  staticTypes := #[(.object "jdk/internal/misc/Unsafe"), .boolean, .int, .int, .int, .int, .int, .int, .int, .int, .int, .int, .int, .int, .int, .int, .int, .int, .int, (.object "jdk/internal/access/JavaLangAccess"), .int]
  resolved := Array.replicate 378 none
  statics := none }

def pool13 : Array CpInfo := pool [(1, u "java/lang/Cloneable"), (0, .class_ 1), (0, u "java/lang/Object"), (0, .class_ 3)] 3

/-- java/lang/Cloneable -/
def k13 : Class := { plain "java/lang/Cloneable" (some 0) with
  accessFlags := 1537
  interfaces := #[]
  cf := some (fileOf pool13 2 #[] #[] 1537 4 #[] #[])
  fields := #[]
  methods := #[]
  instanceTypes := #[]
  staticTypes := #[]
  resolved := Array.replicate 8 none
  statics := none }

/-- the primitive byte -/
def k14 : Class := { plain "byte" none with kind := .primitive 'B', accessFlags := 0x411 }
/-- [B -/
def k15 : Class := { plain "[B" (some 0) with kind := .array 14 .byte, interfaces := #[13, 3], accessFlags := 1041 }

/-- the primitive int -/
def k16 : Class := { plain "int" none with kind := .primitive 'I', accessFlags := 0x411 }
/-- [I -/
def k17 : Class := { plain "[I" (some 0) with kind := .array 16 .int, interfaces := #[13, 3], accessFlags := 1041 }

/-- [Ljava/lang/String; -/
def k18 : Class := { plain "[Ljava/lang/String;" (some 0) with kind := .array 8 (.object "java/lang/String"), interfaces := #[13, 3], accessFlags := 1041 }

def heap : Heap := #[{ cls := 8, slots := #[.long 0, .int 1, .null, .int 0, .null, .int 0, .int 0], vm := .statics 8 },
  { cls := 11, slots := #[.null, .null, .null], vm := .statics 11 }]
def classes : Array Class := #[k0, k1, k2, k3, k4, k5, k6, k7, k8, k9, k10, k11, k12, k13, k14, k15, k16, k17, k18]
def interned : List (Array UInt16 × Addr) := []
def slotsUsed : Nat := 10
def theMethod : MethodId := ⟨1, 3⟩
def args0 : Array Value := #[.int 1, .int 2, .int 3, .int 4, .int 5, .int 6]
def aboutOver (below : List Frame) : State where
  vm := { classes := classes, interned := interned.toArray }
  heap := heap
  slotsUsed := slotsUsed
  threads := #[{ frames := .invoking theMethod args0 :: below }]
def below0 : List Frame := [.native { method := ⟨0, 0⟩, args := #[] }]
def about1 : State := aboutOver below0
def p0 : Program := .bare "" "" ""
def e0 : Env := launch0.env 0 0 0
theorem w_frames : about1.frames = Frame.invoking theMethod args0 :: below0 := rfl
set_option maxRecDepth 65536 in
theorem w_args : argsFit about1.vm theMethod args0 = true := by decide +kernel
set_option maxRecDepth 65536 in
theorem w_heap : heapFits about1 = true := by decide +kernel
set_option maxRecDepth 65536 in
theorem w_runnable : about1.curStatus? = some .runnable := by decide +kernel
set_option maxRecDepth 65536 in
theorem w_alone : about1.alone = true := by decide +kernel
set_option maxRecDepth 65536 in
theorem w_named : about1.methodNamed? x = some theMethod := by decide +kernel
set_option maxRecDepth 65536 in
theorem w_hears : about1.hears theMethod below0 = true := by decide +kernel
set_option maxRecDepth 65536 in
theorem w_ripe : about1.ripe theMethod args0 below0 = true := by decide +kernel
theorem w_running : about1.status = .running := rfl
set_option maxRecDepth 65536 in
theorem w_room : about1.hasRoom e0.platform room_1 = true :=
  launch0.hasRoom_least _ room_1 (by decide +kernel) (by decide +kernel) (by decide +kernel) (by decide +kernel) (by decide +kernel) (by decide +kernel)
theorem allAtoms_all (ts : List Jvm.Cond) (a : Array Jvm.Value) (st : Jvm.State) : (allAtoms ts).before a st = ts.all (fun c => c.before a st) := by
  induction ts with
  | nil => rfl
  | cons c t ih =>
    show (Jvm.Cond.and c (allAtoms t)).before a st = _
    rw [Jvm.Cond.before_and, ih, List.all_cons]
def words1 : List Jvm.Cond := Jvm.Cond.code x code maxLocals ret :: tables_1
/-- a 'code' word, met by the world's own term for the bytes: nothing is compared byte by byte -/
theorem code_word {y : MethodName} {bytes : ByteArray} {mx : Nat} {rt : Option FieldType} {a : Array Value} {s : State} {m : MethodId} {meth : Method} {c : Code} (h1 : s.methodNamed? y = some m) (h2 : s.vm.method? m = some meth) (h3 : meth.code = some c) (h4 : c.code = bytes)
    (h5 : (c.maxLocals == mx && c.exceptionTable.isEmpty && decide (c.maxStack ≤ mostOperands) && decide (meth.sig.returnType = rt) && !meth.locks && decide (parseMethodDescriptor y.desc = some meth.sig)) = true) : (Jvm.Cond.code y bytes mx rt).before a s = true := by
  simp only [Bool.and_eq_true, beq_iff_eq, Bool.not_eq_true', decide_eq_true_eq] at h5
  obtain ⟨⟨⟨⟨⟨g1, g2⟩, g3⟩, g4⟩, g5⟩, g6⟩ := h5
  simp [Cond.before, Cond.holds, Cond.value, h1, h2, h3, h4, g1, g2, g3, g4, g5, g6]
def isCode : Jvm.Cond → Bool
  | .code _ _ _ _ => true
  | _ => false
theorem all_split {L : List Jvm.Cond} {P : Jvm.Cond → Bool} (h1 : L.all (fun c => isCode c || P c) = true) (h2 : ∀ c ∈ L.filter isCode, P c = true) : L.all P = true := by
  refine List.all_eq_true.mpr fun c hc => ?_
  have h := List.all_eq_true.mp h1 c hc
  rcases Bool.eq_false_or_eq_true (isCode c) with hi | hi
  · exact h2 c (List.mem_filter.mpr ⟨hc, hi⟩)
  · simpa [hi] using h
set_option maxRecDepth 65536 in
theorem w_c0 : (Jvm.Cond.code x code maxLocals ret).before args0 about1 = true := code_word (m := ⟨1, 3⟩) (meth := k1m3) (c := k1c3) (by decide +kernel) rfl rfl rfl (by decide +kernel)
set_option maxRecDepth 65536 in
theorem w_c1 : (Jvm.Cond.code ({ cls := "coppice/marshal/context/NamespaceScope", name := "<init>", desc := "(I)V" } : Jvm.MethodName) prog_2_method_1_code (2 : Nat) (Option.none : Option Jvm.ClassFile.FieldType)).before args0 about1 = true := code_word (m := ⟨2, 0⟩) (meth := k2m0) (c := k2c0) (by decide +kernel) rfl rfl rfl (by decide +kernel)
set_option maxRecDepth 65536 in
theorem w_c2 : (Jvm.Cond.code ({ cls := "java/lang/Object", name := "<init>", desc := "()V" } : Jvm.MethodName) object_method_1_code (1 : Nat) (Option.none : Option Jvm.ClassFile.FieldType)).before args0 about1 = true := code_word (m := ⟨0, 0⟩) (meth := k0m0) (c := k0c0) (by decide +kernel) rfl rfl rfl (by decide +kernel)
set_option maxRecDepth 65536 in
theorem w_c3 : (Jvm.Cond.code ({ cls := "coppice/marshal/context/NamespaceScope", name := "reset", desc := "()V" } : Jvm.MethodName) prog_2_method_2_code (1 : Nat) (Option.none : Option Jvm.ClassFile.FieldType)).before args0 about1 = true := code_word (m := ⟨2, 1⟩) (meth := k2m1) (c := k2c1) (by decide +kernel) rfl rfl rfl (by decide +kernel)
set_option maxRecDepth 65536 in
theorem w_c4 : (Jvm.Cond.code ({ cls := "java/util/Arrays", name := "fill", desc := "([Ljava/lang/Object;Ljava/lang/Object;)V" } : Jvm.MethodName) jdk_65_method_117_code (4 : Nat) (Option.none : Option Jvm.ClassFile.FieldType)).before args0 about1 = true := code_word (m := ⟨9, 1⟩) (meth := k9m1) (c := k9c1) (by decide +kernel) rfl rfl rfl (by decide +kernel)
set_option maxRecDepth 65536 in
theorem w_c5 : (Jvm.Cond.code ({ cls := "coppice/marshal/context/NamespaceScopeResetPinLaw", name := "idx", desc := "(II)I" } : Jvm.MethodName) method_2_code (2 : Nat) (Option.some Jvm.ClassFile.FieldType.int)).before args0 about1 = true := code_word (m := ⟨1, 1⟩) (meth := k1m1) (c := k1c1) (by decide +kernel) rfl rfl rfl (by decide +kernel)
set_option maxRecDepth 65536 in
theorem w_c6 : (Jvm.Cond.code ({ cls := "coppice/marshal/context/NamespaceScopeResetPinLaw", name := "pick", desc := "(I)Ljava/lang/String;" } : Jvm.MethodName) method_3_code (2 : Nat) (Option.some (Jvm.ClassFile.FieldType.object "java/lang/String"))).before args0 about1 = true := code_word (m := ⟨1, 2⟩) (meth := k1m2) (c := k1c2) (by decide +kernel) rfl rfl rfl (by decide +kernel)
set_option maxRecDepth 65536 in
theorem w_c7 : (Jvm.Cond.code ({ cls := "java/lang/String", name := "valueOf", desc := "(C)Ljava/lang/String;" } : Jvm.MethodName) jdk_42_method_139_code (1 : Nat) (Option.some (Jvm.ClassFile.FieldType.object "java/lang/String"))).before args0 about1 = true := code_word (m := ⟨8, 2⟩) (meth := k8m2) (c := k8c2) (by decide +kernel) rfl rfl rfl (by decide +kernel)
set_option maxRecDepth 65536 in
theorem w_c8 : (Jvm.Cond.code ({ cls := "java/lang/StringLatin1", name := "canEncode", desc := "(C)Z" } : Jvm.MethodName) jdk_43_method_3_code (1 : Nat) (Option.some Jvm.ClassFile.FieldType.boolean)).before args0 about1 = true := code_word (m := ⟨10, 1⟩) (meth := k10m1) (c := k10c1) (by decide +kernel) rfl rfl rfl (by decide +kernel)
set_option maxRecDepth 65536 in
theorem w_c9 : (Jvm.Cond.code ({ cls := "java/lang/StringLatin1", name := "toBytes", desc := "(C)[B" } : Jvm.MethodName) jdk_43_method_46_code (1 : Nat) (Option.some (Jvm.ClassFile.FieldType.array Jvm.ClassFile.FieldType.byte))).before args0 about1 = true := code_word (m := ⟨10, 3⟩) (meth := k10m3) (c := k10c3) (by decide +kernel) rfl rfl rfl (by decide +kernel)
set_option maxRecDepth 65536 in
theorem w_c10 : (Jvm.Cond.code ({ cls := "java/lang/String", name := "<init>", desc := "([BB)V" } : Jvm.MethodName) jdk_42_method_151_code (3 : Nat) (Option.none : Option Jvm.ClassFile.FieldType)).before args0 about1 = true := code_word (m := ⟨8, 3⟩) (meth := k8m3) (c := k8c3) (by decide +kernel) rfl rfl rfl (by decide +kernel)
set_option maxRecDepth 65536 in
theorem w_c11 : (Jvm.Cond.code ({ cls := "coppice/marshal/context/NamespaceScope", name := "declare", desc := "(ILjava/lang/String;)V" } : Jvm.MethodName) prog_2_method_5_code (4 : Nat) (Option.none : Option Jvm.ClassFile.FieldType)).before args0 about1 = true := code_word (m := ⟨2, 4⟩) (meth := k2m4) (c := k2c4) (by decide +kernel) rfl rfl rfl (by decide +kernel)
set_option maxRecDepth 65536 in
theorem w_c12 : (Jvm.Cond.code ({ cls := "java/lang/String", name := "equals", desc := "(Ljava/lang/Object;)Z" } : Jvm.MethodName) jdk_42_method_66_code (3 : Nat) (Option.some Jvm.ClassFile.FieldType.boolean)).before args0 about1 = true := code_word (m := ⟨8, 1⟩) (meth := k8m1) (c := k8c1) (by decide +kernel) rfl rfl rfl (by decide +kernel)
set_option maxRecDepth 65536 in
theorem w_c13 : (Jvm.Cond.code ({ cls := "java/lang/StringLatin1", name := "equals", desc := "([B[B)Z" } : Jvm.MethodName) jdk_43_method_13_code (3 : Nat) (Option.some Jvm.ClassFile.FieldType.boolean)).before args0 about1 = true := code_word (m := ⟨10, 2⟩) (meth := k10m2) (c := k10c2) (by decide +kernel) rfl rfl rfl (by decide +kernel)
set_option maxRecDepth 65536 in
theorem w_c14 : (Jvm.Cond.code ({ cls := "coppice/marshal/context/NamespaceScope", name := "bind", desc := "(ILjava/lang/String;)V" } : Jvm.MethodName) prog_2_method_7_code (3 : Nat) (Option.none : Option Jvm.ClassFile.FieldType)).before args0 about1 = true := code_word (m := ⟨2, 5⟩) (meth := k2m5) (c := k2c5) (by decide +kernel) rfl rfl rfl (by decide +kernel)
set_option maxRecDepth 65536 in
theorem w_c15 : (Jvm.Cond.code ({ cls := "coppice/marshal/context/NamespaceScope", name := "mark", desc := "()I" } : Jvm.MethodName) prog_2_method_4_code (1 : Nat) (Option.some Jvm.ClassFile.FieldType.int)).before args0 about1 = true := code_word (m := ⟨2, 3⟩) (meth := k2m3) (c := k2c3) (by decide +kernel) rfl rfl rfl (by decide +kernel)
set_option maxRecDepth 65536 in
theorem w_c16 : (Jvm.Cond.code ({ cls := "coppice/marshal/context/NamespaceScope", name := "prefix", desc := "(I)Ljava/lang/String;" } : Jvm.MethodName) prog_2_method_3_code (2 : Nat) (Option.some (Jvm.ClassFile.FieldType.object "java/lang/String"))).before args0 about1 = true := code_word (m := ⟨2, 2⟩) (meth := k2m2) (c := k2c2) (by decide +kernel) rfl rfl rfl (by decide +kernel)
def codes1 : List Jvm.Cond := [Jvm.Cond.code x code maxLocals ret, Jvm.Cond.code ({ cls := "coppice/marshal/context/NamespaceScope", name := "<init>", desc := "(I)V" } : Jvm.MethodName) prog_2_method_1_code (2 : Nat) (Option.none : Option Jvm.ClassFile.FieldType), Jvm.Cond.code ({ cls := "java/lang/Object", name := "<init>", desc := "()V" } : Jvm.MethodName) object_method_1_code (1 : Nat) (Option.none : Option Jvm.ClassFile.FieldType), Jvm.Cond.code ({ cls := "coppice/marshal/context/NamespaceScope", name := "reset", desc := "()V" } : Jvm.MethodName) prog_2_method_2_code (1 : Nat) (Option.none : Option Jvm.ClassFile.FieldType), Jvm.Cond.code ({ cls := "java/util/Arrays", name := "fill", desc := "([Ljava/lang/Object;Ljava/lang/Object;)V" } : Jvm.MethodName) jdk_65_method_117_code (4 : Nat) (Option.none : Option Jvm.ClassFile.FieldType), Jvm.Cond.code ({ cls := "coppice/marshal/context/NamespaceScopeResetPinLaw", name := "idx", desc := "(II)I" } : Jvm.MethodName) method_2_code (2 : Nat) (Option.some Jvm.ClassFile.FieldType.int), Jvm.Cond.code ({ cls := "coppice/marshal/context/NamespaceScopeResetPinLaw", name := "pick", desc := "(I)Ljava/lang/String;" } : Jvm.MethodName) method_3_code (2 : Nat) (Option.some (Jvm.ClassFile.FieldType.object "java/lang/String")), Jvm.Cond.code ({ cls := "java/lang/String", name := "valueOf", desc := "(C)Ljava/lang/String;" } : Jvm.MethodName) jdk_42_method_139_code (1 : Nat) (Option.some (Jvm.ClassFile.FieldType.object "java/lang/String")), Jvm.Cond.code ({ cls := "java/lang/StringLatin1", name := "canEncode", desc := "(C)Z" } : Jvm.MethodName) jdk_43_method_3_code (1 : Nat) (Option.some Jvm.ClassFile.FieldType.boolean), Jvm.Cond.code ({ cls := "java/lang/StringLatin1", name := "toBytes", desc := "(C)[B" } : Jvm.MethodName) jdk_43_method_46_code (1 : Nat) (Option.some (Jvm.ClassFile.FieldType.array Jvm.ClassFile.FieldType.byte)), Jvm.Cond.code ({ cls := "java/lang/String", name := "<init>", desc := "([BB)V" } : Jvm.MethodName) jdk_42_method_151_code (3 : Nat) (Option.none : Option Jvm.ClassFile.FieldType), Jvm.Cond.code ({ cls := "coppice/marshal/context/NamespaceScope", name := "declare", desc := "(ILjava/lang/String;)V" } : Jvm.MethodName) prog_2_method_5_code (4 : Nat) (Option.none : Option Jvm.ClassFile.FieldType), Jvm.Cond.code ({ cls := "java/lang/String", name := "equals", desc := "(Ljava/lang/Object;)Z" } : Jvm.MethodName) jdk_42_method_66_code (3 : Nat) (Option.some Jvm.ClassFile.FieldType.boolean), Jvm.Cond.code ({ cls := "java/lang/StringLatin1", name := "equals", desc := "([B[B)Z" } : Jvm.MethodName) jdk_43_method_13_code (3 : Nat) (Option.some Jvm.ClassFile.FieldType.boolean), Jvm.Cond.code ({ cls := "coppice/marshal/context/NamespaceScope", name := "bind", desc := "(ILjava/lang/String;)V" } : Jvm.MethodName) prog_2_method_7_code (3 : Nat) (Option.none : Option Jvm.ClassFile.FieldType), Jvm.Cond.code ({ cls := "coppice/marshal/context/NamespaceScope", name := "mark", desc := "()I" } : Jvm.MethodName) prog_2_method_4_code (1 : Nat) (Option.some Jvm.ClassFile.FieldType.int), Jvm.Cond.code ({ cls := "coppice/marshal/context/NamespaceScope", name := "prefix", desc := "(I)Ljava/lang/String;" } : Jvm.MethodName) prog_2_method_3_code (2 : Nat) (Option.some (Jvm.ClassFile.FieldType.object "java/lang/String"))]
set_option maxRecDepth 65536 in
theorem codes_eq : words1.filter isCode = codes1 := rfl
theorem w_codes : ∀ c ∈ words1.filter isCode, c.before args0 about1 = true := by
  rw [codes_eq]
  intro c hc
  simp only [codes1, List.mem_cons, List.not_mem_nil, or_false] at hc
  rcases hc with rfl | rfl | rfl | rfl | rfl | rfl | rfl | rfl | rfl | rfl | rfl | rfl | rfl | rfl | rfl | rfl | rfl
  · exact w_c0
  · exact w_c1
  · exact w_c2
  · exact w_c3
  · exact w_c4
  · exact w_c5
  · exact w_c6
  · exact w_c7
  · exact w_c8
  · exact w_c9
  · exact w_c10
  · exact w_c11
  · exact w_c12
  · exact w_c13
  · exact w_c14
  · exact w_c15
  · exact w_c16
set_option maxRecDepth 65536 in
theorem w_t1 : (words1.take 24).all (fun c => isCode c || c.before args0 about1) = true := by decide +kernel
set_option maxRecDepth 65536 in
theorem w_t2 : ((words1.drop 24).take 24).all (fun c => isCode c || c.before args0 about1) = true := by decide +kernel
set_option maxRecDepth 65536 in
theorem w_t3 : (((words1.drop 24).drop 24).take 24).all (fun c => isCode c || c.before args0 about1) = true := by decide +kernel
set_option maxRecDepth 65536 in
theorem w_t4 : ((((words1.drop 24).drop 24).drop 24).take 24).all (fun c => isCode c || c.before args0 about1) = true := by decide +kernel
set_option maxRecDepth 65536 in
theorem w_t5 : ((((words1.drop 24).drop 24).drop 24).drop 24).all (fun c => isCode c || c.before args0 about1) = true := by decide +kernel
theorem w_tables : (allAtoms (Jvm.Cond.code x code maxLocals ret :: tables_1)).before args0 about1 = true := by
  rw [allAtoms_all]
  show words1.all (fun c => c.before args0 about1) = true
  refine all_split ?_ w_codes
  rw [← List.take_append_drop 24 words1, List.all_append, w_t1, ← List.take_append_drop 24 (words1.drop 24), List.all_append, w_t2, ← List.take_append_drop 24 ((words1.drop 24).drop 24), List.all_append, w_t3, ← List.take_append_drop 24 (((words1.drop 24).drop 24).drop 24), List.all_append, w_t4, w_t5]
  rfl
set_option maxRecDepth 65536 in
theorem w_rest : rest_1_c.before args0 about1 = true := by decide +kernel
set_option maxRecDepth 65536 in
theorem w_case : (Jvm.Cond.and given_1 narrow_1).before args0 about1 = true := by decide +kernel
set_option maxRecDepth 65536 in
theorem w_consts : constsHeld consts_1 about1 := Jvm.Lit.constsHeldB_iff.mp (by decide +kernel)
theorem w_applies : (headSpec (Jvm.Cond.code x code maxLocals ret :: tables_1) room_1).applies x e0.platform about1 = true :=
  (Spec.applies_iff w_frames).mpr ⟨w_running, w_runnable, w_alone, w_named, w_hears, w_ripe, w_room, w_tables⟩
theorem atStart : AtStart classFile x code maxLocals ret World_1 tables_1 room_1 Calls_1 rest_1 Pre_1 launch0 p0 e0 about1 theMethod args0 below0 :=
  ⟨lists_1, trivial, launch0.admits_env _ _ _, launch0.least_env, fairChoices_fair.cas, fairChoices_fair.clock, w_frames, w_args, w_heap, w_applies, ⟨w_consts, trivial⟩, w_rest, w_case⟩
end start1
theorem witness_1 : WitnessClaimed_1 := ⟨start1.p0, start1.e0, start1.about1, start1.theMethod, start1.args0, start1.below0, start1.atStart⟩
end Jvm.Pilot.@@N@@
