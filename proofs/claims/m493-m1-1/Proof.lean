import JvmDerived
import JvmDerived.Pilot.@@N@@Statement
import JvmDerived.Pilot.@@N@@Code
set_option linter.unusedVariables false
set_option linter.unusedSimpArgs false
namespace Jvm.Pilot.@@N@@
open Jvm Jvm.ClassFile Sem Op Lib Jvm.Free Jvm.Stand Jvm.LawKit Jvm.RoadKit Bundle Jvm.Pilot.@@N@@.Jvm.D
theorem own_wrap {A : Prop} (h : ∀ GL : Prop, (A → GL) → GL) : A := h A id
def own_at (vs : List Value) (j : Int32) : Int32 := match vs.getD j.toNatClampNeg (.int (0 : Int32)) with | .int x => x | _ => 0
theorem own_getB {c : Cell} {vs : List Value} {j : Int32} (H : Has c vs (.int (0 : Int32))) (G : ∀ i, i < c.slots.size → fits .byte (vs.getD i (.int (0 : Int32))) = true) (q : ¬ (j < 0 ∨ c.slots.size ≤ j.toNatClampNeg)) : c.slots[j.toNatClampNeg]? = some (.int (own_at vs j)) := by
  have hlt : j.toNatClampNeg < c.slots.size := Nat.lt_of_not_le fun y => q (Or.inr y)
  obtain ⟨x, hx⟩ := fit_I (G _ hlt) (Or.inr (Or.inr (Or.inl rfl)))
  rw [H _ hlt, hx]
  unfold own_at
  rw [hx]
theorem own_getI {c : Cell} {vs : List Value} {j : Int32} (H : Has c vs (.int (0 : Int32))) (G : ∀ i, i < c.slots.size → fits .int (vs.getD i (.int (0 : Int32))) = true) (q : ¬ (j < 0 ∨ c.slots.size ≤ j.toNatClampNeg)) : c.slots[j.toNatClampNeg]? = some (.int (own_at vs j)) := by
  have hlt : j.toNatClampNeg < c.slots.size := Nat.lt_of_not_le fun y => q (Or.inr y)
  obtain ⟨x, hx⟩ := fit_I (G _ hlt) (Or.inl rfl)
  rw [H _ hlt, hx]
  unfold own_at
  rw [hx]
def own_rz (z k : Int32) : Int32 := if z < k then k else z
def own_rf (z k : Int32) (fs : List Value) : List Value := if z < k then List.replicate k.toNatClampNeg (.int (0 : Int32)) else fs
theorem own_zero {Z : State} {h : Heap} {a : Addr} {k : ClassId} {ty : FieldType} {z : Int32} (F : Arv Z h a k ty z [] (.int (0 : Int32))) : Arv Z h a k ty z (List.replicate z.toNatClampNeg (.int (0 : Int32))) (.int (0 : Int32)) := F.pad (pad_rep [] _ _)
def own_sc (fs : List Value) (k cn : Int32) : Int32 := if own_at fs k = (0 : Int32) then cn + (1 : Int32) else cn
def own_sm (fs ms : List Value) (k cn : Int32) : List Value := if own_at fs k = (0 : Int32) then ms.set cn.toNatClampNeg (.int k) else ms
abbrev own_sf (fs : List Value) (k v : Int32) : List Value := fs.set k.toNatClampNeg (.int (nar .byte v.toInt8.toInt32))
theorem own_nat {j : Int32} (h : 0 ≤ j.toInt) : (j.toNatClampNeg : Int) = j.toInt := by
  refine (nat_of ?_).symm
  rw [Int32.lt_iff_toInt_lt]
  have k : (0 : Int32).toInt = 0 := by decide
  omega
theorem own_ge {j : Int32} (h : ¬ j < 0) : 0 ≤ j.toInt := by
  rw [Int32.lt_iff_toInt_lt] at h; have k : (0 : Int32).toInt = 0 := by decide
  omega
theorem own_lt {k z : Int32} {fs : List Value} (hk : ¬ k < 0 ∧ k < z) (hf : fs.length = z.toNatClampNeg) : k.toNatClampNeg < fs.length := by
  have h1 := own_ge hk.1; have h2 := hk.2; rw [Int32.lt_iff_toInt_lt] at h2
  have a := own_nat h1; have b := own_nat (j := z) (by omega); omega
theorem own_cb {cn : Int32} (h : 0 ≤ cn.toInt ∧ cn.toInt < 64) : ¬ cn < 0 ∧ cn < (64 : Int32) := by
  rw [Int32.lt_iff_toInt_lt, Int32.lt_iff_toInt_lt]; have k : (0 : Int32).toInt = 0 := by decide
  have k2 : (64 : Int32).toInt = 64 := by decide
  omega
theorem own_clt {cn : Int32} {ms : List Value} (h : 0 ≤ cn.toInt ∧ cn.toInt < 64) (hm : ms.length = 64) : cn.toNatClampNeg < ms.length := by
  have a := own_nat h.1; omega
theorem own_c64 {cn : Int32} (h : 0 ≤ cn.toInt ∧ cn.toInt < 64) : ¬ cn = (64 : Int32) := by
  intro q; subst q; have k2 : (64 : Int32).toInt = 64 := by decide
  omega
theorem own_atset {vs : List Value} {j : Int32} {x : Int32} (h : j.toNatClampNeg < vs.length) : own_at (vs.set j.toNatClampNeg (.int x)) j = x := by
  unfold own_at
  simp [List.getD, h]
theorem own_atne {vs : List Value} {i j : Int32} {x : Int32} (h : i.toNatClampNeg ≠ j.toNatClampNeg) : own_at (vs.set i.toNatClampNeg (.int x)) j = own_at vs j := by
  unfold own_at
  simp [List.getD, List.getElem?_set, h]
theorem own_atrep (n : Nat) (j : Int32) : own_at (List.replicate n (.int (0 : Int32))) j = 0 := by
  unfold own_at
  by_cases h : j.toNatClampNeg < n <;> simp [List.getD, List.getElem?_replicate, h]

def own_cl (ms : List Value) : Nat → Int32 → List Value → List Value
  | 0, _, fl => fl
  | n + 1, i, fl => own_cl ms n (i + (1 : Int32)) (fl.set (own_at ms i).toNatClampNeg (.int (nar .byte (0 : Int32))))
theorem own_l0 {cn : Int32} (h : 0 ≤ cn.toInt ∧ cn.toInt < 64) : (0 : Int32).toInt + ((cn.toInt.toNat : Nat) : Int) = cn.toInt := by
  have k : (0 : Int32).toInt = 0 := by decide
  omega
theorem own_i1 {i : Int32} (h0 : 0 ≤ i.toInt) (h : i.toInt < 64) : (i + (1 : Int32)).toInt = i.toInt + 1 := by
  have h1 := c_iadd i 1; have k : (1 : Int32).toInt = 1 := by decide
  have r := rng32 (i + 1); omega
theorem own_l1 {i cn : Int32} {n : Nat} (h0 : 0 ≤ i.toInt) (hn : i.toInt + ((n + 1 : Nat) : Int) = cn.toInt) (h : 0 ≤ cn.toInt ∧ cn.toInt < 64) : (i + (1 : Int32)).toInt + (n : Int) = cn.toInt := by
  rw [own_i1 h0 (by omega)]; omega
theorem own_l2 {i cn : Int32} {n : Nat} (h0 : 0 ≤ i.toInt) (hn : i.toInt + ((n + 1 : Nat) : Int) = cn.toInt) (h : 0 ≤ cn.toInt ∧ cn.toInt < 64) : 0 ≤ (i + (1 : Int32)).toInt := by
  rw [own_i1 h0 (by omega)]; omega
theorem own_l3 {fl : List Value} {z : Int32} {j : Nat} {v : Value} (h : fl.length = z.toNatClampNeg) : (fl.set j v).length = z.toNatClampNeg := by rw [List.length_set]; exact h
theorem own_lz {i cn : Int32} (hn : i.toInt + ((0 : Nat) : Int) = cn.toInt) : ¬ i < cn := by
  rw [Int32.lt_iff_toInt_lt]; omega
theorem own_ilt {i cn : Int32} {n : Nat} (hn : i.toInt + ((n + 1 : Nat) : Int) = cn.toInt) : i.toInt < cn.toInt := by omega
theorem own_ls {i cn : Int32} {n : Nat} (hn : i.toInt + ((n + 1 : Nat) : Int) = cn.toInt) : i < cn := by
  rw [Int32.lt_iff_toInt_lt]; omega
theorem own_ci {i cn : Int32} {n : Nat} (h0 : 0 ≤ i.toInt) (hn : i.toInt + ((n + 1 : Nat) : Int) = cn.toInt) (h : 0 ≤ cn.toInt ∧ cn.toInt < 64) : ¬ i < 0 ∧ i < (64 : Int32) := own_cb ⟨h0, by omega⟩
def own_fv (x : Int32) : Int32 := ((x &&& (2147483647 : Int32)) % (255 : Int32)) + (1 : Int32)
theorem own_b7 (x : Int32) : ¬ (x &&& (7 : Int32)) < 0 ∧ (x &&& (7 : Int32)) < (8 : Int32) := by
  have h := c_mask x 7 3 (by decide) (by decide)
  have k : (0 : Int32).toInt = 0 := by decide
  have k8 : (8 : Int32).toInt = 8 := by decide
  rw [Int32.lt_iff_toInt_lt, Int32.lt_iff_toInt_lt]; omega
theorem own_w (x : Int32) : 1 ≤ (((x.toUInt32 >>> ((2 : Int32) &&& 31).toUInt32).toInt32) % (255 : Int32) + (1 : Int32)).toInt ∧ (((x.toUInt32 >>> ((2 : Int32) &&& 31).toUInt32).toInt32) % (255 : Int32) + (1 : Int32)).toInt ≤ 255 := by
  have h3 := c_iushr x 2 2 (by decide) (by decide)
  generalize (x.toUInt32 >>> ((2 : Int32) &&& 31).toUInt32).toInt32 = u at *
  have r0 := rng32 x
  have h2 := (c_irem u 255 255 (by decide)).1 (by omega)
  have h4 := c_iadd (u % 255) 1; have k : (1 : Int32).toInt = 1 := by decide
  have r := rng32 (u % 255 + 1); omega
theorem own_k2 {k : Int32} (h : k < (1 : Int32)) : k < (2 : Int32) := by
  rw [Int32.lt_iff_toInt_lt] at *; have a : (1 : Int32).toInt = 1 := by decide
  have b : (2 : Int32).toInt = 2 := by decide
  omega
theorem own_k3 {k : Int32} (h : k < (2 : Int32)) : k < (3 : Int32) := by
  rw [Int32.lt_iff_toInt_lt] at *; have a : (2 : Int32).toInt = 2 := by decide
  have b : (3 : Int32).toInt = 3 := by decide
  omega
theorem own_rf8 : own_rf (0 : Int32) (8 : Int32) [] = List.replicate 8 (.int (0 : Int32)) := by
  unfold own_rf; rw [if_pos (by decide)]; rfl
theorem own_v8 {Z : State} {h : Heap} {a : Addr} {k : ClassId} (F : Arv Z h a k .byte (own_rz (0 : Int32) (8 : Int32)) (own_rf (0 : Int32) (8 : Int32) []) (.int (0 : Int32))) : Arv Z h a k .byte (8 : Int32) (List.replicate 8 (.int (0 : Int32))) (.int (0 : Int32)) := by
  have h1 : own_rz (0 : Int32) (8 : Int32) = (8 : Int32) := by decide
  rw [h1, own_rf8] at F
  exact F
def own_inv (fs ms : List Value) (cn : Int32) (b : Nat) : Prop :=
  fs.length = 8 ∧ ms.length = 64 ∧ 0 ≤ cn.toInt ∧ cn.toInt ≤ (b : Int) ∧ (∀ i : Int32, 0 ≤ i.toInt → i.toInt < cn.toInt → ¬ own_at ms i < 0 ∧ own_at ms i < (8 : Int32)) ∧
    ∀ j : Int32, ¬ j < 0 ∧ j < (8 : Int32) → own_at fs j ≠ 0 → ∃ i : Int32, 0 ≤ i.toInt ∧ i.toInt < cn.toInt ∧ own_at ms i = j
theorem own_inv0 : own_inv (List.replicate 8 (.int (0 : Int32))) (List.replicate 64 (.int (0 : Int32))) (0 : Int32) 0 := by
  have k : (0 : Int32).toInt = 0 := by decide
  refine ⟨List.length_replicate, List.length_replicate, by omega, by omega, fun i h1 h2 => by omega, fun j _ h => absurd (own_atrep 8 j) h⟩
theorem own_icn {fs ms : List Value} {cn : Int32} {b : Nat} (I : own_inv fs ms cn b) (hb : b < 64) : 0 ≤ cn.toInt ∧ cn.toInt < 64 := ⟨I.2.2.1, by have := I.2.2.2.1; omega⟩
theorem own_natne {i j : Int32} (hi : 0 ≤ i.toInt) (hj : 0 ≤ j.toInt) (h : i ≠ j) : i.toNatClampNeg ≠ j.toNatClampNeg := by
  intro q; apply h; apply Int32.toInt_inj.mp; rw [← own_nat hi, ← own_nat hj, q]
theorem own_invset {fs ms : List Value} {k cn v : Int32} {b : Nat} (hk : ¬ k < 0 ∧ k < (8 : Int32)) (I : own_inv fs ms cn b) (hb : b < 60) : own_inv (own_sf fs k v) (own_sm fs ms k cn) (own_sc fs k cn) (b + 1) := by
  obtain ⟨h1, h2, h3, h4, h5, h6⟩ := I
  have hk0 := own_ge hk.1
  have one : (1 : Int32).toInt = 1 := by decide
  by_cases hz : own_at fs k = (0 : Int32)
  · have e1 : own_sc fs k cn = cn + 1 := by unfold own_sc; rw [if_pos hz]
    have e2 : own_sm fs ms k cn = ms.set cn.toNatClampNeg (.int k) := by unfold own_sm; rw [if_pos hz]
    have ec : (cn + 1).toInt = cn.toInt + 1 := by
      have a := c_iadd cn 1; have r := rng32 (cn + 1); omega
    rw [e1, e2]
    have hcl : cn.toNatClampNeg < ms.length := by have := own_nat h3; omega
    refine ⟨by rw [List.length_set]; exact h1, by rw [List.length_set]; exact h2, by omega, by omega, fun i a c => ?_, fun j hj hne => ?_⟩
    · by_cases q : cn = i
      · subst q; rw [own_atset hcl]; exact hk
      · rw [own_atne (own_natne h3 a q)]
        exact h5 i a (by
          have : cn.toInt ≠ i.toInt := fun y => q (Int32.toInt_inj.mp y)
          omega)
    · by_cases q : k = j
      · subst q; exact ⟨cn, h3, by omega, own_atset hcl⟩
      · rw [own_atne (own_natne hk0 (own_ge hj.1) q)] at hne
        obtain ⟨i, a, c, d⟩ := h6 j hj hne
        refine ⟨i, a, by omega, ?_⟩
        rw [own_atne (own_natne h3 a (fun y => by rw [y] at c; omega))]; exact d
  · have e1 : own_sc fs k cn = cn := by unfold own_sc; rw [if_neg hz]
    have e2 : own_sm fs ms k cn = ms := by unfold own_sm; rw [if_neg hz]
    rw [e1, e2]
    refine ⟨by rw [List.length_set]; exact h1, h2, h3, by omega, h5, fun j hj hne => ?_⟩
    by_cases q : k = j
    · subst q; exact h6 k hj hz
    · rw [own_atne (own_natne hk0 (own_ge hj.1) q)] at hne
      exact h6 j hj hne
theorem own_cl_at (ms : List Value) : ∀ (n : Nat) (i : Int32) (fl : List Value), fl.length = 8 → 0 ≤ i.toInt → i.toInt + (n : Int) < 64 → (∀ q : Int32, i.toInt ≤ q.toInt → q.toInt < i.toInt + (n : Int) → ¬ own_at ms q < 0 ∧ own_at ms q < (8 : Int32)) → (own_cl ms n i fl).length = 8 ∧ ∀ j : Int32, ¬ j < 0 ∧ j < (8 : Int32) → (own_at fl j = 0 ∨ ∃ q : Int32, i.toInt ≤ q.toInt ∧ q.toInt < i.toInt + (n : Int) ∧ own_at ms q = j) → own_at (own_cl ms n i fl) j = 0
  | 0, i, fl, hl, _, _, _ => ⟨hl, fun j _ h => h.elim id fun ⟨q, a, b, _⟩ => by omega⟩
  | n + 1, i, fl, hl, h0, hb, hr => by
    have e := own_i1 h0 (by omega)
    have hi := hr i (by omega) (by omega)
    have k8 : (8 : Int32).toNatClampNeg = 8 := by decide
    have hlt := own_lt (fs := fl) hi (by rw [hl, k8])
    obtain ⟨a, b⟩ := own_cl_at ms n (i + 1) (fl.set (own_at ms i).toNatClampNeg (.int (nar .byte (0 : Int32)))) (by rw [List.length_set]; exact hl) (by omega) (by omega) (fun q x y => hr q (by omega) (by omega))
    refine ⟨a, fun j hj h => b j hj ?_⟩
    have z0 : nar .byte (0 : Int32) = 0 := by decide
    by_cases q : own_at ms i = j
    · left; rw [q] at hlt ⊢; rw [own_atset hlt]; exact z0
    · rcases h with h | ⟨p, x, y, w⟩
      · left; rw [own_atne (own_natne (own_ge hi.1) (own_ge hj.1) q)]; exact h
      · right
        refine ⟨p, ?_, by omega, w⟩
        have : i.toInt ≠ p.toInt := fun u => q (by rw [Int32.toInt_inj.mp u]; exact w)
        omega
theorem own_invclr {fs ms : List Value} {cn : Int32} {b : Nat} (I : own_inv fs ms cn b) (hb : b < 60) : (own_cl ms cn.toInt.toNat (0 : Int32) fs).length = 8 ∧ ∀ j : Int32, ¬ j < 0 ∧ j < (8 : Int32) → own_at (own_cl ms cn.toInt.toNat (0 : Int32) fs) j = 0 := by
  obtain ⟨h1, h2, h3, h4, h5, h6⟩ := I
  have k : (0 : Int32).toInt = 0 := by decide
  obtain ⟨a, c⟩ := own_cl_at ms cn.toInt.toNat 0 fs h1 (by omega) (by omega) (fun q x y => h5 q (by omega) (by omega))
  refine ⟨a, fun j hj => c j hj ?_⟩
  by_cases z : own_at fs j = 0
  · exact Or.inl z
  · obtain ⟨i, x, y, w⟩ := h6 j hj z
    exact Or.inr ⟨i, by omega, by omega, w⟩
theorem own_g0 {x : Int32} (h : x = 0) : x &&& (255 : Int32) = (0 : Int32) := by rw [h]; decide
theorem own_byte {v : Int32} (h : 1 ≤ v.toInt ∧ v.toInt ≤ 255) : nar .byte v.toInt8.toInt32 &&& (255 : Int32) = v := by
  have e : nar .byte v.toInt8.toInt32 = v.toInt8.toInt32 := by
    show v.toInt8.toInt32.toInt8.toInt32 = _
    rw [Int8.toInt8_toInt32]
  rw [e]
  apply Int32.toInt_inj.mp
  have h1 := c_mask v.toInt8.toInt32 255 8 (by decide) (by decide)
  have h2 := c_i2b v
  omega
theorem own_gv {fs : List Value} {k v : Int32} (hk : ¬ k < 0 ∧ k < (8 : Int32)) (hf : fs.length = 8) (hv : 1 ≤ v.toInt ∧ v.toInt ≤ 255) : own_at (own_sf fs k v) k &&& (255 : Int32) = v := by
  rw [own_atset (own_lt hk (by rw [hf]; decide))]; exact own_byte hv
theorem own_c1 {fs : List Value} {k : Int32} (h : own_at fs k = 0) : own_sc fs k (0 : Int32) = (1 : Int32) := by
  unfold own_sc; rw [if_pos h]; decide
theorem own_m1 {fs ms : List Value} {k : Int32} (h : own_at fs k = 0) (hm : ms.length = 64) : own_at (own_sm fs ms k (0 : Int32)) (0 : Int32) = k := by
  unfold own_sm; rw [if_pos h]; exact own_atset (by rw [hm]; decide)
theorem pn_0 : plainName "com/example/cairn/cairn/history/Marks" = true := by first | (simp [plainName, overriddenIn]; done) | decide +kernel
theorem d2_0 : decode prog_27_method_1_code 0 = .ok (.aload_n 0, 1) := by decide +kernel
theorem d2_1 : decode prog_27_method_1_code 1 = .ok (.invokespecial 1, 3) := by decide +kernel
theorem d2_4 : decode prog_27_method_1_code 4 = .ok (.aload_n 0, 1) := by decide +kernel
theorem d2_5 : decode prog_27_method_1_code 5 = .ok (.iconst 0, 1) := by decide +kernel
theorem d2_6 : decode prog_27_method_1_code 6 = .ok (.newarray .byte, 2) := by decide +kernel
theorem d2_8 : decode prog_27_method_1_code 8 = .ok (.putfield 7, 3) := by decide +kernel
theorem d2_11 : decode prog_27_method_1_code 11 = .ok (.aload_n 0, 1) := by decide +kernel
theorem d2_12 : decode prog_27_method_1_code 12 = .ok (.bipush 64, 2) := by decide +kernel
theorem d2_14 : decode prog_27_method_1_code 14 = .ok (.newarray .int, 2) := by decide +kernel
theorem d2_16 : decode prog_27_method_1_code 16 = .ok (.putfield 13, 3) := by decide +kernel
theorem d2_19 : decode prog_27_method_1_code 19 = .ok (.return_, 1) := by decide +kernel
theorem ef_2 (m : MethodId) (x0 : Addr) : entryFrame m #[(.ref x0)] 1 = mkF m 0 #[.val (.ref x0)] [] := by first | (simp [entryFrame, mkF, argsToLocals, Value.category]; done) | rfl
def Q2 (Z : State) (o : Addr) (u1 : Value) (u2 : Value) (h0 : Heap) (n0 : Nat) (vα : Option Value) (hα : Heap) (Lα : List Loc) : Prop := ∃ (fb : Addr) (mb : Addr) (kb : ClassId) (km : ClassId), vα = none ∧ Fr n0 Lα ∧ Keep h0 hα [o] ∧ n0 ≤ fb ∧ h0.size ≤ fb ∧ n0 ≤ mb ∧ h0.size ≤ mb ∧ fb ≠ mb ∧ Exa Z hα o "com/example/cairn/cairn/history/Marks" ∧ Fld Z hα o "com/example/cairn/cairn/history/Marks" "flags" "[B" (.ref fb) ∧ Fld Z hα o "com/example/cairn/cairn/history/Marks" "marked" "[I" (.ref mb) ∧ Fld Z hα o "com/example/cairn/cairn/history/Marks" "count" "I" (.int (0 : Int32)) ∧ Arv Z hα fb kb .byte (0 : Int32) [] (.int (0 : Int32)) ∧ Arv Z hα mb km .int (64 : Int32) (List.replicate 64 (.int (0 : Int32))) (.int (0 : Int32))
set_option maxRecDepth 65536 in
set_option maxHeartbeats 40000000 in
theorem rm2 (l : Launch) (Z : State) (a0 : Array Value) (hw : ∀ d ∈ tables_1, d.before a0 Z = true) (ws : List Jvm.Cond) (o : Addr) (u1 : Value) (u2 : Value) (h0 : Heap) (n0 : Nat) (Z0 : n0 ≤ h0.size) (g_o : n0 ≤ o) (E_o : Exa Z h0 o "com/example/cairn/cairn/history/Marks") (F_flags : Fld Z h0 o "com/example/cairn/cairn/history/Marks" "flags" "[B" u1) (F_marked : Fld Z h0 o "com/example/cairn/cairn/history/Marks" "marked" "[I" u2) (F_count : Fld Z h0 o "com/example/cairn/cairn/history/Marks" "count" "I" (.int (0 : Int32))) :
    MetFree l (⟨"com/example/cairn/cairn/history/Marks", "<init>", "()V"⟩ : MethodName) (head1 (Jvm.Cond.code (⟨"com/example/cairn/cairn/history/Marks", "<init>", "()V"⟩ : MethodName) prog_27_method_1_code 1 none :: ws) ({ frames := 1, cells := 2, slots := 64, locals := 12 } : Room)) (fun aα U => aα = #[(.ref o)] ∧ Z.Warmed39 U.vm ∧ U.heap = h0) (fun _ _ _ _ _ => True) (fun _ U oα U' => ∃ vα Lα, oα = .returned vα ∧ Q2 Z o u1 u2 h0 n0 vα U'.heap Lα ∧ FrameEnd U oα U' Lα ({ frames := 1, cells := 2, slots := 64, locals := 12 } : Room).cells ({ frames := 1, cells := 2, slots := 64, locals := 12 } : Room).slots) := by
  refine MetFree.of_bodySF (plainFor_of_name pn_0) hisR ?_
  intro p e s m args below meth c s₁ Bd hml0 hP hK
  refine own_wrap ?_
  intro GL hGL
  obtain ⟨rfl, hZ, hh⟩ := hP
  have hx := Bd.exec
  have hby := Bd.bytes
  have hml : c.maxLocals = 1 := hml0
  have hown : s.vm.findClass "com/example/cairn/cairn/history/Marks" = some m.cls := findClass_of_methodNamed Bd.named
  have hnm := (name_of_methodNamed Bd.named Bd.method).1
  have X0 : Stand p l e ({ frames := 1, cells := 2, slots := 64, locals := 12 } : Room) s m #[(.ref o)] below meth c s₁ [] 0 0 := Stand.of_body Bd
  have e0 : s₁.heap = h0 := by rw [← hh, Bd.state]; rfl
  have N0 := Fr.nil n0
  have pre0 : ∀ τ, Steps p.tables e below (s₁.setTop (mkF m 0 #[.val (.ref o)] [])) τ → Steps p.tables e below (s₁.setTop (entryFrame m #[(.ref o)] 1)) τ := fun τ κ => castTop (ef_2 m o) κ
  obtain ⟨G, hG, pre⟩ : ∃ G : State → Prop, (∀ τ, G τ → Steps p.tables e below (s₁.setTop (entryFrame m #[(.ref o)] 1)) τ) ∧ ∀ τ, Steps p.tables e below (s₁.setTop (mkF m 0 #[.val (.ref o)] [])) τ → G τ := ⟨_, pre0, fun _ k => k⟩
  have K : Keep h0 h0 [o] := Keep.refl h0 _
  have Zn := Z0
  have pre : ∀ τ, Steps p.tables e below (s₁.setTop (mkF m 1 #[.val (.ref o)] [(.ref o)])) τ → G τ := fun τ κ => pre τ (by
    refine XS.aloadN X0.here hx rfl (hb hby d2_0) rfl rfl ?_
    show Steps p.tables e below (s₁.setTop (mkF m 1 #[.val (.ref o)] [(.ref o)])) τ
    exact κ)
  obtain ⟨T1, X1, e1, st1⟩ := initO X0 hx hZ hown (hw _ (List.mem_of_getElem? (i := 11) rfl)) (hw _ (List.mem_of_getElem? (i := 12) rfl)) (hw _ (List.mem_of_getElem? (i := 13) rfl)) e0 (g := (mkF m 1 #[.val (.ref o)] [(.ref o)])) rfl (by rw [hml]; rfl) rfl (hb hby d2_1) (by decide) (W := 0) (by show 2 * 0 + _ ≤ _; exact Nat.le_of_eq rfl) (by decide)
  have pre : ∀ τ, Steps p.tables e below (T1.setTop (mkF m 4 #[.val (.ref o)] [])) τ → G τ := fun τ κ => pre τ (st1 τ κ)
  have pre : ∀ τ, Steps p.tables e below (T1.setTop (mkF m 6 #[.val (.ref o)] [(.int (0 : Int32)), (.ref o)])) τ → G τ := fun τ κ => pre τ (by
    refine XS.aloadN X1.here hx rfl (hb hby d2_4) rfl rfl ?_
    show Steps p.tables e below (T1.setTop (mkF m 5 #[.val (.ref o)] [(.ref o)])) τ
    refine XS.iconst X1.here hx rfl (hb hby d2_5) ?_
    show Steps p.tables e below (T1.setTop (mkF m 6 #[.val (.ref o)] [(.int (0 : Int32)), (.ref o)])) τ
    exact κ)
  obtain ⟨T2, h2, k2, X2, e2, E2, A2, st2⟩ := newP X1 hx hZ (hw _ (List.mem_of_getElem? (i := 14) rfl)) e1 (g := (mkF m 6 #[.val (.ref o)] [(.int (0 : Int32)), (.ref o)])) rfl (hb hby d2_6) rfl (by decide) (cap := 0) (by decide) (by decide) (by decide) (by decide)
  obtain ⟨b2, gg2⟩ : ∃ z, z = h0.size := ⟨_, rfl⟩
  rw [← gg2] at A2 st2
  have ne_o_b2 : o ≠ b2 := Nat.ne_of_lt (Nat.lt_of_lt_of_le E_o.lt (Nat.le_of_eq gg2.symm))
  have g_b2 : n0 ≤ b2 := Nat.le_trans Zn (Nat.le_of_eq gg2.symm)
  have sz_b2 : h0.size ≤ b2 := Nat.le_trans K.1 (Nat.le_of_eq gg2.symm)
  have E_o : Exa Z h2 o "com/example/cairn/cairn/history/Marks" := E_o.ext E2
  have F_flags : Fld Z h2 o "com/example/cairn/cairn/history/Marks" "flags" "[B" u1 := F_flags.ext E2
  have F_marked : Fld Z h2 o "com/example/cairn/cairn/history/Marks" "marked" "[I" u2 := F_marked.ext E2
  have F_count : Fld Z h2 o "com/example/cairn/cairn/history/Marks" "count" "I" (.int (0 : Int32)) := F_count.ext E2
  have Zn : n0 ≤ h2.size := Nat.le_trans Zn E2.1
  have K : Keep h0 h2 [o] := K.ext E2
  have V_b2 : Arv Z h2 b2 k2 .byte (0 : Int32) [] (.int (0 : Int32)) := (Arv.new A2 (by decide)).pad (pad_rep [] (.int (0 : Int32)) 0)
  have pre : ∀ τ, Steps p.tables e below (T2.setTop (mkF m 8 #[.val (.ref o)] [(.ref b2), (.ref o)])) τ → G τ := fun τ κ => pre τ (st2 τ κ)
  obtain ⟨T3, h3, X3, e3, W3, st3⟩ := putF X2 hx hZ hown (host := "") (Or.inl (hw _ (List.mem_of_getElem? (i := 15) rfl))) Via.refl e2 F_flags E_o (Or.inl (hw _ (List.mem_of_getElem? (i := 16) rfl))) (hw _ (List.mem_of_getElem? (i := 6) rfl)) (ty := (.array .byte)) (by decide) rfl rfl (g := (mkF m 8 #[.val (.ref o)] [(.ref b2), (.ref o)])) rfl rfl (hb hby d2_8)
  have F_flags : Fld Z h3 o "com/example/cairn/cairn/history/Marks" "flags" "[B" (.ref b2) := F_flags.same W3
  have E_o : Exa Z h3 o "com/example/cairn/cairn/history/Marks" := E_o.wr W3
  have F_marked : Fld Z h3 o "com/example/cairn/cairn/history/Marks" "marked" "[I" u2 := F_marked.other W3 (Or.inr (slot_ne (Or.inl (hw _ (List.mem_of_getElem? (i := 19) rfl))) (Or.inl (hw _ (List.mem_of_getElem? (i := 16) rfl))) (by decide) (t := (.array .int)) (t' := (.array .byte)) (by decide) (by decide)))
  have F_count : Fld Z h3 o "com/example/cairn/cairn/history/Marks" "count" "I" (.int (0 : Int32)) := F_count.other W3 (Or.inr (slot_ne (Or.inl (hw _ (List.mem_of_getElem? (i := 31) rfl))) (Or.inl (hw _ (List.mem_of_getElem? (i := 16) rfl))) (by decide) (t := .int) (t' := (.array .byte)) (by decide) (by decide)))
  have V_b2 : Arv Z h3 b2 k2 .byte (0 : Int32) [] (.int (0 : Int32)) := V_b2.other W3 (Ne.symm ne_o_b2)
  have Zn : n0 ≤ h3.size := Nat.le_trans Zn (Keep.of_wr W3).1
  have K : Keep h0 h3 [o] := K.wr W3 (Or.inl (List.mem_of_getElem? (i := 0) rfl))
  have NN := Fr.snoc X3 N0 g_o
  have pre : ∀ τ, Steps p.tables e below (T3.setTop (mkF m 11 #[.val (.ref o)] [])) τ → G τ := fun τ κ => pre τ (st3 τ κ)
  have pre : ∀ τ, Steps p.tables e below (T3.setTop (mkF m 14 #[.val (.ref o)] [(.int (64 : Int32)), (.ref o)])) τ → G τ := fun τ κ => pre τ (by
    refine XS.aloadN X3.here hx rfl (hb hby d2_11) rfl rfl ?_
    show Steps p.tables e below (T3.setTop (mkF m 12 #[.val (.ref o)] [(.ref o)])) τ
    refine XS.bipush X3.here hx rfl (hb hby d2_12) ?_
    show Steps p.tables e below (T3.setTop (mkF m 14 #[.val (.ref o)] [(.int (64 : Int32)), (.ref o)])) τ
    exact κ)
  obtain ⟨T4, h4, k4, X4, e4, E4, A4, st4⟩ := newP X3 hx hZ (hw _ (List.mem_of_getElem? (i := 17) rfl)) e3 (g := (mkF m 14 #[.val (.ref o)] [(.int (64 : Int32)), (.ref o)])) rfl (hb hby d2_14) rfl (by decide) (cap := 64) (by decide) (by decide) (by decide) (by decide)
  obtain ⟨b4, gg4⟩ : ∃ z, z = h3.size := ⟨_, rfl⟩
  rw [← gg4] at A4 st4
  have ne_o_b4 : o ≠ b4 := Nat.ne_of_lt (Nat.lt_of_lt_of_le E_o.lt (Nat.le_of_eq gg4.symm))
  have ne_b2_b4 : b2 ≠ b4 := Nat.ne_of_lt (Nat.lt_of_lt_of_le V_b2.lt (Nat.le_of_eq gg4.symm))
  have g_b4 : n0 ≤ b4 := Nat.le_trans Zn (Nat.le_of_eq gg4.symm)
  have sz_b4 : h0.size ≤ b4 := Nat.le_trans K.1 (Nat.le_of_eq gg4.symm)
  have E_o : Exa Z h4 o "com/example/cairn/cairn/history/Marks" := E_o.ext E4
  have F_flags : Fld Z h4 o "com/example/cairn/cairn/history/Marks" "flags" "[B" (.ref b2) := F_flags.ext E4
  have F_marked : Fld Z h4 o "com/example/cairn/cairn/history/Marks" "marked" "[I" u2 := F_marked.ext E4
  have F_count : Fld Z h4 o "com/example/cairn/cairn/history/Marks" "count" "I" (.int (0 : Int32)) := F_count.ext E4
  have V_b2 : Arv Z h4 b2 k2 .byte (0 : Int32) [] (.int (0 : Int32)) := V_b2.ext E4
  have Zn : n0 ≤ h4.size := Nat.le_trans Zn E4.1
  have K : Keep h0 h4 [o] := K.ext E4
  have V_b4 : Arv Z h4 b4 k4 .int (64 : Int32) [] (.int (0 : Int32)) := Arv.new A4 (by decide)
  have pre : ∀ τ, Steps p.tables e below (T4.setTop (mkF m 16 #[.val (.ref o)] [(.ref b4), (.ref o)])) τ → G τ := fun τ κ => pre τ (st4 τ κ)
  obtain ⟨T5, h5, X5, e5, W5, st5⟩ := putF X4 hx hZ hown (host := "") (Or.inl (hw _ (List.mem_of_getElem? (i := 18) rfl))) Via.refl e4 F_marked E_o (Or.inl (hw _ (List.mem_of_getElem? (i := 19) rfl))) (hw _ (List.mem_of_getElem? (i := 6) rfl)) (ty := (.array .int)) (by decide) rfl rfl (g := (mkF m 16 #[.val (.ref o)] [(.ref b4), (.ref o)])) rfl rfl (hb hby d2_16)
  have F_marked : Fld Z h5 o "com/example/cairn/cairn/history/Marks" "marked" "[I" (.ref b4) := F_marked.same W5
  have E_o : Exa Z h5 o "com/example/cairn/cairn/history/Marks" := E_o.wr W5
  have F_flags : Fld Z h5 o "com/example/cairn/cairn/history/Marks" "flags" "[B" (.ref b2) := F_flags.other W5 (Or.inr (slot_ne (Or.inl (hw _ (List.mem_of_getElem? (i := 16) rfl))) (Or.inl (hw _ (List.mem_of_getElem? (i := 19) rfl))) (by decide) (t := (.array .byte)) (t' := (.array .int)) (by decide) (by decide)))
  have F_count : Fld Z h5 o "com/example/cairn/cairn/history/Marks" "count" "I" (.int (0 : Int32)) := F_count.other W5 (Or.inr (slot_ne (Or.inl (hw _ (List.mem_of_getElem? (i := 31) rfl))) (Or.inl (hw _ (List.mem_of_getElem? (i := 19) rfl))) (by decide) (t := .int) (t' := (.array .int)) (by decide) (by decide)))
  have V_b2 : Arv Z h5 b2 k2 .byte (0 : Int32) [] (.int (0 : Int32)) := V_b2.other W5 (Ne.symm ne_o_b2)
  have V_b4 : Arv Z h5 b4 k4 .int (64 : Int32) [] (.int (0 : Int32)) := V_b4.other W5 (Ne.symm ne_o_b4)
  have Zn : n0 ≤ h5.size := Nat.le_trans Zn (Keep.of_wr W5).1
  have K : Keep h0 h5 [o] := K.wr W5 (Or.inl (List.mem_of_getElem? (i := 0) rfl))
  have NN := Fr.snoc X5 NN g_o
  have pre : ∀ τ, Steps p.tables e below (T5.setTop (mkF m 19 #[.val (.ref o)] [])) τ → G τ := fun τ κ => pre τ (st5 τ κ)
  obtain ⟨fsα, hr, hrun, hended, hW, hsame⟩ := X5.leave (v := none) (fun _ => rfl)
  refine hGL ⟨_, _, hG _ (pre _ ?_), hrun, hended, _, _, rfl, ?_, ⟨_, rfl⟩, hW, hsame.mono (by decide) (by decide)⟩
  · exact X5.returnOut hx Bd.returns (hb hby d2_19) hr
  · show Q2 Z o u1 u2 h0 n0 _ T5.heap _
    rw [e5]
    exact ⟨b2, b4, _, _, rfl, NN, K, g_b2, sz_b2, g_b4, sz_b4, ne_b2_b4, E_o, F_flags, F_marked, F_count, V_b2, own_zero V_b4⟩
theorem d4_0 : decode prog_27_method_2_code 0 = .ok (.aload_n 0, 1) := by decide +kernel
theorem d4_1 : decode prog_27_method_2_code 1 = .ok (.getfield 7, 3) := by decide +kernel
theorem d4_4 : decode prog_27_method_2_code 4 = .ok (.arraylength, 1) := by decide +kernel
theorem d4_5 : decode prog_27_method_2_code 5 = .ok (.iload_n 1, 1) := by decide +kernel
theorem d4_6 : decode prog_27_method_2_code 6 = .ok (.if_icmp .ge 10, 3) := by decide +kernel
theorem d4_9 : decode prog_27_method_2_code 9 = .ok (.aload_n 0, 1) := by decide +kernel
theorem d4_10 : decode prog_27_method_2_code 10 = .ok (.iload_n 1, 1) := by decide +kernel
theorem d4_11 : decode prog_27_method_2_code 11 = .ok (.newarray .byte, 2) := by decide +kernel
theorem d4_13 : decode prog_27_method_2_code 13 = .ok (.putfield 7, 3) := by decide +kernel
theorem d4_16 : decode prog_27_method_2_code 16 = .ok (.return_, 1) := by decide +kernel
theorem ef_4 (m : MethodId) (x0 : Addr) (x1 : Int32) : entryFrame m #[(.ref x0), (.int x1)] 2 = mkF m 0 #[.val (.ref x0), .val (.int x1)] [] := by first | (simp [entryFrame, mkF, argsToLocals, Value.category]; done) | rfl
def Q4 (Z : State) (o : Addr) (k : Int32) (fb : Addr) (mb : Addr) (kb : ClassId) (km : ClassId) (z : Int32) (cn : Int32) (fs : List Value) (ms : List Value) (h0 : Heap) (n0 : Nat) (vα : Option Value) (hα : Heap) (Lα : List Loc) : Prop := ∃ (fc : Addr) (kd : ClassId), vα = none ∧ Fr n0 Lα ∧ Keep h0 hα [o] ∧ n0 ≤ fc ∧ o ≠ fc ∧ mb ≠ fc ∧ Exa Z hα o "com/example/cairn/cairn/history/Marks" ∧ Fld Z hα o "com/example/cairn/cairn/history/Marks" "flags" "[B" (.ref fc) ∧ Fld Z hα o "com/example/cairn/cairn/history/Marks" "marked" "[I" (.ref mb) ∧ Fld Z hα o "com/example/cairn/cairn/history/Marks" "count" "I" (.int cn) ∧ Arv Z hα fc kd .byte (own_rz z k) (own_rf z k fs) (.int (0 : Int32))
set_option maxRecDepth 65536 in
set_option maxHeartbeats 40000000 in
theorem rm4 (l : Launch) (Z : State) (a0 : Array Value) (hw : ∀ d ∈ tables_1, d.before a0 Z = true) (ws : List Jvm.Cond) (o : Addr) (k : Int32) (fb : Addr) (mb : Addr) (kb : ClassId) (km : ClassId) (z : Int32) (cn : Int32) (fs : List Value) (ms : List Value) (h0 : Heap) (n0 : Nat) (Z0 : n0 ≤ h0.size) (g_o : n0 ≤ o) (E_o : Exa Z h0 o "com/example/cairn/cairn/history/Marks") (F_flags : Fld Z h0 o "com/example/cairn/cairn/history/Marks" "flags" "[B" (.ref fb)) (F_marked : Fld Z h0 o "com/example/cairn/cairn/history/Marks" "marked" "[I" (.ref mb)) (F_count : Fld Z h0 o "com/example/cairn/cairn/history/Marks" "count" "I" (.int cn)) (V_f : Arv Z h0 fb kb .byte z fs (.int (0 : Int32))) (V_m : Arv Z h0 mb km .int (64 : Int32) ms (.int (0 : Int32))) (ne_o__mb : o ≠ mb) (ne_o__fb : o ≠ fb) (ne_mb__fb : mb ≠ fb) (hk0 : ¬ k < 0) (hkc : k.toNatClampNeg ≤ 8) (g_fb : n0 ≤ fb) :
    MetFree l (⟨"com/example/cairn/cairn/history/Marks", "reserve", "(I)V"⟩ : MethodName) (head1 (Jvm.Cond.code (⟨"com/example/cairn/cairn/history/Marks", "reserve", "(I)V"⟩ : MethodName) prog_27_method_2_code 2 none :: ws) ({ frames := 0, cells := 1, slots := 8, locals := 0 } : Room)) (fun aα U => aα = #[(.ref o), (.int k)] ∧ Z.Warmed39 U.vm ∧ U.heap = h0) (fun _ _ _ _ _ => True) (fun _ U oα U' => ∃ vα Lα, oα = .returned vα ∧ Q4 Z o k fb mb kb km z cn fs ms h0 n0 vα U'.heap Lα ∧ FrameEnd U oα U' Lα ({ frames := 0, cells := 1, slots := 8, locals := 0 } : Room).cells ({ frames := 0, cells := 1, slots := 8, locals := 0 } : Room).slots) := by
  refine MetFree.of_bodySF (plainFor_of_name pn_0) hisR ?_
  intro p e s m args below meth c s₁ Bd hml0 hP hK
  refine own_wrap ?_
  intro GL hGL
  obtain ⟨rfl, hZ, hh⟩ := hP
  have hx := Bd.exec
  have hby := Bd.bytes
  have hml : c.maxLocals = 2 := hml0
  have hown : s.vm.findClass "com/example/cairn/cairn/history/Marks" = some m.cls := findClass_of_methodNamed Bd.named
  have hnm := (name_of_methodNamed Bd.named Bd.method).1
  have X0 : Stand p l e ({ frames := 0, cells := 1, slots := 8, locals := 0 } : Room) s m #[(.ref o), (.int k)] below meth c s₁ [] 0 0 := Stand.of_body Bd
  have e0 : s₁.heap = h0 := by rw [← hh, Bd.state]; rfl
  have N0 := Fr.nil n0
  have pre0 : ∀ τ, Steps p.tables e below (s₁.setTop (mkF m 0 #[.val (.ref o), .val (.int k)] [])) τ → Steps p.tables e below (s₁.setTop (entryFrame m #[(.ref o), (.int k)] 2)) τ := fun τ κ => castTop (ef_4 m o k) κ
  obtain ⟨G, hG, pre⟩ : ∃ G : State → Prop, (∀ τ, G τ → Steps p.tables e below (s₁.setTop (entryFrame m #[(.ref o), (.int k)] 2)) τ) ∧ ∀ τ, Steps p.tables e below (s₁.setTop (mkF m 0 #[.val (.ref o), .val (.int k)] [])) τ → G τ := ⟨_, pre0, fun _ k => k⟩
  have K : Keep h0 h0 [o] := Keep.refl h0 _
  have Zn := Z0
  have pre : ∀ τ, Steps p.tables e below (s₁.setTop (mkF m 1 #[.val (.ref o), .val (.int k)] [(.ref o)])) τ → G τ := fun τ κ => pre τ (by
    refine XS.aloadN X0.here hx rfl (hb hby d4_0) rfl rfl ?_
    show Steps p.tables e below (s₁.setTop (mkF m 1 #[.val (.ref o), .val (.int k)] [(.ref o)])) τ
    exact κ)
  obtain ⟨T1, X1, e1, st1⟩ := getF X0 hx hZ hown (host := "") (Or.inl (hw _ (List.mem_of_getElem? (i := 15) rfl))) Via.refl e0 F_flags (g := (mkF m 1 #[.val (.ref o), .val (.int k)] [(.ref o)])) rfl rfl (hb hby d4_1)
  have pre : ∀ τ, Steps p.tables e below (T1.setTop (mkF m 4 #[.val (.ref o), .val (.int k)] [(.ref fb)])) τ → G τ := fun τ κ => pre τ (st1 τ κ)
  obtain ⟨c2, Ar2, -, S2, N2, -, -⟩ := id V_f
  have pre : ∀ τ, Steps p.tables e below (T1.setTop (mkF m 5 #[.val (.ref o), .val (.int k)] [(.int z)])) τ → G τ := fun τ κ => pre τ (by
    refine X1.arraylength hx (by rw [e1]; exact Ar2.1) (State.isArrayOf_alike hZ.alike Ar2.2.1) (g := (mkF m 4 #[.val (.ref o), .val (.int k)] [(.ref fb)])) rfl rfl (hb hby d4_4) _ ?_
    rw [len_of S2 N2]
    exact κ)
  have pre : ∀ τ, Steps p.tables e below (T1.setTop (mkF m 6 #[.val (.ref o), .val (.int k)] [(.int k), (.int z)])) τ → G τ := fun τ κ => pre τ (by
    refine XS.iloadN X1.here hx rfl (hb hby d4_5) rfl ?_
    show Steps p.tables e below (T1.setTop (mkF m 6 #[.val (.ref o), .val (.int k)] [(.int k), (.int z)])) τ
    exact κ)
  rcases Classical.em (z < k) with hc6_3 | hc6_3
  ·
    have pre : ∀ τ, Steps p.tables e below (T1.setTop (mkF m 11 #[.val (.ref o), .val (.int k)] [(.int k), (.ref o)])) τ → G τ := fun τ κ => pre τ (by
      refine XS.icmpNo X1.here hx rfl (hb hby d4_6) rfl (tlt hc6_3).2.1 ?_
      show Steps p.tables e below (T1.setTop (mkF m 9 #[.val (.ref o), .val (.int k)] [])) τ
      refine XS.aloadN X1.here hx rfl (hb hby d4_9) rfl rfl ?_
      show Steps p.tables e below (T1.setTop (mkF m 10 #[.val (.ref o), .val (.int k)] [(.ref o)])) τ
      refine XS.iloadN X1.here hx rfl (hb hby d4_10) rfl ?_
      show Steps p.tables e below (T1.setTop (mkF m 11 #[.val (.ref o), .val (.int k)] [(.int k), (.ref o)])) τ
      exact κ)
    obtain ⟨T4, h4, k4, X4, e4, E4, A4, st4⟩ := newP X1 hx hZ (hw _ (List.mem_of_getElem? (i := 14) rfl)) e1 (g := (mkF m 11 #[.val (.ref o), .val (.int k)] [(.int k), (.ref o)])) rfl (hb hby d4_11) rfl hk0 (cap := 8) hkc (by decide) (by decide) (by decide)
    obtain ⟨b4, gg4⟩ : ∃ z, z = h0.size := ⟨_, rfl⟩
    rw [← gg4] at A4 st4
    have ne_o_b4 : o ≠ b4 := Nat.ne_of_lt (Nat.lt_of_lt_of_le E_o.lt (Nat.le_of_eq gg4.symm))
    have ne_fb_b4 : fb ≠ b4 := Nat.ne_of_lt (Nat.lt_of_lt_of_le V_f.lt (Nat.le_of_eq gg4.symm))
    have ne_mb_b4 : mb ≠ b4 := Nat.ne_of_lt (Nat.lt_of_lt_of_le V_m.lt (Nat.le_of_eq gg4.symm))
    have g_b4 : n0 ≤ b4 := Nat.le_trans Zn (Nat.le_of_eq gg4.symm)
    have sz_b4 : h0.size ≤ b4 := Nat.le_trans K.1 (Nat.le_of_eq gg4.symm)
    have E_o : Exa Z h4 o "com/example/cairn/cairn/history/Marks" := E_o.ext E4
    have F_flags : Fld Z h4 o "com/example/cairn/cairn/history/Marks" "flags" "[B" (.ref fb) := F_flags.ext E4
    have F_marked : Fld Z h4 o "com/example/cairn/cairn/history/Marks" "marked" "[I" (.ref mb) := F_marked.ext E4
    have F_count : Fld Z h4 o "com/example/cairn/cairn/history/Marks" "count" "I" (.int cn) := F_count.ext E4
    have V_f : Arv Z h4 fb kb .byte z fs (.int (0 : Int32)) := V_f.ext E4
    have V_m : Arv Z h4 mb km .int (64 : Int32) ms (.int (0 : Int32)) := V_m.ext E4
    have Zn : n0 ≤ h4.size := Nat.le_trans Zn E4.1
    have K : Keep h0 h4 [o] := K.ext E4
    have V_b4 : Arv Z h4 b4 k4 .byte k [] (.int (0 : Int32)) := Arv.new A4 hk0
    have pre : ∀ τ, Steps p.tables e below (T4.setTop (mkF m 13 #[.val (.ref o), .val (.int k)] [(.ref b4), (.ref o)])) τ → G τ := fun τ κ => pre τ (st4 τ κ)
    obtain ⟨T5, h5, X5, e5, W5, st5⟩ := putF X4 hx hZ hown (host := "") (Or.inl (hw _ (List.mem_of_getElem? (i := 15) rfl))) Via.refl e4 F_flags E_o (Or.inl (hw _ (List.mem_of_getElem? (i := 16) rfl))) (hw _ (List.mem_of_getElem? (i := 6) rfl)) (ty := (.array .byte)) (by decide) rfl rfl (g := (mkF m 13 #[.val (.ref o), .val (.int k)] [(.ref b4), (.ref o)])) rfl rfl (hb hby d4_13)
    have F_flags : Fld Z h5 o "com/example/cairn/cairn/history/Marks" "flags" "[B" (.ref b4) := F_flags.same W5
    have E_o : Exa Z h5 o "com/example/cairn/cairn/history/Marks" := E_o.wr W5
    have F_marked : Fld Z h5 o "com/example/cairn/cairn/history/Marks" "marked" "[I" (.ref mb) := F_marked.other W5 (Or.inr (slot_ne (Or.inl (hw _ (List.mem_of_getElem? (i := 19) rfl))) (Or.inl (hw _ (List.mem_of_getElem? (i := 16) rfl))) (by decide) (t := (.array .int)) (t' := (.array .byte)) (by decide) (by decide)))
    have F_count : Fld Z h5 o "com/example/cairn/cairn/history/Marks" "count" "I" (.int cn) := F_count.other W5 (Or.inr (slot_ne (Or.inl (hw _ (List.mem_of_getElem? (i := 31) rfl))) (Or.inl (hw _ (List.mem_of_getElem? (i := 16) rfl))) (by decide) (t := .int) (t' := (.array .byte)) (by decide) (by decide)))
    have V_f : Arv Z h5 fb kb .byte z fs (.int (0 : Int32)) := V_f.other W5 (Ne.symm ne_o__fb)
    have V_m : Arv Z h5 mb km .int (64 : Int32) ms (.int (0 : Int32)) := V_m.other W5 (Ne.symm ne_o__mb)
    have V_b4 : Arv Z h5 b4 k4 .byte k [] (.int (0 : Int32)) := V_b4.other W5 (Ne.symm ne_o_b4)
    have Zn : n0 ≤ h5.size := Nat.le_trans Zn (Keep.of_wr W5).1
    have K : Keep h0 h5 [o] := K.wr W5 (Or.inl (List.mem_of_getElem? (i := 0) rfl))
    have NN := Fr.snoc X5 N0 g_o
    have pre : ∀ τ, Steps p.tables e below (T5.setTop (mkF m 16 #[.val (.ref o), .val (.int k)] [])) τ → G τ := fun τ κ => pre τ (st5 τ κ)
    obtain ⟨fsα, hr, hrun, hended, hW, hsame⟩ := X5.leave (v := none) (fun _ => rfl)
    refine hGL ⟨_, _, hG _ (pre _ ?_), hrun, hended, _, _, rfl, ?_, ⟨_, rfl⟩, hW, hsame.mono (by decide) (by decide)⟩
    · exact X5.returnOut hx Bd.returns (hb hby d4_16) hr
    · show Q4 Z o k fb mb kb km z cn fs ms h0 n0 _ T5.heap _
      rw [e5]
      refine ⟨b4, k4, rfl, NN, K, g_b4, ne_o_b4, ne_mb_b4, E_o, F_flags, F_marked, F_count, ?_⟩
      unfold own_rz own_rf
      rw [if_pos hc6_3, if_pos hc6_3]
      exact own_zero V_b4
  ·
    have pre : ∀ τ, Steps p.tables e below (T1.setTop (mkF m 16 #[.val (.ref o), .val (.int k)] [])) τ → G τ := fun τ κ => pre τ (by
      refine XS.icmpYes X1.here hx rfl (pc0 := 6) (pc' := 16) rfl (hb hby d4_6) rfl (flt hc6_3).2.1 (by decide) (by decide) ?_
      show Steps p.tables e below (T1.setTop (mkF m 16 #[.val (.ref o), .val (.int k)] [])) τ
      exact κ)
    obtain ⟨fsα, hr, hrun, hended, hW, hsame⟩ := X1.leave (v := none) (fun _ => rfl)
    refine hGL ⟨_, _, hG _ (pre _ ?_), hrun, hended, _, _, rfl, ?_, ⟨_, rfl⟩, hW, hsame.mono (by decide) (by decide)⟩
    · exact X1.returnOut hx Bd.returns (hb hby d4_16) hr
    · show Q4 Z o k fb mb kb km z cn fs ms h0 n0 _ T1.heap _
      rw [e1]
      refine ⟨fb, kb, rfl, N0, K, g_fb, ne_o__fb, ne_mb__fb, E_o, F_flags, F_marked, F_count, ?_⟩
      unfold own_rz own_rf
      rw [if_neg hc6_3, if_neg hc6_3]
      exact V_f
theorem d7_0 : decode prog_27_method_3_code 0 = .ok (.aload_n 0, 1) := by decide +kernel
theorem d7_1 : decode prog_27_method_3_code 1 = .ok (.getfield 7, 3) := by decide +kernel
theorem d7_4 : decode prog_27_method_3_code 4 = .ok (.iload_n 1, 1) := by decide +kernel
theorem d7_5 : decode prog_27_method_3_code 5 = .ok (.baload, 1) := by decide +kernel
theorem d7_6 : decode prog_27_method_3_code 6 = .ok (.sipush 255, 3) := by decide +kernel
theorem d7_9 : decode prog_27_method_3_code 9 = .ok (.iand, 1) := by decide +kernel
theorem d7_10 : decode prog_27_method_3_code 10 = .ok (.ireturn, 1) := by decide +kernel
theorem ef_7 (m : MethodId) (x0 : Addr) (x1 : Int32) : entryFrame m #[(.ref x0), (.int x1)] 2 = mkF m 0 #[.val (.ref x0), .val (.int x1)] [] := by first | (simp [entryFrame, mkF, argsToLocals, Value.category]; done) | rfl
def Q7 (Z : State) (o : Addr) (k : Int32) (fb : Addr) (kb : ClassId) (z : Int32) (fs : List Value) (h0 : Heap) (n0 : Nat) (vα : Option Value) (hα : Heap) (Lα : List Loc) : Prop := vα = some (.int (own_at fs k &&& (255 : Int32))) ∧ Fr n0 Lα ∧ hα = h0
set_option maxRecDepth 65536 in
set_option maxHeartbeats 40000000 in
theorem rm7 (l : Launch) (Z : State) (a0 : Array Value) (hw : ∀ d ∈ tables_1, d.before a0 Z = true) (ws : List Jvm.Cond) (o : Addr) (k : Int32) (fb : Addr) (kb : ClassId) (z : Int32) (fs : List Value) (h0 : Heap) (n0 : Nat) (Z0 : n0 ≤ h0.size) (F_flags : Fld Z h0 o "com/example/cairn/cairn/history/Marks" "flags" "[B" (.ref fb)) (V_f : Arv Z h0 fb kb .byte z fs (.int (0 : Int32))) (hk : ¬ k < 0 ∧ k < z) :
    MetFree l (⟨"com/example/cairn/cairn/history/Marks", "get", "(I)I"⟩ : MethodName) (head1 (Jvm.Cond.code (⟨"com/example/cairn/cairn/history/Marks", "get", "(I)I"⟩ : MethodName) prog_27_method_3_code 2 (some .int) :: ws) ({ frames := 0, cells := 0, slots := 0, locals := 0 } : Room)) (fun aα U => aα = #[(.ref o), (.int k)] ∧ Z.Warmed39 U.vm ∧ U.heap = h0) (fun _ _ _ _ _ => True) (fun _ U oα U' => ∃ vα Lα, oα = .returned vα ∧ Q7 Z o k fb kb z fs h0 n0 vα U'.heap Lα ∧ FrameEnd U oα U' Lα ({ frames := 0, cells := 0, slots := 0, locals := 0 } : Room).cells ({ frames := 0, cells := 0, slots := 0, locals := 0 } : Room).slots) := by
  refine MetFree.of_bodySF (plainFor_of_name pn_0) hisR ?_
  intro p e s m args below meth c s₁ Bd hml0 hP hK
  refine own_wrap ?_
  intro GL hGL
  obtain ⟨rfl, hZ, hh⟩ := hP
  have hx := Bd.exec
  have hby := Bd.bytes
  have hml : c.maxLocals = 2 := hml0
  have hown : s.vm.findClass "com/example/cairn/cairn/history/Marks" = some m.cls := findClass_of_methodNamed Bd.named
  have hnm := (name_of_methodNamed Bd.named Bd.method).1
  have X0 : Stand p l e ({ frames := 0, cells := 0, slots := 0, locals := 0 } : Room) s m #[(.ref o), (.int k)] below meth c s₁ [] 0 0 := Stand.of_body Bd
  have e0 : s₁.heap = h0 := by rw [← hh, Bd.state]; rfl
  have N0 := Fr.nil n0
  have pre0 : ∀ τ, Steps p.tables e below (s₁.setTop (mkF m 0 #[.val (.ref o), .val (.int k)] [])) τ → Steps p.tables e below (s₁.setTop (entryFrame m #[(.ref o), (.int k)] 2)) τ := fun τ κ => castTop (ef_7 m o k) κ
  obtain ⟨G, hG, pre⟩ : ∃ G : State → Prop, (∀ τ, G τ → Steps p.tables e below (s₁.setTop (entryFrame m #[(.ref o), (.int k)] 2)) τ) ∧ ∀ τ, Steps p.tables e below (s₁.setTop (mkF m 0 #[.val (.ref o), .val (.int k)] [])) τ → G τ := ⟨_, pre0, fun _ k => k⟩
  have K : Keep h0 h0 [] := Keep.refl h0 _
  have Zn := Z0
  have pre : ∀ τ, Steps p.tables e below (s₁.setTop (mkF m 1 #[.val (.ref o), .val (.int k)] [(.ref o)])) τ → G τ := fun τ κ => pre τ (by
    refine XS.aloadN X0.here hx rfl (hb hby d7_0) rfl rfl ?_
    show Steps p.tables e below (s₁.setTop (mkF m 1 #[.val (.ref o), .val (.int k)] [(.ref o)])) τ
    exact κ)
  obtain ⟨T1, X1, e1, st1⟩ := getF X0 hx hZ hown (host := "") (Or.inl (hw _ (List.mem_of_getElem? (i := 15) rfl))) Via.refl e0 F_flags (g := (mkF m 1 #[.val (.ref o), .val (.int k)] [(.ref o)])) rfl rfl (hb hby d7_1)
  have pre : ∀ τ, Steps p.tables e below (T1.setTop (mkF m 4 #[.val (.ref o), .val (.int k)] [(.ref fb)])) τ → G τ := fun τ κ => pre τ (st1 τ κ)
  have pre : ∀ τ, Steps p.tables e below (T1.setTop (mkF m 5 #[.val (.ref o), .val (.int k)] [(.int k), (.ref fb)])) τ → G τ := fun τ κ => pre τ (by
    refine XS.iloadN X1.here hx rfl (hb hby d7_4) rfl ?_
    show Steps p.tables e below (T1.setTop (mkF m 5 #[.val (.ref o), .val (.int k)] [(.int k), (.ref fb)])) τ
    exact κ)
  obtain ⟨c2, Ar2, q2, S2, Nz2, Hh2, Gg2⟩ := id V_f
  have hin2 : ¬ (k < 0 ∨ c2.slots.size ≤ (k).toNatClampNeg) := inb_of S2 hk
  have hat2 : c2.slots[(k).toNatClampNeg]? = some (.int (own_at fs k)) := own_getB Hh2 Gg2 hin2
  have pre : ∀ τ, Steps p.tables e below (T1.setTop (mkF m 6 #[.val (.ref o), .val (.int k)] [(.int (own_at fs k))])) τ → G τ := fun τ κ => pre τ (X1.baloadBytes hx (j := k) (v := (.int (own_at fs k))) (by rw [e1]; exact Ar2.1) (State.isArrayOf_alike hZ.alike Ar2.2.1) Ar2.2.2 hin2 hat2 (g := (mkF m 5 #[.val (.ref o), .val (.int k)] [(.int k), (.ref fb)])) rfl rfl (hb hby d7_5) _ κ)
  have pre : ∀ τ, Steps p.tables e below (T1.setTop (mkF m 10 #[.val (.ref o), .val (.int k)] [(.int ((own_at fs k) &&& (255 : Int32)))])) τ → G τ := fun τ κ => pre τ (by
    refine XS.sipush X1.here hx rfl (hb hby d7_6) ?_
    show Steps p.tables e below (T1.setTop (mkF m 9 #[.val (.ref o), .val (.int k)] [(.int (255 : Int32)), (.int (own_at fs k))])) τ
    refine XS.iand X1.here hx rfl (hb hby d7_9) rfl ?_
    show Steps p.tables e below (T1.setTop (mkF m 10 #[.val (.ref o), .val (.int k)] [(.int ((own_at fs k) &&& (255 : Int32)))])) τ
    exact κ)
  obtain ⟨fsα, hr, hrun, hended, hW, hsame⟩ := X1.leave (v := some (.int ((own_at fs k) &&& (255 : Int32)))) (fun h => by rw [Bd.returns] at h; cases h)
  refine hGL ⟨_, _, hG _ (pre _ ?_), hrun, hended, _, _, rfl, ?_, ⟨_, rfl⟩, hW, hsame.mono (by decide) (by decide)⟩
  · exact retOut X1 hx Bd.returns rfl (Or.inl ⟨rfl, Or.inl rfl, _, rfl⟩) (hb hby d7_10) hr
  · show Q7 Z o k fb kb z fs h0 n0 _ T1.heap _
    rw [e1]
    exact ⟨rfl, N0, rfl⟩
theorem d5_0 : decode prog_27_method_4_code 0 = .ok (.aload_n 0, 1) := by decide +kernel
theorem d5_1 : decode prog_27_method_4_code 1 = .ok (.getfield 7, 3) := by decide +kernel
theorem d5_4 : decode prog_27_method_4_code 4 = .ok (.iload_n 1, 1) := by decide +kernel
theorem d5_5 : decode prog_27_method_4_code 5 = .ok (.baload, 1) := by decide +kernel
theorem d5_6 : decode prog_27_method_4_code 6 = .ok (.ifCond .ne 49, 3) := by decide +kernel
theorem d5_9 : decode prog_27_method_4_code 9 = .ok (.aload_n 0, 1) := by decide +kernel
theorem d5_10 : decode prog_27_method_4_code 10 = .ok (.getfield 17, 3) := by decide +kernel
theorem d5_13 : decode prog_27_method_4_code 13 = .ok (.aload_n 0, 1) := by decide +kernel
theorem d5_14 : decode prog_27_method_4_code 14 = .ok (.getfield 13, 3) := by decide +kernel
theorem d5_17 : decode prog_27_method_4_code 17 = .ok (.arraylength, 1) := by decide +kernel
theorem d5_18 : decode prog_27_method_4_code 18 = .ok (.if_icmp .ne 20, 3) := by decide +kernel
theorem d5_38 : decode prog_27_method_4_code 38 = .ok (.aload_n 0, 1) := by decide +kernel
theorem d5_39 : decode prog_27_method_4_code 39 = .ok (.getfield 13, 3) := by decide +kernel
theorem d5_42 : decode prog_27_method_4_code 42 = .ok (.aload_n 0, 1) := by decide +kernel
theorem d5_43 : decode prog_27_method_4_code 43 = .ok (.dup, 1) := by decide +kernel
theorem d5_44 : decode prog_27_method_4_code 44 = .ok (.getfield 17, 3) := by decide +kernel
theorem d5_47 : decode prog_27_method_4_code 47 = .ok (.dup_x1, 1) := by decide +kernel
theorem d5_48 : decode prog_27_method_4_code 48 = .ok (.iconst 1, 1) := by decide +kernel
theorem d5_49 : decode prog_27_method_4_code 49 = .ok (.iadd, 1) := by decide +kernel
theorem d5_50 : decode prog_27_method_4_code 50 = .ok (.putfield 17, 3) := by decide +kernel
theorem d5_53 : decode prog_27_method_4_code 53 = .ok (.iload_n 1, 1) := by decide +kernel
theorem d5_54 : decode prog_27_method_4_code 54 = .ok (.iastore, 1) := by decide +kernel
theorem d5_55 : decode prog_27_method_4_code 55 = .ok (.aload_n 0, 1) := by decide +kernel
theorem d5_56 : decode prog_27_method_4_code 56 = .ok (.getfield 7, 3) := by decide +kernel
theorem d5_59 : decode prog_27_method_4_code 59 = .ok (.iload_n 1, 1) := by decide +kernel
theorem d5_60 : decode prog_27_method_4_code 60 = .ok (.iload_n 2, 1) := by decide +kernel
theorem d5_61 : decode prog_27_method_4_code 61 = .ok (.i2b, 1) := by decide +kernel
theorem d5_62 : decode prog_27_method_4_code 62 = .ok (.bastore, 1) := by decide +kernel
theorem d5_63 : decode prog_27_method_4_code 63 = .ok (.return_, 1) := by decide +kernel
theorem ef_5 (m : MethodId) (x0 : Addr) (x1 : Int32) (x2 : Int32) : entryFrame m #[(.ref x0), (.int x1), (.int x2)] 3 = mkF m 0 #[.val (.ref x0), .val (.int x1), .val (.int x2)] [] := by first | (simp [entryFrame, mkF, argsToLocals, Value.category]; done) | rfl
def Q5 (Z : State) (o : Addr) (k : Int32) (vv : Int32) (fb : Addr) (mb : Addr) (kb : ClassId) (km : ClassId) (z : Int32) (cn : Int32) (fs : List Value) (ms : List Value) (h0 : Heap) (n0 : Nat) (vα : Option Value) (hα : Heap) (Lα : List Loc) : Prop := vα = none ∧ Fr n0 Lα ∧ Keep h0 hα [o, mb, fb] ∧ Exa Z hα o "com/example/cairn/cairn/history/Marks" ∧ Fld Z hα o "com/example/cairn/cairn/history/Marks" "flags" "[B" (.ref fb) ∧ Fld Z hα o "com/example/cairn/cairn/history/Marks" "marked" "[I" (.ref mb) ∧ Fld Z hα o "com/example/cairn/cairn/history/Marks" "count" "I" (.int (own_sc fs k cn)) ∧ Arv Z hα fb kb .byte z (own_sf fs k vv) (.int (0 : Int32)) ∧ Arv Z hα mb km .int (64 : Int32) (own_sm fs ms k cn) (.int (0 : Int32))
set_option maxRecDepth 65536 in
set_option maxHeartbeats 40000000 in
theorem rm5 (l : Launch) (Z : State) (a0 : Array Value) (hw : ∀ d ∈ tables_1, d.before a0 Z = true) (ws : List Jvm.Cond) (o : Addr) (k : Int32) (vv : Int32) (fb : Addr) (mb : Addr) (kb : ClassId) (km : ClassId) (z : Int32) (cn : Int32) (fs : List Value) (ms : List Value) (h0 : Heap) (n0 : Nat) (Z0 : n0 ≤ h0.size) (g_o : n0 ≤ o) (g_mb : n0 ≤ mb) (g_fb : n0 ≤ fb) (E_o : Exa Z h0 o "com/example/cairn/cairn/history/Marks") (F_flags : Fld Z h0 o "com/example/cairn/cairn/history/Marks" "flags" "[B" (.ref fb)) (F_marked : Fld Z h0 o "com/example/cairn/cairn/history/Marks" "marked" "[I" (.ref mb)) (F_count : Fld Z h0 o "com/example/cairn/cairn/history/Marks" "count" "I" (.int cn)) (V_f : Arv Z h0 fb kb .byte z fs (.int (0 : Int32))) (V_m : Arv Z h0 mb km .int (64 : Int32) ms (.int (0 : Int32))) (ne_o__mb : o ≠ mb) (ne_o__fb : o ≠ fb) (ne_mb__fb : mb ≠ fb) (hk : ¬ k < 0 ∧ k < z) (hcn : 0 ≤ cn.toInt ∧ cn.toInt < 64) (hms : ms.length = 64) (hfs : fs.length = z.toNatClampNeg) :
    MetFree l (⟨"com/example/cairn/cairn/history/Marks", "set", "(II)V"⟩ : MethodName) (head1 (Jvm.Cond.code (⟨"com/example/cairn/cairn/history/Marks", "set", "(II)V"⟩ : MethodName) prog_27_method_4_code 3 none :: ws) ({ frames := 0, cells := 0, slots := 0, locals := 0 } : Room)) (fun aα U => aα = #[(.ref o), (.int k), (.int vv)] ∧ Z.Warmed39 U.vm ∧ U.heap = h0) (fun _ _ _ _ _ => True) (fun _ U oα U' => ∃ vα Lα, oα = .returned vα ∧ Q5 Z o k vv fb mb kb km z cn fs ms h0 n0 vα U'.heap Lα ∧ FrameEnd U oα U' Lα ({ frames := 0, cells := 0, slots := 0, locals := 0 } : Room).cells ({ frames := 0, cells := 0, slots := 0, locals := 0 } : Room).slots) := by
  refine MetFree.of_bodySF (plainFor_of_name pn_0) hisR ?_
  intro p e s m args below meth c s₁ Bd hml0 hP hK
  refine own_wrap ?_
  intro GL hGL
  obtain ⟨rfl, hZ, hh⟩ := hP
  have hx := Bd.exec
  have hby := Bd.bytes
  have hml : c.maxLocals = 3 := hml0
  have hown : s.vm.findClass "com/example/cairn/cairn/history/Marks" = some m.cls := findClass_of_methodNamed Bd.named
  have hnm := (name_of_methodNamed Bd.named Bd.method).1
  have X0 : Stand p l e ({ frames := 0, cells := 0, slots := 0, locals := 0 } : Room) s m #[(.ref o), (.int k), (.int vv)] below meth c s₁ [] 0 0 := Stand.of_body Bd
  have e0 : s₁.heap = h0 := by rw [← hh, Bd.state]; rfl
  have N0 := Fr.nil n0
  have pre0 : ∀ τ, Steps p.tables e below (s₁.setTop (mkF m 0 #[.val (.ref o), .val (.int k), .val (.int vv)] [])) τ → Steps p.tables e below (s₁.setTop (entryFrame m #[(.ref o), (.int k), (.int vv)] 3)) τ := fun τ κ => castTop (ef_5 m o k vv) κ
  obtain ⟨G, hG, pre⟩ : ∃ G : State → Prop, (∀ τ, G τ → Steps p.tables e below (s₁.setTop (entryFrame m #[(.ref o), (.int k), (.int vv)] 3)) τ) ∧ ∀ τ, Steps p.tables e below (s₁.setTop (mkF m 0 #[.val (.ref o), .val (.int k), .val (.int vv)] [])) τ → G τ := ⟨_, pre0, fun _ k => k⟩
  have K : Keep h0 h0 [o, mb, fb] := Keep.refl h0 _
  have Zn := Z0
  have pre : ∀ τ, Steps p.tables e below (s₁.setTop (mkF m 1 #[.val (.ref o), .val (.int k), .val (.int vv)] [(.ref o)])) τ → G τ := fun τ κ => pre τ (by
    refine XS.aloadN X0.here hx rfl (hb hby d5_0) rfl rfl ?_
    show Steps p.tables e below (s₁.setTop (mkF m 1 #[.val (.ref o), .val (.int k), .val (.int vv)] [(.ref o)])) τ
    exact κ)
  obtain ⟨T1, X1, e1, st1⟩ := getF X0 hx hZ hown (host := "") (Or.inl (hw _ (List.mem_of_getElem? (i := 15) rfl))) Via.refl e0 F_flags (g := (mkF m 1 #[.val (.ref o), .val (.int k), .val (.int vv)] [(.ref o)])) rfl rfl (hb hby d5_1)
  have pre : ∀ τ, Steps p.tables e below (T1.setTop (mkF m 4 #[.val (.ref o), .val (.int k), .val (.int vv)] [(.ref fb)])) τ → G τ := fun τ κ => pre τ (st1 τ κ)
  have pre : ∀ τ, Steps p.tables e below (T1.setTop (mkF m 5 #[.val (.ref o), .val (.int k), .val (.int vv)] [(.int k), (.ref fb)])) τ → G τ := fun τ κ => pre τ (by
    refine XS.iloadN X1.here hx rfl (hb hby d5_4) rfl ?_
    show Steps p.tables e below (T1.setTop (mkF m 5 #[.val (.ref o), .val (.int k), .val (.int vv)] [(.int k), (.ref fb)])) τ
    exact κ)
  obtain ⟨c2, Ar2, q2, S2, Nz2, Hh2, Gg2⟩ := id V_f
  have hin2 : ¬ (k < 0 ∨ c2.slots.size ≤ (k).toNatClampNeg) := inb_of S2 hk
  have hat2 : c2.slots[(k).toNatClampNeg]? = some (.int (own_at fs k)) := own_getB Hh2 Gg2 hin2
  have pre : ∀ τ, Steps p.tables e below (T1.setTop (mkF m 6 #[.val (.ref o), .val (.int k), .val (.int vv)] [(.int (own_at fs k))])) τ → G τ := fun τ κ => pre τ (X1.baloadBytes hx (j := k) (v := (.int (own_at fs k))) (by rw [e1]; exact Ar2.1) (State.isArrayOf_alike hZ.alike Ar2.2.1) Ar2.2.2 hin2 hat2 (g := (mkF m 5 #[.val (.ref o), .val (.int k), .val (.int vv)] [(.int k), (.ref fb)])) rfl rfl (hb hby d5_5) _ κ)
  rcases Classical.em ((own_at fs k) = (0 : Int32)) with hc6_3 | hc6_3
  ·
    have pre : ∀ τ, Steps p.tables e below (T1.setTop (mkF m 10 #[.val (.ref o), .val (.int k), .val (.int vv)] [(.ref o)])) τ → G τ := fun τ κ => pre τ (by
      refine XS.ifNo X1.here hx rfl (hb hby d5_6) rfl ((if0 _ _).trans (teq hc6_3).2) ?_
      show Steps p.tables e below (T1.setTop (mkF m 9 #[.val (.ref o), .val (.int k), .val (.int vv)] [])) τ
      refine XS.aloadN X1.here hx rfl (hb hby d5_9) rfl rfl ?_
      show Steps p.tables e below (T1.setTop (mkF m 10 #[.val (.ref o), .val (.int k), .val (.int vv)] [(.ref o)])) τ
      exact κ)
    obtain ⟨T4, X4, e4, st4⟩ := getF X1 hx hZ hown (host := "") (Or.inl (hw _ (List.mem_of_getElem? (i := 30) rfl))) Via.refl e1 F_count (g := (mkF m 10 #[.val (.ref o), .val (.int k), .val (.int vv)] [(.ref o)])) rfl rfl (hb hby d5_10)
    have pre : ∀ τ, Steps p.tables e below (T4.setTop (mkF m 13 #[.val (.ref o), .val (.int k), .val (.int vv)] [(.int cn)])) τ → G τ := fun τ κ => pre τ (st4 τ κ)
    have pre : ∀ τ, Steps p.tables e below (T4.setTop (mkF m 14 #[.val (.ref o), .val (.int k), .val (.int vv)] [(.ref o), (.int cn)])) τ → G τ := fun τ κ => pre τ (by
      refine XS.aloadN X4.here hx rfl (hb hby d5_13) rfl rfl ?_
      show Steps p.tables e below (T4.setTop (mkF m 14 #[.val (.ref o), .val (.int k), .val (.int vv)] [(.ref o), (.int cn)])) τ
      exact κ)
    obtain ⟨T5, X5, e5, st5⟩ := getF X4 hx hZ hown (host := "") (Or.inl (hw _ (List.mem_of_getElem? (i := 18) rfl))) Via.refl e4 F_marked (g := (mkF m 14 #[.val (.ref o), .val (.int k), .val (.int vv)] [(.ref o), (.int cn)])) rfl rfl (hb hby d5_14)
    have pre : ∀ τ, Steps p.tables e below (T5.setTop (mkF m 17 #[.val (.ref o), .val (.int k), .val (.int vv)] [(.ref mb), (.int cn)])) τ → G τ := fun τ κ => pre τ (st5 τ κ)
    obtain ⟨c6, Ar6, -, S6, N6, -, -⟩ := id V_m
    have pre : ∀ τ, Steps p.tables e below (T5.setTop (mkF m 18 #[.val (.ref o), .val (.int k), .val (.int vv)] [(.int (64 : Int32)), (.int cn)])) τ → G τ := fun τ κ => pre τ (by
      refine X5.arraylength hx (by rw [e5]; exact Ar6.1) (State.isArrayOf_alike hZ.alike Ar6.2.1) (g := (mkF m 17 #[.val (.ref o), .val (.int k), .val (.int vv)] [(.ref mb), (.int cn)])) rfl rfl (hb hby d5_17) _ ?_
      rw [len_of S6 N6]
      exact κ)
    have hc7 : ¬ (cn = (64 : Int32)) := own_c64 hcn
    have pre : ∀ τ, Steps p.tables e below (T5.setTop (mkF m 39 #[.val (.ref o), .val (.int k), .val (.int vv)] [(.ref o)])) τ → G τ := fun τ κ => pre τ (by
      refine XS.icmpYes X5.here hx rfl (pc0 := 18) (pc' := 38) rfl (hb hby d5_18) rfl (feq hc7).2 (by decide) (by decide) ?_
      show Steps p.tables e below (T5.setTop (mkF m 38 #[.val (.ref o), .val (.int k), .val (.int vv)] [])) τ
      refine XS.aloadN X5.here hx rfl (hb hby d5_38) rfl rfl ?_
      show Steps p.tables e below (T5.setTop (mkF m 39 #[.val (.ref o), .val (.int k), .val (.int vv)] [(.ref o)])) τ
      exact κ)
    obtain ⟨T8, X8, e8, st8⟩ := getF X5 hx hZ hown (host := "") (Or.inl (hw _ (List.mem_of_getElem? (i := 18) rfl))) Via.refl e5 F_marked (g := (mkF m 39 #[.val (.ref o), .val (.int k), .val (.int vv)] [(.ref o)])) rfl rfl (hb hby d5_39)
    have pre : ∀ τ, Steps p.tables e below (T8.setTop (mkF m 42 #[.val (.ref o), .val (.int k), .val (.int vv)] [(.ref mb)])) τ → G τ := fun τ κ => pre τ (st8 τ κ)
    have pre : ∀ τ, Steps p.tables e below (T8.setTop (mkF m 44 #[.val (.ref o), .val (.int k), .val (.int vv)] [(.ref o), (.ref o), (.ref mb)])) τ → G τ := fun τ κ => pre τ (by
      refine XS.aloadN X8.here hx rfl (hb hby d5_42) rfl rfl ?_
      show Steps p.tables e below (T8.setTop (mkF m 43 #[.val (.ref o), .val (.int k), .val (.int vv)] [(.ref o), (.ref mb)])) τ
      refine XS.dup X8.here hx rfl (hb hby d5_43) rfl rfl ?_
      show Steps p.tables e below (T8.setTop (mkF m 44 #[.val (.ref o), .val (.int k), .val (.int vv)] [(.ref o), (.ref o), (.ref mb)])) τ
      exact κ)
    obtain ⟨T9, X9, e9, st9⟩ := getF X8 hx hZ hown (host := "") (Or.inl (hw _ (List.mem_of_getElem? (i := 30) rfl))) Via.refl e8 F_count (g := (mkF m 44 #[.val (.ref o), .val (.int k), .val (.int vv)] [(.ref o), (.ref o), (.ref mb)])) rfl rfl (hb hby d5_44)
    have pre : ∀ τ, Steps p.tables e below (T9.setTop (mkF m 47 #[.val (.ref o), .val (.int k), .val (.int vv)] [(.int cn), (.ref o), (.ref mb)])) τ → G τ := fun τ κ => pre τ (st9 τ κ)
    have pre : ∀ τ, Steps p.tables e below (T9.setTop (mkF m 50 #[.val (.ref o), .val (.int k), .val (.int vv)] [(.int (cn + (1 : Int32))), (.ref o), (.int cn), (.ref mb)])) τ → G τ := fun τ κ => pre τ (by
      refine XS.dupX1 X9.here hx rfl (hb hby d5_47) rfl rfl rfl ?_
      show Steps p.tables e below (T9.setTop (mkF m 48 #[.val (.ref o), .val (.int k), .val (.int vv)] [(.int cn), (.ref o), (.int cn), (.ref mb)])) τ
      refine XS.iconst X9.here hx rfl (hb hby d5_48) ?_
      show Steps p.tables e below (T9.setTop (mkF m 49 #[.val (.ref o), .val (.int k), .val (.int vv)] [(.int (1 : Int32)), (.int cn), (.ref o), (.int cn), (.ref mb)])) τ
      refine XS.iadd X9.here hx rfl (hb hby d5_49) rfl ?_
      show Steps p.tables e below (T9.setTop (mkF m 50 #[.val (.ref o), .val (.int k), .val (.int vv)] [(.int (cn + (1 : Int32))), (.ref o), (.int cn), (.ref mb)])) τ
      exact κ)
    obtain ⟨T10, h10, X10, e10, W10, st10⟩ := putF X9 hx hZ hown (host := "") (Or.inl (hw _ (List.mem_of_getElem? (i := 30) rfl))) Via.refl e9 F_count E_o (Or.inl (hw _ (List.mem_of_getElem? (i := 31) rfl))) (hw _ (List.mem_of_getElem? (i := 6) rfl)) (ty := .int) (by decide) rfl rfl (g := (mkF m 50 #[.val (.ref o), .val (.int k), .val (.int vv)] [(.int (cn + (1 : Int32))), (.ref o), (.int cn), (.ref mb)])) rfl rfl (hb hby d5_50)
    have F_count : Fld Z h10 o "com/example/cairn/cairn/history/Marks" "count" "I" (.int (cn + (1 : Int32))) := F_count.same W10
    have E_o : Exa Z h10 o "com/example/cairn/cairn/history/Marks" := E_o.wr W10
    have F_flags : Fld Z h10 o "com/example/cairn/cairn/history/Marks" "flags" "[B" (.ref fb) := F_flags.other W10 (Or.inr (slot_ne (Or.inl (hw _ (List.mem_of_getElem? (i := 16) rfl))) (Or.inl (hw _ (List.mem_of_getElem? (i := 31) rfl))) (by decide) (t := (.array .byte)) (t' := .int) (by decide) (by decide)))
    have F_marked : Fld Z h10 o "com/example/cairn/cairn/history/Marks" "marked" "[I" (.ref mb) := F_marked.other W10 (Or.inr (slot_ne (Or.inl (hw _ (List.mem_of_getElem? (i := 19) rfl))) (Or.inl (hw _ (List.mem_of_getElem? (i := 31) rfl))) (by decide) (t := (.array .int)) (t' := .int) (by decide) (by decide)))
    have V_f : Arv Z h10 fb kb .byte z fs (.int (0 : Int32)) := V_f.other W10 (Ne.symm ne_o__fb)
    have V_m : Arv Z h10 mb km .int (64 : Int32) ms (.int (0 : Int32)) := V_m.other W10 (Ne.symm ne_o__mb)
    have Zn : n0 ≤ h10.size := Nat.le_trans Zn (Keep.of_wr W10).1
    have K : Keep h0 h10 [o, mb, fb] := K.wr W10 (Or.inl (List.mem_of_getElem? (i := 0) rfl))
    have NN := Fr.snoc X10 N0 g_o
    have pre : ∀ τ, Steps p.tables e below (T10.setTop (mkF m 53 #[.val (.ref o), .val (.int k), .val (.int vv)] [(.int cn), (.ref mb)])) τ → G τ := fun τ κ => pre τ (st10 τ κ)
    have pre : ∀ τ, Steps p.tables e below (T10.setTop (mkF m 54 #[.val (.ref o), .val (.int k), .val (.int vv)] [(.int k), (.int cn), (.ref mb)])) τ → G τ := fun τ κ => pre τ (by
      refine XS.iloadN X10.here hx rfl (hb hby d5_53) rfl ?_
      show Steps p.tables e below (T10.setTop (mkF m 54 #[.val (.ref o), .val (.int k), .val (.int vv)] [(.int k), (.int cn), (.ref mb)])) τ
      exact κ)
    obtain ⟨c11, Ar11, q11, S11, Nz11, Hh11, Gg11⟩ := id V_m
    have hin11 : ¬ (cn < 0 ∨ c11.slots.size ≤ (cn).toNatClampNeg) := inb_of S11 (own_cb hcn)
    obtain ⟨T11, h11, X11, e11, W11, st11⟩ := stI X10 hx hZ e10 Ar11 (j := cn) hin11 (g := (mkF m 54 #[.val (.ref o), .val (.int k), .val (.int vv)] [(.int k), (.int cn), (.ref mb)])) rfl rfl (hb hby d5_54)
    have V_m : Arv Z h11 mb km .int (64 : Int32) (ms.set (cn).toNatClampNeg (.int k)) (.int (0 : Int32)) := Arv.set Ar11 q11 S11 Nz11 Hh11 Gg11 rfl W11 _ rfl (own_clt hcn hms)
    have E_o : Exa Z h11 o "com/example/cairn/cairn/history/Marks" := E_o.wr W11
    have F_flags : Fld Z h11 o "com/example/cairn/cairn/history/Marks" "flags" "[B" (.ref fb) := F_flags.other W11 (Or.inl ne_o__mb)
    have F_marked : Fld Z h11 o "com/example/cairn/cairn/history/Marks" "marked" "[I" (.ref mb) := F_marked.other W11 (Or.inl ne_o__mb)
    have F_count : Fld Z h11 o "com/example/cairn/cairn/history/Marks" "count" "I" (.int (cn + (1 : Int32))) := F_count.other W11 (Or.inl ne_o__mb)
    have V_f : Arv Z h11 fb kb .byte z fs (.int (0 : Int32)) := V_f.other W11 (Ne.symm ne_mb__fb)
    have Zn : n0 ≤ h11.size := Nat.le_trans Zn (Keep.of_wr W11).1
    have K : Keep h0 h11 [o, mb, fb] := K.wr W11 (Or.inl (List.mem_of_getElem? (i := 1) rfl))
    have NN := Fr.snoc X11 NN g_mb
    have pre : ∀ τ, Steps p.tables e below (T11.setTop (mkF m 55 #[.val (.ref o), .val (.int k), .val (.int vv)] [])) τ → G τ := fun τ κ => pre τ (st11 τ κ)
    have pre : ∀ τ, Steps p.tables e below (T11.setTop (mkF m 56 #[.val (.ref o), .val (.int k), .val (.int vv)] [(.ref o)])) τ → G τ := fun τ κ => pre τ (by
      refine XS.aloadN X11.here hx rfl (hb hby d5_55) rfl rfl ?_
      show Steps p.tables e below (T11.setTop (mkF m 56 #[.val (.ref o), .val (.int k), .val (.int vv)] [(.ref o)])) τ
      exact κ)
    obtain ⟨T12, X12, e12, st12⟩ := getF X11 hx hZ hown (host := "") (Or.inl (hw _ (List.mem_of_getElem? (i := 15) rfl))) Via.refl e11 F_flags (g := (mkF m 56 #[.val (.ref o), .val (.int k), .val (.int vv)] [(.ref o)])) rfl rfl (hb hby d5_56)
    have pre : ∀ τ, Steps p.tables e below (T12.setTop (mkF m 59 #[.val (.ref o), .val (.int k), .val (.int vv)] [(.ref fb)])) τ → G τ := fun τ κ => pre τ (st12 τ κ)
    have pre : ∀ τ, Steps p.tables e below (T12.setTop (mkF m 62 #[.val (.ref o), .val (.int k), .val (.int vv)] [(.int (vv.toInt8.toInt32)), (.int k), (.ref fb)])) τ → G τ := fun τ κ => pre τ (by
      refine XS.iloadN X12.here hx rfl (hb hby d5_59) rfl ?_
      show Steps p.tables e below (T12.setTop (mkF m 60 #[.val (.ref o), .val (.int k), .val (.int vv)] [(.int k), (.ref fb)])) τ
      refine XS.iloadN X12.here hx rfl (hb hby d5_60) rfl ?_
      show Steps p.tables e below (T12.setTop (mkF m 61 #[.val (.ref o), .val (.int k), .val (.int vv)] [(.int vv), (.int k), (.ref fb)])) τ
      refine XS.i2b X12.here hx rfl (hb hby d5_61) rfl ?_
      show Steps p.tables e below (T12.setTop (mkF m 62 #[.val (.ref o), .val (.int k), .val (.int vv)] [(.int (vv.toInt8.toInt32)), (.int k), (.ref fb)])) τ
      exact κ)
    obtain ⟨c13, Ar13, q13, S13, Nz13, Hh13, Gg13⟩ := id V_f
    have hin13 : ¬ (k < 0 ∨ c13.slots.size ≤ (k).toNatClampNeg) := inb_of S13 hk
    obtain ⟨T13, h13, X13, e13, W13, st13⟩ := stB X12 hx hZ e12 Ar13 (j := k) hin13 (g := (mkF m 62 #[.val (.ref o), .val (.int k), .val (.int vv)] [(.int (vv.toInt8.toInt32)), (.int k), (.ref fb)])) rfl rfl (hb hby d5_62)
    have V_f : Arv Z h13 fb kb .byte z (fs.set (k).toNatClampNeg (.int (nar .byte (vv.toInt8.toInt32)))) (.int (0 : Int32)) := Arv.set Ar13 q13 S13 Nz13 Hh13 Gg13 (fits_nar_byte _) W13 _ rfl (own_lt hk hfs)
    have E_o : Exa Z h13 o "com/example/cairn/cairn/history/Marks" := E_o.wr W13
    have F_flags : Fld Z h13 o "com/example/cairn/cairn/history/Marks" "flags" "[B" (.ref fb) := F_flags.other W13 (Or.inl ne_o__fb)
    have F_marked : Fld Z h13 o "com/example/cairn/cairn/history/Marks" "marked" "[I" (.ref mb) := F_marked.other W13 (Or.inl ne_o__fb)
    have F_count : Fld Z h13 o "com/example/cairn/cairn/history/Marks" "count" "I" (.int (cn + (1 : Int32))) := F_count.other W13 (Or.inl ne_o__fb)
    have V_m : Arv Z h13 mb km .int (64 : Int32) (ms.set (cn).toNatClampNeg (.int k)) (.int (0 : Int32)) := V_m.other W13 ne_mb__fb
    have Zn : n0 ≤ h13.size := Nat.le_trans Zn (Keep.of_wr W13).1
    have K : Keep h0 h13 [o, mb, fb] := K.wr W13 (Or.inl (List.mem_of_getElem? (i := 2) rfl))
    have NN := Fr.snoc X13 NN g_fb
    have pre : ∀ τ, Steps p.tables e below (T13.setTop (mkF m 63 #[.val (.ref o), .val (.int k), .val (.int vv)] [])) τ → G τ := fun τ κ => pre τ (st13 τ κ)
    obtain ⟨fsα, hr, hrun, hended, hW, hsame⟩ := X13.leave (v := none) (fun _ => rfl)
    refine hGL ⟨_, _, hG _ (pre _ ?_), hrun, hended, _, _, rfl, ?_, ⟨_, rfl⟩, hW, hsame.mono (by decide) (by decide)⟩
    · exact X13.returnOut hx Bd.returns (hb hby d5_63) hr
    · show Q5 Z o k vv fb mb kb km z cn fs ms h0 n0 _ T13.heap _
      rw [e13]
      refine ⟨rfl, NN, K, E_o, F_flags, F_marked, ?_, V_f, ?_⟩
      · unfold own_sc; rw [if_pos hc6_3]; exact F_count
      · unfold own_sm; rw [if_pos hc6_3]; exact V_m
  ·
    have pre : ∀ τ, Steps p.tables e below (T1.setTop (mkF m 56 #[.val (.ref o), .val (.int k), .val (.int vv)] [(.ref o)])) τ → G τ := fun τ κ => pre τ (by
      refine XS.ifYes X1.here hx rfl (pc0 := 6) (pc' := 55) rfl (hb hby d5_6) rfl ((if0 _ _).trans (feq hc6_3).2) (by decide) (by decide) ?_
      show Steps p.tables e below (T1.setTop (mkF m 55 #[.val (.ref o), .val (.int k), .val (.int vv)] [])) τ
      refine XS.aloadN X1.here hx rfl (hb hby d5_55) rfl rfl ?_
      show Steps p.tables e below (T1.setTop (mkF m 56 #[.val (.ref o), .val (.int k), .val (.int vv)] [(.ref o)])) τ
      exact κ)
    obtain ⟨T14, X14, e14, st14⟩ := getF X1 hx hZ hown (host := "") (Or.inl (hw _ (List.mem_of_getElem? (i := 15) rfl))) Via.refl e1 F_flags (g := (mkF m 56 #[.val (.ref o), .val (.int k), .val (.int vv)] [(.ref o)])) rfl rfl (hb hby d5_56)
    have pre : ∀ τ, Steps p.tables e below (T14.setTop (mkF m 59 #[.val (.ref o), .val (.int k), .val (.int vv)] [(.ref fb)])) τ → G τ := fun τ κ => pre τ (st14 τ κ)
    have pre : ∀ τ, Steps p.tables e below (T14.setTop (mkF m 62 #[.val (.ref o), .val (.int k), .val (.int vv)] [(.int (vv.toInt8.toInt32)), (.int k), (.ref fb)])) τ → G τ := fun τ κ => pre τ (by
      refine XS.iloadN X14.here hx rfl (hb hby d5_59) rfl ?_
      show Steps p.tables e below (T14.setTop (mkF m 60 #[.val (.ref o), .val (.int k), .val (.int vv)] [(.int k), (.ref fb)])) τ
      refine XS.iloadN X14.here hx rfl (hb hby d5_60) rfl ?_
      show Steps p.tables e below (T14.setTop (mkF m 61 #[.val (.ref o), .val (.int k), .val (.int vv)] [(.int vv), (.int k), (.ref fb)])) τ
      refine XS.i2b X14.here hx rfl (hb hby d5_61) rfl ?_
      show Steps p.tables e below (T14.setTop (mkF m 62 #[.val (.ref o), .val (.int k), .val (.int vv)] [(.int (vv.toInt8.toInt32)), (.int k), (.ref fb)])) τ
      exact κ)
    obtain ⟨c15, Ar15, q15, S15, Nz15, Hh15, Gg15⟩ := id V_f
    have hin15 : ¬ (k < 0 ∨ c15.slots.size ≤ (k).toNatClampNeg) := inb_of S15 hk
    obtain ⟨T15, h15, X15, e15, W15, st15⟩ := stB X14 hx hZ e14 Ar15 (j := k) hin15 (g := (mkF m 62 #[.val (.ref o), .val (.int k), .val (.int vv)] [(.int (vv.toInt8.toInt32)), (.int k), (.ref fb)])) rfl rfl (hb hby d5_62)
    have V_f : Arv Z h15 fb kb .byte z (fs.set (k).toNatClampNeg (.int (nar .byte (vv.toInt8.toInt32)))) (.int (0 : Int32)) := Arv.set Ar15 q15 S15 Nz15 Hh15 Gg15 (fits_nar_byte _) W15 _ rfl (own_lt hk hfs)
    have E_o : Exa Z h15 o "com/example/cairn/cairn/history/Marks" := E_o.wr W15
    have F_flags : Fld Z h15 o "com/example/cairn/cairn/history/Marks" "flags" "[B" (.ref fb) := F_flags.other W15 (Or.inl ne_o__fb)
    have F_marked : Fld Z h15 o "com/example/cairn/cairn/history/Marks" "marked" "[I" (.ref mb) := F_marked.other W15 (Or.inl ne_o__fb)
    have F_count : Fld Z h15 o "com/example/cairn/cairn/history/Marks" "count" "I" (.int cn) := F_count.other W15 (Or.inl ne_o__fb)
    have V_m : Arv Z h15 mb km .int (64 : Int32) ms (.int (0 : Int32)) := V_m.other W15 ne_mb__fb
    have Zn : n0 ≤ h15.size := Nat.le_trans Zn (Keep.of_wr W15).1
    have K : Keep h0 h15 [o, mb, fb] := K.wr W15 (Or.inl (List.mem_of_getElem? (i := 2) rfl))
    have NN := Fr.snoc X15 N0 g_fb
    have pre : ∀ τ, Steps p.tables e below (T15.setTop (mkF m 63 #[.val (.ref o), .val (.int k), .val (.int vv)] [])) τ → G τ := fun τ κ => pre τ (st15 τ κ)
    obtain ⟨fsα, hr, hrun, hended, hW, hsame⟩ := X15.leave (v := none) (fun _ => rfl)
    refine hGL ⟨_, _, hG _ (pre _ ?_), hrun, hended, _, _, rfl, ?_, ⟨_, rfl⟩, hW, hsame.mono (by decide) (by decide)⟩
    · exact X15.returnOut hx Bd.returns (hb hby d5_63) hr
    · show Q5 Z o k vv fb mb kb km z cn fs ms h0 n0 _ T15.heap _
      rw [e15]
      refine ⟨rfl, NN, K, E_o, F_flags, F_marked, ?_, V_f, ?_⟩
      · unfold own_sc; rw [if_neg hc6_3]; exact F_count
      · unfold own_sm; rw [if_neg hc6_3]; exact V_m
theorem d8_0 : decode prog_27_method_5_code 0 = .ok (.aload_n 0, 1) := by decide +kernel
theorem d8_1 : decode prog_27_method_5_code 1 = .ok (.getfield 17, 3) := by decide +kernel
theorem d8_4 : decode prog_27_method_5_code 4 = .ok (.ireturn, 1) := by decide +kernel
theorem ef_8 (m : MethodId) (x0 : Addr) : entryFrame m #[(.ref x0)] 1 = mkF m 0 #[.val (.ref x0)] [] := by first | (simp [entryFrame, mkF, argsToLocals, Value.category]; done) | rfl
def Q8 (Z : State) (o : Addr) (cn : Int32) (h0 : Heap) (n0 : Nat) (vα : Option Value) (hα : Heap) (Lα : List Loc) : Prop := vα = some (.int cn) ∧ Fr n0 Lα ∧ hα = h0
set_option maxRecDepth 65536 in
set_option maxHeartbeats 40000000 in
theorem rm8 (l : Launch) (Z : State) (a0 : Array Value) (hw : ∀ d ∈ tables_1, d.before a0 Z = true) (ws : List Jvm.Cond) (o : Addr) (cn : Int32) (h0 : Heap) (n0 : Nat) (Z0 : n0 ≤ h0.size) (F_count : Fld Z h0 o "com/example/cairn/cairn/history/Marks" "count" "I" (.int cn)) :
    MetFree l (⟨"com/example/cairn/cairn/history/Marks", "count", "()I"⟩ : MethodName) (head1 (Jvm.Cond.code (⟨"com/example/cairn/cairn/history/Marks", "count", "()I"⟩ : MethodName) prog_27_method_5_code 1 (some .int) :: ws) ({ frames := 0, cells := 0, slots := 0, locals := 0 } : Room)) (fun aα U => aα = #[(.ref o)] ∧ Z.Warmed39 U.vm ∧ U.heap = h0) (fun _ _ _ _ _ => True) (fun _ U oα U' => ∃ vα Lα, oα = .returned vα ∧ Q8 Z o cn h0 n0 vα U'.heap Lα ∧ FrameEnd U oα U' Lα ({ frames := 0, cells := 0, slots := 0, locals := 0 } : Room).cells ({ frames := 0, cells := 0, slots := 0, locals := 0 } : Room).slots) := by
  refine MetFree.of_bodySF (plainFor_of_name pn_0) hisR ?_
  intro p e s m args below meth c s₁ Bd hml0 hP hK
  refine own_wrap ?_
  intro GL hGL
  obtain ⟨rfl, hZ, hh⟩ := hP
  have hx := Bd.exec
  have hby := Bd.bytes
  have hml : c.maxLocals = 1 := hml0
  have hown : s.vm.findClass "com/example/cairn/cairn/history/Marks" = some m.cls := findClass_of_methodNamed Bd.named
  have hnm := (name_of_methodNamed Bd.named Bd.method).1
  have X0 : Stand p l e ({ frames := 0, cells := 0, slots := 0, locals := 0 } : Room) s m #[(.ref o)] below meth c s₁ [] 0 0 := Stand.of_body Bd
  have e0 : s₁.heap = h0 := by rw [← hh, Bd.state]; rfl
  have N0 := Fr.nil n0
  have pre0 : ∀ τ, Steps p.tables e below (s₁.setTop (mkF m 0 #[.val (.ref o)] [])) τ → Steps p.tables e below (s₁.setTop (entryFrame m #[(.ref o)] 1)) τ := fun τ κ => castTop (ef_8 m o) κ
  obtain ⟨G, hG, pre⟩ : ∃ G : State → Prop, (∀ τ, G τ → Steps p.tables e below (s₁.setTop (entryFrame m #[(.ref o)] 1)) τ) ∧ ∀ τ, Steps p.tables e below (s₁.setTop (mkF m 0 #[.val (.ref o)] [])) τ → G τ := ⟨_, pre0, fun _ k => k⟩
  have K : Keep h0 h0 [] := Keep.refl h0 _
  have Zn := Z0
  have pre : ∀ τ, Steps p.tables e below (s₁.setTop (mkF m 1 #[.val (.ref o)] [(.ref o)])) τ → G τ := fun τ κ => pre τ (by
    refine XS.aloadN X0.here hx rfl (hb hby d8_0) rfl rfl ?_
    show Steps p.tables e below (s₁.setTop (mkF m 1 #[.val (.ref o)] [(.ref o)])) τ
    exact κ)
  obtain ⟨T1, X1, e1, st1⟩ := getF X0 hx hZ hown (host := "") (Or.inl (hw _ (List.mem_of_getElem? (i := 30) rfl))) Via.refl e0 F_count (g := (mkF m 1 #[.val (.ref o)] [(.ref o)])) rfl rfl (hb hby d8_1)
  have pre : ∀ τ, Steps p.tables e below (T1.setTop (mkF m 4 #[.val (.ref o)] [(.int cn)])) τ → G τ := fun τ κ => pre τ (st1 τ κ)
  obtain ⟨fsα, hr, hrun, hended, hW, hsame⟩ := X1.leave (v := some (.int cn)) (fun h => by rw [Bd.returns] at h; cases h)
  refine hGL ⟨_, _, hG _ (pre _ ?_), hrun, hended, _, _, rfl, ?_, ⟨_, rfl⟩, hW, hsame.mono (by decide) (by decide)⟩
  · exact retOut X1 hx Bd.returns rfl (Or.inl ⟨rfl, Or.inl rfl, _, rfl⟩) (hb hby d8_4) hr
  · show Q8 Z o cn h0 n0 _ T1.heap _
    rw [e1]
    exact ⟨rfl, N0, rfl⟩
theorem d9_0 : decode prog_27_method_6_code 0 = .ok (.aload_n 0, 1) := by decide +kernel
theorem d9_1 : decode prog_27_method_6_code 1 = .ok (.getfield 13, 3) := by decide +kernel
theorem d9_4 : decode prog_27_method_6_code 4 = .ok (.iload_n 1, 1) := by decide +kernel
theorem d9_5 : decode prog_27_method_6_code 5 = .ok (.iaload, 1) := by decide +kernel
theorem d9_6 : decode prog_27_method_6_code 6 = .ok (.ireturn, 1) := by decide +kernel
theorem ef_9 (m : MethodId) (x0 : Addr) (x1 : Int32) : entryFrame m #[(.ref x0), (.int x1)] 2 = mkF m 0 #[.val (.ref x0), .val (.int x1)] [] := by first | (simp [entryFrame, mkF, argsToLocals, Value.category]; done) | rfl
def Q9 (Z : State) (o : Addr) (k : Int32) (mb : Addr) (km : ClassId) (ms : List Value) (h0 : Heap) (n0 : Nat) (vα : Option Value) (hα : Heap) (Lα : List Loc) : Prop := vα = some (.int (own_at ms k)) ∧ Fr n0 Lα ∧ hα = h0
set_option maxRecDepth 65536 in
set_option maxHeartbeats 40000000 in
theorem rm9 (l : Launch) (Z : State) (a0 : Array Value) (hw : ∀ d ∈ tables_1, d.before a0 Z = true) (ws : List Jvm.Cond) (o : Addr) (k : Int32) (mb : Addr) (km : ClassId) (ms : List Value) (h0 : Heap) (n0 : Nat) (Z0 : n0 ≤ h0.size) (F_marked : Fld Z h0 o "com/example/cairn/cairn/history/Marks" "marked" "[I" (.ref mb)) (V_m : Arv Z h0 mb km .int (64 : Int32) ms (.int (0 : Int32))) (hk : ¬ k < 0 ∧ k < (64 : Int32)) :
    MetFree l (⟨"com/example/cairn/cairn/history/Marks", "commit", "(I)I"⟩ : MethodName) (head1 (Jvm.Cond.code (⟨"com/example/cairn/cairn/history/Marks", "commit", "(I)I"⟩ : MethodName) prog_27_method_6_code 2 (some .int) :: ws) ({ frames := 0, cells := 0, slots := 0, locals := 0 } : Room)) (fun aα U => aα = #[(.ref o), (.int k)] ∧ Z.Warmed39 U.vm ∧ U.heap = h0) (fun _ _ _ _ _ => True) (fun _ U oα U' => ∃ vα Lα, oα = .returned vα ∧ Q9 Z o k mb km ms h0 n0 vα U'.heap Lα ∧ FrameEnd U oα U' Lα ({ frames := 0, cells := 0, slots := 0, locals := 0 } : Room).cells ({ frames := 0, cells := 0, slots := 0, locals := 0 } : Room).slots) := by
  refine MetFree.of_bodySF (plainFor_of_name pn_0) hisR ?_
  intro p e s m args below meth c s₁ Bd hml0 hP hK
  refine own_wrap ?_
  intro GL hGL
  obtain ⟨rfl, hZ, hh⟩ := hP
  have hx := Bd.exec
  have hby := Bd.bytes
  have hml : c.maxLocals = 2 := hml0
  have hown : s.vm.findClass "com/example/cairn/cairn/history/Marks" = some m.cls := findClass_of_methodNamed Bd.named
  have hnm := (name_of_methodNamed Bd.named Bd.method).1
  have X0 : Stand p l e ({ frames := 0, cells := 0, slots := 0, locals := 0 } : Room) s m #[(.ref o), (.int k)] below meth c s₁ [] 0 0 := Stand.of_body Bd
  have e0 : s₁.heap = h0 := by rw [← hh, Bd.state]; rfl
  have N0 := Fr.nil n0
  have pre0 : ∀ τ, Steps p.tables e below (s₁.setTop (mkF m 0 #[.val (.ref o), .val (.int k)] [])) τ → Steps p.tables e below (s₁.setTop (entryFrame m #[(.ref o), (.int k)] 2)) τ := fun τ κ => castTop (ef_9 m o k) κ
  obtain ⟨G, hG, pre⟩ : ∃ G : State → Prop, (∀ τ, G τ → Steps p.tables e below (s₁.setTop (entryFrame m #[(.ref o), (.int k)] 2)) τ) ∧ ∀ τ, Steps p.tables e below (s₁.setTop (mkF m 0 #[.val (.ref o), .val (.int k)] [])) τ → G τ := ⟨_, pre0, fun _ k => k⟩
  have K : Keep h0 h0 [] := Keep.refl h0 _
  have Zn := Z0
  have pre : ∀ τ, Steps p.tables e below (s₁.setTop (mkF m 1 #[.val (.ref o), .val (.int k)] [(.ref o)])) τ → G τ := fun τ κ => pre τ (by
    refine XS.aloadN X0.here hx rfl (hb hby d9_0) rfl rfl ?_
    show Steps p.tables e below (s₁.setTop (mkF m 1 #[.val (.ref o), .val (.int k)] [(.ref o)])) τ
    exact κ)
  obtain ⟨T1, X1, e1, st1⟩ := getF X0 hx hZ hown (host := "") (Or.inl (hw _ (List.mem_of_getElem? (i := 18) rfl))) Via.refl e0 F_marked (g := (mkF m 1 #[.val (.ref o), .val (.int k)] [(.ref o)])) rfl rfl (hb hby d9_1)
  have pre : ∀ τ, Steps p.tables e below (T1.setTop (mkF m 4 #[.val (.ref o), .val (.int k)] [(.ref mb)])) τ → G τ := fun τ κ => pre τ (st1 τ κ)
  have pre : ∀ τ, Steps p.tables e below (T1.setTop (mkF m 5 #[.val (.ref o), .val (.int k)] [(.int k), (.ref mb)])) τ → G τ := fun τ κ => pre τ (by
    refine XS.iloadN X1.here hx rfl (hb hby d9_4) rfl ?_
    show Steps p.tables e below (T1.setTop (mkF m 5 #[.val (.ref o), .val (.int k)] [(.int k), (.ref mb)])) τ
    exact κ)
  obtain ⟨c2, Ar2, q2, S2, Nz2, Hh2, Gg2⟩ := id V_m
  have hin2 : ¬ (k < 0 ∨ c2.slots.size ≤ (k).toNatClampNeg) := inb_of S2 hk
  have hat2 : c2.slots[(k).toNatClampNeg]? = some (.int (own_at ms k)) := own_getI Hh2 Gg2 hin2
  have pre : ∀ τ, Steps p.tables e below (T1.setTop (mkF m 6 #[.val (.ref o), .val (.int k)] [(.int (own_at ms k))])) τ → G τ := fun τ κ => pre τ (X1.iaload hx (j := k) (v := (.int (own_at ms k))) (by rw [e1]; exact Ar2.1) (State.isArrayOf_alike hZ.alike Ar2.2.1) Ar2.2.2 hin2 hat2 (g := (mkF m 5 #[.val (.ref o), .val (.int k)] [(.int k), (.ref mb)])) rfl rfl (hb hby d9_5) _ κ)
  obtain ⟨fsα, hr, hrun, hended, hW, hsame⟩ := X1.leave (v := some (.int (own_at ms k))) (fun h => by rw [Bd.returns] at h; cases h)
  refine hGL ⟨_, _, hG _ (pre _ ?_), hrun, hended, _, _, rfl, ?_, ⟨_, rfl⟩, hW, hsame.mono (by decide) (by decide)⟩
  · exact retOut X1 hx Bd.returns rfl (Or.inl ⟨rfl, Or.inl rfl, _, rfl⟩) (hb hby d9_6) hr
  · show Q9 Z o k mb km ms h0 n0 _ T1.heap _
    rw [e1]
    exact ⟨rfl, N0, rfl⟩
theorem d6_0 : decode prog_27_method_7_code 0 = .ok (.iconst 0, 1) := by decide +kernel
theorem d6_1 : decode prog_27_method_7_code 1 = .ok (.istore_n 1, 1) := by decide +kernel
theorem d6_2 : decode prog_27_method_7_code 2 = .ok (.iload_n 1, 1) := by decide +kernel
theorem d6_3 : decode prog_27_method_7_code 3 = .ok (.aload_n 0, 1) := by decide +kernel
theorem d6_4 : decode prog_27_method_7_code 4 = .ok (.getfield 17, 3) := by decide +kernel
theorem d6_7 : decode prog_27_method_7_code 7 = .ok (.if_icmp .ge 21, 3) := by decide +kernel
theorem d6_28 : decode prog_27_method_7_code 28 = .ok (.aload_n 0, 1) := by decide +kernel
theorem d6_29 : decode prog_27_method_7_code 29 = .ok (.iconst 0, 1) := by decide +kernel
theorem d6_30 : decode prog_27_method_7_code 30 = .ok (.putfield 17, 3) := by decide +kernel
theorem d6_33 : decode prog_27_method_7_code 33 = .ok (.return_, 1) := by decide +kernel
theorem d6_10 : decode prog_27_method_7_code 10 = .ok (.aload_n 0, 1) := by decide +kernel
theorem d6_11 : decode prog_27_method_7_code 11 = .ok (.getfield 7, 3) := by decide +kernel
theorem d6_14 : decode prog_27_method_7_code 14 = .ok (.aload_n 0, 1) := by decide +kernel
theorem d6_15 : decode prog_27_method_7_code 15 = .ok (.getfield 13, 3) := by decide +kernel
theorem d6_18 : decode prog_27_method_7_code 18 = .ok (.iload_n 1, 1) := by decide +kernel
theorem d6_19 : decode prog_27_method_7_code 19 = .ok (.iaload, 1) := by decide +kernel
theorem d6_20 : decode prog_27_method_7_code 20 = .ok (.iconst 0, 1) := by decide +kernel
theorem d6_21 : decode prog_27_method_7_code 21 = .ok (.bastore, 1) := by decide +kernel
theorem d6_22 : decode prog_27_method_7_code 22 = .ok (.iinc 1 1, 3) := by decide +kernel
theorem d6_25 : decode prog_27_method_7_code 25 = .ok (.goto (-23), 3) := by decide +kernel
theorem ef_6 (m : MethodId) (x0 : Addr) : entryFrame m #[(.ref x0)] 2 = mkF m 0 #[.val (.ref x0), .unset] [] := by first | (simp [entryFrame, mkF, argsToLocals, Value.category]; done) | rfl
def Q6 (Z : State) (o : Addr) (fb : Addr) (mb : Addr) (kb : ClassId) (km : ClassId) (z : Int32) (cn : Int32) (fs : List Value) (ms : List Value) (h0 : Heap) (n0 : Nat) (vα : Option Value) (hα : Heap) (Lα : List Loc) : Prop := vα = none ∧ Fr n0 Lα ∧ Keep h0 hα [o, mb, fb] ∧ Exa Z hα o "com/example/cairn/cairn/history/Marks" ∧ Fld Z hα o "com/example/cairn/cairn/history/Marks" "flags" "[B" (.ref fb) ∧ Fld Z hα o "com/example/cairn/cairn/history/Marks" "marked" "[I" (.ref mb) ∧ Fld Z hα o "com/example/cairn/cairn/history/Marks" "count" "I" (.int (0 : Int32)) ∧ Arv Z hα fb kb .byte z (own_cl ms cn.toInt.toNat (0 : Int32) fs) (.int (0 : Int32)) ∧ Arv Z hα mb km .int (64 : Int32) ms (.int (0 : Int32))
set_option maxRecDepth 65536 in
set_option maxHeartbeats 40000000 in
theorem rm6 (l : Launch) (Z : State) (a0 : Array Value) (hw : ∀ d ∈ tables_1, d.before a0 Z = true) (ws : List Jvm.Cond) (o : Addr) (fb : Addr) (mb : Addr) (kb : ClassId) (km : ClassId) (z : Int32) (cn : Int32) (fs : List Value) (ms : List Value) (h0 : Heap) (n0 : Nat) (Z0 : n0 ≤ h0.size) (g_o : n0 ≤ o) (g_mb : n0 ≤ mb) (g_fb : n0 ≤ fb) (E_o : Exa Z h0 o "com/example/cairn/cairn/history/Marks") (F_flags : Fld Z h0 o "com/example/cairn/cairn/history/Marks" "flags" "[B" (.ref fb)) (F_marked : Fld Z h0 o "com/example/cairn/cairn/history/Marks" "marked" "[I" (.ref mb)) (F_count : Fld Z h0 o "com/example/cairn/cairn/history/Marks" "count" "I" (.int cn)) (V_f : Arv Z h0 fb kb .byte z fs (.int (0 : Int32))) (V_m : Arv Z h0 mb km .int (64 : Int32) ms (.int (0 : Int32))) (ne_o__mb : o ≠ mb) (ne_o__fb : o ≠ fb) (ne_mb__fb : mb ≠ fb) (hcn : 0 ≤ cn.toInt ∧ cn.toInt < 64) (hms : ms.length = 64) (hfs : fs.length = z.toNatClampNeg) (hmz : ∀ i : Int32, 0 ≤ i.toInt → i.toInt < cn.toInt → ¬ own_at ms i < 0 ∧ own_at ms i < z) :
    MetFree l (⟨"com/example/cairn/cairn/history/Marks", "clear", "()V"⟩ : MethodName) (head1 (Jvm.Cond.code (⟨"com/example/cairn/cairn/history/Marks", "clear", "()V"⟩ : MethodName) prog_27_method_7_code 2 none :: ws) ({ frames := 0, cells := 0, slots := 0, locals := 0 } : Room)) (fun aα U => aα = #[(.ref o)] ∧ Z.Warmed39 U.vm ∧ U.heap = h0) (fun _ _ _ _ _ => True) (fun _ U oα U' => ∃ vα Lα, oα = .returned vα ∧ Q6 Z o fb mb kb km z cn fs ms h0 n0 vα U'.heap Lα ∧ FrameEnd U oα U' Lα ({ frames := 0, cells := 0, slots := 0, locals := 0 } : Room).cells ({ frames := 0, cells := 0, slots := 0, locals := 0 } : Room).slots) := by
  refine MetFree.of_bodySF (plainFor_of_name pn_0) hisR ?_
  intro p e s m args below meth c s₁ Bd hml0 hP hK
  refine own_wrap ?_
  intro GL hGL
  obtain ⟨rfl, hZ, hh⟩ := hP
  have hx := Bd.exec
  have hby := Bd.bytes
  have hml : c.maxLocals = 2 := hml0
  have hown : s.vm.findClass "com/example/cairn/cairn/history/Marks" = some m.cls := findClass_of_methodNamed Bd.named
  have hnm := (name_of_methodNamed Bd.named Bd.method).1
  have X0 : Stand p l e ({ frames := 0, cells := 0, slots := 0, locals := 0 } : Room) s m #[(.ref o)] below meth c s₁ [] 0 0 := Stand.of_body Bd
  have e0 : s₁.heap = h0 := by rw [← hh, Bd.state]; rfl
  have N0 := Fr.nil n0
  have pre0 : ∀ τ, Steps p.tables e below (s₁.setTop (mkF m 0 #[.val (.ref o), .unset] [])) τ → Steps p.tables e below (s₁.setTop (entryFrame m #[(.ref o)] 2)) τ := fun τ κ => castTop (ef_6 m o) κ
  obtain ⟨G, hG, pre⟩ : ∃ G : State → Prop, (∀ τ, G τ → Steps p.tables e below (s₁.setTop (entryFrame m #[(.ref o)] 2)) τ) ∧ ∀ τ, Steps p.tables e below (s₁.setTop (mkF m 0 #[.val (.ref o), .unset] [])) τ → G τ := ⟨_, pre0, fun _ k => k⟩
  have K : Keep h0 h0 [o, mb, fb] := Keep.refl h0 _
  have Zn := Z0
  have pre : ∀ τ, Steps p.tables e below (s₁.setTop (mkF m 2 #[.val (.ref o), .val (.int (0 : Int32))] [])) τ → G τ := fun τ κ => pre τ (by
    refine XS.iconst X0.here hx rfl (hb hby d6_0) ?_
    show Steps p.tables e below (s₁.setTop (mkF m 1 #[.val (.ref o), .unset] [(.int (0 : Int32))])) τ
    refine XS.istoreN X0.here hx rfl (hb hby d6_1) rfl (l' := #[.val (.ref o), .val (.int (0 : Int32))]) rfl ?_
    show Steps p.tables e below (s₁.setTop (mkF m 2 #[.val (.ref o), .val (.int (0 : Int32))] [])) τ
    exact κ)
  have loop : ∀ (n : Nat) (i : Int32) (fl : List Value) (Tl : State) (ll : List Loc) (hl : Heap) (Xl : Stand p l e ({ frames := 0, cells := 0, slots := 0, locals := 0 } : Room) s m #[(.ref o)] below meth c Tl ll 0 0) (el : Tl.heap = hl) (NNl : Fr n0 ll) (K : Keep h0 hl [o, mb, fb]) (Zn : n0 ≤ hl.size) (E_o : Exa Z hl o "com/example/cairn/cairn/history/Marks") (F_flags : Fld Z hl o "com/example/cairn/cairn/history/Marks" "flags" "[B" (.ref fb)) (F_marked : Fld Z hl o "com/example/cairn/cairn/history/Marks" "marked" "[I" (.ref mb)) (F_count : Fld Z hl o "com/example/cairn/cairn/history/Marks" "count" "I" (.int cn)) (V_f : Arv Z hl fb kb .byte z fl (.int (0 : Int32))) (V_m : Arv Z hl mb km .int (64 : Int32) ms (.int (0 : Int32))) (hn : i.toInt + (n : Int) = cn.toInt) (hi0 : 0 ≤ i.toInt) (hfl : fl.length = z.toNatClampNeg) (hres : own_cl ms n i fl = own_cl ms cn.toInt.toNat (0 : Int32) fs) (pre : ∀ τ, Steps p.tables e below (Tl.setTop (mkF m 2 #[.val (.ref o), .val (.int i)] [])) τ → G τ), GL := by
    intro n
    induction n with
    | zero =>
      intro i fl Tl ll hl Xl el NNl K Zn E_o F_flags F_marked F_count V_f V_m hn hi0 hfl hres pre
      have pre : ∀ τ, Steps p.tables e below (Tl.setTop (mkF m 4 #[.val (.ref o), .val (.int i)] [(.ref o), (.int i)])) τ → G τ := fun τ κ => pre τ (by
        refine XS.iloadN Xl.here hx rfl (hb hby d6_2) rfl ?_
        show Steps p.tables e below (Tl.setTop (mkF m 3 #[.val (.ref o), .val (.int i)] [(.int i)])) τ
        refine XS.aloadN Xl.here hx rfl (hb hby d6_3) rfl rfl ?_
        show Steps p.tables e below (Tl.setTop (mkF m 4 #[.val (.ref o), .val (.int i)] [(.ref o), (.int i)])) τ
        exact κ)
      obtain ⟨T1, X1, e1, st1⟩ := getF Xl hx hZ hown (host := "") (Or.inl (hw _ (List.mem_of_getElem? (i := 30) rfl))) Via.refl el F_count (g := (mkF m 4 #[.val (.ref o), .val (.int i)] [(.ref o), (.int i)])) rfl rfl (hb hby d6_4)
      have pre : ∀ τ, Steps p.tables e below (T1.setTop (mkF m 7 #[.val (.ref o), .val (.int i)] [(.int cn), (.int i)])) τ → G τ := fun τ κ => pre τ (st1 τ κ)
      have hc2 : ¬ (i < cn) := own_lz hn
      have pre : ∀ τ, Steps p.tables e below (T1.setTop (mkF m 30 #[.val (.ref o), .val (.int i)] [(.int (0 : Int32)), (.ref o)])) τ → G τ := fun τ κ => pre τ (by
        refine XS.icmpYes X1.here hx rfl (pc0 := 7) (pc' := 28) rfl (hb hby d6_7) rfl (flt hc2).2.1 (by decide) (by decide) ?_
        show Steps p.tables e below (T1.setTop (mkF m 28 #[.val (.ref o), .val (.int i)] [])) τ
        refine XS.aloadN X1.here hx rfl (hb hby d6_28) rfl rfl ?_
        show Steps p.tables e below (T1.setTop (mkF m 29 #[.val (.ref o), .val (.int i)] [(.ref o)])) τ
        refine XS.iconst X1.here hx rfl (hb hby d6_29) ?_
        show Steps p.tables e below (T1.setTop (mkF m 30 #[.val (.ref o), .val (.int i)] [(.int (0 : Int32)), (.ref o)])) τ
        exact κ)
      obtain ⟨T3, h3, X3, e3, W3, st3⟩ := putF X1 hx hZ hown (host := "") (Or.inl (hw _ (List.mem_of_getElem? (i := 30) rfl))) Via.refl e1 F_count E_o (Or.inl (hw _ (List.mem_of_getElem? (i := 31) rfl))) (hw _ (List.mem_of_getElem? (i := 6) rfl)) (ty := .int) (by decide) rfl rfl (g := (mkF m 30 #[.val (.ref o), .val (.int i)] [(.int (0 : Int32)), (.ref o)])) rfl rfl (hb hby d6_30)
      have F_count : Fld Z h3 o "com/example/cairn/cairn/history/Marks" "count" "I" (.int (0 : Int32)) := F_count.same W3
      have E_o : Exa Z h3 o "com/example/cairn/cairn/history/Marks" := E_o.wr W3
      have F_flags : Fld Z h3 o "com/example/cairn/cairn/history/Marks" "flags" "[B" (.ref fb) := F_flags.other W3 (Or.inr (slot_ne (Or.inl (hw _ (List.mem_of_getElem? (i := 16) rfl))) (Or.inl (hw _ (List.mem_of_getElem? (i := 31) rfl))) (by decide) (t := (.array .byte)) (t' := .int) (by decide) (by decide)))
      have F_marked : Fld Z h3 o "com/example/cairn/cairn/history/Marks" "marked" "[I" (.ref mb) := F_marked.other W3 (Or.inr (slot_ne (Or.inl (hw _ (List.mem_of_getElem? (i := 19) rfl))) (Or.inl (hw _ (List.mem_of_getElem? (i := 31) rfl))) (by decide) (t := (.array .int)) (t' := .int) (by decide) (by decide)))
      have V_f : Arv Z h3 fb kb .byte z fl (.int (0 : Int32)) := V_f.other W3 (Ne.symm ne_o__fb)
      have V_m : Arv Z h3 mb km .int (64 : Int32) ms (.int (0 : Int32)) := V_m.other W3 (Ne.symm ne_o__mb)
      have Zn : n0 ≤ h3.size := Nat.le_trans Zn (Keep.of_wr W3).1
      have K : Keep h0 h3 [o, mb, fb] := K.wr W3 (Or.inl (List.mem_of_getElem? (i := 0) rfl))
      have NN := Fr.snoc X3 NNl g_o
      have pre : ∀ τ, Steps p.tables e below (T3.setTop (mkF m 33 #[.val (.ref o), .val (.int i)] [])) τ → G τ := fun τ κ => pre τ (st3 τ κ)
      obtain ⟨fsα, hr, hrun, hended, hW, hsame⟩ := X3.leave (v := none) (fun _ => rfl)
      refine hGL ⟨_, _, hG _ (pre _ ?_), hrun, hended, _, _, rfl, ?_, ⟨_, rfl⟩, hW, hsame.mono (by decide) (by decide)⟩
      · exact X3.returnOut hx Bd.returns (hb hby d6_33) hr
      · show Q6 Z o fb mb kb km z cn fs ms h0 n0 _ T3.heap _
        rw [e3]
        exact ⟨rfl, NN, K, E_o, F_flags, F_marked, F_count, (show own_cl ms 0 i fl = _ from hres) ▸ V_f, V_m⟩
    | succ n ih =>
      intro i fl Tl ll hl Xl el NNl K Zn E_o F_flags F_marked F_count V_f V_m hn hi0 hfl hres pre
      have pre : ∀ τ, Steps p.tables e below (Tl.setTop (mkF m 4 #[.val (.ref o), .val (.int i)] [(.ref o), (.int i)])) τ → G τ := fun τ κ => pre τ (by
        refine XS.iloadN Xl.here hx rfl (hb hby d6_2) rfl ?_
        show Steps p.tables e below (Tl.setTop (mkF m 3 #[.val (.ref o), .val (.int i)] [(.int i)])) τ
        refine XS.aloadN Xl.here hx rfl (hb hby d6_3) rfl rfl ?_
        show Steps p.tables e below (Tl.setTop (mkF m 4 #[.val (.ref o), .val (.int i)] [(.ref o), (.int i)])) τ
        exact κ)
      obtain ⟨T4, X4, e4, st4⟩ := getF Xl hx hZ hown (host := "") (Or.inl (hw _ (List.mem_of_getElem? (i := 30) rfl))) Via.refl el F_count (g := (mkF m 4 #[.val (.ref o), .val (.int i)] [(.ref o), (.int i)])) rfl rfl (hb hby d6_4)
      have pre : ∀ τ, Steps p.tables e below (T4.setTop (mkF m 7 #[.val (.ref o), .val (.int i)] [(.int cn), (.int i)])) τ → G τ := fun τ κ => pre τ (st4 τ κ)
      have hc5 : i < cn := own_ls hn
      have pre : ∀ τ, Steps p.tables e below (T4.setTop (mkF m 11 #[.val (.ref o), .val (.int i)] [(.ref o)])) τ → G τ := fun τ κ => pre τ (by
        refine XS.icmpNo X4.here hx rfl (hb hby d6_7) rfl (tlt hc5).2.1 ?_
        show Steps p.tables e below (T4.setTop (mkF m 10 #[.val (.ref o), .val (.int i)] [])) τ
        refine XS.aloadN X4.here hx rfl (hb hby d6_10) rfl rfl ?_
        show Steps p.tables e below (T4.setTop (mkF m 11 #[.val (.ref o), .val (.int i)] [(.ref o)])) τ
        exact κ)
      obtain ⟨T6, X6, e6, st6⟩ := getF X4 hx hZ hown (host := "") (Or.inl (hw _ (List.mem_of_getElem? (i := 15) rfl))) Via.refl e4 F_flags (g := (mkF m 11 #[.val (.ref o), .val (.int i)] [(.ref o)])) rfl rfl (hb hby d6_11)
      have pre : ∀ τ, Steps p.tables e below (T6.setTop (mkF m 14 #[.val (.ref o), .val (.int i)] [(.ref fb)])) τ → G τ := fun τ κ => pre τ (st6 τ κ)
      have pre : ∀ τ, Steps p.tables e below (T6.setTop (mkF m 15 #[.val (.ref o), .val (.int i)] [(.ref o), (.ref fb)])) τ → G τ := fun τ κ => pre τ (by
        refine XS.aloadN X6.here hx rfl (hb hby d6_14) rfl rfl ?_
        show Steps p.tables e below (T6.setTop (mkF m 15 #[.val (.ref o), .val (.int i)] [(.ref o), (.ref fb)])) τ
        exact κ)
      obtain ⟨T7, X7, e7, st7⟩ := getF X6 hx hZ hown (host := "") (Or.inl (hw _ (List.mem_of_getElem? (i := 18) rfl))) Via.refl e6 F_marked (g := (mkF m 15 #[.val (.ref o), .val (.int i)] [(.ref o), (.ref fb)])) rfl rfl (hb hby d6_15)
      have pre : ∀ τ, Steps p.tables e below (T7.setTop (mkF m 18 #[.val (.ref o), .val (.int i)] [(.ref mb), (.ref fb)])) τ → G τ := fun τ κ => pre τ (st7 τ κ)
      have pre : ∀ τ, Steps p.tables e below (T7.setTop (mkF m 19 #[.val (.ref o), .val (.int i)] [(.int i), (.ref mb), (.ref fb)])) τ → G τ := fun τ κ => pre τ (by
        refine XS.iloadN X7.here hx rfl (hb hby d6_18) rfl ?_
        show Steps p.tables e below (T7.setTop (mkF m 19 #[.val (.ref o), .val (.int i)] [(.int i), (.ref mb), (.ref fb)])) τ
        exact κ)
      obtain ⟨c8, Ar8, q8, S8, Nz8, Hh8, Gg8⟩ := id V_m
      have hin8 : ¬ (i < 0 ∨ c8.slots.size ≤ (i).toNatClampNeg) := inb_of S8 (own_ci hi0 hn hcn)
      have hat8 : c8.slots[(i).toNatClampNeg]? = some (.int (own_at ms i)) := own_getI Hh8 Gg8 hin8
      have pre : ∀ τ, Steps p.tables e below (T7.setTop (mkF m 20 #[.val (.ref o), .val (.int i)] [(.int (own_at ms i)), (.ref fb)])) τ → G τ := fun τ κ => pre τ (X7.iaload hx (j := i) (v := (.int (own_at ms i))) (by rw [e7]; exact Ar8.1) (State.isArrayOf_alike hZ.alike Ar8.2.1) Ar8.2.2 hin8 hat8 (g := (mkF m 19 #[.val (.ref o), .val (.int i)] [(.int i), (.ref mb), (.ref fb)])) rfl rfl (hb hby d6_19) _ κ)
      have pre : ∀ τ, Steps p.tables e below (T7.setTop (mkF m 21 #[.val (.ref o), .val (.int i)] [(.int (0 : Int32)), (.int (own_at ms i)), (.ref fb)])) τ → G τ := fun τ κ => pre τ (by
        refine XS.iconst X7.here hx rfl (hb hby d6_20) ?_
        show Steps p.tables e below (T7.setTop (mkF m 21 #[.val (.ref o), .val (.int i)] [(.int (0 : Int32)), (.int (own_at ms i)), (.ref fb)])) τ
        exact κ)
      obtain ⟨c9, Ar9, q9, S9, Nz9, Hh9, Gg9⟩ := id V_f
      have hin9 : ¬ ((own_at ms i) < 0 ∨ c9.slots.size ≤ ((own_at ms i)).toNatClampNeg) := inb_of S9 (hmz _ hi0 (own_ilt hn))
      obtain ⟨T9, h9, X9, e9, W9, st9⟩ := stB X7 hx hZ e7 Ar9 (j := (own_at ms i)) hin9 (g := (mkF m 21 #[.val (.ref o), .val (.int i)] [(.int (0 : Int32)), (.int (own_at ms i)), (.ref fb)])) rfl rfl (hb hby d6_21)
      have V_f : Arv Z h9 fb kb .byte z (fl.set ((own_at ms i)).toNatClampNeg (.int (nar .byte (0 : Int32)))) (.int (0 : Int32)) := Arv.set Ar9 q9 S9 Nz9 Hh9 Gg9 (fits_nar_byte _) W9 _ rfl (own_lt (hmz _ hi0 (own_ilt hn)) hfl)
      have E_o : Exa Z h9 o "com/example/cairn/cairn/history/Marks" := E_o.wr W9
      have F_flags : Fld Z h9 o "com/example/cairn/cairn/history/Marks" "flags" "[B" (.ref fb) := F_flags.other W9 (Or.inl ne_o__fb)
      have F_marked : Fld Z h9 o "com/example/cairn/cairn/history/Marks" "marked" "[I" (.ref mb) := F_marked.other W9 (Or.inl ne_o__fb)
      have F_count : Fld Z h9 o "com/example/cairn/cairn/history/Marks" "count" "I" (.int cn) := F_count.other W9 (Or.inl ne_o__fb)
      have V_m : Arv Z h9 mb km .int (64 : Int32) ms (.int (0 : Int32)) := V_m.other W9 ne_mb__fb
      have Zn : n0 ≤ h9.size := Nat.le_trans Zn (Keep.of_wr W9).1
      have K : Keep h0 h9 [o, mb, fb] := K.wr W9 (Or.inl (List.mem_of_getElem? (i := 2) rfl))
      have NN := Fr.snoc X9 NNl g_fb
      have pre : ∀ τ, Steps p.tables e below (T9.setTop (mkF m 22 #[.val (.ref o), .val (.int i)] [])) τ → G τ := fun τ κ => pre τ (st9 τ κ)
      have pre : ∀ τ, Steps p.tables e below (T9.setTop (mkF m 2 #[.val (.ref o), .val (.int (i + (1 : Int32)))] [])) τ → G τ := fun τ κ => pre τ (by
        refine XS.iinc X9.here hx rfl (hb hby d6_22) rfl (l' := #[.val (.ref o), .val (.int (i + (1 : Int32)))]) rfl ?_
        show Steps p.tables e below (T9.setTop (mkF m 25 #[.val (.ref o), .val (.int (i + (1 : Int32)))] [])) τ
        refine XS.goto X9.here hx rfl (pc0 := 25) (pc' := 2) rfl (hb hby d6_25) (by decide) (by decide) ?_
        show Steps p.tables e below (T9.setTop (mkF m 2 #[.val (.ref o), .val (.int (i + (1 : Int32)))] [])) τ
        exact κ)
      exact ih (i + (1 : Int32)) (fl.set ((own_at ms i)).toNatClampNeg (.int (nar .byte (0 : Int32)))) T9 _ h9 X9 e9 NN K Zn E_o F_flags F_marked F_count V_f V_m (own_l1 hi0 hn hcn) (own_l2 hi0 hn hcn) (own_l3 hfl) hres pre
  exact loop cn.toInt.toNat (0 : Int32) fs s₁ _ h0 X0 e0 N0 K Zn E_o F_flags F_marked F_count V_f V_m (own_l0 hcn) (by decide) hfs rfl pre
theorem pn_1 : plainName "com/example/cairn/cairn/history/MarksClearPinLaw" = true := by first | (simp [plainName, overriddenIn]; done) | decide +kernel
theorem d1_0 : decode method_2_code 0 = .ok (.iload_n 0, 1) := by decide +kernel
theorem d1_1 : decode method_2_code 1 = .ok (.ldc 7, 2) := by decide +kernel
theorem d1_3 : decode method_2_code 3 = .ok (.iand, 1) := by decide +kernel
theorem d1_4 : decode method_2_code 4 = .ok (.sipush 255, 3) := by decide +kernel
theorem d1_7 : decode method_2_code 7 = .ok (.irem, 1) := by decide +kernel
theorem d1_8 : decode method_2_code 8 = .ok (.iconst 1, 1) := by decide +kernel
theorem d1_9 : decode method_2_code 9 = .ok (.iadd, 1) := by decide +kernel
theorem d1_10 : decode method_2_code 10 = .ok (.ireturn, 1) := by decide +kernel
theorem ef_1 (m : MethodId) (x0 : Int32) : entryFrame m #[(.int x0)] 1 = mkF m 0 #[.val (.int x0)] [] := by first | (simp [entryFrame, mkF, argsToLocals, Value.category]; done) | rfl
def Q1 (Z : State) (x : Int32) (h0 : Heap) (n0 : Nat) (vα : Option Value) (hα : Heap) (Lα : List Loc) : Prop := vα = some (.int (own_fv x)) ∧ Fr n0 Lα ∧ hα = h0
set_option maxRecDepth 65536 in
set_option maxHeartbeats 40000000 in
theorem rm1 (l : Launch) (Z : State) (a0 : Array Value) (hw : ∀ d ∈ tables_1, d.before a0 Z = true) (ws : List Jvm.Cond) (x : Int32) (h0 : Heap) (n0 : Nat) (Z0 : n0 ≤ h0.size) :
    MetFree l (⟨"com/example/cairn/cairn/history/MarksClearPinLaw", "flagValue", "(I)I"⟩ : MethodName) (head1 (Jvm.Cond.code (⟨"com/example/cairn/cairn/history/MarksClearPinLaw", "flagValue", "(I)I"⟩ : MethodName) method_2_code 1 (some .int) :: ws) ({ frames := 0, cells := 0, slots := 0, locals := 0 } : Room)) (fun aα U => aα = #[(.int x)] ∧ Z.Warmed39 U.vm ∧ U.heap = h0) (fun _ _ _ _ _ => True) (fun _ U oα U' => ∃ vα Lα, oα = .returned vα ∧ Q1 Z x h0 n0 vα U'.heap Lα ∧ FrameEnd U oα U' Lα ({ frames := 0, cells := 0, slots := 0, locals := 0 } : Room).cells ({ frames := 0, cells := 0, slots := 0, locals := 0 } : Room).slots) := by
  refine MetFree.of_bodySF (plainFor_of_name pn_1) hisR ?_
  intro p e s m args below meth c s₁ Bd hml0 hP hK
  refine own_wrap ?_
  intro GL hGL
  obtain ⟨rfl, hZ, hh⟩ := hP
  have hx := Bd.exec
  have hby := Bd.bytes
  have hml : c.maxLocals = 1 := hml0
  have hown : s.vm.findClass "com/example/cairn/cairn/history/MarksClearPinLaw" = some m.cls := findClass_of_methodNamed Bd.named
  have hnm := (name_of_methodNamed Bd.named Bd.method).1
  have X0 : Stand p l e ({ frames := 0, cells := 0, slots := 0, locals := 0 } : Room) s m #[(.int x)] below meth c s₁ [] 0 0 := Stand.of_body Bd
  have e0 : s₁.heap = h0 := by rw [← hh, Bd.state]; rfl
  have N0 := Fr.nil n0
  have pre0 : ∀ τ, Steps p.tables e below (s₁.setTop (mkF m 0 #[.val (.int x)] [])) τ → Steps p.tables e below (s₁.setTop (entryFrame m #[(.int x)] 1)) τ := fun τ κ => castTop (ef_1 m x) κ
  obtain ⟨G, hG, pre⟩ : ∃ G : State → Prop, (∀ τ, G τ → Steps p.tables e below (s₁.setTop (entryFrame m #[(.int x)] 1)) τ) ∧ ∀ τ, Steps p.tables e below (s₁.setTop (mkF m 0 #[.val (.int x)] [])) τ → G τ := ⟨_, pre0, fun _ k => k⟩
  have K : Keep h0 h0 [] := Keep.refl h0 _
  have Zn := Z0
  have pre : ∀ τ, Steps p.tables e below (s₁.setTop (mkF m 10 #[.val (.int x)] [(.int (((x &&& (2147483647 : Int32)) % (255 : Int32)) + (1 : Int32)))])) τ → G τ := fun τ κ => pre τ (by
    refine XS.iloadN X0.here hx rfl (hb hby d1_0) rfl ?_
    show Steps p.tables e below (s₁.setTop (mkF m 1 #[.val (.int x)] [(.int x)])) τ
    refine X0.ldcInt hx hown (mvT hZ (hw _ (List.mem_of_getElem? (i := 4) rfl))) (g := (mkF m 1 #[.val (.int x)] [(.int x)])) rfl (hb hby d1_1) _ ?_
    show Steps p.tables e below (s₁.setTop (mkF m 3 #[.val (.int x)] [(.int (2147483647 : Int32)), (.int x)])) τ
    refine XS.iand X0.here hx rfl (hb hby d1_3) rfl ?_
    show Steps p.tables e below (s₁.setTop (mkF m 4 #[.val (.int x)] [(.int (x &&& (2147483647 : Int32)))])) τ
    refine XS.sipush X0.here hx rfl (hb hby d1_4) ?_
    show Steps p.tables e below (s₁.setTop (mkF m 7 #[.val (.int x)] [(.int (255 : Int32)), (.int (x &&& (2147483647 : Int32)))])) τ
    refine iremM X0 hx rfl (hb hby d1_7) rfl (by decide) ?_
    show Steps p.tables e below (s₁.setTop (mkF m 8 #[.val (.int x)] [(.int ((x &&& (2147483647 : Int32)) % (255 : Int32)))])) τ
    refine XS.iconst X0.here hx rfl (hb hby d1_8) ?_
    show Steps p.tables e below (s₁.setTop (mkF m 9 #[.val (.int x)] [(.int (1 : Int32)), (.int ((x &&& (2147483647 : Int32)) % (255 : Int32)))])) τ
    refine XS.iadd X0.here hx rfl (hb hby d1_9) rfl ?_
    show Steps p.tables e below (s₁.setTop (mkF m 10 #[.val (.int x)] [(.int (((x &&& (2147483647 : Int32)) % (255 : Int32)) + (1 : Int32)))])) τ
    exact κ)
  obtain ⟨fsα, hr, hrun, hended, hW, hsame⟩ := X0.leave (v := some (.int (((x &&& (2147483647 : Int32)) % (255 : Int32)) + (1 : Int32)))) (fun h => by rw [Bd.returns] at h; cases h)
  refine hGL ⟨_, _, hG _ (pre _ ?_), hrun, hended, _, _, rfl, ?_, ⟨_, rfl⟩, hW, hsame.mono (by decide) (by decide)⟩
  · exact retOut X0 hx Bd.returns rfl (Or.inl ⟨rfl, Or.inl rfl, _, rfl⟩) (hb hby d1_10) hr
  · show Q1 Z x h0 n0 _ s₁.heap _
    rw [e0]
    exact ⟨rfl, N0, rfl⟩
theorem pd_0 : parseMethodDescriptor "(I)I" = some ⟨[.int], some .int⟩ := by decide +kernel
theorem pd_1 : parseMethodDescriptor "()V" = some ⟨[], none⟩ := by decide +kernel
theorem pd_2 : parseMethodDescriptor "(I)V" = some ⟨[.int], none⟩ := by decide +kernel
theorem pd_3 : parseMethodDescriptor "(II)V" = some ⟨[.int, .int], none⟩ := by decide +kernel
theorem pd_4 : parseMethodDescriptor "()I" = some ⟨[], some .int⟩ := by decide +kernel
theorem ef_0 (m : MethodId) (x0 : Int32) (x1 : Int32) (x2 : Int32) (x3 : Int32) (x4 : Int32) (x5 : Int32) : entryFrame m #[(.int x0), (.int x1), (.int x2), (.int x3), (.int x4), (.int x5)] maxLocals = mkF m 0 #[.val (.int x0), .val (.int x1), .val (.int x2), .val (.int x3), .val (.int x4), .val (.int x5), .unset, .unset, .unset, .unset, .unset, .unset, .unset, .unset, .unset] [] := by first | (simp [entryFrame, mkF, argsToLocals, Value.category, maxLocals]; done) | rfl
def Q0 (Z : State) (p1 : Int32) (p2 : Int32) (p3 : Int32) (p4 : Int32) (p5 : Int32) (p6 : Int32) (h0 : Heap) (n0 : Nat) (vα : Option Value) (hα : Heap) (Lα : List Loc) : Prop := vα = some (.int (1 : Int32)) ∧ Fr n0 Lα
set_option maxRecDepth 65536 in
set_option maxHeartbeats 40000000 in
theorem rm0 (l : Launch) (Z : State) (a0 : Array Value) (hw : ∀ d ∈ tables_1, d.before a0 Z = true) (ws : List Jvm.Cond) (p1 : Int32) (p2 : Int32) (p3 : Int32) (p4 : Int32) (p5 : Int32) (p6 : Int32) (h0 : Heap) (n0 : Nat) (Z0 : n0 ≤ h0.size) :
    MetFree l x (head1 (Jvm.Cond.code x code maxLocals ret :: ws) room_1) (fun aα U => aα = #[(.int p1), (.int p2), (.int p3), (.int p4), (.int p5), (.int p6)] ∧ Z.Warmed39 U.vm ∧ U.heap = h0) (fun _ _ _ _ _ => True) (fun _ U oα U' => ∃ vα Lα, oα = .returned vα ∧ Q0 Z p1 p2 p3 p4 p5 p6 h0 n0 vα U'.heap Lα ∧ FrameEnd U oα U' Lα room_1.cells room_1.slots) := by
  refine MetFree.of_bodySF (plainFor_of_name pn_1) hisR ?_
  intro p e s m args below meth c s₁ Bd hml0 hP hK
  refine own_wrap ?_
  intro GL hGL
  obtain ⟨rfl, hZ, hh⟩ := hP
  have hx := Bd.exec
  have hby := Bd.bytes
  have hml : c.maxLocals = 15 := hml0
  have hown : s.vm.findClass "com/example/cairn/cairn/history/MarksClearPinLaw" = some m.cls := findClass_of_methodNamed Bd.named
  have hnm := (name_of_methodNamed Bd.named Bd.method).1
  have X0 : Stand p l e room_1 s m #[(.int p1), (.int p2), (.int p3), (.int p4), (.int p5), (.int p6)] below meth c s₁ [] 0 0 := Stand.of_body Bd
  have e0 : s₁.heap = h0 := by rw [← hh, Bd.state]; rfl
  have N0 := Fr.nil n0
  have pre0 : ∀ τ, Steps p.tables e below (s₁.setTop (mkF m 0 #[.val (.int p1), .val (.int p2), .val (.int p3), .val (.int p4), .val (.int p5), .val (.int p6), .unset, .unset, .unset, .unset, .unset, .unset, .unset, .unset, .unset] [])) τ → Steps p.tables e below (s₁.setTop (entryFrame m #[(.int p1), (.int p2), (.int p3), (.int p4), (.int p5), (.int p6)] maxLocals)) τ := fun τ κ => castTop (ef_0 m p1 p2 p3 p4 p5 p6) κ
  obtain ⟨G, hG, pre⟩ : ∃ G : State → Prop, (∀ τ, G τ → Steps p.tables e below (s₁.setTop (entryFrame m #[(.int p1), (.int p2), (.int p3), (.int p4), (.int p5), (.int p6)] maxLocals)) τ) ∧ ∀ τ, Steps p.tables e below (s₁.setTop (mkF m 0 #[.val (.int p1), .val (.int p2), .val (.int p3), .val (.int p4), .val (.int p5), .val (.int p6), .unset, .unset, .unset, .unset, .unset, .unset, .unset, .unset, .unset] [])) τ → G τ := ⟨_, pre0, fun _ k => k⟩
  have Zn := Z0
  have pre : ∀ τ, Steps p.tables e below (s₁.setTop (mkF m 18 #[.val (.int p1), .val (.int p2), .val (.int p3), .val (.int p4), .val (.int p5), .val (.int p6), .val (.int (p1 &&& (7 : Int32))), .val (.int (p2 &&& (7 : Int32))), .val (.int (p3 &&& (7 : Int32))), .unset, .unset, .unset, .unset, .unset, .unset] [])) τ → G τ := fun τ κ => pre τ (by
    refine XS.iloadN X0.here hx rfl (hb hby at_0) rfl ?_
    show Steps p.tables e below (s₁.setTop (mkF m 1 #[.val (.int p1), .val (.int p2), .val (.int p3), .val (.int p4), .val (.int p5), .val (.int p6), .unset, .unset, .unset, .unset, .unset, .unset, .unset, .unset, .unset] [(.int p1)])) τ
    refine XS.bipush X0.here hx rfl (hb hby at_1) ?_
    show Steps p.tables e below (s₁.setTop (mkF m 3 #[.val (.int p1), .val (.int p2), .val (.int p3), .val (.int p4), .val (.int p5), .val (.int p6), .unset, .unset, .unset, .unset, .unset, .unset, .unset, .unset, .unset] [(.int (7 : Int32)), (.int p1)])) τ
    refine XS.iand X0.here hx rfl (hb hby at_3) rfl ?_
    show Steps p.tables e below (s₁.setTop (mkF m 4 #[.val (.int p1), .val (.int p2), .val (.int p3), .val (.int p4), .val (.int p5), .val (.int p6), .unset, .unset, .unset, .unset, .unset, .unset, .unset, .unset, .unset] [(.int (p1 &&& (7 : Int32)))])) τ
    refine XS.istore X0.here hx rfl (hb hby at_4) rfl (l' := #[.val (.int p1), .val (.int p2), .val (.int p3), .val (.int p4), .val (.int p5), .val (.int p6), .val (.int (p1 &&& (7 : Int32))), .unset, .unset, .unset, .unset, .unset, .unset, .unset, .unset]) rfl ?_
    show Steps p.tables e below (s₁.setTop (mkF m 6 #[.val (.int p1), .val (.int p2), .val (.int p3), .val (.int p4), .val (.int p5), .val (.int p6), .val (.int (p1 &&& (7 : Int32))), .unset, .unset, .unset, .unset, .unset, .unset, .unset, .unset] [])) τ
    refine XS.iloadN X0.here hx rfl (hb hby at_6) rfl ?_
    show Steps p.tables e below (s₁.setTop (mkF m 7 #[.val (.int p1), .val (.int p2), .val (.int p3), .val (.int p4), .val (.int p5), .val (.int p6), .val (.int (p1 &&& (7 : Int32))), .unset, .unset, .unset, .unset, .unset, .unset, .unset, .unset] [(.int p2)])) τ
    refine XS.bipush X0.here hx rfl (hb hby at_7) ?_
    show Steps p.tables e below (s₁.setTop (mkF m 9 #[.val (.int p1), .val (.int p2), .val (.int p3), .val (.int p4), .val (.int p5), .val (.int p6), .val (.int (p1 &&& (7 : Int32))), .unset, .unset, .unset, .unset, .unset, .unset, .unset, .unset] [(.int (7 : Int32)), (.int p2)])) τ
    refine XS.iand X0.here hx rfl (hb hby at_9) rfl ?_
    show Steps p.tables e below (s₁.setTop (mkF m 10 #[.val (.int p1), .val (.int p2), .val (.int p3), .val (.int p4), .val (.int p5), .val (.int p6), .val (.int (p1 &&& (7 : Int32))), .unset, .unset, .unset, .unset, .unset, .unset, .unset, .unset] [(.int (p2 &&& (7 : Int32)))])) τ
    refine XS.istore X0.here hx rfl (hb hby at_10) rfl (l' := #[.val (.int p1), .val (.int p2), .val (.int p3), .val (.int p4), .val (.int p5), .val (.int p6), .val (.int (p1 &&& (7 : Int32))), .val (.int (p2 &&& (7 : Int32))), .unset, .unset, .unset, .unset, .unset, .unset, .unset]) rfl ?_
    show Steps p.tables e below (s₁.setTop (mkF m 12 #[.val (.int p1), .val (.int p2), .val (.int p3), .val (.int p4), .val (.int p5), .val (.int p6), .val (.int (p1 &&& (7 : Int32))), .val (.int (p2 &&& (7 : Int32))), .unset, .unset, .unset, .unset, .unset, .unset, .unset] [])) τ
    refine XS.iloadN X0.here hx rfl (hb hby at_12) rfl ?_
    show Steps p.tables e below (s₁.setTop (mkF m 13 #[.val (.int p1), .val (.int p2), .val (.int p3), .val (.int p4), .val (.int p5), .val (.int p6), .val (.int (p1 &&& (7 : Int32))), .val (.int (p2 &&& (7 : Int32))), .unset, .unset, .unset, .unset, .unset, .unset, .unset] [(.int p3)])) τ
    refine XS.bipush X0.here hx rfl (hb hby at_13) ?_
    show Steps p.tables e below (s₁.setTop (mkF m 15 #[.val (.int p1), .val (.int p2), .val (.int p3), .val (.int p4), .val (.int p5), .val (.int p6), .val (.int (p1 &&& (7 : Int32))), .val (.int (p2 &&& (7 : Int32))), .unset, .unset, .unset, .unset, .unset, .unset, .unset] [(.int (7 : Int32)), (.int p3)])) τ
    refine XS.iand X0.here hx rfl (hb hby at_15) rfl ?_
    show Steps p.tables e below (s₁.setTop (mkF m 16 #[.val (.int p1), .val (.int p2), .val (.int p3), .val (.int p4), .val (.int p5), .val (.int p6), .val (.int (p1 &&& (7 : Int32))), .val (.int (p2 &&& (7 : Int32))), .unset, .unset, .unset, .unset, .unset, .unset, .unset] [(.int (p3 &&& (7 : Int32)))])) τ
    refine XS.istore X0.here hx rfl (hb hby at_16) rfl (l' := #[.val (.int p1), .val (.int p2), .val (.int p3), .val (.int p4), .val (.int p5), .val (.int p6), .val (.int (p1 &&& (7 : Int32))), .val (.int (p2 &&& (7 : Int32))), .val (.int (p3 &&& (7 : Int32))), .unset, .unset, .unset, .unset, .unset, .unset]) rfl ?_
    show Steps p.tables e below (s₁.setTop (mkF m 18 #[.val (.int p1), .val (.int p2), .val (.int p3), .val (.int p4), .val (.int p5), .val (.int p6), .val (.int (p1 &&& (7 : Int32))), .val (.int (p2 &&& (7 : Int32))), .val (.int (p3 &&& (7 : Int32))), .unset, .unset, .unset, .unset, .unset, .unset] [])) τ
    exact κ)
  obtain ⟨ca, hca⟩ : ∃ z : Int32, z = (p1 &&& (7 : Int32)) := ⟨_, rfl⟩
  have pre : ∀ τ, Steps p.tables e below (s₁.setTop (mkF m 18 #[.val (.int p1), .val (.int p2), .val (.int p3), .val (.int p4), .val (.int p5), .val (.int p6), .val (.int ca), .val (.int (p2 &&& (7 : Int32))), .val (.int (p3 &&& (7 : Int32))), .unset, .unset, .unset, .unset, .unset, .unset] [])) τ → G τ := by subst hca; exact pre
  have bca : ¬ ca < 0 ∧ ca < (8 : Int32) := by rw [hca]; exact own_b7 _
  obtain ⟨cb, hcb⟩ : ∃ z : Int32, z = (p2 &&& (7 : Int32)) := ⟨_, rfl⟩
  have pre : ∀ τ, Steps p.tables e below (s₁.setTop (mkF m 18 #[.val (.int p1), .val (.int p2), .val (.int p3), .val (.int p4), .val (.int p5), .val (.int p6), .val (.int ca), .val (.int cb), .val (.int (p3 &&& (7 : Int32))), .unset, .unset, .unset, .unset, .unset, .unset] [])) τ → G τ := by subst hcb; exact pre
  have bcb : ¬ cb < 0 ∧ cb < (8 : Int32) := by rw [hcb]; exact own_b7 _
  obtain ⟨cc, hcc⟩ : ∃ z : Int32, z = (p3 &&& (7 : Int32)) := ⟨_, rfl⟩
  have pre : ∀ τ, Steps p.tables e below (s₁.setTop (mkF m 18 #[.val (.int p1), .val (.int p2), .val (.int p3), .val (.int p4), .val (.int p5), .val (.int p6), .val (.int ca), .val (.int cb), .val (.int cc), .unset, .unset, .unset, .unset, .unset, .unset] [])) τ → G τ := by subst hcc; exact pre
  have bcc : ¬ cc < 0 ∧ cc < (8 : Int32) := by rw [hcc]; exact own_b7 _
  have pre : ∀ τ, Steps p.tables e below (s₁.setTop (mkF m 19 #[.val (.int p1), .val (.int p2), .val (.int p3), .val (.int p4), .val (.int p5), .val (.int p6), .val (.int ca), .val (.int cb), .val (.int cc), .unset, .unset, .unset, .unset, .unset, .unset] [(.int p4)])) τ → G τ := fun τ κ => pre τ (by
    refine XS.iloadN X0.here hx rfl (hb hby at_18) rfl ?_
    show Steps p.tables e below (s₁.setTop (mkF m 19 #[.val (.int p1), .val (.int p2), .val (.int p3), .val (.int p4), .val (.int p5), .val (.int p6), .val (.int ca), .val (.int cb), .val (.int cc), .unset, .unset, .unset, .unset, .unset, .unset] [(.int p4)])) τ
    exact κ)
  obtain ⟨_, _, ⟨T1, Lx1, kx1, nx1⟩, -, X1, ⟨Lc1, hQ1, l1, y1, z1⟩, st1⟩ := Jvm.LawKit.callS X0 hx (y := (⟨"com/example/cairn/cairn/history/MarksClearPinLaw", "flagValue", "(I)I"⟩ : MethodName)) hown (mvT hZ (hw _ (List.mem_of_getElem? (i := 0) rfl))) (mvT hZ (hw _ (List.mem_of_getElem? (i := 1) rfl))) (mvT hZ (hw _ (List.mem_of_getElem? (i := 2) rfl))) (mvT hZ (hw _ (List.mem_of_getElem? (i := 3) rfl))) (by decide) (backOf (W := 0) (rm1 l Z a0 hw [] p4 h0 n0 Zn) hZ (hw _ (List.mem_of_getElem? (i := 3) rfl)) (hw _ (List.mem_of_getElem? (i := 2) rfl)) (by decide) (by decide)) (g := (mkF m 19 #[.val (.int p1), .val (.int p2), .val (.int p3), .val (.int p4), .val (.int p5), .val (.int p6), .val (.int ca), .val (.int cb), .val (.int cc), .unset, .unset, .unset, .unset, .unset, .unset] [(.int p4)])) rfl (by rw [hml]; rfl) (argsL := [(.int p4)]) (rest := []) (lenOf pd_0 rfl) rfl (by show 2 * 0 + _ ≤ _; exact Nat.le_of_eq rfl) (hb hby at_19) (fun _ _ => ⟨rfl, e0, (by decide : 0 + 0 ≤ _), (by decide : 0 + 0 ≤ _)⟩)
  dsimp only [Pt.U, Pt.locs, Pt.cells, Pt.slots] at X1 l1 y1 z1 st1 hQ1
  subst l1 y1 z1
  obtain ⟨rfl, Nq1, hs1⟩ := hQ1
  have NN := Fr.app N0 Nq1
  have pre : ∀ τ, Steps p.tables e below (T1.setTop (mkF m 22 #[.val (.int p1), .val (.int p2), .val (.int p3), .val (.int p4), .val (.int p5), .val (.int p6), .val (.int ca), .val (.int cb), .val (.int cc), .unset, .unset, .unset, .unset, .unset, .unset] [(.int (own_fv p4))])) τ → G τ := fun τ κ => pre τ (st1 τ κ)
  have pre : ∀ τ, Steps p.tables e below (T1.setTop (mkF m 26 #[.val (.int p1), .val (.int p2), .val (.int p3), .val (.int p4), .val (.int p5), .val (.int p6), .val (.int ca), .val (.int cb), .val (.int cc), .val (.int (own_fv p4)), .unset, .unset, .unset, .unset, .unset] [(.int p5)])) τ → G τ := fun τ κ => pre τ (by
    refine XS.istore X1.here hx rfl (hb hby at_22) rfl (l' := #[.val (.int p1), .val (.int p2), .val (.int p3), .val (.int p4), .val (.int p5), .val (.int p6), .val (.int ca), .val (.int cb), .val (.int cc), .val (.int (own_fv p4)), .unset, .unset, .unset, .unset, .unset]) rfl ?_
    show Steps p.tables e below (T1.setTop (mkF m 24 #[.val (.int p1), .val (.int p2), .val (.int p3), .val (.int p4), .val (.int p5), .val (.int p6), .val (.int ca), .val (.int cb), .val (.int cc), .val (.int (own_fv p4)), .unset, .unset, .unset, .unset, .unset] [])) τ
    refine XS.iload X1.here hx rfl (hb hby at_24) rfl ?_
    show Steps p.tables e below (T1.setTop (mkF m 26 #[.val (.int p1), .val (.int p2), .val (.int p3), .val (.int p4), .val (.int p5), .val (.int p6), .val (.int ca), .val (.int cb), .val (.int cc), .val (.int (own_fv p4)), .unset, .unset, .unset, .unset, .unset] [(.int p5)])) τ
    exact κ)
  obtain ⟨_, _, ⟨T2, Lx2, kx2, nx2⟩, -, X2, ⟨Lc2, hQ2, l2, y2, z2⟩, st2⟩ := Jvm.LawKit.callS X1 hx (y := (⟨"com/example/cairn/cairn/history/MarksClearPinLaw", "flagValue", "(I)I"⟩ : MethodName)) hown (mvT hZ (hw _ (List.mem_of_getElem? (i := 0) rfl))) (mvT hZ (hw _ (List.mem_of_getElem? (i := 1) rfl))) (mvT hZ (hw _ (List.mem_of_getElem? (i := 2) rfl))) (mvT hZ (hw _ (List.mem_of_getElem? (i := 3) rfl))) (by decide) (backOf (W := 0) (rm1 l Z a0 hw [] p5 h0 n0 Zn) hZ (hw _ (List.mem_of_getElem? (i := 3) rfl)) (hw _ (List.mem_of_getElem? (i := 2) rfl)) (by decide) (by decide)) (g := (mkF m 26 #[.val (.int p1), .val (.int p2), .val (.int p3), .val (.int p4), .val (.int p5), .val (.int p6), .val (.int ca), .val (.int cb), .val (.int cc), .val (.int (own_fv p4)), .unset, .unset, .unset, .unset, .unset] [(.int p5)])) rfl (by rw [hml]; rfl) (argsL := [(.int p5)]) (rest := []) (lenOf pd_0 rfl) rfl (by show 2 * 0 + _ ≤ _; exact Nat.le_of_eq rfl) (hb hby at_26) (fun _ _ => ⟨rfl, hs1, (by decide : 0 + 0 ≤ _), (by decide : 0 + 0 ≤ _)⟩)
  dsimp only [Pt.U, Pt.locs, Pt.cells, Pt.slots] at X2 l2 y2 z2 st2 hQ2
  subst l2 y2 z2
  obtain ⟨rfl, Nq2, hs2⟩ := hQ2
  have NN := Fr.app NN Nq2
  have pre : ∀ τ, Steps p.tables e below (T2.setTop (mkF m 29 #[.val (.int p1), .val (.int p2), .val (.int p3), .val (.int p4), .val (.int p5), .val (.int p6), .val (.int ca), .val (.int cb), .val (.int cc), .val (.int (own_fv p4)), .unset, .unset, .unset, .unset, .unset] [(.int (own_fv p5))])) τ → G τ := fun τ κ => pre τ (st2 τ κ)
  have pre : ∀ τ, Steps p.tables e below (T2.setTop (mkF m 49 #[.val (.int p1), .val (.int p2), .val (.int p3), .val (.int p4), .val (.int p5), .val (.int p6), .val (.int ca), .val (.int cb), .val (.int cc), .val (.int (own_fv p4)), .val (.int (own_fv p5)), .val (.int ((((p6.toUInt32 >>> ((2 : Int32) &&& 31).toUInt32).toInt32) % (255 : Int32)) + (1 : Int32))), .val (.int (p6 &&& (3 : Int32))), .unset, .unset] [])) τ → G τ := fun τ κ => pre τ (by
    refine XS.istore X2.here hx rfl (hb hby at_29) rfl (l' := #[.val (.int p1), .val (.int p2), .val (.int p3), .val (.int p4), .val (.int p5), .val (.int p6), .val (.int ca), .val (.int cb), .val (.int cc), .val (.int (own_fv p4)), .val (.int (own_fv p5)), .unset, .unset, .unset, .unset]) rfl ?_
    show Steps p.tables e below (T2.setTop (mkF m 31 #[.val (.int p1), .val (.int p2), .val (.int p3), .val (.int p4), .val (.int p5), .val (.int p6), .val (.int ca), .val (.int cb), .val (.int cc), .val (.int (own_fv p4)), .val (.int (own_fv p5)), .unset, .unset, .unset, .unset] [])) τ
    refine XS.iload X2.here hx rfl (hb hby at_31) rfl ?_
    show Steps p.tables e below (T2.setTop (mkF m 33 #[.val (.int p1), .val (.int p2), .val (.int p3), .val (.int p4), .val (.int p5), .val (.int p6), .val (.int ca), .val (.int cb), .val (.int cc), .val (.int (own_fv p4)), .val (.int (own_fv p5)), .unset, .unset, .unset, .unset] [(.int p6)])) τ
    refine XS.iconst X2.here hx rfl (hb hby at_33) ?_
    show Steps p.tables e below (T2.setTop (mkF m 34 #[.val (.int p1), .val (.int p2), .val (.int p3), .val (.int p4), .val (.int p5), .val (.int p6), .val (.int ca), .val (.int cb), .val (.int cc), .val (.int (own_fv p4)), .val (.int (own_fv p5)), .unset, .unset, .unset, .unset] [(.int (2 : Int32)), (.int p6)])) τ
    refine XS.iushr X2.here hx rfl (hb hby at_34) rfl ?_
    show Steps p.tables e below (T2.setTop (mkF m 35 #[.val (.int p1), .val (.int p2), .val (.int p3), .val (.int p4), .val (.int p5), .val (.int p6), .val (.int ca), .val (.int cb), .val (.int cc), .val (.int (own_fv p4)), .val (.int (own_fv p5)), .unset, .unset, .unset, .unset] [(.int ((p6.toUInt32 >>> ((2 : Int32) &&& 31).toUInt32).toInt32))])) τ
    refine XS.sipush X2.here hx rfl (hb hby at_35) ?_
    show Steps p.tables e below (T2.setTop (mkF m 38 #[.val (.int p1), .val (.int p2), .val (.int p3), .val (.int p4), .val (.int p5), .val (.int p6), .val (.int ca), .val (.int cb), .val (.int cc), .val (.int (own_fv p4)), .val (.int (own_fv p5)), .unset, .unset, .unset, .unset] [(.int (255 : Int32)), (.int ((p6.toUInt32 >>> ((2 : Int32) &&& 31).toUInt32).toInt32))])) τ
    refine iremM X2 hx rfl (hb hby at_38) rfl (by decide) ?_
    show Steps p.tables e below (T2.setTop (mkF m 39 #[.val (.int p1), .val (.int p2), .val (.int p3), .val (.int p4), .val (.int p5), .val (.int p6), .val (.int ca), .val (.int cb), .val (.int cc), .val (.int (own_fv p4)), .val (.int (own_fv p5)), .unset, .unset, .unset, .unset] [(.int (((p6.toUInt32 >>> ((2 : Int32) &&& 31).toUInt32).toInt32) % (255 : Int32)))])) τ
    refine XS.iconst X2.here hx rfl (hb hby at_39) ?_
    show Steps p.tables e below (T2.setTop (mkF m 40 #[.val (.int p1), .val (.int p2), .val (.int p3), .val (.int p4), .val (.int p5), .val (.int p6), .val (.int ca), .val (.int cb), .val (.int cc), .val (.int (own_fv p4)), .val (.int (own_fv p5)), .unset, .unset, .unset, .unset] [(.int (1 : Int32)), (.int (((p6.toUInt32 >>> ((2 : Int32) &&& 31).toUInt32).toInt32) % (255 : Int32)))])) τ
    refine XS.iadd X2.here hx rfl (hb hby at_40) rfl ?_
    show Steps p.tables e below (T2.setTop (mkF m 41 #[.val (.int p1), .val (.int p2), .val (.int p3), .val (.int p4), .val (.int p5), .val (.int p6), .val (.int ca), .val (.int cb), .val (.int cc), .val (.int (own_fv p4)), .val (.int (own_fv p5)), .unset, .unset, .unset, .unset] [(.int ((((p6.toUInt32 >>> ((2 : Int32) &&& 31).toUInt32).toInt32) % (255 : Int32)) + (1 : Int32)))])) τ
    refine XS.istore X2.here hx rfl (hb hby at_41) rfl (l' := #[.val (.int p1), .val (.int p2), .val (.int p3), .val (.int p4), .val (.int p5), .val (.int p6), .val (.int ca), .val (.int cb), .val (.int cc), .val (.int (own_fv p4)), .val (.int (own_fv p5)), .val (.int ((((p6.toUInt32 >>> ((2 : Int32) &&& 31).toUInt32).toInt32) % (255 : Int32)) + (1 : Int32))), .unset, .unset, .unset]) rfl ?_
    show Steps p.tables e below (T2.setTop (mkF m 43 #[.val (.int p1), .val (.int p2), .val (.int p3), .val (.int p4), .val (.int p5), .val (.int p6), .val (.int ca), .val (.int cb), .val (.int cc), .val (.int (own_fv p4)), .val (.int (own_fv p5)), .val (.int ((((p6.toUInt32 >>> ((2 : Int32) &&& 31).toUInt32).toInt32) % (255 : Int32)) + (1 : Int32))), .unset, .unset, .unset] [])) τ
    refine XS.iload X2.here hx rfl (hb hby at_43) rfl ?_
    show Steps p.tables e below (T2.setTop (mkF m 45 #[.val (.int p1), .val (.int p2), .val (.int p3), .val (.int p4), .val (.int p5), .val (.int p6), .val (.int ca), .val (.int cb), .val (.int cc), .val (.int (own_fv p4)), .val (.int (own_fv p5)), .val (.int ((((p6.toUInt32 >>> ((2 : Int32) &&& 31).toUInt32).toInt32) % (255 : Int32)) + (1 : Int32))), .unset, .unset, .unset] [(.int p6)])) τ
    refine XS.iconst X2.here hx rfl (hb hby at_45) ?_
    show Steps p.tables e below (T2.setTop (mkF m 46 #[.val (.int p1), .val (.int p2), .val (.int p3), .val (.int p4), .val (.int p5), .val (.int p6), .val (.int ca), .val (.int cb), .val (.int cc), .val (.int (own_fv p4)), .val (.int (own_fv p5)), .val (.int ((((p6.toUInt32 >>> ((2 : Int32) &&& 31).toUInt32).toInt32) % (255 : Int32)) + (1 : Int32))), .unset, .unset, .unset] [(.int (3 : Int32)), (.int p6)])) τ
    refine XS.iand X2.here hx rfl (hb hby at_46) rfl ?_
    show Steps p.tables e below (T2.setTop (mkF m 47 #[.val (.int p1), .val (.int p2), .val (.int p3), .val (.int p4), .val (.int p5), .val (.int p6), .val (.int ca), .val (.int cb), .val (.int cc), .val (.int (own_fv p4)), .val (.int (own_fv p5)), .val (.int ((((p6.toUInt32 >>> ((2 : Int32) &&& 31).toUInt32).toInt32) % (255 : Int32)) + (1 : Int32))), .unset, .unset, .unset] [(.int (p6 &&& (3 : Int32)))])) τ
    refine XS.istore X2.here hx rfl (hb hby at_47) rfl (l' := #[.val (.int p1), .val (.int p2), .val (.int p3), .val (.int p4), .val (.int p5), .val (.int p6), .val (.int ca), .val (.int cb), .val (.int cc), .val (.int (own_fv p4)), .val (.int (own_fv p5)), .val (.int ((((p6.toUInt32 >>> ((2 : Int32) &&& 31).toUInt32).toInt32) % (255 : Int32)) + (1 : Int32))), .val (.int (p6 &&& (3 : Int32))), .unset, .unset]) rfl ?_
    show Steps p.tables e below (T2.setTop (mkF m 49 #[.val (.int p1), .val (.int p2), .val (.int p3), .val (.int p4), .val (.int p5), .val (.int p6), .val (.int ca), .val (.int cb), .val (.int cc), .val (.int (own_fv p4)), .val (.int (own_fv p5)), .val (.int ((((p6.toUInt32 >>> ((2 : Int32) &&& 31).toUInt32).toInt32) % (255 : Int32)) + (1 : Int32))), .val (.int (p6 &&& (3 : Int32))), .unset, .unset] [])) τ
    exact κ)
  obtain ⟨ww, hww⟩ : ∃ z : Int32, z = ((((p6.toUInt32 >>> ((2 : Int32) &&& 31).toUInt32).toInt32) % (255 : Int32)) + (1 : Int32)) := ⟨_, rfl⟩
  have pre : ∀ τ, Steps p.tables e below (T2.setTop (mkF m 49 #[.val (.int p1), .val (.int p2), .val (.int p3), .val (.int p4), .val (.int p5), .val (.int p6), .val (.int ca), .val (.int cb), .val (.int cc), .val (.int (own_fv p4)), .val (.int (own_fv p5)), .val (.int ww), .val (.int (p6 &&& (3 : Int32))), .unset, .unset] [])) τ → G τ := by subst hww; exact pre
  have bww : 1 ≤ ww.toInt ∧ ww.toInt ≤ 255 := by rw [hww]; exact own_w _
  obtain ⟨kk, hkk⟩ : ∃ z : Int32, z = (p6 &&& (3 : Int32)) := ⟨_, rfl⟩
  have pre : ∀ τ, Steps p.tables e below (T2.setTop (mkF m 49 #[.val (.int p1), .val (.int p2), .val (.int p3), .val (.int p4), .val (.int p5), .val (.int p6), .val (.int ca), .val (.int cb), .val (.int cc), .val (.int (own_fv p4)), .val (.int (own_fv p5)), .val (.int ww), .val (.int kk), .unset, .unset] [])) τ → G τ := by subst hkk; exact pre
  obtain ⟨T3, h3, X3, e3, E3, A3, D3, -, st3⟩ := newO X2 hx hZ hown (hw _ (List.mem_of_getElem? (i := 5) rfl)) (hw _ (List.mem_of_getElem? (i := 6) rfl)) (hw _ (List.mem_of_getElem? (i := 7) rfl)) hs2 (g := (mkF m 49 #[.val (.int p1), .val (.int p2), .val (.int p3), .val (.int p4), .val (.int p5), .val (.int p6), .val (.int ca), .val (.int cb), .val (.int cc), .val (.int (own_fv p4)), .val (.int (own_fv p5)), .val (.int ww), .val (.int kk), .unset, .unset] [])) rfl (hb hby at_49) (by decide) (by decide)
  obtain ⟨b3, gg3⟩ : ∃ z, z = h0.size := ⟨_, rfl⟩
  rw [← gg3] at A3 D3 st3
  have g_b3 : n0 ≤ b3 := Nat.le_trans Zn (Nat.le_of_eq gg3.symm)
  have Zn : n0 ≤ h3.size := Nat.le_trans Zn E3.1
  have F_flags_b3 : Fld Z h3 b3 "com/example/cairn/cairn/history/Marks" "flags" "[B" .null := D3 (Or.inl (hw _ (List.mem_of_getElem? (i := 16) rfl))) (ty := (.array .byte)) (by decide)
  have F_marked_b3 : Fld Z h3 b3 "com/example/cairn/cairn/history/Marks" "marked" "[I" .null := D3 (Or.inl (hw _ (List.mem_of_getElem? (i := 19) rfl))) (ty := (.array .int)) (by decide)
  have F_count_b3 : Fld Z h3 b3 "com/example/cairn/cairn/history/Marks" "count" "I" (.int (0 : Int32)) := D3 (Or.inl (hw _ (List.mem_of_getElem? (i := 31) rfl))) (ty := .int) (by decide)
  have E_b3 := A3
  have pre : ∀ τ, Steps p.tables e below (T3.setTop (mkF m 52 #[.val (.int p1), .val (.int p2), .val (.int p3), .val (.int p4), .val (.int p5), .val (.int p6), .val (.int ca), .val (.int cb), .val (.int cc), .val (.int (own_fv p4)), .val (.int (own_fv p5)), .val (.int ww), .val (.int kk), .unset, .unset] [(.ref b3)])) τ → G τ := fun τ κ => pre τ (st3 τ κ)
  have pre : ∀ τ, Steps p.tables e below (T3.setTop (mkF m 53 #[.val (.int p1), .val (.int p2), .val (.int p3), .val (.int p4), .val (.int p5), .val (.int p6), .val (.int ca), .val (.int cb), .val (.int cc), .val (.int (own_fv p4)), .val (.int (own_fv p5)), .val (.int ww), .val (.int kk), .unset, .unset] [(.ref b3), (.ref b3)])) τ → G τ := fun τ κ => pre τ (by
    refine XS.dup X3.here hx rfl (hb hby at_52) rfl rfl ?_
    show Steps p.tables e below (T3.setTop (mkF m 53 #[.val (.int p1), .val (.int p2), .val (.int p3), .val (.int p4), .val (.int p5), .val (.int p6), .val (.int ca), .val (.int cb), .val (.int cc), .val (.int (own_fv p4)), .val (.int (own_fv p5)), .val (.int ww), .val (.int kk), .unset, .unset] [(.ref b3), (.ref b3)])) τ
    exact κ)
  obtain ⟨_, _, ⟨T4, Lx4, kx4, nx4⟩, -, X4, ⟨Lc4, hQ4, l4, y4, z4⟩, st4⟩ := X3.specialBack hx (y := (⟨"com/example/cairn/cairn/history/Marks", "<init>", "()V"⟩ : MethodName)) rfl hown (mvT hZ (hw _ (List.mem_of_getElem? (i := 8) rfl))) (mvT hZ (hw _ (List.mem_of_getElem? (i := 9) rfl))) (mvT hZ (hw _ (List.mem_of_getElem? (i := 10) rfl))) (by decide) (backOf (W := 1) (rm2 l Z a0 hw [] b3 .null .null h3 n0 Zn g_b3 E_b3 F_flags_b3 F_marked_b3 F_count_b3) hZ (hw _ (List.mem_of_getElem? (i := 10) rfl)) (hw _ (List.mem_of_getElem? (i := 7) rfl)) (by decide) (by decide)) (g := (mkF m 53 #[.val (.int p1), .val (.int p2), .val (.int p3), .val (.int p4), .val (.int p5), .val (.int p6), .val (.int ca), .val (.int cb), .val (.int cc), .val (.int (own_fv p4)), .val (.int (own_fv p5)), .val (.int ww), .val (.int kk), .unset, .unset] [(.ref b3), (.ref b3)])) rfl (by rw [hml]; rfl) (Steps.refl _) (a := b3) (argsL := []) (rest := [(.ref b3)]) (lenOf pd_1 rfl) rfl (by show 2 * 0 + _ ≤ _; exact Nat.le_of_eq rfl) (hb hby at_53) (fun _ _ => ⟨rfl, e3, (by decide : 1 + 2 ≤ _), (by decide : 3 + 64 ≤ _)⟩)
  dsimp only [Pt.U, Pt.locs, Pt.cells, Pt.slots] at X4 l4 y4 z4 st4 hQ4
  subst l4 y4 z4
  obtain ⟨fb_4, mb_4, kb_4, km_4, rfl, Nq4, Kc4, gn_fb_4, gz_fb_4, gn_mb_4, gz_mb_4, ne_fb__mb_4, E_o_4, F_flags_4, F_marked_4, F_count_4, V_f_4, V_m_4⟩ := hQ4
  have NN := Fr.app NN Nq4
  have g_fb_4 := gn_fb_4
  have ne_b3_fb_4 : b3 ≠ fb_4 := Nat.ne_of_lt (Nat.lt_of_lt_of_le F_flags_b3.lt gz_fb_4)
  have g_mb_4 := gn_mb_4
  have ne_b3_mb_4 : b3 ≠ mb_4 := Nat.ne_of_lt (Nat.lt_of_lt_of_le F_flags_b3.lt gz_mb_4)
  have E_b3 : Exa Z T4.heap b3 "com/example/cairn/cairn/history/Marks" := E_b3.keep Kc4
  have Zn : n0 ≤ T4.heap.size := Nat.le_trans Zn Kc4.1
  have pre : ∀ τ, Steps p.tables e below (T4.setTop (mkF m 56 #[.val (.int p1), .val (.int p2), .val (.int p3), .val (.int p4), .val (.int p5), .val (.int p6), .val (.int ca), .val (.int cb), .val (.int cc), .val (.int (own_fv p4)), .val (.int (own_fv p5)), .val (.int ww), .val (.int kk), .unset, .unset] [(.ref b3)])) τ → G τ := fun τ κ => pre τ (st4.trans κ)
  have pre : ∀ τ, Steps p.tables e below (T4.setTop (mkF m 62 #[.val (.int p1), .val (.int p2), .val (.int p3), .val (.int p4), .val (.int p5), .val (.int p6), .val (.int ca), .val (.int cb), .val (.int cc), .val (.int (own_fv p4)), .val (.int (own_fv p5)), .val (.int ww), .val (.int kk), .val (.ref b3), .unset] [(.int (8 : Int32)), (.ref b3)])) τ → G τ := fun τ κ => pre τ (by
    refine XS.astore X4.here hx rfl (hb hby at_56) rfl rfl (l' := #[.val (.int p1), .val (.int p2), .val (.int p3), .val (.int p4), .val (.int p5), .val (.int p6), .val (.int ca), .val (.int cb), .val (.int cc), .val (.int (own_fv p4)), .val (.int (own_fv p5)), .val (.int ww), .val (.int kk), .val (.ref b3), .unset]) rfl ?_
    show Steps p.tables e below (T4.setTop (mkF m 58 #[.val (.int p1), .val (.int p2), .val (.int p3), .val (.int p4), .val (.int p5), .val (.int p6), .val (.int ca), .val (.int cb), .val (.int cc), .val (.int (own_fv p4)), .val (.int (own_fv p5)), .val (.int ww), .val (.int kk), .val (.ref b3), .unset] [])) τ
    refine XS.aload X4.here hx rfl (hb hby at_58) rfl rfl ?_
    show Steps p.tables e below (T4.setTop (mkF m 60 #[.val (.int p1), .val (.int p2), .val (.int p3), .val (.int p4), .val (.int p5), .val (.int p6), .val (.int ca), .val (.int cb), .val (.int cc), .val (.int (own_fv p4)), .val (.int (own_fv p5)), .val (.int ww), .val (.int kk), .val (.ref b3), .unset] [(.ref b3)])) τ
    refine XS.bipush X4.here hx rfl (hb hby at_60) ?_
    show Steps p.tables e below (T4.setTop (mkF m 62 #[.val (.int p1), .val (.int p2), .val (.int p3), .val (.int p4), .val (.int p5), .val (.int p6), .val (.int ca), .val (.int cb), .val (.int cc), .val (.int (own_fv p4)), .val (.int (own_fv p5)), .val (.int ww), .val (.int kk), .val (.ref b3), .unset] [(.int (8 : Int32)), (.ref b3)])) τ
    exact κ)
  obtain ⟨cq5, kq5, q5a, q5b, q5c⟩ := isOf hZ rfl E_b3
  obtain ⟨_, _, ⟨T5, Lx5, kx5, nx5⟩, -, X5, ⟨Lc5, hQ5, l5, y5, z5⟩, st5⟩ := X4.virtualBack hx (y := (⟨"com/example/cairn/cairn/history/Marks", "reserve", "(I)V"⟩ : MethodName)) (z := (⟨"com/example/cairn/cairn/history/Marks", "reserve", "(I)V"⟩ : MethodName)) hown (mvT hZ (hw _ (List.mem_of_getElem? (i := 20) rfl))) (mvT hZ (hw _ (List.mem_of_getElem? (i := 21) rfl))) (notFace_of_selects (args := #[]) (mvT hZ (hw _ (List.mem_of_getElem? (i := 23) rfl)))) (mvT hZ (hw _ (List.mem_of_getElem? (i := 23) rfl))) (mvT hZ (hw _ (List.mem_of_getElem? (i := 22) rfl))) (by decide) (backOf (W := 0) (rm4 l Z a0 hw [] b3 (8 : Int32) fb_4 mb_4 kb_4 km_4 (0 : Int32) (0 : Int32) [] (List.replicate 64 (.int (0 : Int32))) T4.heap n0 Zn g_b3 E_b3 F_flags_4 F_marked_4 F_count_4 V_f_4 V_m_4 ne_b3_mb_4 ne_b3_fb_4 (Ne.symm ne_fb__mb_4) (by decide) (by decide) gn_fb_4) hZ (hw _ (List.mem_of_getElem? (i := 24) rfl)) (hw _ (List.mem_of_getElem? (i := 7) rfl)) (by decide) (by decide)) q5a q5c (g := (mkF m 62 #[.val (.int p1), .val (.int p2), .val (.int p3), .val (.int p4), .val (.int p5), .val (.int p6), .val (.int ca), .val (.int cb), .val (.int cc), .val (.int (own_fv p4)), .val (.int (own_fv p5)), .val (.int ww), .val (.int kk), .val (.ref b3), .unset] [(.int (8 : Int32)), (.ref b3)])) rfl (by rw [hml]; rfl) (Steps.refl _) (argsL := [(.int (8 : Int32))]) (rest := []) (lenOf pd_2 rfl) rfl (by show 2 * 0 + _ ≤ _; exact Nat.le_of_eq rfl) (hb hby at_62) (fun _ _ => ⟨rfl, rfl, (by decide : 3 + 1 ≤ _), (by decide : 67 + 8 ≤ _)⟩)
  dsimp only [Pt.U, Pt.locs, Pt.cells, Pt.slots] at X5 l5 y5 z5 st5 hQ5
  subst l5 y5 z5
  obtain ⟨fc_5, kd_5, rfl, Nq5, Kc5, gn_fc_5, ne_o__fc_5, ne_mb__fc_5, E_o_5, F_flags_5, F_marked_5, F_count_5, V_f_5⟩ := hQ5
  have NN := Fr.app NN Nq5
  have E_b3 : Exa Z T5.heap b3 "com/example/cairn/cairn/history/Marks" := E_b3.keep Kc5
  have E_o_4 : Exa Z T5.heap b3 "com/example/cairn/cairn/history/Marks" := E_o_4.keep Kc5
  have V_m_4 : Arv Z T5.heap mb_4 km_4 .int (64 : Int32) (List.replicate 64 (.int (0 : Int32))) (.int (0 : Int32)) := V_m_4.keep Kc5 (ninS (Ne.symm ne_b3_mb_4) nin0)
  have Zn : n0 ≤ T5.heap.size := Nat.le_trans Zn Kc5.1
  have pre : ∀ τ, Steps p.tables e below (T5.setTop (mkF m 65 #[.val (.int p1), .val (.int p2), .val (.int p3), .val (.int p4), .val (.int p5), .val (.int p6), .val (.int ca), .val (.int cb), .val (.int cc), .val (.int (own_fv p4)), .val (.int (own_fv p5)), .val (.int ww), .val (.int kk), .val (.ref b3), .unset] [])) τ → G τ := fun τ κ => pre τ (st5.trans κ)
  have V_f_5 : Arv Z T5.heap fc_5 kd_5 .byte (8 : Int32) (List.replicate 8 (.int (0 : Int32))) (.int (0 : Int32)) := own_v8 V_f_5
  have Iv : own_inv (List.replicate 8 (.int (0 : Int32))) (List.replicate 64 (.int (0 : Int32))) (0 : Int32) 0 := own_inv0
  have pre : ∀ τ, Steps p.tables e below (T5.setTop (mkF m 68 #[.val (.int p1), .val (.int p2), .val (.int p3), .val (.int p4), .val (.int p5), .val (.int p6), .val (.int ca), .val (.int cb), .val (.int cc), .val (.int (own_fv p4)), .val (.int (own_fv p5)), .val (.int ww), .val (.int kk), .val (.ref b3), .unset] [(.int (1 : Int32)), (.int kk)])) τ → G τ := fun τ κ => pre τ (by
    refine XS.iload X5.here hx rfl (hb hby at_65) rfl ?_
    show Steps p.tables e below (T5.setTop (mkF m 67 #[.val (.int p1), .val (.int p2), .val (.int p3), .val (.int p4), .val (.int p5), .val (.int p6), .val (.int ca), .val (.int cb), .val (.int cc), .val (.int (own_fv p4)), .val (.int (own_fv p5)), .val (.int ww), .val (.int kk), .val (.ref b3), .unset] [(.int kk)])) τ
    refine XS.iconst X5.here hx rfl (hb hby at_67) ?_
    show Steps p.tables e below (T5.setTop (mkF m 68 #[.val (.int p1), .val (.int p2), .val (.int p3), .val (.int p4), .val (.int p5), .val (.int p6), .val (.int ca), .val (.int cb), .val (.int cc), .val (.int (own_fv p4)), .val (.int (own_fv p5)), .val (.int ww), .val (.int kk), .val (.ref b3), .unset] [(.int (1 : Int32)), (.int kk)])) τ
    exact κ)
  rcases Classical.em (kk < (1 : Int32)) with hc68_6 | hc68_6
  ·
    have pre : ∀ τ, Steps p.tables e below (T5.setTop (mkF m 83 #[.val (.int p1), .val (.int p2), .val (.int p3), .val (.int p4), .val (.int p5), .val (.int p6), .val (.int ca), .val (.int cb), .val (.int cc), .val (.int (own_fv p4)), .val (.int (own_fv p5)), .val (.int ww), .val (.int kk), .val (.ref b3), .unset] [(.int (2 : Int32)), (.int kk)])) τ → G τ := fun τ κ => pre τ (by
      refine XS.icmpYes X5.here hx rfl (pc0 := 68) (pc' := 80) rfl (hb hby at_68) rfl (tlt hc68_6).1 (by decide) (by decide) ?_
      show Steps p.tables e below (T5.setTop (mkF m 80 #[.val (.int p1), .val (.int p2), .val (.int p3), .val (.int p4), .val (.int p5), .val (.int p6), .val (.int ca), .val (.int cb), .val (.int cc), .val (.int (own_fv p4)), .val (.int (own_fv p5)), .val (.int ww), .val (.int kk), .val (.ref b3), .unset] [])) τ
      refine XS.iload X5.here hx rfl (hb hby at_80) rfl ?_
      show Steps p.tables e below (T5.setTop (mkF m 82 #[.val (.int p1), .val (.int p2), .val (.int p3), .val (.int p4), .val (.int p5), .val (.int p6), .val (.int ca), .val (.int cb), .val (.int cc), .val (.int (own_fv p4)), .val (.int (own_fv p5)), .val (.int ww), .val (.int kk), .val (.ref b3), .unset] [(.int kk)])) τ
      refine XS.iconst X5.here hx rfl (hb hby at_82) ?_
      show Steps p.tables e below (T5.setTop (mkF m 83 #[.val (.int p1), .val (.int p2), .val (.int p3), .val (.int p4), .val (.int p5), .val (.int p6), .val (.int ca), .val (.int cb), .val (.int cc), .val (.int (own_fv p4)), .val (.int (own_fv p5)), .val (.int ww), .val (.int kk), .val (.ref b3), .unset] [(.int (2 : Int32)), (.int kk)])) τ
      exact κ)
    have hc7 : kk < (2 : Int32) := own_k2 hc68_6
    have pre : ∀ τ, Steps p.tables e below (T5.setTop (mkF m 98 #[.val (.int p1), .val (.int p2), .val (.int p3), .val (.int p4), .val (.int p5), .val (.int p6), .val (.int ca), .val (.int cb), .val (.int cc), .val (.int (own_fv p4)), .val (.int (own_fv p5)), .val (.int ww), .val (.int kk), .val (.ref b3), .unset] [(.int (3 : Int32)), (.int kk)])) τ → G τ := fun τ κ => pre τ (by
      refine XS.icmpYes X5.here hx rfl (pc0 := 83) (pc' := 95) rfl (hb hby at_83) rfl (tlt hc7).1 (by decide) (by decide) ?_
      show Steps p.tables e below (T5.setTop (mkF m 95 #[.val (.int p1), .val (.int p2), .val (.int p3), .val (.int p4), .val (.int p5), .val (.int p6), .val (.int ca), .val (.int cb), .val (.int cc), .val (.int (own_fv p4)), .val (.int (own_fv p5)), .val (.int ww), .val (.int kk), .val (.ref b3), .unset] [])) τ
      refine XS.iload X5.here hx rfl (hb hby at_95) rfl ?_
      show Steps p.tables e below (T5.setTop (mkF m 97 #[.val (.int p1), .val (.int p2), .val (.int p3), .val (.int p4), .val (.int p5), .val (.int p6), .val (.int ca), .val (.int cb), .val (.int cc), .val (.int (own_fv p4)), .val (.int (own_fv p5)), .val (.int ww), .val (.int kk), .val (.ref b3), .unset] [(.int kk)])) τ
      refine XS.iconst X5.here hx rfl (hb hby at_97) ?_
      show Steps p.tables e below (T5.setTop (mkF m 98 #[.val (.int p1), .val (.int p2), .val (.int p3), .val (.int p4), .val (.int p5), .val (.int p6), .val (.int ca), .val (.int cb), .val (.int cc), .val (.int (own_fv p4)), .val (.int (own_fv p5)), .val (.int ww), .val (.int kk), .val (.ref b3), .unset] [(.int (3 : Int32)), (.int kk)])) τ
      exact κ)
    have hc8 : kk < (3 : Int32) := own_k3 hc7
    have pre : ∀ τ, Steps p.tables e below (T5.setTop (mkF m 112 #[.val (.int p1), .val (.int p2), .val (.int p3), .val (.int p4), .val (.int p5), .val (.int p6), .val (.int ca), .val (.int cb), .val (.int cc), .val (.int (own_fv p4)), .val (.int (own_fv p5)), .val (.int ww), .val (.int kk), .val (.ref b3), .unset] [(.ref b3)])) τ → G τ := fun τ κ => pre τ (by
      refine XS.icmpYes X5.here hx rfl (pc0 := 98) (pc' := 110) rfl (hb hby at_98) rfl (tlt hc8).1 (by decide) (by decide) ?_
      show Steps p.tables e below (T5.setTop (mkF m 110 #[.val (.int p1), .val (.int p2), .val (.int p3), .val (.int p4), .val (.int p5), .val (.int p6), .val (.int ca), .val (.int cb), .val (.int cc), .val (.int (own_fv p4)), .val (.int (own_fv p5)), .val (.int ww), .val (.int kk), .val (.ref b3), .unset] [])) τ
      refine XS.aload X5.here hx rfl (hb hby at_110) rfl rfl ?_
      show Steps p.tables e below (T5.setTop (mkF m 112 #[.val (.int p1), .val (.int p2), .val (.int p3), .val (.int p4), .val (.int p5), .val (.int p6), .val (.int ca), .val (.int cb), .val (.int cc), .val (.int (own_fv p4)), .val (.int (own_fv p5)), .val (.int ww), .val (.int kk), .val (.ref b3), .unset] [(.ref b3)])) τ
      exact κ)
    obtain ⟨cq9, kq9, q9a, q9b, q9c⟩ := isOf hZ rfl E_b3
    obtain ⟨_, _, ⟨T9, Lx9, kx9, nx9⟩, -, X9, ⟨Lc9, hQ9, l9, y9, z9⟩, st9⟩ := X5.virtualBack hx (y := (⟨"com/example/cairn/cairn/history/Marks", "clear", "()V"⟩ : MethodName)) (z := (⟨"com/example/cairn/cairn/history/Marks", "clear", "()V"⟩ : MethodName)) hown (mvT hZ (hw _ (List.mem_of_getElem? (i := 32) rfl))) (mvT hZ (hw _ (List.mem_of_getElem? (i := 33) rfl))) (notFace_of_selects (args := #[]) (mvT hZ (hw _ (List.mem_of_getElem? (i := 35) rfl)))) (mvT hZ (hw _ (List.mem_of_getElem? (i := 35) rfl))) (mvT hZ (hw _ (List.mem_of_getElem? (i := 34) rfl))) (by decide) (backOf (W := 0) (rm6 l Z a0 hw [] b3 fc_5 mb_4 kd_5 km_4 (8 : Int32) (0 : Int32) (List.replicate 8 (.int (0 : Int32))) (List.replicate 64 (.int (0 : Int32))) T5.heap n0 Zn g_b3 gn_mb_4 gn_fc_5 E_b3 F_flags_5 F_marked_5 F_count_5 V_f_5 V_m_4 ne_b3_mb_4 ne_o__fc_5 ne_mb__fc_5 (own_icn Iv (by decide)) Iv.2.1 Iv.1 Iv.2.2.2.2.1) hZ (hw _ (List.mem_of_getElem? (i := 36) rfl)) (hw _ (List.mem_of_getElem? (i := 7) rfl)) (by decide) (by decide)) q9a q9c (g := (mkF m 112 #[.val (.int p1), .val (.int p2), .val (.int p3), .val (.int p4), .val (.int p5), .val (.int p6), .val (.int ca), .val (.int cb), .val (.int cc), .val (.int (own_fv p4)), .val (.int (own_fv p5)), .val (.int ww), .val (.int kk), .val (.ref b3), .unset] [(.ref b3)])) rfl (by rw [hml]; rfl) (Steps.refl _) (argsL := []) (rest := []) (lenOf pd_1 rfl) rfl (by show 2 * 0 + _ ≤ _; exact Nat.le_of_eq rfl) (hb hby at_112) (fun _ _ => ⟨rfl, rfl, (by decide : 4 + 0 ≤ _), (by decide : 75 + 0 ≤ _)⟩)
    dsimp only [Pt.U, Pt.locs, Pt.cells, Pt.slots] at X9 l9 y9 z9 st9 hQ9
    subst l9 y9 z9
    obtain ⟨rfl, Nq9, Kc9, E_o_9, F_flags_9, F_marked_9, F_count_9, V_f_9, V_m_9⟩ := hQ9
    have NN := Fr.app NN Nq9
    have E_b3 : Exa Z T9.heap b3 "com/example/cairn/cairn/history/Marks" := E_b3.keep Kc9
    have E_o_4 : Exa Z T9.heap b3 "com/example/cairn/cairn/history/Marks" := E_o_4.keep Kc9
    have E_o_5 : Exa Z T9.heap b3 "com/example/cairn/cairn/history/Marks" := E_o_5.keep Kc9
    have Zn : n0 ≤ T9.heap.size := Nat.le_trans Zn Kc9.1
    have pre : ∀ τ, Steps p.tables e below (T9.setTop (mkF m 115 #[.val (.int p1), .val (.int p2), .val (.int p3), .val (.int p4), .val (.int p5), .val (.int p6), .val (.int ca), .val (.int cb), .val (.int cc), .val (.int (own_fv p4)), .val (.int (own_fv p5)), .val (.int ww), .val (.int kk), .val (.ref b3), .unset] [])) τ → G τ := fun τ κ => pre τ (st9.trans κ)
    obtain ⟨fz, hfz⟩ : ∃ q : List Value, q = (own_cl (List.replicate 64 (.int (0 : Int32))) (0 : Int32).toInt.toNat (0 : Int32) (List.replicate 8 (.int (0 : Int32)))) := ⟨_, rfl⟩
    have Cz : fz.length = 8 ∧ ∀ j : Int32, ¬ j < 0 ∧ j < (8 : Int32) → own_at fz j = 0 := by rw [hfz]; exact own_invclr Iv (by decide)
    rw [← hfz] at V_f_9
    have pre : ∀ τ, Steps p.tables e below (T9.setTop (mkF m 119 #[.val (.int p1), .val (.int p2), .val (.int p3), .val (.int p4), .val (.int p5), .val (.int p6), .val (.int ca), .val (.int cb), .val (.int cc), .val (.int (own_fv p4)), .val (.int (own_fv p5)), .val (.int ww), .val (.int kk), .val (.ref b3), .unset] [(.int ca), (.ref b3)])) τ → G τ := fun τ κ => pre τ (by
      refine XS.aload X9.here hx rfl (hb hby at_115) rfl rfl ?_
      show Steps p.tables e below (T9.setTop (mkF m 117 #[.val (.int p1), .val (.int p2), .val (.int p3), .val (.int p4), .val (.int p5), .val (.int p6), .val (.int ca), .val (.int cb), .val (.int cc), .val (.int (own_fv p4)), .val (.int (own_fv p5)), .val (.int ww), .val (.int kk), .val (.ref b3), .unset] [(.ref b3)])) τ
      refine XS.iload X9.here hx rfl (hb hby at_117) rfl ?_
      show Steps p.tables e below (T9.setTop (mkF m 119 #[.val (.int p1), .val (.int p2), .val (.int p3), .val (.int p4), .val (.int p5), .val (.int p6), .val (.int ca), .val (.int cb), .val (.int cc), .val (.int (own_fv p4)), .val (.int (own_fv p5)), .val (.int ww), .val (.int kk), .val (.ref b3), .unset] [(.int ca), (.ref b3)])) τ
      exact κ)
    obtain ⟨cq10, kq10, q10a, q10b, q10c⟩ := isOf hZ rfl E_b3
    obtain ⟨_, _, ⟨T10, Lx10, kx10, nx10⟩, -, X10, ⟨Lc10, hQ10, l10, y10, z10⟩, st10⟩ := X9.virtualBack hx (y := (⟨"com/example/cairn/cairn/history/Marks", "get", "(I)I"⟩ : MethodName)) (z := (⟨"com/example/cairn/cairn/history/Marks", "get", "(I)I"⟩ : MethodName)) hown (mvT hZ (hw _ (List.mem_of_getElem? (i := 37) rfl))) (mvT hZ (hw _ (List.mem_of_getElem? (i := 38) rfl))) (notFace_of_selects (args := #[]) (mvT hZ (hw _ (List.mem_of_getElem? (i := 40) rfl)))) (mvT hZ (hw _ (List.mem_of_getElem? (i := 40) rfl))) (mvT hZ (hw _ (List.mem_of_getElem? (i := 39) rfl))) (by decide) (backOf (W := 0) (rm7 l Z a0 hw [] b3 ca fc_5 kd_5 (8 : Int32) fz T9.heap n0 Zn F_flags_9 V_f_9 bca) hZ (hw _ (List.mem_of_getElem? (i := 41) rfl)) (hw _ (List.mem_of_getElem? (i := 7) rfl)) (by decide) (by decide)) q10a q10c (g := (mkF m 119 #[.val (.int p1), .val (.int p2), .val (.int p3), .val (.int p4), .val (.int p5), .val (.int p6), .val (.int ca), .val (.int cb), .val (.int cc), .val (.int (own_fv p4)), .val (.int (own_fv p5)), .val (.int ww), .val (.int kk), .val (.ref b3), .unset] [(.int ca), (.ref b3)])) rfl (by rw [hml]; rfl) (Steps.refl _) (argsL := [(.int ca)]) (rest := []) (lenOf pd_0 rfl) rfl (by show 2 * 0 + _ ≤ _; exact Nat.le_of_eq rfl) (hb hby at_119) (fun _ _ => ⟨rfl, rfl, (by decide : 4 + 0 ≤ _), (by decide : 75 + 0 ≤ _)⟩)
    dsimp only [Pt.U, Pt.locs, Pt.cells, Pt.slots] at X10 l10 y10 z10 st10 hQ10
    subst l10 y10 z10
    obtain ⟨rfl, Nq10, hs10⟩ := hQ10
    have NN := Fr.app NN Nq10
    have pre : ∀ τ, Steps p.tables e below (T10.setTop (mkF m 122 #[.val (.int p1), .val (.int p2), .val (.int p3), .val (.int p4), .val (.int p5), .val (.int p6), .val (.int ca), .val (.int cb), .val (.int cc), .val (.int (own_fv p4)), .val (.int (own_fv p5)), .val (.int ww), .val (.int kk), .val (.ref b3), .unset] [(.int (own_at fz ca &&& (255 : Int32)))])) τ → G τ := fun τ κ => pre τ (st10.trans κ)
    have hc11 : (own_at fz ca &&& (255 : Int32)) = (0 : Int32) := own_g0 (Cz.2 _ bca)
    have pre : ∀ τ, Steps p.tables e below (T10.setTop (mkF m 129 #[.val (.int p1), .val (.int p2), .val (.int p3), .val (.int p4), .val (.int p5), .val (.int p6), .val (.int ca), .val (.int cb), .val (.int cc), .val (.int (own_fv p4)), .val (.int (own_fv p5)), .val (.int ww), .val (.int kk), .val (.ref b3), .unset] [(.int cb), (.ref b3)])) τ → G τ := fun τ κ => pre τ (by
      refine XS.ifNo X10.here hx rfl (hb hby at_122) rfl ((if0 _ _).trans (teq hc11).2) ?_
      show Steps p.tables e below (T10.setTop (mkF m 125 #[.val (.int p1), .val (.int p2), .val (.int p3), .val (.int p4), .val (.int p5), .val (.int p6), .val (.int ca), .val (.int cb), .val (.int cc), .val (.int (own_fv p4)), .val (.int (own_fv p5)), .val (.int ww), .val (.int kk), .val (.ref b3), .unset] [])) τ
      refine XS.aload X10.here hx rfl (hb hby at_125) rfl rfl ?_
      show Steps p.tables e below (T10.setTop (mkF m 127 #[.val (.int p1), .val (.int p2), .val (.int p3), .val (.int p4), .val (.int p5), .val (.int p6), .val (.int ca), .val (.int cb), .val (.int cc), .val (.int (own_fv p4)), .val (.int (own_fv p5)), .val (.int ww), .val (.int kk), .val (.ref b3), .unset] [(.ref b3)])) τ
      refine XS.iload X10.here hx rfl (hb hby at_127) rfl ?_
      show Steps p.tables e below (T10.setTop (mkF m 129 #[.val (.int p1), .val (.int p2), .val (.int p3), .val (.int p4), .val (.int p5), .val (.int p6), .val (.int ca), .val (.int cb), .val (.int cc), .val (.int (own_fv p4)), .val (.int (own_fv p5)), .val (.int ww), .val (.int kk), .val (.ref b3), .unset] [(.int cb), (.ref b3)])) τ
      exact κ)
    obtain ⟨cq12, kq12, q12a, q12b, q12c⟩ := isOf hZ hs10 E_b3
    obtain ⟨_, _, ⟨T12, Lx12, kx12, nx12⟩, -, X12, ⟨Lc12, hQ12, l12, y12, z12⟩, st12⟩ := X10.virtualBack hx (y := (⟨"com/example/cairn/cairn/history/Marks", "get", "(I)I"⟩ : MethodName)) (z := (⟨"com/example/cairn/cairn/history/Marks", "get", "(I)I"⟩ : MethodName)) hown (mvT hZ (hw _ (List.mem_of_getElem? (i := 37) rfl))) (mvT hZ (hw _ (List.mem_of_getElem? (i := 38) rfl))) (notFace_of_selects (args := #[]) (mvT hZ (hw _ (List.mem_of_getElem? (i := 40) rfl)))) (mvT hZ (hw _ (List.mem_of_getElem? (i := 40) rfl))) (mvT hZ (hw _ (List.mem_of_getElem? (i := 39) rfl))) (by decide) (backOf (W := 0) (rm7 l Z a0 hw [] b3 cb fc_5 kd_5 (8 : Int32) fz T9.heap n0 Zn F_flags_9 V_f_9 bcb) hZ (hw _ (List.mem_of_getElem? (i := 41) rfl)) (hw _ (List.mem_of_getElem? (i := 7) rfl)) (by decide) (by decide)) q12a q12c (g := (mkF m 129 #[.val (.int p1), .val (.int p2), .val (.int p3), .val (.int p4), .val (.int p5), .val (.int p6), .val (.int ca), .val (.int cb), .val (.int cc), .val (.int (own_fv p4)), .val (.int (own_fv p5)), .val (.int ww), .val (.int kk), .val (.ref b3), .unset] [(.int cb), (.ref b3)])) rfl (by rw [hml]; rfl) (Steps.refl _) (argsL := [(.int cb)]) (rest := []) (lenOf pd_0 rfl) rfl (by show 2 * 0 + _ ≤ _; exact Nat.le_of_eq rfl) (hb hby at_129) (fun _ _ => ⟨rfl, hs10, (by decide : 4 + 0 ≤ _), (by decide : 75 + 0 ≤ _)⟩)
    dsimp only [Pt.U, Pt.locs, Pt.cells, Pt.slots] at X12 l12 y12 z12 st12 hQ12
    subst l12 y12 z12
    obtain ⟨rfl, Nq12, hs12⟩ := hQ12
    have NN := Fr.app NN Nq12
    have pre : ∀ τ, Steps p.tables e below (T12.setTop (mkF m 132 #[.val (.int p1), .val (.int p2), .val (.int p3), .val (.int p4), .val (.int p5), .val (.int p6), .val (.int ca), .val (.int cb), .val (.int cc), .val (.int (own_fv p4)), .val (.int (own_fv p5)), .val (.int ww), .val (.int kk), .val (.ref b3), .unset] [(.int (own_at fz cb &&& (255 : Int32)))])) τ → G τ := fun τ κ => pre τ (st12.trans κ)
    have hc13 : (own_at fz cb &&& (255 : Int32)) = (0 : Int32) := own_g0 (Cz.2 _ bcb)
    have pre : ∀ τ, Steps p.tables e below (T12.setTop (mkF m 148 #[.val (.int p1), .val (.int p2), .val (.int p3), .val (.int p4), .val (.int p5), .val (.int p6), .val (.int ca), .val (.int cb), .val (.int cc), .val (.int (own_fv p4)), .val (.int (own_fv p5)), .val (.int ww), .val (.int kk), .val (.ref b3), .val (.int (1 : Int32))] [(.int ww), (.int cc), (.ref b3)])) τ → G τ := fun τ κ => pre τ (by
      refine XS.ifNo X12.here hx rfl (hb hby at_132) rfl ((if0 _ _).trans (teq hc13).2) ?_
      show Steps p.tables e below (T12.setTop (mkF m 135 #[.val (.int p1), .val (.int p2), .val (.int p3), .val (.int p4), .val (.int p5), .val (.int p6), .val (.int ca), .val (.int cb), .val (.int cc), .val (.int (own_fv p4)), .val (.int (own_fv p5)), .val (.int ww), .val (.int kk), .val (.ref b3), .unset] [])) τ
      refine XS.iconst X12.here hx rfl (hb hby at_135) ?_
      show Steps p.tables e below (T12.setTop (mkF m 136 #[.val (.int p1), .val (.int p2), .val (.int p3), .val (.int p4), .val (.int p5), .val (.int p6), .val (.int ca), .val (.int cb), .val (.int cc), .val (.int (own_fv p4)), .val (.int (own_fv p5)), .val (.int ww), .val (.int kk), .val (.ref b3), .unset] [(.int (1 : Int32))])) τ
      refine XS.goto X12.here hx rfl (pc0 := 136) (pc' := 140) rfl (hb hby at_136) (by decide) (by decide) ?_
      show Steps p.tables e below (T12.setTop (mkF m 140 #[.val (.int p1), .val (.int p2), .val (.int p3), .val (.int p4), .val (.int p5), .val (.int p6), .val (.int ca), .val (.int cb), .val (.int cc), .val (.int (own_fv p4)), .val (.int (own_fv p5)), .val (.int ww), .val (.int kk), .val (.ref b3), .unset] [(.int (1 : Int32))])) τ
      refine XS.istore X12.here hx rfl (hb hby at_140) rfl (l' := #[.val (.int p1), .val (.int p2), .val (.int p3), .val (.int p4), .val (.int p5), .val (.int p6), .val (.int ca), .val (.int cb), .val (.int cc), .val (.int (own_fv p4)), .val (.int (own_fv p5)), .val (.int ww), .val (.int kk), .val (.ref b3), .val (.int (1 : Int32))]) rfl ?_
      show Steps p.tables e below (T12.setTop (mkF m 142 #[.val (.int p1), .val (.int p2), .val (.int p3), .val (.int p4), .val (.int p5), .val (.int p6), .val (.int ca), .val (.int cb), .val (.int cc), .val (.int (own_fv p4)), .val (.int (own_fv p5)), .val (.int ww), .val (.int kk), .val (.ref b3), .val (.int (1 : Int32))] [])) τ
      refine XS.aload X12.here hx rfl (hb hby at_142) rfl rfl ?_
      show Steps p.tables e below (T12.setTop (mkF m 144 #[.val (.int p1), .val (.int p2), .val (.int p3), .val (.int p4), .val (.int p5), .val (.int p6), .val (.int ca), .val (.int cb), .val (.int cc), .val (.int (own_fv p4)), .val (.int (own_fv p5)), .val (.int ww), .val (.int kk), .val (.ref b3), .val (.int (1 : Int32))] [(.ref b3)])) τ
      refine XS.iload X12.here hx rfl (hb hby at_144) rfl ?_
      show Steps p.tables e below (T12.setTop (mkF m 146 #[.val (.int p1), .val (.int p2), .val (.int p3), .val (.int p4), .val (.int p5), .val (.int p6), .val (.int ca), .val (.int cb), .val (.int cc), .val (.int (own_fv p4)), .val (.int (own_fv p5)), .val (.int ww), .val (.int kk), .val (.ref b3), .val (.int (1 : Int32))] [(.int cc), (.ref b3)])) τ
      refine XS.iload X12.here hx rfl (hb hby at_146) rfl ?_
      show Steps p.tables e below (T12.setTop (mkF m 148 #[.val (.int p1), .val (.int p2), .val (.int p3), .val (.int p4), .val (.int p5), .val (.int p6), .val (.int ca), .val (.int cb), .val (.int cc), .val (.int (own_fv p4)), .val (.int (own_fv p5)), .val (.int ww), .val (.int kk), .val (.ref b3), .val (.int (1 : Int32))] [(.int ww), (.int cc), (.ref b3)])) τ
      exact κ)
    obtain ⟨cq14, kq14, q14a, q14b, q14c⟩ := isOf hZ hs12 E_b3
    obtain ⟨_, _, ⟨T14, Lx14, kx14, nx14⟩, -, X14, ⟨Lc14, hQ14, l14, y14, z14⟩, st14⟩ := X12.virtualBack hx (y := (⟨"com/example/cairn/cairn/history/Marks", "set", "(II)V"⟩ : MethodName)) (z := (⟨"com/example/cairn/cairn/history/Marks", "set", "(II)V"⟩ : MethodName)) hown (mvT hZ (hw _ (List.mem_of_getElem? (i := 25) rfl))) (mvT hZ (hw _ (List.mem_of_getElem? (i := 26) rfl))) (notFace_of_selects (args := #[]) (mvT hZ (hw _ (List.mem_of_getElem? (i := 28) rfl)))) (mvT hZ (hw _ (List.mem_of_getElem? (i := 28) rfl))) (mvT hZ (hw _ (List.mem_of_getElem? (i := 27) rfl))) (by decide) (backOf (W := 0) (rm5 l Z a0 hw [] b3 cc ww fc_5 mb_4 kd_5 km_4 (8 : Int32) (0 : Int32) fz (List.replicate 64 (.int (0 : Int32))) T9.heap n0 Zn g_b3 gn_mb_4 gn_fc_5 E_b3 F_flags_9 F_marked_9 F_count_9 V_f_9 V_m_9 ne_b3_mb_4 ne_o__fc_5 ne_mb__fc_5 bcc (by decide) Iv.2.1 Cz.1) hZ (hw _ (List.mem_of_getElem? (i := 29) rfl)) (hw _ (List.mem_of_getElem? (i := 7) rfl)) (by decide) (by decide)) q14a q14c (g := (mkF m 148 #[.val (.int p1), .val (.int p2), .val (.int p3), .val (.int p4), .val (.int p5), .val (.int p6), .val (.int ca), .val (.int cb), .val (.int cc), .val (.int (own_fv p4)), .val (.int (own_fv p5)), .val (.int ww), .val (.int kk), .val (.ref b3), .val (.int (1 : Int32))] [(.int ww), (.int cc), (.ref b3)])) rfl (by rw [hml]; rfl) (Steps.refl _) (argsL := [(.int cc), (.int ww)]) (rest := []) (lenOf pd_3 rfl) rfl (by show 2 * 0 + _ ≤ _; exact Nat.le_of_eq rfl) (hb hby at_148) (fun _ _ => ⟨rfl, hs12, (by decide : 4 + 0 ≤ _), (by decide : 75 + 0 ≤ _)⟩)
    dsimp only [Pt.U, Pt.locs, Pt.cells, Pt.slots] at X14 l14 y14 z14 st14 hQ14
    subst l14 y14 z14
    obtain ⟨rfl, Nq14, Kc14, E_o_14, F_flags_14, F_marked_14, F_count_14, V_f_14, V_m_14⟩ := hQ14
    have NN := Fr.app NN Nq14
    have E_b3 : Exa Z T14.heap b3 "com/example/cairn/cairn/history/Marks" := E_b3.keep Kc14
    have E_o_4 : Exa Z T14.heap b3 "com/example/cairn/cairn/history/Marks" := E_o_4.keep Kc14
    have E_o_5 : Exa Z T14.heap b3 "com/example/cairn/cairn/history/Marks" := E_o_5.keep Kc14
    have E_o_9 : Exa Z T14.heap b3 "com/example/cairn/cairn/history/Marks" := E_o_9.keep Kc14
    have Zn : n0 ≤ T14.heap.size := Nat.le_trans Zn Kc14.1
    have pre : ∀ τ, Steps p.tables e below (T14.setTop (mkF m 151 #[.val (.int p1), .val (.int p2), .val (.int p3), .val (.int p4), .val (.int p5), .val (.int p6), .val (.int ca), .val (.int cb), .val (.int cc), .val (.int (own_fv p4)), .val (.int (own_fv p5)), .val (.int ww), .val (.int kk), .val (.ref b3), .val (.int (1 : Int32))] [])) τ → G τ := fun τ κ => pre τ (st14.trans κ)
    have pre : ∀ τ, Steps p.tables e below (T14.setTop (mkF m 153 #[.val (.int p1), .val (.int p2), .val (.int p3), .val (.int p4), .val (.int p5), .val (.int p6), .val (.int ca), .val (.int cb), .val (.int cc), .val (.int (own_fv p4)), .val (.int (own_fv p5)), .val (.int ww), .val (.int kk), .val (.ref b3), .val (.int (1 : Int32))] [(.int (1 : Int32))])) τ → G τ := fun τ κ => pre τ (by
      refine XS.iload X14.here hx rfl (hb hby at_151) rfl ?_
      show Steps p.tables e below (T14.setTop (mkF m 153 #[.val (.int p1), .val (.int p2), .val (.int p3), .val (.int p4), .val (.int p5), .val (.int p6), .val (.int ca), .val (.int cb), .val (.int cc), .val (.int (own_fv p4)), .val (.int (own_fv p5)), .val (.int ww), .val (.int kk), .val (.ref b3), .val (.int (1 : Int32))] [(.int (1 : Int32))])) τ
      exact κ)
    have hc15 : ¬ ((1 : Int32) = (0 : Int32)) := (by decide)
    have pre : ∀ τ, Steps p.tables e below (T14.setTop (mkF m 158 #[.val (.int p1), .val (.int p2), .val (.int p3), .val (.int p4), .val (.int p5), .val (.int p6), .val (.int ca), .val (.int cb), .val (.int cc), .val (.int (own_fv p4)), .val (.int (own_fv p5)), .val (.int ww), .val (.int kk), .val (.ref b3), .val (.int (1 : Int32))] [(.ref b3)])) τ → G τ := fun τ κ => pre τ (by
      refine XS.ifNo X14.here hx rfl (hb hby at_153) rfl ((if0 _ _).trans (feq hc15).1) ?_
      show Steps p.tables e below (T14.setTop (mkF m 156 #[.val (.int p1), .val (.int p2), .val (.int p3), .val (.int p4), .val (.int p5), .val (.int p6), .val (.int ca), .val (.int cb), .val (.int cc), .val (.int (own_fv p4)), .val (.int (own_fv p5)), .val (.int ww), .val (.int kk), .val (.ref b3), .val (.int (1 : Int32))] [])) τ
      refine XS.aload X14.here hx rfl (hb hby at_156) rfl rfl ?_
      show Steps p.tables e below (T14.setTop (mkF m 158 #[.val (.int p1), .val (.int p2), .val (.int p3), .val (.int p4), .val (.int p5), .val (.int p6), .val (.int ca), .val (.int cb), .val (.int cc), .val (.int (own_fv p4)), .val (.int (own_fv p5)), .val (.int ww), .val (.int kk), .val (.ref b3), .val (.int (1 : Int32))] [(.ref b3)])) τ
      exact κ)
    obtain ⟨cq16, kq16, q16a, q16b, q16c⟩ := isOf hZ rfl E_b3
    obtain ⟨_, _, ⟨T16, Lx16, kx16, nx16⟩, -, X16, ⟨Lc16, hQ16, l16, y16, z16⟩, st16⟩ := X14.virtualBack hx (y := (⟨"com/example/cairn/cairn/history/Marks", "count", "()I"⟩ : MethodName)) (z := (⟨"com/example/cairn/cairn/history/Marks", "count", "()I"⟩ : MethodName)) hown (mvT hZ (hw _ (List.mem_of_getElem? (i := 42) rfl))) (mvT hZ (hw _ (List.mem_of_getElem? (i := 43) rfl))) (notFace_of_selects (args := #[]) (mvT hZ (hw _ (List.mem_of_getElem? (i := 45) rfl)))) (mvT hZ (hw _ (List.mem_of_getElem? (i := 45) rfl))) (mvT hZ (hw _ (List.mem_of_getElem? (i := 44) rfl))) (by decide) (backOf (W := 0) (rm8 l Z a0 hw [] b3 (own_sc fz cc (0 : Int32)) T14.heap n0 Zn F_count_14) hZ (hw _ (List.mem_of_getElem? (i := 46) rfl)) (hw _ (List.mem_of_getElem? (i := 7) rfl)) (by decide) (by decide)) q16a q16c (g := (mkF m 158 #[.val (.int p1), .val (.int p2), .val (.int p3), .val (.int p4), .val (.int p5), .val (.int p6), .val (.int ca), .val (.int cb), .val (.int cc), .val (.int (own_fv p4)), .val (.int (own_fv p5)), .val (.int ww), .val (.int kk), .val (.ref b3), .val (.int (1 : Int32))] [(.ref b3)])) rfl (by rw [hml]; rfl) (Steps.refl _) (argsL := []) (rest := []) (lenOf pd_4 rfl) rfl (by show 2 * 0 + _ ≤ _; exact Nat.le_of_eq rfl) (hb hby at_158) (fun _ _ => ⟨rfl, rfl, (by decide : 4 + 0 ≤ _), (by decide : 75 + 0 ≤ _)⟩)
    dsimp only [Pt.U, Pt.locs, Pt.cells, Pt.slots] at X16 l16 y16 z16 st16 hQ16
    subst l16 y16 z16
    obtain ⟨rfl, Nq16, hs16⟩ := hQ16
    have NN := Fr.app NN Nq16
    have pre : ∀ τ, Steps p.tables e below (T16.setTop (mkF m 161 #[.val (.int p1), .val (.int p2), .val (.int p3), .val (.int p4), .val (.int p5), .val (.int p6), .val (.int ca), .val (.int cb), .val (.int cc), .val (.int (own_fv p4)), .val (.int (own_fv p5)), .val (.int ww), .val (.int kk), .val (.ref b3), .val (.int (1 : Int32))] [(.int (own_sc fz cc (0 : Int32)))])) τ → G τ := fun τ κ => pre τ (st16.trans κ)
    have pre : ∀ τ, Steps p.tables e below (T16.setTop (mkF m 162 #[.val (.int p1), .val (.int p2), .val (.int p3), .val (.int p4), .val (.int p5), .val (.int p6), .val (.int ca), .val (.int cb), .val (.int cc), .val (.int (own_fv p4)), .val (.int (own_fv p5)), .val (.int ww), .val (.int kk), .val (.ref b3), .val (.int (1 : Int32))] [(.int (1 : Int32)), (.int (own_sc fz cc (0 : Int32)))])) τ → G τ := fun τ κ => pre τ (by
      refine XS.iconst X16.here hx rfl (hb hby at_161) ?_
      show Steps p.tables e below (T16.setTop (mkF m 162 #[.val (.int p1), .val (.int p2), .val (.int p3), .val (.int p4), .val (.int p5), .val (.int p6), .val (.int ca), .val (.int cb), .val (.int cc), .val (.int (own_fv p4)), .val (.int (own_fv p5)), .val (.int ww), .val (.int kk), .val (.ref b3), .val (.int (1 : Int32))] [(.int (1 : Int32)), (.int (own_sc fz cc (0 : Int32)))])) τ
      exact κ)
    have hc17 : (own_sc fz cc (0 : Int32)) = (1 : Int32) := own_c1 (Cz.2 _ bcc)
    have pre : ∀ τ, Steps p.tables e below (T16.setTop (mkF m 168 #[.val (.int p1), .val (.int p2), .val (.int p3), .val (.int p4), .val (.int p5), .val (.int p6), .val (.int ca), .val (.int cb), .val (.int cc), .val (.int (own_fv p4)), .val (.int (own_fv p5)), .val (.int ww), .val (.int kk), .val (.ref b3), .val (.int (1 : Int32))] [(.int (0 : Int32)), (.ref b3)])) τ → G τ := fun τ κ => pre τ (by
      refine XS.icmpNo X16.here hx rfl (hb hby at_162) rfl (teq hc17).2 ?_
      show Steps p.tables e below (T16.setTop (mkF m 165 #[.val (.int p1), .val (.int p2), .val (.int p3), .val (.int p4), .val (.int p5), .val (.int p6), .val (.int ca), .val (.int cb), .val (.int cc), .val (.int (own_fv p4)), .val (.int (own_fv p5)), .val (.int ww), .val (.int kk), .val (.ref b3), .val (.int (1 : Int32))] [])) τ
      refine XS.aload X16.here hx rfl (hb hby at_165) rfl rfl ?_
      show Steps p.tables e below (T16.setTop (mkF m 167 #[.val (.int p1), .val (.int p2), .val (.int p3), .val (.int p4), .val (.int p5), .val (.int p6), .val (.int ca), .val (.int cb), .val (.int cc), .val (.int (own_fv p4)), .val (.int (own_fv p5)), .val (.int ww), .val (.int kk), .val (.ref b3), .val (.int (1 : Int32))] [(.ref b3)])) τ
      refine XS.iconst X16.here hx rfl (hb hby at_167) ?_
      show Steps p.tables e below (T16.setTop (mkF m 168 #[.val (.int p1), .val (.int p2), .val (.int p3), .val (.int p4), .val (.int p5), .val (.int p6), .val (.int ca), .val (.int cb), .val (.int cc), .val (.int (own_fv p4)), .val (.int (own_fv p5)), .val (.int ww), .val (.int kk), .val (.ref b3), .val (.int (1 : Int32))] [(.int (0 : Int32)), (.ref b3)])) τ
      exact κ)
    obtain ⟨cq18, kq18, q18a, q18b, q18c⟩ := isOf hZ hs16 E_b3
    obtain ⟨_, _, ⟨T18, Lx18, kx18, nx18⟩, -, X18, ⟨Lc18, hQ18, l18, y18, z18⟩, st18⟩ := X16.virtualBack hx (y := (⟨"com/example/cairn/cairn/history/Marks", "commit", "(I)I"⟩ : MethodName)) (z := (⟨"com/example/cairn/cairn/history/Marks", "commit", "(I)I"⟩ : MethodName)) hown (mvT hZ (hw _ (List.mem_of_getElem? (i := 47) rfl))) (mvT hZ (hw _ (List.mem_of_getElem? (i := 48) rfl))) (notFace_of_selects (args := #[]) (mvT hZ (hw _ (List.mem_of_getElem? (i := 50) rfl)))) (mvT hZ (hw _ (List.mem_of_getElem? (i := 50) rfl))) (mvT hZ (hw _ (List.mem_of_getElem? (i := 49) rfl))) (by decide) (backOf (W := 0) (rm9 l Z a0 hw [] b3 (0 : Int32) mb_4 km_4 (own_sm fz (List.replicate 64 (.int (0 : Int32))) cc (0 : Int32)) T14.heap n0 Zn F_marked_14 V_m_14 (by decide)) hZ (hw _ (List.mem_of_getElem? (i := 51) rfl)) (hw _ (List.mem_of_getElem? (i := 7) rfl)) (by decide) (by decide)) q18a q18c (g := (mkF m 168 #[.val (.int p1), .val (.int p2), .val (.int p3), .val (.int p4), .val (.int p5), .val (.int p6), .val (.int ca), .val (.int cb), .val (.int cc), .val (.int (own_fv p4)), .val (.int (own_fv p5)), .val (.int ww), .val (.int kk), .val (.ref b3), .val (.int (1 : Int32))] [(.int (0 : Int32)), (.ref b3)])) rfl (by rw [hml]; rfl) (Steps.refl _) (argsL := [(.int (0 : Int32))]) (rest := []) (lenOf pd_0 rfl) rfl (by show 2 * 0 + _ ≤ _; exact Nat.le_of_eq rfl) (hb hby at_168) (fun _ _ => ⟨rfl, hs16, (by decide : 4 + 0 ≤ _), (by decide : 75 + 0 ≤ _)⟩)
    dsimp only [Pt.U, Pt.locs, Pt.cells, Pt.slots] at X18 l18 y18 z18 st18 hQ18
    subst l18 y18 z18
    obtain ⟨rfl, Nq18, hs18⟩ := hQ18
    have NN := Fr.app NN Nq18
    have pre : ∀ τ, Steps p.tables e below (T18.setTop (mkF m 171 #[.val (.int p1), .val (.int p2), .val (.int p3), .val (.int p4), .val (.int p5), .val (.int p6), .val (.int ca), .val (.int cb), .val (.int cc), .val (.int (own_fv p4)), .val (.int (own_fv p5)), .val (.int ww), .val (.int kk), .val (.ref b3), .val (.int (1 : Int32))] [(.int (own_at (own_sm fz (List.replicate 64 (.int (0 : Int32))) cc (0 : Int32)) (0 : Int32)))])) τ → G τ := fun τ κ => pre τ (st18.trans κ)
    have pre : ∀ τ, Steps p.tables e below (T18.setTop (mkF m 173 #[.val (.int p1), .val (.int p2), .val (.int p3), .val (.int p4), .val (.int p5), .val (.int p6), .val (.int ca), .val (.int cb), .val (.int cc), .val (.int (own_fv p4)), .val (.int (own_fv p5)), .val (.int ww), .val (.int kk), .val (.ref b3), .val (.int (1 : Int32))] [(.int cc), (.int (own_at (own_sm fz (List.replicate 64 (.int (0 : Int32))) cc (0 : Int32)) (0 : Int32)))])) τ → G τ := fun τ κ => pre τ (by
      refine XS.iload X18.here hx rfl (hb hby at_171) rfl ?_
      show Steps p.tables e below (T18.setTop (mkF m 173 #[.val (.int p1), .val (.int p2), .val (.int p3), .val (.int p4), .val (.int p5), .val (.int p6), .val (.int ca), .val (.int cb), .val (.int cc), .val (.int (own_fv p4)), .val (.int (own_fv p5)), .val (.int ww), .val (.int kk), .val (.ref b3), .val (.int (1 : Int32))] [(.int cc), (.int (own_at (own_sm fz (List.replicate 64 (.int (0 : Int32))) cc (0 : Int32)) (0 : Int32)))])) τ
      exact κ)
    have hc19 : (own_at (own_sm fz (List.replicate 64 (.int (0 : Int32))) cc (0 : Int32)) (0 : Int32)) = cc := own_m1 (Cz.2 _ bcc) Iv.2.1
    have pre : ∀ τ, Steps p.tables e below (T18.setTop (mkF m 180 #[.val (.int p1), .val (.int p2), .val (.int p3), .val (.int p4), .val (.int p5), .val (.int p6), .val (.int ca), .val (.int cb), .val (.int cc), .val (.int (own_fv p4)), .val (.int (own_fv p5)), .val (.int ww), .val (.int kk), .val (.ref b3), .val (.int (1 : Int32))] [(.int cc), (.ref b3)])) τ → G τ := fun τ κ => pre τ (by
      refine XS.icmpNo X18.here hx rfl (hb hby at_173) rfl (teq hc19).2 ?_
      show Steps p.tables e below (T18.setTop (mkF m 176 #[.val (.int p1), .val (.int p2), .val (.int p3), .val (.int p4), .val (.int p5), .val (.int p6), .val (.int ca), .val (.int cb), .val (.int cc), .val (.int (own_fv p4)), .val (.int (own_fv p5)), .val (.int ww), .val (.int kk), .val (.ref b3), .val (.int (1 : Int32))] [])) τ
      refine XS.aload X18.here hx rfl (hb hby at_176) rfl rfl ?_
      show Steps p.tables e below (T18.setTop (mkF m 178 #[.val (.int p1), .val (.int p2), .val (.int p3), .val (.int p4), .val (.int p5), .val (.int p6), .val (.int ca), .val (.int cb), .val (.int cc), .val (.int (own_fv p4)), .val (.int (own_fv p5)), .val (.int ww), .val (.int kk), .val (.ref b3), .val (.int (1 : Int32))] [(.ref b3)])) τ
      refine XS.iload X18.here hx rfl (hb hby at_178) rfl ?_
      show Steps p.tables e below (T18.setTop (mkF m 180 #[.val (.int p1), .val (.int p2), .val (.int p3), .val (.int p4), .val (.int p5), .val (.int p6), .val (.int ca), .val (.int cb), .val (.int cc), .val (.int (own_fv p4)), .val (.int (own_fv p5)), .val (.int ww), .val (.int kk), .val (.ref b3), .val (.int (1 : Int32))] [(.int cc), (.ref b3)])) τ
      exact κ)
    obtain ⟨cq20, kq20, q20a, q20b, q20c⟩ := isOf hZ hs18 E_b3
    obtain ⟨_, _, ⟨T20, Lx20, kx20, nx20⟩, -, X20, ⟨Lc20, hQ20, l20, y20, z20⟩, st20⟩ := X18.virtualBack hx (y := (⟨"com/example/cairn/cairn/history/Marks", "get", "(I)I"⟩ : MethodName)) (z := (⟨"com/example/cairn/cairn/history/Marks", "get", "(I)I"⟩ : MethodName)) hown (mvT hZ (hw _ (List.mem_of_getElem? (i := 37) rfl))) (mvT hZ (hw _ (List.mem_of_getElem? (i := 38) rfl))) (notFace_of_selects (args := #[]) (mvT hZ (hw _ (List.mem_of_getElem? (i := 40) rfl)))) (mvT hZ (hw _ (List.mem_of_getElem? (i := 40) rfl))) (mvT hZ (hw _ (List.mem_of_getElem? (i := 39) rfl))) (by decide) (backOf (W := 0) (rm7 l Z a0 hw [] b3 cc fc_5 kd_5 (8 : Int32) (own_sf fz cc ww) T14.heap n0 Zn F_flags_14 V_f_14 bcc) hZ (hw _ (List.mem_of_getElem? (i := 41) rfl)) (hw _ (List.mem_of_getElem? (i := 7) rfl)) (by decide) (by decide)) q20a q20c (g := (mkF m 180 #[.val (.int p1), .val (.int p2), .val (.int p3), .val (.int p4), .val (.int p5), .val (.int p6), .val (.int ca), .val (.int cb), .val (.int cc), .val (.int (own_fv p4)), .val (.int (own_fv p5)), .val (.int ww), .val (.int kk), .val (.ref b3), .val (.int (1 : Int32))] [(.int cc), (.ref b3)])) rfl (by rw [hml]; rfl) (Steps.refl _) (argsL := [(.int cc)]) (rest := []) (lenOf pd_0 rfl) rfl (by show 2 * 0 + _ ≤ _; exact Nat.le_of_eq rfl) (hb hby at_180) (fun _ _ => ⟨rfl, hs18, (by decide : 4 + 0 ≤ _), (by decide : 75 + 0 ≤ _)⟩)
    dsimp only [Pt.U, Pt.locs, Pt.cells, Pt.slots] at X20 l20 y20 z20 st20 hQ20
    subst l20 y20 z20
    obtain ⟨rfl, Nq20, hs20⟩ := hQ20
    have NN := Fr.app NN Nq20
    have pre : ∀ τ, Steps p.tables e below (T20.setTop (mkF m 183 #[.val (.int p1), .val (.int p2), .val (.int p3), .val (.int p4), .val (.int p5), .val (.int p6), .val (.int ca), .val (.int cb), .val (.int cc), .val (.int (own_fv p4)), .val (.int (own_fv p5)), .val (.int ww), .val (.int kk), .val (.ref b3), .val (.int (1 : Int32))] [(.int (own_at (own_sf fz cc ww) cc &&& (255 : Int32)))])) τ → G τ := fun τ κ => pre τ (st20.trans κ)
    have pre : ∀ τ, Steps p.tables e below (T20.setTop (mkF m 185 #[.val (.int p1), .val (.int p2), .val (.int p3), .val (.int p4), .val (.int p5), .val (.int p6), .val (.int ca), .val (.int cb), .val (.int cc), .val (.int (own_fv p4)), .val (.int (own_fv p5)), .val (.int ww), .val (.int kk), .val (.ref b3), .val (.int (1 : Int32))] [(.int ww), (.int (own_at (own_sf fz cc ww) cc &&& (255 : Int32)))])) τ → G τ := fun τ κ => pre τ (by
      refine XS.iload X20.here hx rfl (hb hby at_183) rfl ?_
      show Steps p.tables e below (T20.setTop (mkF m 185 #[.val (.int p1), .val (.int p2), .val (.int p3), .val (.int p4), .val (.int p5), .val (.int p6), .val (.int ca), .val (.int cb), .val (.int cc), .val (.int (own_fv p4)), .val (.int (own_fv p5)), .val (.int ww), .val (.int kk), .val (.ref b3), .val (.int (1 : Int32))] [(.int ww), (.int (own_at (own_sf fz cc ww) cc &&& (255 : Int32)))])) τ
      exact κ)
    have hc21 : (own_at (own_sf fz cc ww) cc &&& (255 : Int32)) = ww := own_gv bcc Cz.1 bww
    have pre : ∀ τ, Steps p.tables e below (T20.setTop (mkF m 193 #[.val (.int p1), .val (.int p2), .val (.int p3), .val (.int p4), .val (.int p5), .val (.int p6), .val (.int ca), .val (.int cb), .val (.int cc), .val (.int (own_fv p4)), .val (.int (own_fv p5)), .val (.int ww), .val (.int kk), .val (.ref b3), .val (.int (1 : Int32))] [(.int (1 : Int32))])) τ → G τ := fun τ κ => pre τ (by
      refine XS.icmpNo X20.here hx rfl (hb hby at_185) rfl (teq hc21).2 ?_
      show Steps p.tables e below (T20.setTop (mkF m 188 #[.val (.int p1), .val (.int p2), .val (.int p3), .val (.int p4), .val (.int p5), .val (.int p6), .val (.int ca), .val (.int cb), .val (.int cc), .val (.int (own_fv p4)), .val (.int (own_fv p5)), .val (.int ww), .val (.int kk), .val (.ref b3), .val (.int (1 : Int32))] [])) τ
      refine XS.iconst X20.here hx rfl (hb hby at_188) ?_
      show Steps p.tables e below (T20.setTop (mkF m 189 #[.val (.int p1), .val (.int p2), .val (.int p3), .val (.int p4), .val (.int p5), .val (.int p6), .val (.int ca), .val (.int cb), .val (.int cc), .val (.int (own_fv p4)), .val (.int (own_fv p5)), .val (.int ww), .val (.int kk), .val (.ref b3), .val (.int (1 : Int32))] [(.int (1 : Int32))])) τ
      refine XS.goto X20.here hx rfl (pc0 := 189) (pc' := 193) rfl (hb hby at_189) (by decide) (by decide) ?_
      show Steps p.tables e below (T20.setTop (mkF m 193 #[.val (.int p1), .val (.int p2), .val (.int p3), .val (.int p4), .val (.int p5), .val (.int p6), .val (.int ca), .val (.int cb), .val (.int cc), .val (.int (own_fv p4)), .val (.int (own_fv p5)), .val (.int ww), .val (.int kk), .val (.ref b3), .val (.int (1 : Int32))] [(.int (1 : Int32))])) τ
      exact κ)
    obtain ⟨fsα, hr, hrun, hended, hW, hsame⟩ := X20.leave (v := some (.int (1 : Int32))) (fun h => by rw [Bd.returns] at h; cases h)
    refine hGL ⟨_, _, hG _ (pre _ ?_), hrun, hended, _, _, rfl, ?_, ⟨_, rfl⟩, hW, hsame.mono (by decide) (by decide)⟩
    · exact retN X20 hx (t := .boolean) Bd.returns (by simp) (hb hby at_193) hr
    · show Q0 Z p1 p2 p3 p4 p5 p6 h0 n0 _ T20.heap _
      rw [hs20]
      exact ⟨rfl, NN⟩
  ·
    have pre : ∀ τ, Steps p.tables e below (T5.setTop (mkF m 77 #[.val (.int p1), .val (.int p2), .val (.int p3), .val (.int p4), .val (.int p5), .val (.int p6), .val (.int ca), .val (.int cb), .val (.int cc), .val (.int (own_fv p4)), .val (.int (own_fv p5)), .val (.int ww), .val (.int kk), .val (.ref b3), .unset] [(.int (own_fv p4)), (.int ca), (.ref b3)])) τ → G τ := fun τ κ => pre τ (by
      refine XS.icmpNo X5.here hx rfl (hb hby at_68) rfl (flt hc68_6).1 ?_
      show Steps p.tables e below (T5.setTop (mkF m 71 #[.val (.int p1), .val (.int p2), .val (.int p3), .val (.int p4), .val (.int p5), .val (.int p6), .val (.int ca), .val (.int cb), .val (.int cc), .val (.int (own_fv p4)), .val (.int (own_fv p5)), .val (.int ww), .val (.int kk), .val (.ref b3), .unset] [])) τ
      refine XS.aload X5.here hx rfl (hb hby at_71) rfl rfl ?_
      show Steps p.tables e below (T5.setTop (mkF m 73 #[.val (.int p1), .val (.int p2), .val (.int p3), .val (.int p4), .val (.int p5), .val (.int p6), .val (.int ca), .val (.int cb), .val (.int cc), .val (.int (own_fv p4)), .val (.int (own_fv p5)), .val (.int ww), .val (.int kk), .val (.ref b3), .unset] [(.ref b3)])) τ
      refine XS.iload X5.here hx rfl (hb hby at_73) rfl ?_
      show Steps p.tables e below (T5.setTop (mkF m 75 #[.val (.int p1), .val (.int p2), .val (.int p3), .val (.int p4), .val (.int p5), .val (.int p6), .val (.int ca), .val (.int cb), .val (.int cc), .val (.int (own_fv p4)), .val (.int (own_fv p5)), .val (.int ww), .val (.int kk), .val (.ref b3), .unset] [(.int ca), (.ref b3)])) τ
      refine XS.iload X5.here hx rfl (hb hby at_75) rfl ?_
      show Steps p.tables e below (T5.setTop (mkF m 77 #[.val (.int p1), .val (.int p2), .val (.int p3), .val (.int p4), .val (.int p5), .val (.int p6), .val (.int ca), .val (.int cb), .val (.int cc), .val (.int (own_fv p4)), .val (.int (own_fv p5)), .val (.int ww), .val (.int kk), .val (.ref b3), .unset] [(.int (own_fv p4)), (.int ca), (.ref b3)])) τ
      exact κ)
    obtain ⟨cq22, kq22, q22a, q22b, q22c⟩ := isOf hZ rfl E_b3
    obtain ⟨_, _, ⟨T22, Lx22, kx22, nx22⟩, -, X22, ⟨Lc22, hQ22, l22, y22, z22⟩, st22⟩ := X5.virtualBack hx (y := (⟨"com/example/cairn/cairn/history/Marks", "set", "(II)V"⟩ : MethodName)) (z := (⟨"com/example/cairn/cairn/history/Marks", "set", "(II)V"⟩ : MethodName)) hown (mvT hZ (hw _ (List.mem_of_getElem? (i := 25) rfl))) (mvT hZ (hw _ (List.mem_of_getElem? (i := 26) rfl))) (notFace_of_selects (args := #[]) (mvT hZ (hw _ (List.mem_of_getElem? (i := 28) rfl)))) (mvT hZ (hw _ (List.mem_of_getElem? (i := 28) rfl))) (mvT hZ (hw _ (List.mem_of_getElem? (i := 27) rfl))) (by decide) (backOf (W := 0) (rm5 l Z a0 hw [] b3 ca (own_fv p4) fc_5 mb_4 kd_5 km_4 (8 : Int32) (0 : Int32) (List.replicate 8 (.int (0 : Int32))) (List.replicate 64 (.int (0 : Int32))) T5.heap n0 Zn g_b3 gn_mb_4 gn_fc_5 E_b3 F_flags_5 F_marked_5 F_count_5 V_f_5 V_m_4 ne_b3_mb_4 ne_o__fc_5 ne_mb__fc_5 bca (own_icn Iv (by decide)) Iv.2.1 Iv.1) hZ (hw _ (List.mem_of_getElem? (i := 29) rfl)) (hw _ (List.mem_of_getElem? (i := 7) rfl)) (by decide) (by decide)) q22a q22c (g := (mkF m 77 #[.val (.int p1), .val (.int p2), .val (.int p3), .val (.int p4), .val (.int p5), .val (.int p6), .val (.int ca), .val (.int cb), .val (.int cc), .val (.int (own_fv p4)), .val (.int (own_fv p5)), .val (.int ww), .val (.int kk), .val (.ref b3), .unset] [(.int (own_fv p4)), (.int ca), (.ref b3)])) rfl (by rw [hml]; rfl) (Steps.refl _) (argsL := [(.int ca), (.int (own_fv p4))]) (rest := []) (lenOf pd_3 rfl) rfl (by show 2 * 0 + _ ≤ _; exact Nat.le_of_eq rfl) (hb hby at_77) (fun _ _ => ⟨rfl, rfl, (by decide : 4 + 0 ≤ _), (by decide : 75 + 0 ≤ _)⟩)
    dsimp only [Pt.U, Pt.locs, Pt.cells, Pt.slots] at X22 l22 y22 z22 st22 hQ22
    subst l22 y22 z22
    obtain ⟨rfl, Nq22, Kc22, E_o_22, F_flags_22, F_marked_22, F_count_22, V_f_22, V_m_22⟩ := hQ22
    have NN := Fr.app NN Nq22
    have E_b3 : Exa Z T22.heap b3 "com/example/cairn/cairn/history/Marks" := E_b3.keep Kc22
    have E_o_4 : Exa Z T22.heap b3 "com/example/cairn/cairn/history/Marks" := E_o_4.keep Kc22
    have E_o_5 : Exa Z T22.heap b3 "com/example/cairn/cairn/history/Marks" := E_o_5.keep Kc22
    have Zn : n0 ≤ T22.heap.size := Nat.le_trans Zn Kc22.1
    have pre : ∀ τ, Steps p.tables e below (T22.setTop (mkF m 80 #[.val (.int p1), .val (.int p2), .val (.int p3), .val (.int p4), .val (.int p5), .val (.int p6), .val (.int ca), .val (.int cb), .val (.int cc), .val (.int (own_fv p4)), .val (.int (own_fv p5)), .val (.int ww), .val (.int kk), .val (.ref b3), .unset] [])) τ → G τ := fun τ κ => pre τ (st22.trans κ)
    have Iv := own_invset bca Iv (by decide) (v := (own_fv p4))
    obtain ⟨fl23, hfl23⟩ : ∃ q : List Value, q = (own_sf (List.replicate 8 (.int (0 : Int32))) ca (own_fv p4)) := ⟨_, rfl⟩
    obtain ⟨ml23, hml23⟩ : ∃ q : List Value, q = (own_sm (List.replicate 8 (.int (0 : Int32))) (List.replicate 64 (.int (0 : Int32))) ca (0 : Int32)) := ⟨_, rfl⟩
    obtain ⟨cl23, hcl23⟩ : ∃ q : Int32, q = (own_sc (List.replicate 8 (.int (0 : Int32))) ca (0 : Int32)) := ⟨_, rfl⟩
    have Iv : own_inv fl23 ml23 cl23 1 := by rw [hfl23, hml23, hcl23]; exact Iv
    rw [← hfl23] at V_f_22
    rw [← hml23] at V_m_22
    rw [← hcl23] at F_count_22
    have pre : ∀ τ, Steps p.tables e below (T22.setTop (mkF m 83 #[.val (.int p1), .val (.int p2), .val (.int p3), .val (.int p4), .val (.int p5), .val (.int p6), .val (.int ca), .val (.int cb), .val (.int cc), .val (.int (own_fv p4)), .val (.int (own_fv p5)), .val (.int ww), .val (.int kk), .val (.ref b3), .unset] [(.int (2 : Int32)), (.int kk)])) τ → G τ := fun τ κ => pre τ (by
      refine XS.iload X22.here hx rfl (hb hby at_80) rfl ?_
      show Steps p.tables e below (T22.setTop (mkF m 82 #[.val (.int p1), .val (.int p2), .val (.int p3), .val (.int p4), .val (.int p5), .val (.int p6), .val (.int ca), .val (.int cb), .val (.int cc), .val (.int (own_fv p4)), .val (.int (own_fv p5)), .val (.int ww), .val (.int kk), .val (.ref b3), .unset] [(.int kk)])) τ
      refine XS.iconst X22.here hx rfl (hb hby at_82) ?_
      show Steps p.tables e below (T22.setTop (mkF m 83 #[.val (.int p1), .val (.int p2), .val (.int p3), .val (.int p4), .val (.int p5), .val (.int p6), .val (.int ca), .val (.int cb), .val (.int cc), .val (.int (own_fv p4)), .val (.int (own_fv p5)), .val (.int ww), .val (.int kk), .val (.ref b3), .unset] [(.int (2 : Int32)), (.int kk)])) τ
      exact κ)
    rcases Classical.em (kk < (2 : Int32)) with hc83_24 | hc83_24
    ·
      have pre : ∀ τ, Steps p.tables e below (T22.setTop (mkF m 98 #[.val (.int p1), .val (.int p2), .val (.int p3), .val (.int p4), .val (.int p5), .val (.int p6), .val (.int ca), .val (.int cb), .val (.int cc), .val (.int (own_fv p4)), .val (.int (own_fv p5)), .val (.int ww), .val (.int kk), .val (.ref b3), .unset] [(.int (3 : Int32)), (.int kk)])) τ → G τ := fun τ κ => pre τ (by
        refine XS.icmpYes X22.here hx rfl (pc0 := 83) (pc' := 95) rfl (hb hby at_83) rfl (tlt hc83_24).1 (by decide) (by decide) ?_
        show Steps p.tables e below (T22.setTop (mkF m 95 #[.val (.int p1), .val (.int p2), .val (.int p3), .val (.int p4), .val (.int p5), .val (.int p6), .val (.int ca), .val (.int cb), .val (.int cc), .val (.int (own_fv p4)), .val (.int (own_fv p5)), .val (.int ww), .val (.int kk), .val (.ref b3), .unset] [])) τ
        refine XS.iload X22.here hx rfl (hb hby at_95) rfl ?_
        show Steps p.tables e below (T22.setTop (mkF m 97 #[.val (.int p1), .val (.int p2), .val (.int p3), .val (.int p4), .val (.int p5), .val (.int p6), .val (.int ca), .val (.int cb), .val (.int cc), .val (.int (own_fv p4)), .val (.int (own_fv p5)), .val (.int ww), .val (.int kk), .val (.ref b3), .unset] [(.int kk)])) τ
        refine XS.iconst X22.here hx rfl (hb hby at_97) ?_
        show Steps p.tables e below (T22.setTop (mkF m 98 #[.val (.int p1), .val (.int p2), .val (.int p3), .val (.int p4), .val (.int p5), .val (.int p6), .val (.int ca), .val (.int cb), .val (.int cc), .val (.int (own_fv p4)), .val (.int (own_fv p5)), .val (.int ww), .val (.int kk), .val (.ref b3), .unset] [(.int (3 : Int32)), (.int kk)])) τ
        exact κ)
      have hc25 : kk < (3 : Int32) := own_k3 hc83_24
      have pre : ∀ τ, Steps p.tables e below (T22.setTop (mkF m 112 #[.val (.int p1), .val (.int p2), .val (.int p3), .val (.int p4), .val (.int p5), .val (.int p6), .val (.int ca), .val (.int cb), .val (.int cc), .val (.int (own_fv p4)), .val (.int (own_fv p5)), .val (.int ww), .val (.int kk), .val (.ref b3), .unset] [(.ref b3)])) τ → G τ := fun τ κ => pre τ (by
        refine XS.icmpYes X22.here hx rfl (pc0 := 98) (pc' := 110) rfl (hb hby at_98) rfl (tlt hc25).1 (by decide) (by decide) ?_
        show Steps p.tables e below (T22.setTop (mkF m 110 #[.val (.int p1), .val (.int p2), .val (.int p3), .val (.int p4), .val (.int p5), .val (.int p6), .val (.int ca), .val (.int cb), .val (.int cc), .val (.int (own_fv p4)), .val (.int (own_fv p5)), .val (.int ww), .val (.int kk), .val (.ref b3), .unset] [])) τ
        refine XS.aload X22.here hx rfl (hb hby at_110) rfl rfl ?_
        show Steps p.tables e below (T22.setTop (mkF m 112 #[.val (.int p1), .val (.int p2), .val (.int p3), .val (.int p4), .val (.int p5), .val (.int p6), .val (.int ca), .val (.int cb), .val (.int cc), .val (.int (own_fv p4)), .val (.int (own_fv p5)), .val (.int ww), .val (.int kk), .val (.ref b3), .unset] [(.ref b3)])) τ
        exact κ)
      obtain ⟨cq26, kq26, q26a, q26b, q26c⟩ := isOf hZ rfl E_b3
      obtain ⟨_, _, ⟨T26, Lx26, kx26, nx26⟩, -, X26, ⟨Lc26, hQ26, l26, y26, z26⟩, st26⟩ := X22.virtualBack hx (y := (⟨"com/example/cairn/cairn/history/Marks", "clear", "()V"⟩ : MethodName)) (z := (⟨"com/example/cairn/cairn/history/Marks", "clear", "()V"⟩ : MethodName)) hown (mvT hZ (hw _ (List.mem_of_getElem? (i := 32) rfl))) (mvT hZ (hw _ (List.mem_of_getElem? (i := 33) rfl))) (notFace_of_selects (args := #[]) (mvT hZ (hw _ (List.mem_of_getElem? (i := 35) rfl)))) (mvT hZ (hw _ (List.mem_of_getElem? (i := 35) rfl))) (mvT hZ (hw _ (List.mem_of_getElem? (i := 34) rfl))) (by decide) (backOf (W := 0) (rm6 l Z a0 hw [] b3 fc_5 mb_4 kd_5 km_4 (8 : Int32) cl23 fl23 ml23 T22.heap n0 Zn g_b3 gn_mb_4 gn_fc_5 E_b3 F_flags_22 F_marked_22 F_count_22 V_f_22 V_m_22 ne_b3_mb_4 ne_o__fc_5 ne_mb__fc_5 (own_icn Iv (by decide)) Iv.2.1 Iv.1 Iv.2.2.2.2.1) hZ (hw _ (List.mem_of_getElem? (i := 36) rfl)) (hw _ (List.mem_of_getElem? (i := 7) rfl)) (by decide) (by decide)) q26a q26c (g := (mkF m 112 #[.val (.int p1), .val (.int p2), .val (.int p3), .val (.int p4), .val (.int p5), .val (.int p6), .val (.int ca), .val (.int cb), .val (.int cc), .val (.int (own_fv p4)), .val (.int (own_fv p5)), .val (.int ww), .val (.int kk), .val (.ref b3), .unset] [(.ref b3)])) rfl (by rw [hml]; rfl) (Steps.refl _) (argsL := []) (rest := []) (lenOf pd_1 rfl) rfl (by show 2 * 0 + _ ≤ _; exact Nat.le_of_eq rfl) (hb hby at_112) (fun _ _ => ⟨rfl, rfl, (by decide : 4 + 0 ≤ _), (by decide : 75 + 0 ≤ _)⟩)
      dsimp only [Pt.U, Pt.locs, Pt.cells, Pt.slots] at X26 l26 y26 z26 st26 hQ26
      subst l26 y26 z26
      obtain ⟨rfl, Nq26, Kc26, E_o_26, F_flags_26, F_marked_26, F_count_26, V_f_26, V_m_26⟩ := hQ26
      have NN := Fr.app NN Nq26
      have E_b3 : Exa Z T26.heap b3 "com/example/cairn/cairn/history/Marks" := E_b3.keep Kc26
      have E_o_4 : Exa Z T26.heap b3 "com/example/cairn/cairn/history/Marks" := E_o_4.keep Kc26
      have E_o_5 : Exa Z T26.heap b3 "com/example/cairn/cairn/history/Marks" := E_o_5.keep Kc26
      have E_o_22 : Exa Z T26.heap b3 "com/example/cairn/cairn/history/Marks" := E_o_22.keep Kc26
      have Zn : n0 ≤ T26.heap.size := Nat.le_trans Zn Kc26.1
      have pre : ∀ τ, Steps p.tables e below (T26.setTop (mkF m 115 #[.val (.int p1), .val (.int p2), .val (.int p3), .val (.int p4), .val (.int p5), .val (.int p6), .val (.int ca), .val (.int cb), .val (.int cc), .val (.int (own_fv p4)), .val (.int (own_fv p5)), .val (.int ww), .val (.int kk), .val (.ref b3), .unset] [])) τ → G τ := fun τ κ => pre τ (st26.trans κ)
      obtain ⟨fz, hfz⟩ : ∃ q : List Value, q = (own_cl ml23 cl23.toInt.toNat (0 : Int32) fl23) := ⟨_, rfl⟩
      have Cz : fz.length = 8 ∧ ∀ j : Int32, ¬ j < 0 ∧ j < (8 : Int32) → own_at fz j = 0 := by rw [hfz]; exact own_invclr Iv (by decide)
      rw [← hfz] at V_f_26
      have pre : ∀ τ, Steps p.tables e below (T26.setTop (mkF m 119 #[.val (.int p1), .val (.int p2), .val (.int p3), .val (.int p4), .val (.int p5), .val (.int p6), .val (.int ca), .val (.int cb), .val (.int cc), .val (.int (own_fv p4)), .val (.int (own_fv p5)), .val (.int ww), .val (.int kk), .val (.ref b3), .unset] [(.int ca), (.ref b3)])) τ → G τ := fun τ κ => pre τ (by
        refine XS.aload X26.here hx rfl (hb hby at_115) rfl rfl ?_
        show Steps p.tables e below (T26.setTop (mkF m 117 #[.val (.int p1), .val (.int p2), .val (.int p3), .val (.int p4), .val (.int p5), .val (.int p6), .val (.int ca), .val (.int cb), .val (.int cc), .val (.int (own_fv p4)), .val (.int (own_fv p5)), .val (.int ww), .val (.int kk), .val (.ref b3), .unset] [(.ref b3)])) τ
        refine XS.iload X26.here hx rfl (hb hby at_117) rfl ?_
        show Steps p.tables e below (T26.setTop (mkF m 119 #[.val (.int p1), .val (.int p2), .val (.int p3), .val (.int p4), .val (.int p5), .val (.int p6), .val (.int ca), .val (.int cb), .val (.int cc), .val (.int (own_fv p4)), .val (.int (own_fv p5)), .val (.int ww), .val (.int kk), .val (.ref b3), .unset] [(.int ca), (.ref b3)])) τ
        exact κ)
      obtain ⟨cq27, kq27, q27a, q27b, q27c⟩ := isOf hZ rfl E_b3
      obtain ⟨_, _, ⟨T27, Lx27, kx27, nx27⟩, -, X27, ⟨Lc27, hQ27, l27, y27, z27⟩, st27⟩ := X26.virtualBack hx (y := (⟨"com/example/cairn/cairn/history/Marks", "get", "(I)I"⟩ : MethodName)) (z := (⟨"com/example/cairn/cairn/history/Marks", "get", "(I)I"⟩ : MethodName)) hown (mvT hZ (hw _ (List.mem_of_getElem? (i := 37) rfl))) (mvT hZ (hw _ (List.mem_of_getElem? (i := 38) rfl))) (notFace_of_selects (args := #[]) (mvT hZ (hw _ (List.mem_of_getElem? (i := 40) rfl)))) (mvT hZ (hw _ (List.mem_of_getElem? (i := 40) rfl))) (mvT hZ (hw _ (List.mem_of_getElem? (i := 39) rfl))) (by decide) (backOf (W := 0) (rm7 l Z a0 hw [] b3 ca fc_5 kd_5 (8 : Int32) fz T26.heap n0 Zn F_flags_26 V_f_26 bca) hZ (hw _ (List.mem_of_getElem? (i := 41) rfl)) (hw _ (List.mem_of_getElem? (i := 7) rfl)) (by decide) (by decide)) q27a q27c (g := (mkF m 119 #[.val (.int p1), .val (.int p2), .val (.int p3), .val (.int p4), .val (.int p5), .val (.int p6), .val (.int ca), .val (.int cb), .val (.int cc), .val (.int (own_fv p4)), .val (.int (own_fv p5)), .val (.int ww), .val (.int kk), .val (.ref b3), .unset] [(.int ca), (.ref b3)])) rfl (by rw [hml]; rfl) (Steps.refl _) (argsL := [(.int ca)]) (rest := []) (lenOf pd_0 rfl) rfl (by show 2 * 0 + _ ≤ _; exact Nat.le_of_eq rfl) (hb hby at_119) (fun _ _ => ⟨rfl, rfl, (by decide : 4 + 0 ≤ _), (by decide : 75 + 0 ≤ _)⟩)
      dsimp only [Pt.U, Pt.locs, Pt.cells, Pt.slots] at X27 l27 y27 z27 st27 hQ27
      subst l27 y27 z27
      obtain ⟨rfl, Nq27, hs27⟩ := hQ27
      have NN := Fr.app NN Nq27
      have pre : ∀ τ, Steps p.tables e below (T27.setTop (mkF m 122 #[.val (.int p1), .val (.int p2), .val (.int p3), .val (.int p4), .val (.int p5), .val (.int p6), .val (.int ca), .val (.int cb), .val (.int cc), .val (.int (own_fv p4)), .val (.int (own_fv p5)), .val (.int ww), .val (.int kk), .val (.ref b3), .unset] [(.int (own_at fz ca &&& (255 : Int32)))])) τ → G τ := fun τ κ => pre τ (st27.trans κ)
      have hc28 : (own_at fz ca &&& (255 : Int32)) = (0 : Int32) := own_g0 (Cz.2 _ bca)
      have pre : ∀ τ, Steps p.tables e below (T27.setTop (mkF m 129 #[.val (.int p1), .val (.int p2), .val (.int p3), .val (.int p4), .val (.int p5), .val (.int p6), .val (.int ca), .val (.int cb), .val (.int cc), .val (.int (own_fv p4)), .val (.int (own_fv p5)), .val (.int ww), .val (.int kk), .val (.ref b3), .unset] [(.int cb), (.ref b3)])) τ → G τ := fun τ κ => pre τ (by
        refine XS.ifNo X27.here hx rfl (hb hby at_122) rfl ((if0 _ _).trans (teq hc28).2) ?_
        show Steps p.tables e below (T27.setTop (mkF m 125 #[.val (.int p1), .val (.int p2), .val (.int p3), .val (.int p4), .val (.int p5), .val (.int p6), .val (.int ca), .val (.int cb), .val (.int cc), .val (.int (own_fv p4)), .val (.int (own_fv p5)), .val (.int ww), .val (.int kk), .val (.ref b3), .unset] [])) τ
        refine XS.aload X27.here hx rfl (hb hby at_125) rfl rfl ?_
        show Steps p.tables e below (T27.setTop (mkF m 127 #[.val (.int p1), .val (.int p2), .val (.int p3), .val (.int p4), .val (.int p5), .val (.int p6), .val (.int ca), .val (.int cb), .val (.int cc), .val (.int (own_fv p4)), .val (.int (own_fv p5)), .val (.int ww), .val (.int kk), .val (.ref b3), .unset] [(.ref b3)])) τ
        refine XS.iload X27.here hx rfl (hb hby at_127) rfl ?_
        show Steps p.tables e below (T27.setTop (mkF m 129 #[.val (.int p1), .val (.int p2), .val (.int p3), .val (.int p4), .val (.int p5), .val (.int p6), .val (.int ca), .val (.int cb), .val (.int cc), .val (.int (own_fv p4)), .val (.int (own_fv p5)), .val (.int ww), .val (.int kk), .val (.ref b3), .unset] [(.int cb), (.ref b3)])) τ
        exact κ)
      obtain ⟨cq29, kq29, q29a, q29b, q29c⟩ := isOf hZ hs27 E_b3
      obtain ⟨_, _, ⟨T29, Lx29, kx29, nx29⟩, -, X29, ⟨Lc29, hQ29, l29, y29, z29⟩, st29⟩ := X27.virtualBack hx (y := (⟨"com/example/cairn/cairn/history/Marks", "get", "(I)I"⟩ : MethodName)) (z := (⟨"com/example/cairn/cairn/history/Marks", "get", "(I)I"⟩ : MethodName)) hown (mvT hZ (hw _ (List.mem_of_getElem? (i := 37) rfl))) (mvT hZ (hw _ (List.mem_of_getElem? (i := 38) rfl))) (notFace_of_selects (args := #[]) (mvT hZ (hw _ (List.mem_of_getElem? (i := 40) rfl)))) (mvT hZ (hw _ (List.mem_of_getElem? (i := 40) rfl))) (mvT hZ (hw _ (List.mem_of_getElem? (i := 39) rfl))) (by decide) (backOf (W := 0) (rm7 l Z a0 hw [] b3 cb fc_5 kd_5 (8 : Int32) fz T26.heap n0 Zn F_flags_26 V_f_26 bcb) hZ (hw _ (List.mem_of_getElem? (i := 41) rfl)) (hw _ (List.mem_of_getElem? (i := 7) rfl)) (by decide) (by decide)) q29a q29c (g := (mkF m 129 #[.val (.int p1), .val (.int p2), .val (.int p3), .val (.int p4), .val (.int p5), .val (.int p6), .val (.int ca), .val (.int cb), .val (.int cc), .val (.int (own_fv p4)), .val (.int (own_fv p5)), .val (.int ww), .val (.int kk), .val (.ref b3), .unset] [(.int cb), (.ref b3)])) rfl (by rw [hml]; rfl) (Steps.refl _) (argsL := [(.int cb)]) (rest := []) (lenOf pd_0 rfl) rfl (by show 2 * 0 + _ ≤ _; exact Nat.le_of_eq rfl) (hb hby at_129) (fun _ _ => ⟨rfl, hs27, (by decide : 4 + 0 ≤ _), (by decide : 75 + 0 ≤ _)⟩)
      dsimp only [Pt.U, Pt.locs, Pt.cells, Pt.slots] at X29 l29 y29 z29 st29 hQ29
      subst l29 y29 z29
      obtain ⟨rfl, Nq29, hs29⟩ := hQ29
      have NN := Fr.app NN Nq29
      have pre : ∀ τ, Steps p.tables e below (T29.setTop (mkF m 132 #[.val (.int p1), .val (.int p2), .val (.int p3), .val (.int p4), .val (.int p5), .val (.int p6), .val (.int ca), .val (.int cb), .val (.int cc), .val (.int (own_fv p4)), .val (.int (own_fv p5)), .val (.int ww), .val (.int kk), .val (.ref b3), .unset] [(.int (own_at fz cb &&& (255 : Int32)))])) τ → G τ := fun τ κ => pre τ (st29.trans κ)
      have hc30 : (own_at fz cb &&& (255 : Int32)) = (0 : Int32) := own_g0 (Cz.2 _ bcb)
      have pre : ∀ τ, Steps p.tables e below (T29.setTop (mkF m 148 #[.val (.int p1), .val (.int p2), .val (.int p3), .val (.int p4), .val (.int p5), .val (.int p6), .val (.int ca), .val (.int cb), .val (.int cc), .val (.int (own_fv p4)), .val (.int (own_fv p5)), .val (.int ww), .val (.int kk), .val (.ref b3), .val (.int (1 : Int32))] [(.int ww), (.int cc), (.ref b3)])) τ → G τ := fun τ κ => pre τ (by
        refine XS.ifNo X29.here hx rfl (hb hby at_132) rfl ((if0 _ _).trans (teq hc30).2) ?_
        show Steps p.tables e below (T29.setTop (mkF m 135 #[.val (.int p1), .val (.int p2), .val (.int p3), .val (.int p4), .val (.int p5), .val (.int p6), .val (.int ca), .val (.int cb), .val (.int cc), .val (.int (own_fv p4)), .val (.int (own_fv p5)), .val (.int ww), .val (.int kk), .val (.ref b3), .unset] [])) τ
        refine XS.iconst X29.here hx rfl (hb hby at_135) ?_
        show Steps p.tables e below (T29.setTop (mkF m 136 #[.val (.int p1), .val (.int p2), .val (.int p3), .val (.int p4), .val (.int p5), .val (.int p6), .val (.int ca), .val (.int cb), .val (.int cc), .val (.int (own_fv p4)), .val (.int (own_fv p5)), .val (.int ww), .val (.int kk), .val (.ref b3), .unset] [(.int (1 : Int32))])) τ
        refine XS.goto X29.here hx rfl (pc0 := 136) (pc' := 140) rfl (hb hby at_136) (by decide) (by decide) ?_
        show Steps p.tables e below (T29.setTop (mkF m 140 #[.val (.int p1), .val (.int p2), .val (.int p3), .val (.int p4), .val (.int p5), .val (.int p6), .val (.int ca), .val (.int cb), .val (.int cc), .val (.int (own_fv p4)), .val (.int (own_fv p5)), .val (.int ww), .val (.int kk), .val (.ref b3), .unset] [(.int (1 : Int32))])) τ
        refine XS.istore X29.here hx rfl (hb hby at_140) rfl (l' := #[.val (.int p1), .val (.int p2), .val (.int p3), .val (.int p4), .val (.int p5), .val (.int p6), .val (.int ca), .val (.int cb), .val (.int cc), .val (.int (own_fv p4)), .val (.int (own_fv p5)), .val (.int ww), .val (.int kk), .val (.ref b3), .val (.int (1 : Int32))]) rfl ?_
        show Steps p.tables e below (T29.setTop (mkF m 142 #[.val (.int p1), .val (.int p2), .val (.int p3), .val (.int p4), .val (.int p5), .val (.int p6), .val (.int ca), .val (.int cb), .val (.int cc), .val (.int (own_fv p4)), .val (.int (own_fv p5)), .val (.int ww), .val (.int kk), .val (.ref b3), .val (.int (1 : Int32))] [])) τ
        refine XS.aload X29.here hx rfl (hb hby at_142) rfl rfl ?_
        show Steps p.tables e below (T29.setTop (mkF m 144 #[.val (.int p1), .val (.int p2), .val (.int p3), .val (.int p4), .val (.int p5), .val (.int p6), .val (.int ca), .val (.int cb), .val (.int cc), .val (.int (own_fv p4)), .val (.int (own_fv p5)), .val (.int ww), .val (.int kk), .val (.ref b3), .val (.int (1 : Int32))] [(.ref b3)])) τ
        refine XS.iload X29.here hx rfl (hb hby at_144) rfl ?_
        show Steps p.tables e below (T29.setTop (mkF m 146 #[.val (.int p1), .val (.int p2), .val (.int p3), .val (.int p4), .val (.int p5), .val (.int p6), .val (.int ca), .val (.int cb), .val (.int cc), .val (.int (own_fv p4)), .val (.int (own_fv p5)), .val (.int ww), .val (.int kk), .val (.ref b3), .val (.int (1 : Int32))] [(.int cc), (.ref b3)])) τ
        refine XS.iload X29.here hx rfl (hb hby at_146) rfl ?_
        show Steps p.tables e below (T29.setTop (mkF m 148 #[.val (.int p1), .val (.int p2), .val (.int p3), .val (.int p4), .val (.int p5), .val (.int p6), .val (.int ca), .val (.int cb), .val (.int cc), .val (.int (own_fv p4)), .val (.int (own_fv p5)), .val (.int ww), .val (.int kk), .val (.ref b3), .val (.int (1 : Int32))] [(.int ww), (.int cc), (.ref b3)])) τ
        exact κ)
      obtain ⟨cq31, kq31, q31a, q31b, q31c⟩ := isOf hZ hs29 E_b3
      obtain ⟨_, _, ⟨T31, Lx31, kx31, nx31⟩, -, X31, ⟨Lc31, hQ31, l31, y31, z31⟩, st31⟩ := X29.virtualBack hx (y := (⟨"com/example/cairn/cairn/history/Marks", "set", "(II)V"⟩ : MethodName)) (z := (⟨"com/example/cairn/cairn/history/Marks", "set", "(II)V"⟩ : MethodName)) hown (mvT hZ (hw _ (List.mem_of_getElem? (i := 25) rfl))) (mvT hZ (hw _ (List.mem_of_getElem? (i := 26) rfl))) (notFace_of_selects (args := #[]) (mvT hZ (hw _ (List.mem_of_getElem? (i := 28) rfl)))) (mvT hZ (hw _ (List.mem_of_getElem? (i := 28) rfl))) (mvT hZ (hw _ (List.mem_of_getElem? (i := 27) rfl))) (by decide) (backOf (W := 0) (rm5 l Z a0 hw [] b3 cc ww fc_5 mb_4 kd_5 km_4 (8 : Int32) (0 : Int32) fz ml23 T26.heap n0 Zn g_b3 gn_mb_4 gn_fc_5 E_b3 F_flags_26 F_marked_26 F_count_26 V_f_26 V_m_26 ne_b3_mb_4 ne_o__fc_5 ne_mb__fc_5 bcc (by decide) Iv.2.1 Cz.1) hZ (hw _ (List.mem_of_getElem? (i := 29) rfl)) (hw _ (List.mem_of_getElem? (i := 7) rfl)) (by decide) (by decide)) q31a q31c (g := (mkF m 148 #[.val (.int p1), .val (.int p2), .val (.int p3), .val (.int p4), .val (.int p5), .val (.int p6), .val (.int ca), .val (.int cb), .val (.int cc), .val (.int (own_fv p4)), .val (.int (own_fv p5)), .val (.int ww), .val (.int kk), .val (.ref b3), .val (.int (1 : Int32))] [(.int ww), (.int cc), (.ref b3)])) rfl (by rw [hml]; rfl) (Steps.refl _) (argsL := [(.int cc), (.int ww)]) (rest := []) (lenOf pd_3 rfl) rfl (by show 2 * 0 + _ ≤ _; exact Nat.le_of_eq rfl) (hb hby at_148) (fun _ _ => ⟨rfl, hs29, (by decide : 4 + 0 ≤ _), (by decide : 75 + 0 ≤ _)⟩)
      dsimp only [Pt.U, Pt.locs, Pt.cells, Pt.slots] at X31 l31 y31 z31 st31 hQ31
      subst l31 y31 z31
      obtain ⟨rfl, Nq31, Kc31, E_o_31, F_flags_31, F_marked_31, F_count_31, V_f_31, V_m_31⟩ := hQ31
      have NN := Fr.app NN Nq31
      have E_b3 : Exa Z T31.heap b3 "com/example/cairn/cairn/history/Marks" := E_b3.keep Kc31
      have E_o_4 : Exa Z T31.heap b3 "com/example/cairn/cairn/history/Marks" := E_o_4.keep Kc31
      have E_o_5 : Exa Z T31.heap b3 "com/example/cairn/cairn/history/Marks" := E_o_5.keep Kc31
      have E_o_22 : Exa Z T31.heap b3 "com/example/cairn/cairn/history/Marks" := E_o_22.keep Kc31
      have E_o_26 : Exa Z T31.heap b3 "com/example/cairn/cairn/history/Marks" := E_o_26.keep Kc31
      have Zn : n0 ≤ T31.heap.size := Nat.le_trans Zn Kc31.1
      have pre : ∀ τ, Steps p.tables e below (T31.setTop (mkF m 151 #[.val (.int p1), .val (.int p2), .val (.int p3), .val (.int p4), .val (.int p5), .val (.int p6), .val (.int ca), .val (.int cb), .val (.int cc), .val (.int (own_fv p4)), .val (.int (own_fv p5)), .val (.int ww), .val (.int kk), .val (.ref b3), .val (.int (1 : Int32))] [])) τ → G τ := fun τ κ => pre τ (st31.trans κ)
      have pre : ∀ τ, Steps p.tables e below (T31.setTop (mkF m 153 #[.val (.int p1), .val (.int p2), .val (.int p3), .val (.int p4), .val (.int p5), .val (.int p6), .val (.int ca), .val (.int cb), .val (.int cc), .val (.int (own_fv p4)), .val (.int (own_fv p5)), .val (.int ww), .val (.int kk), .val (.ref b3), .val (.int (1 : Int32))] [(.int (1 : Int32))])) τ → G τ := fun τ κ => pre τ (by
        refine XS.iload X31.here hx rfl (hb hby at_151) rfl ?_
        show Steps p.tables e below (T31.setTop (mkF m 153 #[.val (.int p1), .val (.int p2), .val (.int p3), .val (.int p4), .val (.int p5), .val (.int p6), .val (.int ca), .val (.int cb), .val (.int cc), .val (.int (own_fv p4)), .val (.int (own_fv p5)), .val (.int ww), .val (.int kk), .val (.ref b3), .val (.int (1 : Int32))] [(.int (1 : Int32))])) τ
        exact κ)
      have hc32 : ¬ ((1 : Int32) = (0 : Int32)) := (by decide)
      have pre : ∀ τ, Steps p.tables e below (T31.setTop (mkF m 158 #[.val (.int p1), .val (.int p2), .val (.int p3), .val (.int p4), .val (.int p5), .val (.int p6), .val (.int ca), .val (.int cb), .val (.int cc), .val (.int (own_fv p4)), .val (.int (own_fv p5)), .val (.int ww), .val (.int kk), .val (.ref b3), .val (.int (1 : Int32))] [(.ref b3)])) τ → G τ := fun τ κ => pre τ (by
        refine XS.ifNo X31.here hx rfl (hb hby at_153) rfl ((if0 _ _).trans (feq hc32).1) ?_
        show Steps p.tables e below (T31.setTop (mkF m 156 #[.val (.int p1), .val (.int p2), .val (.int p3), .val (.int p4), .val (.int p5), .val (.int p6), .val (.int ca), .val (.int cb), .val (.int cc), .val (.int (own_fv p4)), .val (.int (own_fv p5)), .val (.int ww), .val (.int kk), .val (.ref b3), .val (.int (1 : Int32))] [])) τ
        refine XS.aload X31.here hx rfl (hb hby at_156) rfl rfl ?_
        show Steps p.tables e below (T31.setTop (mkF m 158 #[.val (.int p1), .val (.int p2), .val (.int p3), .val (.int p4), .val (.int p5), .val (.int p6), .val (.int ca), .val (.int cb), .val (.int cc), .val (.int (own_fv p4)), .val (.int (own_fv p5)), .val (.int ww), .val (.int kk), .val (.ref b3), .val (.int (1 : Int32))] [(.ref b3)])) τ
        exact κ)
      obtain ⟨cq33, kq33, q33a, q33b, q33c⟩ := isOf hZ rfl E_b3
      obtain ⟨_, _, ⟨T33, Lx33, kx33, nx33⟩, -, X33, ⟨Lc33, hQ33, l33, y33, z33⟩, st33⟩ := X31.virtualBack hx (y := (⟨"com/example/cairn/cairn/history/Marks", "count", "()I"⟩ : MethodName)) (z := (⟨"com/example/cairn/cairn/history/Marks", "count", "()I"⟩ : MethodName)) hown (mvT hZ (hw _ (List.mem_of_getElem? (i := 42) rfl))) (mvT hZ (hw _ (List.mem_of_getElem? (i := 43) rfl))) (notFace_of_selects (args := #[]) (mvT hZ (hw _ (List.mem_of_getElem? (i := 45) rfl)))) (mvT hZ (hw _ (List.mem_of_getElem? (i := 45) rfl))) (mvT hZ (hw _ (List.mem_of_getElem? (i := 44) rfl))) (by decide) (backOf (W := 0) (rm8 l Z a0 hw [] b3 (own_sc fz cc (0 : Int32)) T31.heap n0 Zn F_count_31) hZ (hw _ (List.mem_of_getElem? (i := 46) rfl)) (hw _ (List.mem_of_getElem? (i := 7) rfl)) (by decide) (by decide)) q33a q33c (g := (mkF m 158 #[.val (.int p1), .val (.int p2), .val (.int p3), .val (.int p4), .val (.int p5), .val (.int p6), .val (.int ca), .val (.int cb), .val (.int cc), .val (.int (own_fv p4)), .val (.int (own_fv p5)), .val (.int ww), .val (.int kk), .val (.ref b3), .val (.int (1 : Int32))] [(.ref b3)])) rfl (by rw [hml]; rfl) (Steps.refl _) (argsL := []) (rest := []) (lenOf pd_4 rfl) rfl (by show 2 * 0 + _ ≤ _; exact Nat.le_of_eq rfl) (hb hby at_158) (fun _ _ => ⟨rfl, rfl, (by decide : 4 + 0 ≤ _), (by decide : 75 + 0 ≤ _)⟩)
      dsimp only [Pt.U, Pt.locs, Pt.cells, Pt.slots] at X33 l33 y33 z33 st33 hQ33
      subst l33 y33 z33
      obtain ⟨rfl, Nq33, hs33⟩ := hQ33
      have NN := Fr.app NN Nq33
      have pre : ∀ τ, Steps p.tables e below (T33.setTop (mkF m 161 #[.val (.int p1), .val (.int p2), .val (.int p3), .val (.int p4), .val (.int p5), .val (.int p6), .val (.int ca), .val (.int cb), .val (.int cc), .val (.int (own_fv p4)), .val (.int (own_fv p5)), .val (.int ww), .val (.int kk), .val (.ref b3), .val (.int (1 : Int32))] [(.int (own_sc fz cc (0 : Int32)))])) τ → G τ := fun τ κ => pre τ (st33.trans κ)
      have pre : ∀ τ, Steps p.tables e below (T33.setTop (mkF m 162 #[.val (.int p1), .val (.int p2), .val (.int p3), .val (.int p4), .val (.int p5), .val (.int p6), .val (.int ca), .val (.int cb), .val (.int cc), .val (.int (own_fv p4)), .val (.int (own_fv p5)), .val (.int ww), .val (.int kk), .val (.ref b3), .val (.int (1 : Int32))] [(.int (1 : Int32)), (.int (own_sc fz cc (0 : Int32)))])) τ → G τ := fun τ κ => pre τ (by
        refine XS.iconst X33.here hx rfl (hb hby at_161) ?_
        show Steps p.tables e below (T33.setTop (mkF m 162 #[.val (.int p1), .val (.int p2), .val (.int p3), .val (.int p4), .val (.int p5), .val (.int p6), .val (.int ca), .val (.int cb), .val (.int cc), .val (.int (own_fv p4)), .val (.int (own_fv p5)), .val (.int ww), .val (.int kk), .val (.ref b3), .val (.int (1 : Int32))] [(.int (1 : Int32)), (.int (own_sc fz cc (0 : Int32)))])) τ
        exact κ)
      have hc34 : (own_sc fz cc (0 : Int32)) = (1 : Int32) := own_c1 (Cz.2 _ bcc)
      have pre : ∀ τ, Steps p.tables e below (T33.setTop (mkF m 168 #[.val (.int p1), .val (.int p2), .val (.int p3), .val (.int p4), .val (.int p5), .val (.int p6), .val (.int ca), .val (.int cb), .val (.int cc), .val (.int (own_fv p4)), .val (.int (own_fv p5)), .val (.int ww), .val (.int kk), .val (.ref b3), .val (.int (1 : Int32))] [(.int (0 : Int32)), (.ref b3)])) τ → G τ := fun τ κ => pre τ (by
        refine XS.icmpNo X33.here hx rfl (hb hby at_162) rfl (teq hc34).2 ?_
        show Steps p.tables e below (T33.setTop (mkF m 165 #[.val (.int p1), .val (.int p2), .val (.int p3), .val (.int p4), .val (.int p5), .val (.int p6), .val (.int ca), .val (.int cb), .val (.int cc), .val (.int (own_fv p4)), .val (.int (own_fv p5)), .val (.int ww), .val (.int kk), .val (.ref b3), .val (.int (1 : Int32))] [])) τ
        refine XS.aload X33.here hx rfl (hb hby at_165) rfl rfl ?_
        show Steps p.tables e below (T33.setTop (mkF m 167 #[.val (.int p1), .val (.int p2), .val (.int p3), .val (.int p4), .val (.int p5), .val (.int p6), .val (.int ca), .val (.int cb), .val (.int cc), .val (.int (own_fv p4)), .val (.int (own_fv p5)), .val (.int ww), .val (.int kk), .val (.ref b3), .val (.int (1 : Int32))] [(.ref b3)])) τ
        refine XS.iconst X33.here hx rfl (hb hby at_167) ?_
        show Steps p.tables e below (T33.setTop (mkF m 168 #[.val (.int p1), .val (.int p2), .val (.int p3), .val (.int p4), .val (.int p5), .val (.int p6), .val (.int ca), .val (.int cb), .val (.int cc), .val (.int (own_fv p4)), .val (.int (own_fv p5)), .val (.int ww), .val (.int kk), .val (.ref b3), .val (.int (1 : Int32))] [(.int (0 : Int32)), (.ref b3)])) τ
        exact κ)
      obtain ⟨cq35, kq35, q35a, q35b, q35c⟩ := isOf hZ hs33 E_b3
      obtain ⟨_, _, ⟨T35, Lx35, kx35, nx35⟩, -, X35, ⟨Lc35, hQ35, l35, y35, z35⟩, st35⟩ := X33.virtualBack hx (y := (⟨"com/example/cairn/cairn/history/Marks", "commit", "(I)I"⟩ : MethodName)) (z := (⟨"com/example/cairn/cairn/history/Marks", "commit", "(I)I"⟩ : MethodName)) hown (mvT hZ (hw _ (List.mem_of_getElem? (i := 47) rfl))) (mvT hZ (hw _ (List.mem_of_getElem? (i := 48) rfl))) (notFace_of_selects (args := #[]) (mvT hZ (hw _ (List.mem_of_getElem? (i := 50) rfl)))) (mvT hZ (hw _ (List.mem_of_getElem? (i := 50) rfl))) (mvT hZ (hw _ (List.mem_of_getElem? (i := 49) rfl))) (by decide) (backOf (W := 0) (rm9 l Z a0 hw [] b3 (0 : Int32) mb_4 km_4 (own_sm fz ml23 cc (0 : Int32)) T31.heap n0 Zn F_marked_31 V_m_31 (by decide)) hZ (hw _ (List.mem_of_getElem? (i := 51) rfl)) (hw _ (List.mem_of_getElem? (i := 7) rfl)) (by decide) (by decide)) q35a q35c (g := (mkF m 168 #[.val (.int p1), .val (.int p2), .val (.int p3), .val (.int p4), .val (.int p5), .val (.int p6), .val (.int ca), .val (.int cb), .val (.int cc), .val (.int (own_fv p4)), .val (.int (own_fv p5)), .val (.int ww), .val (.int kk), .val (.ref b3), .val (.int (1 : Int32))] [(.int (0 : Int32)), (.ref b3)])) rfl (by rw [hml]; rfl) (Steps.refl _) (argsL := [(.int (0 : Int32))]) (rest := []) (lenOf pd_0 rfl) rfl (by show 2 * 0 + _ ≤ _; exact Nat.le_of_eq rfl) (hb hby at_168) (fun _ _ => ⟨rfl, hs33, (by decide : 4 + 0 ≤ _), (by decide : 75 + 0 ≤ _)⟩)
      dsimp only [Pt.U, Pt.locs, Pt.cells, Pt.slots] at X35 l35 y35 z35 st35 hQ35
      subst l35 y35 z35
      obtain ⟨rfl, Nq35, hs35⟩ := hQ35
      have NN := Fr.app NN Nq35
      have pre : ∀ τ, Steps p.tables e below (T35.setTop (mkF m 171 #[.val (.int p1), .val (.int p2), .val (.int p3), .val (.int p4), .val (.int p5), .val (.int p6), .val (.int ca), .val (.int cb), .val (.int cc), .val (.int (own_fv p4)), .val (.int (own_fv p5)), .val (.int ww), .val (.int kk), .val (.ref b3), .val (.int (1 : Int32))] [(.int (own_at (own_sm fz ml23 cc (0 : Int32)) (0 : Int32)))])) τ → G τ := fun τ κ => pre τ (st35.trans κ)
      have pre : ∀ τ, Steps p.tables e below (T35.setTop (mkF m 173 #[.val (.int p1), .val (.int p2), .val (.int p3), .val (.int p4), .val (.int p5), .val (.int p6), .val (.int ca), .val (.int cb), .val (.int cc), .val (.int (own_fv p4)), .val (.int (own_fv p5)), .val (.int ww), .val (.int kk), .val (.ref b3), .val (.int (1 : Int32))] [(.int cc), (.int (own_at (own_sm fz ml23 cc (0 : Int32)) (0 : Int32)))])) τ → G τ := fun τ κ => pre τ (by
        refine XS.iload X35.here hx rfl (hb hby at_171) rfl ?_
        show Steps p.tables e below (T35.setTop (mkF m 173 #[.val (.int p1), .val (.int p2), .val (.int p3), .val (.int p4), .val (.int p5), .val (.int p6), .val (.int ca), .val (.int cb), .val (.int cc), .val (.int (own_fv p4)), .val (.int (own_fv p5)), .val (.int ww), .val (.int kk), .val (.ref b3), .val (.int (1 : Int32))] [(.int cc), (.int (own_at (own_sm fz ml23 cc (0 : Int32)) (0 : Int32)))])) τ
        exact κ)
      have hc36 : (own_at (own_sm fz ml23 cc (0 : Int32)) (0 : Int32)) = cc := own_m1 (Cz.2 _ bcc) Iv.2.1
      have pre : ∀ τ, Steps p.tables e below (T35.setTop (mkF m 180 #[.val (.int p1), .val (.int p2), .val (.int p3), .val (.int p4), .val (.int p5), .val (.int p6), .val (.int ca), .val (.int cb), .val (.int cc), .val (.int (own_fv p4)), .val (.int (own_fv p5)), .val (.int ww), .val (.int kk), .val (.ref b3), .val (.int (1 : Int32))] [(.int cc), (.ref b3)])) τ → G τ := fun τ κ => pre τ (by
        refine XS.icmpNo X35.here hx rfl (hb hby at_173) rfl (teq hc36).2 ?_
        show Steps p.tables e below (T35.setTop (mkF m 176 #[.val (.int p1), .val (.int p2), .val (.int p3), .val (.int p4), .val (.int p5), .val (.int p6), .val (.int ca), .val (.int cb), .val (.int cc), .val (.int (own_fv p4)), .val (.int (own_fv p5)), .val (.int ww), .val (.int kk), .val (.ref b3), .val (.int (1 : Int32))] [])) τ
        refine XS.aload X35.here hx rfl (hb hby at_176) rfl rfl ?_
        show Steps p.tables e below (T35.setTop (mkF m 178 #[.val (.int p1), .val (.int p2), .val (.int p3), .val (.int p4), .val (.int p5), .val (.int p6), .val (.int ca), .val (.int cb), .val (.int cc), .val (.int (own_fv p4)), .val (.int (own_fv p5)), .val (.int ww), .val (.int kk), .val (.ref b3), .val (.int (1 : Int32))] [(.ref b3)])) τ
        refine XS.iload X35.here hx rfl (hb hby at_178) rfl ?_
        show Steps p.tables e below (T35.setTop (mkF m 180 #[.val (.int p1), .val (.int p2), .val (.int p3), .val (.int p4), .val (.int p5), .val (.int p6), .val (.int ca), .val (.int cb), .val (.int cc), .val (.int (own_fv p4)), .val (.int (own_fv p5)), .val (.int ww), .val (.int kk), .val (.ref b3), .val (.int (1 : Int32))] [(.int cc), (.ref b3)])) τ
        exact κ)
      obtain ⟨cq37, kq37, q37a, q37b, q37c⟩ := isOf hZ hs35 E_b3
      obtain ⟨_, _, ⟨T37, Lx37, kx37, nx37⟩, -, X37, ⟨Lc37, hQ37, l37, y37, z37⟩, st37⟩ := X35.virtualBack hx (y := (⟨"com/example/cairn/cairn/history/Marks", "get", "(I)I"⟩ : MethodName)) (z := (⟨"com/example/cairn/cairn/history/Marks", "get", "(I)I"⟩ : MethodName)) hown (mvT hZ (hw _ (List.mem_of_getElem? (i := 37) rfl))) (mvT hZ (hw _ (List.mem_of_getElem? (i := 38) rfl))) (notFace_of_selects (args := #[]) (mvT hZ (hw _ (List.mem_of_getElem? (i := 40) rfl)))) (mvT hZ (hw _ (List.mem_of_getElem? (i := 40) rfl))) (mvT hZ (hw _ (List.mem_of_getElem? (i := 39) rfl))) (by decide) (backOf (W := 0) (rm7 l Z a0 hw [] b3 cc fc_5 kd_5 (8 : Int32) (own_sf fz cc ww) T31.heap n0 Zn F_flags_31 V_f_31 bcc) hZ (hw _ (List.mem_of_getElem? (i := 41) rfl)) (hw _ (List.mem_of_getElem? (i := 7) rfl)) (by decide) (by decide)) q37a q37c (g := (mkF m 180 #[.val (.int p1), .val (.int p2), .val (.int p3), .val (.int p4), .val (.int p5), .val (.int p6), .val (.int ca), .val (.int cb), .val (.int cc), .val (.int (own_fv p4)), .val (.int (own_fv p5)), .val (.int ww), .val (.int kk), .val (.ref b3), .val (.int (1 : Int32))] [(.int cc), (.ref b3)])) rfl (by rw [hml]; rfl) (Steps.refl _) (argsL := [(.int cc)]) (rest := []) (lenOf pd_0 rfl) rfl (by show 2 * 0 + _ ≤ _; exact Nat.le_of_eq rfl) (hb hby at_180) (fun _ _ => ⟨rfl, hs35, (by decide : 4 + 0 ≤ _), (by decide : 75 + 0 ≤ _)⟩)
      dsimp only [Pt.U, Pt.locs, Pt.cells, Pt.slots] at X37 l37 y37 z37 st37 hQ37
      subst l37 y37 z37
      obtain ⟨rfl, Nq37, hs37⟩ := hQ37
      have NN := Fr.app NN Nq37
      have pre : ∀ τ, Steps p.tables e below (T37.setTop (mkF m 183 #[.val (.int p1), .val (.int p2), .val (.int p3), .val (.int p4), .val (.int p5), .val (.int p6), .val (.int ca), .val (.int cb), .val (.int cc), .val (.int (own_fv p4)), .val (.int (own_fv p5)), .val (.int ww), .val (.int kk), .val (.ref b3), .val (.int (1 : Int32))] [(.int (own_at (own_sf fz cc ww) cc &&& (255 : Int32)))])) τ → G τ := fun τ κ => pre τ (st37.trans κ)
      have pre : ∀ τ, Steps p.tables e below (T37.setTop (mkF m 185 #[.val (.int p1), .val (.int p2), .val (.int p3), .val (.int p4), .val (.int p5), .val (.int p6), .val (.int ca), .val (.int cb), .val (.int cc), .val (.int (own_fv p4)), .val (.int (own_fv p5)), .val (.int ww), .val (.int kk), .val (.ref b3), .val (.int (1 : Int32))] [(.int ww), (.int (own_at (own_sf fz cc ww) cc &&& (255 : Int32)))])) τ → G τ := fun τ κ => pre τ (by
        refine XS.iload X37.here hx rfl (hb hby at_183) rfl ?_
        show Steps p.tables e below (T37.setTop (mkF m 185 #[.val (.int p1), .val (.int p2), .val (.int p3), .val (.int p4), .val (.int p5), .val (.int p6), .val (.int ca), .val (.int cb), .val (.int cc), .val (.int (own_fv p4)), .val (.int (own_fv p5)), .val (.int ww), .val (.int kk), .val (.ref b3), .val (.int (1 : Int32))] [(.int ww), (.int (own_at (own_sf fz cc ww) cc &&& (255 : Int32)))])) τ
        exact κ)
      have hc38 : (own_at (own_sf fz cc ww) cc &&& (255 : Int32)) = ww := own_gv bcc Cz.1 bww
      have pre : ∀ τ, Steps p.tables e below (T37.setTop (mkF m 193 #[.val (.int p1), .val (.int p2), .val (.int p3), .val (.int p4), .val (.int p5), .val (.int p6), .val (.int ca), .val (.int cb), .val (.int cc), .val (.int (own_fv p4)), .val (.int (own_fv p5)), .val (.int ww), .val (.int kk), .val (.ref b3), .val (.int (1 : Int32))] [(.int (1 : Int32))])) τ → G τ := fun τ κ => pre τ (by
        refine XS.icmpNo X37.here hx rfl (hb hby at_185) rfl (teq hc38).2 ?_
        show Steps p.tables e below (T37.setTop (mkF m 188 #[.val (.int p1), .val (.int p2), .val (.int p3), .val (.int p4), .val (.int p5), .val (.int p6), .val (.int ca), .val (.int cb), .val (.int cc), .val (.int (own_fv p4)), .val (.int (own_fv p5)), .val (.int ww), .val (.int kk), .val (.ref b3), .val (.int (1 : Int32))] [])) τ
        refine XS.iconst X37.here hx rfl (hb hby at_188) ?_
        show Steps p.tables e below (T37.setTop (mkF m 189 #[.val (.int p1), .val (.int p2), .val (.int p3), .val (.int p4), .val (.int p5), .val (.int p6), .val (.int ca), .val (.int cb), .val (.int cc), .val (.int (own_fv p4)), .val (.int (own_fv p5)), .val (.int ww), .val (.int kk), .val (.ref b3), .val (.int (1 : Int32))] [(.int (1 : Int32))])) τ
        refine XS.goto X37.here hx rfl (pc0 := 189) (pc' := 193) rfl (hb hby at_189) (by decide) (by decide) ?_
        show Steps p.tables e below (T37.setTop (mkF m 193 #[.val (.int p1), .val (.int p2), .val (.int p3), .val (.int p4), .val (.int p5), .val (.int p6), .val (.int ca), .val (.int cb), .val (.int cc), .val (.int (own_fv p4)), .val (.int (own_fv p5)), .val (.int ww), .val (.int kk), .val (.ref b3), .val (.int (1 : Int32))] [(.int (1 : Int32))])) τ
        exact κ)
      obtain ⟨fsα, hr, hrun, hended, hW, hsame⟩ := X37.leave (v := some (.int (1 : Int32))) (fun h => by rw [Bd.returns] at h; cases h)
      refine hGL ⟨_, _, hG _ (pre _ ?_), hrun, hended, _, _, rfl, ?_, ⟨_, rfl⟩, hW, hsame.mono (by decide) (by decide)⟩
      · exact retN X37 hx (t := .boolean) Bd.returns (by simp) (hb hby at_193) hr
      · show Q0 Z p1 p2 p3 p4 p5 p6 h0 n0 _ T37.heap _
        rw [hs37]
        exact ⟨rfl, NN⟩
    ·
      have pre : ∀ τ, Steps p.tables e below (T22.setTop (mkF m 92 #[.val (.int p1), .val (.int p2), .val (.int p3), .val (.int p4), .val (.int p5), .val (.int p6), .val (.int ca), .val (.int cb), .val (.int cc), .val (.int (own_fv p4)), .val (.int (own_fv p5)), .val (.int ww), .val (.int kk), .val (.ref b3), .unset] [(.int (own_fv p5)), (.int cb), (.ref b3)])) τ → G τ := fun τ κ => pre τ (by
        refine XS.icmpNo X22.here hx rfl (hb hby at_83) rfl (flt hc83_24).1 ?_
        show Steps p.tables e below (T22.setTop (mkF m 86 #[.val (.int p1), .val (.int p2), .val (.int p3), .val (.int p4), .val (.int p5), .val (.int p6), .val (.int ca), .val (.int cb), .val (.int cc), .val (.int (own_fv p4)), .val (.int (own_fv p5)), .val (.int ww), .val (.int kk), .val (.ref b3), .unset] [])) τ
        refine XS.aload X22.here hx rfl (hb hby at_86) rfl rfl ?_
        show Steps p.tables e below (T22.setTop (mkF m 88 #[.val (.int p1), .val (.int p2), .val (.int p3), .val (.int p4), .val (.int p5), .val (.int p6), .val (.int ca), .val (.int cb), .val (.int cc), .val (.int (own_fv p4)), .val (.int (own_fv p5)), .val (.int ww), .val (.int kk), .val (.ref b3), .unset] [(.ref b3)])) τ
        refine XS.iload X22.here hx rfl (hb hby at_88) rfl ?_
        show Steps p.tables e below (T22.setTop (mkF m 90 #[.val (.int p1), .val (.int p2), .val (.int p3), .val (.int p4), .val (.int p5), .val (.int p6), .val (.int ca), .val (.int cb), .val (.int cc), .val (.int (own_fv p4)), .val (.int (own_fv p5)), .val (.int ww), .val (.int kk), .val (.ref b3), .unset] [(.int cb), (.ref b3)])) τ
        refine XS.iload X22.here hx rfl (hb hby at_90) rfl ?_
        show Steps p.tables e below (T22.setTop (mkF m 92 #[.val (.int p1), .val (.int p2), .val (.int p3), .val (.int p4), .val (.int p5), .val (.int p6), .val (.int ca), .val (.int cb), .val (.int cc), .val (.int (own_fv p4)), .val (.int (own_fv p5)), .val (.int ww), .val (.int kk), .val (.ref b3), .unset] [(.int (own_fv p5)), (.int cb), (.ref b3)])) τ
        exact κ)
      obtain ⟨cq39, kq39, q39a, q39b, q39c⟩ := isOf hZ rfl E_b3
      obtain ⟨_, _, ⟨T39, Lx39, kx39, nx39⟩, -, X39, ⟨Lc39, hQ39, l39, y39, z39⟩, st39⟩ := X22.virtualBack hx (y := (⟨"com/example/cairn/cairn/history/Marks", "set", "(II)V"⟩ : MethodName)) (z := (⟨"com/example/cairn/cairn/history/Marks", "set", "(II)V"⟩ : MethodName)) hown (mvT hZ (hw _ (List.mem_of_getElem? (i := 25) rfl))) (mvT hZ (hw _ (List.mem_of_getElem? (i := 26) rfl))) (notFace_of_selects (args := #[]) (mvT hZ (hw _ (List.mem_of_getElem? (i := 28) rfl)))) (mvT hZ (hw _ (List.mem_of_getElem? (i := 28) rfl))) (mvT hZ (hw _ (List.mem_of_getElem? (i := 27) rfl))) (by decide) (backOf (W := 0) (rm5 l Z a0 hw [] b3 cb (own_fv p5) fc_5 mb_4 kd_5 km_4 (8 : Int32) cl23 fl23 ml23 T22.heap n0 Zn g_b3 gn_mb_4 gn_fc_5 E_b3 F_flags_22 F_marked_22 F_count_22 V_f_22 V_m_22 ne_b3_mb_4 ne_o__fc_5 ne_mb__fc_5 bcb (own_icn Iv (by decide)) Iv.2.1 Iv.1) hZ (hw _ (List.mem_of_getElem? (i := 29) rfl)) (hw _ (List.mem_of_getElem? (i := 7) rfl)) (by decide) (by decide)) q39a q39c (g := (mkF m 92 #[.val (.int p1), .val (.int p2), .val (.int p3), .val (.int p4), .val (.int p5), .val (.int p6), .val (.int ca), .val (.int cb), .val (.int cc), .val (.int (own_fv p4)), .val (.int (own_fv p5)), .val (.int ww), .val (.int kk), .val (.ref b3), .unset] [(.int (own_fv p5)), (.int cb), (.ref b3)])) rfl (by rw [hml]; rfl) (Steps.refl _) (argsL := [(.int cb), (.int (own_fv p5))]) (rest := []) (lenOf pd_3 rfl) rfl (by show 2 * 0 + _ ≤ _; exact Nat.le_of_eq rfl) (hb hby at_92) (fun _ _ => ⟨rfl, rfl, (by decide : 4 + 0 ≤ _), (by decide : 75 + 0 ≤ _)⟩)
      dsimp only [Pt.U, Pt.locs, Pt.cells, Pt.slots] at X39 l39 y39 z39 st39 hQ39
      subst l39 y39 z39
      obtain ⟨rfl, Nq39, Kc39, E_o_39, F_flags_39, F_marked_39, F_count_39, V_f_39, V_m_39⟩ := hQ39
      have NN := Fr.app NN Nq39
      have E_b3 : Exa Z T39.heap b3 "com/example/cairn/cairn/history/Marks" := E_b3.keep Kc39
      have E_o_4 : Exa Z T39.heap b3 "com/example/cairn/cairn/history/Marks" := E_o_4.keep Kc39
      have E_o_5 : Exa Z T39.heap b3 "com/example/cairn/cairn/history/Marks" := E_o_5.keep Kc39
      have E_o_22 : Exa Z T39.heap b3 "com/example/cairn/cairn/history/Marks" := E_o_22.keep Kc39
      have Zn : n0 ≤ T39.heap.size := Nat.le_trans Zn Kc39.1
      have pre : ∀ τ, Steps p.tables e below (T39.setTop (mkF m 95 #[.val (.int p1), .val (.int p2), .val (.int p3), .val (.int p4), .val (.int p5), .val (.int p6), .val (.int ca), .val (.int cb), .val (.int cc), .val (.int (own_fv p4)), .val (.int (own_fv p5)), .val (.int ww), .val (.int kk), .val (.ref b3), .unset] [])) τ → G τ := fun τ κ => pre τ (st39.trans κ)
      have Iv := own_invset bcb Iv (by decide) (v := (own_fv p5))
      obtain ⟨fl40, hfl40⟩ : ∃ q : List Value, q = (own_sf fl23 cb (own_fv p5)) := ⟨_, rfl⟩
      obtain ⟨ml40, hml40⟩ : ∃ q : List Value, q = (own_sm fl23 ml23 cb cl23) := ⟨_, rfl⟩
      obtain ⟨cl40, hcl40⟩ : ∃ q : Int32, q = (own_sc fl23 cb cl23) := ⟨_, rfl⟩
      have Iv : own_inv fl40 ml40 cl40 2 := by rw [hfl40, hml40, hcl40]; exact Iv
      rw [← hfl40] at V_f_39
      rw [← hml40] at V_m_39
      rw [← hcl40] at F_count_39
      have pre : ∀ τ, Steps p.tables e below (T39.setTop (mkF m 98 #[.val (.int p1), .val (.int p2), .val (.int p3), .val (.int p4), .val (.int p5), .val (.int p6), .val (.int ca), .val (.int cb), .val (.int cc), .val (.int (own_fv p4)), .val (.int (own_fv p5)), .val (.int ww), .val (.int kk), .val (.ref b3), .unset] [(.int (3 : Int32)), (.int kk)])) τ → G τ := fun τ κ => pre τ (by
        refine XS.iload X39.here hx rfl (hb hby at_95) rfl ?_
        show Steps p.tables e below (T39.setTop (mkF m 97 #[.val (.int p1), .val (.int p2), .val (.int p3), .val (.int p4), .val (.int p5), .val (.int p6), .val (.int ca), .val (.int cb), .val (.int cc), .val (.int (own_fv p4)), .val (.int (own_fv p5)), .val (.int ww), .val (.int kk), .val (.ref b3), .unset] [(.int kk)])) τ
        refine XS.iconst X39.here hx rfl (hb hby at_97) ?_
        show Steps p.tables e below (T39.setTop (mkF m 98 #[.val (.int p1), .val (.int p2), .val (.int p3), .val (.int p4), .val (.int p5), .val (.int p6), .val (.int ca), .val (.int cb), .val (.int cc), .val (.int (own_fv p4)), .val (.int (own_fv p5)), .val (.int ww), .val (.int kk), .val (.ref b3), .unset] [(.int (3 : Int32)), (.int kk)])) τ
        exact κ)
      rcases Classical.em (kk < (3 : Int32)) with hc98_41 | hc98_41
      ·
        have pre : ∀ τ, Steps p.tables e below (T39.setTop (mkF m 112 #[.val (.int p1), .val (.int p2), .val (.int p3), .val (.int p4), .val (.int p5), .val (.int p6), .val (.int ca), .val (.int cb), .val (.int cc), .val (.int (own_fv p4)), .val (.int (own_fv p5)), .val (.int ww), .val (.int kk), .val (.ref b3), .unset] [(.ref b3)])) τ → G τ := fun τ κ => pre τ (by
          refine XS.icmpYes X39.here hx rfl (pc0 := 98) (pc' := 110) rfl (hb hby at_98) rfl (tlt hc98_41).1 (by decide) (by decide) ?_
          show Steps p.tables e below (T39.setTop (mkF m 110 #[.val (.int p1), .val (.int p2), .val (.int p3), .val (.int p4), .val (.int p5), .val (.int p6), .val (.int ca), .val (.int cb), .val (.int cc), .val (.int (own_fv p4)), .val (.int (own_fv p5)), .val (.int ww), .val (.int kk), .val (.ref b3), .unset] [])) τ
          refine XS.aload X39.here hx rfl (hb hby at_110) rfl rfl ?_
          show Steps p.tables e below (T39.setTop (mkF m 112 #[.val (.int p1), .val (.int p2), .val (.int p3), .val (.int p4), .val (.int p5), .val (.int p6), .val (.int ca), .val (.int cb), .val (.int cc), .val (.int (own_fv p4)), .val (.int (own_fv p5)), .val (.int ww), .val (.int kk), .val (.ref b3), .unset] [(.ref b3)])) τ
          exact κ)
        obtain ⟨cq42, kq42, q42a, q42b, q42c⟩ := isOf hZ rfl E_b3
        obtain ⟨_, _, ⟨T42, Lx42, kx42, nx42⟩, -, X42, ⟨Lc42, hQ42, l42, y42, z42⟩, st42⟩ := X39.virtualBack hx (y := (⟨"com/example/cairn/cairn/history/Marks", "clear", "()V"⟩ : MethodName)) (z := (⟨"com/example/cairn/cairn/history/Marks", "clear", "()V"⟩ : MethodName)) hown (mvT hZ (hw _ (List.mem_of_getElem? (i := 32) rfl))) (mvT hZ (hw _ (List.mem_of_getElem? (i := 33) rfl))) (notFace_of_selects (args := #[]) (mvT hZ (hw _ (List.mem_of_getElem? (i := 35) rfl)))) (mvT hZ (hw _ (List.mem_of_getElem? (i := 35) rfl))) (mvT hZ (hw _ (List.mem_of_getElem? (i := 34) rfl))) (by decide) (backOf (W := 0) (rm6 l Z a0 hw [] b3 fc_5 mb_4 kd_5 km_4 (8 : Int32) cl40 fl40 ml40 T39.heap n0 Zn g_b3 gn_mb_4 gn_fc_5 E_b3 F_flags_39 F_marked_39 F_count_39 V_f_39 V_m_39 ne_b3_mb_4 ne_o__fc_5 ne_mb__fc_5 (own_icn Iv (by decide)) Iv.2.1 Iv.1 Iv.2.2.2.2.1) hZ (hw _ (List.mem_of_getElem? (i := 36) rfl)) (hw _ (List.mem_of_getElem? (i := 7) rfl)) (by decide) (by decide)) q42a q42c (g := (mkF m 112 #[.val (.int p1), .val (.int p2), .val (.int p3), .val (.int p4), .val (.int p5), .val (.int p6), .val (.int ca), .val (.int cb), .val (.int cc), .val (.int (own_fv p4)), .val (.int (own_fv p5)), .val (.int ww), .val (.int kk), .val (.ref b3), .unset] [(.ref b3)])) rfl (by rw [hml]; rfl) (Steps.refl _) (argsL := []) (rest := []) (lenOf pd_1 rfl) rfl (by show 2 * 0 + _ ≤ _; exact Nat.le_of_eq rfl) (hb hby at_112) (fun _ _ => ⟨rfl, rfl, (by decide : 4 + 0 ≤ _), (by decide : 75 + 0 ≤ _)⟩)
        dsimp only [Pt.U, Pt.locs, Pt.cells, Pt.slots] at X42 l42 y42 z42 st42 hQ42
        subst l42 y42 z42
        obtain ⟨rfl, Nq42, Kc42, E_o_42, F_flags_42, F_marked_42, F_count_42, V_f_42, V_m_42⟩ := hQ42
        have NN := Fr.app NN Nq42
        have E_b3 : Exa Z T42.heap b3 "com/example/cairn/cairn/history/Marks" := E_b3.keep Kc42
        have E_o_4 : Exa Z T42.heap b3 "com/example/cairn/cairn/history/Marks" := E_o_4.keep Kc42
        have E_o_5 : Exa Z T42.heap b3 "com/example/cairn/cairn/history/Marks" := E_o_5.keep Kc42
        have E_o_22 : Exa Z T42.heap b3 "com/example/cairn/cairn/history/Marks" := E_o_22.keep Kc42
        have E_o_39 : Exa Z T42.heap b3 "com/example/cairn/cairn/history/Marks" := E_o_39.keep Kc42
        have Zn : n0 ≤ T42.heap.size := Nat.le_trans Zn Kc42.1
        have pre : ∀ τ, Steps p.tables e below (T42.setTop (mkF m 115 #[.val (.int p1), .val (.int p2), .val (.int p3), .val (.int p4), .val (.int p5), .val (.int p6), .val (.int ca), .val (.int cb), .val (.int cc), .val (.int (own_fv p4)), .val (.int (own_fv p5)), .val (.int ww), .val (.int kk), .val (.ref b3), .unset] [])) τ → G τ := fun τ κ => pre τ (st42.trans κ)
        obtain ⟨fz, hfz⟩ : ∃ q : List Value, q = (own_cl ml40 cl40.toInt.toNat (0 : Int32) fl40) := ⟨_, rfl⟩
        have Cz : fz.length = 8 ∧ ∀ j : Int32, ¬ j < 0 ∧ j < (8 : Int32) → own_at fz j = 0 := by rw [hfz]; exact own_invclr Iv (by decide)
        rw [← hfz] at V_f_42
        have pre : ∀ τ, Steps p.tables e below (T42.setTop (mkF m 119 #[.val (.int p1), .val (.int p2), .val (.int p3), .val (.int p4), .val (.int p5), .val (.int p6), .val (.int ca), .val (.int cb), .val (.int cc), .val (.int (own_fv p4)), .val (.int (own_fv p5)), .val (.int ww), .val (.int kk), .val (.ref b3), .unset] [(.int ca), (.ref b3)])) τ → G τ := fun τ κ => pre τ (by
          refine XS.aload X42.here hx rfl (hb hby at_115) rfl rfl ?_
          show Steps p.tables e below (T42.setTop (mkF m 117 #[.val (.int p1), .val (.int p2), .val (.int p3), .val (.int p4), .val (.int p5), .val (.int p6), .val (.int ca), .val (.int cb), .val (.int cc), .val (.int (own_fv p4)), .val (.int (own_fv p5)), .val (.int ww), .val (.int kk), .val (.ref b3), .unset] [(.ref b3)])) τ
          refine XS.iload X42.here hx rfl (hb hby at_117) rfl ?_
          show Steps p.tables e below (T42.setTop (mkF m 119 #[.val (.int p1), .val (.int p2), .val (.int p3), .val (.int p4), .val (.int p5), .val (.int p6), .val (.int ca), .val (.int cb), .val (.int cc), .val (.int (own_fv p4)), .val (.int (own_fv p5)), .val (.int ww), .val (.int kk), .val (.ref b3), .unset] [(.int ca), (.ref b3)])) τ
          exact κ)
        obtain ⟨cq43, kq43, q43a, q43b, q43c⟩ := isOf hZ rfl E_b3
        obtain ⟨_, _, ⟨T43, Lx43, kx43, nx43⟩, -, X43, ⟨Lc43, hQ43, l43, y43, z43⟩, st43⟩ := X42.virtualBack hx (y := (⟨"com/example/cairn/cairn/history/Marks", "get", "(I)I"⟩ : MethodName)) (z := (⟨"com/example/cairn/cairn/history/Marks", "get", "(I)I"⟩ : MethodName)) hown (mvT hZ (hw _ (List.mem_of_getElem? (i := 37) rfl))) (mvT hZ (hw _ (List.mem_of_getElem? (i := 38) rfl))) (notFace_of_selects (args := #[]) (mvT hZ (hw _ (List.mem_of_getElem? (i := 40) rfl)))) (mvT hZ (hw _ (List.mem_of_getElem? (i := 40) rfl))) (mvT hZ (hw _ (List.mem_of_getElem? (i := 39) rfl))) (by decide) (backOf (W := 0) (rm7 l Z a0 hw [] b3 ca fc_5 kd_5 (8 : Int32) fz T42.heap n0 Zn F_flags_42 V_f_42 bca) hZ (hw _ (List.mem_of_getElem? (i := 41) rfl)) (hw _ (List.mem_of_getElem? (i := 7) rfl)) (by decide) (by decide)) q43a q43c (g := (mkF m 119 #[.val (.int p1), .val (.int p2), .val (.int p3), .val (.int p4), .val (.int p5), .val (.int p6), .val (.int ca), .val (.int cb), .val (.int cc), .val (.int (own_fv p4)), .val (.int (own_fv p5)), .val (.int ww), .val (.int kk), .val (.ref b3), .unset] [(.int ca), (.ref b3)])) rfl (by rw [hml]; rfl) (Steps.refl _) (argsL := [(.int ca)]) (rest := []) (lenOf pd_0 rfl) rfl (by show 2 * 0 + _ ≤ _; exact Nat.le_of_eq rfl) (hb hby at_119) (fun _ _ => ⟨rfl, rfl, (by decide : 4 + 0 ≤ _), (by decide : 75 + 0 ≤ _)⟩)
        dsimp only [Pt.U, Pt.locs, Pt.cells, Pt.slots] at X43 l43 y43 z43 st43 hQ43
        subst l43 y43 z43
        obtain ⟨rfl, Nq43, hs43⟩ := hQ43
        have NN := Fr.app NN Nq43
        have pre : ∀ τ, Steps p.tables e below (T43.setTop (mkF m 122 #[.val (.int p1), .val (.int p2), .val (.int p3), .val (.int p4), .val (.int p5), .val (.int p6), .val (.int ca), .val (.int cb), .val (.int cc), .val (.int (own_fv p4)), .val (.int (own_fv p5)), .val (.int ww), .val (.int kk), .val (.ref b3), .unset] [(.int (own_at fz ca &&& (255 : Int32)))])) τ → G τ := fun τ κ => pre τ (st43.trans κ)
        have hc44 : (own_at fz ca &&& (255 : Int32)) = (0 : Int32) := own_g0 (Cz.2 _ bca)
        have pre : ∀ τ, Steps p.tables e below (T43.setTop (mkF m 129 #[.val (.int p1), .val (.int p2), .val (.int p3), .val (.int p4), .val (.int p5), .val (.int p6), .val (.int ca), .val (.int cb), .val (.int cc), .val (.int (own_fv p4)), .val (.int (own_fv p5)), .val (.int ww), .val (.int kk), .val (.ref b3), .unset] [(.int cb), (.ref b3)])) τ → G τ := fun τ κ => pre τ (by
          refine XS.ifNo X43.here hx rfl (hb hby at_122) rfl ((if0 _ _).trans (teq hc44).2) ?_
          show Steps p.tables e below (T43.setTop (mkF m 125 #[.val (.int p1), .val (.int p2), .val (.int p3), .val (.int p4), .val (.int p5), .val (.int p6), .val (.int ca), .val (.int cb), .val (.int cc), .val (.int (own_fv p4)), .val (.int (own_fv p5)), .val (.int ww), .val (.int kk), .val (.ref b3), .unset] [])) τ
          refine XS.aload X43.here hx rfl (hb hby at_125) rfl rfl ?_
          show Steps p.tables e below (T43.setTop (mkF m 127 #[.val (.int p1), .val (.int p2), .val (.int p3), .val (.int p4), .val (.int p5), .val (.int p6), .val (.int ca), .val (.int cb), .val (.int cc), .val (.int (own_fv p4)), .val (.int (own_fv p5)), .val (.int ww), .val (.int kk), .val (.ref b3), .unset] [(.ref b3)])) τ
          refine XS.iload X43.here hx rfl (hb hby at_127) rfl ?_
          show Steps p.tables e below (T43.setTop (mkF m 129 #[.val (.int p1), .val (.int p2), .val (.int p3), .val (.int p4), .val (.int p5), .val (.int p6), .val (.int ca), .val (.int cb), .val (.int cc), .val (.int (own_fv p4)), .val (.int (own_fv p5)), .val (.int ww), .val (.int kk), .val (.ref b3), .unset] [(.int cb), (.ref b3)])) τ
          exact κ)
        obtain ⟨cq45, kq45, q45a, q45b, q45c⟩ := isOf hZ hs43 E_b3
        obtain ⟨_, _, ⟨T45, Lx45, kx45, nx45⟩, -, X45, ⟨Lc45, hQ45, l45, y45, z45⟩, st45⟩ := X43.virtualBack hx (y := (⟨"com/example/cairn/cairn/history/Marks", "get", "(I)I"⟩ : MethodName)) (z := (⟨"com/example/cairn/cairn/history/Marks", "get", "(I)I"⟩ : MethodName)) hown (mvT hZ (hw _ (List.mem_of_getElem? (i := 37) rfl))) (mvT hZ (hw _ (List.mem_of_getElem? (i := 38) rfl))) (notFace_of_selects (args := #[]) (mvT hZ (hw _ (List.mem_of_getElem? (i := 40) rfl)))) (mvT hZ (hw _ (List.mem_of_getElem? (i := 40) rfl))) (mvT hZ (hw _ (List.mem_of_getElem? (i := 39) rfl))) (by decide) (backOf (W := 0) (rm7 l Z a0 hw [] b3 cb fc_5 kd_5 (8 : Int32) fz T42.heap n0 Zn F_flags_42 V_f_42 bcb) hZ (hw _ (List.mem_of_getElem? (i := 41) rfl)) (hw _ (List.mem_of_getElem? (i := 7) rfl)) (by decide) (by decide)) q45a q45c (g := (mkF m 129 #[.val (.int p1), .val (.int p2), .val (.int p3), .val (.int p4), .val (.int p5), .val (.int p6), .val (.int ca), .val (.int cb), .val (.int cc), .val (.int (own_fv p4)), .val (.int (own_fv p5)), .val (.int ww), .val (.int kk), .val (.ref b3), .unset] [(.int cb), (.ref b3)])) rfl (by rw [hml]; rfl) (Steps.refl _) (argsL := [(.int cb)]) (rest := []) (lenOf pd_0 rfl) rfl (by show 2 * 0 + _ ≤ _; exact Nat.le_of_eq rfl) (hb hby at_129) (fun _ _ => ⟨rfl, hs43, (by decide : 4 + 0 ≤ _), (by decide : 75 + 0 ≤ _)⟩)
        dsimp only [Pt.U, Pt.locs, Pt.cells, Pt.slots] at X45 l45 y45 z45 st45 hQ45
        subst l45 y45 z45
        obtain ⟨rfl, Nq45, hs45⟩ := hQ45
        have NN := Fr.app NN Nq45
        have pre : ∀ τ, Steps p.tables e below (T45.setTop (mkF m 132 #[.val (.int p1), .val (.int p2), .val (.int p3), .val (.int p4), .val (.int p5), .val (.int p6), .val (.int ca), .val (.int cb), .val (.int cc), .val (.int (own_fv p4)), .val (.int (own_fv p5)), .val (.int ww), .val (.int kk), .val (.ref b3), .unset] [(.int (own_at fz cb &&& (255 : Int32)))])) τ → G τ := fun τ κ => pre τ (st45.trans κ)
        have hc46 : (own_at fz cb &&& (255 : Int32)) = (0 : Int32) := own_g0 (Cz.2 _ bcb)
        have pre : ∀ τ, Steps p.tables e below (T45.setTop (mkF m 148 #[.val (.int p1), .val (.int p2), .val (.int p3), .val (.int p4), .val (.int p5), .val (.int p6), .val (.int ca), .val (.int cb), .val (.int cc), .val (.int (own_fv p4)), .val (.int (own_fv p5)), .val (.int ww), .val (.int kk), .val (.ref b3), .val (.int (1 : Int32))] [(.int ww), (.int cc), (.ref b3)])) τ → G τ := fun τ κ => pre τ (by
          refine XS.ifNo X45.here hx rfl (hb hby at_132) rfl ((if0 _ _).trans (teq hc46).2) ?_
          show Steps p.tables e below (T45.setTop (mkF m 135 #[.val (.int p1), .val (.int p2), .val (.int p3), .val (.int p4), .val (.int p5), .val (.int p6), .val (.int ca), .val (.int cb), .val (.int cc), .val (.int (own_fv p4)), .val (.int (own_fv p5)), .val (.int ww), .val (.int kk), .val (.ref b3), .unset] [])) τ
          refine XS.iconst X45.here hx rfl (hb hby at_135) ?_
          show Steps p.tables e below (T45.setTop (mkF m 136 #[.val (.int p1), .val (.int p2), .val (.int p3), .val (.int p4), .val (.int p5), .val (.int p6), .val (.int ca), .val (.int cb), .val (.int cc), .val (.int (own_fv p4)), .val (.int (own_fv p5)), .val (.int ww), .val (.int kk), .val (.ref b3), .unset] [(.int (1 : Int32))])) τ
          refine XS.goto X45.here hx rfl (pc0 := 136) (pc' := 140) rfl (hb hby at_136) (by decide) (by decide) ?_
          show Steps p.tables e below (T45.setTop (mkF m 140 #[.val (.int p1), .val (.int p2), .val (.int p3), .val (.int p4), .val (.int p5), .val (.int p6), .val (.int ca), .val (.int cb), .val (.int cc), .val (.int (own_fv p4)), .val (.int (own_fv p5)), .val (.int ww), .val (.int kk), .val (.ref b3), .unset] [(.int (1 : Int32))])) τ
          refine XS.istore X45.here hx rfl (hb hby at_140) rfl (l' := #[.val (.int p1), .val (.int p2), .val (.int p3), .val (.int p4), .val (.int p5), .val (.int p6), .val (.int ca), .val (.int cb), .val (.int cc), .val (.int (own_fv p4)), .val (.int (own_fv p5)), .val (.int ww), .val (.int kk), .val (.ref b3), .val (.int (1 : Int32))]) rfl ?_
          show Steps p.tables e below (T45.setTop (mkF m 142 #[.val (.int p1), .val (.int p2), .val (.int p3), .val (.int p4), .val (.int p5), .val (.int p6), .val (.int ca), .val (.int cb), .val (.int cc), .val (.int (own_fv p4)), .val (.int (own_fv p5)), .val (.int ww), .val (.int kk), .val (.ref b3), .val (.int (1 : Int32))] [])) τ
          refine XS.aload X45.here hx rfl (hb hby at_142) rfl rfl ?_
          show Steps p.tables e below (T45.setTop (mkF m 144 #[.val (.int p1), .val (.int p2), .val (.int p3), .val (.int p4), .val (.int p5), .val (.int p6), .val (.int ca), .val (.int cb), .val (.int cc), .val (.int (own_fv p4)), .val (.int (own_fv p5)), .val (.int ww), .val (.int kk), .val (.ref b3), .val (.int (1 : Int32))] [(.ref b3)])) τ
          refine XS.iload X45.here hx rfl (hb hby at_144) rfl ?_
          show Steps p.tables e below (T45.setTop (mkF m 146 #[.val (.int p1), .val (.int p2), .val (.int p3), .val (.int p4), .val (.int p5), .val (.int p6), .val (.int ca), .val (.int cb), .val (.int cc), .val (.int (own_fv p4)), .val (.int (own_fv p5)), .val (.int ww), .val (.int kk), .val (.ref b3), .val (.int (1 : Int32))] [(.int cc), (.ref b3)])) τ
          refine XS.iload X45.here hx rfl (hb hby at_146) rfl ?_
          show Steps p.tables e below (T45.setTop (mkF m 148 #[.val (.int p1), .val (.int p2), .val (.int p3), .val (.int p4), .val (.int p5), .val (.int p6), .val (.int ca), .val (.int cb), .val (.int cc), .val (.int (own_fv p4)), .val (.int (own_fv p5)), .val (.int ww), .val (.int kk), .val (.ref b3), .val (.int (1 : Int32))] [(.int ww), (.int cc), (.ref b3)])) τ
          exact κ)
        obtain ⟨cq47, kq47, q47a, q47b, q47c⟩ := isOf hZ hs45 E_b3
        obtain ⟨_, _, ⟨T47, Lx47, kx47, nx47⟩, -, X47, ⟨Lc47, hQ47, l47, y47, z47⟩, st47⟩ := X45.virtualBack hx (y := (⟨"com/example/cairn/cairn/history/Marks", "set", "(II)V"⟩ : MethodName)) (z := (⟨"com/example/cairn/cairn/history/Marks", "set", "(II)V"⟩ : MethodName)) hown (mvT hZ (hw _ (List.mem_of_getElem? (i := 25) rfl))) (mvT hZ (hw _ (List.mem_of_getElem? (i := 26) rfl))) (notFace_of_selects (args := #[]) (mvT hZ (hw _ (List.mem_of_getElem? (i := 28) rfl)))) (mvT hZ (hw _ (List.mem_of_getElem? (i := 28) rfl))) (mvT hZ (hw _ (List.mem_of_getElem? (i := 27) rfl))) (by decide) (backOf (W := 0) (rm5 l Z a0 hw [] b3 cc ww fc_5 mb_4 kd_5 km_4 (8 : Int32) (0 : Int32) fz ml40 T42.heap n0 Zn g_b3 gn_mb_4 gn_fc_5 E_b3 F_flags_42 F_marked_42 F_count_42 V_f_42 V_m_42 ne_b3_mb_4 ne_o__fc_5 ne_mb__fc_5 bcc (by decide) Iv.2.1 Cz.1) hZ (hw _ (List.mem_of_getElem? (i := 29) rfl)) (hw _ (List.mem_of_getElem? (i := 7) rfl)) (by decide) (by decide)) q47a q47c (g := (mkF m 148 #[.val (.int p1), .val (.int p2), .val (.int p3), .val (.int p4), .val (.int p5), .val (.int p6), .val (.int ca), .val (.int cb), .val (.int cc), .val (.int (own_fv p4)), .val (.int (own_fv p5)), .val (.int ww), .val (.int kk), .val (.ref b3), .val (.int (1 : Int32))] [(.int ww), (.int cc), (.ref b3)])) rfl (by rw [hml]; rfl) (Steps.refl _) (argsL := [(.int cc), (.int ww)]) (rest := []) (lenOf pd_3 rfl) rfl (by show 2 * 0 + _ ≤ _; exact Nat.le_of_eq rfl) (hb hby at_148) (fun _ _ => ⟨rfl, hs45, (by decide : 4 + 0 ≤ _), (by decide : 75 + 0 ≤ _)⟩)
        dsimp only [Pt.U, Pt.locs, Pt.cells, Pt.slots] at X47 l47 y47 z47 st47 hQ47
        subst l47 y47 z47
        obtain ⟨rfl, Nq47, Kc47, E_o_47, F_flags_47, F_marked_47, F_count_47, V_f_47, V_m_47⟩ := hQ47
        have NN := Fr.app NN Nq47
        have E_b3 : Exa Z T47.heap b3 "com/example/cairn/cairn/history/Marks" := E_b3.keep Kc47
        have E_o_4 : Exa Z T47.heap b3 "com/example/cairn/cairn/history/Marks" := E_o_4.keep Kc47
        have E_o_5 : Exa Z T47.heap b3 "com/example/cairn/cairn/history/Marks" := E_o_5.keep Kc47
        have E_o_22 : Exa Z T47.heap b3 "com/example/cairn/cairn/history/Marks" := E_o_22.keep Kc47
        have E_o_39 : Exa Z T47.heap b3 "com/example/cairn/cairn/history/Marks" := E_o_39.keep Kc47
        have E_o_42 : Exa Z T47.heap b3 "com/example/cairn/cairn/history/Marks" := E_o_42.keep Kc47
        have Zn : n0 ≤ T47.heap.size := Nat.le_trans Zn Kc47.1
        have pre : ∀ τ, Steps p.tables e below (T47.setTop (mkF m 151 #[.val (.int p1), .val (.int p2), .val (.int p3), .val (.int p4), .val (.int p5), .val (.int p6), .val (.int ca), .val (.int cb), .val (.int cc), .val (.int (own_fv p4)), .val (.int (own_fv p5)), .val (.int ww), .val (.int kk), .val (.ref b3), .val (.int (1 : Int32))] [])) τ → G τ := fun τ κ => pre τ (st47.trans κ)
        have pre : ∀ τ, Steps p.tables e below (T47.setTop (mkF m 153 #[.val (.int p1), .val (.int p2), .val (.int p3), .val (.int p4), .val (.int p5), .val (.int p6), .val (.int ca), .val (.int cb), .val (.int cc), .val (.int (own_fv p4)), .val (.int (own_fv p5)), .val (.int ww), .val (.int kk), .val (.ref b3), .val (.int (1 : Int32))] [(.int (1 : Int32))])) τ → G τ := fun τ κ => pre τ (by
          refine XS.iload X47.here hx rfl (hb hby at_151) rfl ?_
          show Steps p.tables e below (T47.setTop (mkF m 153 #[.val (.int p1), .val (.int p2), .val (.int p3), .val (.int p4), .val (.int p5), .val (.int p6), .val (.int ca), .val (.int cb), .val (.int cc), .val (.int (own_fv p4)), .val (.int (own_fv p5)), .val (.int ww), .val (.int kk), .val (.ref b3), .val (.int (1 : Int32))] [(.int (1 : Int32))])) τ
          exact κ)
        have hc48 : ¬ ((1 : Int32) = (0 : Int32)) := (by decide)
        have pre : ∀ τ, Steps p.tables e below (T47.setTop (mkF m 158 #[.val (.int p1), .val (.int p2), .val (.int p3), .val (.int p4), .val (.int p5), .val (.int p6), .val (.int ca), .val (.int cb), .val (.int cc), .val (.int (own_fv p4)), .val (.int (own_fv p5)), .val (.int ww), .val (.int kk), .val (.ref b3), .val (.int (1 : Int32))] [(.ref b3)])) τ → G τ := fun τ κ => pre τ (by
          refine XS.ifNo X47.here hx rfl (hb hby at_153) rfl ((if0 _ _).trans (feq hc48).1) ?_
          show Steps p.tables e below (T47.setTop (mkF m 156 #[.val (.int p1), .val (.int p2), .val (.int p3), .val (.int p4), .val (.int p5), .val (.int p6), .val (.int ca), .val (.int cb), .val (.int cc), .val (.int (own_fv p4)), .val (.int (own_fv p5)), .val (.int ww), .val (.int kk), .val (.ref b3), .val (.int (1 : Int32))] [])) τ
          refine XS.aload X47.here hx rfl (hb hby at_156) rfl rfl ?_
          show Steps p.tables e below (T47.setTop (mkF m 158 #[.val (.int p1), .val (.int p2), .val (.int p3), .val (.int p4), .val (.int p5), .val (.int p6), .val (.int ca), .val (.int cb), .val (.int cc), .val (.int (own_fv p4)), .val (.int (own_fv p5)), .val (.int ww), .val (.int kk), .val (.ref b3), .val (.int (1 : Int32))] [(.ref b3)])) τ
          exact κ)
        obtain ⟨cq49, kq49, q49a, q49b, q49c⟩ := isOf hZ rfl E_b3
        obtain ⟨_, _, ⟨T49, Lx49, kx49, nx49⟩, -, X49, ⟨Lc49, hQ49, l49, y49, z49⟩, st49⟩ := X47.virtualBack hx (y := (⟨"com/example/cairn/cairn/history/Marks", "count", "()I"⟩ : MethodName)) (z := (⟨"com/example/cairn/cairn/history/Marks", "count", "()I"⟩ : MethodName)) hown (mvT hZ (hw _ (List.mem_of_getElem? (i := 42) rfl))) (mvT hZ (hw _ (List.mem_of_getElem? (i := 43) rfl))) (notFace_of_selects (args := #[]) (mvT hZ (hw _ (List.mem_of_getElem? (i := 45) rfl)))) (mvT hZ (hw _ (List.mem_of_getElem? (i := 45) rfl))) (mvT hZ (hw _ (List.mem_of_getElem? (i := 44) rfl))) (by decide) (backOf (W := 0) (rm8 l Z a0 hw [] b3 (own_sc fz cc (0 : Int32)) T47.heap n0 Zn F_count_47) hZ (hw _ (List.mem_of_getElem? (i := 46) rfl)) (hw _ (List.mem_of_getElem? (i := 7) rfl)) (by decide) (by decide)) q49a q49c (g := (mkF m 158 #[.val (.int p1), .val (.int p2), .val (.int p3), .val (.int p4), .val (.int p5), .val (.int p6), .val (.int ca), .val (.int cb), .val (.int cc), .val (.int (own_fv p4)), .val (.int (own_fv p5)), .val (.int ww), .val (.int kk), .val (.ref b3), .val (.int (1 : Int32))] [(.ref b3)])) rfl (by rw [hml]; rfl) (Steps.refl _) (argsL := []) (rest := []) (lenOf pd_4 rfl) rfl (by show 2 * 0 + _ ≤ _; exact Nat.le_of_eq rfl) (hb hby at_158) (fun _ _ => ⟨rfl, rfl, (by decide : 4 + 0 ≤ _), (by decide : 75 + 0 ≤ _)⟩)
        dsimp only [Pt.U, Pt.locs, Pt.cells, Pt.slots] at X49 l49 y49 z49 st49 hQ49
        subst l49 y49 z49
        obtain ⟨rfl, Nq49, hs49⟩ := hQ49
        have NN := Fr.app NN Nq49
        have pre : ∀ τ, Steps p.tables e below (T49.setTop (mkF m 161 #[.val (.int p1), .val (.int p2), .val (.int p3), .val (.int p4), .val (.int p5), .val (.int p6), .val (.int ca), .val (.int cb), .val (.int cc), .val (.int (own_fv p4)), .val (.int (own_fv p5)), .val (.int ww), .val (.int kk), .val (.ref b3), .val (.int (1 : Int32))] [(.int (own_sc fz cc (0 : Int32)))])) τ → G τ := fun τ κ => pre τ (st49.trans κ)
        have pre : ∀ τ, Steps p.tables e below (T49.setTop (mkF m 162 #[.val (.int p1), .val (.int p2), .val (.int p3), .val (.int p4), .val (.int p5), .val (.int p6), .val (.int ca), .val (.int cb), .val (.int cc), .val (.int (own_fv p4)), .val (.int (own_fv p5)), .val (.int ww), .val (.int kk), .val (.ref b3), .val (.int (1 : Int32))] [(.int (1 : Int32)), (.int (own_sc fz cc (0 : Int32)))])) τ → G τ := fun τ κ => pre τ (by
          refine XS.iconst X49.here hx rfl (hb hby at_161) ?_
          show Steps p.tables e below (T49.setTop (mkF m 162 #[.val (.int p1), .val (.int p2), .val (.int p3), .val (.int p4), .val (.int p5), .val (.int p6), .val (.int ca), .val (.int cb), .val (.int cc), .val (.int (own_fv p4)), .val (.int (own_fv p5)), .val (.int ww), .val (.int kk), .val (.ref b3), .val (.int (1 : Int32))] [(.int (1 : Int32)), (.int (own_sc fz cc (0 : Int32)))])) τ
          exact κ)
        have hc50 : (own_sc fz cc (0 : Int32)) = (1 : Int32) := own_c1 (Cz.2 _ bcc)
        have pre : ∀ τ, Steps p.tables e below (T49.setTop (mkF m 168 #[.val (.int p1), .val (.int p2), .val (.int p3), .val (.int p4), .val (.int p5), .val (.int p6), .val (.int ca), .val (.int cb), .val (.int cc), .val (.int (own_fv p4)), .val (.int (own_fv p5)), .val (.int ww), .val (.int kk), .val (.ref b3), .val (.int (1 : Int32))] [(.int (0 : Int32)), (.ref b3)])) τ → G τ := fun τ κ => pre τ (by
          refine XS.icmpNo X49.here hx rfl (hb hby at_162) rfl (teq hc50).2 ?_
          show Steps p.tables e below (T49.setTop (mkF m 165 #[.val (.int p1), .val (.int p2), .val (.int p3), .val (.int p4), .val (.int p5), .val (.int p6), .val (.int ca), .val (.int cb), .val (.int cc), .val (.int (own_fv p4)), .val (.int (own_fv p5)), .val (.int ww), .val (.int kk), .val (.ref b3), .val (.int (1 : Int32))] [])) τ
          refine XS.aload X49.here hx rfl (hb hby at_165) rfl rfl ?_
          show Steps p.tables e below (T49.setTop (mkF m 167 #[.val (.int p1), .val (.int p2), .val (.int p3), .val (.int p4), .val (.int p5), .val (.int p6), .val (.int ca), .val (.int cb), .val (.int cc), .val (.int (own_fv p4)), .val (.int (own_fv p5)), .val (.int ww), .val (.int kk), .val (.ref b3), .val (.int (1 : Int32))] [(.ref b3)])) τ
          refine XS.iconst X49.here hx rfl (hb hby at_167) ?_
          show Steps p.tables e below (T49.setTop (mkF m 168 #[.val (.int p1), .val (.int p2), .val (.int p3), .val (.int p4), .val (.int p5), .val (.int p6), .val (.int ca), .val (.int cb), .val (.int cc), .val (.int (own_fv p4)), .val (.int (own_fv p5)), .val (.int ww), .val (.int kk), .val (.ref b3), .val (.int (1 : Int32))] [(.int (0 : Int32)), (.ref b3)])) τ
          exact κ)
        obtain ⟨cq51, kq51, q51a, q51b, q51c⟩ := isOf hZ hs49 E_b3
        obtain ⟨_, _, ⟨T51, Lx51, kx51, nx51⟩, -, X51, ⟨Lc51, hQ51, l51, y51, z51⟩, st51⟩ := X49.virtualBack hx (y := (⟨"com/example/cairn/cairn/history/Marks", "commit", "(I)I"⟩ : MethodName)) (z := (⟨"com/example/cairn/cairn/history/Marks", "commit", "(I)I"⟩ : MethodName)) hown (mvT hZ (hw _ (List.mem_of_getElem? (i := 47) rfl))) (mvT hZ (hw _ (List.mem_of_getElem? (i := 48) rfl))) (notFace_of_selects (args := #[]) (mvT hZ (hw _ (List.mem_of_getElem? (i := 50) rfl)))) (mvT hZ (hw _ (List.mem_of_getElem? (i := 50) rfl))) (mvT hZ (hw _ (List.mem_of_getElem? (i := 49) rfl))) (by decide) (backOf (W := 0) (rm9 l Z a0 hw [] b3 (0 : Int32) mb_4 km_4 (own_sm fz ml40 cc (0 : Int32)) T47.heap n0 Zn F_marked_47 V_m_47 (by decide)) hZ (hw _ (List.mem_of_getElem? (i := 51) rfl)) (hw _ (List.mem_of_getElem? (i := 7) rfl)) (by decide) (by decide)) q51a q51c (g := (mkF m 168 #[.val (.int p1), .val (.int p2), .val (.int p3), .val (.int p4), .val (.int p5), .val (.int p6), .val (.int ca), .val (.int cb), .val (.int cc), .val (.int (own_fv p4)), .val (.int (own_fv p5)), .val (.int ww), .val (.int kk), .val (.ref b3), .val (.int (1 : Int32))] [(.int (0 : Int32)), (.ref b3)])) rfl (by rw [hml]; rfl) (Steps.refl _) (argsL := [(.int (0 : Int32))]) (rest := []) (lenOf pd_0 rfl) rfl (by show 2 * 0 + _ ≤ _; exact Nat.le_of_eq rfl) (hb hby at_168) (fun _ _ => ⟨rfl, hs49, (by decide : 4 + 0 ≤ _), (by decide : 75 + 0 ≤ _)⟩)
        dsimp only [Pt.U, Pt.locs, Pt.cells, Pt.slots] at X51 l51 y51 z51 st51 hQ51
        subst l51 y51 z51
        obtain ⟨rfl, Nq51, hs51⟩ := hQ51
        have NN := Fr.app NN Nq51
        have pre : ∀ τ, Steps p.tables e below (T51.setTop (mkF m 171 #[.val (.int p1), .val (.int p2), .val (.int p3), .val (.int p4), .val (.int p5), .val (.int p6), .val (.int ca), .val (.int cb), .val (.int cc), .val (.int (own_fv p4)), .val (.int (own_fv p5)), .val (.int ww), .val (.int kk), .val (.ref b3), .val (.int (1 : Int32))] [(.int (own_at (own_sm fz ml40 cc (0 : Int32)) (0 : Int32)))])) τ → G τ := fun τ κ => pre τ (st51.trans κ)
        have pre : ∀ τ, Steps p.tables e below (T51.setTop (mkF m 173 #[.val (.int p1), .val (.int p2), .val (.int p3), .val (.int p4), .val (.int p5), .val (.int p6), .val (.int ca), .val (.int cb), .val (.int cc), .val (.int (own_fv p4)), .val (.int (own_fv p5)), .val (.int ww), .val (.int kk), .val (.ref b3), .val (.int (1 : Int32))] [(.int cc), (.int (own_at (own_sm fz ml40 cc (0 : Int32)) (0 : Int32)))])) τ → G τ := fun τ κ => pre τ (by
          refine XS.iload X51.here hx rfl (hb hby at_171) rfl ?_
          show Steps p.tables e below (T51.setTop (mkF m 173 #[.val (.int p1), .val (.int p2), .val (.int p3), .val (.int p4), .val (.int p5), .val (.int p6), .val (.int ca), .val (.int cb), .val (.int cc), .val (.int (own_fv p4)), .val (.int (own_fv p5)), .val (.int ww), .val (.int kk), .val (.ref b3), .val (.int (1 : Int32))] [(.int cc), (.int (own_at (own_sm fz ml40 cc (0 : Int32)) (0 : Int32)))])) τ
          exact κ)
        have hc52 : (own_at (own_sm fz ml40 cc (0 : Int32)) (0 : Int32)) = cc := own_m1 (Cz.2 _ bcc) Iv.2.1
        have pre : ∀ τ, Steps p.tables e below (T51.setTop (mkF m 180 #[.val (.int p1), .val (.int p2), .val (.int p3), .val (.int p4), .val (.int p5), .val (.int p6), .val (.int ca), .val (.int cb), .val (.int cc), .val (.int (own_fv p4)), .val (.int (own_fv p5)), .val (.int ww), .val (.int kk), .val (.ref b3), .val (.int (1 : Int32))] [(.int cc), (.ref b3)])) τ → G τ := fun τ κ => pre τ (by
          refine XS.icmpNo X51.here hx rfl (hb hby at_173) rfl (teq hc52).2 ?_
          show Steps p.tables e below (T51.setTop (mkF m 176 #[.val (.int p1), .val (.int p2), .val (.int p3), .val (.int p4), .val (.int p5), .val (.int p6), .val (.int ca), .val (.int cb), .val (.int cc), .val (.int (own_fv p4)), .val (.int (own_fv p5)), .val (.int ww), .val (.int kk), .val (.ref b3), .val (.int (1 : Int32))] [])) τ
          refine XS.aload X51.here hx rfl (hb hby at_176) rfl rfl ?_
          show Steps p.tables e below (T51.setTop (mkF m 178 #[.val (.int p1), .val (.int p2), .val (.int p3), .val (.int p4), .val (.int p5), .val (.int p6), .val (.int ca), .val (.int cb), .val (.int cc), .val (.int (own_fv p4)), .val (.int (own_fv p5)), .val (.int ww), .val (.int kk), .val (.ref b3), .val (.int (1 : Int32))] [(.ref b3)])) τ
          refine XS.iload X51.here hx rfl (hb hby at_178) rfl ?_
          show Steps p.tables e below (T51.setTop (mkF m 180 #[.val (.int p1), .val (.int p2), .val (.int p3), .val (.int p4), .val (.int p5), .val (.int p6), .val (.int ca), .val (.int cb), .val (.int cc), .val (.int (own_fv p4)), .val (.int (own_fv p5)), .val (.int ww), .val (.int kk), .val (.ref b3), .val (.int (1 : Int32))] [(.int cc), (.ref b3)])) τ
          exact κ)
        obtain ⟨cq53, kq53, q53a, q53b, q53c⟩ := isOf hZ hs51 E_b3
        obtain ⟨_, _, ⟨T53, Lx53, kx53, nx53⟩, -, X53, ⟨Lc53, hQ53, l53, y53, z53⟩, st53⟩ := X51.virtualBack hx (y := (⟨"com/example/cairn/cairn/history/Marks", "get", "(I)I"⟩ : MethodName)) (z := (⟨"com/example/cairn/cairn/history/Marks", "get", "(I)I"⟩ : MethodName)) hown (mvT hZ (hw _ (List.mem_of_getElem? (i := 37) rfl))) (mvT hZ (hw _ (List.mem_of_getElem? (i := 38) rfl))) (notFace_of_selects (args := #[]) (mvT hZ (hw _ (List.mem_of_getElem? (i := 40) rfl)))) (mvT hZ (hw _ (List.mem_of_getElem? (i := 40) rfl))) (mvT hZ (hw _ (List.mem_of_getElem? (i := 39) rfl))) (by decide) (backOf (W := 0) (rm7 l Z a0 hw [] b3 cc fc_5 kd_5 (8 : Int32) (own_sf fz cc ww) T47.heap n0 Zn F_flags_47 V_f_47 bcc) hZ (hw _ (List.mem_of_getElem? (i := 41) rfl)) (hw _ (List.mem_of_getElem? (i := 7) rfl)) (by decide) (by decide)) q53a q53c (g := (mkF m 180 #[.val (.int p1), .val (.int p2), .val (.int p3), .val (.int p4), .val (.int p5), .val (.int p6), .val (.int ca), .val (.int cb), .val (.int cc), .val (.int (own_fv p4)), .val (.int (own_fv p5)), .val (.int ww), .val (.int kk), .val (.ref b3), .val (.int (1 : Int32))] [(.int cc), (.ref b3)])) rfl (by rw [hml]; rfl) (Steps.refl _) (argsL := [(.int cc)]) (rest := []) (lenOf pd_0 rfl) rfl (by show 2 * 0 + _ ≤ _; exact Nat.le_of_eq rfl) (hb hby at_180) (fun _ _ => ⟨rfl, hs51, (by decide : 4 + 0 ≤ _), (by decide : 75 + 0 ≤ _)⟩)
        dsimp only [Pt.U, Pt.locs, Pt.cells, Pt.slots] at X53 l53 y53 z53 st53 hQ53
        subst l53 y53 z53
        obtain ⟨rfl, Nq53, hs53⟩ := hQ53
        have NN := Fr.app NN Nq53
        have pre : ∀ τ, Steps p.tables e below (T53.setTop (mkF m 183 #[.val (.int p1), .val (.int p2), .val (.int p3), .val (.int p4), .val (.int p5), .val (.int p6), .val (.int ca), .val (.int cb), .val (.int cc), .val (.int (own_fv p4)), .val (.int (own_fv p5)), .val (.int ww), .val (.int kk), .val (.ref b3), .val (.int (1 : Int32))] [(.int (own_at (own_sf fz cc ww) cc &&& (255 : Int32)))])) τ → G τ := fun τ κ => pre τ (st53.trans κ)
        have pre : ∀ τ, Steps p.tables e below (T53.setTop (mkF m 185 #[.val (.int p1), .val (.int p2), .val (.int p3), .val (.int p4), .val (.int p5), .val (.int p6), .val (.int ca), .val (.int cb), .val (.int cc), .val (.int (own_fv p4)), .val (.int (own_fv p5)), .val (.int ww), .val (.int kk), .val (.ref b3), .val (.int (1 : Int32))] [(.int ww), (.int (own_at (own_sf fz cc ww) cc &&& (255 : Int32)))])) τ → G τ := fun τ κ => pre τ (by
          refine XS.iload X53.here hx rfl (hb hby at_183) rfl ?_
          show Steps p.tables e below (T53.setTop (mkF m 185 #[.val (.int p1), .val (.int p2), .val (.int p3), .val (.int p4), .val (.int p5), .val (.int p6), .val (.int ca), .val (.int cb), .val (.int cc), .val (.int (own_fv p4)), .val (.int (own_fv p5)), .val (.int ww), .val (.int kk), .val (.ref b3), .val (.int (1 : Int32))] [(.int ww), (.int (own_at (own_sf fz cc ww) cc &&& (255 : Int32)))])) τ
          exact κ)
        have hc54 : (own_at (own_sf fz cc ww) cc &&& (255 : Int32)) = ww := own_gv bcc Cz.1 bww
        have pre : ∀ τ, Steps p.tables e below (T53.setTop (mkF m 193 #[.val (.int p1), .val (.int p2), .val (.int p3), .val (.int p4), .val (.int p5), .val (.int p6), .val (.int ca), .val (.int cb), .val (.int cc), .val (.int (own_fv p4)), .val (.int (own_fv p5)), .val (.int ww), .val (.int kk), .val (.ref b3), .val (.int (1 : Int32))] [(.int (1 : Int32))])) τ → G τ := fun τ κ => pre τ (by
          refine XS.icmpNo X53.here hx rfl (hb hby at_185) rfl (teq hc54).2 ?_
          show Steps p.tables e below (T53.setTop (mkF m 188 #[.val (.int p1), .val (.int p2), .val (.int p3), .val (.int p4), .val (.int p5), .val (.int p6), .val (.int ca), .val (.int cb), .val (.int cc), .val (.int (own_fv p4)), .val (.int (own_fv p5)), .val (.int ww), .val (.int kk), .val (.ref b3), .val (.int (1 : Int32))] [])) τ
          refine XS.iconst X53.here hx rfl (hb hby at_188) ?_
          show Steps p.tables e below (T53.setTop (mkF m 189 #[.val (.int p1), .val (.int p2), .val (.int p3), .val (.int p4), .val (.int p5), .val (.int p6), .val (.int ca), .val (.int cb), .val (.int cc), .val (.int (own_fv p4)), .val (.int (own_fv p5)), .val (.int ww), .val (.int kk), .val (.ref b3), .val (.int (1 : Int32))] [(.int (1 : Int32))])) τ
          refine XS.goto X53.here hx rfl (pc0 := 189) (pc' := 193) rfl (hb hby at_189) (by decide) (by decide) ?_
          show Steps p.tables e below (T53.setTop (mkF m 193 #[.val (.int p1), .val (.int p2), .val (.int p3), .val (.int p4), .val (.int p5), .val (.int p6), .val (.int ca), .val (.int cb), .val (.int cc), .val (.int (own_fv p4)), .val (.int (own_fv p5)), .val (.int ww), .val (.int kk), .val (.ref b3), .val (.int (1 : Int32))] [(.int (1 : Int32))])) τ
          exact κ)
        obtain ⟨fsα, hr, hrun, hended, hW, hsame⟩ := X53.leave (v := some (.int (1 : Int32))) (fun h => by rw [Bd.returns] at h; cases h)
        refine hGL ⟨_, _, hG _ (pre _ ?_), hrun, hended, _, _, rfl, ?_, ⟨_, rfl⟩, hW, hsame.mono (by decide) (by decide)⟩
        · exact retN X53 hx (t := .boolean) Bd.returns (by simp) (hb hby at_193) hr
        · show Q0 Z p1 p2 p3 p4 p5 p6 h0 n0 _ T53.heap _
          rw [hs53]
          exact ⟨rfl, NN⟩
      ·
        have pre : ∀ τ, Steps p.tables e below (T39.setTop (mkF m 107 #[.val (.int p1), .val (.int p2), .val (.int p3), .val (.int p4), .val (.int p5), .val (.int p6), .val (.int ca), .val (.int cb), .val (.int cc), .val (.int (own_fv p4)), .val (.int (own_fv p5)), .val (.int ww), .val (.int kk), .val (.ref b3), .unset] [(.int (own_fv p5)), (.int cc), (.ref b3)])) τ → G τ := fun τ κ => pre τ (by
          refine XS.icmpNo X39.here hx rfl (hb hby at_98) rfl (flt hc98_41).1 ?_
          show Steps p.tables e below (T39.setTop (mkF m 101 #[.val (.int p1), .val (.int p2), .val (.int p3), .val (.int p4), .val (.int p5), .val (.int p6), .val (.int ca), .val (.int cb), .val (.int cc), .val (.int (own_fv p4)), .val (.int (own_fv p5)), .val (.int ww), .val (.int kk), .val (.ref b3), .unset] [])) τ
          refine XS.aload X39.here hx rfl (hb hby at_101) rfl rfl ?_
          show Steps p.tables e below (T39.setTop (mkF m 103 #[.val (.int p1), .val (.int p2), .val (.int p3), .val (.int p4), .val (.int p5), .val (.int p6), .val (.int ca), .val (.int cb), .val (.int cc), .val (.int (own_fv p4)), .val (.int (own_fv p5)), .val (.int ww), .val (.int kk), .val (.ref b3), .unset] [(.ref b3)])) τ
          refine XS.iload X39.here hx rfl (hb hby at_103) rfl ?_
          show Steps p.tables e below (T39.setTop (mkF m 105 #[.val (.int p1), .val (.int p2), .val (.int p3), .val (.int p4), .val (.int p5), .val (.int p6), .val (.int ca), .val (.int cb), .val (.int cc), .val (.int (own_fv p4)), .val (.int (own_fv p5)), .val (.int ww), .val (.int kk), .val (.ref b3), .unset] [(.int cc), (.ref b3)])) τ
          refine XS.iload X39.here hx rfl (hb hby at_105) rfl ?_
          show Steps p.tables e below (T39.setTop (mkF m 107 #[.val (.int p1), .val (.int p2), .val (.int p3), .val (.int p4), .val (.int p5), .val (.int p6), .val (.int ca), .val (.int cb), .val (.int cc), .val (.int (own_fv p4)), .val (.int (own_fv p5)), .val (.int ww), .val (.int kk), .val (.ref b3), .unset] [(.int (own_fv p5)), (.int cc), (.ref b3)])) τ
          exact κ)
        obtain ⟨cq55, kq55, q55a, q55b, q55c⟩ := isOf hZ rfl E_b3
        obtain ⟨_, _, ⟨T55, Lx55, kx55, nx55⟩, -, X55, ⟨Lc55, hQ55, l55, y55, z55⟩, st55⟩ := X39.virtualBack hx (y := (⟨"com/example/cairn/cairn/history/Marks", "set", "(II)V"⟩ : MethodName)) (z := (⟨"com/example/cairn/cairn/history/Marks", "set", "(II)V"⟩ : MethodName)) hown (mvT hZ (hw _ (List.mem_of_getElem? (i := 25) rfl))) (mvT hZ (hw _ (List.mem_of_getElem? (i := 26) rfl))) (notFace_of_selects (args := #[]) (mvT hZ (hw _ (List.mem_of_getElem? (i := 28) rfl)))) (mvT hZ (hw _ (List.mem_of_getElem? (i := 28) rfl))) (mvT hZ (hw _ (List.mem_of_getElem? (i := 27) rfl))) (by decide) (backOf (W := 0) (rm5 l Z a0 hw [] b3 cc (own_fv p5) fc_5 mb_4 kd_5 km_4 (8 : Int32) cl40 fl40 ml40 T39.heap n0 Zn g_b3 gn_mb_4 gn_fc_5 E_b3 F_flags_39 F_marked_39 F_count_39 V_f_39 V_m_39 ne_b3_mb_4 ne_o__fc_5 ne_mb__fc_5 bcc (own_icn Iv (by decide)) Iv.2.1 Iv.1) hZ (hw _ (List.mem_of_getElem? (i := 29) rfl)) (hw _ (List.mem_of_getElem? (i := 7) rfl)) (by decide) (by decide)) q55a q55c (g := (mkF m 107 #[.val (.int p1), .val (.int p2), .val (.int p3), .val (.int p4), .val (.int p5), .val (.int p6), .val (.int ca), .val (.int cb), .val (.int cc), .val (.int (own_fv p4)), .val (.int (own_fv p5)), .val (.int ww), .val (.int kk), .val (.ref b3), .unset] [(.int (own_fv p5)), (.int cc), (.ref b3)])) rfl (by rw [hml]; rfl) (Steps.refl _) (argsL := [(.int cc), (.int (own_fv p5))]) (rest := []) (lenOf pd_3 rfl) rfl (by show 2 * 0 + _ ≤ _; exact Nat.le_of_eq rfl) (hb hby at_107) (fun _ _ => ⟨rfl, rfl, (by decide : 4 + 0 ≤ _), (by decide : 75 + 0 ≤ _)⟩)
        dsimp only [Pt.U, Pt.locs, Pt.cells, Pt.slots] at X55 l55 y55 z55 st55 hQ55
        subst l55 y55 z55
        obtain ⟨rfl, Nq55, Kc55, E_o_55, F_flags_55, F_marked_55, F_count_55, V_f_55, V_m_55⟩ := hQ55
        have NN := Fr.app NN Nq55
        have E_b3 : Exa Z T55.heap b3 "com/example/cairn/cairn/history/Marks" := E_b3.keep Kc55
        have E_o_4 : Exa Z T55.heap b3 "com/example/cairn/cairn/history/Marks" := E_o_4.keep Kc55
        have E_o_5 : Exa Z T55.heap b3 "com/example/cairn/cairn/history/Marks" := E_o_5.keep Kc55
        have E_o_22 : Exa Z T55.heap b3 "com/example/cairn/cairn/history/Marks" := E_o_22.keep Kc55
        have E_o_39 : Exa Z T55.heap b3 "com/example/cairn/cairn/history/Marks" := E_o_39.keep Kc55
        have Zn : n0 ≤ T55.heap.size := Nat.le_trans Zn Kc55.1
        have pre : ∀ τ, Steps p.tables e below (T55.setTop (mkF m 110 #[.val (.int p1), .val (.int p2), .val (.int p3), .val (.int p4), .val (.int p5), .val (.int p6), .val (.int ca), .val (.int cb), .val (.int cc), .val (.int (own_fv p4)), .val (.int (own_fv p5)), .val (.int ww), .val (.int kk), .val (.ref b3), .unset] [])) τ → G τ := fun τ κ => pre τ (st55.trans κ)
        have Iv := own_invset bcc Iv (by decide) (v := (own_fv p5))
        obtain ⟨fl56, hfl56⟩ : ∃ q : List Value, q = (own_sf fl40 cc (own_fv p5)) := ⟨_, rfl⟩
        obtain ⟨ml56, hml56⟩ : ∃ q : List Value, q = (own_sm fl40 ml40 cc cl40) := ⟨_, rfl⟩
        obtain ⟨cl56, hcl56⟩ : ∃ q : Int32, q = (own_sc fl40 cc cl40) := ⟨_, rfl⟩
        have Iv : own_inv fl56 ml56 cl56 3 := by rw [hfl56, hml56, hcl56]; exact Iv
        rw [← hfl56] at V_f_55
        rw [← hml56] at V_m_55
        rw [← hcl56] at F_count_55
        have pre : ∀ τ, Steps p.tables e below (T55.setTop (mkF m 112 #[.val (.int p1), .val (.int p2), .val (.int p3), .val (.int p4), .val (.int p5), .val (.int p6), .val (.int ca), .val (.int cb), .val (.int cc), .val (.int (own_fv p4)), .val (.int (own_fv p5)), .val (.int ww), .val (.int kk), .val (.ref b3), .unset] [(.ref b3)])) τ → G τ := fun τ κ => pre τ (by
          refine XS.aload X55.here hx rfl (hb hby at_110) rfl rfl ?_
          show Steps p.tables e below (T55.setTop (mkF m 112 #[.val (.int p1), .val (.int p2), .val (.int p3), .val (.int p4), .val (.int p5), .val (.int p6), .val (.int ca), .val (.int cb), .val (.int cc), .val (.int (own_fv p4)), .val (.int (own_fv p5)), .val (.int ww), .val (.int kk), .val (.ref b3), .unset] [(.ref b3)])) τ
          exact κ)
        obtain ⟨cq57, kq57, q57a, q57b, q57c⟩ := isOf hZ rfl E_b3
        obtain ⟨_, _, ⟨T57, Lx57, kx57, nx57⟩, -, X57, ⟨Lc57, hQ57, l57, y57, z57⟩, st57⟩ := X55.virtualBack hx (y := (⟨"com/example/cairn/cairn/history/Marks", "clear", "()V"⟩ : MethodName)) (z := (⟨"com/example/cairn/cairn/history/Marks", "clear", "()V"⟩ : MethodName)) hown (mvT hZ (hw _ (List.mem_of_getElem? (i := 32) rfl))) (mvT hZ (hw _ (List.mem_of_getElem? (i := 33) rfl))) (notFace_of_selects (args := #[]) (mvT hZ (hw _ (List.mem_of_getElem? (i := 35) rfl)))) (mvT hZ (hw _ (List.mem_of_getElem? (i := 35) rfl))) (mvT hZ (hw _ (List.mem_of_getElem? (i := 34) rfl))) (by decide) (backOf (W := 0) (rm6 l Z a0 hw [] b3 fc_5 mb_4 kd_5 km_4 (8 : Int32) cl56 fl56 ml56 T55.heap n0 Zn g_b3 gn_mb_4 gn_fc_5 E_b3 F_flags_55 F_marked_55 F_count_55 V_f_55 V_m_55 ne_b3_mb_4 ne_o__fc_5 ne_mb__fc_5 (own_icn Iv (by decide)) Iv.2.1 Iv.1 Iv.2.2.2.2.1) hZ (hw _ (List.mem_of_getElem? (i := 36) rfl)) (hw _ (List.mem_of_getElem? (i := 7) rfl)) (by decide) (by decide)) q57a q57c (g := (mkF m 112 #[.val (.int p1), .val (.int p2), .val (.int p3), .val (.int p4), .val (.int p5), .val (.int p6), .val (.int ca), .val (.int cb), .val (.int cc), .val (.int (own_fv p4)), .val (.int (own_fv p5)), .val (.int ww), .val (.int kk), .val (.ref b3), .unset] [(.ref b3)])) rfl (by rw [hml]; rfl) (Steps.refl _) (argsL := []) (rest := []) (lenOf pd_1 rfl) rfl (by show 2 * 0 + _ ≤ _; exact Nat.le_of_eq rfl) (hb hby at_112) (fun _ _ => ⟨rfl, rfl, (by decide : 4 + 0 ≤ _), (by decide : 75 + 0 ≤ _)⟩)
        dsimp only [Pt.U, Pt.locs, Pt.cells, Pt.slots] at X57 l57 y57 z57 st57 hQ57
        subst l57 y57 z57
        obtain ⟨rfl, Nq57, Kc57, E_o_57, F_flags_57, F_marked_57, F_count_57, V_f_57, V_m_57⟩ := hQ57
        have NN := Fr.app NN Nq57
        have E_b3 : Exa Z T57.heap b3 "com/example/cairn/cairn/history/Marks" := E_b3.keep Kc57
        have E_o_4 : Exa Z T57.heap b3 "com/example/cairn/cairn/history/Marks" := E_o_4.keep Kc57
        have E_o_5 : Exa Z T57.heap b3 "com/example/cairn/cairn/history/Marks" := E_o_5.keep Kc57
        have E_o_22 : Exa Z T57.heap b3 "com/example/cairn/cairn/history/Marks" := E_o_22.keep Kc57
        have E_o_39 : Exa Z T57.heap b3 "com/example/cairn/cairn/history/Marks" := E_o_39.keep Kc57
        have E_o_55 : Exa Z T57.heap b3 "com/example/cairn/cairn/history/Marks" := E_o_55.keep Kc57
        have Zn : n0 ≤ T57.heap.size := Nat.le_trans Zn Kc57.1
        have pre : ∀ τ, Steps p.tables e below (T57.setTop (mkF m 115 #[.val (.int p1), .val (.int p2), .val (.int p3), .val (.int p4), .val (.int p5), .val (.int p6), .val (.int ca), .val (.int cb), .val (.int cc), .val (.int (own_fv p4)), .val (.int (own_fv p5)), .val (.int ww), .val (.int kk), .val (.ref b3), .unset] [])) τ → G τ := fun τ κ => pre τ (st57.trans κ)
        obtain ⟨fz, hfz⟩ : ∃ q : List Value, q = (own_cl ml56 cl56.toInt.toNat (0 : Int32) fl56) := ⟨_, rfl⟩
        have Cz : fz.length = 8 ∧ ∀ j : Int32, ¬ j < 0 ∧ j < (8 : Int32) → own_at fz j = 0 := by rw [hfz]; exact own_invclr Iv (by decide)
        rw [← hfz] at V_f_57
        have pre : ∀ τ, Steps p.tables e below (T57.setTop (mkF m 119 #[.val (.int p1), .val (.int p2), .val (.int p3), .val (.int p4), .val (.int p5), .val (.int p6), .val (.int ca), .val (.int cb), .val (.int cc), .val (.int (own_fv p4)), .val (.int (own_fv p5)), .val (.int ww), .val (.int kk), .val (.ref b3), .unset] [(.int ca), (.ref b3)])) τ → G τ := fun τ κ => pre τ (by
          refine XS.aload X57.here hx rfl (hb hby at_115) rfl rfl ?_
          show Steps p.tables e below (T57.setTop (mkF m 117 #[.val (.int p1), .val (.int p2), .val (.int p3), .val (.int p4), .val (.int p5), .val (.int p6), .val (.int ca), .val (.int cb), .val (.int cc), .val (.int (own_fv p4)), .val (.int (own_fv p5)), .val (.int ww), .val (.int kk), .val (.ref b3), .unset] [(.ref b3)])) τ
          refine XS.iload X57.here hx rfl (hb hby at_117) rfl ?_
          show Steps p.tables e below (T57.setTop (mkF m 119 #[.val (.int p1), .val (.int p2), .val (.int p3), .val (.int p4), .val (.int p5), .val (.int p6), .val (.int ca), .val (.int cb), .val (.int cc), .val (.int (own_fv p4)), .val (.int (own_fv p5)), .val (.int ww), .val (.int kk), .val (.ref b3), .unset] [(.int ca), (.ref b3)])) τ
          exact κ)
        obtain ⟨cq58, kq58, q58a, q58b, q58c⟩ := isOf hZ rfl E_b3
        obtain ⟨_, _, ⟨T58, Lx58, kx58, nx58⟩, -, X58, ⟨Lc58, hQ58, l58, y58, z58⟩, st58⟩ := X57.virtualBack hx (y := (⟨"com/example/cairn/cairn/history/Marks", "get", "(I)I"⟩ : MethodName)) (z := (⟨"com/example/cairn/cairn/history/Marks", "get", "(I)I"⟩ : MethodName)) hown (mvT hZ (hw _ (List.mem_of_getElem? (i := 37) rfl))) (mvT hZ (hw _ (List.mem_of_getElem? (i := 38) rfl))) (notFace_of_selects (args := #[]) (mvT hZ (hw _ (List.mem_of_getElem? (i := 40) rfl)))) (mvT hZ (hw _ (List.mem_of_getElem? (i := 40) rfl))) (mvT hZ (hw _ (List.mem_of_getElem? (i := 39) rfl))) (by decide) (backOf (W := 0) (rm7 l Z a0 hw [] b3 ca fc_5 kd_5 (8 : Int32) fz T57.heap n0 Zn F_flags_57 V_f_57 bca) hZ (hw _ (List.mem_of_getElem? (i := 41) rfl)) (hw _ (List.mem_of_getElem? (i := 7) rfl)) (by decide) (by decide)) q58a q58c (g := (mkF m 119 #[.val (.int p1), .val (.int p2), .val (.int p3), .val (.int p4), .val (.int p5), .val (.int p6), .val (.int ca), .val (.int cb), .val (.int cc), .val (.int (own_fv p4)), .val (.int (own_fv p5)), .val (.int ww), .val (.int kk), .val (.ref b3), .unset] [(.int ca), (.ref b3)])) rfl (by rw [hml]; rfl) (Steps.refl _) (argsL := [(.int ca)]) (rest := []) (lenOf pd_0 rfl) rfl (by show 2 * 0 + _ ≤ _; exact Nat.le_of_eq rfl) (hb hby at_119) (fun _ _ => ⟨rfl, rfl, (by decide : 4 + 0 ≤ _), (by decide : 75 + 0 ≤ _)⟩)
        dsimp only [Pt.U, Pt.locs, Pt.cells, Pt.slots] at X58 l58 y58 z58 st58 hQ58
        subst l58 y58 z58
        obtain ⟨rfl, Nq58, hs58⟩ := hQ58
        have NN := Fr.app NN Nq58
        have pre : ∀ τ, Steps p.tables e below (T58.setTop (mkF m 122 #[.val (.int p1), .val (.int p2), .val (.int p3), .val (.int p4), .val (.int p5), .val (.int p6), .val (.int ca), .val (.int cb), .val (.int cc), .val (.int (own_fv p4)), .val (.int (own_fv p5)), .val (.int ww), .val (.int kk), .val (.ref b3), .unset] [(.int (own_at fz ca &&& (255 : Int32)))])) τ → G τ := fun τ κ => pre τ (st58.trans κ)
        have hc59 : (own_at fz ca &&& (255 : Int32)) = (0 : Int32) := own_g0 (Cz.2 _ bca)
        have pre : ∀ τ, Steps p.tables e below (T58.setTop (mkF m 129 #[.val (.int p1), .val (.int p2), .val (.int p3), .val (.int p4), .val (.int p5), .val (.int p6), .val (.int ca), .val (.int cb), .val (.int cc), .val (.int (own_fv p4)), .val (.int (own_fv p5)), .val (.int ww), .val (.int kk), .val (.ref b3), .unset] [(.int cb), (.ref b3)])) τ → G τ := fun τ κ => pre τ (by
          refine XS.ifNo X58.here hx rfl (hb hby at_122) rfl ((if0 _ _).trans (teq hc59).2) ?_
          show Steps p.tables e below (T58.setTop (mkF m 125 #[.val (.int p1), .val (.int p2), .val (.int p3), .val (.int p4), .val (.int p5), .val (.int p6), .val (.int ca), .val (.int cb), .val (.int cc), .val (.int (own_fv p4)), .val (.int (own_fv p5)), .val (.int ww), .val (.int kk), .val (.ref b3), .unset] [])) τ
          refine XS.aload X58.here hx rfl (hb hby at_125) rfl rfl ?_
          show Steps p.tables e below (T58.setTop (mkF m 127 #[.val (.int p1), .val (.int p2), .val (.int p3), .val (.int p4), .val (.int p5), .val (.int p6), .val (.int ca), .val (.int cb), .val (.int cc), .val (.int (own_fv p4)), .val (.int (own_fv p5)), .val (.int ww), .val (.int kk), .val (.ref b3), .unset] [(.ref b3)])) τ
          refine XS.iload X58.here hx rfl (hb hby at_127) rfl ?_
          show Steps p.tables e below (T58.setTop (mkF m 129 #[.val (.int p1), .val (.int p2), .val (.int p3), .val (.int p4), .val (.int p5), .val (.int p6), .val (.int ca), .val (.int cb), .val (.int cc), .val (.int (own_fv p4)), .val (.int (own_fv p5)), .val (.int ww), .val (.int kk), .val (.ref b3), .unset] [(.int cb), (.ref b3)])) τ
          exact κ)
        obtain ⟨cq60, kq60, q60a, q60b, q60c⟩ := isOf hZ hs58 E_b3
        obtain ⟨_, _, ⟨T60, Lx60, kx60, nx60⟩, -, X60, ⟨Lc60, hQ60, l60, y60, z60⟩, st60⟩ := X58.virtualBack hx (y := (⟨"com/example/cairn/cairn/history/Marks", "get", "(I)I"⟩ : MethodName)) (z := (⟨"com/example/cairn/cairn/history/Marks", "get", "(I)I"⟩ : MethodName)) hown (mvT hZ (hw _ (List.mem_of_getElem? (i := 37) rfl))) (mvT hZ (hw _ (List.mem_of_getElem? (i := 38) rfl))) (notFace_of_selects (args := #[]) (mvT hZ (hw _ (List.mem_of_getElem? (i := 40) rfl)))) (mvT hZ (hw _ (List.mem_of_getElem? (i := 40) rfl))) (mvT hZ (hw _ (List.mem_of_getElem? (i := 39) rfl))) (by decide) (backOf (W := 0) (rm7 l Z a0 hw [] b3 cb fc_5 kd_5 (8 : Int32) fz T57.heap n0 Zn F_flags_57 V_f_57 bcb) hZ (hw _ (List.mem_of_getElem? (i := 41) rfl)) (hw _ (List.mem_of_getElem? (i := 7) rfl)) (by decide) (by decide)) q60a q60c (g := (mkF m 129 #[.val (.int p1), .val (.int p2), .val (.int p3), .val (.int p4), .val (.int p5), .val (.int p6), .val (.int ca), .val (.int cb), .val (.int cc), .val (.int (own_fv p4)), .val (.int (own_fv p5)), .val (.int ww), .val (.int kk), .val (.ref b3), .unset] [(.int cb), (.ref b3)])) rfl (by rw [hml]; rfl) (Steps.refl _) (argsL := [(.int cb)]) (rest := []) (lenOf pd_0 rfl) rfl (by show 2 * 0 + _ ≤ _; exact Nat.le_of_eq rfl) (hb hby at_129) (fun _ _ => ⟨rfl, hs58, (by decide : 4 + 0 ≤ _), (by decide : 75 + 0 ≤ _)⟩)
        dsimp only [Pt.U, Pt.locs, Pt.cells, Pt.slots] at X60 l60 y60 z60 st60 hQ60
        subst l60 y60 z60
        obtain ⟨rfl, Nq60, hs60⟩ := hQ60
        have NN := Fr.app NN Nq60
        have pre : ∀ τ, Steps p.tables e below (T60.setTop (mkF m 132 #[.val (.int p1), .val (.int p2), .val (.int p3), .val (.int p4), .val (.int p5), .val (.int p6), .val (.int ca), .val (.int cb), .val (.int cc), .val (.int (own_fv p4)), .val (.int (own_fv p5)), .val (.int ww), .val (.int kk), .val (.ref b3), .unset] [(.int (own_at fz cb &&& (255 : Int32)))])) τ → G τ := fun τ κ => pre τ (st60.trans κ)
        have hc61 : (own_at fz cb &&& (255 : Int32)) = (0 : Int32) := own_g0 (Cz.2 _ bcb)
        have pre : ∀ τ, Steps p.tables e below (T60.setTop (mkF m 148 #[.val (.int p1), .val (.int p2), .val (.int p3), .val (.int p4), .val (.int p5), .val (.int p6), .val (.int ca), .val (.int cb), .val (.int cc), .val (.int (own_fv p4)), .val (.int (own_fv p5)), .val (.int ww), .val (.int kk), .val (.ref b3), .val (.int (1 : Int32))] [(.int ww), (.int cc), (.ref b3)])) τ → G τ := fun τ κ => pre τ (by
          refine XS.ifNo X60.here hx rfl (hb hby at_132) rfl ((if0 _ _).trans (teq hc61).2) ?_
          show Steps p.tables e below (T60.setTop (mkF m 135 #[.val (.int p1), .val (.int p2), .val (.int p3), .val (.int p4), .val (.int p5), .val (.int p6), .val (.int ca), .val (.int cb), .val (.int cc), .val (.int (own_fv p4)), .val (.int (own_fv p5)), .val (.int ww), .val (.int kk), .val (.ref b3), .unset] [])) τ
          refine XS.iconst X60.here hx rfl (hb hby at_135) ?_
          show Steps p.tables e below (T60.setTop (mkF m 136 #[.val (.int p1), .val (.int p2), .val (.int p3), .val (.int p4), .val (.int p5), .val (.int p6), .val (.int ca), .val (.int cb), .val (.int cc), .val (.int (own_fv p4)), .val (.int (own_fv p5)), .val (.int ww), .val (.int kk), .val (.ref b3), .unset] [(.int (1 : Int32))])) τ
          refine XS.goto X60.here hx rfl (pc0 := 136) (pc' := 140) rfl (hb hby at_136) (by decide) (by decide) ?_
          show Steps p.tables e below (T60.setTop (mkF m 140 #[.val (.int p1), .val (.int p2), .val (.int p3), .val (.int p4), .val (.int p5), .val (.int p6), .val (.int ca), .val (.int cb), .val (.int cc), .val (.int (own_fv p4)), .val (.int (own_fv p5)), .val (.int ww), .val (.int kk), .val (.ref b3), .unset] [(.int (1 : Int32))])) τ
          refine XS.istore X60.here hx rfl (hb hby at_140) rfl (l' := #[.val (.int p1), .val (.int p2), .val (.int p3), .val (.int p4), .val (.int p5), .val (.int p6), .val (.int ca), .val (.int cb), .val (.int cc), .val (.int (own_fv p4)), .val (.int (own_fv p5)), .val (.int ww), .val (.int kk), .val (.ref b3), .val (.int (1 : Int32))]) rfl ?_
          show Steps p.tables e below (T60.setTop (mkF m 142 #[.val (.int p1), .val (.int p2), .val (.int p3), .val (.int p4), .val (.int p5), .val (.int p6), .val (.int ca), .val (.int cb), .val (.int cc), .val (.int (own_fv p4)), .val (.int (own_fv p5)), .val (.int ww), .val (.int kk), .val (.ref b3), .val (.int (1 : Int32))] [])) τ
          refine XS.aload X60.here hx rfl (hb hby at_142) rfl rfl ?_
          show Steps p.tables e below (T60.setTop (mkF m 144 #[.val (.int p1), .val (.int p2), .val (.int p3), .val (.int p4), .val (.int p5), .val (.int p6), .val (.int ca), .val (.int cb), .val (.int cc), .val (.int (own_fv p4)), .val (.int (own_fv p5)), .val (.int ww), .val (.int kk), .val (.ref b3), .val (.int (1 : Int32))] [(.ref b3)])) τ
          refine XS.iload X60.here hx rfl (hb hby at_144) rfl ?_
          show Steps p.tables e below (T60.setTop (mkF m 146 #[.val (.int p1), .val (.int p2), .val (.int p3), .val (.int p4), .val (.int p5), .val (.int p6), .val (.int ca), .val (.int cb), .val (.int cc), .val (.int (own_fv p4)), .val (.int (own_fv p5)), .val (.int ww), .val (.int kk), .val (.ref b3), .val (.int (1 : Int32))] [(.int cc), (.ref b3)])) τ
          refine XS.iload X60.here hx rfl (hb hby at_146) rfl ?_
          show Steps p.tables e below (T60.setTop (mkF m 148 #[.val (.int p1), .val (.int p2), .val (.int p3), .val (.int p4), .val (.int p5), .val (.int p6), .val (.int ca), .val (.int cb), .val (.int cc), .val (.int (own_fv p4)), .val (.int (own_fv p5)), .val (.int ww), .val (.int kk), .val (.ref b3), .val (.int (1 : Int32))] [(.int ww), (.int cc), (.ref b3)])) τ
          exact κ)
        obtain ⟨cq62, kq62, q62a, q62b, q62c⟩ := isOf hZ hs60 E_b3
        obtain ⟨_, _, ⟨T62, Lx62, kx62, nx62⟩, -, X62, ⟨Lc62, hQ62, l62, y62, z62⟩, st62⟩ := X60.virtualBack hx (y := (⟨"com/example/cairn/cairn/history/Marks", "set", "(II)V"⟩ : MethodName)) (z := (⟨"com/example/cairn/cairn/history/Marks", "set", "(II)V"⟩ : MethodName)) hown (mvT hZ (hw _ (List.mem_of_getElem? (i := 25) rfl))) (mvT hZ (hw _ (List.mem_of_getElem? (i := 26) rfl))) (notFace_of_selects (args := #[]) (mvT hZ (hw _ (List.mem_of_getElem? (i := 28) rfl)))) (mvT hZ (hw _ (List.mem_of_getElem? (i := 28) rfl))) (mvT hZ (hw _ (List.mem_of_getElem? (i := 27) rfl))) (by decide) (backOf (W := 0) (rm5 l Z a0 hw [] b3 cc ww fc_5 mb_4 kd_5 km_4 (8 : Int32) (0 : Int32) fz ml56 T57.heap n0 Zn g_b3 gn_mb_4 gn_fc_5 E_b3 F_flags_57 F_marked_57 F_count_57 V_f_57 V_m_57 ne_b3_mb_4 ne_o__fc_5 ne_mb__fc_5 bcc (by decide) Iv.2.1 Cz.1) hZ (hw _ (List.mem_of_getElem? (i := 29) rfl)) (hw _ (List.mem_of_getElem? (i := 7) rfl)) (by decide) (by decide)) q62a q62c (g := (mkF m 148 #[.val (.int p1), .val (.int p2), .val (.int p3), .val (.int p4), .val (.int p5), .val (.int p6), .val (.int ca), .val (.int cb), .val (.int cc), .val (.int (own_fv p4)), .val (.int (own_fv p5)), .val (.int ww), .val (.int kk), .val (.ref b3), .val (.int (1 : Int32))] [(.int ww), (.int cc), (.ref b3)])) rfl (by rw [hml]; rfl) (Steps.refl _) (argsL := [(.int cc), (.int ww)]) (rest := []) (lenOf pd_3 rfl) rfl (by show 2 * 0 + _ ≤ _; exact Nat.le_of_eq rfl) (hb hby at_148) (fun _ _ => ⟨rfl, hs60, (by decide : 4 + 0 ≤ _), (by decide : 75 + 0 ≤ _)⟩)
        dsimp only [Pt.U, Pt.locs, Pt.cells, Pt.slots] at X62 l62 y62 z62 st62 hQ62
        subst l62 y62 z62
        obtain ⟨rfl, Nq62, Kc62, E_o_62, F_flags_62, F_marked_62, F_count_62, V_f_62, V_m_62⟩ := hQ62
        have NN := Fr.app NN Nq62
        have E_b3 : Exa Z T62.heap b3 "com/example/cairn/cairn/history/Marks" := E_b3.keep Kc62
        have E_o_4 : Exa Z T62.heap b3 "com/example/cairn/cairn/history/Marks" := E_o_4.keep Kc62
        have E_o_5 : Exa Z T62.heap b3 "com/example/cairn/cairn/history/Marks" := E_o_5.keep Kc62
        have E_o_22 : Exa Z T62.heap b3 "com/example/cairn/cairn/history/Marks" := E_o_22.keep Kc62
        have E_o_39 : Exa Z T62.heap b3 "com/example/cairn/cairn/history/Marks" := E_o_39.keep Kc62
        have E_o_55 : Exa Z T62.heap b3 "com/example/cairn/cairn/history/Marks" := E_o_55.keep Kc62
        have E_o_57 : Exa Z T62.heap b3 "com/example/cairn/cairn/history/Marks" := E_o_57.keep Kc62
        have Zn : n0 ≤ T62.heap.size := Nat.le_trans Zn Kc62.1
        have pre : ∀ τ, Steps p.tables e below (T62.setTop (mkF m 151 #[.val (.int p1), .val (.int p2), .val (.int p3), .val (.int p4), .val (.int p5), .val (.int p6), .val (.int ca), .val (.int cb), .val (.int cc), .val (.int (own_fv p4)), .val (.int (own_fv p5)), .val (.int ww), .val (.int kk), .val (.ref b3), .val (.int (1 : Int32))] [])) τ → G τ := fun τ κ => pre τ (st62.trans κ)
        have pre : ∀ τ, Steps p.tables e below (T62.setTop (mkF m 153 #[.val (.int p1), .val (.int p2), .val (.int p3), .val (.int p4), .val (.int p5), .val (.int p6), .val (.int ca), .val (.int cb), .val (.int cc), .val (.int (own_fv p4)), .val (.int (own_fv p5)), .val (.int ww), .val (.int kk), .val (.ref b3), .val (.int (1 : Int32))] [(.int (1 : Int32))])) τ → G τ := fun τ κ => pre τ (by
          refine XS.iload X62.here hx rfl (hb hby at_151) rfl ?_
          show Steps p.tables e below (T62.setTop (mkF m 153 #[.val (.int p1), .val (.int p2), .val (.int p3), .val (.int p4), .val (.int p5), .val (.int p6), .val (.int ca), .val (.int cb), .val (.int cc), .val (.int (own_fv p4)), .val (.int (own_fv p5)), .val (.int ww), .val (.int kk), .val (.ref b3), .val (.int (1 : Int32))] [(.int (1 : Int32))])) τ
          exact κ)
        have hc63 : ¬ ((1 : Int32) = (0 : Int32)) := (by decide)
        have pre : ∀ τ, Steps p.tables e below (T62.setTop (mkF m 158 #[.val (.int p1), .val (.int p2), .val (.int p3), .val (.int p4), .val (.int p5), .val (.int p6), .val (.int ca), .val (.int cb), .val (.int cc), .val (.int (own_fv p4)), .val (.int (own_fv p5)), .val (.int ww), .val (.int kk), .val (.ref b3), .val (.int (1 : Int32))] [(.ref b3)])) τ → G τ := fun τ κ => pre τ (by
          refine XS.ifNo X62.here hx rfl (hb hby at_153) rfl ((if0 _ _).trans (feq hc63).1) ?_
          show Steps p.tables e below (T62.setTop (mkF m 156 #[.val (.int p1), .val (.int p2), .val (.int p3), .val (.int p4), .val (.int p5), .val (.int p6), .val (.int ca), .val (.int cb), .val (.int cc), .val (.int (own_fv p4)), .val (.int (own_fv p5)), .val (.int ww), .val (.int kk), .val (.ref b3), .val (.int (1 : Int32))] [])) τ
          refine XS.aload X62.here hx rfl (hb hby at_156) rfl rfl ?_
          show Steps p.tables e below (T62.setTop (mkF m 158 #[.val (.int p1), .val (.int p2), .val (.int p3), .val (.int p4), .val (.int p5), .val (.int p6), .val (.int ca), .val (.int cb), .val (.int cc), .val (.int (own_fv p4)), .val (.int (own_fv p5)), .val (.int ww), .val (.int kk), .val (.ref b3), .val (.int (1 : Int32))] [(.ref b3)])) τ
          exact κ)
        obtain ⟨cq64, kq64, q64a, q64b, q64c⟩ := isOf hZ rfl E_b3
        obtain ⟨_, _, ⟨T64, Lx64, kx64, nx64⟩, -, X64, ⟨Lc64, hQ64, l64, y64, z64⟩, st64⟩ := X62.virtualBack hx (y := (⟨"com/example/cairn/cairn/history/Marks", "count", "()I"⟩ : MethodName)) (z := (⟨"com/example/cairn/cairn/history/Marks", "count", "()I"⟩ : MethodName)) hown (mvT hZ (hw _ (List.mem_of_getElem? (i := 42) rfl))) (mvT hZ (hw _ (List.mem_of_getElem? (i := 43) rfl))) (notFace_of_selects (args := #[]) (mvT hZ (hw _ (List.mem_of_getElem? (i := 45) rfl)))) (mvT hZ (hw _ (List.mem_of_getElem? (i := 45) rfl))) (mvT hZ (hw _ (List.mem_of_getElem? (i := 44) rfl))) (by decide) (backOf (W := 0) (rm8 l Z a0 hw [] b3 (own_sc fz cc (0 : Int32)) T62.heap n0 Zn F_count_62) hZ (hw _ (List.mem_of_getElem? (i := 46) rfl)) (hw _ (List.mem_of_getElem? (i := 7) rfl)) (by decide) (by decide)) q64a q64c (g := (mkF m 158 #[.val (.int p1), .val (.int p2), .val (.int p3), .val (.int p4), .val (.int p5), .val (.int p6), .val (.int ca), .val (.int cb), .val (.int cc), .val (.int (own_fv p4)), .val (.int (own_fv p5)), .val (.int ww), .val (.int kk), .val (.ref b3), .val (.int (1 : Int32))] [(.ref b3)])) rfl (by rw [hml]; rfl) (Steps.refl _) (argsL := []) (rest := []) (lenOf pd_4 rfl) rfl (by show 2 * 0 + _ ≤ _; exact Nat.le_of_eq rfl) (hb hby at_158) (fun _ _ => ⟨rfl, rfl, (by decide : 4 + 0 ≤ _), (by decide : 75 + 0 ≤ _)⟩)
        dsimp only [Pt.U, Pt.locs, Pt.cells, Pt.slots] at X64 l64 y64 z64 st64 hQ64
        subst l64 y64 z64
        obtain ⟨rfl, Nq64, hs64⟩ := hQ64
        have NN := Fr.app NN Nq64
        have pre : ∀ τ, Steps p.tables e below (T64.setTop (mkF m 161 #[.val (.int p1), .val (.int p2), .val (.int p3), .val (.int p4), .val (.int p5), .val (.int p6), .val (.int ca), .val (.int cb), .val (.int cc), .val (.int (own_fv p4)), .val (.int (own_fv p5)), .val (.int ww), .val (.int kk), .val (.ref b3), .val (.int (1 : Int32))] [(.int (own_sc fz cc (0 : Int32)))])) τ → G τ := fun τ κ => pre τ (st64.trans κ)
        have pre : ∀ τ, Steps p.tables e below (T64.setTop (mkF m 162 #[.val (.int p1), .val (.int p2), .val (.int p3), .val (.int p4), .val (.int p5), .val (.int p6), .val (.int ca), .val (.int cb), .val (.int cc), .val (.int (own_fv p4)), .val (.int (own_fv p5)), .val (.int ww), .val (.int kk), .val (.ref b3), .val (.int (1 : Int32))] [(.int (1 : Int32)), (.int (own_sc fz cc (0 : Int32)))])) τ → G τ := fun τ κ => pre τ (by
          refine XS.iconst X64.here hx rfl (hb hby at_161) ?_
          show Steps p.tables e below (T64.setTop (mkF m 162 #[.val (.int p1), .val (.int p2), .val (.int p3), .val (.int p4), .val (.int p5), .val (.int p6), .val (.int ca), .val (.int cb), .val (.int cc), .val (.int (own_fv p4)), .val (.int (own_fv p5)), .val (.int ww), .val (.int kk), .val (.ref b3), .val (.int (1 : Int32))] [(.int (1 : Int32)), (.int (own_sc fz cc (0 : Int32)))])) τ
          exact κ)
        have hc65 : (own_sc fz cc (0 : Int32)) = (1 : Int32) := own_c1 (Cz.2 _ bcc)
        have pre : ∀ τ, Steps p.tables e below (T64.setTop (mkF m 168 #[.val (.int p1), .val (.int p2), .val (.int p3), .val (.int p4), .val (.int p5), .val (.int p6), .val (.int ca), .val (.int cb), .val (.int cc), .val (.int (own_fv p4)), .val (.int (own_fv p5)), .val (.int ww), .val (.int kk), .val (.ref b3), .val (.int (1 : Int32))] [(.int (0 : Int32)), (.ref b3)])) τ → G τ := fun τ κ => pre τ (by
          refine XS.icmpNo X64.here hx rfl (hb hby at_162) rfl (teq hc65).2 ?_
          show Steps p.tables e below (T64.setTop (mkF m 165 #[.val (.int p1), .val (.int p2), .val (.int p3), .val (.int p4), .val (.int p5), .val (.int p6), .val (.int ca), .val (.int cb), .val (.int cc), .val (.int (own_fv p4)), .val (.int (own_fv p5)), .val (.int ww), .val (.int kk), .val (.ref b3), .val (.int (1 : Int32))] [])) τ
          refine XS.aload X64.here hx rfl (hb hby at_165) rfl rfl ?_
          show Steps p.tables e below (T64.setTop (mkF m 167 #[.val (.int p1), .val (.int p2), .val (.int p3), .val (.int p4), .val (.int p5), .val (.int p6), .val (.int ca), .val (.int cb), .val (.int cc), .val (.int (own_fv p4)), .val (.int (own_fv p5)), .val (.int ww), .val (.int kk), .val (.ref b3), .val (.int (1 : Int32))] [(.ref b3)])) τ
          refine XS.iconst X64.here hx rfl (hb hby at_167) ?_
          show Steps p.tables e below (T64.setTop (mkF m 168 #[.val (.int p1), .val (.int p2), .val (.int p3), .val (.int p4), .val (.int p5), .val (.int p6), .val (.int ca), .val (.int cb), .val (.int cc), .val (.int (own_fv p4)), .val (.int (own_fv p5)), .val (.int ww), .val (.int kk), .val (.ref b3), .val (.int (1 : Int32))] [(.int (0 : Int32)), (.ref b3)])) τ
          exact κ)
        obtain ⟨cq66, kq66, q66a, q66b, q66c⟩ := isOf hZ hs64 E_b3
        obtain ⟨_, _, ⟨T66, Lx66, kx66, nx66⟩, -, X66, ⟨Lc66, hQ66, l66, y66, z66⟩, st66⟩ := X64.virtualBack hx (y := (⟨"com/example/cairn/cairn/history/Marks", "commit", "(I)I"⟩ : MethodName)) (z := (⟨"com/example/cairn/cairn/history/Marks", "commit", "(I)I"⟩ : MethodName)) hown (mvT hZ (hw _ (List.mem_of_getElem? (i := 47) rfl))) (mvT hZ (hw _ (List.mem_of_getElem? (i := 48) rfl))) (notFace_of_selects (args := #[]) (mvT hZ (hw _ (List.mem_of_getElem? (i := 50) rfl)))) (mvT hZ (hw _ (List.mem_of_getElem? (i := 50) rfl))) (mvT hZ (hw _ (List.mem_of_getElem? (i := 49) rfl))) (by decide) (backOf (W := 0) (rm9 l Z a0 hw [] b3 (0 : Int32) mb_4 km_4 (own_sm fz ml56 cc (0 : Int32)) T62.heap n0 Zn F_marked_62 V_m_62 (by decide)) hZ (hw _ (List.mem_of_getElem? (i := 51) rfl)) (hw _ (List.mem_of_getElem? (i := 7) rfl)) (by decide) (by decide)) q66a q66c (g := (mkF m 168 #[.val (.int p1), .val (.int p2), .val (.int p3), .val (.int p4), .val (.int p5), .val (.int p6), .val (.int ca), .val (.int cb), .val (.int cc), .val (.int (own_fv p4)), .val (.int (own_fv p5)), .val (.int ww), .val (.int kk), .val (.ref b3), .val (.int (1 : Int32))] [(.int (0 : Int32)), (.ref b3)])) rfl (by rw [hml]; rfl) (Steps.refl _) (argsL := [(.int (0 : Int32))]) (rest := []) (lenOf pd_0 rfl) rfl (by show 2 * 0 + _ ≤ _; exact Nat.le_of_eq rfl) (hb hby at_168) (fun _ _ => ⟨rfl, hs64, (by decide : 4 + 0 ≤ _), (by decide : 75 + 0 ≤ _)⟩)
        dsimp only [Pt.U, Pt.locs, Pt.cells, Pt.slots] at X66 l66 y66 z66 st66 hQ66
        subst l66 y66 z66
        obtain ⟨rfl, Nq66, hs66⟩ := hQ66
        have NN := Fr.app NN Nq66
        have pre : ∀ τ, Steps p.tables e below (T66.setTop (mkF m 171 #[.val (.int p1), .val (.int p2), .val (.int p3), .val (.int p4), .val (.int p5), .val (.int p6), .val (.int ca), .val (.int cb), .val (.int cc), .val (.int (own_fv p4)), .val (.int (own_fv p5)), .val (.int ww), .val (.int kk), .val (.ref b3), .val (.int (1 : Int32))] [(.int (own_at (own_sm fz ml56 cc (0 : Int32)) (0 : Int32)))])) τ → G τ := fun τ κ => pre τ (st66.trans κ)
        have pre : ∀ τ, Steps p.tables e below (T66.setTop (mkF m 173 #[.val (.int p1), .val (.int p2), .val (.int p3), .val (.int p4), .val (.int p5), .val (.int p6), .val (.int ca), .val (.int cb), .val (.int cc), .val (.int (own_fv p4)), .val (.int (own_fv p5)), .val (.int ww), .val (.int kk), .val (.ref b3), .val (.int (1 : Int32))] [(.int cc), (.int (own_at (own_sm fz ml56 cc (0 : Int32)) (0 : Int32)))])) τ → G τ := fun τ κ => pre τ (by
          refine XS.iload X66.here hx rfl (hb hby at_171) rfl ?_
          show Steps p.tables e below (T66.setTop (mkF m 173 #[.val (.int p1), .val (.int p2), .val (.int p3), .val (.int p4), .val (.int p5), .val (.int p6), .val (.int ca), .val (.int cb), .val (.int cc), .val (.int (own_fv p4)), .val (.int (own_fv p5)), .val (.int ww), .val (.int kk), .val (.ref b3), .val (.int (1 : Int32))] [(.int cc), (.int (own_at (own_sm fz ml56 cc (0 : Int32)) (0 : Int32)))])) τ
          exact κ)
        have hc67 : (own_at (own_sm fz ml56 cc (0 : Int32)) (0 : Int32)) = cc := own_m1 (Cz.2 _ bcc) Iv.2.1
        have pre : ∀ τ, Steps p.tables e below (T66.setTop (mkF m 180 #[.val (.int p1), .val (.int p2), .val (.int p3), .val (.int p4), .val (.int p5), .val (.int p6), .val (.int ca), .val (.int cb), .val (.int cc), .val (.int (own_fv p4)), .val (.int (own_fv p5)), .val (.int ww), .val (.int kk), .val (.ref b3), .val (.int (1 : Int32))] [(.int cc), (.ref b3)])) τ → G τ := fun τ κ => pre τ (by
          refine XS.icmpNo X66.here hx rfl (hb hby at_173) rfl (teq hc67).2 ?_
          show Steps p.tables e below (T66.setTop (mkF m 176 #[.val (.int p1), .val (.int p2), .val (.int p3), .val (.int p4), .val (.int p5), .val (.int p6), .val (.int ca), .val (.int cb), .val (.int cc), .val (.int (own_fv p4)), .val (.int (own_fv p5)), .val (.int ww), .val (.int kk), .val (.ref b3), .val (.int (1 : Int32))] [])) τ
          refine XS.aload X66.here hx rfl (hb hby at_176) rfl rfl ?_
          show Steps p.tables e below (T66.setTop (mkF m 178 #[.val (.int p1), .val (.int p2), .val (.int p3), .val (.int p4), .val (.int p5), .val (.int p6), .val (.int ca), .val (.int cb), .val (.int cc), .val (.int (own_fv p4)), .val (.int (own_fv p5)), .val (.int ww), .val (.int kk), .val (.ref b3), .val (.int (1 : Int32))] [(.ref b3)])) τ
          refine XS.iload X66.here hx rfl (hb hby at_178) rfl ?_
          show Steps p.tables e below (T66.setTop (mkF m 180 #[.val (.int p1), .val (.int p2), .val (.int p3), .val (.int p4), .val (.int p5), .val (.int p6), .val (.int ca), .val (.int cb), .val (.int cc), .val (.int (own_fv p4)), .val (.int (own_fv p5)), .val (.int ww), .val (.int kk), .val (.ref b3), .val (.int (1 : Int32))] [(.int cc), (.ref b3)])) τ
          exact κ)
        obtain ⟨cq68, kq68, q68a, q68b, q68c⟩ := isOf hZ hs66 E_b3
        obtain ⟨_, _, ⟨T68, Lx68, kx68, nx68⟩, -, X68, ⟨Lc68, hQ68, l68, y68, z68⟩, st68⟩ := X66.virtualBack hx (y := (⟨"com/example/cairn/cairn/history/Marks", "get", "(I)I"⟩ : MethodName)) (z := (⟨"com/example/cairn/cairn/history/Marks", "get", "(I)I"⟩ : MethodName)) hown (mvT hZ (hw _ (List.mem_of_getElem? (i := 37) rfl))) (mvT hZ (hw _ (List.mem_of_getElem? (i := 38) rfl))) (notFace_of_selects (args := #[]) (mvT hZ (hw _ (List.mem_of_getElem? (i := 40) rfl)))) (mvT hZ (hw _ (List.mem_of_getElem? (i := 40) rfl))) (mvT hZ (hw _ (List.mem_of_getElem? (i := 39) rfl))) (by decide) (backOf (W := 0) (rm7 l Z a0 hw [] b3 cc fc_5 kd_5 (8 : Int32) (own_sf fz cc ww) T62.heap n0 Zn F_flags_62 V_f_62 bcc) hZ (hw _ (List.mem_of_getElem? (i := 41) rfl)) (hw _ (List.mem_of_getElem? (i := 7) rfl)) (by decide) (by decide)) q68a q68c (g := (mkF m 180 #[.val (.int p1), .val (.int p2), .val (.int p3), .val (.int p4), .val (.int p5), .val (.int p6), .val (.int ca), .val (.int cb), .val (.int cc), .val (.int (own_fv p4)), .val (.int (own_fv p5)), .val (.int ww), .val (.int kk), .val (.ref b3), .val (.int (1 : Int32))] [(.int cc), (.ref b3)])) rfl (by rw [hml]; rfl) (Steps.refl _) (argsL := [(.int cc)]) (rest := []) (lenOf pd_0 rfl) rfl (by show 2 * 0 + _ ≤ _; exact Nat.le_of_eq rfl) (hb hby at_180) (fun _ _ => ⟨rfl, hs66, (by decide : 4 + 0 ≤ _), (by decide : 75 + 0 ≤ _)⟩)
        dsimp only [Pt.U, Pt.locs, Pt.cells, Pt.slots] at X68 l68 y68 z68 st68 hQ68
        subst l68 y68 z68
        obtain ⟨rfl, Nq68, hs68⟩ := hQ68
        have NN := Fr.app NN Nq68
        have pre : ∀ τ, Steps p.tables e below (T68.setTop (mkF m 183 #[.val (.int p1), .val (.int p2), .val (.int p3), .val (.int p4), .val (.int p5), .val (.int p6), .val (.int ca), .val (.int cb), .val (.int cc), .val (.int (own_fv p4)), .val (.int (own_fv p5)), .val (.int ww), .val (.int kk), .val (.ref b3), .val (.int (1 : Int32))] [(.int (own_at (own_sf fz cc ww) cc &&& (255 : Int32)))])) τ → G τ := fun τ κ => pre τ (st68.trans κ)
        have pre : ∀ τ, Steps p.tables e below (T68.setTop (mkF m 185 #[.val (.int p1), .val (.int p2), .val (.int p3), .val (.int p4), .val (.int p5), .val (.int p6), .val (.int ca), .val (.int cb), .val (.int cc), .val (.int (own_fv p4)), .val (.int (own_fv p5)), .val (.int ww), .val (.int kk), .val (.ref b3), .val (.int (1 : Int32))] [(.int ww), (.int (own_at (own_sf fz cc ww) cc &&& (255 : Int32)))])) τ → G τ := fun τ κ => pre τ (by
          refine XS.iload X68.here hx rfl (hb hby at_183) rfl ?_
          show Steps p.tables e below (T68.setTop (mkF m 185 #[.val (.int p1), .val (.int p2), .val (.int p3), .val (.int p4), .val (.int p5), .val (.int p6), .val (.int ca), .val (.int cb), .val (.int cc), .val (.int (own_fv p4)), .val (.int (own_fv p5)), .val (.int ww), .val (.int kk), .val (.ref b3), .val (.int (1 : Int32))] [(.int ww), (.int (own_at (own_sf fz cc ww) cc &&& (255 : Int32)))])) τ
          exact κ)
        have hc69 : (own_at (own_sf fz cc ww) cc &&& (255 : Int32)) = ww := own_gv bcc Cz.1 bww
        have pre : ∀ τ, Steps p.tables e below (T68.setTop (mkF m 193 #[.val (.int p1), .val (.int p2), .val (.int p3), .val (.int p4), .val (.int p5), .val (.int p6), .val (.int ca), .val (.int cb), .val (.int cc), .val (.int (own_fv p4)), .val (.int (own_fv p5)), .val (.int ww), .val (.int kk), .val (.ref b3), .val (.int (1 : Int32))] [(.int (1 : Int32))])) τ → G τ := fun τ κ => pre τ (by
          refine XS.icmpNo X68.here hx rfl (hb hby at_185) rfl (teq hc69).2 ?_
          show Steps p.tables e below (T68.setTop (mkF m 188 #[.val (.int p1), .val (.int p2), .val (.int p3), .val (.int p4), .val (.int p5), .val (.int p6), .val (.int ca), .val (.int cb), .val (.int cc), .val (.int (own_fv p4)), .val (.int (own_fv p5)), .val (.int ww), .val (.int kk), .val (.ref b3), .val (.int (1 : Int32))] [])) τ
          refine XS.iconst X68.here hx rfl (hb hby at_188) ?_
          show Steps p.tables e below (T68.setTop (mkF m 189 #[.val (.int p1), .val (.int p2), .val (.int p3), .val (.int p4), .val (.int p5), .val (.int p6), .val (.int ca), .val (.int cb), .val (.int cc), .val (.int (own_fv p4)), .val (.int (own_fv p5)), .val (.int ww), .val (.int kk), .val (.ref b3), .val (.int (1 : Int32))] [(.int (1 : Int32))])) τ
          refine XS.goto X68.here hx rfl (pc0 := 189) (pc' := 193) rfl (hb hby at_189) (by decide) (by decide) ?_
          show Steps p.tables e below (T68.setTop (mkF m 193 #[.val (.int p1), .val (.int p2), .val (.int p3), .val (.int p4), .val (.int p5), .val (.int p6), .val (.int ca), .val (.int cb), .val (.int cc), .val (.int (own_fv p4)), .val (.int (own_fv p5)), .val (.int ww), .val (.int kk), .val (.ref b3), .val (.int (1 : Int32))] [(.int (1 : Int32))])) τ
          exact κ)
        obtain ⟨fsα, hr, hrun, hended, hW, hsame⟩ := X68.leave (v := some (.int (1 : Int32))) (fun h => by rw [Bd.returns] at h; cases h)
        refine hGL ⟨_, _, hG _ (pre _ ?_), hrun, hended, _, _, rfl, ?_, ⟨_, rfl⟩, hW, hsame.mono (by decide) (by decide)⟩
        · exact retN X68 hx (t := .boolean) Bd.returns (by simp) (hb hby at_193) hr
        · show Q0 Z p1 p2 p3 p4 p5 p6 h0 n0 _ T68.heap _
          rw [hs68]
          exact ⟨rfl, NN⟩
set_option maxRecDepth 65536 in
set_option maxHeartbeats 40000000 in
theorem comes_1 {Post : Tables → Env → Array Value → State → Outcome → State → Prop} (hpost : ∀ tb e args s v u, (limb_1_1.after args s (.returned v) u = true ∧ limb_1_2.after args s (.returned v) u = true ∧ True) → FrameEnd s (.returned v) u (Jvm.fieldLocs frame_1_writes args s ++ Jvm.arrayLocs frame_1_arrays args s ++ Jvm.staticLocs frame_1_statics s) 16 256 → Post tb e args s (.returned v) u) :
    ArmFor flags0 classFile x code maxLocals ret World_1 tables_1 room_1 Calls_1 rest_1 Pre_1 Post := by
  intro l hfl _ _ p e ha hc hk s m args below hf hA hF happ hP
  obtain ⟨hcalls, hrest, hpre⟩ := hP
  obtain ⟨-, -, -, hnamed, -, -, -, hat⟩ := (Spec.applies_iff hf).mp happ
  obtain ⟨hg, hn⟩ := and_e (Cond.before_iff.mp (show (Jvm.Cond.and given_1 narrow_1).before args s = true from hpre))
  obtain ⟨gv1, gv2⟩ := and_e hg
  obtain ⟨gv3, gv4⟩ := and_e gv2
  obtain ⟨gv5, gv6⟩ := and_e gv4
  obtain ⟨gv7, gv8⟩ := and_e gv6
  obtain ⟨gv9, gv10⟩ := and_e gv8
  obtain ⟨gv11, gv12⟩ := and_e gv10
  obtain ⟨w0, w1, w2, w3, w4, w5, rfl⟩ : ∃ w0 w1 w2 w3 w4 w5 : Value, args = #[w0, w1, w2, w3, w4, w5] := by
    have hs : args.size = 6 := by simpa [Cond.value, given_1] using gv1
    obtain ⟨L⟩ := args
    match L, hs with
    | [w0, w1, w2, w3, w4, w5], _ => exact ⟨w0, w1, w2, w3, w4, w5, rfl⟩
  have hw := fun d (hd : d ∈ tables_1) => atoms_spec (ws := Jvm.Cond.code x code maxLocals ret :: tables_1) hat d (List.mem_cons_of_mem _ hd)
  have hfit : Fit s := fun {y c} hc i hi => by
    obtain ⟨ha, rfl⟩ := Array.getElem?_eq_some_iff.mp hc
    have q := List.all_eq_true.mp ((Array.all_eq_true_iff_forall_mem.mp hF) _ (Array.getElem_mem ha)) i (List.mem_range.mpr hi)
    simpa [Array.getElem?_eq_getElem hi] using q
  obtain ⟨i0, ei0⟩ := is_v gv3
  obtain rfl : w0 = (.int i0) := Option.some.inj ei0
  obtain ⟨i1, ei1⟩ := is_v gv5
  obtain rfl : w1 = (.int i1) := Option.some.inj ei1
  obtain ⟨i2, ei2⟩ := is_v gv7
  obtain rfl : w2 = (.int i2) := Option.some.inj ei2
  obtain ⟨i3, ei3⟩ := is_v gv9
  obtain rfl : w3 = (.int i3) := Option.some.inj ei3
  obtain ⟨i4, ei4⟩ := is_v gv11
  obtain rfl : w4 = (.int i4) := Option.some.inj ei4
  obtain ⟨i5, ei5⟩ := is_v gv12
  obtain rfl : w5 = (.int i5) := Option.some.inj ei5
  obtain ⟨n, o, h1, h2, h3, _, L, rfl, ⟨rfl, N⟩, hq⟩ := rm0 l s _ hw tables_1 i0 i1 i2 i3 i4 i5  s.heap s.heap.size (Nat.le_refl _)  p e ha hc hk s m _ below hf ((Spec.applies_iff_loose hf).mp happ).1 ⟨rfl, State.Warmed39.refl s, rfl⟩ trivial
  refine ⟨n, _, h1, h2, h3, hpost _ _ _ _ _ _ ⟨Cond.after_iff.mpr rfl, Cond.after_iff.mpr (eq_i res_at (Term.int_eval (1)) rfl), trivial⟩ ⟨hq.1, hq.2.1, (hq.2.2.sift fun y hy => Or.inr (N y hy)).mono (by decide) (by decide)⟩⟩
theorem main_1_1 : Claimed_1_1 := comes_1 fun _ _ _ _ _ _ h hF => ⟨h.1, hF⟩
theorem main_1_2 : Claimed_1_2 := comes_1 fun _ _ _ _ _ _ h hF => ⟨h.2.1, hF⟩
end Jvm.Pilot.@@N@@
namespace Jvm.Pilot.@@N@@
open Jvm Jvm.ClassFile Sem Op Lib Jvm.Free Jvm.Stand Jvm.Pilot.@@N@@.Jvm.D
/-! MADE BY PROGRAM (witnessworld.py) out of the Statement's table words and the real class files: 9 classes; the members and pool entries that the words name. The judged class is class 1, her method 2. -/
namespace start1
open Jvm.ClassFile
def u (s : String) : CpInfo := .utf8 (stringToUtf16 s)
/-- a pool by its gaps: so many unusable entries, then the entry; so many at the end -/
def gap : Nat → List CpInfo → List CpInfo
  | 0, r => r
  | n + 1, r => .unusable :: gap n r
def poolList (es : List (Nat × CpInfo)) (last : Nat) : List CpInfo := es.foldr (fun e r => gap e.1 (e.2 :: r)) (gap last [])
def pool (es : List (Nat × CpInfo)) (last : Nat) : Array CpInfo := ⟨poolList es last⟩
def fileOf (pool : Array CpInfo) (this : Nat) (attrs : Array Attribute := #[]) (ms : Array MethodInfo := #[]) (fl : Nat := 33) (sup : Nat := 0) (ifs : Array Nat := #[]) (fds : Array FieldInfo := #[]) : ClassFile where
  minorVersion := 0
  majorVersion := 65
  constantPool := pool
  accessFlags := fl
  thisClass := this
  superClass := sup
  interfaces := ifs
  fields := fds
  methods := ms
  attributes := attrs
def plain (name : String) (sup : Option ClassId) : Class where
  name := name
  kind := .ordinary
  loader := none
  accessFlags := 33
  super := sup
  interfaces := #[]
  cf := none
  fields := #[]
  methods := #[]
  instanceTypes := #[]
  staticTypes := #[]
  resolved := #[]
  callSites := []
  init := .initialized
  statics := none
  mirror := none

def pool0 : Array CpInfo := pool [(5, u "<init>"), (0, u "()V"), (1, .class_ 10), (1, u "java/lang/Object")] 113

def k0c0 : Code := { maxStack := 0, maxLocals := 1, code := object_method_1_code, exceptionTable := #[], attributes := #[] }
def k0m0 : Method := { name := "<init>", desc := "()V", sig := { parameters := [], returnType := none }, accessFlags := 1, code := some k0c0 }
/-- java/lang/Object -/
def k0 : Class := { plain "java/lang/Object" none with
  accessFlags := 33
  interfaces := #[]
  cf := some (fileOf pool0 8 #[] #[{ accessFlags := 1, nameIndex := 5, descriptorIndex := 6, attributes := #[] }] 33 0 #[] #[])
  fields := #[]
  methods := #[k0m0]
  instanceTypes := #[]
  staticTypes := #[]
  resolved := Array.replicate 124 none
  statics := none }

def pool1 : Array CpInfo := pool [(2, .class_ 4), (0, .nameAndType 5 6), (0, u "java/lang/Object"), (0, u "<init>"), (0, u "()V"), (0, .integer 2147483647), (0, .methodref 9 10), (0, .class_ 11), (0, .nameAndType 12 13), (0, u "com/example/cairn/cairn/history/MarksClearPinLaw"), (0, u "flagValue"), (0, u "(I)I"), (0, .class_ 15), (0, u "com/example/cairn/cairn/history/Marks"), (0, .methodref 14 3), (0, .methodref 14 18), (0, .nameAndType 19 20), (0, u "reserve"), (0, u "(I)V"), (0, .methodref 14 22), (0, .nameAndType 23 24), (0, u "set"), (0, u "(II)V"), (0, .methodref 14 26), (0, .nameAndType 27 6), (0, u "clear"), (0, .methodref 14 29), (0, .nameAndType 30 13), (0, u "get"), (0, .methodref 14 32), (0, .nameAndType 33 34), (0, u "count"), (0, u "()I"), (0, .methodref 14 36), (0, .nameAndType 37 13), (0, u "commit"), (2, u "law"), (0, u "(IIIIII)Z")] 3

def k1m0 : Method := { name := "<init>", desc := "()V", sig := { parameters := [], returnType := none }, accessFlags := 1, code := none }
def k1c1 : Code := { maxStack := 2, maxLocals := 1, code := method_2_code, exceptionTable := #[], attributes := #[] }
def k1m1 : Method := { name := "flagValue", desc := "(I)I", sig := { parameters := [.int], returnType := some .int }, accessFlags := 10, code := some k1c1 }
def k1c2 : Code := { maxStack := 3, maxLocals := 15, code := code, exceptionTable := #[], attributes := #[] }
def k1m2 : Method := { name := "law", desc := "(IIIIII)Z", sig := { parameters := [.int, .int, .int, .int, .int, .int], returnType := some .boolean }, accessFlags := 9, code := some k1c2 }
/-- com/example/cairn/cairn/history/MarksClearPinLaw -/
def k1 : Class := { plain "com/example/cairn/cairn/history/MarksClearPinLaw" (some 0) with
  accessFlags := 49
  interfaces := #[]
  cf := some (fileOf pool1 9 #[] #[{ accessFlags := 1, nameIndex := 5, descriptorIndex := 6, attributes := #[] }, { accessFlags := 10, nameIndex := 12, descriptorIndex := 13, attributes := #[] }, { accessFlags := 9, nameIndex := 40, descriptorIndex := 41, attributes := #[] }] 49 2 #[] #[])
  fields := #[]
  methods := #[k1m0, k1m1, k1m2]
  instanceTypes := #[]
  staticTypes := #[]
  resolved := Array.replicate 45 none
  statics := none }

def pool2 : Array CpInfo := pool [(1, .methodref 2 3), (0, .class_ 4), (0, .nameAndType 5 6), (0, u "java/lang/Object"), (0, u "<init>"), (0, u "()V"), (0, .fieldref 8 9), (0, .class_ 10), (0, .nameAndType 11 12), (0, u "com/example/cairn/cairn/history/Marks"), (0, u "flags"), (0, u "[B"), (0, .fieldref 8 14), (0, .nameAndType 15 16), (0, u "marked"), (0, u "[I"), (0, .fieldref 8 18), (0, .nameAndType 19 20), (0, u "count"), (0, u "I"), (8, u "reserve"), (0, u "(I)V"), (1, u "get"), (0, u "(I)I"), (0, u "set"), (0, u "(II)V"), (0, u "()I"), (0, u "commit"), (0, u "clear")] 2

def k2c0 : Code := { maxStack := 2, maxLocals := 1, code := prog_27_method_1_code, exceptionTable := #[], attributes := #[] }
def k2m0 : Method := { name := "<init>", desc := "()V", sig := { parameters := [], returnType := none }, accessFlags := 0, code := some k2c0 }
def k2c1 : Code := { maxStack := 2, maxLocals := 2, code := prog_27_method_2_code, exceptionTable := #[], attributes := #[] }
def k2m1 : Method := { name := "reserve", desc := "(I)V", sig := { parameters := [.int], returnType := none }, accessFlags := 0, code := some k2c1 }
def k2c2 : Code := { maxStack := 2, maxLocals := 2, code := prog_27_method_3_code, exceptionTable := #[], attributes := #[] }
def k2m2 : Method := { name := "get", desc := "(I)I", sig := { parameters := [.int], returnType := some .int }, accessFlags := 0, code := some k2c2 }
def k2c3 : Code := { maxStack := 5, maxLocals := 3, code := prog_27_method_4_code, exceptionTable := #[], attributes := #[] }
def k2m3 : Method := { name := "set", desc := "(II)V", sig := { parameters := [.int, .int], returnType := none }, accessFlags := 0, code := some k2c3 }
def k2c4 : Code := { maxStack := 1, maxLocals := 1, code := prog_27_method_5_code, exceptionTable := #[], attributes := #[] }
def k2m4 : Method := { name := "count", desc := "()I", sig := { parameters := [], returnType := some .int }, accessFlags := 0, code := some k2c4 }
def k2c5 : Code := { maxStack := 2, maxLocals := 2, code := prog_27_method_6_code, exceptionTable := #[], attributes := #[] }
def k2m5 : Method := { name := "commit", desc := "(I)I", sig := { parameters := [.int], returnType := some .int }, accessFlags := 0, code := some k2c5 }
def k2c6 : Code := { maxStack := 3, maxLocals := 2, code := prog_27_method_7_code, exceptionTable := #[], attributes := #[] }
def k2m6 : Method := { name := "clear", desc := "()V", sig := { parameters := [], returnType := none }, accessFlags := 0, code := some k2c6 }
/-- com/example/cairn/cairn/history/Marks -/
def k2 : Class := { plain "com/example/cairn/cairn/history/Marks" (some 0) with
  accessFlags := 48
  interfaces := #[]
  cf := some (fileOf pool2 8 #[] #[{ accessFlags := 0, nameIndex := 5, descriptorIndex := 6, attributes := #[] }, { accessFlags := 0, nameIndex := 29, descriptorIndex := 30, attributes := #[] }, { accessFlags := 0, nameIndex := 32, descriptorIndex := 33, attributes := #[] }, { accessFlags := 0, nameIndex := 34, descriptorIndex := 35, attributes := #[] }, { accessFlags := 0, nameIndex := 19, descriptorIndex := 36, attributes := #[] }, { accessFlags := 0, nameIndex := 37, descriptorIndex := 33, attributes := #[] }, { accessFlags := 0, nameIndex := 38, descriptorIndex := 6, attributes := #[] }] 48 2 #[] #[{ accessFlags := 2, nameIndex := 11, descriptorIndex := 12, attributes := #[] }, { accessFlags := 2, nameIndex := 15, descriptorIndex := 16, attributes := #[] }, { accessFlags := 2, nameIndex := 19, descriptorIndex := 20, attributes := #[] }])
  fields := #[{ name := "flags", type := (.array .byte), accessFlags := 2, slot := 0, constantValue := 0 }, { name := "marked", type := (.array .int), accessFlags := 2, slot := 1, constantValue := 0 }, { name := "count", type := .int, accessFlags := 2, slot := 2, constantValue := 0 }]
  methods := #[k2m0, k2m1, k2m2, k2m3, k2m4, k2m5, k2m6]
  instanceTypes := #[(.array .byte), (.array .int), .int]
  staticTypes := #[]
  resolved := Array.replicate 41 none
  statics := none }

def pool3 : Array CpInfo := pool [(1, u "java/lang/Cloneable"), (0, .class_ 1), (0, u "java/lang/Object"), (0, .class_ 3)] 3

/-- java/lang/Cloneable -/
def k3 : Class := { plain "java/lang/Cloneable" (some 0) with
  accessFlags := 1537
  interfaces := #[]
  cf := some (fileOf pool3 2 #[] #[] 1537 4 #[] #[])
  fields := #[]
  methods := #[]
  instanceTypes := #[]
  staticTypes := #[]
  resolved := Array.replicate 8 none
  statics := none }

def pool4 : Array CpInfo := pool [(1, u "java/io/Serializable"), (0, .class_ 1), (0, u "java/lang/Object"), (0, .class_ 3)] 3

/-- java/io/Serializable -/
def k4 : Class := { plain "java/io/Serializable" (some 0) with
  accessFlags := 1537
  interfaces := #[]
  cf := some (fileOf pool4 2 #[] #[] 1537 4 #[] #[])
  fields := #[]
  methods := #[]
  instanceTypes := #[]
  staticTypes := #[]
  resolved := Array.replicate 8 none
  statics := none }

/-- the primitive byte -/
def k5 : Class := { plain "byte" none with kind := .primitive 'B', accessFlags := 0x411 }
/-- [B -/
def k6 : Class := { plain "[B" (some 0) with kind := .array 5 .byte, interfaces := #[3, 4], accessFlags := 1041 }

/-- the primitive int -/
def k7 : Class := { plain "int" none with kind := .primitive 'I', accessFlags := 0x411 }
/-- [I -/
def k8 : Class := { plain "[I" (some 0) with kind := .array 7 .int, interfaces := #[3, 4], accessFlags := 1041 }

def heap : Heap := #[]
def classes : Array Class := #[k0, k1, k2, k3, k4, k5, k6, k7, k8]
def interned : List (Array UInt16 × Addr) := []
def slotsUsed : Nat := 0
def theMethod : MethodId := ⟨1, 2⟩
def args0 : Array Value := #[.int 1, .int 5, .int 9, .int 77, .int 3, .int 2]
def aboutOver (below : List Frame) : State where
  vm := { classes := classes, interned := interned.toArray }
  heap := heap
  slotsUsed := slotsUsed
  threads := #[{ frames := .invoking theMethod args0 :: below }]
def below0 : List Frame := [.native { method := ⟨0, 0⟩, args := #[] }]
def about1 : State := aboutOver below0
def p0 : Program := .bare "" "" ""
def e0 : Env := launch0.env 0 0 0
theorem w_frames : about1.frames = Frame.invoking theMethod args0 :: below0 := rfl
set_option maxRecDepth 65536 in
theorem w_args : argsFit about1.vm theMethod args0 = true := by decide +kernel
set_option maxRecDepth 65536 in
theorem w_heap : heapFits about1 = true := by decide +kernel
set_option maxRecDepth 65536 in
theorem w_runnable : about1.curStatus? = some .runnable := by decide +kernel
set_option maxRecDepth 65536 in
theorem w_alone : about1.alone = true := by decide +kernel
set_option maxRecDepth 65536 in
theorem w_named : about1.methodNamed? x = some theMethod := by decide +kernel
set_option maxRecDepth 65536 in
theorem w_hears : about1.hears theMethod below0 = true := by decide +kernel
set_option maxRecDepth 65536 in
theorem w_ripe : about1.ripe theMethod args0 below0 = true := by decide +kernel
theorem w_running : about1.status = .running := rfl
set_option maxRecDepth 65536 in
theorem w_room : about1.hasRoom e0.platform room_1 = true :=
  launch0.hasRoom_least _ room_1 (by decide +kernel) (by decide +kernel) (by decide +kernel) (by decide +kernel) (by decide +kernel) (by decide +kernel)
theorem allAtoms_all (ts : List Jvm.Cond) (a : Array Jvm.Value) (st : Jvm.State) : (allAtoms ts).before a st = ts.all (fun c => c.before a st) := by
  induction ts with
  | nil => rfl
  | cons c t ih =>
    show (Jvm.Cond.and c (allAtoms t)).before a st = _
    rw [Jvm.Cond.before_and, ih, List.all_cons]
def words1 : List Jvm.Cond := Jvm.Cond.code x code maxLocals ret :: tables_1
/-- a 'code' word, met by the world's own term for the bytes: nothing is compared byte by byte -/
theorem code_word {y : MethodName} {bytes : ByteArray} {mx : Nat} {rt : Option FieldType} {a : Array Value} {s : State} {m : MethodId} {meth : Method} {c : Code} (h1 : s.methodNamed? y = some m) (h2 : s.vm.method? m = some meth) (h3 : meth.code = some c) (h4 : c.code = bytes)
    (h5 : (c.maxLocals == mx && c.exceptionTable.isEmpty && decide (c.maxStack ≤ mostOperands) && decide (meth.sig.returnType = rt) && !meth.locks && decide (parseMethodDescriptor y.desc = some meth.sig)) = true) : (Jvm.Cond.code y bytes mx rt).before a s = true := by
  simp only [Bool.and_eq_true, beq_iff_eq, Bool.not_eq_true', decide_eq_true_eq] at h5
  obtain ⟨⟨⟨⟨⟨g1, g2⟩, g3⟩, g4⟩, g5⟩, g6⟩ := h5
  simp [Cond.before, Cond.holds, Cond.value, h1, h2, h3, h4, g1, g2, g3, g4, g5, g6]
def isCode : Jvm.Cond → Bool
  | .code _ _ _ _ => true
  | _ => false
theorem all_split {L : List Jvm.Cond} {P : Jvm.Cond → Bool} (h1 : L.all (fun c => isCode c || P c) = true) (h2 : ∀ c ∈ L.filter isCode, P c = true) : L.all P = true := by
  refine List.all_eq_true.mpr fun c hc => ?_
  have h := List.all_eq_true.mp h1 c hc
  rcases Bool.eq_false_or_eq_true (isCode c) with hi | hi
  · exact h2 c (List.mem_filter.mpr ⟨hc, hi⟩)
  · simpa [hi] using h
set_option maxRecDepth 65536 in
theorem w_c0 : (Jvm.Cond.code x code maxLocals ret).before args0 about1 = true := code_word (m := ⟨1, 2⟩) (meth := k1m2) (c := k1c2) (by decide +kernel) rfl rfl rfl (by decide +kernel)
set_option maxRecDepth 65536 in
theorem w_c1 : (Jvm.Cond.code ({ cls := "com/example/cairn/cairn/history/MarksClearPinLaw", name := "flagValue", desc := "(I)I" } : Jvm.MethodName) method_2_code (1 : Nat) (Option.some Jvm.ClassFile.FieldType.int)).before args0 about1 = true := code_word (m := ⟨1, 1⟩) (meth := k1m1) (c := k1c1) (by decide +kernel) rfl rfl rfl (by decide +kernel)
set_option maxRecDepth 65536 in
theorem w_c2 : (Jvm.Cond.code ({ cls := "com/example/cairn/cairn/history/Marks", name := "<init>", desc := "()V" } : Jvm.MethodName) prog_27_method_1_code (1 : Nat) (Option.none : Option Jvm.ClassFile.FieldType)).before args0 about1 = true := code_word (m := ⟨2, 0⟩) (meth := k2m0) (c := k2c0) (by decide +kernel) rfl rfl rfl (by decide +kernel)
set_option maxRecDepth 65536 in
theorem w_c3 : (Jvm.Cond.code ({ cls := "java/lang/Object", name := "<init>", desc := "()V" } : Jvm.MethodName) object_method_1_code (1 : Nat) (Option.none : Option Jvm.ClassFile.FieldType)).before args0 about1 = true := code_word (m := ⟨0, 0⟩) (meth := k0m0) (c := k0c0) (by decide +kernel) rfl rfl rfl (by decide +kernel)
set_option maxRecDepth 65536 in
theorem w_c4 : (Jvm.Cond.code ({ cls := "com/example/cairn/cairn/history/Marks", name := "reserve", desc := "(I)V" } : Jvm.MethodName) prog_27_method_2_code (2 : Nat) (Option.none : Option Jvm.ClassFile.FieldType)).before args0 about1 = true := code_word (m := ⟨2, 1⟩) (meth := k2m1) (c := k2c1) (by decide +kernel) rfl rfl rfl (by decide +kernel)
set_option maxRecDepth 65536 in
theorem w_c5 : (Jvm.Cond.code ({ cls := "com/example/cairn/cairn/history/Marks", name := "set", desc := "(II)V" } : Jvm.MethodName) prog_27_method_4_code (3 : Nat) (Option.none : Option Jvm.ClassFile.FieldType)).before args0 about1 = true := code_word (m := ⟨2, 3⟩) (meth := k2m3) (c := k2c3) (by decide +kernel) rfl rfl rfl (by decide +kernel)
set_option maxRecDepth 65536 in
theorem w_c6 : (Jvm.Cond.code ({ cls := "com/example/cairn/cairn/history/Marks", name := "clear", desc := "()V" } : Jvm.MethodName) prog_27_method_7_code (2 : Nat) (Option.none : Option Jvm.ClassFile.FieldType)).before args0 about1 = true := code_word (m := ⟨2, 6⟩) (meth := k2m6) (c := k2c6) (by decide +kernel) rfl rfl rfl (by decide +kernel)
set_option maxRecDepth 65536 in
theorem w_c7 : (Jvm.Cond.code ({ cls := "com/example/cairn/cairn/history/Marks", name := "get", desc := "(I)I" } : Jvm.MethodName) prog_27_method_3_code (2 : Nat) (Option.some Jvm.ClassFile.FieldType.int)).before args0 about1 = true := code_word (m := ⟨2, 2⟩) (meth := k2m2) (c := k2c2) (by decide +kernel) rfl rfl rfl (by decide +kernel)
set_option maxRecDepth 65536 in
theorem w_c8 : (Jvm.Cond.code ({ cls := "com/example/cairn/cairn/history/Marks", name := "count", desc := "()I" } : Jvm.MethodName) prog_27_method_5_code (1 : Nat) (Option.some Jvm.ClassFile.FieldType.int)).before args0 about1 = true := code_word (m := ⟨2, 4⟩) (meth := k2m4) (c := k2c4) (by decide +kernel) rfl rfl rfl (by decide +kernel)
set_option maxRecDepth 65536 in
theorem w_c9 : (Jvm.Cond.code ({ cls := "com/example/cairn/cairn/history/Marks", name := "commit", desc := "(I)I" } : Jvm.MethodName) prog_27_method_6_code (2 : Nat) (Option.some Jvm.ClassFile.FieldType.int)).before args0 about1 = true := code_word (m := ⟨2, 5⟩) (meth := k2m5) (c := k2c5) (by decide +kernel) rfl rfl rfl (by decide +kernel)
def codes1 : List Jvm.Cond := [Jvm.Cond.code x code maxLocals ret, Jvm.Cond.code ({ cls := "com/example/cairn/cairn/history/MarksClearPinLaw", name := "flagValue", desc := "(I)I" } : Jvm.MethodName) method_2_code (1 : Nat) (Option.some Jvm.ClassFile.FieldType.int), Jvm.Cond.code ({ cls := "com/example/cairn/cairn/history/Marks", name := "<init>", desc := "()V" } : Jvm.MethodName) prog_27_method_1_code (1 : Nat) (Option.none : Option Jvm.ClassFile.FieldType), Jvm.Cond.code ({ cls := "java/lang/Object", name := "<init>", desc := "()V" } : Jvm.MethodName) object_method_1_code (1 : Nat) (Option.none : Option Jvm.ClassFile.FieldType), Jvm.Cond.code ({ cls := "com/example/cairn/cairn/history/Marks", name := "reserve", desc := "(I)V" } : Jvm.MethodName) prog_27_method_2_code (2 : Nat) (Option.none : Option Jvm.ClassFile.FieldType), Jvm.Cond.code ({ cls := "com/example/cairn/cairn/history/Marks", name := "set", desc := "(II)V" } : Jvm.MethodName) prog_27_method_4_code (3 : Nat) (Option.none : Option Jvm.ClassFile.FieldType), Jvm.Cond.code ({ cls := "com/example/cairn/cairn/history/Marks", name := "clear", desc := "()V" } : Jvm.MethodName) prog_27_method_7_code (2 : Nat) (Option.none : Option Jvm.ClassFile.FieldType), Jvm.Cond.code ({ cls := "com/example/cairn/cairn/history/Marks", name := "get", desc := "(I)I" } : Jvm.MethodName) prog_27_method_3_code (2 : Nat) (Option.some Jvm.ClassFile.FieldType.int), Jvm.Cond.code ({ cls := "com/example/cairn/cairn/history/Marks", name := "count", desc := "()I" } : Jvm.MethodName) prog_27_method_5_code (1 : Nat) (Option.some Jvm.ClassFile.FieldType.int), Jvm.Cond.code ({ cls := "com/example/cairn/cairn/history/Marks", name := "commit", desc := "(I)I" } : Jvm.MethodName) prog_27_method_6_code (2 : Nat) (Option.some Jvm.ClassFile.FieldType.int)]
set_option maxRecDepth 65536 in
theorem codes_eq : words1.filter isCode = codes1 := rfl
theorem w_codes : ∀ c ∈ words1.filter isCode, c.before args0 about1 = true := by
  rw [codes_eq]
  intro c hc
  simp only [codes1, List.mem_cons, List.not_mem_nil, or_false] at hc
  rcases hc with rfl | rfl | rfl | rfl | rfl | rfl | rfl | rfl | rfl | rfl
  · exact w_c0
  · exact w_c1
  · exact w_c2
  · exact w_c3
  · exact w_c4
  · exact w_c5
  · exact w_c6
  · exact w_c7
  · exact w_c8
  · exact w_c9
set_option maxRecDepth 65536 in
theorem w_t1 : (words1.take 24).all (fun c => isCode c || c.before args0 about1) = true := by decide +kernel
set_option maxRecDepth 65536 in
theorem w_t2 : ((words1.drop 24).take 24).all (fun c => isCode c || c.before args0 about1) = true := by decide +kernel
set_option maxRecDepth 65536 in
theorem w_t3 : ((words1.drop 24).drop 24).all (fun c => isCode c || c.before args0 about1) = true := by decide +kernel
theorem w_tables : (allAtoms (Jvm.Cond.code x code maxLocals ret :: tables_1)).before args0 about1 = true := by
  rw [allAtoms_all]
  show words1.all (fun c => c.before args0 about1) = true
  refine all_split ?_ w_codes
  rw [← List.take_append_drop 24 words1, List.all_append, w_t1, ← List.take_append_drop 24 (words1.drop 24), List.all_append, w_t2, w_t3]
  rfl
set_option maxRecDepth 65536 in
theorem w_case : (Jvm.Cond.and given_1 narrow_1).before args0 about1 = true := by decide +kernel
theorem w_applies : (headSpec (Jvm.Cond.code x code maxLocals ret :: tables_1) room_1).applies x e0.platform about1 = true :=
  (Spec.applies_iff w_frames).mpr ⟨w_running, w_runnable, w_alone, w_named, w_hears, w_ripe, w_room, w_tables⟩
theorem atStart : AtStart classFile x code maxLocals ret World_1 tables_1 room_1 Calls_1 rest_1 Pre_1 launch0 p0 e0 about1 theMethod args0 below0 :=
  ⟨lists_1, trivial, launch0.admits_env _ _ _, launch0.least_env, fairChoices_fair.cas, fairChoices_fair.clock, w_frames, w_args, w_heap, w_applies, trivial, trivial, w_case⟩
end start1
theorem witness_1 : WitnessClaimed_1 := ⟨start1.p0, start1.e0, start1.about1, start1.theMethod, start1.args0, start1.below0, start1.atStart⟩
end Jvm.Pilot.@@N@@
