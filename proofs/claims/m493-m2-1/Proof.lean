import JvmDerived
import JvmDerived.Pilot.@@N@@Statement
import JvmDerived.Pilot.@@N@@Code
set_option linter.unusedVariables false
set_option linter.unusedSimpArgs false
namespace Jvm.Pilot.@@N@@
open Jvm Jvm.ClassFile Sem Op Lib Jvm.Free Jvm.Stand Jvm.LawKit Jvm.RoadKit Bundle Jvm.Pilot.@@N@@.Jvm.D
theorem own_wrap {A : Prop} (h : ∀ GL : Prop, (A → GL) → GL) : A := h A id
def own_at (vs : List Value) (j : Int32) : Int32 := match vs.getD j.toNatClampNeg (.int (0 : Int32)) with | .int x => x | _ => 0
theorem own_getB {c : Cell} {vs : List Value} {j : Int32} (H : Has c vs (.int (0 : Int32))) (G : ∀ i, i < c.slots.size → fits .byte (vs.getD i (.int (0 : Int32))) = true) (q : ¬ (j < 0 ∨ c.slots.size ≤ j.toNatClampNeg)) : c.slots[j.toNatClampNeg]? = some (.int (own_at vs j)) := by
  have hlt : j.toNatClampNeg < c.slots.size := Nat.lt_of_not_le fun y => q (Or.inr y)
  obtain ⟨x, hx⟩ := fit_I (G _ hlt) (Or.inr (Or.inr (Or.inl rfl)))
  rw [H _ hlt, hx]
  unfold own_at
  rw [hx]
theorem own_getI {c : Cell} {vs : List Value} {j : Int32} (H : Has c vs (.int (0 : Int32))) (G : ∀ i, i < c.slots.size → fits .int (vs.getD i (.int (0 : Int32))) = true) (q : ¬ (j < 0 ∨ c.slots.size ≤ j.toNatClampNeg)) : c.slots[j.toNatClampNeg]? = some (.int (own_at vs j)) := by
  have hlt : j.toNatClampNeg < c.slots.size := Nat.lt_of_not_le fun y => q (Or.inr y)
  obtain ⟨x, hx⟩ := fit_I (G _ hlt) (Or.inl rfl)
  rw [H _ hlt, hx]
  unfold own_at
  rw [hx]
def own_rz (z k : Int32) : Int32 := if z < k then k else z
def own_rf (z k : Int32) (fs : List Value) : List Value := if z < k then List.replicate k.toNatClampNeg (.int (0 : Int32)) else fs
theorem own_zero {Z : State} {h : Heap} {a : Addr} {k : ClassId} {ty : FieldType} {z : Int32} (F : Arv Z h a k ty z [] (.int (0 : Int32))) : Arv Z h a k ty z (List.replicate z.toNatClampNeg (.int (0 : Int32))) (.int (0 : Int32)) := F.pad (pad_rep [] _ _)
def own_sc (fs : List Value) (k cn : Int32) : Int32 := if own_at fs k = (0 : Int32) then cn + (1 : Int32) else cn
def own_sm (fs ms : List Value) (k cn : Int32) : List Value := if own_at fs k = (0 : Int32) then ms.set cn.toNatClampNeg (.int k) else ms
abbrev own_sf (fs : List Value) (k v : Int32) : List Value := fs.set k.toNatClampNeg (.int (nar .byte v.toInt8.toInt32))
theorem own_nat {j : Int32} (h : 0 ≤ j.toInt) : (j.toNatClampNeg : Int) = j.toInt := by
  refine (nat_of ?_).symm
  rw [Int32.lt_iff_toInt_lt]
  have k : (0 : Int32).toInt = 0 := by decide
  omega
theorem own_ge {j : Int32} (h : ¬ j < 0) : 0 ≤ j.toInt := by
  rw [Int32.lt_iff_toInt_lt] at h; have k : (0 : Int32).toInt = 0 := by decide
  omega
theorem own_lt {k z : Int32} {fs : List Value} (hk : ¬ k < 0 ∧ k < z) (hf : fs.length = z.toNatClampNeg) : k.toNatClampNeg < fs.length := by
  have h1 := own_ge hk.1; have h2 := hk.2; rw [Int32.lt_iff_toInt_lt] at h2
  have a := own_nat h1; have b := own_nat (j := z) (by omega); omega
theorem own_cb {cn : Int32} (h : 0 ≤ cn.toInt ∧ cn.toInt < 64) : ¬ cn < 0 ∧ cn < (64 : Int32) := by
  rw [Int32.lt_iff_toInt_lt, Int32.lt_iff_toInt_lt]; have k : (0 : Int32).toInt = 0 := by decide
  have k2 : (64 : Int32).toInt = 64 := by decide
  omega
theorem own_clt {cn : Int32} {ms : List Value} (h : 0 ≤ cn.toInt ∧ cn.toInt < 64) (hm : ms.length = 64) : cn.toNatClampNeg < ms.length := by
  have a := own_nat h.1; omega
theorem own_c64 {cn : Int32} (h : 0 ≤ cn.toInt ∧ cn.toInt < 64) : ¬ cn = (64 : Int32) := by
  intro q; subst q; have k2 : (64 : Int32).toInt = 64 := by decide
  omega
theorem own_atset {vs : List Value} {j : Int32} {x : Int32} (h : j.toNatClampNeg < vs.length) : own_at (vs.set j.toNatClampNeg (.int x)) j = x := by
  unfold own_at
  simp [List.getD, h]
theorem own_atne {vs : List Value} {i j : Int32} {x : Int32} (h : i.toNatClampNeg ≠ j.toNatClampNeg) : own_at (vs.set i.toNatClampNeg (.int x)) j = own_at vs j := by
  unfold own_at
  simp [List.getD, List.getElem?_set, h]
theorem own_atrep (n : Nat) (j : Int32) : own_at (List.replicate n (.int (0 : Int32))) j = 0 := by
  unfold own_at
  by_cases h : j.toNatClampNeg < n <;> simp [List.getD, List.getElem?_replicate, h]

def own_max (x y : Int32) : Int32 := if x < y then y else x
theorem own_b (x : Int32) : 0 ≤ (x &&& (1023 : Int32)).toInt ∧ (x &&& (1023 : Int32)).toInt ≤ 1023 := by
  have := c_mask x 1023 10 (by decide) (by decide)
  omega
theorem own_nn {s : Int32} (b : 0 ≤ s.toInt ∧ s.toInt ≤ 1023) : ¬ s < 0 := by
  rw [Int32.lt_iff_toInt_lt]; have k : (0 : Int32).toInt = 0 := by decide
  omega
theorem own_cap {s : Int32} (b : 0 ≤ s.toInt ∧ s.toInt ≤ 1023) : s.toNatClampNeg ≤ 1023 := by
  have a := own_nat b.1; omega
theorem own_two {s1 s2 : Int32} (b1 : 0 ≤ s1.toInt ∧ s1.toInt ≤ 1023) (b2 : 0 ≤ s2.toInt ∧ s2.toInt ≤ 1023) : own_rz (own_rz (0 : Int32) s1) s2 = own_max s1 s2 ∧ (own_rf (own_rz (0 : Int32) s1) s2 (own_rf (0 : Int32) s1 [])).length = (own_rz (own_rz (0 : Int32) s1) s2).toNatClampNeg ∧ ∀ j, own_at (own_rf (own_rz (0 : Int32) s1) s2 (own_rf (0 : Int32) s1 [])) j = 0 := by
  have k : (0 : Int32).toInt = 0 := by decide
  have e1 : own_rz (0 : Int32) s1 = s1 := by
    unfold own_rz
    split
    · rfl
    · rename_i q; rw [Int32.lt_iff_toInt_lt] at q; apply Int32.toInt_inj.mp; omega
  have e2 : own_rf (0 : Int32) s1 [] = List.replicate s1.toNatClampNeg (.int (0 : Int32)) := by
    unfold own_rf
    split
    · rfl
    · rename_i q; rw [Int32.lt_iff_toInt_lt] at q
      have : s1.toNatClampNeg = 0 := by have := own_nat b1.1; omega
      rw [this]; rfl
  rw [e1, e2]
  refine ⟨rfl, ?_, ?_⟩
  · unfold own_rz own_rf; split <;> simp
  · intro j; unfold own_rf; split <;> exact own_atrep _ _
theorem own_kk {s1 s2 nn c : Int32} (b1 : 0 ≤ s1.toInt ∧ s1.toInt ≤ 1023) (b2 : 0 ≤ s2.toInt ∧ s2.toInt ≤ 1023) (hn : nn = own_max s1 s2) (h0 : ¬ nn = (0 : Int32)) : ¬ (c &&& (2147483647 : Int32)) % nn < 0 ∧ (c &&& (2147483647 : Int32)) % nn < nn := by
  have k : (0 : Int32).toInt = 0 := by decide
  have hb : 0 ≤ nn.toInt := by rw [hn]; unfold own_max; split <;> omega
  have hb2 : nn.toInt ≠ 0 := fun q => h0 (Int32.toInt_inj.mp (by rw [q, k]))
  have h1 := c_mask c 2147483647 31 (by decide) (by decide)
  have h2 := (c_iremV (c &&& 2147483647) nn).1 (by omega) (by omega)
  rw [Int32.lt_iff_toInt_lt, Int32.lt_iff_toInt_lt]; omega
theorem own_vl (v : Int32) : 1 ≤ ((1 : Int32) + (v &&& (2147483647 : Int32)) % (255 : Int32)).toInt ∧ ((1 : Int32) + (v &&& (2147483647 : Int32)) % (255 : Int32)).toInt ≤ 255 := by
  have h := c_mask v 2147483647 31 (by decide) (by decide)
  have h2 := (c_irem (v &&& 2147483647) 255 255 (by decide)).1 (by omega)
  have h3 := c_iadd 1 ((v &&& 2147483647) % 255); have k : (1 : Int32).toInt = 1 := by decide
  have r := rng32 (1 + (v &&& 2147483647) % 255)
  omega
theorem own_g0 {x : Int32} (h : x = 0) : x &&& (255 : Int32) = (0 : Int32) := by rw [h]; decide
theorem own_byte {v : Int32} (h : 1 ≤ v.toInt ∧ v.toInt ≤ 255) : nar .byte v.toInt8.toInt32 &&& (255 : Int32) = v := by
  have e : nar .byte v.toInt8.toInt32 = v.toInt8.toInt32 := by
    show v.toInt8.toInt32.toInt8.toInt32 = _
    rw [Int8.toInt8_toInt32]
  rw [e]
  apply Int32.toInt_inj.mp
  have h1 := c_mask v.toInt8.toInt32 255 8 (by decide) (by decide)
  have h2 := c_i2b v
  omega
theorem own_gv {fs : List Value} {k z v : Int32} (hk : ¬ k < 0 ∧ k < z) (hf : fs.length = z.toNatClampNeg) (hv : 1 ≤ v.toInt ∧ v.toInt ≤ 255) : own_at (own_sf fs k v) k &&& (255 : Int32) = v := by
  rw [own_atset (own_lt hk hf)]; exact own_byte hv
theorem own_c1 {fs : List Value} {k : Int32} (h : own_at fs k = 0) : own_sc fs k (0 : Int32) = (1 : Int32) := by
  unfold own_sc; rw [if_pos h]; decide
theorem own_m1 {fs : List Value} {k : Int32} (h : own_at fs k = 0) : own_at (own_sm fs (List.replicate 64 (.int (0 : Int32))) k (0 : Int32)) (0 : Int32) = k := by
  unfold own_sm; rw [if_pos h]; exact own_atset (by decide)
theorem pn_0 : plainName "com/example/cairn/cairn/history/Marks" = true := by first | (simp [plainName, overriddenIn]; done) | decide +kernel
theorem d2_0 : decode prog_27_method_1_code 0 = .ok (.aload_n 0, 1) := by decide +kernel
theorem d2_1 : decode prog_27_method_1_code 1 = .ok (.invokespecial 1, 3) := by decide +kernel
theorem d2_4 : decode prog_27_method_1_code 4 = .ok (.aload_n 0, 1) := by decide +kernel
theorem d2_5 : decode prog_27_method_1_code 5 = .ok (.iconst 0, 1) := by decide +kernel
theorem d2_6 : decode prog_27_method_1_code 6 = .ok (.newarray .byte, 2) := by decide +kernel
theorem d2_8 : decode prog_27_method_1_code 8 = .ok (.putfield 7, 3) := by decide +kernel
theorem d2_11 : decode prog_27_method_1_code 11 = .ok (.aload_n 0, 1) := by decide +kernel
theorem d2_12 : decode prog_27_method_1_code 12 = .ok (.bipush 64, 2) := by decide +kernel
theorem d2_14 : decode prog_27_method_1_code 14 = .ok (.newarray .int, 2) := by decide +kernel
theorem d2_16 : decode prog_27_method_1_code 16 = .ok (.putfield 13, 3) := by decide +kernel
theorem d2_19 : decode prog_27_method_1_code 19 = .ok (.return_, 1) := by decide +kernel
theorem ef_2 (m : MethodId) (x0 : Addr) : entryFrame m #[(.ref x0)] 1 = mkF m 0 #[.val (.ref x0)] [] := by first | (simp [entryFrame, mkF, argsToLocals, Value.category]; done) | rfl
def Q2 (Z : State) (o : Addr) (u1 : Value) (u2 : Value) (h0 : Heap) (n0 : Nat) (vα : Option Value) (hα : Heap) (Lα : List Loc) : Prop := ∃ (fb : Addr) (mb : Addr) (kb : ClassId) (km : ClassId), vα = none ∧ Fr n0 Lα ∧ Keep h0 hα [o] ∧ n0 ≤ fb ∧ h0.size ≤ fb ∧ n0 ≤ mb ∧ h0.size ≤ mb ∧ fb ≠ mb ∧ Exa Z hα o "com/example/cairn/cairn/history/Marks" ∧ Fld Z hα o "com/example/cairn/cairn/history/Marks" "flags" "[B" (.ref fb) ∧ Fld Z hα o "com/example/cairn/cairn/history/Marks" "marked" "[I" (.ref mb) ∧ Fld Z hα o "com/example/cairn/cairn/history/Marks" "count" "I" (.int (0 : Int32)) ∧ Arv Z hα fb kb .byte (0 : Int32) [] (.int (0 : Int32)) ∧ Arv Z hα mb km .int (64 : Int32) (List.replicate 64 (.int (0 : Int32))) (.int (0 : Int32))
set_option maxRecDepth 65536 in
set_option maxHeartbeats 40000000 in
theorem rm2 (l : Launch) (Z : State) (a0 : Array Value) (hw : ∀ d ∈ tables_1, d.before a0 Z = true) (ws : List Jvm.Cond) (o : Addr) (u1 : Value) (u2 : Value) (h0 : Heap) (n0 : Nat) (Z0 : n0 ≤ h0.size) (g_o : n0 ≤ o) (E_o : Exa Z h0 o "com/example/cairn/cairn/history/Marks") (F_flags : Fld Z h0 o "com/example/cairn/cairn/history/Marks" "flags" "[B" u1) (F_marked : Fld Z h0 o "com/example/cairn/cairn/history/Marks" "marked" "[I" u2) (F_count : Fld Z h0 o "com/example/cairn/cairn/history/Marks" "count" "I" (.int (0 : Int32))) :
    MetFree l (⟨"com/example/cairn/cairn/history/Marks", "<init>", "()V"⟩ : MethodName) (head1 (Jvm.Cond.code (⟨"com/example/cairn/cairn/history/Marks", "<init>", "()V"⟩ : MethodName) prog_27_method_1_code 1 none :: ws) ({ frames := 1, cells := 2, slots := 64, locals := 12 } : Room)) (fun aα U => aα = #[(.ref o)] ∧ Z.Warmed39 U.vm ∧ U.heap = h0) (fun _ _ _ _ _ => True) (fun _ U oα U' => ∃ vα Lα, oα = .returned vα ∧ Q2 Z o u1 u2 h0 n0 vα U'.heap Lα ∧ FrameEnd U oα U' Lα ({ frames := 1, cells := 2, slots := 64, locals := 12 } : Room).cells ({ frames := 1, cells := 2, slots := 64, locals := 12 } : Room).slots) := by
  refine MetFree.of_bodySF (plainFor_of_name pn_0) hisR ?_
  intro p e s m args below meth c s₁ Bd hml0 hP hK
  refine own_wrap ?_
  intro GL hGL
  obtain ⟨rfl, hZ, hh⟩ := hP
  have hx := Bd.exec
  have hby := Bd.bytes
  have hml : c.maxLocals = 1 := hml0
  have hown : s.vm.findClass "com/example/cairn/cairn/history/Marks" = some m.cls := findClass_of_methodNamed Bd.named
  have hnm := (name_of_methodNamed Bd.named Bd.method).1
  have X0 : Stand p l e ({ frames := 1, cells := 2, slots := 64, locals := 12 } : Room) s m #[(.ref o)] below meth c s₁ [] 0 0 := Stand.of_body Bd
  have e0 : s₁.heap = h0 := by rw [← hh, Bd.state]; rfl
  have N0 := Fr.nil n0
  have pre0 : ∀ τ, Steps p.tables e below (s₁.setTop (mkF m 0 #[.val (.ref o)] [])) τ → Steps p.tables e below (s₁.setTop (entryFrame m #[(.ref o)] 1)) τ := fun τ κ => castTop (ef_2 m o) κ
  obtain ⟨G, hG, pre⟩ : ∃ G : State → Prop, (∀ τ, G τ → Steps p.tables e below (s₁.setTop (entryFrame m #[(.ref o)] 1)) τ) ∧ ∀ τ, Steps p.tables e below (s₁.setTop (mkF m 0 #[.val (.ref o)] [])) τ → G τ := ⟨_, pre0, fun _ k => k⟩
  have K : Keep h0 h0 [o] := Keep.refl h0 _
  have Zn := Z0
  have pre : ∀ τ, Steps p.tables e below (s₁.setTop (mkF m 1 #[.val (.ref o)] [(.ref o)])) τ → G τ := fun τ κ => pre τ (by
    refine XS.aloadN X0.here hx rfl (hb hby d2_0) rfl rfl ?_
    show Steps p.tables e below (s₁.setTop (mkF m 1 #[.val (.ref o)] [(.ref o)])) τ
    exact κ)
  obtain ⟨T1, X1, e1, st1⟩ := initO X0 hx hZ hown (hw _ (List.mem_of_getElem? (i := 10) rfl)) (hw _ (List.mem_of_getElem? (i := 11) rfl)) (hw _ (List.mem_of_getElem? (i := 12) rfl)) e0 (g := (mkF m 1 #[.val (.ref o)] [(.ref o)])) rfl (by rw [hml]; rfl) rfl (hb hby d2_1) (by decide) (W := 0) (by show 2 * 0 + _ ≤ _; exact Nat.le_of_eq rfl) (by decide)
  have pre : ∀ τ, Steps p.tables e below (T1.setTop (mkF m 4 #[.val (.ref o)] [])) τ → G τ := fun τ κ => pre τ (st1 τ κ)
  have pre : ∀ τ, Steps p.tables e below (T1.setTop (mkF m 6 #[.val (.ref o)] [(.int (0 : Int32)), (.ref o)])) τ → G τ := fun τ κ => pre τ (by
    refine XS.aloadN X1.here hx rfl (hb hby d2_4) rfl rfl ?_
    show Steps p.tables e below (T1.setTop (mkF m 5 #[.val (.ref o)] [(.ref o)])) τ
    refine XS.iconst X1.here hx rfl (hb hby d2_5) ?_
    show Steps p.tables e below (T1.setTop (mkF m 6 #[.val (.ref o)] [(.int (0 : Int32)), (.ref o)])) τ
    exact κ)
  obtain ⟨T2, h2, k2, X2, e2, E2, A2, st2⟩ := newP X1 hx hZ (hw _ (List.mem_of_getElem? (i := 13) rfl)) e1 (g := (mkF m 6 #[.val (.ref o)] [(.int (0 : Int32)), (.ref o)])) rfl (hb hby d2_6) rfl (by decide) (cap := 0) (by decide) (by decide) (by decide) (by decide)
  obtain ⟨b2, gg2⟩ : ∃ z, z = h0.size := ⟨_, rfl⟩
  rw [← gg2] at A2 st2
  have ne_o_b2 : o ≠ b2 := Nat.ne_of_lt (Nat.lt_of_lt_of_le E_o.lt (Nat.le_of_eq gg2.symm))
  have g_b2 : n0 ≤ b2 := Nat.le_trans Zn (Nat.le_of_eq gg2.symm)
  have sz_b2 : h0.size ≤ b2 := Nat.le_trans K.1 (Nat.le_of_eq gg2.symm)
  have E_o : Exa Z h2 o "com/example/cairn/cairn/history/Marks" := E_o.ext E2
  have F_flags : Fld Z h2 o "com/example/cairn/cairn/history/Marks" "flags" "[B" u1 := F_flags.ext E2
  have F_marked : Fld Z h2 o "com/example/cairn/cairn/history/Marks" "marked" "[I" u2 := F_marked.ext E2
  have F_count : Fld Z h2 o "com/example/cairn/cairn/history/Marks" "count" "I" (.int (0 : Int32)) := F_count.ext E2
  have Zn : n0 ≤ h2.size := Nat.le_trans Zn E2.1
  have K : Keep h0 h2 [o] := K.ext E2
  have V_b2 : Arv Z h2 b2 k2 .byte (0 : Int32) [] (.int (0 : Int32)) := (Arv.new A2 (by decide)).pad (pad_rep [] (.int (0 : Int32)) 0)
  have pre : ∀ τ, Steps p.tables e below (T2.setTop (mkF m 8 #[.val (.ref o)] [(.ref b2), (.ref o)])) τ → G τ := fun τ κ => pre τ (st2 τ κ)
  obtain ⟨T3, h3, X3, e3, W3, st3⟩ := putF X2 hx hZ hown (host := "") (Or.inl (hw _ (List.mem_of_getElem? (i := 14) rfl))) Via.refl e2 F_flags E_o (Or.inl (hw _ (List.mem_of_getElem? (i := 15) rfl))) (hw _ (List.mem_of_getElem? (i := 5) rfl)) (ty := (.array .byte)) (by decide) rfl rfl (g := (mkF m 8 #[.val (.ref o)] [(.ref b2), (.ref o)])) rfl rfl (hb hby d2_8)
  have F_flags : Fld Z h3 o "com/example/cairn/cairn/history/Marks" "flags" "[B" (.ref b2) := F_flags.same W3
  have E_o : Exa Z h3 o "com/example/cairn/cairn/history/Marks" := E_o.wr W3
  have F_marked : Fld Z h3 o "com/example/cairn/cairn/history/Marks" "marked" "[I" u2 := F_marked.other W3 (Or.inr (slot_ne (Or.inl (hw _ (List.mem_of_getElem? (i := 18) rfl))) (Or.inl (hw _ (List.mem_of_getElem? (i := 15) rfl))) (by decide) (t := (.array .int)) (t' := (.array .byte)) (by decide) (by decide)))
  have F_count : Fld Z h3 o "com/example/cairn/cairn/history/Marks" "count" "I" (.int (0 : Int32)) := F_count.other W3 (Or.inr (slot_ne (Or.inl (hw _ (List.mem_of_getElem? (i := 36) rfl))) (Or.inl (hw _ (List.mem_of_getElem? (i := 15) rfl))) (by decide) (t := .int) (t' := (.array .byte)) (by decide) (by decide)))
  have V_b2 : Arv Z h3 b2 k2 .byte (0 : Int32) [] (.int (0 : Int32)) := V_b2.other W3 (Ne.symm ne_o_b2)
  have Zn : n0 ≤ h3.size := Nat.le_trans Zn (Keep.of_wr W3).1
  have K : Keep h0 h3 [o] := K.wr W3 (Or.inl (List.mem_of_getElem? (i := 0) rfl))
  have NN := Fr.snoc X3 N0 g_o
  have pre : ∀ τ, Steps p.tables e below (T3.setTop (mkF m 11 #[.val (.ref o)] [])) τ → G τ := fun τ κ => pre τ (st3 τ κ)
  have pre : ∀ τ, Steps p.tables e below (T3.setTop (mkF m 14 #[.val (.ref o)] [(.int (64 : Int32)), (.ref o)])) τ → G τ := fun τ κ => pre τ (by
    refine XS.aloadN X3.here hx rfl (hb hby d2_11) rfl rfl ?_
    show Steps p.tables e below (T3.setTop (mkF m 12 #[.val (.ref o)] [(.ref o)])) τ
    refine XS.bipush X3.here hx rfl (hb hby d2_12) ?_
    show Steps p.tables e below (T3.setTop (mkF m 14 #[.val (.ref o)] [(.int (64 : Int32)), (.ref o)])) τ
    exact κ)
  obtain ⟨T4, h4, k4, X4, e4, E4, A4, st4⟩ := newP X3 hx hZ (hw _ (List.mem_of_getElem? (i := 16) rfl)) e3 (g := (mkF m 14 #[.val (.ref o)] [(.int (64 : Int32)), (.ref o)])) rfl (hb hby d2_14) rfl (by decide) (cap := 64) (by decide) (by decide) (by decide) (by decide)
  obtain ⟨b4, gg4⟩ : ∃ z, z = h3.size := ⟨_, rfl⟩
  rw [← gg4] at A4 st4
  have ne_o_b4 : o ≠ b4 := Nat.ne_of_lt (Nat.lt_of_lt_of_le E_o.lt (Nat.le_of_eq gg4.symm))
  have ne_b2_b4 : b2 ≠ b4 := Nat.ne_of_lt (Nat.lt_of_lt_of_le V_b2.lt (Nat.le_of_eq gg4.symm))
  have g_b4 : n0 ≤ b4 := Nat.le_trans Zn (Nat.le_of_eq gg4.symm)
  have sz_b4 : h0.size ≤ b4 := Nat.le_trans K.1 (Nat.le_of_eq gg4.symm)
  have E_o : Exa Z h4 o "com/example/cairn/cairn/history/Marks" := E_o.ext E4
  have F_flags : Fld Z h4 o "com/example/cairn/cairn/history/Marks" "flags" "[B" (.ref b2) := F_flags.ext E4
  have F_marked : Fld Z h4 o "com/example/cairn/cairn/history/Marks" "marked" "[I" u2 := F_marked.ext E4
  have F_count : Fld Z h4 o "com/example/cairn/cairn/history/Marks" "count" "I" (.int (0 : Int32)) := F_count.ext E4
  have V_b2 : Arv Z h4 b2 k2 .byte (0 : Int32) [] (.int (0 : Int32)) := V_b2.ext E4
  have Zn : n0 ≤ h4.size := Nat.le_trans Zn E4.1
  have K : Keep h0 h4 [o] := K.ext E4
  have V_b4 : Arv Z h4 b4 k4 .int (64 : Int32) [] (.int (0 : Int32)) := Arv.new A4 (by decide)
  have pre : ∀ τ, Steps p.tables e below (T4.setTop (mkF m 16 #[.val (.ref o)] [(.ref b4), (.ref o)])) τ → G τ := fun τ κ => pre τ (st4 τ κ)
  obtain ⟨T5, h5, X5, e5, W5, st5⟩ := putF X4 hx hZ hown (host := "") (Or.inl (hw _ (List.mem_of_getElem? (i := 17) rfl))) Via.refl e4 F_marked E_o (Or.inl (hw _ (List.mem_of_getElem? (i := 18) rfl))) (hw _ (List.mem_of_getElem? (i := 5) rfl)) (ty := (.array .int)) (by decide) rfl rfl (g := (mkF m 16 #[.val (.ref o)] [(.ref b4), (.ref o)])) rfl rfl (hb hby d2_16)
  have F_marked : Fld Z h5 o "com/example/cairn/cairn/history/Marks" "marked" "[I" (.ref b4) := F_marked.same W5
  have E_o : Exa Z h5 o "com/example/cairn/cairn/history/Marks" := E_o.wr W5
  have F_flags : Fld Z h5 o "com/example/cairn/cairn/history/Marks" "flags" "[B" (.ref b2) := F_flags.other W5 (Or.inr (slot_ne (Or.inl (hw _ (List.mem_of_getElem? (i := 15) rfl))) (Or.inl (hw _ (List.mem_of_getElem? (i := 18) rfl))) (by decide) (t := (.array .byte)) (t' := (.array .int)) (by decide) (by decide)))
  have F_count : Fld Z h5 o "com/example/cairn/cairn/history/Marks" "count" "I" (.int (0 : Int32)) := F_count.other W5 (Or.inr (slot_ne (Or.inl (hw _ (List.mem_of_getElem? (i := 36) rfl))) (Or.inl (hw _ (List.mem_of_getElem? (i := 18) rfl))) (by decide) (t := .int) (t' := (.array .int)) (by decide) (by decide)))
  have V_b2 : Arv Z h5 b2 k2 .byte (0 : Int32) [] (.int (0 : Int32)) := V_b2.other W5 (Ne.symm ne_o_b2)
  have V_b4 : Arv Z h5 b4 k4 .int (64 : Int32) [] (.int (0 : Int32)) := V_b4.other W5 (Ne.symm ne_o_b4)
  have Zn : n0 ≤ h5.size := Nat.le_trans Zn (Keep.of_wr W5).1
  have K : Keep h0 h5 [o] := K.wr W5 (Or.inl (List.mem_of_getElem? (i := 0) rfl))
  have NN := Fr.snoc X5 NN g_o
  have pre : ∀ τ, Steps p.tables e below (T5.setTop (mkF m 19 #[.val (.ref o)] [])) τ → G τ := fun τ κ => pre τ (st5 τ κ)
  obtain ⟨fsα, hr, hrun, hended, hW, hsame⟩ := X5.leave (v := none) (fun _ => rfl)
  refine hGL ⟨_, _, hG _ (pre _ ?_), hrun, hended, _, _, rfl, ?_, ⟨_, rfl⟩, hW, hsame.mono (by decide) (by decide)⟩
  · exact X5.returnOut hx Bd.returns (hb hby d2_19) hr
  · show Q2 Z o u1 u2 h0 n0 _ T5.heap _
    rw [e5]
    exact ⟨b2, b4, _, _, rfl, NN, K, g_b2, sz_b2, g_b4, sz_b4, ne_b2_b4, E_o, F_flags, F_marked, F_count, V_b2, own_zero V_b4⟩
theorem d4_0 : decode prog_27_method_2_code 0 = .ok (.aload_n 0, 1) := by decide +kernel
theorem d4_1 : decode prog_27_method_2_code 1 = .ok (.getfield 7, 3) := by decide +kernel
theorem d4_4 : decode prog_27_method_2_code 4 = .ok (.arraylength, 1) := by decide +kernel
theorem d4_5 : decode prog_27_method_2_code 5 = .ok (.iload_n 1, 1) := by decide +kernel
theorem d4_6 : decode prog_27_method_2_code 6 = .ok (.if_icmp .ge 10, 3) := by decide +kernel
theorem d4_9 : decode prog_27_method_2_code 9 = .ok (.aload_n 0, 1) := by decide +kernel
theorem d4_10 : decode prog_27_method_2_code 10 = .ok (.iload_n 1, 1) := by decide +kernel
theorem d4_11 : decode prog_27_method_2_code 11 = .ok (.newarray .byte, 2) := by decide +kernel
theorem d4_13 : decode prog_27_method_2_code 13 = .ok (.putfield 7, 3) := by decide +kernel
theorem d4_16 : decode prog_27_method_2_code 16 = .ok (.return_, 1) := by decide +kernel
theorem ef_4 (m : MethodId) (x0 : Addr) (x1 : Int32) : entryFrame m #[(.ref x0), (.int x1)] 2 = mkF m 0 #[.val (.ref x0), .val (.int x1)] [] := by first | (simp [entryFrame, mkF, argsToLocals, Value.category]; done) | rfl
def Q4 (Z : State) (o : Addr) (k : Int32) (fb : Addr) (mb : Addr) (kb : ClassId) (km : ClassId) (z : Int32) (cn : Int32) (fs : List Value) (ms : List Value) (h0 : Heap) (n0 : Nat) (vα : Option Value) (hα : Heap) (Lα : List Loc) : Prop := ∃ (fc : Addr) (kd : ClassId), vα = none ∧ Fr n0 Lα ∧ Keep h0 hα [o] ∧ n0 ≤ fc ∧ o ≠ fc ∧ mb ≠ fc ∧ Exa Z hα o "com/example/cairn/cairn/history/Marks" ∧ Fld Z hα o "com/example/cairn/cairn/history/Marks" "flags" "[B" (.ref fc) ∧ Fld Z hα o "com/example/cairn/cairn/history/Marks" "marked" "[I" (.ref mb) ∧ Fld Z hα o "com/example/cairn/cairn/history/Marks" "count" "I" (.int cn) ∧ Arv Z hα fc kd .byte (own_rz z k) (own_rf z k fs) (.int (0 : Int32))
set_option maxRecDepth 65536 in
set_option maxHeartbeats 40000000 in
theorem rm4 (l : Launch) (Z : State) (a0 : Array Value) (hw : ∀ d ∈ tables_1, d.before a0 Z = true) (ws : List Jvm.Cond) (o : Addr) (k : Int32) (fb : Addr) (mb : Addr) (kb : ClassId) (km : ClassId) (z : Int32) (cn : Int32) (fs : List Value) (ms : List Value) (h0 : Heap) (n0 : Nat) (Z0 : n0 ≤ h0.size) (g_o : n0 ≤ o) (E_o : Exa Z h0 o "com/example/cairn/cairn/history/Marks") (F_flags : Fld Z h0 o "com/example/cairn/cairn/history/Marks" "flags" "[B" (.ref fb)) (F_marked : Fld Z h0 o "com/example/cairn/cairn/history/Marks" "marked" "[I" (.ref mb)) (F_count : Fld Z h0 o "com/example/cairn/cairn/history/Marks" "count" "I" (.int cn)) (V_f : Arv Z h0 fb kb .byte z fs (.int (0 : Int32))) (V_m : Arv Z h0 mb km .int (64 : Int32) ms (.int (0 : Int32))) (ne_o__mb : o ≠ mb) (ne_o__fb : o ≠ fb) (ne_mb__fb : mb ≠ fb) (hk0 : ¬ k < 0) (hkc : k.toNatClampNeg ≤ 1023) (g_fb : n0 ≤ fb) :
    MetFree l (⟨"com/example/cairn/cairn/history/Marks", "reserve", "(I)V"⟩ : MethodName) (head1 (Jvm.Cond.code (⟨"com/example/cairn/cairn/history/Marks", "reserve", "(I)V"⟩ : MethodName) prog_27_method_2_code 2 none :: ws) ({ frames := 0, cells := 1, slots := 1023, locals := 0 } : Room)) (fun aα U => aα = #[(.ref o), (.int k)] ∧ Z.Warmed39 U.vm ∧ U.heap = h0) (fun _ _ _ _ _ => True) (fun _ U oα U' => ∃ vα Lα, oα = .returned vα ∧ Q4 Z o k fb mb kb km z cn fs ms h0 n0 vα U'.heap Lα ∧ FrameEnd U oα U' Lα ({ frames := 0, cells := 1, slots := 1023, locals := 0 } : Room).cells ({ frames := 0, cells := 1, slots := 1023, locals := 0 } : Room).slots) := by
  refine MetFree.of_bodySF (plainFor_of_name pn_0) hisR ?_
  intro p e s m args below meth c s₁ Bd hml0 hP hK
  refine own_wrap ?_
  intro GL hGL
  obtain ⟨rfl, hZ, hh⟩ := hP
  have hx := Bd.exec
  have hby := Bd.bytes
  have hml : c.maxLocals = 2 := hml0
  have hown : s.vm.findClass "com/example/cairn/cairn/history/Marks" = some m.cls := findClass_of_methodNamed Bd.named
  have hnm := (name_of_methodNamed Bd.named Bd.method).1
  have X0 : Stand p l e ({ frames := 0, cells := 1, slots := 1023, locals := 0 } : Room) s m #[(.ref o), (.int k)] below meth c s₁ [] 0 0 := Stand.of_body Bd
  have e0 : s₁.heap = h0 := by rw [← hh, Bd.state]; rfl
  have N0 := Fr.nil n0
  have pre0 : ∀ τ, Steps p.tables e below (s₁.setTop (mkF m 0 #[.val (.ref o), .val (.int k)] [])) τ → Steps p.tables e below (s₁.setTop (entryFrame m #[(.ref o), (.int k)] 2)) τ := fun τ κ => castTop (ef_4 m o k) κ
  obtain ⟨G, hG, pre⟩ : ∃ G : State → Prop, (∀ τ, G τ → Steps p.tables e below (s₁.setTop (entryFrame m #[(.ref o), (.int k)] 2)) τ) ∧ ∀ τ, Steps p.tables e below (s₁.setTop (mkF m 0 #[.val (.ref o), .val (.int k)] [])) τ → G τ := ⟨_, pre0, fun _ k => k⟩
  have K : Keep h0 h0 [o] := Keep.refl h0 _
  have Zn := Z0
  have pre : ∀ τ, Steps p.tables e below (s₁.setTop (mkF m 1 #[.val (.ref o), .val (.int k)] [(.ref o)])) τ → G τ := fun τ κ => pre τ (by
    refine XS.aloadN X0.here hx rfl (hb hby d4_0) rfl rfl ?_
    show Steps p.tables e below (s₁.setTop (mkF m 1 #[.val (.ref o), .val (.int k)] [(.ref o)])) τ
    exact κ)
  obtain ⟨T1, X1, e1, st1⟩ := getF X0 hx hZ hown (host := "") (Or.inl (hw _ (List.mem_of_getElem? (i := 14) rfl))) Via.refl e0 F_flags (g := (mkF m 1 #[.val (.ref o), .val (.int k)] [(.ref o)])) rfl rfl (hb hby d4_1)
  have pre : ∀ τ, Steps p.tables e below (T1.setTop (mkF m 4 #[.val (.ref o), .val (.int k)] [(.ref fb)])) τ → G τ := fun τ κ => pre τ (st1 τ κ)
  obtain ⟨c2, Ar2, -, S2, N2, -, -⟩ := id V_f
  have pre : ∀ τ, Steps p.tables e below (T1.setTop (mkF m 5 #[.val (.ref o), .val (.int k)] [(.int z)])) τ → G τ := fun τ κ => pre τ (by
    refine X1.arraylength hx (by rw [e1]; exact Ar2.1) (State.isArrayOf_alike hZ.alike Ar2.2.1) (g := (mkF m 4 #[.val (.ref o), .val (.int k)] [(.ref fb)])) rfl rfl (hb hby d4_4) _ ?_
    rw [len_of S2 N2]
    exact κ)
  have pre : ∀ τ, Steps p.tables e below (T1.setTop (mkF m 6 #[.val (.ref o), .val (.int k)] [(.int k), (.int z)])) τ → G τ := fun τ κ => pre τ (by
    refine XS.iloadN X1.here hx rfl (hb hby d4_5) rfl ?_
    show Steps p.tables e below (T1.setTop (mkF m 6 #[.val (.ref o), .val (.int k)] [(.int k), (.int z)])) τ
    exact κ)
  rcases Classical.em (z < k) with hc6_3 | hc6_3
  ·
    have pre : ∀ τ, Steps p.tables e below (T1.setTop (mkF m 11 #[.val (.ref o), .val (.int k)] [(.int k), (.ref o)])) τ → G τ := fun τ κ => pre τ (by
      refine XS.icmpNo X1.here hx rfl (hb hby d4_6) rfl (tlt hc6_3).2.1 ?_
      show Steps p.tables e below (T1.setTop (mkF m 9 #[.val (.ref o), .val (.int k)] [])) τ
      refine XS.aloadN X1.here hx rfl (hb hby d4_9) rfl rfl ?_
      show Steps p.tables e below (T1.setTop (mkF m 10 #[.val (.ref o), .val (.int k)] [(.ref o)])) τ
      refine XS.iloadN X1.here hx rfl (hb hby d4_10) rfl ?_
      show Steps p.tables e below (T1.setTop (mkF m 11 #[.val (.ref o), .val (.int k)] [(.int k), (.ref o)])) τ
      exact κ)
    obtain ⟨T4, h4, k4, X4, e4, E4, A4, st4⟩ := newP X1 hx hZ (hw _ (List.mem_of_getElem? (i := 13) rfl)) e1 (g := (mkF m 11 #[.val (.ref o), .val (.int k)] [(.int k), (.ref o)])) rfl (hb hby d4_11) rfl hk0 (cap := 1023) hkc (by decide) (by decide) (by decide)
    obtain ⟨b4, gg4⟩ : ∃ z, z = h0.size := ⟨_, rfl⟩
    rw [← gg4] at A4 st4
    have ne_o_b4 : o ≠ b4 := Nat.ne_of_lt (Nat.lt_of_lt_of_le E_o.lt (Nat.le_of_eq gg4.symm))
    have ne_fb_b4 : fb ≠ b4 := Nat.ne_of_lt (Nat.lt_of_lt_of_le V_f.lt (Nat.le_of_eq gg4.symm))
    have ne_mb_b4 : mb ≠ b4 := Nat.ne_of_lt (Nat.lt_of_lt_of_le V_m.lt (Nat.le_of_eq gg4.symm))
    have g_b4 : n0 ≤ b4 := Nat.le_trans Zn (Nat.le_of_eq gg4.symm)
    have sz_b4 : h0.size ≤ b4 := Nat.le_trans K.1 (Nat.le_of_eq gg4.symm)
    have E_o : Exa Z h4 o "com/example/cairn/cairn/history/Marks" := E_o.ext E4
    have F_flags : Fld Z h4 o "com/example/cairn/cairn/history/Marks" "flags" "[B" (.ref fb) := F_flags.ext E4
    have F_marked : Fld Z h4 o "com/example/cairn/cairn/history/Marks" "marked" "[I" (.ref mb) := F_marked.ext E4
    have F_count : Fld Z h4 o "com/example/cairn/cairn/history/Marks" "count" "I" (.int cn) := F_count.ext E4
    have V_f : Arv Z h4 fb kb .byte z fs (.int (0 : Int32)) := V_f.ext E4
    have V_m : Arv Z h4 mb km .int (64 : Int32) ms (.int (0 : Int32)) := V_m.ext E4
    have Zn : n0 ≤ h4.size := Nat.le_trans Zn E4.1
    have K : Keep h0 h4 [o] := K.ext E4
    have V_b4 : Arv Z h4 b4 k4 .byte k [] (.int (0 : Int32)) := Arv.new A4 hk0
    have pre : ∀ τ, Steps p.tables e below (T4.setTop (mkF m 13 #[.val (.ref o), .val (.int k)] [(.ref b4), (.ref o)])) τ → G τ := fun τ κ => pre τ (st4 τ κ)
    obtain ⟨T5, h5, X5, e5, W5, st5⟩ := putF X4 hx hZ hown (host := "") (Or.inl (hw _ (List.mem_of_getElem? (i := 14) rfl))) Via.refl e4 F_flags E_o (Or.inl (hw _ (List.mem_of_getElem? (i := 15) rfl))) (hw _ (List.mem_of_getElem? (i := 5) rfl)) (ty := (.array .byte)) (by decide) rfl rfl (g := (mkF m 13 #[.val (.ref o), .val (.int k)] [(.ref b4), (.ref o)])) rfl rfl (hb hby d4_13)
    have F_flags : Fld Z h5 o "com/example/cairn/cairn/history/Marks" "flags" "[B" (.ref b4) := F_flags.same W5
    have E_o : Exa Z h5 o "com/example/cairn/cairn/history/Marks" := E_o.wr W5
    have F_marked : Fld Z h5 o "com/example/cairn/cairn/history/Marks" "marked" "[I" (.ref mb) := F_marked.other W5 (Or.inr (slot_ne (Or.inl (hw _ (List.mem_of_getElem? (i := 18) rfl))) (Or.inl (hw _ (List.mem_of_getElem? (i := 15) rfl))) (by decide) (t := (.array .int)) (t' := (.array .byte)) (by decide) (by decide)))
    have F_count : Fld Z h5 o "com/example/cairn/cairn/history/Marks" "count" "I" (.int cn) := F_count.other W5 (Or.inr (slot_ne (Or.inl (hw _ (List.mem_of_getElem? (i := 36) rfl))) (Or.inl (hw _ (List.mem_of_getElem? (i := 15) rfl))) (by decide) (t := .int) (t' := (.array .byte)) (by decide) (by decide)))
    have V_f : Arv Z h5 fb kb .byte z fs (.int (0 : Int32)) := V_f.other W5 (Ne.symm ne_o__fb)
    have V_m : Arv Z h5 mb km .int (64 : Int32) ms (.int (0 : Int32)) := V_m.other W5 (Ne.symm ne_o__mb)
    have V_b4 : Arv Z h5 b4 k4 .byte k [] (.int (0 : Int32)) := V_b4.other W5 (Ne.symm ne_o_b4)
    have Zn : n0 ≤ h5.size := Nat.le_trans Zn (Keep.of_wr W5).1
    have K : Keep h0 h5 [o] := K.wr W5 (Or.inl (List.mem_of_getElem? (i := 0) rfl))
    have NN := Fr.snoc X5 N0 g_o
    have pre : ∀ τ, Steps p.tables e below (T5.setTop (mkF m 16 #[.val (.ref o), .val (.int k)] [])) τ → G τ := fun τ κ => pre τ (st5 τ κ)
    obtain ⟨fsα, hr, hrun, hended, hW, hsame⟩ := X5.leave (v := none) (fun _ => rfl)
    refine hGL ⟨_, _, hG _ (pre _ ?_), hrun, hended, _, _, rfl, ?_, ⟨_, rfl⟩, hW, hsame.mono (by decide) (by decide)⟩
    · exact X5.returnOut hx Bd.returns (hb hby d4_16) hr
    · show Q4 Z o k fb mb kb km z cn fs ms h0 n0 _ T5.heap _
      rw [e5]
      refine ⟨b4, k4, rfl, NN, K, g_b4, ne_o_b4, ne_mb_b4, E_o, F_flags, F_marked, F_count, ?_⟩
      unfold own_rz own_rf
      rw [if_pos hc6_3, if_pos hc6_3]
      exact own_zero V_b4
  ·
    have pre : ∀ τ, Steps p.tables e below (T1.setTop (mkF m 16 #[.val (.ref o), .val (.int k)] [])) τ → G τ := fun τ κ => pre τ (by
      refine XS.icmpYes X1.here hx rfl (pc0 := 6) (pc' := 16) rfl (hb hby d4_6) rfl (flt hc6_3).2.1 (by decide) (by decide) ?_
      show Steps p.tables e below (T1.setTop (mkF m 16 #[.val (.ref o), .val (.int k)] [])) τ
      exact κ)
    obtain ⟨fsα, hr, hrun, hended, hW, hsame⟩ := X1.leave (v := none) (fun _ => rfl)
    refine hGL ⟨_, _, hG _ (pre _ ?_), hrun, hended, _, _, rfl, ?_, ⟨_, rfl⟩, hW, hsame.mono (by decide) (by decide)⟩
    · exact X1.returnOut hx Bd.returns (hb hby d4_16) hr
    · show Q4 Z o k fb mb kb km z cn fs ms h0 n0 _ T1.heap _
      rw [e1]
      refine ⟨fb, kb, rfl, N0, K, g_fb, ne_o__fb, ne_mb__fb, E_o, F_flags, F_marked, F_count, ?_⟩
      unfold own_rz own_rf
      rw [if_neg hc6_3, if_neg hc6_3]
      exact V_f
theorem d5_0 : decode prog_27_method_3_code 0 = .ok (.aload_n 0, 1) := by decide +kernel
theorem d5_1 : decode prog_27_method_3_code 1 = .ok (.getfield 7, 3) := by decide +kernel
theorem d5_4 : decode prog_27_method_3_code 4 = .ok (.iload_n 1, 1) := by decide +kernel
theorem d5_5 : decode prog_27_method_3_code 5 = .ok (.baload, 1) := by decide +kernel
theorem d5_6 : decode prog_27_method_3_code 6 = .ok (.sipush 255, 3) := by decide +kernel
theorem d5_9 : decode prog_27_method_3_code 9 = .ok (.iand, 1) := by decide +kernel
theorem d5_10 : decode prog_27_method_3_code 10 = .ok (.ireturn, 1) := by decide +kernel
theorem ef_5 (m : MethodId) (x0 : Addr) (x1 : Int32) : entryFrame m #[(.ref x0), (.int x1)] 2 = mkF m 0 #[.val (.ref x0), .val (.int x1)] [] := by first | (simp [entryFrame, mkF, argsToLocals, Value.category]; done) | rfl
def Q5 (Z : State) (o : Addr) (k : Int32) (fb : Addr) (kb : ClassId) (z : Int32) (fs : List Value) (h0 : Heap) (n0 : Nat) (vα : Option Value) (hα : Heap) (Lα : List Loc) : Prop := vα = some (.int (own_at fs k &&& (255 : Int32))) ∧ Fr n0 Lα ∧ hα = h0
set_option maxRecDepth 65536 in
set_option maxHeartbeats 40000000 in
theorem rm5 (l : Launch) (Z : State) (a0 : Array Value) (hw : ∀ d ∈ tables_1, d.before a0 Z = true) (ws : List Jvm.Cond) (o : Addr) (k : Int32) (fb : Addr) (kb : ClassId) (z : Int32) (fs : List Value) (h0 : Heap) (n0 : Nat) (Z0 : n0 ≤ h0.size) (F_flags : Fld Z h0 o "com/example/cairn/cairn/history/Marks" "flags" "[B" (.ref fb)) (V_f : Arv Z h0 fb kb .byte z fs (.int (0 : Int32))) (hk : ¬ k < 0 ∧ k < z) :
    MetFree l (⟨"com/example/cairn/cairn/history/Marks", "get", "(I)I"⟩ : MethodName) (head1 (Jvm.Cond.code (⟨"com/example/cairn/cairn/history/Marks", "get", "(I)I"⟩ : MethodName) prog_27_method_3_code 2 (some .int) :: ws) ({ frames := 0, cells := 0, slots := 0, locals := 0 } : Room)) (fun aα U => aα = #[(.ref o), (.int k)] ∧ Z.Warmed39 U.vm ∧ U.heap = h0) (fun _ _ _ _ _ => True) (fun _ U oα U' => ∃ vα Lα, oα = .returned vα ∧ Q5 Z o k fb kb z fs h0 n0 vα U'.heap Lα ∧ FrameEnd U oα U' Lα ({ frames := 0, cells := 0, slots := 0, locals := 0 } : Room).cells ({ frames := 0, cells := 0, slots := 0, locals := 0 } : Room).slots) := by
  refine MetFree.of_bodySF (plainFor_of_name pn_0) hisR ?_
  intro p e s m args below meth c s₁ Bd hml0 hP hK
  refine own_wrap ?_
  intro GL hGL
  obtain ⟨rfl, hZ, hh⟩ := hP
  have hx := Bd.exec
  have hby := Bd.bytes
  have hml : c.maxLocals = 2 := hml0
  have hown : s.vm.findClass "com/example/cairn/cairn/history/Marks" = some m.cls := findClass_of_methodNamed Bd.named
  have hnm := (name_of_methodNamed Bd.named Bd.method).1
  have X0 : Stand p l e ({ frames := 0, cells := 0, slots := 0, locals := 0 } : Room) s m #[(.ref o), (.int k)] below meth c s₁ [] 0 0 := Stand.of_body Bd
  have e0 : s₁.heap = h0 := by rw [← hh, Bd.state]; rfl
  have N0 := Fr.nil n0
  have pre0 : ∀ τ, Steps p.tables e below (s₁.setTop (mkF m 0 #[.val (.ref o), .val (.int k)] [])) τ → Steps p.tables e below (s₁.setTop (entryFrame m #[(.ref o), (.int k)] 2)) τ := fun τ κ => castTop (ef_5 m o k) κ
  obtain ⟨G, hG, pre⟩ : ∃ G : State → Prop, (∀ τ, G τ → Steps p.tables e below (s₁.setTop (entryFrame m #[(.ref o), (.int k)] 2)) τ) ∧ ∀ τ, Steps p.tables e below (s₁.setTop (mkF m 0 #[.val (.ref o), .val (.int k)] [])) τ → G τ := ⟨_, pre0, fun _ k => k⟩
  have K : Keep h0 h0 [] := Keep.refl h0 _
  have Zn := Z0
  have pre : ∀ τ, Steps p.tables e below (s₁.setTop (mkF m 1 #[.val (.ref o), .val (.int k)] [(.ref o)])) τ → G τ := fun τ κ => pre τ (by
    refine XS.aloadN X0.here hx rfl (hb hby d5_0) rfl rfl ?_
    show Steps p.tables e below (s₁.setTop (mkF m 1 #[.val (.ref o), .val (.int k)] [(.ref o)])) τ
    exact κ)
  obtain ⟨T1, X1, e1, st1⟩ := getF X0 hx hZ hown (host := "") (Or.inl (hw _ (List.mem_of_getElem? (i := 14) rfl))) Via.refl e0 F_flags (g := (mkF m 1 #[.val (.ref o), .val (.int k)] [(.ref o)])) rfl rfl (hb hby d5_1)
  have pre : ∀ τ, Steps p.tables e below (T1.setTop (mkF m 4 #[.val (.ref o), .val (.int k)] [(.ref fb)])) τ → G τ := fun τ κ => pre τ (st1 τ κ)
  have pre : ∀ τ, Steps p.tables e below (T1.setTop (mkF m 5 #[.val (.ref o), .val (.int k)] [(.int k), (.ref fb)])) τ → G τ := fun τ κ => pre τ (by
    refine XS.iloadN X1.here hx rfl (hb hby d5_4) rfl ?_
    show Steps p.tables e below (T1.setTop (mkF m 5 #[.val (.ref o), .val (.int k)] [(.int k), (.ref fb)])) τ
    exact κ)
  obtain ⟨c2, Ar2, q2, S2, Nz2, Hh2, Gg2⟩ := id V_f
  have hin2 : ¬ (k < 0 ∨ c2.slots.size ≤ (k).toNatClampNeg) := inb_of S2 hk
  have hat2 : c2.slots[(k).toNatClampNeg]? = some (.int (own_at fs k)) := own_getB Hh2 Gg2 hin2
  have pre : ∀ τ, Steps p.tables e below (T1.setTop (mkF m 6 #[.val (.ref o), .val (.int k)] [(.int (own_at fs k))])) τ → G τ := fun τ κ => pre τ (X1.baloadBytes hx (j := k) (v := (.int (own_at fs k))) (by rw [e1]; exact Ar2.1) (State.isArrayOf_alike hZ.alike Ar2.2.1) Ar2.2.2 hin2 hat2 (g := (mkF m 5 #[.val (.ref o), .val (.int k)] [(.int k), (.ref fb)])) rfl rfl (hb hby d5_5) _ κ)
  have pre : ∀ τ, Steps p.tables e below (T1.setTop (mkF m 10 #[.val (.ref o), .val (.int k)] [(.int ((own_at fs k) &&& (255 : Int32)))])) τ → G τ := fun τ κ => pre τ (by
    refine XS.sipush X1.here hx rfl (hb hby d5_6) ?_
    show Steps p.tables e below (T1.setTop (mkF m 9 #[.val (.ref o), .val (.int k)] [(.int (255 : Int32)), (.int (own_at fs k))])) τ
    refine XS.iand X1.here hx rfl (hb hby d5_9) rfl ?_
    show Steps p.tables e below (T1.setTop (mkF m 10 #[.val (.ref o), .val (.int k)] [(.int ((own_at fs k) &&& (255 : Int32)))])) τ
    exact κ)
  obtain ⟨fsα, hr, hrun, hended, hW, hsame⟩ := X1.leave (v := some (.int ((own_at fs k) &&& (255 : Int32)))) (fun h => by rw [Bd.returns] at h; cases h)
  refine hGL ⟨_, _, hG _ (pre _ ?_), hrun, hended, _, _, rfl, ?_, ⟨_, rfl⟩, hW, hsame.mono (by decide) (by decide)⟩
  · exact retOut X1 hx Bd.returns rfl (Or.inl ⟨rfl, Or.inl rfl, _, rfl⟩) (hb hby d5_10) hr
  · show Q5 Z o k fb kb z fs h0 n0 _ T1.heap _
    rw [e1]
    exact ⟨rfl, N0, rfl⟩
theorem d6_0 : decode prog_27_method_4_code 0 = .ok (.aload_n 0, 1) := by decide +kernel
theorem d6_1 : decode prog_27_method_4_code 1 = .ok (.getfield 7, 3) := by decide +kernel
theorem d6_4 : decode prog_27_method_4_code 4 = .ok (.iload_n 1, 1) := by decide +kernel
theorem d6_5 : decode prog_27_method_4_code 5 = .ok (.baload, 1) := by decide +kernel
theorem d6_6 : decode prog_27_method_4_code 6 = .ok (.ifCond .ne 49, 3) := by decide +kernel
theorem d6_9 : decode prog_27_method_4_code 9 = .ok (.aload_n 0, 1) := by decide +kernel
theorem d6_10 : decode prog_27_method_4_code 10 = .ok (.getfield 17, 3) := by decide +kernel
theorem d6_13 : decode prog_27_method_4_code 13 = .ok (.aload_n 0, 1) := by decide +kernel
theorem d6_14 : decode prog_27_method_4_code 14 = .ok (.getfield 13, 3) := by decide +kernel
theorem d6_17 : decode prog_27_method_4_code 17 = .ok (.arraylength, 1) := by decide +kernel
theorem d6_18 : decode prog_27_method_4_code 18 = .ok (.if_icmp .ne 20, 3) := by decide +kernel
theorem d6_38 : decode prog_27_method_4_code 38 = .ok (.aload_n 0, 1) := by decide +kernel
theorem d6_39 : decode prog_27_method_4_code 39 = .ok (.getfield 13, 3) := by decide +kernel
theorem d6_42 : decode prog_27_method_4_code 42 = .ok (.aload_n 0, 1) := by decide +kernel
theorem d6_43 : decode prog_27_method_4_code 43 = .ok (.dup, 1) := by decide +kernel
theorem d6_44 : decode prog_27_method_4_code 44 = .ok (.getfield 17, 3) := by decide +kernel
theorem d6_47 : decode prog_27_method_4_code 47 = .ok (.dup_x1, 1) := by decide +kernel
theorem d6_48 : decode prog_27_method_4_code 48 = .ok (.iconst 1, 1) := by decide +kernel
theorem d6_49 : decode prog_27_method_4_code 49 = .ok (.iadd, 1) := by decide +kernel
theorem d6_50 : decode prog_27_method_4_code 50 = .ok (.putfield 17, 3) := by decide +kernel
theorem d6_53 : decode prog_27_method_4_code 53 = .ok (.iload_n 1, 1) := by decide +kernel
theorem d6_54 : decode prog_27_method_4_code 54 = .ok (.iastore, 1) := by decide +kernel
theorem d6_55 : decode prog_27_method_4_code 55 = .ok (.aload_n 0, 1) := by decide +kernel
theorem d6_56 : decode prog_27_method_4_code 56 = .ok (.getfield 7, 3) := by decide +kernel
theorem d6_59 : decode prog_27_method_4_code 59 = .ok (.iload_n 1, 1) := by decide +kernel
theorem d6_60 : decode prog_27_method_4_code 60 = .ok (.iload_n 2, 1) := by decide +kernel
theorem d6_61 : decode prog_27_method_4_code 61 = .ok (.i2b, 1) := by decide +kernel
theorem d6_62 : decode prog_27_method_4_code 62 = .ok (.bastore, 1) := by decide +kernel
theorem d6_63 : decode prog_27_method_4_code 63 = .ok (.return_, 1) := by decide +kernel
theorem ef_6 (m : MethodId) (x0 : Addr) (x1 : Int32) (x2 : Int32) : entryFrame m #[(.ref x0), (.int x1), (.int x2)] 3 = mkF m 0 #[.val (.ref x0), .val (.int x1), .val (.int x2)] [] := by first | (simp [entryFrame, mkF, argsToLocals, Value.category]; done) | rfl
def Q6 (Z : State) (o : Addr) (k : Int32) (vv : Int32) (fb : Addr) (mb : Addr) (kb : ClassId) (km : ClassId) (z : Int32) (cn : Int32) (fs : List Value) (ms : List Value) (h0 : Heap) (n0 : Nat) (vα : Option Value) (hα : Heap) (Lα : List Loc) : Prop := vα = none ∧ Fr n0 Lα ∧ Keep h0 hα [o, mb, fb] ∧ Exa Z hα o "com/example/cairn/cairn/history/Marks" ∧ Fld Z hα o "com/example/cairn/cairn/history/Marks" "flags" "[B" (.ref fb) ∧ Fld Z hα o "com/example/cairn/cairn/history/Marks" "marked" "[I" (.ref mb) ∧ Fld Z hα o "com/example/cairn/cairn/history/Marks" "count" "I" (.int (own_sc fs k cn)) ∧ Arv Z hα fb kb .byte z (own_sf fs k vv) (.int (0 : Int32)) ∧ Arv Z hα mb km .int (64 : Int32) (own_sm fs ms k cn) (.int (0 : Int32))
set_option maxRecDepth 65536 in
set_option maxHeartbeats 40000000 in
theorem rm6 (l : Launch) (Z : State) (a0 : Array Value) (hw : ∀ d ∈ tables_1, d.before a0 Z = true) (ws : List Jvm.Cond) (o : Addr) (k : Int32) (vv : Int32) (fb : Addr) (mb : Addr) (kb : ClassId) (km : ClassId) (z : Int32) (cn : Int32) (fs : List Value) (ms : List Value) (h0 : Heap) (n0 : Nat) (Z0 : n0 ≤ h0.size) (g_o : n0 ≤ o) (g_mb : n0 ≤ mb) (g_fb : n0 ≤ fb) (E_o : Exa Z h0 o "com/example/cairn/cairn/history/Marks") (F_flags : Fld Z h0 o "com/example/cairn/cairn/history/Marks" "flags" "[B" (.ref fb)) (F_marked : Fld Z h0 o "com/example/cairn/cairn/history/Marks" "marked" "[I" (.ref mb)) (F_count : Fld Z h0 o "com/example/cairn/cairn/history/Marks" "count" "I" (.int cn)) (V_f : Arv Z h0 fb kb .byte z fs (.int (0 : Int32))) (V_m : Arv Z h0 mb km .int (64 : Int32) ms (.int (0 : Int32))) (ne_o__mb : o ≠ mb) (ne_o__fb : o ≠ fb) (ne_mb__fb : mb ≠ fb) (hk : ¬ k < 0 ∧ k < z) (hcn : 0 ≤ cn.toInt ∧ cn.toInt < 64) (hms : ms.length = 64) (hfs : fs.length = z.toNatClampNeg) :
    MetFree l (⟨"com/example/cairn/cairn/history/Marks", "set", "(II)V"⟩ : MethodName) (head1 (Jvm.Cond.code (⟨"com/example/cairn/cairn/history/Marks", "set", "(II)V"⟩ : MethodName) prog_27_method_4_code 3 none :: ws) ({ frames := 0, cells := 0, slots := 0, locals := 0 } : Room)) (fun aα U => aα = #[(.ref o), (.int k), (.int vv)] ∧ Z.Warmed39 U.vm ∧ U.heap = h0) (fun _ _ _ _ _ => True) (fun _ U oα U' => ∃ vα Lα, oα = .returned vα ∧ Q6 Z o k vv fb mb kb km z cn fs ms h0 n0 vα U'.heap Lα ∧ FrameEnd U oα U' Lα ({ frames := 0, cells := 0, slots := 0, locals := 0 } : Room).cells ({ frames := 0, cells := 0, slots := 0, locals := 0 } : Room).slots) := by
  refine MetFree.of_bodySF (plainFor_of_name pn_0) hisR ?_
  intro p e s m args below meth c s₁ Bd hml0 hP hK
  refine own_wrap ?_
  intro GL hGL
  obtain ⟨rfl, hZ, hh⟩ := hP
  have hx := Bd.exec
  have hby := Bd.bytes
  have hml : c.maxLocals = 3 := hml0
  have hown : s.vm.findClass "com/example/cairn/cairn/history/Marks" = some m.cls := findClass_of_methodNamed Bd.named
  have hnm := (name_of_methodNamed Bd.named Bd.method).1
  have X0 : Stand p l e ({ frames := 0, cells := 0, slots := 0, locals := 0 } : Room) s m #[(.ref o), (.int k), (.int vv)] below meth c s₁ [] 0 0 := Stand.of_body Bd
  have e0 : s₁.heap = h0 := by rw [← hh, Bd.state]; rfl
  have N0 := Fr.nil n0
  have pre0 : ∀ τ, Steps p.tables e below (s₁.setTop (mkF m 0 #[.val (.ref o), .val (.int k), .val (.int vv)] [])) τ → Steps p.tables e below (s₁.setTop (entryFrame m #[(.ref o), (.int k), (.int vv)] 3)) τ := fun τ κ => castTop (ef_6 m o k vv) κ
  obtain ⟨G, hG, pre⟩ : ∃ G : State → Prop, (∀ τ, G τ → Steps p.tables e below (s₁.setTop (entryFrame m #[(.ref o), (.int k), (.int vv)] 3)) τ) ∧ ∀ τ, Steps p.tables e below (s₁.setTop (mkF m 0 #[.val (.ref o), .val (.int k), .val (.int vv)] [])) τ → G τ := ⟨_, pre0, fun _ k => k⟩
  have K : Keep h0 h0 [o, mb, fb] := Keep.refl h0 _
  have Zn := Z0
  have pre : ∀ τ, Steps p.tables e below (s₁.setTop (mkF m 1 #[.val (.ref o), .val (.int k), .val (.int vv)] [(.ref o)])) τ → G τ := fun τ κ => pre τ (by
    refine XS.aloadN X0.here hx rfl (hb hby d6_0) rfl rfl ?_
    show Steps p.tables e below (s₁.setTop (mkF m 1 #[.val (.ref o), .val (.int k), .val (.int vv)] [(.ref o)])) τ
    exact κ)
  obtain ⟨T1, X1, e1, st1⟩ := getF X0 hx hZ hown (host := "") (Or.inl (hw _ (List.mem_of_getElem? (i := 14) rfl))) Via.refl e0 F_flags (g := (mkF m 1 #[.val (.ref o), .val (.int k), .val (.int vv)] [(.ref o)])) rfl rfl (hb hby d6_1)
  have pre : ∀ τ, Steps p.tables e below (T1.setTop (mkF m 4 #[.val (.ref o), .val (.int k), .val (.int vv)] [(.ref fb)])) τ → G τ := fun τ κ => pre τ (st1 τ κ)
  have pre : ∀ τ, Steps p.tables e below (T1.setTop (mkF m 5 #[.val (.ref o), .val (.int k), .val (.int vv)] [(.int k), (.ref fb)])) τ → G τ := fun τ κ => pre τ (by
    refine XS.iloadN X1.here hx rfl (hb hby d6_4) rfl ?_
    show Steps p.tables e below (T1.setTop (mkF m 5 #[.val (.ref o), .val (.int k), .val (.int vv)] [(.int k), (.ref fb)])) τ
    exact κ)
  obtain ⟨c2, Ar2, q2, S2, Nz2, Hh2, Gg2⟩ := id V_f
  have hin2 : ¬ (k < 0 ∨ c2.slots.size ≤ (k).toNatClampNeg) := inb_of S2 hk
  have hat2 : c2.slots[(k).toNatClampNeg]? = some (.int (own_at fs k)) := own_getB Hh2 Gg2 hin2
  have pre : ∀ τ, Steps p.tables e below (T1.setTop (mkF m 6 #[.val (.ref o), .val (.int k), .val (.int vv)] [(.int (own_at fs k))])) τ → G τ := fun τ κ => pre τ (X1.baloadBytes hx (j := k) (v := (.int (own_at fs k))) (by rw [e1]; exact Ar2.1) (State.isArrayOf_alike hZ.alike Ar2.2.1) Ar2.2.2 hin2 hat2 (g := (mkF m 5 #[.val (.ref o), .val (.int k), .val (.int vv)] [(.int k), (.ref fb)])) rfl rfl (hb hby d6_5) _ κ)
  rcases Classical.em ((own_at fs k) = (0 : Int32)) with hc6_3 | hc6_3
  ·
    have pre : ∀ τ, Steps p.tables e below (T1.setTop (mkF m 10 #[.val (.ref o), .val (.int k), .val (.int vv)] [(.ref o)])) τ → G τ := fun τ κ => pre τ (by
      refine XS.ifNo X1.here hx rfl (hb hby d6_6) rfl ((if0 _ _).trans (teq hc6_3).2) ?_
      show Steps p.tables e below (T1.setTop (mkF m 9 #[.val (.ref o), .val (.int k), .val (.int vv)] [])) τ
      refine XS.aloadN X1.here hx rfl (hb hby d6_9) rfl rfl ?_
      show Steps p.tables e below (T1.setTop (mkF m 10 #[.val (.ref o), .val (.int k), .val (.int vv)] [(.ref o)])) τ
      exact κ)
    obtain ⟨T4, X4, e4, st4⟩ := getF X1 hx hZ hown (host := "") (Or.inl (hw _ (List.mem_of_getElem? (i := 35) rfl))) Via.refl e1 F_count (g := (mkF m 10 #[.val (.ref o), .val (.int k), .val (.int vv)] [(.ref o)])) rfl rfl (hb hby d6_10)
    have pre : ∀ τ, Steps p.tables e below (T4.setTop (mkF m 13 #[.val (.ref o), .val (.int k), .val (.int vv)] [(.int cn)])) τ → G τ := fun τ κ => pre τ (st4 τ κ)
    have pre : ∀ τ, Steps p.tables e below (T4.setTop (mkF m 14 #[.val (.ref o), .val (.int k), .val (.int vv)] [(.ref o), (.int cn)])) τ → G τ := fun τ κ => pre τ (by
      refine XS.aloadN X4.here hx rfl (hb hby d6_13) rfl rfl ?_
      show Steps p.tables e below (T4.setTop (mkF m 14 #[.val (.ref o), .val (.int k), .val (.int vv)] [(.ref o), (.int cn)])) τ
      exact κ)
    obtain ⟨T5, X5, e5, st5⟩ := getF X4 hx hZ hown (host := "") (Or.inl (hw _ (List.mem_of_getElem? (i := 17) rfl))) Via.refl e4 F_marked (g := (mkF m 14 #[.val (.ref o), .val (.int k), .val (.int vv)] [(.ref o), (.int cn)])) rfl rfl (hb hby d6_14)
    have pre : ∀ τ, Steps p.tables e below (T5.setTop (mkF m 17 #[.val (.ref o), .val (.int k), .val (.int vv)] [(.ref mb), (.int cn)])) τ → G τ := fun τ κ => pre τ (st5 τ κ)
    obtain ⟨c6, Ar6, -, S6, N6, -, -⟩ := id V_m
    have pre : ∀ τ, Steps p.tables e below (T5.setTop (mkF m 18 #[.val (.ref o), .val (.int k), .val (.int vv)] [(.int (64 : Int32)), (.int cn)])) τ → G τ := fun τ κ => pre τ (by
      refine X5.arraylength hx (by rw [e5]; exact Ar6.1) (State.isArrayOf_alike hZ.alike Ar6.2.1) (g := (mkF m 17 #[.val (.ref o), .val (.int k), .val (.int vv)] [(.ref mb), (.int cn)])) rfl rfl (hb hby d6_17) _ ?_
      rw [len_of S6 N6]
      exact κ)
    have hc7 : ¬ (cn = (64 : Int32)) := own_c64 hcn
    have pre : ∀ τ, Steps p.tables e below (T5.setTop (mkF m 39 #[.val (.ref o), .val (.int k), .val (.int vv)] [(.ref o)])) τ → G τ := fun τ κ => pre τ (by
      refine XS.icmpYes X5.here hx rfl (pc0 := 18) (pc' := 38) rfl (hb hby d6_18) rfl (feq hc7).2 (by decide) (by decide) ?_
      show Steps p.tables e below (T5.setTop (mkF m 38 #[.val (.ref o), .val (.int k), .val (.int vv)] [])) τ
      refine XS.aloadN X5.here hx rfl (hb hby d6_38) rfl rfl ?_
      show Steps p.tables e below (T5.setTop (mkF m 39 #[.val (.ref o), .val (.int k), .val (.int vv)] [(.ref o)])) τ
      exact κ)
    obtain ⟨T8, X8, e8, st8⟩ := getF X5 hx hZ hown (host := "") (Or.inl (hw _ (List.mem_of_getElem? (i := 17) rfl))) Via.refl e5 F_marked (g := (mkF m 39 #[.val (.ref o), .val (.int k), .val (.int vv)] [(.ref o)])) rfl rfl (hb hby d6_39)
    have pre : ∀ τ, Steps p.tables e below (T8.setTop (mkF m 42 #[.val (.ref o), .val (.int k), .val (.int vv)] [(.ref mb)])) τ → G τ := fun τ κ => pre τ (st8 τ κ)
    have pre : ∀ τ, Steps p.tables e below (T8.setTop (mkF m 44 #[.val (.ref o), .val (.int k), .val (.int vv)] [(.ref o), (.ref o), (.ref mb)])) τ → G τ := fun τ κ => pre τ (by
      refine XS.aloadN X8.here hx rfl (hb hby d6_42) rfl rfl ?_
      show Steps p.tables e below (T8.setTop (mkF m 43 #[.val (.ref o), .val (.int k), .val (.int vv)] [(.ref o), (.ref mb)])) τ
      refine XS.dup X8.here hx rfl (hb hby d6_43) rfl rfl ?_
      show Steps p.tables e below (T8.setTop (mkF m 44 #[.val (.ref o), .val (.int k), .val (.int vv)] [(.ref o), (.ref o), (.ref mb)])) τ
      exact κ)
    obtain ⟨T9, X9, e9, st9⟩ := getF X8 hx hZ hown (host := "") (Or.inl (hw _ (List.mem_of_getElem? (i := 35) rfl))) Via.refl e8 F_count (g := (mkF m 44 #[.val (.ref o), .val (.int k), .val (.int vv)] [(.ref o), (.ref o), (.ref mb)])) rfl rfl (hb hby d6_44)
    have pre : ∀ τ, Steps p.tables e below (T9.setTop (mkF m 47 #[.val (.ref o), .val (.int k), .val (.int vv)] [(.int cn), (.ref o), (.ref mb)])) τ → G τ := fun τ κ => pre τ (st9 τ κ)
    have pre : ∀ τ, Steps p.tables e below (T9.setTop (mkF m 50 #[.val (.ref o), .val (.int k), .val (.int vv)] [(.int (cn + (1 : Int32))), (.ref o), (.int cn), (.ref mb)])) τ → G τ := fun τ κ => pre τ (by
      refine XS.dupX1 X9.here hx rfl (hb hby d6_47) rfl rfl rfl ?_
      show Steps p.tables e below (T9.setTop (mkF m 48 #[.val (.ref o), .val (.int k), .val (.int vv)] [(.int cn), (.ref o), (.int cn), (.ref mb)])) τ
      refine XS.iconst X9.here hx rfl (hb hby d6_48) ?_
      show Steps p.tables e below (T9.setTop (mkF m 49 #[.val (.ref o), .val (.int k), .val (.int vv)] [(.int (1 : Int32)), (.int cn), (.ref o), (.int cn), (.ref mb)])) τ
      refine XS.iadd X9.here hx rfl (hb hby d6_49) rfl ?_
      show Steps p.tables e below (T9.setTop (mkF m 50 #[.val (.ref o), .val (.int k), .val (.int vv)] [(.int (cn + (1 : Int32))), (.ref o), (.int cn), (.ref mb)])) τ
      exact κ)
    obtain ⟨T10, h10, X10, e10, W10, st10⟩ := putF X9 hx hZ hown (host := "") (Or.inl (hw _ (List.mem_of_getElem? (i := 35) rfl))) Via.refl e9 F_count E_o (Or.inl (hw _ (List.mem_of_getElem? (i := 36) rfl))) (hw _ (List.mem_of_getElem? (i := 5) rfl)) (ty := .int) (by decide) rfl rfl (g := (mkF m 50 #[.val (.ref o), .val (.int k), .val (.int vv)] [(.int (cn + (1 : Int32))), (.ref o), (.int cn), (.ref mb)])) rfl rfl (hb hby d6_50)
    have F_count : Fld Z h10 o "com/example/cairn/cairn/history/Marks" "count" "I" (.int (cn + (1 : Int32))) := F_count.same W10
    have E_o : Exa Z h10 o "com/example/cairn/cairn/history/Marks" := E_o.wr W10
    have F_flags : Fld Z h10 o "com/example/cairn/cairn/history/Marks" "flags" "[B" (.ref fb) := F_flags.other W10 (Or.inr (slot_ne (Or.inl (hw _ (List.mem_of_getElem? (i := 15) rfl))) (Or.inl (hw _ (List.mem_of_getElem? (i := 36) rfl))) (by decide) (t := (.array .byte)) (t' := .int) (by decide) (by decide)))
    have F_marked : Fld Z h10 o "com/example/cairn/cairn/history/Marks" "marked" "[I" (.ref mb) := F_marked.other W10 (Or.inr (slot_ne (Or.inl (hw _ (List.mem_of_getElem? (i := 18) rfl))) (Or.inl (hw _ (List.mem_of_getElem? (i := 36) rfl))) (by decide) (t := (.array .int)) (t' := .int) (by decide) (by decide)))
    have V_f : Arv Z h10 fb kb .byte z fs (.int (0 : Int32)) := V_f.other W10 (Ne.symm ne_o__fb)
    have V_m : Arv Z h10 mb km .int (64 : Int32) ms (.int (0 : Int32)) := V_m.other W10 (Ne.symm ne_o__mb)
    have Zn : n0 ≤ h10.size := Nat.le_trans Zn (Keep.of_wr W10).1
    have K : Keep h0 h10 [o, mb, fb] := K.wr W10 (Or.inl (List.mem_of_getElem? (i := 0) rfl))
    have NN := Fr.snoc X10 N0 g_o
    have pre : ∀ τ, Steps p.tables e below (T10.setTop (mkF m 53 #[.val (.ref o), .val (.int k), .val (.int vv)] [(.int cn), (.ref mb)])) τ → G τ := fun τ κ => pre τ (st10 τ κ)
    have pre : ∀ τ, Steps p.tables e below (T10.setTop (mkF m 54 #[.val (.ref o), .val (.int k), .val (.int vv)] [(.int k), (.int cn), (.ref mb)])) τ → G τ := fun τ κ => pre τ (by
      refine XS.iloadN X10.here hx rfl (hb hby d6_53) rfl ?_
      show Steps p.tables e below (T10.setTop (mkF m 54 #[.val (.ref o), .val (.int k), .val (.int vv)] [(.int k), (.int cn), (.ref mb)])) τ
      exact κ)
    obtain ⟨c11, Ar11, q11, S11, Nz11, Hh11, Gg11⟩ := id V_m
    have hin11 : ¬ (cn < 0 ∨ c11.slots.size ≤ (cn).toNatClampNeg) := inb_of S11 (own_cb hcn)
    obtain ⟨T11, h11, X11, e11, W11, st11⟩ := stI X10 hx hZ e10 Ar11 (j := cn) hin11 (g := (mkF m 54 #[.val (.ref o), .val (.int k), .val (.int vv)] [(.int k), (.int cn), (.ref mb)])) rfl rfl (hb hby d6_54)
    have V_m : Arv Z h11 mb km .int (64 : Int32) (ms.set (cn).toNatClampNeg (.int k)) (.int (0 : Int32)) := Arv.set Ar11 q11 S11 Nz11 Hh11 Gg11 rfl W11 _ rfl (own_clt hcn hms)
    have E_o : Exa Z h11 o "com/example/cairn/cairn/history/Marks" := E_o.wr W11
    have F_flags : Fld Z h11 o "com/example/cairn/cairn/history/Marks" "flags" "[B" (.ref fb) := F_flags.other W11 (Or.inl ne_o__mb)
    have F_marked : Fld Z h11 o "com/example/cairn/cairn/history/Marks" "marked" "[I" (.ref mb) := F_marked.other W11 (Or.inl ne_o__mb)
    have F_count : Fld Z h11 o "com/example/cairn/cairn/history/Marks" "count" "I" (.int (cn + (1 : Int32))) := F_count.other W11 (Or.inl ne_o__mb)
    have V_f : Arv Z h11 fb kb .byte z fs (.int (0 : Int32)) := V_f.other W11 (Ne.symm ne_mb__fb)
    have Zn : n0 ≤ h11.size := Nat.le_trans Zn (Keep.of_wr W11).1
    have K : Keep h0 h11 [o, mb, fb] := K.wr W11 (Or.inl (List.mem_of_getElem? (i := 1) rfl))
    have NN := Fr.snoc X11 NN g_mb
    have pre : ∀ τ, Steps p.tables e below (T11.setTop (mkF m 55 #[.val (.ref o), .val (.int k), .val (.int vv)] [])) τ → G τ := fun τ κ => pre τ (st11 τ κ)
    have pre : ∀ τ, Steps p.tables e below (T11.setTop (mkF m 56 #[.val (.ref o), .val (.int k), .val (.int vv)] [(.ref o)])) τ → G τ := fun τ κ => pre τ (by
      refine XS.aloadN X11.here hx rfl (hb hby d6_55) rfl rfl ?_
      show Steps p.tables e below (T11.setTop (mkF m 56 #[.val (.ref o), .val (.int k), .val (.int vv)] [(.ref o)])) τ
      exact κ)
    obtain ⟨T12, X12, e12, st12⟩ := getF X11 hx hZ hown (host := "") (Or.inl (hw _ (List.mem_of_getElem? (i := 14) rfl))) Via.refl e11 F_flags (g := (mkF m 56 #[.val (.ref o), .val (.int k), .val (.int vv)] [(.ref o)])) rfl rfl (hb hby d6_56)
    have pre : ∀ τ, Steps p.tables e below (T12.setTop (mkF m 59 #[.val (.ref o), .val (.int k), .val (.int vv)] [(.ref fb)])) τ → G τ := fun τ κ => pre τ (st12 τ κ)
    have pre : ∀ τ, Steps p.tables e below (T12.setTop (mkF m 62 #[.val (.ref o), .val (.int k), .val (.int vv)] [(.int (vv.toInt8.toInt32)), (.int k), (.ref fb)])) τ → G τ := fun τ κ => pre τ (by
      refine XS.iloadN X12.here hx rfl (hb hby d6_59) rfl ?_
      show Steps p.tables e below (T12.setTop (mkF m 60 #[.val (.ref o), .val (.int k), .val (.int vv)] [(.int k), (.ref fb)])) τ
      refine XS.iloadN X12.here hx rfl (hb hby d6_60) rfl ?_
      show Steps p.tables e below (T12.setTop (mkF m 61 #[.val (.ref o), .val (.int k), .val (.int vv)] [(.int vv), (.int k), (.ref fb)])) τ
      refine XS.i2b X12.here hx rfl (hb hby d6_61) rfl ?_
      show Steps p.tables e below (T12.setTop (mkF m 62 #[.val (.ref o), .val (.int k), .val (.int vv)] [(.int (vv.toInt8.toInt32)), (.int k), (.ref fb)])) τ
      exact κ)
    obtain ⟨c13, Ar13, q13, S13, Nz13, Hh13, Gg13⟩ := id V_f
    have hin13 : ¬ (k < 0 ∨ c13.slots.size ≤ (k).toNatClampNeg) := inb_of S13 hk
    obtain ⟨T13, h13, X13, e13, W13, st13⟩ := stB X12 hx hZ e12 Ar13 (j := k) hin13 (g := (mkF m 62 #[.val (.ref o), .val (.int k), .val (.int vv)] [(.int (vv.toInt8.toInt32)), (.int k), (.ref fb)])) rfl rfl (hb hby d6_62)
    have V_f : Arv Z h13 fb kb .byte z (fs.set (k).toNatClampNeg (.int (nar .byte (vv.toInt8.toInt32)))) (.int (0 : Int32)) := Arv.set Ar13 q13 S13 Nz13 Hh13 Gg13 (fits_nar_byte _) W13 _ rfl (own_lt hk hfs)
    have E_o : Exa Z h13 o "com/example/cairn/cairn/history/Marks" := E_o.wr W13
    have F_flags : Fld Z h13 o "com/example/cairn/cairn/history/Marks" "flags" "[B" (.ref fb) := F_flags.other W13 (Or.inl ne_o__fb)
    have F_marked : Fld Z h13 o "com/example/cairn/cairn/history/Marks" "marked" "[I" (.ref mb) := F_marked.other W13 (Or.inl ne_o__fb)
    have F_count : Fld Z h13 o "com/example/cairn/cairn/history/Marks" "count" "I" (.int (cn + (1 : Int32))) := F_count.other W13 (Or.inl ne_o__fb)
    have V_m : Arv Z h13 mb km .int (64 : Int32) (ms.set (cn).toNatClampNeg (.int k)) (.int (0 : Int32)) := V_m.other W13 ne_mb__fb
    have Zn : n0 ≤ h13.size := Nat.le_trans Zn (Keep.of_wr W13).1
    have K : Keep h0 h13 [o, mb, fb] := K.wr W13 (Or.inl (List.mem_of_getElem? (i := 2) rfl))
    have NN := Fr.snoc X13 NN g_fb
    have pre : ∀ τ, Steps p.tables e below (T13.setTop (mkF m 63 #[.val (.ref o), .val (.int k), .val (.int vv)] [])) τ → G τ := fun τ κ => pre τ (st13 τ κ)
    obtain ⟨fsα, hr, hrun, hended, hW, hsame⟩ := X13.leave (v := none) (fun _ => rfl)
    refine hGL ⟨_, _, hG _ (pre _ ?_), hrun, hended, _, _, rfl, ?_, ⟨_, rfl⟩, hW, hsame.mono (by decide) (by decide)⟩
    · exact X13.returnOut hx Bd.returns (hb hby d6_63) hr
    · show Q6 Z o k vv fb mb kb km z cn fs ms h0 n0 _ T13.heap _
      rw [e13]
      refine ⟨rfl, NN, K, E_o, F_flags, F_marked, ?_, V_f, ?_⟩
      · unfold own_sc; rw [if_pos hc6_3]; exact F_count
      · unfold own_sm; rw [if_pos hc6_3]; exact V_m
  ·
    have pre : ∀ τ, Steps p.tables e below (T1.setTop (mkF m 56 #[.val (.ref o), .val (.int k), .val (.int vv)] [(.ref o)])) τ → G τ := fun τ κ => pre τ (by
      refine XS.ifYes X1.here hx rfl (pc0 := 6) (pc' := 55) rfl (hb hby d6_6) rfl ((if0 _ _).trans (feq hc6_3).2) (by decide) (by decide) ?_
      show Steps p.tables e below (T1.setTop (mkF m 55 #[.val (.ref o), .val (.int k), .val (.int vv)] [])) τ
      refine XS.aloadN X1.here hx rfl (hb hby d6_55) rfl rfl ?_
      show Steps p.tables e below (T1.setTop (mkF m 56 #[.val (.ref o), .val (.int k), .val (.int vv)] [(.ref o)])) τ
      exact κ)
    obtain ⟨T14, X14, e14, st14⟩ := getF X1 hx hZ hown (host := "") (Or.inl (hw _ (List.mem_of_getElem? (i := 14) rfl))) Via.refl e1 F_flags (g := (mkF m 56 #[.val (.ref o), .val (.int k), .val (.int vv)] [(.ref o)])) rfl rfl (hb hby d6_56)
    have pre : ∀ τ, Steps p.tables e below (T14.setTop (mkF m 59 #[.val (.ref o), .val (.int k), .val (.int vv)] [(.ref fb)])) τ → G τ := fun τ κ => pre τ (st14 τ κ)
    have pre : ∀ τ, Steps p.tables e below (T14.setTop (mkF m 62 #[.val (.ref o), .val (.int k), .val (.int vv)] [(.int (vv.toInt8.toInt32)), (.int k), (.ref fb)])) τ → G τ := fun τ κ => pre τ (by
      refine XS.iloadN X14.here hx rfl (hb hby d6_59) rfl ?_
      show Steps p.tables e below (T14.setTop (mkF m 60 #[.val (.ref o), .val (.int k), .val (.int vv)] [(.int k), (.ref fb)])) τ
      refine XS.iloadN X14.here hx rfl (hb hby d6_60) rfl ?_
      show Steps p.tables e below (T14.setTop (mkF m 61 #[.val (.ref o), .val (.int k), .val (.int vv)] [(.int vv), (.int k), (.ref fb)])) τ
      refine XS.i2b X14.here hx rfl (hb hby d6_61) rfl ?_
      show Steps p.tables e below (T14.setTop (mkF m 62 #[.val (.ref o), .val (.int k), .val (.int vv)] [(.int (vv.toInt8.toInt32)), (.int k), (.ref fb)])) τ
      exact κ)
    obtain ⟨c15, Ar15, q15, S15, Nz15, Hh15, Gg15⟩ := id V_f
    have hin15 : ¬ (k < 0 ∨ c15.slots.size ≤ (k).toNatClampNeg) := inb_of S15 hk
    obtain ⟨T15, h15, X15, e15, W15, st15⟩ := stB X14 hx hZ e14 Ar15 (j := k) hin15 (g := (mkF m 62 #[.val (.ref o), .val (.int k), .val (.int vv)] [(.int (vv.toInt8.toInt32)), (.int k), (.ref fb)])) rfl rfl (hb hby d6_62)
    have V_f : Arv Z h15 fb kb .byte z (fs.set (k).toNatClampNeg (.int (nar .byte (vv.toInt8.toInt32)))) (.int (0 : Int32)) := Arv.set Ar15 q15 S15 Nz15 Hh15 Gg15 (fits_nar_byte _) W15 _ rfl (own_lt hk hfs)
    have E_o : Exa Z h15 o "com/example/cairn/cairn/history/Marks" := E_o.wr W15
    have F_flags : Fld Z h15 o "com/example/cairn/cairn/history/Marks" "flags" "[B" (.ref fb) := F_flags.other W15 (Or.inl ne_o__fb)
    have F_marked : Fld Z h15 o "com/example/cairn/cairn/history/Marks" "marked" "[I" (.ref mb) := F_marked.other W15 (Or.inl ne_o__fb)
    have F_count : Fld Z h15 o "com/example/cairn/cairn/history/Marks" "count" "I" (.int cn) := F_count.other W15 (Or.inl ne_o__fb)
    have V_m : Arv Z h15 mb km .int (64 : Int32) ms (.int (0 : Int32)) := V_m.other W15 ne_mb__fb
    have Zn : n0 ≤ h15.size := Nat.le_trans Zn (Keep.of_wr W15).1
    have K : Keep h0 h15 [o, mb, fb] := K.wr W15 (Or.inl (List.mem_of_getElem? (i := 2) rfl))
    have NN := Fr.snoc X15 N0 g_fb
    have pre : ∀ τ, Steps p.tables e below (T15.setTop (mkF m 63 #[.val (.ref o), .val (.int k), .val (.int vv)] [])) τ → G τ := fun τ κ => pre τ (st15 τ κ)
    obtain ⟨fsα, hr, hrun, hended, hW, hsame⟩ := X15.leave (v := none) (fun _ => rfl)
    refine hGL ⟨_, _, hG _ (pre _ ?_), hrun, hended, _, _, rfl, ?_, ⟨_, rfl⟩, hW, hsame.mono (by decide) (by decide)⟩
    · exact X15.returnOut hx Bd.returns (hb hby d6_63) hr
    · show Q6 Z o k vv fb mb kb km z cn fs ms h0 n0 _ T15.heap _
      rw [e15]
      refine ⟨rfl, NN, K, E_o, F_flags, F_marked, ?_, V_f, ?_⟩
      · unfold own_sc; rw [if_neg hc6_3]; exact F_count
      · unfold own_sm; rw [if_neg hc6_3]; exact V_m
theorem d7_0 : decode prog_27_method_5_code 0 = .ok (.aload_n 0, 1) := by decide +kernel
theorem d7_1 : decode prog_27_method_5_code 1 = .ok (.getfield 17, 3) := by decide +kernel
theorem d7_4 : decode prog_27_method_5_code 4 = .ok (.ireturn, 1) := by decide +kernel
theorem ef_7 (m : MethodId) (x0 : Addr) : entryFrame m #[(.ref x0)] 1 = mkF m 0 #[.val (.ref x0)] [] := by first | (simp [entryFrame, mkF, argsToLocals, Value.category]; done) | rfl
def Q7 (Z : State) (o : Addr) (cn : Int32) (h0 : Heap) (n0 : Nat) (vα : Option Value) (hα : Heap) (Lα : List Loc) : Prop := vα = some (.int cn) ∧ Fr n0 Lα ∧ hα = h0
set_option maxRecDepth 65536 in
set_option maxHeartbeats 40000000 in
theorem rm7 (l : Launch) (Z : State) (a0 : Array Value) (hw : ∀ d ∈ tables_1, d.before a0 Z = true) (ws : List Jvm.Cond) (o : Addr) (cn : Int32) (h0 : Heap) (n0 : Nat) (Z0 : n0 ≤ h0.size) (F_count : Fld Z h0 o "com/example/cairn/cairn/history/Marks" "count" "I" (.int cn)) :
    MetFree l (⟨"com/example/cairn/cairn/history/Marks", "count", "()I"⟩ : MethodName) (head1 (Jvm.Cond.code (⟨"com/example/cairn/cairn/history/Marks", "count", "()I"⟩ : MethodName) prog_27_method_5_code 1 (some .int) :: ws) ({ frames := 0, cells := 0, slots := 0, locals := 0 } : Room)) (fun aα U => aα = #[(.ref o)] ∧ Z.Warmed39 U.vm ∧ U.heap = h0) (fun _ _ _ _ _ => True) (fun _ U oα U' => ∃ vα Lα, oα = .returned vα ∧ Q7 Z o cn h0 n0 vα U'.heap Lα ∧ FrameEnd U oα U' Lα ({ frames := 0, cells := 0, slots := 0, locals := 0 } : Room).cells ({ frames := 0, cells := 0, slots := 0, locals := 0 } : Room).slots) := by
  refine MetFree.of_bodySF (plainFor_of_name pn_0) hisR ?_
  intro p e s m args below meth c s₁ Bd hml0 hP hK
  refine own_wrap ?_
  intro GL hGL
  obtain ⟨rfl, hZ, hh⟩ := hP
  have hx := Bd.exec
  have hby := Bd.bytes
  have hml : c.maxLocals = 1 := hml0
  have hown : s.vm.findClass "com/example/cairn/cairn/history/Marks" = some m.cls := findClass_of_methodNamed Bd.named
  have hnm := (name_of_methodNamed Bd.named Bd.method).1
  have X0 : Stand p l e ({ frames := 0, cells := 0, slots := 0, locals := 0 } : Room) s m #[(.ref o)] below meth c s₁ [] 0 0 := Stand.of_body Bd
  have e0 : s₁.heap = h0 := by rw [← hh, Bd.state]; rfl
  have N0 := Fr.nil n0
  have pre0 : ∀ τ, Steps p.tables e below (s₁.setTop (mkF m 0 #[.val (.ref o)] [])) τ → Steps p.tables e below (s₁.setTop (entryFrame m #[(.ref o)] 1)) τ := fun τ κ => castTop (ef_7 m o) κ
  obtain ⟨G, hG, pre⟩ : ∃ G : State → Prop, (∀ τ, G τ → Steps p.tables e below (s₁.setTop (entryFrame m #[(.ref o)] 1)) τ) ∧ ∀ τ, Steps p.tables e below (s₁.setTop (mkF m 0 #[.val (.ref o)] [])) τ → G τ := ⟨_, pre0, fun _ k => k⟩
  have K : Keep h0 h0 [] := Keep.refl h0 _
  have Zn := Z0
  have pre : ∀ τ, Steps p.tables e below (s₁.setTop (mkF m 1 #[.val (.ref o)] [(.ref o)])) τ → G τ := fun τ κ => pre τ (by
    refine XS.aloadN X0.here hx rfl (hb hby d7_0) rfl rfl ?_
    show Steps p.tables e below (s₁.setTop (mkF m 1 #[.val (.ref o)] [(.ref o)])) τ
    exact κ)
  obtain ⟨T1, X1, e1, st1⟩ := getF X0 hx hZ hown (host := "") (Or.inl (hw _ (List.mem_of_getElem? (i := 35) rfl))) Via.refl e0 F_count (g := (mkF m 1 #[.val (.ref o)] [(.ref o)])) rfl rfl (hb hby d7_1)
  have pre : ∀ τ, Steps p.tables e below (T1.setTop (mkF m 4 #[.val (.ref o)] [(.int cn)])) τ → G τ := fun τ κ => pre τ (st1 τ κ)
  obtain ⟨fsα, hr, hrun, hended, hW, hsame⟩ := X1.leave (v := some (.int cn)) (fun h => by rw [Bd.returns] at h; cases h)
  refine hGL ⟨_, _, hG _ (pre _ ?_), hrun, hended, _, _, rfl, ?_, ⟨_, rfl⟩, hW, hsame.mono (by decide) (by decide)⟩
  · exact retOut X1 hx Bd.returns rfl (Or.inl ⟨rfl, Or.inl rfl, _, rfl⟩) (hb hby d7_4) hr
  · show Q7 Z o cn h0 n0 _ T1.heap _
    rw [e1]
    exact ⟨rfl, N0, rfl⟩
theorem d8_0 : decode prog_27_method_6_code 0 = .ok (.aload_n 0, 1) := by decide +kernel
theorem d8_1 : decode prog_27_method_6_code 1 = .ok (.getfield 13, 3) := by decide +kernel
theorem d8_4 : decode prog_27_method_6_code 4 = .ok (.iload_n 1, 1) := by decide +kernel
theorem d8_5 : decode prog_27_method_6_code 5 = .ok (.iaload, 1) := by decide +kernel
theorem d8_6 : decode prog_27_method_6_code 6 = .ok (.ireturn, 1) := by decide +kernel
theorem ef_8 (m : MethodId) (x0 : Addr) (x1 : Int32) : entryFrame m #[(.ref x0), (.int x1)] 2 = mkF m 0 #[.val (.ref x0), .val (.int x1)] [] := by first | (simp [entryFrame, mkF, argsToLocals, Value.category]; done) | rfl
def Q8 (Z : State) (o : Addr) (k : Int32) (mb : Addr) (km : ClassId) (ms : List Value) (h0 : Heap) (n0 : Nat) (vα : Option Value) (hα : Heap) (Lα : List Loc) : Prop := vα = some (.int (own_at ms k)) ∧ Fr n0 Lα ∧ hα = h0
set_option maxRecDepth 65536 in
set_option maxHeartbeats 40000000 in
theorem rm8 (l : Launch) (Z : State) (a0 : Array Value) (hw : ∀ d ∈ tables_1, d.before a0 Z = true) (ws : List Jvm.Cond) (o : Addr) (k : Int32) (mb : Addr) (km : ClassId) (ms : List Value) (h0 : Heap) (n0 : Nat) (Z0 : n0 ≤ h0.size) (F_marked : Fld Z h0 o "com/example/cairn/cairn/history/Marks" "marked" "[I" (.ref mb)) (V_m : Arv Z h0 mb km .int (64 : Int32) ms (.int (0 : Int32))) (hk : ¬ k < 0 ∧ k < (64 : Int32)) :
    MetFree l (⟨"com/example/cairn/cairn/history/Marks", "commit", "(I)I"⟩ : MethodName) (head1 (Jvm.Cond.code (⟨"com/example/cairn/cairn/history/Marks", "commit", "(I)I"⟩ : MethodName) prog_27_method_6_code 2 (some .int) :: ws) ({ frames := 0, cells := 0, slots := 0, locals := 0 } : Room)) (fun aα U => aα = #[(.ref o), (.int k)] ∧ Z.Warmed39 U.vm ∧ U.heap = h0) (fun _ _ _ _ _ => True) (fun _ U oα U' => ∃ vα Lα, oα = .returned vα ∧ Q8 Z o k mb km ms h0 n0 vα U'.heap Lα ∧ FrameEnd U oα U' Lα ({ frames := 0, cells := 0, slots := 0, locals := 0 } : Room).cells ({ frames := 0, cells := 0, slots := 0, locals := 0 } : Room).slots) := by
  refine MetFree.of_bodySF (plainFor_of_name pn_0) hisR ?_
  intro p e s m args below meth c s₁ Bd hml0 hP hK
  refine own_wrap ?_
  intro GL hGL
  obtain ⟨rfl, hZ, hh⟩ := hP
  have hx := Bd.exec
  have hby := Bd.bytes
  have hml : c.maxLocals = 2 := hml0
  have hown : s.vm.findClass "com/example/cairn/cairn/history/Marks" = some m.cls := findClass_of_methodNamed Bd.named
  have hnm := (name_of_methodNamed Bd.named Bd.method).1
  have X0 : Stand p l e ({ frames := 0, cells := 0, slots := 0, locals := 0 } : Room) s m #[(.ref o), (.int k)] below meth c s₁ [] 0 0 := Stand.of_body Bd
  have e0 : s₁.heap = h0 := by rw [← hh, Bd.state]; rfl
  have N0 := Fr.nil n0
  have pre0 : ∀ τ, Steps p.tables e below (s₁.setTop (mkF m 0 #[.val (.ref o), .val (.int k)] [])) τ → Steps p.tables e below (s₁.setTop (entryFrame m #[(.ref o), (.int k)] 2)) τ := fun τ κ => castTop (ef_8 m o k) κ
  obtain ⟨G, hG, pre⟩ : ∃ G : State → Prop, (∀ τ, G τ → Steps p.tables e below (s₁.setTop (entryFrame m #[(.ref o), (.int k)] 2)) τ) ∧ ∀ τ, Steps p.tables e below (s₁.setTop (mkF m 0 #[.val (.ref o), .val (.int k)] [])) τ → G τ := ⟨_, pre0, fun _ k => k⟩
  have K : Keep h0 h0 [] := Keep.refl h0 _
  have Zn := Z0
  have pre : ∀ τ, Steps p.tables e below (s₁.setTop (mkF m 1 #[.val (.ref o), .val (.int k)] [(.ref o)])) τ → G τ := fun τ κ => pre τ (by
    refine XS.aloadN X0.here hx rfl (hb hby d8_0) rfl rfl ?_
    show Steps p.tables e below (s₁.setTop (mkF m 1 #[.val (.ref o), .val (.int k)] [(.ref o)])) τ
    exact κ)
  obtain ⟨T1, X1, e1, st1⟩ := getF X0 hx hZ hown (host := "") (Or.inl (hw _ (List.mem_of_getElem? (i := 17) rfl))) Via.refl e0 F_marked (g := (mkF m 1 #[.val (.ref o), .val (.int k)] [(.ref o)])) rfl rfl (hb hby d8_1)
  have pre : ∀ τ, Steps p.tables e below (T1.setTop (mkF m 4 #[.val (.ref o), .val (.int k)] [(.ref mb)])) τ → G τ := fun τ κ => pre τ (st1 τ κ)
  have pre : ∀ τ, Steps p.tables e below (T1.setTop (mkF m 5 #[.val (.ref o), .val (.int k)] [(.int k), (.ref mb)])) τ → G τ := fun τ κ => pre τ (by
    refine XS.iloadN X1.here hx rfl (hb hby d8_4) rfl ?_
    show Steps p.tables e below (T1.setTop (mkF m 5 #[.val (.ref o), .val (.int k)] [(.int k), (.ref mb)])) τ
    exact κ)
  obtain ⟨c2, Ar2, q2, S2, Nz2, Hh2, Gg2⟩ := id V_m
  have hin2 : ¬ (k < 0 ∨ c2.slots.size ≤ (k).toNatClampNeg) := inb_of S2 hk
  have hat2 : c2.slots[(k).toNatClampNeg]? = some (.int (own_at ms k)) := own_getI Hh2 Gg2 hin2
  have pre : ∀ τ, Steps p.tables e below (T1.setTop (mkF m 6 #[.val (.ref o), .val (.int k)] [(.int (own_at ms k))])) τ → G τ := fun τ κ => pre τ (X1.iaload hx (j := k) (v := (.int (own_at ms k))) (by rw [e1]; exact Ar2.1) (State.isArrayOf_alike hZ.alike Ar2.2.1) Ar2.2.2 hin2 hat2 (g := (mkF m 5 #[.val (.ref o), .val (.int k)] [(.int k), (.ref mb)])) rfl rfl (hb hby d8_5) _ κ)
  obtain ⟨fsα, hr, hrun, hended, hW, hsame⟩ := X1.leave (v := some (.int (own_at ms k))) (fun h => by rw [Bd.returns] at h; cases h)
  refine hGL ⟨_, _, hG _ (pre _ ?_), hrun, hended, _, _, rfl, ?_, ⟨_, rfl⟩, hW, hsame.mono (by decide) (by decide)⟩
  · exact retOut X1 hx Bd.returns rfl (Or.inl ⟨rfl, Or.inl rfl, _, rfl⟩) (hb hby d8_6) hr
  · show Q8 Z o k mb km ms h0 n0 _ T1.heap _
    rw [e1]
    exact ⟨rfl, N0, rfl⟩
theorem d1_0 : decode jdk_29_method_65_code 0 = .ok (.iload_n 0, 1) := by decide +kernel
theorem d1_1 : decode jdk_29_method_65_code 1 = .ok (.iload_n 1, 1) := by decide +kernel
theorem d1_2 : decode jdk_29_method_65_code 2 = .ok (.if_icmp .lt 7, 3) := by decide +kernel
theorem d1_9 : decode jdk_29_method_65_code 9 = .ok (.iload_n 1, 1) := by decide +kernel
theorem d1_10 : decode jdk_29_method_65_code 10 = .ok (.ireturn, 1) := by decide +kernel
theorem d1_5 : decode jdk_29_method_65_code 5 = .ok (.iload_n 0, 1) := by decide +kernel
theorem d1_6 : decode jdk_29_method_65_code 6 = .ok (.goto 4, 3) := by decide +kernel
theorem ef_1 (m : MethodId) (x0 : Int32) (x1 : Int32) : entryFrame m #[(.int x0), (.int x1)] 2 = mkF m 0 #[.val (.int x0), .val (.int x1)] [] := by first | (simp [entryFrame, mkF, argsToLocals, Value.category]; done) | rfl
def Q1 (Z : State) (x : Int32) (y : Int32) (h0 : Heap) (n0 : Nat) (vα : Option Value) (hα : Heap) (Lα : List Loc) : Prop := vα = some (.int (own_max x y)) ∧ Fr n0 Lα ∧ hα = h0
set_option maxRecDepth 65536 in
set_option maxHeartbeats 40000000 in
theorem rm1 (l : Launch) (Z : State) (a0 : Array Value) (hw : ∀ d ∈ tables_1, d.before a0 Z = true) (ws : List Jvm.Cond) (x : Int32) (y : Int32) (h0 : Heap) (n0 : Nat) (Z0 : n0 ≤ h0.size) :
    MetFree l (⟨"java/lang/Math", "max", "(II)I"⟩ : MethodName) (head1 (Jvm.Cond.code (⟨"java/lang/Math", "max", "(II)I"⟩ : MethodName) jdk_29_method_65_code 2 (some .int) :: ws) ({ frames := 0, cells := 0, slots := 0, locals := 0 } : Room)) (fun aα U => aα = #[(.int x), (.int y)] ∧ Z.Warmed39 U.vm ∧ U.heap = h0) (fun _ _ _ _ _ => True) (fun _ U oα U' => ∃ vα Lα, oα = .returned vα ∧ Q1 Z x y h0 n0 vα U'.heap Lα ∧ FrameEnd U oα U' Lα ({ frames := 0, cells := 0, slots := 0, locals := 0 } : Room).cells ({ frames := 0, cells := 0, slots := 0, locals := 0 } : Room).slots) := by
  refine MetFree.of_bodySF (Jvm.Free.JP.mathPlain rfl (by decide +kernel)) hisR ?_
  intro p e s m args below meth c s₁ Bd hml0 hP hK
  refine own_wrap ?_
  intro GL hGL
  obtain ⟨rfl, hZ, hh⟩ := hP
  have hx := Bd.exec
  have hby := Bd.bytes
  have hml : c.maxLocals = 2 := hml0
  have hown : s.vm.findClass "java/lang/Math" = some m.cls := findClass_of_methodNamed Bd.named
  have hnm := (name_of_methodNamed Bd.named Bd.method).1
  have X0 : Stand p l e ({ frames := 0, cells := 0, slots := 0, locals := 0 } : Room) s m #[(.int x), (.int y)] below meth c s₁ [] 0 0 := Stand.of_body Bd
  have e0 : s₁.heap = h0 := by rw [← hh, Bd.state]; rfl
  have N0 := Fr.nil n0
  have pre0 : ∀ τ, Steps p.tables e below (s₁.setTop (mkF m 0 #[.val (.int x), .val (.int y)] [])) τ → Steps p.tables e below (s₁.setTop (entryFrame m #[(.int x), (.int y)] 2)) τ := fun τ κ => castTop (ef_1 m x y) κ
  obtain ⟨G, hG, pre⟩ : ∃ G : State → Prop, (∀ τ, G τ → Steps p.tables e below (s₁.setTop (entryFrame m #[(.int x), (.int y)] 2)) τ) ∧ ∀ τ, Steps p.tables e below (s₁.setTop (mkF m 0 #[.val (.int x), .val (.int y)] [])) τ → G τ := ⟨_, pre0, fun _ k => k⟩
  have K : Keep h0 h0 [] := Keep.refl h0 _
  have Zn := Z0
  have pre : ∀ τ, Steps p.tables e below (s₁.setTop (mkF m 2 #[.val (.int x), .val (.int y)] [(.int y), (.int x)])) τ → G τ := fun τ κ => pre τ (by
    refine XS.iloadN X0.here hx rfl (hb hby d1_0) rfl ?_
    show Steps p.tables e below (s₁.setTop (mkF m 1 #[.val (.int x), .val (.int y)] [(.int x)])) τ
    refine XS.iloadN X0.here hx rfl (hb hby d1_1) rfl ?_
    show Steps p.tables e below (s₁.setTop (mkF m 2 #[.val (.int x), .val (.int y)] [(.int y), (.int x)])) τ
    exact κ)
  rcases Classical.em (x < y) with hc2_1 | hc2_1
  ·
    have pre : ∀ τ, Steps p.tables e below (s₁.setTop (mkF m 10 #[.val (.int x), .val (.int y)] [(.int y)])) τ → G τ := fun τ κ => pre τ (by
      refine XS.icmpYes X0.here hx rfl (pc0 := 2) (pc' := 9) rfl (hb hby d1_2) rfl (tlt hc2_1).1 (by decide) (by decide) ?_
      show Steps p.tables e below (s₁.setTop (mkF m 9 #[.val (.int x), .val (.int y)] [])) τ
      refine XS.iloadN X0.here hx rfl (hb hby d1_9) rfl ?_
      show Steps p.tables e below (s₁.setTop (mkF m 10 #[.val (.int x), .val (.int y)] [(.int y)])) τ
      exact κ)
    obtain ⟨fsα, hr, hrun, hended, hW, hsame⟩ := X0.leave (v := some (.int y)) (fun h => by rw [Bd.returns] at h; cases h)
    refine hGL ⟨_, _, hG _ (pre _ ?_), hrun, hended, _, _, rfl, ?_, ⟨_, rfl⟩, hW, hsame.mono (by decide) (by decide)⟩
    · exact retOut X0 hx Bd.returns rfl (Or.inl ⟨rfl, Or.inl rfl, _, rfl⟩) (hb hby d1_10) hr
    · show Q1 Z x y h0 n0 _ s₁.heap _
      rw [e0]
      refine ⟨?_, N0, rfl⟩
      unfold own_max
      rw [if_pos hc2_1]
  ·
    have pre : ∀ τ, Steps p.tables e below (s₁.setTop (mkF m 10 #[.val (.int x), .val (.int y)] [(.int x)])) τ → G τ := fun τ κ => pre τ (by
      refine XS.icmpNo X0.here hx rfl (hb hby d1_2) rfl (flt hc2_1).1 ?_
      show Steps p.tables e below (s₁.setTop (mkF m 5 #[.val (.int x), .val (.int y)] [])) τ
      refine XS.iloadN X0.here hx rfl (hb hby d1_5) rfl ?_
      show Steps p.tables e below (s₁.setTop (mkF m 6 #[.val (.int x), .val (.int y)] [(.int x)])) τ
      refine XS.goto X0.here hx rfl (pc0 := 6) (pc' := 10) rfl (hb hby d1_6) (by decide) (by decide) ?_
      show Steps p.tables e below (s₁.setTop (mkF m 10 #[.val (.int x), .val (.int y)] [(.int x)])) τ
      exact κ)
    obtain ⟨fsα, hr, hrun, hended, hW, hsame⟩ := X0.leave (v := some (.int x)) (fun h => by rw [Bd.returns] at h; cases h)
    refine hGL ⟨_, _, hG _ (pre _ ?_), hrun, hended, _, _, rfl, ?_, ⟨_, rfl⟩, hW, hsame.mono (by decide) (by decide)⟩
    · exact retOut X0 hx Bd.returns rfl (Or.inl ⟨rfl, Or.inl rfl, _, rfl⟩) (hb hby d1_10) hr
    · show Q1 Z x y h0 n0 _ s₁.heap _
      rw [e0]
      refine ⟨?_, N0, rfl⟩
      unfold own_max
      rw [if_neg hc2_1]
theorem pn_1 : plainName "com/example/cairn/cairn/history/MarksReservePinLaw" = true := by first | (simp [plainName, overriddenIn]; done) | decide +kernel
theorem pd_0 : parseMethodDescriptor "(II)I" = some ⟨[.int, .int], some .int⟩ := by decide +kernel
theorem pd_1 : parseMethodDescriptor "()V" = some ⟨[], none⟩ := by decide +kernel
theorem pd_2 : parseMethodDescriptor "(I)V" = some ⟨[.int], none⟩ := by decide +kernel
theorem pd_3 : parseMethodDescriptor "()I" = some ⟨[], some .int⟩ := by decide +kernel
theorem pd_4 : parseMethodDescriptor "(I)I" = some ⟨[.int], some .int⟩ := by decide +kernel
theorem pd_5 : parseMethodDescriptor "(II)V" = some ⟨[.int, .int], none⟩ := by decide +kernel
theorem ef_0 (m : MethodId) (x0 : Int32) (x1 : Int32) (x2 : Int32) (x3 : Int32) : entryFrame m #[(.int x0), (.int x1), (.int x2), (.int x3)] maxLocals = mkF m 0 #[.val (.int x0), .val (.int x1), .val (.int x2), .val (.int x3), .unset, .unset, .unset, .unset, .unset, .unset, .unset] [] := by first | (simp [entryFrame, mkF, argsToLocals, Value.category, maxLocals]; done) | rfl
def Q0 (Z : State) (p1 : Int32) (p2 : Int32) (p3 : Int32) (p4 : Int32) (h0 : Heap) (n0 : Nat) (vα : Option Value) (hα : Heap) (Lα : List Loc) : Prop := vα = some (.int (1 : Int32)) ∧ Fr n0 Lα
set_option maxRecDepth 65536 in
set_option maxHeartbeats 40000000 in
theorem rm0 (l : Launch) (Z : State) (a0 : Array Value) (hw : ∀ d ∈ tables_1, d.before a0 Z = true) (ws : List Jvm.Cond) (p1 : Int32) (p2 : Int32) (p3 : Int32) (p4 : Int32) (h0 : Heap) (n0 : Nat) (Z0 : n0 ≤ h0.size) :
    MetFree l x (head1 (Jvm.Cond.code x code maxLocals ret :: ws) room_1) (fun aα U => aα = #[(.int p1), (.int p2), (.int p3), (.int p4)] ∧ Z.Warmed39 U.vm ∧ U.heap = h0) (fun _ _ _ _ _ => True) (fun _ U oα U' => ∃ vα Lα, oα = .returned vα ∧ Q0 Z p1 p2 p3 p4 h0 n0 vα U'.heap Lα ∧ FrameEnd U oα U' Lα room_1.cells room_1.slots) := by
  refine MetFree.of_bodySF (plainFor_of_name pn_1) hisR ?_
  intro p e s m args below meth c s₁ Bd hml0 hP hK
  refine own_wrap ?_
  intro GL hGL
  obtain ⟨rfl, hZ, hh⟩ := hP
  have hx := Bd.exec
  have hby := Bd.bytes
  have hml : c.maxLocals = 11 := hml0
  have hown : s.vm.findClass "com/example/cairn/cairn/history/MarksReservePinLaw" = some m.cls := findClass_of_methodNamed Bd.named
  have hnm := (name_of_methodNamed Bd.named Bd.method).1
  have X0 : Stand p l e room_1 s m #[(.int p1), (.int p2), (.int p3), (.int p4)] below meth c s₁ [] 0 0 := Stand.of_body Bd
  have e0 : s₁.heap = h0 := by rw [← hh, Bd.state]; rfl
  have N0 := Fr.nil n0
  have pre0 : ∀ τ, Steps p.tables e below (s₁.setTop (mkF m 0 #[.val (.int p1), .val (.int p2), .val (.int p3), .val (.int p4), .unset, .unset, .unset, .unset, .unset, .unset, .unset] [])) τ → Steps p.tables e below (s₁.setTop (entryFrame m #[(.int p1), (.int p2), (.int p3), (.int p4)] maxLocals)) τ := fun τ κ => castTop (ef_0 m p1 p2 p3 p4) κ
  obtain ⟨G, hG, pre⟩ : ∃ G : State → Prop, (∀ τ, G τ → Steps p.tables e below (s₁.setTop (entryFrame m #[(.int p1), (.int p2), (.int p3), (.int p4)] maxLocals)) τ) ∧ ∀ τ, Steps p.tables e below (s₁.setTop (mkF m 0 #[.val (.int p1), .val (.int p2), .val (.int p3), .val (.int p4), .unset, .unset, .unset, .unset, .unset, .unset, .unset] [])) τ → G τ := ⟨_, pre0, fun _ k => k⟩
  have Zn := Z0
  have pre : ∀ τ, Steps p.tables e below (s₁.setTop (mkF m 14 #[.val (.int p1), .val (.int p2), .val (.int p3), .val (.int p4), .val (.int (p1 &&& (1023 : Int32))), .val (.int (p2 &&& (1023 : Int32))), .unset, .unset, .unset, .unset, .unset] [])) τ → G τ := fun τ κ => pre τ (by
    refine XS.iloadN X0.here hx rfl (hb hby at_0) rfl ?_
    show Steps p.tables e below (s₁.setTop (mkF m 1 #[.val (.int p1), .val (.int p2), .val (.int p3), .val (.int p4), .unset, .unset, .unset, .unset, .unset, .unset, .unset] [(.int p1)])) τ
    refine XS.sipush X0.here hx rfl (hb hby at_1) ?_
    show Steps p.tables e below (s₁.setTop (mkF m 4 #[.val (.int p1), .val (.int p2), .val (.int p3), .val (.int p4), .unset, .unset, .unset, .unset, .unset, .unset, .unset] [(.int (1023 : Int32)), (.int p1)])) τ
    refine XS.iand X0.here hx rfl (hb hby at_4) rfl ?_
    show Steps p.tables e below (s₁.setTop (mkF m 5 #[.val (.int p1), .val (.int p2), .val (.int p3), .val (.int p4), .unset, .unset, .unset, .unset, .unset, .unset, .unset] [(.int (p1 &&& (1023 : Int32)))])) τ
    refine XS.istore X0.here hx rfl (hb hby at_5) rfl (l' := #[.val (.int p1), .val (.int p2), .val (.int p3), .val (.int p4), .val (.int (p1 &&& (1023 : Int32))), .unset, .unset, .unset, .unset, .unset, .unset]) rfl ?_
    show Steps p.tables e below (s₁.setTop (mkF m 7 #[.val (.int p1), .val (.int p2), .val (.int p3), .val (.int p4), .val (.int (p1 &&& (1023 : Int32))), .unset, .unset, .unset, .unset, .unset, .unset] [])) τ
    refine XS.iloadN X0.here hx rfl (hb hby at_7) rfl ?_
    show Steps p.tables e below (s₁.setTop (mkF m 8 #[.val (.int p1), .val (.int p2), .val (.int p3), .val (.int p4), .val (.int (p1 &&& (1023 : Int32))), .unset, .unset, .unset, .unset, .unset, .unset] [(.int p2)])) τ
    refine XS.sipush X0.here hx rfl (hb hby at_8) ?_
    show Steps p.tables e below (s₁.setTop (mkF m 11 #[.val (.int p1), .val (.int p2), .val (.int p3), .val (.int p4), .val (.int (p1 &&& (1023 : Int32))), .unset, .unset, .unset, .unset, .unset, .unset] [(.int (1023 : Int32)), (.int p2)])) τ
    refine XS.iand X0.here hx rfl (hb hby at_11) rfl ?_
    show Steps p.tables e below (s₁.setTop (mkF m 12 #[.val (.int p1), .val (.int p2), .val (.int p3), .val (.int p4), .val (.int (p1 &&& (1023 : Int32))), .unset, .unset, .unset, .unset, .unset, .unset] [(.int (p2 &&& (1023 : Int32)))])) τ
    refine XS.istore X0.here hx rfl (hb hby at_12) rfl (l' := #[.val (.int p1), .val (.int p2), .val (.int p3), .val (.int p4), .val (.int (p1 &&& (1023 : Int32))), .val (.int (p2 &&& (1023 : Int32))), .unset, .unset, .unset, .unset, .unset]) rfl ?_
    show Steps p.tables e below (s₁.setTop (mkF m 14 #[.val (.int p1), .val (.int p2), .val (.int p3), .val (.int p4), .val (.int (p1 &&& (1023 : Int32))), .val (.int (p2 &&& (1023 : Int32))), .unset, .unset, .unset, .unset, .unset] [])) τ
    exact κ)
  obtain ⟨s1, hs1⟩ : ∃ z : Int32, z = (p1 &&& (1023 : Int32)) := ⟨_, rfl⟩
  have pre : ∀ τ, Steps p.tables e below (s₁.setTop (mkF m 14 #[.val (.int p1), .val (.int p2), .val (.int p3), .val (.int p4), .val (.int s1), .val (.int (p2 &&& (1023 : Int32))), .unset, .unset, .unset, .unset, .unset] [])) τ → G τ := by subst hs1; exact pre
  obtain ⟨s2, hs2⟩ : ∃ z : Int32, z = (p2 &&& (1023 : Int32)) := ⟨_, rfl⟩
  have pre : ∀ τ, Steps p.tables e below (s₁.setTop (mkF m 14 #[.val (.int p1), .val (.int p2), .val (.int p3), .val (.int p4), .val (.int s1), .val (.int s2), .unset, .unset, .unset, .unset, .unset] [])) τ → G τ := by subst hs2; exact pre
  have bb1 : 0 ≤ s1.toInt ∧ s1.toInt ≤ 1023 := by rw [hs1]; exact own_b _
  have bb2 : 0 ≤ s2.toInt ∧ s2.toInt ≤ 1023 := by rw [hs2]; exact own_b _
  have pre : ∀ τ, Steps p.tables e below (s₁.setTop (mkF m 18 #[.val (.int p1), .val (.int p2), .val (.int p3), .val (.int p4), .val (.int s1), .val (.int s2), .unset, .unset, .unset, .unset, .unset] [(.int s2), (.int s1)])) τ → G τ := fun τ κ => pre τ (by
    refine XS.iload X0.here hx rfl (hb hby at_14) rfl ?_
    show Steps p.tables e below (s₁.setTop (mkF m 16 #[.val (.int p1), .val (.int p2), .val (.int p3), .val (.int p4), .val (.int s1), .val (.int s2), .unset, .unset, .unset, .unset, .unset] [(.int s1)])) τ
    refine XS.iload X0.here hx rfl (hb hby at_16) rfl ?_
    show Steps p.tables e below (s₁.setTop (mkF m 18 #[.val (.int p1), .val (.int p2), .val (.int p3), .val (.int p4), .val (.int s1), .val (.int s2), .unset, .unset, .unset, .unset, .unset] [(.int s2), (.int s1)])) τ
    exact κ)
  obtain ⟨_, _, ⟨T1, Lx1, kx1, nx1⟩, -, X1, ⟨Lc1, hQ1, l1, y1, z1⟩, st1⟩ := Jvm.LawKit.callS X0 hx (y := (⟨"java/lang/Math", "max", "(II)I"⟩ : MethodName)) hown (mvT hZ (hw _ (List.mem_of_getElem? (i := 0) rfl))) (mvT hZ (hw _ (List.mem_of_getElem? (i := 1) rfl))) (mvT hZ (hw _ (List.mem_of_getElem? (i := 2) rfl))) (mvT hZ (hw _ (List.mem_of_getElem? (i := 3) rfl))) (by decide) (backOf (W := 0) (rm1 l Z a0 hw [] s1 s2 h0 n0 Zn) hZ (hw _ (List.mem_of_getElem? (i := 3) rfl)) (hw _ (List.mem_of_getElem? (i := 2) rfl)) (by decide) (by decide)) (g := (mkF m 18 #[.val (.int p1), .val (.int p2), .val (.int p3), .val (.int p4), .val (.int s1), .val (.int s2), .unset, .unset, .unset, .unset, .unset] [(.int s2), (.int s1)])) rfl (by rw [hml]; rfl) (argsL := [(.int s1), (.int s2)]) (rest := []) (lenOf pd_0 rfl) rfl (by show 2 * 0 + _ ≤ _; exact Nat.le_of_eq rfl) (hb hby at_18) (fun _ _ => ⟨rfl, e0, (by decide : 0 + 0 ≤ _), (by decide : 0 + 0 ≤ _)⟩)
  dsimp only [Pt.U, Pt.locs, Pt.cells, Pt.slots] at X1 l1 y1 z1 st1 hQ1
  subst l1 y1 z1
  obtain ⟨rfl, Nq1, hs1⟩ := hQ1
  have NN := Fr.app N0 Nq1
  have pre : ∀ τ, Steps p.tables e below (T1.setTop (mkF m 21 #[.val (.int p1), .val (.int p2), .val (.int p3), .val (.int p4), .val (.int s1), .val (.int s2), .unset, .unset, .unset, .unset, .unset] [(.int (own_max s1 s2))])) τ → G τ := fun τ κ => pre τ (st1 τ κ)
  have pre : ∀ τ, Steps p.tables e below (T1.setTop (mkF m 23 #[.val (.int p1), .val (.int p2), .val (.int p3), .val (.int p4), .val (.int s1), .val (.int s2), .val (.int (own_max s1 s2)), .unset, .unset, .unset, .unset] [])) τ → G τ := fun τ κ => pre τ (by
    refine XS.istore X1.here hx rfl (hb hby at_21) rfl (l' := #[.val (.int p1), .val (.int p2), .val (.int p3), .val (.int p4), .val (.int s1), .val (.int s2), .val (.int (own_max s1 s2)), .unset, .unset, .unset, .unset]) rfl ?_
    show Steps p.tables e below (T1.setTop (mkF m 23 #[.val (.int p1), .val (.int p2), .val (.int p3), .val (.int p4), .val (.int s1), .val (.int s2), .val (.int (own_max s1 s2)), .unset, .unset, .unset, .unset] [])) τ
    exact κ)
  obtain ⟨nn, hnn⟩ : ∃ z : Int32, z = (own_max s1 s2) := ⟨_, rfl⟩
  have pre : ∀ τ, Steps p.tables e below (T1.setTop (mkF m 23 #[.val (.int p1), .val (.int p2), .val (.int p3), .val (.int p4), .val (.int s1), .val (.int s2), .val (.int nn), .unset, .unset, .unset, .unset] [])) τ → G τ := by subst hnn; exact pre
  obtain ⟨T2, h2, X2, e2, E2, A2, D2, -, st2⟩ := newO X1 hx hZ hown (hw _ (List.mem_of_getElem? (i := 4) rfl)) (hw _ (List.mem_of_getElem? (i := 5) rfl)) (hw _ (List.mem_of_getElem? (i := 6) rfl)) hs1 (g := (mkF m 23 #[.val (.int p1), .val (.int p2), .val (.int p3), .val (.int p4), .val (.int s1), .val (.int s2), .val (.int nn), .unset, .unset, .unset, .unset] [])) rfl (hb hby at_23) (by decide) (by decide)
  obtain ⟨b2, gg2⟩ : ∃ z, z = h0.size := ⟨_, rfl⟩
  rw [← gg2] at A2 D2 st2
  have g_b2 : n0 ≤ b2 := Nat.le_trans Zn (Nat.le_of_eq gg2.symm)
  have Zn : n0 ≤ h2.size := Nat.le_trans Zn E2.1
  have F_flags_b2 : Fld Z h2 b2 "com/example/cairn/cairn/history/Marks" "flags" "[B" .null := D2 (Or.inl (hw _ (List.mem_of_getElem? (i := 15) rfl))) (ty := (.array .byte)) (by decide)
  have F_marked_b2 : Fld Z h2 b2 "com/example/cairn/cairn/history/Marks" "marked" "[I" .null := D2 (Or.inl (hw _ (List.mem_of_getElem? (i := 18) rfl))) (ty := (.array .int)) (by decide)
  have F_count_b2 : Fld Z h2 b2 "com/example/cairn/cairn/history/Marks" "count" "I" (.int (0 : Int32)) := D2 (Or.inl (hw _ (List.mem_of_getElem? (i := 36) rfl))) (ty := .int) (by decide)
  have E_b2 := A2
  have pre : ∀ τ, Steps p.tables e below (T2.setTop (mkF m 26 #[.val (.int p1), .val (.int p2), .val (.int p3), .val (.int p4), .val (.int s1), .val (.int s2), .val (.int nn), .unset, .unset, .unset, .unset] [(.ref b2)])) τ → G τ := fun τ κ => pre τ (st2 τ κ)
  have pre : ∀ τ, Steps p.tables e below (T2.setTop (mkF m 27 #[.val (.int p1), .val (.int p2), .val (.int p3), .val (.int p4), .val (.int s1), .val (.int s2), .val (.int nn), .unset, .unset, .unset, .unset] [(.ref b2), (.ref b2)])) τ → G τ := fun τ κ => pre τ (by
    refine XS.dup X2.here hx rfl (hb hby at_26) rfl rfl ?_
    show Steps p.tables e below (T2.setTop (mkF m 27 #[.val (.int p1), .val (.int p2), .val (.int p3), .val (.int p4), .val (.int s1), .val (.int s2), .val (.int nn), .unset, .unset, .unset, .unset] [(.ref b2), (.ref b2)])) τ
    exact κ)
  obtain ⟨_, _, ⟨T3, Lx3, kx3, nx3⟩, -, X3, ⟨Lc3, hQ3, l3, y3, z3⟩, st3⟩ := X2.specialBack hx (y := (⟨"com/example/cairn/cairn/history/Marks", "<init>", "()V"⟩ : MethodName)) rfl hown (mvT hZ (hw _ (List.mem_of_getElem? (i := 7) rfl))) (mvT hZ (hw _ (List.mem_of_getElem? (i := 8) rfl))) (mvT hZ (hw _ (List.mem_of_getElem? (i := 9) rfl))) (by decide) (backOf (W := 1) (rm2 l Z a0 hw [] b2 .null .null h2 n0 Zn g_b2 E_b2 F_flags_b2 F_marked_b2 F_count_b2) hZ (hw _ (List.mem_of_getElem? (i := 9) rfl)) (hw _ (List.mem_of_getElem? (i := 6) rfl)) (by decide) (by decide)) (g := (mkF m 27 #[.val (.int p1), .val (.int p2), .val (.int p3), .val (.int p4), .val (.int s1), .val (.int s2), .val (.int nn), .unset, .unset, .unset, .unset] [(.ref b2), (.ref b2)])) rfl (by rw [hml]; rfl) (Steps.refl _) (a := b2) (argsL := []) (rest := [(.ref b2)]) (lenOf pd_1 rfl) rfl (by show 2 * 0 + _ ≤ _; exact Nat.le_of_eq rfl) (hb hby at_27) (fun _ _ => ⟨rfl, e2, (by decide : 1 + 2 ≤ _), (by decide : 3 + 64 ≤ _)⟩)
  dsimp only [Pt.U, Pt.locs, Pt.cells, Pt.slots] at X3 l3 y3 z3 st3 hQ3
  subst l3 y3 z3
  obtain ⟨fb_3, mb_3, kb_3, km_3, rfl, Nq3, Kc3, gn_fb_3, gz_fb_3, gn_mb_3, gz_mb_3, ne_fb__mb_3, E_o_3, F_flags_3, F_marked_3, F_count_3, V_f_3, V_m_3⟩ := hQ3
  have NN := Fr.app NN Nq3
  have g_fb_3 := gn_fb_3
  have ne_b2_fb_3 : b2 ≠ fb_3 := Nat.ne_of_lt (Nat.lt_of_lt_of_le F_flags_b2.lt gz_fb_3)
  have g_mb_3 := gn_mb_3
  have ne_b2_mb_3 : b2 ≠ mb_3 := Nat.ne_of_lt (Nat.lt_of_lt_of_le F_flags_b2.lt gz_mb_3)
  have E_b2 : Exa Z T3.heap b2 "com/example/cairn/cairn/history/Marks" := E_b2.keep Kc3
  have Zn : n0 ≤ T3.heap.size := Nat.le_trans Zn Kc3.1
  have pre : ∀ τ, Steps p.tables e below (T3.setTop (mkF m 30 #[.val (.int p1), .val (.int p2), .val (.int p3), .val (.int p4), .val (.int s1), .val (.int s2), .val (.int nn), .unset, .unset, .unset, .unset] [(.ref b2)])) τ → G τ := fun τ κ => pre τ (st3.trans κ)
  have pre : ∀ τ, Steps p.tables e below (T3.setTop (mkF m 36 #[.val (.int p1), .val (.int p2), .val (.int p3), .val (.int p4), .val (.int s1), .val (.int s2), .val (.int nn), .val (.ref b2), .unset, .unset, .unset] [(.int s1), (.ref b2)])) τ → G τ := fun τ κ => pre τ (by
    refine XS.astore X3.here hx rfl (hb hby at_30) rfl rfl (l' := #[.val (.int p1), .val (.int p2), .val (.int p3), .val (.int p4), .val (.int s1), .val (.int s2), .val (.int nn), .val (.ref b2), .unset, .unset, .unset]) rfl ?_
    show Steps p.tables e below (T3.setTop (mkF m 32 #[.val (.int p1), .val (.int p2), .val (.int p3), .val (.int p4), .val (.int s1), .val (.int s2), .val (.int nn), .val (.ref b2), .unset, .unset, .unset] [])) τ
    refine XS.aload X3.here hx rfl (hb hby at_32) rfl rfl ?_
    show Steps p.tables e below (T3.setTop (mkF m 34 #[.val (.int p1), .val (.int p2), .val (.int p3), .val (.int p4), .val (.int s1), .val (.int s2), .val (.int nn), .val (.ref b2), .unset, .unset, .unset] [(.ref b2)])) τ
    refine XS.iload X3.here hx rfl (hb hby at_34) rfl ?_
    show Steps p.tables e below (T3.setTop (mkF m 36 #[.val (.int p1), .val (.int p2), .val (.int p3), .val (.int p4), .val (.int s1), .val (.int s2), .val (.int nn), .val (.ref b2), .unset, .unset, .unset] [(.int s1), (.ref b2)])) τ
    exact κ)
  obtain ⟨cq4, kq4, q4a, q4b, q4c⟩ := isOf hZ rfl E_b2
  obtain ⟨_, _, ⟨T4, Lx4, kx4, nx4⟩, -, X4, ⟨Lc4, hQ4, l4, y4, z4⟩, st4⟩ := X3.virtualBack hx (y := (⟨"com/example/cairn/cairn/history/Marks", "reserve", "(I)V"⟩ : MethodName)) (z := (⟨"com/example/cairn/cairn/history/Marks", "reserve", "(I)V"⟩ : MethodName)) hown (mvT hZ (hw _ (List.mem_of_getElem? (i := 19) rfl))) (mvT hZ (hw _ (List.mem_of_getElem? (i := 20) rfl))) (notFace_of_selects (args := #[]) (mvT hZ (hw _ (List.mem_of_getElem? (i := 22) rfl)))) (mvT hZ (hw _ (List.mem_of_getElem? (i := 22) rfl))) (mvT hZ (hw _ (List.mem_of_getElem? (i := 21) rfl))) (by decide) (backOf (W := 0) (rm4 l Z a0 hw [] b2 s1 fb_3 mb_3 kb_3 km_3 (0 : Int32) (0 : Int32) [] (List.replicate 64 (.int (0 : Int32))) T3.heap n0 Zn g_b2 E_b2 F_flags_3 F_marked_3 F_count_3 V_f_3 V_m_3 ne_b2_mb_3 ne_b2_fb_3 (Ne.symm ne_fb__mb_3) (own_nn bb1) (own_cap bb1) gn_fb_3) hZ (hw _ (List.mem_of_getElem? (i := 23) rfl)) (hw _ (List.mem_of_getElem? (i := 6) rfl)) (by decide) (by decide)) q4a q4c (g := (mkF m 36 #[.val (.int p1), .val (.int p2), .val (.int p3), .val (.int p4), .val (.int s1), .val (.int s2), .val (.int nn), .val (.ref b2), .unset, .unset, .unset] [(.int s1), (.ref b2)])) rfl (by rw [hml]; rfl) (Steps.refl _) (argsL := [(.int s1)]) (rest := []) (lenOf pd_2 rfl) rfl (by show 2 * 0 + _ ≤ _; exact Nat.le_of_eq rfl) (hb hby at_36) (fun _ _ => ⟨rfl, rfl, (by decide : 3 + 1 ≤ _), (by decide : 67 + 1023 ≤ _)⟩)
  dsimp only [Pt.U, Pt.locs, Pt.cells, Pt.slots] at X4 l4 y4 z4 st4 hQ4
  subst l4 y4 z4
  obtain ⟨fc_4, kd_4, rfl, Nq4, Kc4, gn_fc_4, ne_o__fc_4, ne_mb__fc_4, E_o_4, F_flags_4, F_marked_4, F_count_4, V_f_4⟩ := hQ4
  have NN := Fr.app NN Nq4
  have E_b2 : Exa Z T4.heap b2 "com/example/cairn/cairn/history/Marks" := E_b2.keep Kc4
  have E_o_3 : Exa Z T4.heap b2 "com/example/cairn/cairn/history/Marks" := E_o_3.keep Kc4
  have V_m_3 : Arv Z T4.heap mb_3 km_3 .int (64 : Int32) (List.replicate 64 (.int (0 : Int32))) (.int (0 : Int32)) := V_m_3.keep Kc4 (ninS (Ne.symm ne_b2_mb_3) nin0)
  have Zn : n0 ≤ T4.heap.size := Nat.le_trans Zn Kc4.1
  have pre : ∀ τ, Steps p.tables e below (T4.setTop (mkF m 39 #[.val (.int p1), .val (.int p2), .val (.int p3), .val (.int p4), .val (.int s1), .val (.int s2), .val (.int nn), .val (.ref b2), .unset, .unset, .unset] [])) τ → G τ := fun τ κ => pre τ (st4.trans κ)
  have pre : ∀ τ, Steps p.tables e below (T4.setTop (mkF m 43 #[.val (.int p1), .val (.int p2), .val (.int p3), .val (.int p4), .val (.int s1), .val (.int s2), .val (.int nn), .val (.ref b2), .unset, .unset, .unset] [(.int s2), (.ref b2)])) τ → G τ := fun τ κ => pre τ (by
    refine XS.aload X4.here hx rfl (hb hby at_39) rfl rfl ?_
    show Steps p.tables e below (T4.setTop (mkF m 41 #[.val (.int p1), .val (.int p2), .val (.int p3), .val (.int p4), .val (.int s1), .val (.int s2), .val (.int nn), .val (.ref b2), .unset, .unset, .unset] [(.ref b2)])) τ
    refine XS.iload X4.here hx rfl (hb hby at_41) rfl ?_
    show Steps p.tables e below (T4.setTop (mkF m 43 #[.val (.int p1), .val (.int p2), .val (.int p3), .val (.int p4), .val (.int s1), .val (.int s2), .val (.int nn), .val (.ref b2), .unset, .unset, .unset] [(.int s2), (.ref b2)])) τ
    exact κ)
  obtain ⟨cq5, kq5, q5a, q5b, q5c⟩ := isOf hZ rfl E_b2
  obtain ⟨_, _, ⟨T5, Lx5, kx5, nx5⟩, -, X5, ⟨Lc5, hQ5, l5, y5, z5⟩, st5⟩ := X4.virtualBack hx (y := (⟨"com/example/cairn/cairn/history/Marks", "reserve", "(I)V"⟩ : MethodName)) (z := (⟨"com/example/cairn/cairn/history/Marks", "reserve", "(I)V"⟩ : MethodName)) hown (mvT hZ (hw _ (List.mem_of_getElem? (i := 19) rfl))) (mvT hZ (hw _ (List.mem_of_getElem? (i := 20) rfl))) (notFace_of_selects (args := #[]) (mvT hZ (hw _ (List.mem_of_getElem? (i := 22) rfl)))) (mvT hZ (hw _ (List.mem_of_getElem? (i := 22) rfl))) (mvT hZ (hw _ (List.mem_of_getElem? (i := 21) rfl))) (by decide) (backOf (W := 0) (rm4 l Z a0 hw [] b2 s2 fc_4 mb_3 kd_4 km_3 (own_rz (0 : Int32) s1) (0 : Int32) (own_rf (0 : Int32) s1 []) (List.replicate 64 (.int (0 : Int32))) T4.heap n0 Zn g_b2 E_b2 F_flags_4 F_marked_4 F_count_4 V_f_4 V_m_3 ne_b2_mb_3 ne_o__fc_4 ne_mb__fc_4 (own_nn bb2) (own_cap bb2) gn_fc_4) hZ (hw _ (List.mem_of_getElem? (i := 23) rfl)) (hw _ (List.mem_of_getElem? (i := 6) rfl)) (by decide) (by decide)) q5a q5c (g := (mkF m 43 #[.val (.int p1), .val (.int p2), .val (.int p3), .val (.int p4), .val (.int s1), .val (.int s2), .val (.int nn), .val (.ref b2), .unset, .unset, .unset] [(.int s2), (.ref b2)])) rfl (by rw [hml]; rfl) (Steps.refl _) (argsL := [(.int s2)]) (rest := []) (lenOf pd_2 rfl) rfl (by show 2 * 0 + _ ≤ _; exact Nat.le_of_eq rfl) (hb hby at_43) (fun _ _ => ⟨rfl, rfl, (by decide : 4 + 1 ≤ _), (by decide : 1090 + 1023 ≤ _)⟩)
  dsimp only [Pt.U, Pt.locs, Pt.cells, Pt.slots] at X5 l5 y5 z5 st5 hQ5
  subst l5 y5 z5
  obtain ⟨fc_5, kd_5, rfl, Nq5, Kc5, gn_fc_5, ne_o__fc_5, ne_mb__fc_5, E_o_5, F_flags_5, F_marked_5, F_count_5, V_f_5⟩ := hQ5
  have NN := Fr.app NN Nq5
  have E_b2 : Exa Z T5.heap b2 "com/example/cairn/cairn/history/Marks" := E_b2.keep Kc5
  have E_o_3 : Exa Z T5.heap b2 "com/example/cairn/cairn/history/Marks" := E_o_3.keep Kc5
  have V_m_3 : Arv Z T5.heap mb_3 km_3 .int (64 : Int32) (List.replicate 64 (.int (0 : Int32))) (.int (0 : Int32)) := V_m_3.keep Kc5 (ninS (Ne.symm ne_b2_mb_3) nin0)
  have E_o_4 : Exa Z T5.heap b2 "com/example/cairn/cairn/history/Marks" := E_o_4.keep Kc5
  have Zn : n0 ≤ T5.heap.size := Nat.le_trans Zn Kc5.1
  have pre : ∀ τ, Steps p.tables e below (T5.setTop (mkF m 46 #[.val (.int p1), .val (.int p2), .val (.int p3), .val (.int p4), .val (.int s1), .val (.int s2), .val (.int nn), .val (.ref b2), .unset, .unset, .unset] [])) τ → G τ := fun τ κ => pre τ (st5.trans κ)
  obtain ⟨z2, hz2⟩ : ∃ q : Int32, q = (own_rz (own_rz (0 : Int32) s1) s2) := ⟨_, rfl⟩
  obtain ⟨fs2, hf2⟩ : ∃ q : List Value, q = (own_rf (own_rz (0 : Int32) s1) s2 (own_rf (0 : Int32) s1 [])) := ⟨_, rfl⟩
  rw [← hz2, ← hf2] at V_f_5
  have I2 : z2 = nn ∧ fs2.length = z2.toNatClampNeg ∧ ∀ j, own_at fs2 j = 0 := by rw [hz2, hf2, hnn]; exact own_two bb1 bb2
  have pre : ∀ τ, Steps p.tables e below (T5.setTop (mkF m 48 #[.val (.int p1), .val (.int p2), .val (.int p3), .val (.int p4), .val (.int s1), .val (.int s2), .val (.int nn), .val (.ref b2), .unset, .unset, .unset] [(.int nn)])) τ → G τ := fun τ κ => pre τ (by
    refine XS.iload X5.here hx rfl (hb hby at_46) rfl ?_
    show Steps p.tables e below (T5.setTop (mkF m 48 #[.val (.int p1), .val (.int p2), .val (.int p3), .val (.int p4), .val (.int s1), .val (.int s2), .val (.int nn), .val (.ref b2), .unset, .unset, .unset] [(.int nn)])) τ
    exact κ)
  rcases Classical.em (nn = (0 : Int32)) with hc48_6 | hc48_6
  ·
    have pre : ∀ τ, Steps p.tables e below (T5.setTop (mkF m 53 #[.val (.int p1), .val (.int p2), .val (.int p3), .val (.int p4), .val (.int s1), .val (.int s2), .val (.int nn), .val (.ref b2), .unset, .unset, .unset] [(.ref b2)])) τ → G τ := fun τ κ => pre τ (by
      refine XS.ifNo X5.here hx rfl (hb hby at_48) rfl ((if0 _ _).trans (teq hc48_6).2) ?_
      show Steps p.tables e below (T5.setTop (mkF m 51 #[.val (.int p1), .val (.int p2), .val (.int p3), .val (.int p4), .val (.int s1), .val (.int s2), .val (.int nn), .val (.ref b2), .unset, .unset, .unset] [])) τ
      refine XS.aload X5.here hx rfl (hb hby at_51) rfl rfl ?_
      show Steps p.tables e below (T5.setTop (mkF m 53 #[.val (.int p1), .val (.int p2), .val (.int p3), .val (.int p4), .val (.int s1), .val (.int s2), .val (.int nn), .val (.ref b2), .unset, .unset, .unset] [(.ref b2)])) τ
      exact κ)
    obtain ⟨cq7, kq7, q7a, q7b, q7c⟩ := isOf hZ rfl E_b2
    obtain ⟨_, _, ⟨T7, Lx7, kx7, nx7⟩, -, X7, ⟨Lc7, hQ7, l7, y7, z7⟩, st7⟩ := X5.virtualBack hx (y := (⟨"com/example/cairn/cairn/history/Marks", "count", "()I"⟩ : MethodName)) (z := (⟨"com/example/cairn/cairn/history/Marks", "count", "()I"⟩ : MethodName)) hown (mvT hZ (hw _ (List.mem_of_getElem? (i := 37) rfl))) (mvT hZ (hw _ (List.mem_of_getElem? (i := 38) rfl))) (notFace_of_selects (args := #[]) (mvT hZ (hw _ (List.mem_of_getElem? (i := 40) rfl)))) (mvT hZ (hw _ (List.mem_of_getElem? (i := 40) rfl))) (mvT hZ (hw _ (List.mem_of_getElem? (i := 39) rfl))) (by decide) (backOf (W := 0) (rm7 l Z a0 hw [] b2 (0 : Int32) T5.heap n0 Zn F_count_5) hZ (hw _ (List.mem_of_getElem? (i := 41) rfl)) (hw _ (List.mem_of_getElem? (i := 6) rfl)) (by decide) (by decide)) q7a q7c (g := (mkF m 53 #[.val (.int p1), .val (.int p2), .val (.int p3), .val (.int p4), .val (.int s1), .val (.int s2), .val (.int nn), .val (.ref b2), .unset, .unset, .unset] [(.ref b2)])) rfl (by rw [hml]; rfl) (Steps.refl _) (argsL := []) (rest := []) (lenOf pd_3 rfl) rfl (by show 2 * 0 + _ ≤ _; exact Nat.le_of_eq rfl) (hb hby at_53) (fun _ _ => ⟨rfl, rfl, (by decide : 5 + 0 ≤ _), (by decide : 2113 + 0 ≤ _)⟩)
    dsimp only [Pt.U, Pt.locs, Pt.cells, Pt.slots] at X7 l7 y7 z7 st7 hQ7
    subst l7 y7 z7
    obtain ⟨rfl, Nq7, hs7⟩ := hQ7
    have NN := Fr.app NN Nq7
    have pre : ∀ τ, Steps p.tables e below (T7.setTop (mkF m 56 #[.val (.int p1), .val (.int p2), .val (.int p3), .val (.int p4), .val (.int s1), .val (.int s2), .val (.int nn), .val (.ref b2), .unset, .unset, .unset] [(.int (0 : Int32))])) τ → G τ := fun τ κ => pre τ (st7.trans κ)
    have hc8 : (0 : Int32) = (0 : Int32) := rfl
    have pre : ∀ τ, Steps p.tables e below (T7.setTop (mkF m 64 #[.val (.int p1), .val (.int p2), .val (.int p3), .val (.int p4), .val (.int s1), .val (.int s2), .val (.int nn), .val (.ref b2), .unset, .unset, .unset] [(.int (1 : Int32))])) τ → G τ := fun τ κ => pre τ (by
      refine XS.ifNo X7.here hx rfl (hb hby at_56) rfl ((if0 _ _).trans (teq hc8).2) ?_
      show Steps p.tables e below (T7.setTop (mkF m 59 #[.val (.int p1), .val (.int p2), .val (.int p3), .val (.int p4), .val (.int s1), .val (.int s2), .val (.int nn), .val (.ref b2), .unset, .unset, .unset] [])) τ
      refine XS.iconst X7.here hx rfl (hb hby at_59) ?_
      show Steps p.tables e below (T7.setTop (mkF m 60 #[.val (.int p1), .val (.int p2), .val (.int p3), .val (.int p4), .val (.int s1), .val (.int s2), .val (.int nn), .val (.ref b2), .unset, .unset, .unset] [(.int (1 : Int32))])) τ
      refine XS.goto X7.here hx rfl (pc0 := 60) (pc' := 64) rfl (hb hby at_60) (by decide) (by decide) ?_
      show Steps p.tables e below (T7.setTop (mkF m 64 #[.val (.int p1), .val (.int p2), .val (.int p3), .val (.int p4), .val (.int s1), .val (.int s2), .val (.int nn), .val (.ref b2), .unset, .unset, .unset] [(.int (1 : Int32))])) τ
      exact κ)
    obtain ⟨fsα, hr, hrun, hended, hW, hsame⟩ := X7.leave (v := some (.int (1 : Int32))) (fun h => by rw [Bd.returns] at h; cases h)
    refine hGL ⟨_, _, hG _ (pre _ ?_), hrun, hended, _, _, rfl, ?_, ⟨_, rfl⟩, hW, hsame.mono (by decide) (by decide)⟩
    · exact retN X7 hx (t := .boolean) Bd.returns (by simp) (hb hby at_64) hr
    · show Q0 Z p1 p2 p3 p4 h0 n0 _ T7.heap _
      rw [hs7]
      exact ⟨rfl, NN⟩
  ·
    have hcn0 := hc48_6
    have pre : ∀ τ, Steps p.tables e below (T5.setTop (mkF m 86 #[.val (.int p1), .val (.int p2), .val (.int p3), .val (.int p4), .val (.int s1), .val (.int s2), .val (.int nn), .val (.ref b2), .val (.int ((p3 &&& (2147483647 : Int32)) % nn)), .val (.int ((1 : Int32) + ((p4 &&& (2147483647 : Int32)) % (255 : Int32)))), .unset] [])) τ → G τ := fun τ κ => pre τ (by
      refine XS.ifYes X5.here hx rfl (pc0 := 48) (pc' := 65) rfl (hb hby at_48) rfl ((if0 _ _).trans (feq hc48_6).2) (by decide) (by decide) ?_
      show Steps p.tables e below (T5.setTop (mkF m 65 #[.val (.int p1), .val (.int p2), .val (.int p3), .val (.int p4), .val (.int s1), .val (.int s2), .val (.int nn), .val (.ref b2), .unset, .unset, .unset] [])) τ
      refine XS.iloadN X5.here hx rfl (hb hby at_65) rfl ?_
      show Steps p.tables e below (T5.setTop (mkF m 66 #[.val (.int p1), .val (.int p2), .val (.int p3), .val (.int p4), .val (.int s1), .val (.int s2), .val (.int nn), .val (.ref b2), .unset, .unset, .unset] [(.int p3)])) τ
      refine X5.ldcInt hx hown (mvT hZ (hw _ (List.mem_of_getElem? (i := 24) rfl))) (g := (mkF m 66 #[.val (.int p1), .val (.int p2), .val (.int p3), .val (.int p4), .val (.int s1), .val (.int s2), .val (.int nn), .val (.ref b2), .unset, .unset, .unset] [(.int p3)])) rfl (hb hby at_66) _ ?_
      show Steps p.tables e below (T5.setTop (mkF m 68 #[.val (.int p1), .val (.int p2), .val (.int p3), .val (.int p4), .val (.int s1), .val (.int s2), .val (.int nn), .val (.ref b2), .unset, .unset, .unset] [(.int (2147483647 : Int32)), (.int p3)])) τ
      refine XS.iand X5.here hx rfl (hb hby at_68) rfl ?_
      show Steps p.tables e below (T5.setTop (mkF m 69 #[.val (.int p1), .val (.int p2), .val (.int p3), .val (.int p4), .val (.int s1), .val (.int s2), .val (.int nn), .val (.ref b2), .unset, .unset, .unset] [(.int (p3 &&& (2147483647 : Int32)))])) τ
      refine XS.iload X5.here hx rfl (hb hby at_69) rfl ?_
      show Steps p.tables e below (T5.setTop (mkF m 71 #[.val (.int p1), .val (.int p2), .val (.int p3), .val (.int p4), .val (.int s1), .val (.int s2), .val (.int nn), .val (.ref b2), .unset, .unset, .unset] [(.int nn), (.int (p3 &&& (2147483647 : Int32)))])) τ
      refine iremM X5 hx rfl (hb hby at_71) rfl hc48_6 ?_
      show Steps p.tables e below (T5.setTop (mkF m 72 #[.val (.int p1), .val (.int p2), .val (.int p3), .val (.int p4), .val (.int s1), .val (.int s2), .val (.int nn), .val (.ref b2), .unset, .unset, .unset] [(.int ((p3 &&& (2147483647 : Int32)) % nn))])) τ
      refine XS.istore X5.here hx rfl (hb hby at_72) rfl (l' := #[.val (.int p1), .val (.int p2), .val (.int p3), .val (.int p4), .val (.int s1), .val (.int s2), .val (.int nn), .val (.ref b2), .val (.int ((p3 &&& (2147483647 : Int32)) % nn)), .unset, .unset]) rfl ?_
      show Steps p.tables e below (T5.setTop (mkF m 74 #[.val (.int p1), .val (.int p2), .val (.int p3), .val (.int p4), .val (.int s1), .val (.int s2), .val (.int nn), .val (.ref b2), .val (.int ((p3 &&& (2147483647 : Int32)) % nn)), .unset, .unset] [])) τ
      refine XS.iconst X5.here hx rfl (hb hby at_74) ?_
      show Steps p.tables e below (T5.setTop (mkF m 75 #[.val (.int p1), .val (.int p2), .val (.int p3), .val (.int p4), .val (.int s1), .val (.int s2), .val (.int nn), .val (.ref b2), .val (.int ((p3 &&& (2147483647 : Int32)) % nn)), .unset, .unset] [(.int (1 : Int32))])) τ
      refine XS.iloadN X5.here hx rfl (hb hby at_75) rfl ?_
      show Steps p.tables e below (T5.setTop (mkF m 76 #[.val (.int p1), .val (.int p2), .val (.int p3), .val (.int p4), .val (.int s1), .val (.int s2), .val (.int nn), .val (.ref b2), .val (.int ((p3 &&& (2147483647 : Int32)) % nn)), .unset, .unset] [(.int p4), (.int (1 : Int32))])) τ
      refine X5.ldcInt hx hown (mvT hZ (hw _ (List.mem_of_getElem? (i := 24) rfl))) (g := (mkF m 76 #[.val (.int p1), .val (.int p2), .val (.int p3), .val (.int p4), .val (.int s1), .val (.int s2), .val (.int nn), .val (.ref b2), .val (.int ((p3 &&& (2147483647 : Int32)) % nn)), .unset, .unset] [(.int p4), (.int (1 : Int32))])) rfl (hb hby at_76) _ ?_
      show Steps p.tables e below (T5.setTop (mkF m 78 #[.val (.int p1), .val (.int p2), .val (.int p3), .val (.int p4), .val (.int s1), .val (.int s2), .val (.int nn), .val (.ref b2), .val (.int ((p3 &&& (2147483647 : Int32)) % nn)), .unset, .unset] [(.int (2147483647 : Int32)), (.int p4), (.int (1 : Int32))])) τ
      refine XS.iand X5.here hx rfl (hb hby at_78) rfl ?_
      show Steps p.tables e below (T5.setTop (mkF m 79 #[.val (.int p1), .val (.int p2), .val (.int p3), .val (.int p4), .val (.int s1), .val (.int s2), .val (.int nn), .val (.ref b2), .val (.int ((p3 &&& (2147483647 : Int32)) % nn)), .unset, .unset] [(.int (p4 &&& (2147483647 : Int32))), (.int (1 : Int32))])) τ
      refine XS.sipush X5.here hx rfl (hb hby at_79) ?_
      show Steps p.tables e below (T5.setTop (mkF m 82 #[.val (.int p1), .val (.int p2), .val (.int p3), .val (.int p4), .val (.int s1), .val (.int s2), .val (.int nn), .val (.ref b2), .val (.int ((p3 &&& (2147483647 : Int32)) % nn)), .unset, .unset] [(.int (255 : Int32)), (.int (p4 &&& (2147483647 : Int32))), (.int (1 : Int32))])) τ
      refine iremM X5 hx rfl (hb hby at_82) rfl (by decide) ?_
      show Steps p.tables e below (T5.setTop (mkF m 83 #[.val (.int p1), .val (.int p2), .val (.int p3), .val (.int p4), .val (.int s1), .val (.int s2), .val (.int nn), .val (.ref b2), .val (.int ((p3 &&& (2147483647 : Int32)) % nn)), .unset, .unset] [(.int ((p4 &&& (2147483647 : Int32)) % (255 : Int32))), (.int (1 : Int32))])) τ
      refine XS.iadd X5.here hx rfl (hb hby at_83) rfl ?_
      show Steps p.tables e below (T5.setTop (mkF m 84 #[.val (.int p1), .val (.int p2), .val (.int p3), .val (.int p4), .val (.int s1), .val (.int s2), .val (.int nn), .val (.ref b2), .val (.int ((p3 &&& (2147483647 : Int32)) % nn)), .unset, .unset] [(.int ((1 : Int32) + ((p4 &&& (2147483647 : Int32)) % (255 : Int32))))])) τ
      refine XS.istore X5.here hx rfl (hb hby at_84) rfl (l' := #[.val (.int p1), .val (.int p2), .val (.int p3), .val (.int p4), .val (.int s1), .val (.int s2), .val (.int nn), .val (.ref b2), .val (.int ((p3 &&& (2147483647 : Int32)) % nn)), .val (.int ((1 : Int32) + ((p4 &&& (2147483647 : Int32)) % (255 : Int32)))), .unset]) rfl ?_
      show Steps p.tables e below (T5.setTop (mkF m 86 #[.val (.int p1), .val (.int p2), .val (.int p3), .val (.int p4), .val (.int s1), .val (.int s2), .val (.int nn), .val (.ref b2), .val (.int ((p3 &&& (2147483647 : Int32)) % nn)), .val (.int ((1 : Int32) + ((p4 &&& (2147483647 : Int32)) % (255 : Int32)))), .unset] [])) τ
      exact κ)
    obtain ⟨kk, hkk⟩ : ∃ z : Int32, z = ((p3 &&& (2147483647 : Int32)) % nn) := ⟨_, rfl⟩
    have pre : ∀ τ, Steps p.tables e below (T5.setTop (mkF m 86 #[.val (.int p1), .val (.int p2), .val (.int p3), .val (.int p4), .val (.int s1), .val (.int s2), .val (.int nn), .val (.ref b2), .val (.int kk), .val (.int ((1 : Int32) + ((p4 &&& (2147483647 : Int32)) % (255 : Int32)))), .unset] [])) τ → G τ := by subst hkk; exact pre
    obtain ⟨vl, hvl⟩ : ∃ z : Int32, z = ((1 : Int32) + ((p4 &&& (2147483647 : Int32)) % (255 : Int32))) := ⟨_, rfl⟩
    have pre : ∀ τ, Steps p.tables e below (T5.setTop (mkF m 86 #[.val (.int p1), .val (.int p2), .val (.int p3), .val (.int p4), .val (.int s1), .val (.int s2), .val (.int nn), .val (.ref b2), .val (.int kk), .val (.int vl), .unset] [])) τ → G τ := by subst hvl; exact pre
    have hkk2 : ¬ kk < 0 ∧ kk < z2 := by rw [I2.1, hkk]; exact own_kk bb1 bb2 hnn hcn0
    have hvl2 : 1 ≤ vl.toInt ∧ vl.toInt ≤ 255 := by rw [hvl]; exact own_vl _
    have pre : ∀ τ, Steps p.tables e below (T5.setTop (mkF m 90 #[.val (.int p1), .val (.int p2), .val (.int p3), .val (.int p4), .val (.int s1), .val (.int s2), .val (.int nn), .val (.ref b2), .val (.int kk), .val (.int vl), .unset] [(.int kk), (.ref b2)])) τ → G τ := fun τ κ => pre τ (by
      refine XS.aload X5.here hx rfl (hb hby at_86) rfl rfl ?_
      show Steps p.tables e below (T5.setTop (mkF m 88 #[.val (.int p1), .val (.int p2), .val (.int p3), .val (.int p4), .val (.int s1), .val (.int s2), .val (.int nn), .val (.ref b2), .val (.int kk), .val (.int vl), .unset] [(.ref b2)])) τ
      refine XS.iload X5.here hx rfl (hb hby at_88) rfl ?_
      show Steps p.tables e below (T5.setTop (mkF m 90 #[.val (.int p1), .val (.int p2), .val (.int p3), .val (.int p4), .val (.int s1), .val (.int s2), .val (.int nn), .val (.ref b2), .val (.int kk), .val (.int vl), .unset] [(.int kk), (.ref b2)])) τ
      exact κ)
    obtain ⟨cq9, kq9, q9a, q9b, q9c⟩ := isOf hZ rfl E_b2
    obtain ⟨_, _, ⟨T9, Lx9, kx9, nx9⟩, -, X9, ⟨Lc9, hQ9, l9, y9, z9⟩, st9⟩ := X5.virtualBack hx (y := (⟨"com/example/cairn/cairn/history/Marks", "get", "(I)I"⟩ : MethodName)) (z := (⟨"com/example/cairn/cairn/history/Marks", "get", "(I)I"⟩ : MethodName)) hown (mvT hZ (hw _ (List.mem_of_getElem? (i := 25) rfl))) (mvT hZ (hw _ (List.mem_of_getElem? (i := 26) rfl))) (notFace_of_selects (args := #[]) (mvT hZ (hw _ (List.mem_of_getElem? (i := 28) rfl)))) (mvT hZ (hw _ (List.mem_of_getElem? (i := 28) rfl))) (mvT hZ (hw _ (List.mem_of_getElem? (i := 27) rfl))) (by decide) (backOf (W := 0) (rm5 l Z a0 hw [] b2 kk fc_5 kd_5 z2 fs2 T5.heap n0 Zn F_flags_5 V_f_5 hkk2) hZ (hw _ (List.mem_of_getElem? (i := 29) rfl)) (hw _ (List.mem_of_getElem? (i := 6) rfl)) (by decide) (by decide)) q9a q9c (g := (mkF m 90 #[.val (.int p1), .val (.int p2), .val (.int p3), .val (.int p4), .val (.int s1), .val (.int s2), .val (.int nn), .val (.ref b2), .val (.int kk), .val (.int vl), .unset] [(.int kk), (.ref b2)])) rfl (by rw [hml]; rfl) (Steps.refl _) (argsL := [(.int kk)]) (rest := []) (lenOf pd_4 rfl) rfl (by show 2 * 0 + _ ≤ _; exact Nat.le_of_eq rfl) (hb hby at_90) (fun _ _ => ⟨rfl, rfl, (by decide : 5 + 0 ≤ _), (by decide : 2113 + 0 ≤ _)⟩)
    dsimp only [Pt.U, Pt.locs, Pt.cells, Pt.slots] at X9 l9 y9 z9 st9 hQ9
    subst l9 y9 z9
    obtain ⟨rfl, Nq9, hs9⟩ := hQ9
    have NN := Fr.app NN Nq9
    have pre : ∀ τ, Steps p.tables e below (T9.setTop (mkF m 93 #[.val (.int p1), .val (.int p2), .val (.int p3), .val (.int p4), .val (.int s1), .val (.int s2), .val (.int nn), .val (.ref b2), .val (.int kk), .val (.int vl), .unset] [(.int (own_at fs2 kk &&& (255 : Int32)))])) τ → G τ := fun τ κ => pre τ (st9.trans κ)
    have hc10 : (own_at fs2 kk &&& (255 : Int32)) = (0 : Int32) := (own_g0 (I2.2.2 kk))
    have pre : ∀ τ, Steps p.tables e below (T9.setTop (mkF m 109 #[.val (.int p1), .val (.int p2), .val (.int p3), .val (.int p4), .val (.int s1), .val (.int s2), .val (.int nn), .val (.ref b2), .val (.int kk), .val (.int vl), .val (.int (1 : Int32))] [(.int vl), (.int kk), (.ref b2)])) τ → G τ := fun τ κ => pre τ (by
      refine XS.ifNo X9.here hx rfl (hb hby at_93) rfl ((if0 _ _).trans (teq hc10).2) ?_
      show Steps p.tables e below (T9.setTop (mkF m 96 #[.val (.int p1), .val (.int p2), .val (.int p3), .val (.int p4), .val (.int s1), .val (.int s2), .val (.int nn), .val (.ref b2), .val (.int kk), .val (.int vl), .unset] [])) τ
      refine XS.iconst X9.here hx rfl (hb hby at_96) ?_
      show Steps p.tables e below (T9.setTop (mkF m 97 #[.val (.int p1), .val (.int p2), .val (.int p3), .val (.int p4), .val (.int s1), .val (.int s2), .val (.int nn), .val (.ref b2), .val (.int kk), .val (.int vl), .unset] [(.int (1 : Int32))])) τ
      refine XS.goto X9.here hx rfl (pc0 := 97) (pc' := 101) rfl (hb hby at_97) (by decide) (by decide) ?_
      show Steps p.tables e below (T9.setTop (mkF m 101 #[.val (.int p1), .val (.int p2), .val (.int p3), .val (.int p4), .val (.int s1), .val (.int s2), .val (.int nn), .val (.ref b2), .val (.int kk), .val (.int vl), .unset] [(.int (1 : Int32))])) τ
      refine XS.istore X9.here hx rfl (hb hby at_101) rfl (l' := #[.val (.int p1), .val (.int p2), .val (.int p3), .val (.int p4), .val (.int s1), .val (.int s2), .val (.int nn), .val (.ref b2), .val (.int kk), .val (.int vl), .val (.int (1 : Int32))]) rfl ?_
      show Steps p.tables e below (T9.setTop (mkF m 103 #[.val (.int p1), .val (.int p2), .val (.int p3), .val (.int p4), .val (.int s1), .val (.int s2), .val (.int nn), .val (.ref b2), .val (.int kk), .val (.int vl), .val (.int (1 : Int32))] [])) τ
      refine XS.aload X9.here hx rfl (hb hby at_103) rfl rfl ?_
      show Steps p.tables e below (T9.setTop (mkF m 105 #[.val (.int p1), .val (.int p2), .val (.int p3), .val (.int p4), .val (.int s1), .val (.int s2), .val (.int nn), .val (.ref b2), .val (.int kk), .val (.int vl), .val (.int (1 : Int32))] [(.ref b2)])) τ
      refine XS.iload X9.here hx rfl (hb hby at_105) rfl ?_
      show Steps p.tables e below (T9.setTop (mkF m 107 #[.val (.int p1), .val (.int p2), .val (.int p3), .val (.int p4), .val (.int s1), .val (.int s2), .val (.int nn), .val (.ref b2), .val (.int kk), .val (.int vl), .val (.int (1 : Int32))] [(.int kk), (.ref b2)])) τ
      refine XS.iload X9.here hx rfl (hb hby at_107) rfl ?_
      show Steps p.tables e below (T9.setTop (mkF m 109 #[.val (.int p1), .val (.int p2), .val (.int p3), .val (.int p4), .val (.int s1), .val (.int s2), .val (.int nn), .val (.ref b2), .val (.int kk), .val (.int vl), .val (.int (1 : Int32))] [(.int vl), (.int kk), (.ref b2)])) τ
      exact κ)
    obtain ⟨cq11, kq11, q11a, q11b, q11c⟩ := isOf hZ hs9 E_b2
    obtain ⟨_, _, ⟨T11, Lx11, kx11, nx11⟩, -, X11, ⟨Lc11, hQ11, l11, y11, z11⟩, st11⟩ := X9.virtualBack hx (y := (⟨"com/example/cairn/cairn/history/Marks", "set", "(II)V"⟩ : MethodName)) (z := (⟨"com/example/cairn/cairn/history/Marks", "set", "(II)V"⟩ : MethodName)) hown (mvT hZ (hw _ (List.mem_of_getElem? (i := 30) rfl))) (mvT hZ (hw _ (List.mem_of_getElem? (i := 31) rfl))) (notFace_of_selects (args := #[]) (mvT hZ (hw _ (List.mem_of_getElem? (i := 33) rfl)))) (mvT hZ (hw _ (List.mem_of_getElem? (i := 33) rfl))) (mvT hZ (hw _ (List.mem_of_getElem? (i := 32) rfl))) (by decide) (backOf (W := 0) (rm6 l Z a0 hw [] b2 kk vl fc_5 mb_3 kd_5 km_3 z2 (0 : Int32) fs2 (List.replicate 64 (.int (0 : Int32))) T5.heap n0 Zn g_b2 gn_mb_3 gn_fc_5 E_b2 F_flags_5 F_marked_5 F_count_5 V_f_5 V_m_3 ne_b2_mb_3 ne_o__fc_5 ne_mb__fc_5 hkk2 (by decide) (List.length_replicate) I2.2.1) hZ (hw _ (List.mem_of_getElem? (i := 34) rfl)) (hw _ (List.mem_of_getElem? (i := 6) rfl)) (by decide) (by decide)) q11a q11c (g := (mkF m 109 #[.val (.int p1), .val (.int p2), .val (.int p3), .val (.int p4), .val (.int s1), .val (.int s2), .val (.int nn), .val (.ref b2), .val (.int kk), .val (.int vl), .val (.int (1 : Int32))] [(.int vl), (.int kk), (.ref b2)])) rfl (by rw [hml]; rfl) (Steps.refl _) (argsL := [(.int kk), (.int vl)]) (rest := []) (lenOf pd_5 rfl) rfl (by show 2 * 0 + _ ≤ _; exact Nat.le_of_eq rfl) (hb hby at_109) (fun _ _ => ⟨rfl, hs9, (by decide : 5 + 0 ≤ _), (by decide : 2113 + 0 ≤ _)⟩)
    dsimp only [Pt.U, Pt.locs, Pt.cells, Pt.slots] at X11 l11 y11 z11 st11 hQ11
    subst l11 y11 z11
    obtain ⟨rfl, Nq11, Kc11, E_o_11, F_flags_11, F_marked_11, F_count_11, V_f_11, V_m_11⟩ := hQ11
    have NN := Fr.app NN Nq11
    have E_b2 : Exa Z T11.heap b2 "com/example/cairn/cairn/history/Marks" := E_b2.keep Kc11
    have E_o_3 : Exa Z T11.heap b2 "com/example/cairn/cairn/history/Marks" := E_o_3.keep Kc11
    have E_o_4 : Exa Z T11.heap b2 "com/example/cairn/cairn/history/Marks" := E_o_4.keep Kc11
    have E_o_5 : Exa Z T11.heap b2 "com/example/cairn/cairn/history/Marks" := E_o_5.keep Kc11
    have Zn : n0 ≤ T11.heap.size := Nat.le_trans Zn Kc11.1
    have pre : ∀ τ, Steps p.tables e below (T11.setTop (mkF m 112 #[.val (.int p1), .val (.int p2), .val (.int p3), .val (.int p4), .val (.int s1), .val (.int s2), .val (.int nn), .val (.ref b2), .val (.int kk), .val (.int vl), .val (.int (1 : Int32))] [])) τ → G τ := fun τ κ => pre τ (st11.trans κ)
    have pre : ∀ τ, Steps p.tables e below (T11.setTop (mkF m 114 #[.val (.int p1), .val (.int p2), .val (.int p3), .val (.int p4), .val (.int s1), .val (.int s2), .val (.int nn), .val (.ref b2), .val (.int kk), .val (.int vl), .val (.int (1 : Int32))] [(.int (1 : Int32))])) τ → G τ := fun τ κ => pre τ (by
      refine XS.iload X11.here hx rfl (hb hby at_112) rfl ?_
      show Steps p.tables e below (T11.setTop (mkF m 114 #[.val (.int p1), .val (.int p2), .val (.int p3), .val (.int p4), .val (.int s1), .val (.int s2), .val (.int nn), .val (.ref b2), .val (.int kk), .val (.int vl), .val (.int (1 : Int32))] [(.int (1 : Int32))])) τ
      exact κ)
    have hc12 : ¬ ((1 : Int32) = (0 : Int32)) := (by decide)
    have pre : ∀ τ, Steps p.tables e below (T11.setTop (mkF m 121 #[.val (.int p1), .val (.int p2), .val (.int p3), .val (.int p4), .val (.int s1), .val (.int s2), .val (.int nn), .val (.ref b2), .val (.int kk), .val (.int vl), .val (.int (1 : Int32))] [(.int kk), (.ref b2)])) τ → G τ := fun τ κ => pre τ (by
      refine XS.ifNo X11.here hx rfl (hb hby at_114) rfl ((if0 _ _).trans (feq hc12).1) ?_
      show Steps p.tables e below (T11.setTop (mkF m 117 #[.val (.int p1), .val (.int p2), .val (.int p3), .val (.int p4), .val (.int s1), .val (.int s2), .val (.int nn), .val (.ref b2), .val (.int kk), .val (.int vl), .val (.int (1 : Int32))] [])) τ
      refine XS.aload X11.here hx rfl (hb hby at_117) rfl rfl ?_
      show Steps p.tables e below (T11.setTop (mkF m 119 #[.val (.int p1), .val (.int p2), .val (.int p3), .val (.int p4), .val (.int s1), .val (.int s2), .val (.int nn), .val (.ref b2), .val (.int kk), .val (.int vl), .val (.int (1 : Int32))] [(.ref b2)])) τ
      refine XS.iload X11.here hx rfl (hb hby at_119) rfl ?_
      show Steps p.tables e below (T11.setTop (mkF m 121 #[.val (.int p1), .val (.int p2), .val (.int p3), .val (.int p4), .val (.int s1), .val (.int s2), .val (.int nn), .val (.ref b2), .val (.int kk), .val (.int vl), .val (.int (1 : Int32))] [(.int kk), (.ref b2)])) τ
      exact κ)
    obtain ⟨cq13, kq13, q13a, q13b, q13c⟩ := isOf hZ rfl E_b2
    obtain ⟨_, _, ⟨T13, Lx13, kx13, nx13⟩, -, X13, ⟨Lc13, hQ13, l13, y13, z13⟩, st13⟩ := X11.virtualBack hx (y := (⟨"com/example/cairn/cairn/history/Marks", "get", "(I)I"⟩ : MethodName)) (z := (⟨"com/example/cairn/cairn/history/Marks", "get", "(I)I"⟩ : MethodName)) hown (mvT hZ (hw _ (List.mem_of_getElem? (i := 25) rfl))) (mvT hZ (hw _ (List.mem_of_getElem? (i := 26) rfl))) (notFace_of_selects (args := #[]) (mvT hZ (hw _ (List.mem_of_getElem? (i := 28) rfl)))) (mvT hZ (hw _ (List.mem_of_getElem? (i := 28) rfl))) (mvT hZ (hw _ (List.mem_of_getElem? (i := 27) rfl))) (by decide) (backOf (W := 0) (rm5 l Z a0 hw [] b2 kk fc_5 kd_5 z2 (own_sf fs2 kk vl) T11.heap n0 Zn F_flags_11 V_f_11 hkk2) hZ (hw _ (List.mem_of_getElem? (i := 29) rfl)) (hw _ (List.mem_of_getElem? (i := 6) rfl)) (by decide) (by decide)) q13a q13c (g := (mkF m 121 #[.val (.int p1), .val (.int p2), .val (.int p3), .val (.int p4), .val (.int s1), .val (.int s2), .val (.int nn), .val (.ref b2), .val (.int kk), .val (.int vl), .val (.int (1 : Int32))] [(.int kk), (.ref b2)])) rfl (by rw [hml]; rfl) (Steps.refl _) (argsL := [(.int kk)]) (rest := []) (lenOf pd_4 rfl) rfl (by show 2 * 0 + _ ≤ _; exact Nat.le_of_eq rfl) (hb hby at_121) (fun _ _ => ⟨rfl, rfl, (by decide : 5 + 0 ≤ _), (by decide : 2113 + 0 ≤ _)⟩)
    dsimp only [Pt.U, Pt.locs, Pt.cells, Pt.slots] at X13 l13 y13 z13 st13 hQ13
    subst l13 y13 z13
    obtain ⟨rfl, Nq13, hs13⟩ := hQ13
    have NN := Fr.app NN Nq13
    have pre : ∀ τ, Steps p.tables e below (T13.setTop (mkF m 124 #[.val (.int p1), .val (.int p2), .val (.int p3), .val (.int p4), .val (.int s1), .val (.int s2), .val (.int nn), .val (.ref b2), .val (.int kk), .val (.int vl), .val (.int (1 : Int32))] [(.int (own_at (own_sf fs2 kk vl) kk &&& (255 : Int32)))])) τ → G τ := fun τ κ => pre τ (st13.trans κ)
    have pre : ∀ τ, Steps p.tables e below (T13.setTop (mkF m 126 #[.val (.int p1), .val (.int p2), .val (.int p3), .val (.int p4), .val (.int s1), .val (.int s2), .val (.int nn), .val (.ref b2), .val (.int kk), .val (.int vl), .val (.int (1 : Int32))] [(.int vl), (.int (own_at (own_sf fs2 kk vl) kk &&& (255 : Int32)))])) τ → G τ := fun τ κ => pre τ (by
      refine XS.iload X13.here hx rfl (hb hby at_124) rfl ?_
      show Steps p.tables e below (T13.setTop (mkF m 126 #[.val (.int p1), .val (.int p2), .val (.int p3), .val (.int p4), .val (.int s1), .val (.int s2), .val (.int nn), .val (.ref b2), .val (.int kk), .val (.int vl), .val (.int (1 : Int32))] [(.int vl), (.int (own_at (own_sf fs2 kk vl) kk &&& (255 : Int32)))])) τ
      exact κ)
    have hc14 : (own_at (own_sf fs2 kk vl) kk &&& (255 : Int32)) = vl := (own_gv hkk2 I2.2.1 hvl2)
    have pre : ∀ τ, Steps p.tables e below (T13.setTop (mkF m 131 #[.val (.int p1), .val (.int p2), .val (.int p3), .val (.int p4), .val (.int s1), .val (.int s2), .val (.int nn), .val (.ref b2), .val (.int kk), .val (.int vl), .val (.int (1 : Int32))] [(.ref b2)])) τ → G τ := fun τ κ => pre τ (by
      refine XS.icmpNo X13.here hx rfl (hb hby at_126) rfl (teq hc14).2 ?_
      show Steps p.tables e below (T13.setTop (mkF m 129 #[.val (.int p1), .val (.int p2), .val (.int p3), .val (.int p4), .val (.int s1), .val (.int s2), .val (.int nn), .val (.ref b2), .val (.int kk), .val (.int vl), .val (.int (1 : Int32))] [])) τ
      refine XS.aload X13.here hx rfl (hb hby at_129) rfl rfl ?_
      show Steps p.tables e below (T13.setTop (mkF m 131 #[.val (.int p1), .val (.int p2), .val (.int p3), .val (.int p4), .val (.int s1), .val (.int s2), .val (.int nn), .val (.ref b2), .val (.int kk), .val (.int vl), .val (.int (1 : Int32))] [(.ref b2)])) τ
      exact κ)
    obtain ⟨cq15, kq15, q15a, q15b, q15c⟩ := isOf hZ hs13 E_b2
    obtain ⟨_, _, ⟨T15, Lx15, kx15, nx15⟩, -, X15, ⟨Lc15, hQ15, l15, y15, z15⟩, st15⟩ := X13.virtualBack hx (y := (⟨"com/example/cairn/cairn/history/Marks", "count", "()I"⟩ : MethodName)) (z := (⟨"com/example/cairn/cairn/history/Marks", "count", "()I"⟩ : MethodName)) hown (mvT hZ (hw _ (List.mem_of_getElem? (i := 37) rfl))) (mvT hZ (hw _ (List.mem_of_getElem? (i := 38) rfl))) (notFace_of_selects (args := #[]) (mvT hZ (hw _ (List.mem_of_getElem? (i := 40) rfl)))) (mvT hZ (hw _ (List.mem_of_getElem? (i := 40) rfl))) (mvT hZ (hw _ (List.mem_of_getElem? (i := 39) rfl))) (by decide) (backOf (W := 0) (rm7 l Z a0 hw [] b2 (own_sc fs2 kk (0 : Int32)) T11.heap n0 Zn F_count_11) hZ (hw _ (List.mem_of_getElem? (i := 41) rfl)) (hw _ (List.mem_of_getElem? (i := 6) rfl)) (by decide) (by decide)) q15a q15c (g := (mkF m 131 #[.val (.int p1), .val (.int p2), .val (.int p3), .val (.int p4), .val (.int s1), .val (.int s2), .val (.int nn), .val (.ref b2), .val (.int kk), .val (.int vl), .val (.int (1 : Int32))] [(.ref b2)])) rfl (by rw [hml]; rfl) (Steps.refl _) (argsL := []) (rest := []) (lenOf pd_3 rfl) rfl (by show 2 * 0 + _ ≤ _; exact Nat.le_of_eq rfl) (hb hby at_131) (fun _ _ => ⟨rfl, hs13, (by decide : 5 + 0 ≤ _), (by decide : 2113 + 0 ≤ _)⟩)
    dsimp only [Pt.U, Pt.locs, Pt.cells, Pt.slots] at X15 l15 y15 z15 st15 hQ15
    subst l15 y15 z15
    obtain ⟨rfl, Nq15, hs15⟩ := hQ15
    have NN := Fr.app NN Nq15
    have pre : ∀ τ, Steps p.tables e below (T15.setTop (mkF m 134 #[.val (.int p1), .val (.int p2), .val (.int p3), .val (.int p4), .val (.int s1), .val (.int s2), .val (.int nn), .val (.ref b2), .val (.int kk), .val (.int vl), .val (.int (1 : Int32))] [(.int (own_sc fs2 kk (0 : Int32)))])) τ → G τ := fun τ κ => pre τ (st15.trans κ)
    have pre : ∀ τ, Steps p.tables e below (T15.setTop (mkF m 135 #[.val (.int p1), .val (.int p2), .val (.int p3), .val (.int p4), .val (.int s1), .val (.int s2), .val (.int nn), .val (.ref b2), .val (.int kk), .val (.int vl), .val (.int (1 : Int32))] [(.int (1 : Int32)), (.int (own_sc fs2 kk (0 : Int32)))])) τ → G τ := fun τ κ => pre τ (by
      refine XS.iconst X15.here hx rfl (hb hby at_134) ?_
      show Steps p.tables e below (T15.setTop (mkF m 135 #[.val (.int p1), .val (.int p2), .val (.int p3), .val (.int p4), .val (.int s1), .val (.int s2), .val (.int nn), .val (.ref b2), .val (.int kk), .val (.int vl), .val (.int (1 : Int32))] [(.int (1 : Int32)), (.int (own_sc fs2 kk (0 : Int32)))])) τ
      exact κ)
    have hc16 : (own_sc fs2 kk (0 : Int32)) = (1 : Int32) := (own_c1 (I2.2.2 kk))
    have pre : ∀ τ, Steps p.tables e below (T15.setTop (mkF m 141 #[.val (.int p1), .val (.int p2), .val (.int p3), .val (.int p4), .val (.int s1), .val (.int s2), .val (.int nn), .val (.ref b2), .val (.int kk), .val (.int vl), .val (.int (1 : Int32))] [(.int (0 : Int32)), (.ref b2)])) τ → G τ := fun τ κ => pre τ (by
      refine XS.icmpNo X15.here hx rfl (hb hby at_135) rfl (teq hc16).2 ?_
      show Steps p.tables e below (T15.setTop (mkF m 138 #[.val (.int p1), .val (.int p2), .val (.int p3), .val (.int p4), .val (.int s1), .val (.int s2), .val (.int nn), .val (.ref b2), .val (.int kk), .val (.int vl), .val (.int (1 : Int32))] [])) τ
      refine XS.aload X15.here hx rfl (hb hby at_138) rfl rfl ?_
      show Steps p.tables e below (T15.setTop (mkF m 140 #[.val (.int p1), .val (.int p2), .val (.int p3), .val (.int p4), .val (.int s1), .val (.int s2), .val (.int nn), .val (.ref b2), .val (.int kk), .val (.int vl), .val (.int (1 : Int32))] [(.ref b2)])) τ
      refine XS.iconst X15.here hx rfl (hb hby at_140) ?_
      show Steps p.tables e below (T15.setTop (mkF m 141 #[.val (.int p1), .val (.int p2), .val (.int p3), .val (.int p4), .val (.int s1), .val (.int s2), .val (.int nn), .val (.ref b2), .val (.int kk), .val (.int vl), .val (.int (1 : Int32))] [(.int (0 : Int32)), (.ref b2)])) τ
      exact κ)
    obtain ⟨cq17, kq17, q17a, q17b, q17c⟩ := isOf hZ hs15 E_b2
    obtain ⟨_, _, ⟨T17, Lx17, kx17, nx17⟩, -, X17, ⟨Lc17, hQ17, l17, y17, z17⟩, st17⟩ := X15.virtualBack hx (y := (⟨"com/example/cairn/cairn/history/Marks", "commit", "(I)I"⟩ : MethodName)) (z := (⟨"com/example/cairn/cairn/history/Marks", "commit", "(I)I"⟩ : MethodName)) hown (mvT hZ (hw _ (List.mem_of_getElem? (i := 42) rfl))) (mvT hZ (hw _ (List.mem_of_getElem? (i := 43) rfl))) (notFace_of_selects (args := #[]) (mvT hZ (hw _ (List.mem_of_getElem? (i := 45) rfl)))) (mvT hZ (hw _ (List.mem_of_getElem? (i := 45) rfl))) (mvT hZ (hw _ (List.mem_of_getElem? (i := 44) rfl))) (by decide) (backOf (W := 0) (rm8 l Z a0 hw [] b2 (0 : Int32) mb_3 km_3 (own_sm fs2 (List.replicate 64 (.int (0 : Int32))) kk (0 : Int32)) T11.heap n0 Zn F_marked_11 V_m_11 (by decide)) hZ (hw _ (List.mem_of_getElem? (i := 46) rfl)) (hw _ (List.mem_of_getElem? (i := 6) rfl)) (by decide) (by decide)) q17a q17c (g := (mkF m 141 #[.val (.int p1), .val (.int p2), .val (.int p3), .val (.int p4), .val (.int s1), .val (.int s2), .val (.int nn), .val (.ref b2), .val (.int kk), .val (.int vl), .val (.int (1 : Int32))] [(.int (0 : Int32)), (.ref b2)])) rfl (by rw [hml]; rfl) (Steps.refl _) (argsL := [(.int (0 : Int32))]) (rest := []) (lenOf pd_4 rfl) rfl (by show 2 * 0 + _ ≤ _; exact Nat.le_of_eq rfl) (hb hby at_141) (fun _ _ => ⟨rfl, hs15, (by decide : 5 + 0 ≤ _), (by decide : 2113 + 0 ≤ _)⟩)
    dsimp only [Pt.U, Pt.locs, Pt.cells, Pt.slots] at X17 l17 y17 z17 st17 hQ17
    subst l17 y17 z17
    obtain ⟨rfl, Nq17, hs17⟩ := hQ17
    have NN := Fr.app NN Nq17
    have pre : ∀ τ, Steps p.tables e below (T17.setTop (mkF m 144 #[.val (.int p1), .val (.int p2), .val (.int p3), .val (.int p4), .val (.int s1), .val (.int s2), .val (.int nn), .val (.ref b2), .val (.int kk), .val (.int vl), .val (.int (1 : Int32))] [(.int (own_at (own_sm fs2 (List.replicate 64 (.int (0 : Int32))) kk (0 : Int32)) (0 : Int32)))])) τ → G τ := fun τ κ => pre τ (st17.trans κ)
    have pre : ∀ τ, Steps p.tables e below (T17.setTop (mkF m 146 #[.val (.int p1), .val (.int p2), .val (.int p3), .val (.int p4), .val (.int s1), .val (.int s2), .val (.int nn), .val (.ref b2), .val (.int kk), .val (.int vl), .val (.int (1 : Int32))] [(.int kk), (.int (own_at (own_sm fs2 (List.replicate 64 (.int (0 : Int32))) kk (0 : Int32)) (0 : Int32)))])) τ → G τ := fun τ κ => pre τ (by
      refine XS.iload X17.here hx rfl (hb hby at_144) rfl ?_
      show Steps p.tables e below (T17.setTop (mkF m 146 #[.val (.int p1), .val (.int p2), .val (.int p3), .val (.int p4), .val (.int s1), .val (.int s2), .val (.int nn), .val (.ref b2), .val (.int kk), .val (.int vl), .val (.int (1 : Int32))] [(.int kk), (.int (own_at (own_sm fs2 (List.replicate 64 (.int (0 : Int32))) kk (0 : Int32)) (0 : Int32)))])) τ
      exact κ)
    have hc18 : (own_at (own_sm fs2 (List.replicate 64 (.int (0 : Int32))) kk (0 : Int32)) (0 : Int32)) = kk := (own_m1 (I2.2.2 kk))
    have pre : ∀ τ, Steps p.tables e below (T17.setTop (mkF m 154 #[.val (.int p1), .val (.int p2), .val (.int p3), .val (.int p4), .val (.int s1), .val (.int s2), .val (.int nn), .val (.ref b2), .val (.int kk), .val (.int vl), .val (.int (1 : Int32))] [(.int (1 : Int32))])) τ → G τ := fun τ κ => pre τ (by
      refine XS.icmpNo X17.here hx rfl (hb hby at_146) rfl (teq hc18).2 ?_
      show Steps p.tables e below (T17.setTop (mkF m 149 #[.val (.int p1), .val (.int p2), .val (.int p3), .val (.int p4), .val (.int s1), .val (.int s2), .val (.int nn), .val (.ref b2), .val (.int kk), .val (.int vl), .val (.int (1 : Int32))] [])) τ
      refine XS.iconst X17.here hx rfl (hb hby at_149) ?_
      show Steps p.tables e below (T17.setTop (mkF m 150 #[.val (.int p1), .val (.int p2), .val (.int p3), .val (.int p4), .val (.int s1), .val (.int s2), .val (.int nn), .val (.ref b2), .val (.int kk), .val (.int vl), .val (.int (1 : Int32))] [(.int (1 : Int32))])) τ
      refine XS.goto X17.here hx rfl (pc0 := 150) (pc' := 154) rfl (hb hby at_150) (by decide) (by decide) ?_
      show Steps p.tables e below (T17.setTop (mkF m 154 #[.val (.int p1), .val (.int p2), .val (.int p3), .val (.int p4), .val (.int s1), .val (.int s2), .val (.int nn), .val (.ref b2), .val (.int kk), .val (.int vl), .val (.int (1 : Int32))] [(.int (1 : Int32))])) τ
      exact κ)
    obtain ⟨fsα, hr, hrun, hended, hW, hsame⟩ := X17.leave (v := some (.int (1 : Int32))) (fun h => by rw [Bd.returns] at h; cases h)
    refine hGL ⟨_, _, hG _ (pre _ ?_), hrun, hended, _, _, rfl, ?_, ⟨_, rfl⟩, hW, hsame.mono (by decide) (by decide)⟩
    · exact retN X17 hx (t := .boolean) Bd.returns (by simp) (hb hby at_154) hr
    · show Q0 Z p1 p2 p3 p4 h0 n0 _ T17.heap _
      rw [hs17]
      exact ⟨rfl, NN⟩
set_option maxRecDepth 65536 in
set_option maxHeartbeats 40000000 in
theorem comes_1 {Post : Tables → Env → Array Value → State → Outcome → State → Prop} (hpost : ∀ tb e args s v u, (limb_1_1.after args s (.returned v) u = true ∧ limb_1_2.after args s (.returned v) u = true ∧ True) → FrameEnd s (.returned v) u (Jvm.fieldLocs frame_1_writes args s ++ Jvm.arrayLocs frame_1_arrays args s ++ Jvm.staticLocs frame_1_statics s) 24 4288 → Post tb e args s (.returned v) u) :
    ArmFor flags0 classFile x code maxLocals ret World_1 tables_1 room_1 Calls_1 rest_1 Pre_1 Post := by
  intro l hfl _ _ p e ha hc hk s m args below hf hA hF happ hP
  obtain ⟨hcalls, hrest, hpre⟩ := hP
  obtain ⟨-, -, -, hnamed, -, -, -, hat⟩ := (Spec.applies_iff hf).mp happ
  obtain ⟨hg, hn⟩ := and_e (Cond.before_iff.mp (show (Jvm.Cond.and given_1 narrow_1).before args s = true from hpre))
  obtain ⟨gv1, gv2⟩ := and_e hg
  obtain ⟨gv3, gv4⟩ := and_e gv2
  obtain ⟨gv5, gv6⟩ := and_e gv4
  obtain ⟨gv7, gv8⟩ := and_e gv6
  obtain ⟨w0, w1, w2, w3, rfl⟩ : ∃ w0 w1 w2 w3 : Value, args = #[w0, w1, w2, w3] := by
    have hs : args.size = 4 := by simpa [Cond.value, given_1] using gv1
    obtain ⟨L⟩ := args
    match L, hs with
    | [w0, w1, w2, w3], _ => exact ⟨w0, w1, w2, w3, rfl⟩
  have hw := fun d (hd : d ∈ tables_1) => atoms_spec (ws := Jvm.Cond.code x code maxLocals ret :: tables_1) hat d (List.mem_cons_of_mem _ hd)
  have hfit : Fit s := fun {y c} hc i hi => by
    obtain ⟨ha, rfl⟩ := Array.getElem?_eq_some_iff.mp hc
    have q := List.all_eq_true.mp ((Array.all_eq_true_iff_forall_mem.mp hF) _ (Array.getElem_mem ha)) i (List.mem_range.mpr hi)
    simpa [Array.getElem?_eq_getElem hi] using q
  obtain ⟨i0, ei0⟩ := is_v gv3
  obtain rfl : w0 = (.int i0) := Option.some.inj ei0
  obtain ⟨i1, ei1⟩ := is_v gv5
  obtain rfl : w1 = (.int i1) := Option.some.inj ei1
  obtain ⟨i2, ei2⟩ := is_v gv7
  obtain rfl : w2 = (.int i2) := Option.some.inj ei2
  obtain ⟨i3, ei3⟩ := is_v gv8
  obtain rfl : w3 = (.int i3) := Option.some.inj ei3
  obtain ⟨n, o, h1, h2, h3, _, L, rfl, ⟨rfl, N⟩, hq⟩ := rm0 l s _ hw tables_1 i0 i1 i2 i3  s.heap s.heap.size (Nat.le_refl _)  p e ha hc hk s m _ below hf ((Spec.applies_iff_loose hf).mp happ).1 ⟨rfl, State.Warmed39.refl s, rfl⟩ trivial
  refine ⟨n, _, h1, h2, h3, hpost _ _ _ _ _ _ ⟨Cond.after_iff.mpr rfl, Cond.after_iff.mpr (eq_i res_at (Term.int_eval (1)) rfl), trivial⟩ ⟨hq.1, hq.2.1, (hq.2.2.sift fun y hy => Or.inr (N y hy)).mono (by decide) (by decide)⟩⟩
theorem main_1_1 : Claimed_1_1 := comes_1 fun _ _ _ _ _ _ h hF => ⟨h.1, hF⟩
theorem main_1_2 : Claimed_1_2 := comes_1 fun _ _ _ _ _ _ h hF => ⟨h.2.1, hF⟩
end Jvm.Pilot.@@N@@
namespace Jvm.Pilot.@@N@@
open Jvm Jvm.ClassFile Sem Op Lib Jvm.Free Jvm.Stand Jvm.Pilot.@@N@@.Jvm.D
/-! MADE BY PROGRAM (witnessworld.py) out of the Statement's table words and the real class files: 10 classes; the members and pool entries that the words name. The judged class is class 1, her method 1. -/
namespace start1
open Jvm.ClassFile
def u (s : String) : CpInfo := .utf8 (stringToUtf16 s)
/-- a pool by its gaps: so many unusable entries, then the entry; so many at the end -/
def gap : Nat → List CpInfo → List CpInfo
  | 0, r => r
  | n + 1, r => .unusable :: gap n r
def poolList (es : List (Nat × CpInfo)) (last : Nat) : List CpInfo := es.foldr (fun e r => gap e.1 (e.2 :: r)) (gap last [])
def pool (es : List (Nat × CpInfo)) (last : Nat) : Array CpInfo := ⟨poolList es last⟩
def fileOf (pool : Array CpInfo) (this : Nat) (attrs : Array Attribute := #[]) (ms : Array MethodInfo := #[]) (fl : Nat := 33) (sup : Nat := 0) (ifs : Array Nat := #[]) (fds : Array FieldInfo := #[]) : ClassFile where
  minorVersion := 0
  majorVersion := 65
  constantPool := pool
  accessFlags := fl
  thisClass := this
  superClass := sup
  interfaces := ifs
  fields := fds
  methods := ms
  attributes := attrs
def plain (name : String) (sup : Option ClassId) : Class where
  name := name
  kind := .ordinary
  loader := none
  accessFlags := 33
  super := sup
  interfaces := #[]
  cf := none
  fields := #[]
  methods := #[]
  instanceTypes := #[]
  staticTypes := #[]
  resolved := #[]
  callSites := []
  init := .initialized
  statics := none
  mirror := none

def pool0 : Array CpInfo := pool [(5, u "<init>"), (0, u "()V"), (1, .class_ 10), (1, u "java/lang/Object")] 113

def k0c0 : Code := { maxStack := 0, maxLocals := 1, code := object_method_1_code, exceptionTable := #[], attributes := #[] }
def k0m0 : Method := { name := "<init>", desc := "()V", sig := { parameters := [], returnType := none }, accessFlags := 1, code := some k0c0 }
/-- java/lang/Object -/
def k0 : Class := { plain "java/lang/Object" none with
  accessFlags := 33
  interfaces := #[]
  cf := some (fileOf pool0 8 #[] #[{ accessFlags := 1, nameIndex := 5, descriptorIndex := 6, attributes := #[] }] 33 0 #[] #[])
  fields := #[]
  methods := #[k0m0]
  instanceTypes := #[]
  staticTypes := #[]
  resolved := Array.replicate 124 none
  statics := none }

def pool1 : Array CpInfo := pool [(2, .class_ 4), (0, .nameAndType 5 6), (0, u "java/lang/Object"), (0, u "<init>"), (0, u "()V"), (0, .methodref 8 9), (0, .class_ 10), (0, .nameAndType 11 12), (0, u "java/lang/Math"), (0, u "max"), (0, u "(II)I"), (0, .class_ 14), (0, u "com/example/cairn/cairn/history/Marks"), (0, .methodref 13 3), (0, .methodref 13 17), (0, .nameAndType 18 19), (0, u "reserve"), (0, u "(I)V"), (0, .methodref 13 21), (0, .nameAndType 22 23), (0, u "count"), (0, u "()I"), (0, .integer 2147483647), (0, .methodref 13 26), (0, .nameAndType 27 28), (0, u "get"), (0, u "(I)I"), (0, .methodref 13 30), (0, .nameAndType 31 32), (0, u "set"), (0, u "(II)V"), (0, .methodref 13 34), (0, .nameAndType 35 28), (0, u "commit"), (0, .class_ 37), (0, u "com/example/cairn/cairn/history/MarksReservePinLaw"), (2, u "law"), (0, u "(IIII)Z")] 3

def k1m0 : Method := { name := "<init>", desc := "()V", sig := { parameters := [], returnType := none }, accessFlags := 1, code := none }
def k1c1 : Code := { maxStack := 3, maxLocals := 11, code := code, exceptionTable := #[], attributes := #[] }
def k1m1 : Method := { name := "law", desc := "(IIII)Z", sig := { parameters := [.int, .int, .int, .int], returnType := some .boolean }, accessFlags := 9, code := some k1c1 }
/-- com/example/cairn/cairn/history/MarksReservePinLaw -/
def k1 : Class := { plain "com/example/cairn/cairn/history/MarksReservePinLaw" (some 0) with
  accessFlags := 49
  interfaces := #[]
  cf := some (fileOf pool1 36 #[] #[{ accessFlags := 1, nameIndex := 5, descriptorIndex := 6, attributes := #[] }, { accessFlags := 9, nameIndex := 40, descriptorIndex := 41, attributes := #[] }] 49 2 #[] #[])
  fields := #[]
  methods := #[k1m0, k1m1]
  instanceTypes := #[]
  staticTypes := #[]
  resolved := Array.replicate 45 none
  statics := none }

def pool2 : Array CpInfo := pool [(1, .class_ 2), (0, u "java/lang/Math"), (1, .class_ 6), (1, u "java/lang/Object"), (0, u "<init>"), (0, u "()V"), (89, .class_ 100), (1, u "java/lang/Math$RandomNumberGeneratorHolder"), (71, u "negativeZeroFloatBits"), (0, u "J"), (2, u "negativeZeroDoubleBits"), (21, u "max"), (46, u "$assertionsDisabled"), (0, u "Z"), (88, u "(II)I"), (2, u "twoToTheDoubleScaleDown"), (0, u "D"), (4, u "twoToTheDoubleScaleUp"), (9, u "E"), (3, u "PI"), (2, u "TAU"), (2, u "DEGREES_TO_RADIANS"), (0, u "RADIANS_TO_DEGREES")] 94

def k2m0 : Method := { name := "<init>", desc := "()V", sig := { parameters := [], returnType := none }, accessFlags := 2, code := none }
def k2c1 : Code := { maxStack := 2, maxLocals := 2, code := jdk_29_method_65_code, exceptionTable := #[], attributes := #[] }
def k2m1 : Method := { name := "max", desc := "(II)I", sig := { parameters := [.int, .int], returnType := some .int }, accessFlags := 9, code := some k2c1 }
/-- java/lang/Math -/
def k2 : Class := { plain "java/lang/Math" (some 0) with
  accessFlags := 49
  interfaces := #[]
  cf := some (fileOf pool2 1 #[.nestMembers #[98]] #[{ accessFlags := 2, nameIndex := 7, descriptorIndex := 8, attributes := #[] }, { accessFlags := 9, nameIndex := 198, descriptorIndex := 335, attributes := #[] }] 49 4 #[] #[{ accessFlags := 25, nameIndex := 354, descriptorIndex := 339, attributes := #[] }, { accessFlags := 25, nameIndex := 358, descriptorIndex := 339, attributes := #[] }, { accessFlags := 25, nameIndex := 361, descriptorIndex := 339, attributes := #[] }, { accessFlags := 26, nameIndex := 364, descriptorIndex := 339, attributes := #[] }, { accessFlags := 26, nameIndex := 365, descriptorIndex := 339, attributes := #[] }, { accessFlags := 26, nameIndex := 172, descriptorIndex := 173, attributes := #[] }, { accessFlags := 26, nameIndex := 176, descriptorIndex := 173, attributes := #[] }, { accessFlags := 8, nameIndex := 344, descriptorIndex := 339, attributes := #[] }, { accessFlags := 8, nameIndex := 338, descriptorIndex := 339, attributes := #[] }, { accessFlags := 4120, nameIndex := 245, descriptorIndex := 246, attributes := #[] }])
  fields := #[{ name := "E", type := .double, accessFlags := 25, slot := 0, constantValue := 0 }, { name := "PI", type := .double, accessFlags := 25, slot := 1, constantValue := 0 }, { name := "TAU", type := .double, accessFlags := 25, slot := 2, constantValue := 0 }, { name := "DEGREES_TO_RADIANS", type := .double, accessFlags := 26, slot := 3, constantValue := 0 }, { name := "RADIANS_TO_DEGREES", type := .double, accessFlags := 26, slot := 4, constantValue := 0 }, { name := "negativeZeroFloatBits", type := .long, accessFlags := 26, slot := 5, constantValue := 0 }, { name := "negativeZeroDoubleBits", type := .long, accessFlags := 26, slot := 6, constantValue := 0 }, { name := "twoToTheDoubleScaleUp", type := .double, accessFlags := 8, slot := 7, constantValue := 0 }, { name := "twoToTheDoubleScaleDown", type := .double, accessFlags := 8, slot := 8, constantValue := 0 }, { name := "$assertionsDisabled", type := .boolean, accessFlags := 4120, slot := 9, constantValue := 0 }]
  methods := #[k2m0, k2m1]
  instanceTypes := #[]
  staticTypes := #[.double, .double, .double, .double, .double, .long, .long, .double, .double, .boolean]
  resolved := Array.replicate 460 none
  statics := none }

def pool3 : Array CpInfo := pool [(1, .methodref 2 3), (0, .class_ 4), (0, .nameAndType 5 6), (0, u "java/lang/Object"), (0, u "<init>"), (0, u "()V"), (0, .fieldref 8 9), (0, .class_ 10), (0, .nameAndType 11 12), (0, u "com/example/cairn/cairn/history/Marks"), (0, u "flags"), (0, u "[B"), (0, .fieldref 8 14), (0, .nameAndType 15 16), (0, u "marked"), (0, u "[I"), (0, .fieldref 8 18), (0, .nameAndType 19 20), (0, u "count"), (0, u "I"), (8, u "reserve"), (0, u "(I)V"), (1, u "get"), (0, u "(I)I"), (0, u "set"), (0, u "(II)V"), (0, u "()I"), (0, u "commit")] 3

def k3c0 : Code := { maxStack := 2, maxLocals := 1, code := prog_27_method_1_code, exceptionTable := #[], attributes := #[] }
def k3m0 : Method := { name := "<init>", desc := "()V", sig := { parameters := [], returnType := none }, accessFlags := 0, code := some k3c0 }
def k3c1 : Code := { maxStack := 2, maxLocals := 2, code := prog_27_method_2_code, exceptionTable := #[], attributes := #[] }
def k3m1 : Method := { name := "reserve", desc := "(I)V", sig := { parameters := [.int], returnType := none }, accessFlags := 0, code := some k3c1 }
def k3c2 : Code := { maxStack := 2, maxLocals := 2, code := prog_27_method_3_code, exceptionTable := #[], attributes := #[] }
def k3m2 : Method := { name := "get", desc := "(I)I", sig := { parameters := [.int], returnType := some .int }, accessFlags := 0, code := some k3c2 }
def k3c3 : Code := { maxStack := 5, maxLocals := 3, code := prog_27_method_4_code, exceptionTable := #[], attributes := #[] }
def k3m3 : Method := { name := "set", desc := "(II)V", sig := { parameters := [.int, .int], returnType := none }, accessFlags := 0, code := some k3c3 }
def k3c4 : Code := { maxStack := 1, maxLocals := 1, code := prog_27_method_5_code, exceptionTable := #[], attributes := #[] }
def k3m4 : Method := { name := "count", desc := "()I", sig := { parameters := [], returnType := some .int }, accessFlags := 0, code := some k3c4 }
def k3c5 : Code := { maxStack := 2, maxLocals := 2, code := prog_27_method_6_code, exceptionTable := #[], attributes := #[] }
def k3m5 : Method := { name := "commit", desc := "(I)I", sig := { parameters := [.int], returnType := some .int }, accessFlags := 0, code := some k3c5 }
/-- com/example/cairn/cairn/history/Marks -/
def k3 : Class := { plain "com/example/cairn/cairn/history/Marks" (some 0) with
  accessFlags := 48
  interfaces := #[]
  cf := some (fileOf pool3 8 #[] #[{ accessFlags := 0, nameIndex := 5, descriptorIndex := 6, attributes := #[] }, { accessFlags := 0, nameIndex := 29, descriptorIndex := 30, attributes := #[] }, { accessFlags := 0, nameIndex := 32, descriptorIndex := 33, attributes := #[] }, { accessFlags := 0, nameIndex := 34, descriptorIndex := 35, attributes := #[] }, { accessFlags := 0, nameIndex := 19, descriptorIndex := 36, attributes := #[] }, { accessFlags := 0, nameIndex := 37, descriptorIndex := 33, attributes := #[] }] 48 2 #[] #[{ accessFlags := 2, nameIndex := 11, descriptorIndex := 12, attributes := #[] }, { accessFlags := 2, nameIndex := 15, descriptorIndex := 16, attributes := #[] }, { accessFlags := 2, nameIndex := 19, descriptorIndex := 20, attributes := #[] }])
  fields := #[{ name := "flags", type := (.array .byte), accessFlags := 2, slot := 0, constantValue := 0 }, { name := "marked", type := (.array .int), accessFlags := 2, slot := 1, constantValue := 0 }, { name := "count", type := .int, accessFlags := 2, slot := 2, constantValue := 0 }]
  methods := #[k3m0, k3m1, k3m2, k3m3, k3m4, k3m5]
  instanceTypes := #[(.array .byte), (.array .int), .int]
  staticTypes := #[]
  resolved := Array.replicate 41 none
  statics := none }

def pool4 : Array CpInfo := pool [(1, u "java/lang/Cloneable"), (0, .class_ 1), (0, u "java/lang/Object"), (0, .class_ 3)] 3

/-- java/lang/Cloneable -/
def k4 : Class := { plain "java/lang/Cloneable" (some 0) with
  accessFlags := 1537
  interfaces := #[]
  cf := some (fileOf pool4 2 #[] #[] 1537 4 #[] #[])
  fields := #[]
  methods := #[]
  instanceTypes := #[]
  staticTypes := #[]
  resolved := Array.replicate 8 none
  statics := none }

def pool5 : Array CpInfo := pool [(1, u "java/io/Serializable"), (0, .class_ 1), (0, u "java/lang/Object"), (0, .class_ 3)] 3

/-- java/io/Serializable -/
def k5 : Class := { plain "java/io/Serializable" (some 0) with
  accessFlags := 1537
  interfaces := #[]
  cf := some (fileOf pool5 2 #[] #[] 1537 4 #[] #[])
  fields := #[]
  methods := #[]
  instanceTypes := #[]
  staticTypes := #[]
  resolved := Array.replicate 8 none
  statics := none }

/-- the primitive byte -/
def k6 : Class := { plain "byte" none with kind := .primitive 'B', accessFlags := 0x411 }
/-- [B -/
def k7 : Class := { plain "[B" (some 0) with kind := .array 6 .byte, interfaces := #[4, 5], accessFlags := 1041 }

/-- the primitive int -/
def k8 : Class := { plain "int" none with kind := .primitive 'I', accessFlags := 0x411 }
/-- [I -/
def k9 : Class := { plain "[I" (some 0) with kind := .array 8 .int, interfaces := #[4, 5], accessFlags := 1041 }

def heap : Heap := #[]
def classes : Array Class := #[k0, k1, k2, k3, k4, k5, k6, k7, k8, k9]
def interned : List (Array UInt16 × Addr) := []
def slotsUsed : Nat := 0
def theMethod : MethodId := ⟨1, 1⟩
def args0 : Array Value := #[.int 1, .int 5, .int 9, .int 77]
def aboutOver (below : List Frame) : State where
  vm := { classes := classes, interned := interned.toArray }
  heap := heap
  slotsUsed := slotsUsed
  threads := #[{ frames := .invoking theMethod args0 :: below }]
def below0 : List Frame := [.native { method := ⟨0, 0⟩, args := #[] }]
def about1 : State := aboutOver below0
def p0 : Program := .bare "" "" ""
def e0 : Env := launch0.env 0 0 0
theorem w_frames : about1.frames = Frame.invoking theMethod args0 :: below0 := rfl
set_option maxRecDepth 65536 in
theorem w_args : argsFit about1.vm theMethod args0 = true := by decide +kernel
set_option maxRecDepth 65536 in
theorem w_heap : heapFits about1 = true := by decide +kernel
set_option maxRecDepth 65536 in
theorem w_runnable : about1.curStatus? = some .runnable := by decide +kernel
set_option maxRecDepth 65536 in
theorem w_alone : about1.alone = true := by decide +kernel
set_option maxRecDepth 65536 in
theorem w_named : about1.methodNamed? x = some theMethod := by decide +kernel
set_option maxRecDepth 65536 in
theorem w_hears : about1.hears theMethod below0 = true := by decide +kernel
set_option maxRecDepth 65536 in
theorem w_ripe : about1.ripe theMethod args0 below0 = true := by decide +kernel
theorem w_running : about1.status = .running := rfl
set_option maxRecDepth 65536 in
theorem w_room : about1.hasRoom e0.platform room_1 = true :=
  launch0.hasRoom_least _ room_1 (by decide +kernel) (by decide +kernel) (by decide +kernel) (by decide +kernel) (by decide +kernel) (by decide +kernel)
theorem allAtoms_all (ts : List Jvm.Cond) (a : Array Jvm.Value) (st : Jvm.State) : (allAtoms ts).before a st = ts.all (fun c => c.before a st) := by
  induction ts with
  | nil => rfl
  | cons c t ih =>
    show (Jvm.Cond.and c (allAtoms t)).before a st = _
    rw [Jvm.Cond.before_and, ih, List.all_cons]
def words1 : List Jvm.Cond := Jvm.Cond.code x code maxLocals ret :: tables_1
/-- a 'code' word, met by the world's own term for the bytes: nothing is compared byte by byte -/
theorem code_word {y : MethodName} {bytes : ByteArray} {mx : Nat} {rt : Option FieldType} {a : Array Value} {s : State} {m : MethodId} {meth : Method} {c : Code} (h1 : s.methodNamed? y = some m) (h2 : s.vm.method? m = some meth) (h3 : meth.code = some c) (h4 : c.code = bytes)
    (h5 : (c.maxLocals == mx && c.exceptionTable.isEmpty && decide (c.maxStack ≤ mostOperands) && decide (meth.sig.returnType = rt) && !meth.locks && decide (parseMethodDescriptor y.desc = some meth.sig)) = true) : (Jvm.Cond.code y bytes mx rt).before a s = true := by
  simp only [Bool.and_eq_true, beq_iff_eq, Bool.not_eq_true', decide_eq_true_eq] at h5
  obtain ⟨⟨⟨⟨⟨g1, g2⟩, g3⟩, g4⟩, g5⟩, g6⟩ := h5
  simp [Cond.before, Cond.holds, Cond.value, h1, h2, h3, h4, g1, g2, g3, g4, g5, g6]
def isCode : Jvm.Cond → Bool
  | .code _ _ _ _ => true
  | _ => false
theorem all_split {L : List Jvm.Cond} {P : Jvm.Cond → Bool} (h1 : L.all (fun c => isCode c || P c) = true) (h2 : ∀ c ∈ L.filter isCode, P c = true) : L.all P = true := by
  refine List.all_eq_true.mpr fun c hc => ?_
  have h := List.all_eq_true.mp h1 c hc
  rcases Bool.eq_false_or_eq_true (isCode c) with hi | hi
  · exact h2 c (List.mem_filter.mpr ⟨hc, hi⟩)
  · simpa [hi] using h
set_option maxRecDepth 65536 in
theorem w_c0 : (Jvm.Cond.code x code maxLocals ret).before args0 about1 = true := code_word (m := ⟨1, 1⟩) (meth := k1m1) (c := k1c1) (by decide +kernel) rfl rfl rfl (by decide +kernel)
set_option maxRecDepth 65536 in
theorem w_c1 : (Jvm.Cond.code ({ cls := "java/lang/Math", name := "max", desc := "(II)I" } : Jvm.MethodName) jdk_29_method_65_code (2 : Nat) (Option.some Jvm.ClassFile.FieldType.int)).before args0 about1 = true := code_word (m := ⟨2, 1⟩) (meth := k2m1) (c := k2c1) (by decide +kernel) rfl rfl rfl (by decide +kernel)
set_option maxRecDepth 65536 in
theorem w_c2 : (Jvm.Cond.code ({ cls := "com/example/cairn/cairn/history/Marks", name := "<init>", desc := "()V" } : Jvm.MethodName) prog_27_method_1_code (1 : Nat) (Option.none : Option Jvm.ClassFile.FieldType)).before args0 about1 = true := code_word (m := ⟨3, 0⟩) (meth := k3m0) (c := k3c0) (by decide +kernel) rfl rfl rfl (by decide +kernel)
set_option maxRecDepth 65536 in
theorem w_c3 : (Jvm.Cond.code ({ cls := "java/lang/Object", name := "<init>", desc := "()V" } : Jvm.MethodName) object_method_1_code (1 : Nat) (Option.none : Option Jvm.ClassFile.FieldType)).before args0 about1 = true := code_word (m := ⟨0, 0⟩) (meth := k0m0) (c := k0c0) (by decide +kernel) rfl rfl rfl (by decide +kernel)
set_option maxRecDepth 65536 in
theorem w_c4 : (Jvm.Cond.code ({ cls := "com/example/cairn/cairn/history/Marks", name := "reserve", desc := "(I)V" } : Jvm.MethodName) prog_27_method_2_code (2 : Nat) (Option.none : Option Jvm.ClassFile.FieldType)).before args0 about1 = true := code_word (m := ⟨3, 1⟩) (meth := k3m1) (c := k3c1) (by decide +kernel) rfl rfl rfl (by decide +kernel)
set_option maxRecDepth 65536 in
theorem w_c5 : (Jvm.Cond.code ({ cls := "com/example/cairn/cairn/history/Marks", name := "get", desc := "(I)I" } : Jvm.MethodName) prog_27_method_3_code (2 : Nat) (Option.some Jvm.ClassFile.FieldType.int)).before args0 about1 = true := code_word (m := ⟨3, 2⟩) (meth := k3m2) (c := k3c2) (by decide +kernel) rfl rfl rfl (by decide +kernel)
set_option maxRecDepth 65536 in
theorem w_c6 : (Jvm.Cond.code ({ cls := "com/example/cairn/cairn/history/Marks", name := "set", desc := "(II)V" } : Jvm.MethodName) prog_27_method_4_code (3 : Nat) (Option.none : Option Jvm.ClassFile.FieldType)).before args0 about1 = true := code_word (m := ⟨3, 3⟩) (meth := k3m3) (c := k3c3) (by decide +kernel) rfl rfl rfl (by decide +kernel)
set_option maxRecDepth 65536 in
theorem w_c7 : (Jvm.Cond.code ({ cls := "com/example/cairn/cairn/history/Marks", name := "count", desc := "()I" } : Jvm.MethodName) prog_27_method_5_code (1 : Nat) (Option.some Jvm.ClassFile.FieldType.int)).before args0 about1 = true := code_word (m := ⟨3, 4⟩) (meth := k3m4) (c := k3c4) (by decide +kernel) rfl rfl rfl (by decide +kernel)
set_option maxRecDepth 65536 in
theorem w_c8 : (Jvm.Cond.code ({ cls := "com/example/cairn/cairn/history/Marks", name := "commit", desc := "(I)I" } : Jvm.MethodName) prog_27_method_6_code (2 : Nat) (Option.some Jvm.ClassFile.FieldType.int)).before args0 about1 = true := code_word (m := ⟨3, 5⟩) (meth := k3m5) (c := k3c5) (by decide +kernel) rfl rfl rfl (by decide +kernel)
def codes1 : List Jvm.Cond := [Jvm.Cond.code x code maxLocals ret, Jvm.Cond.code ({ cls := "java/lang/Math", name := "max", desc := "(II)I" } : Jvm.MethodName) jdk_29_method_65_code (2 : Nat) (Option.some Jvm.ClassFile.FieldType.int), Jvm.Cond.code ({ cls := "com/example/cairn/cairn/history/Marks", name := "<init>", desc := "()V" } : Jvm.MethodName) prog_27_method_1_code (1 : Nat) (Option.none : Option Jvm.ClassFile.FieldType), Jvm.Cond.code ({ cls := "java/lang/Object", name := "<init>", desc := "()V" } : Jvm.MethodName) object_method_1_code (1 : Nat) (Option.none : Option Jvm.ClassFile.FieldType), Jvm.Cond.code ({ cls := "com/example/cairn/cairn/history/Marks", name := "reserve", desc := "(I)V" } : Jvm.MethodName) prog_27_method_2_code (2 : Nat) (Option.none : Option Jvm.ClassFile.FieldType), Jvm.Cond.code ({ cls := "com/example/cairn/cairn/history/Marks", name := "get", desc := "(I)I" } : Jvm.MethodName) prog_27_method_3_code (2 : Nat) (Option.some Jvm.ClassFile.FieldType.int), Jvm.Cond.code ({ cls := "com/example/cairn/cairn/history/Marks", name := "set", desc := "(II)V" } : Jvm.MethodName) prog_27_method_4_code (3 : Nat) (Option.none : Option Jvm.ClassFile.FieldType), Jvm.Cond.code ({ cls := "com/example/cairn/cairn/history/Marks", name := "count", desc := "()I" } : Jvm.MethodName) prog_27_method_5_code (1 : Nat) (Option.some Jvm.ClassFile.FieldType.int), Jvm.Cond.code ({ cls := "com/example/cairn/cairn/history/Marks", name := "commit", desc := "(I)I" } : Jvm.MethodName) prog_27_method_6_code (2 : Nat) (Option.some Jvm.ClassFile.FieldType.int)]
set_option maxRecDepth 65536 in
theorem codes_eq : words1.filter isCode = codes1 := rfl
theorem w_codes : ∀ c ∈ words1.filter isCode, c.before args0 about1 = true := by
  rw [codes_eq]
  intro c hc
  simp only [codes1, List.mem_cons, List.not_mem_nil, or_false] at hc
  rcases hc with rfl | rfl | rfl | rfl | rfl | rfl | rfl | rfl | rfl
  · exact w_c0
  · exact w_c1
  · exact w_c2
  · exact w_c3
  · exact w_c4
  · exact w_c5
  · exact w_c6
  · exact w_c7
  · exact w_c8
set_option maxRecDepth 65536 in
theorem w_t1 : (words1.take 24).all (fun c => isCode c || c.before args0 about1) = true := by decide +kernel
set_option maxRecDepth 65536 in
theorem w_t2 : (words1.drop 24).all (fun c => isCode c || c.before args0 about1) = true := by decide +kernel
theorem w_tables : (allAtoms (Jvm.Cond.code x code maxLocals ret :: tables_1)).before args0 about1 = true := by
  rw [allAtoms_all]
  show words1.all (fun c => c.before args0 about1) = true
  refine all_split ?_ w_codes
  rw [← List.take_append_drop 24 words1, List.all_append, w_t1, w_t2]
  rfl
set_option maxRecDepth 65536 in
theorem w_case : (Jvm.Cond.and given_1 narrow_1).before args0 about1 = true := by decide +kernel
theorem w_applies : (headSpec (Jvm.Cond.code x code maxLocals ret :: tables_1) room_1).applies x e0.platform about1 = true :=
  (Spec.applies_iff w_frames).mpr ⟨w_running, w_runnable, w_alone, w_named, w_hears, w_ripe, w_room, w_tables⟩
theorem atStart : AtStart classFile x code maxLocals ret World_1 tables_1 room_1 Calls_1 rest_1 Pre_1 launch0 p0 e0 about1 theMethod args0 below0 :=
  ⟨lists_1, trivial, launch0.admits_env _ _ _, launch0.least_env, fairChoices_fair.cas, fairChoices_fair.clock, w_frames, w_args, w_heap, w_applies, trivial, trivial, w_case⟩
end start1
theorem witness_1 : WitnessClaimed_1 := ⟨start1.p0, start1.e0, start1.about1, start1.theMethod, start1.args0, start1.below0, start1.atStart⟩
end Jvm.Pilot.@@N@@
