import JvmDerived
import JvmDerived.Pilot.@@N@@Statement
import JvmDerived.Pilot.@@N@@Code
set_option linter.unusedVariables false
set_option linter.unusedSimpArgs false
namespace Jvm.Pilot.@@N@@
open Jvm Jvm.ClassFile Sem Op Lib Jvm.Free Jvm.Stand Jvm.LawKit Jvm.RoadKit Bundle Jvm.Pilot.@@N@@.Jvm.D
theorem own_wrap {A : Prop} (h : ∀ GL : Prop, (A → GL) → GL) : A := h A id
theorem own_k3 (q : Int64) : (((q.toUInt64 >>> ((32 : Int32) &&& 0x3f).toInt64.toUInt64).toInt64 &&& (2147483647 : Int64)).toInt32) % (3 : Int32) = (0 : Int32) ∨ (((q.toUInt64 >>> ((32 : Int32) &&& 0x3f).toInt64.toUInt64).toInt64 &&& (2147483647 : Int64)).toInt32) % (3 : Int32) = (1 : Int32) ∨ (((q.toUInt64 >>> ((32 : Int32) &&& 0x3f).toInt64.toUInt64).toInt64 &&& (2147483647 : Int64)).toInt32) % (3 : Int32) = (2 : Int32) := by
  generalize (q.toUInt64 >>> ((32 : Int32) &&& 0x3f).toInt64.toUInt64).toInt64 = u
  have h1 := c_maskL u 2147483647 31 (by decide) (by decide)
  have h2 := c_l2i (u &&& 2147483647)
  have r := rng32 (u &&& 2147483647).toInt32
  have h3 := (c_irem (u &&& 2147483647).toInt32 3 3 (by decide)).1 (by omega)
  have h4 : ((u &&& 2147483647).toInt32 % 3).toInt = 0 ∨ ((u &&& 2147483647).toInt32 % 3).toInt = 1 ∨ ((u &&& 2147483647).toInt32 % 3).toInt = 2 := by omega
  rcases h4 with h | h | h
  · exact Or.inl (Int32.toInt_inj.mp (by rw [h]; decide))
  · exact Or.inr (Or.inl (Int32.toInt_inj.mp (by rw [h]; decide)))
  · exact Or.inr (Or.inr (Int32.toInt_inj.mp (by rw [h]; decide)))
theorem own_add (a b c d e f : Int32) : (((8 : Int32) * (a + d)) + ((4 : Int32) * (b + e))) + ((4 : Int32) * (c + f)) = ((((8 : Int32) * a) + ((4 : Int32) * b)) + ((4 : Int32) * c)) + ((((8 : Int32) * d) + ((4 : Int32) * e)) + ((4 : Int32) * f)) := by
  rw [Int32.mul_add, Int32.mul_add, Int32.mul_add]
  ac_rfl
theorem pn_0 : plainName "com/example/cooldown/cooldown/policy/FieldColumn$Shape" = true := by first | (simp [plainName, overriddenIn]; done) | decide +kernel
theorem d1_0 : decode prog_20_method_1_code 0 = .ok (.aload_n 0, 1) := by decide +kernel
theorem d1_1 : decode prog_20_method_1_code 1 = .ok (.invokespecial 1, 3) := by decide +kernel
theorem d1_4 : decode prog_20_method_1_code 4 = .ok (.aload_n 0, 1) := by decide +kernel
theorem d1_5 : decode prog_20_method_1_code 5 = .ok (.iload_n 1, 1) := by decide +kernel
theorem d1_6 : decode prog_20_method_1_code 6 = .ok (.putfield 7, 3) := by decide +kernel
theorem d1_9 : decode prog_20_method_1_code 9 = .ok (.aload_n 0, 1) := by decide +kernel
theorem d1_10 : decode prog_20_method_1_code 10 = .ok (.iload_n 2, 1) := by decide +kernel
theorem d1_11 : decode prog_20_method_1_code 11 = .ok (.putfield 13, 3) := by decide +kernel
theorem d1_14 : decode prog_20_method_1_code 14 = .ok (.aload_n 0, 1) := by decide +kernel
theorem d1_15 : decode prog_20_method_1_code 15 = .ok (.iload_n 3, 1) := by decide +kernel
theorem d1_16 : decode prog_20_method_1_code 16 = .ok (.putfield 16, 3) := by decide +kernel
theorem d1_19 : decode prog_20_method_1_code 19 = .ok (.return_, 1) := by decide +kernel
theorem ef_1 (m : MethodId) (x0 : Addr) (x1 : Int32) (x2 : Int32) (x3 : Int32) : entryFrame m #[(.ref x0), (.int x1), (.int x2), (.int x3)] 4 = mkF m 0 #[.val (.ref x0), .val (.int x1), .val (.int x2), .val (.int x3)] [] := by first | (simp [entryFrame, mkF, argsToLocals, Value.category]; done) | rfl
def Q1 (Z : State) (o : Addr) (x : Int32) (y : Int32) (z : Int32) (u_longs : Value) (u_ints : Value) (u_objects : Value) (h0 : Heap) (n0 : Nat) (vα : Option Value) (hα : Heap) (Lα : List Loc) : Prop := vα = none ∧ Fr n0 Lα ∧ Keep h0 hα [o] ∧ Exa Z hα o "com/example/cooldown/cooldown/policy/FieldColumn$Shape" ∧ Fld Z hα o "com/example/cooldown/cooldown/policy/FieldColumn$Shape" "longs" "I" (.int x) ∧ Fld Z hα o "com/example/cooldown/cooldown/policy/FieldColumn$Shape" "ints" "I" (.int y) ∧ Fld Z hα o "com/example/cooldown/cooldown/policy/FieldColumn$Shape" "objects" "I" (.int z)
set_option maxRecDepth 65536 in
set_option maxHeartbeats 40000000 in
theorem rm1 (l : Launch) (Z : State) (a0 : Array Value) (hw : ∀ d ∈ tables_1, d.before a0 Z = true) (ws : List Jvm.Cond) (o : Addr) (x : Int32) (y : Int32) (z : Int32) (u_longs : Value) (u_ints : Value) (u_objects : Value) (h0 : Heap) (n0 : Nat) (Z0 : n0 ≤ h0.size) (g_o : n0 ≤ o) (E_o : Exa Z h0 o "com/example/cooldown/cooldown/policy/FieldColumn$Shape") (F_longs : Fld Z h0 o "com/example/cooldown/cooldown/policy/FieldColumn$Shape" "longs" "I" u_longs) (F_ints : Fld Z h0 o "com/example/cooldown/cooldown/policy/FieldColumn$Shape" "ints" "I" u_ints) (F_objects : Fld Z h0 o "com/example/cooldown/cooldown/policy/FieldColumn$Shape" "objects" "I" u_objects) :
    MetFree l (⟨"com/example/cooldown/cooldown/policy/FieldColumn$Shape", "<init>", "(III)V"⟩ : MethodName) (head1 (Jvm.Cond.code (⟨"com/example/cooldown/cooldown/policy/FieldColumn$Shape", "<init>", "(III)V"⟩ : MethodName) prog_20_method_1_code 4 none :: ws) ({ frames := 1, cells := 0, slots := 0, locals := 12 } : Room)) (fun aα U => aα = #[(.ref o), (.int x), (.int y), (.int z)] ∧ Z.Warmed39 U.vm ∧ U.heap = h0) (fun _ _ _ _ _ => True) (fun _ U oα U' => ∃ vα Lα, oα = .returned vα ∧ Q1 Z o x y z u_longs u_ints u_objects h0 n0 vα U'.heap Lα ∧ FrameEnd U oα U' Lα ({ frames := 1, cells := 0, slots := 0, locals := 12 } : Room).cells ({ frames := 1, cells := 0, slots := 0, locals := 12 } : Room).slots) := by
  refine MetFree.of_bodySF (plainFor_of_name pn_0) hisR ?_
  intro p e s m args below meth c s₁ Bd hml0 hP hK
  refine own_wrap ?_
  intro GL hGL
  obtain ⟨rfl, hZ, hh⟩ := hP
  have hx := Bd.exec
  have hby := Bd.bytes
  have hml : c.maxLocals = 4 := hml0
  have hown : s.vm.findClass "com/example/cooldown/cooldown/policy/FieldColumn$Shape" = some m.cls := findClass_of_methodNamed Bd.named
  have hnm := (name_of_methodNamed Bd.named Bd.method).1
  have X0 : Stand p l e ({ frames := 1, cells := 0, slots := 0, locals := 12 } : Room) s m #[(.ref o), (.int x), (.int y), (.int z)] below meth c s₁ [] 0 0 := Stand.of_body Bd
  have e0 : s₁.heap = h0 := by rw [← hh, Bd.state]; rfl
  have N0 := Fr.nil n0
  have pre0 : ∀ τ, Steps p.tables e below (s₁.setTop (mkF m 0 #[.val (.ref o), .val (.int x), .val (.int y), .val (.int z)] [])) τ → Steps p.tables e below (s₁.setTop (entryFrame m #[(.ref o), (.int x), (.int y), (.int z)] 4)) τ := fun τ κ => castTop (ef_1 m o x y z) κ
  obtain ⟨G, hG, pre⟩ : ∃ G : State → Prop, (∀ τ, G τ → Steps p.tables e below (s₁.setTop (entryFrame m #[(.ref o), (.int x), (.int y), (.int z)] 4)) τ) ∧ ∀ τ, Steps p.tables e below (s₁.setTop (mkF m 0 #[.val (.ref o), .val (.int x), .val (.int y), .val (.int z)] [])) τ → G τ := ⟨_, pre0, fun _ k => k⟩
  have K : Keep h0 h0 [o] := Keep.refl h0 _
  have Zn := Z0
  have pre : ∀ τ, Steps p.tables e below (s₁.setTop (mkF m 1 #[.val (.ref o), .val (.int x), .val (.int y), .val (.int z)] [(.ref o)])) τ → G τ := fun τ κ => pre τ (by
    refine XS.aloadN X0.here hx rfl (hb hby d1_0) rfl rfl ?_
    show Steps p.tables e below (s₁.setTop (mkF m 1 #[.val (.ref o), .val (.int x), .val (.int y), .val (.int z)] [(.ref o)])) τ
    exact κ)
  obtain ⟨T1, X1, e1, st1⟩ := initO X0 hx hZ hown (hw _ (List.mem_of_getElem? (i := 7) rfl)) (hw _ (List.mem_of_getElem? (i := 8) rfl)) (hw _ (List.mem_of_getElem? (i := 9) rfl)) e0 (g := (mkF m 1 #[.val (.ref o), .val (.int x), .val (.int y), .val (.int z)] [(.ref o)])) rfl (by rw [hml]; rfl) rfl (hb hby d1_1) (by decide) (W := 0) (by show 2 * 0 + _ ≤ _; exact Nat.le_of_eq rfl) (by decide)
  have pre : ∀ τ, Steps p.tables e below (T1.setTop (mkF m 4 #[.val (.ref o), .val (.int x), .val (.int y), .val (.int z)] [])) τ → G τ := fun τ κ => pre τ (st1 τ κ)
  have pre : ∀ τ, Steps p.tables e below (T1.setTop (mkF m 6 #[.val (.ref o), .val (.int x), .val (.int y), .val (.int z)] [(.int x), (.ref o)])) τ → G τ := fun τ κ => pre τ (by
    refine XS.aloadN X1.here hx rfl (hb hby d1_4) rfl rfl ?_
    show Steps p.tables e below (T1.setTop (mkF m 5 #[.val (.ref o), .val (.int x), .val (.int y), .val (.int z)] [(.ref o)])) τ
    refine XS.iloadN X1.here hx rfl (hb hby d1_5) rfl ?_
    show Steps p.tables e below (T1.setTop (mkF m 6 #[.val (.ref o), .val (.int x), .val (.int y), .val (.int z)] [(.int x), (.ref o)])) τ
    exact κ)
  obtain ⟨T2, h2, X2, e2, W2, st2⟩ := putF X1 hx hZ hown (host := "") (Or.inl (hw _ (List.mem_of_getElem? (i := 10) rfl))) Via.refl e1 F_longs E_o (Or.inr ⟨(hw _ (List.mem_of_getElem? (i := 11) rfl)), rfl, hnm⟩) (hw _ (List.mem_of_getElem? (i := 2) rfl)) (ty := .int) (by decide) rfl rfl (g := (mkF m 6 #[.val (.ref o), .val (.int x), .val (.int y), .val (.int z)] [(.int x), (.ref o)])) rfl rfl (hb hby d1_6)
  have F_longs : Fld Z h2 o "com/example/cooldown/cooldown/policy/FieldColumn$Shape" "longs" "I" (.int x) := F_longs.same W2
  have E_o : Exa Z h2 o "com/example/cooldown/cooldown/policy/FieldColumn$Shape" := E_o.wr W2
  have F_ints : Fld Z h2 o "com/example/cooldown/cooldown/policy/FieldColumn$Shape" "ints" "I" u_ints := F_ints.other W2 (Or.inr (slot_ne (Or.inr (hw _ (List.mem_of_getElem? (i := 13) rfl))) (Or.inr (hw _ (List.mem_of_getElem? (i := 11) rfl))) (by decide) (t := .int) (t' := .int) (by decide) (by decide)))
  have F_objects : Fld Z h2 o "com/example/cooldown/cooldown/policy/FieldColumn$Shape" "objects" "I" u_objects := F_objects.other W2 (Or.inr (slot_ne (Or.inr (hw _ (List.mem_of_getElem? (i := 15) rfl))) (Or.inr (hw _ (List.mem_of_getElem? (i := 11) rfl))) (by decide) (t := .int) (t' := .int) (by decide) (by decide)))
  have Zn : n0 ≤ h2.size := Nat.le_trans Zn (Keep.of_wr W2).1
  have K : Keep h0 h2 [o] := K.wr W2 (Or.inl (List.mem_of_getElem? (i := 0) rfl))
  have NN := Fr.snoc X2 N0 g_o
  have pre : ∀ τ, Steps p.tables e below (T2.setTop (mkF m 9 #[.val (.ref o), .val (.int x), .val (.int y), .val (.int z)] [])) τ → G τ := fun τ κ => pre τ (st2 τ κ)
  have pre : ∀ τ, Steps p.tables e below (T2.setTop (mkF m 11 #[.val (.ref o), .val (.int x), .val (.int y), .val (.int z)] [(.int y), (.ref o)])) τ → G τ := fun τ κ => pre τ (by
    refine XS.aloadN X2.here hx rfl (hb hby d1_9) rfl rfl ?_
    show Steps p.tables e below (T2.setTop (mkF m 10 #[.val (.ref o), .val (.int x), .val (.int y), .val (.int z)] [(.ref o)])) τ
    refine XS.iloadN X2.here hx rfl (hb hby d1_10) rfl ?_
    show Steps p.tables e below (T2.setTop (mkF m 11 #[.val (.ref o), .val (.int x), .val (.int y), .val (.int z)] [(.int y), (.ref o)])) τ
    exact κ)
  obtain ⟨T3, h3, X3, e3, W3, st3⟩ := putF X2 hx hZ hown (host := "") (Or.inl (hw _ (List.mem_of_getElem? (i := 12) rfl))) Via.refl e2 F_ints E_o (Or.inr ⟨(hw _ (List.mem_of_getElem? (i := 13) rfl)), rfl, hnm⟩) (hw _ (List.mem_of_getElem? (i := 2) rfl)) (ty := .int) (by decide) rfl rfl (g := (mkF m 11 #[.val (.ref o), .val (.int x), .val (.int y), .val (.int z)] [(.int y), (.ref o)])) rfl rfl (hb hby d1_11)
  have F_ints : Fld Z h3 o "com/example/cooldown/cooldown/policy/FieldColumn$Shape" "ints" "I" (.int y) := F_ints.same W3
  have E_o : Exa Z h3 o "com/example/cooldown/cooldown/policy/FieldColumn$Shape" := E_o.wr W3
  have F_longs : Fld Z h3 o "com/example/cooldown/cooldown/policy/FieldColumn$Shape" "longs" "I" (.int x) := F_longs.other W3 (Or.inr (slot_ne (Or.inr (hw _ (List.mem_of_getElem? (i := 11) rfl))) (Or.inr (hw _ (List.mem_of_getElem? (i := 13) rfl))) (by decide) (t := .int) (t' := .int) (by decide) (by decide)))
  have F_objects : Fld Z h3 o "com/example/cooldown/cooldown/policy/FieldColumn$Shape" "objects" "I" u_objects := F_objects.other W3 (Or.inr (slot_ne (Or.inr (hw _ (List.mem_of_getElem? (i := 15) rfl))) (Or.inr (hw _ (List.mem_of_getElem? (i := 13) rfl))) (by decide) (t := .int) (t' := .int) (by decide) (by decide)))
  have Zn : n0 ≤ h3.size := Nat.le_trans Zn (Keep.of_wr W3).1
  have K : Keep h0 h3 [o] := K.wr W3 (Or.inl (List.mem_of_getElem? (i := 0) rfl))
  have NN := Fr.snoc X3 NN g_o
  have pre : ∀ τ, Steps p.tables e below (T3.setTop (mkF m 14 #[.val (.ref o), .val (.int x), .val (.int y), .val (.int z)] [])) τ → G τ := fun τ κ => pre τ (st3 τ κ)
  have pre : ∀ τ, Steps p.tables e below (T3.setTop (mkF m 16 #[.val (.ref o), .val (.int x), .val (.int y), .val (.int z)] [(.int z), (.ref o)])) τ → G τ := fun τ κ => pre τ (by
    refine XS.aloadN X3.here hx rfl (hb hby d1_14) rfl rfl ?_
    show Steps p.tables e below (T3.setTop (mkF m 15 #[.val (.ref o), .val (.int x), .val (.int y), .val (.int z)] [(.ref o)])) τ
    refine XS.iloadN X3.here hx rfl (hb hby d1_15) rfl ?_
    show Steps p.tables e below (T3.setTop (mkF m 16 #[.val (.ref o), .val (.int x), .val (.int y), .val (.int z)] [(.int z), (.ref o)])) τ
    exact κ)
  obtain ⟨T4, h4, X4, e4, W4, st4⟩ := putF X3 hx hZ hown (host := "") (Or.inl (hw _ (List.mem_of_getElem? (i := 14) rfl))) Via.refl e3 F_objects E_o (Or.inr ⟨(hw _ (List.mem_of_getElem? (i := 15) rfl)), rfl, hnm⟩) (hw _ (List.mem_of_getElem? (i := 2) rfl)) (ty := .int) (by decide) rfl rfl (g := (mkF m 16 #[.val (.ref o), .val (.int x), .val (.int y), .val (.int z)] [(.int z), (.ref o)])) rfl rfl (hb hby d1_16)
  have F_objects : Fld Z h4 o "com/example/cooldown/cooldown/policy/FieldColumn$Shape" "objects" "I" (.int z) := F_objects.same W4
  have E_o : Exa Z h4 o "com/example/cooldown/cooldown/policy/FieldColumn$Shape" := E_o.wr W4
  have F_longs : Fld Z h4 o "com/example/cooldown/cooldown/policy/FieldColumn$Shape" "longs" "I" (.int x) := F_longs.other W4 (Or.inr (slot_ne (Or.inr (hw _ (List.mem_of_getElem? (i := 11) rfl))) (Or.inr (hw _ (List.mem_of_getElem? (i := 15) rfl))) (by decide) (t := .int) (t' := .int) (by decide) (by decide)))
  have F_ints : Fld Z h4 o "com/example/cooldown/cooldown/policy/FieldColumn$Shape" "ints" "I" (.int y) := F_ints.other W4 (Or.inr (slot_ne (Or.inr (hw _ (List.mem_of_getElem? (i := 13) rfl))) (Or.inr (hw _ (List.mem_of_getElem? (i := 15) rfl))) (by decide) (t := .int) (t' := .int) (by decide) (by decide)))
  have Zn : n0 ≤ h4.size := Nat.le_trans Zn (Keep.of_wr W4).1
  have K : Keep h0 h4 [o] := K.wr W4 (Or.inl (List.mem_of_getElem? (i := 0) rfl))
  have NN := Fr.snoc X4 NN g_o
  have pre : ∀ τ, Steps p.tables e below (T4.setTop (mkF m 19 #[.val (.ref o), .val (.int x), .val (.int y), .val (.int z)] [])) τ → G τ := fun τ κ => pre τ (st4 τ κ)
  obtain ⟨fs, hr, hrun, hended, hW, hsame⟩ := X4.leave (v := none) (fun _ => rfl)
  refine hGL ⟨_, _, hG _ (pre _ ?_), hrun, hended, _, _, rfl, ?_, ⟨_, rfl⟩, hW, hsame.mono (by decide) (by decide)⟩
  · exact X4.returnOut hx Bd.returns (hb hby d1_19) hr
  · show Q1 Z o x y z u_longs u_ints u_objects h0 n0 _ T4.heap _
    rw [e4]
    exact ⟨rfl, NN, K, E_o, F_longs, F_ints, F_objects⟩
theorem d3_0 : decode prog_20_method_3_code 0 = .ok (.bipush 8, 2) := by decide +kernel
theorem d3_2 : decode prog_20_method_3_code 2 = .ok (.aload_n 0, 1) := by decide +kernel
theorem d3_3 : decode prog_20_method_3_code 3 = .ok (.getfield 7, 3) := by decide +kernel
theorem d3_6 : decode prog_20_method_3_code 6 = .ok (.imul, 1) := by decide +kernel
theorem d3_7 : decode prog_20_method_3_code 7 = .ok (.iconst 4, 1) := by decide +kernel
theorem d3_8 : decode prog_20_method_3_code 8 = .ok (.aload_n 0, 1) := by decide +kernel
theorem d3_9 : decode prog_20_method_3_code 9 = .ok (.getfield 13, 3) := by decide +kernel
theorem d3_12 : decode prog_20_method_3_code 12 = .ok (.imul, 1) := by decide +kernel
theorem d3_13 : decode prog_20_method_3_code 13 = .ok (.iadd, 1) := by decide +kernel
theorem d3_14 : decode prog_20_method_3_code 14 = .ok (.iconst 4, 1) := by decide +kernel
theorem d3_15 : decode prog_20_method_3_code 15 = .ok (.aload_n 0, 1) := by decide +kernel
theorem d3_16 : decode prog_20_method_3_code 16 = .ok (.getfield 16, 3) := by decide +kernel
theorem d3_19 : decode prog_20_method_3_code 19 = .ok (.imul, 1) := by decide +kernel
theorem d3_20 : decode prog_20_method_3_code 20 = .ok (.iadd, 1) := by decide +kernel
theorem d3_21 : decode prog_20_method_3_code 21 = .ok (.ireturn, 1) := by decide +kernel
theorem ef_3 (m : MethodId) (x0 : Addr) : entryFrame m #[(.ref x0)] 1 = mkF m 0 #[.val (.ref x0)] [] := by first | (simp [entryFrame, mkF, argsToLocals, Value.category]; done) | rfl
def Q3 (Z : State) (o : Addr) (x : Int32) (y : Int32) (z : Int32) (h0 : Heap) (n0 : Nat) (vα : Option Value) (hα : Heap) (Lα : List Loc) : Prop := vα = some (.int ((((8 : Int32) * x) + ((4 : Int32) * y)) + ((4 : Int32) * z))) ∧ Fr n0 Lα ∧ hα = h0
set_option maxRecDepth 65536 in
set_option maxHeartbeats 40000000 in
theorem rm3 (l : Launch) (Z : State) (a0 : Array Value) (hw : ∀ d ∈ tables_1, d.before a0 Z = true) (ws : List Jvm.Cond) (o : Addr) (x : Int32) (y : Int32) (z : Int32) (h0 : Heap) (n0 : Nat) (Z0 : n0 ≤ h0.size) (F_longs : Fld Z h0 o "com/example/cooldown/cooldown/policy/FieldColumn$Shape" "longs" "I" (.int x)) (F_ints : Fld Z h0 o "com/example/cooldown/cooldown/policy/FieldColumn$Shape" "ints" "I" (.int y)) (F_objects : Fld Z h0 o "com/example/cooldown/cooldown/policy/FieldColumn$Shape" "objects" "I" (.int z)) :
    MetFree l (⟨"com/example/cooldown/cooldown/policy/FieldColumn$Shape", "bytes", "()I"⟩ : MethodName) (head1 (Jvm.Cond.code (⟨"com/example/cooldown/cooldown/policy/FieldColumn$Shape", "bytes", "()I"⟩ : MethodName) prog_20_method_3_code 1 (some .int) :: ws) ({ frames := 0, cells := 0, slots := 0, locals := 0 } : Room)) (fun aα U => aα = #[(.ref o)] ∧ Z.Warmed39 U.vm ∧ U.heap = h0) (fun _ _ _ _ _ => True) (fun _ U oα U' => ∃ vα Lα, oα = .returned vα ∧ Q3 Z o x y z h0 n0 vα U'.heap Lα ∧ FrameEnd U oα U' Lα ({ frames := 0, cells := 0, slots := 0, locals := 0 } : Room).cells ({ frames := 0, cells := 0, slots := 0, locals := 0 } : Room).slots) := by
  refine MetFree.of_bodySF (plainFor_of_name pn_0) hisR ?_
  intro p e s m args below meth c s₁ Bd hml0 hP hK
  refine own_wrap ?_
  intro GL hGL
  obtain ⟨rfl, hZ, hh⟩ := hP
  have hx := Bd.exec
  have hby := Bd.bytes
  have hml : c.maxLocals = 1 := hml0
  have hown : s.vm.findClass "com/example/cooldown/cooldown/policy/FieldColumn$Shape" = some m.cls := findClass_of_methodNamed Bd.named
  have hnm := (name_of_methodNamed Bd.named Bd.method).1
  have X0 : Stand p l e ({ frames := 0, cells := 0, slots := 0, locals := 0 } : Room) s m #[(.ref o)] below meth c s₁ [] 0 0 := Stand.of_body Bd
  have e0 : s₁.heap = h0 := by rw [← hh, Bd.state]; rfl
  have N0 := Fr.nil n0
  have pre0 : ∀ τ, Steps p.tables e below (s₁.setTop (mkF m 0 #[.val (.ref o)] [])) τ → Steps p.tables e below (s₁.setTop (entryFrame m #[(.ref o)] 1)) τ := fun τ κ => castTop (ef_3 m o) κ
  obtain ⟨G, hG, pre⟩ : ∃ G : State → Prop, (∀ τ, G τ → Steps p.tables e below (s₁.setTop (entryFrame m #[(.ref o)] 1)) τ) ∧ ∀ τ, Steps p.tables e below (s₁.setTop (mkF m 0 #[.val (.ref o)] [])) τ → G τ := ⟨_, pre0, fun _ k => k⟩
  have K : Keep h0 h0 [] := Keep.refl h0 _
  have Zn := Z0
  have pre : ∀ τ, Steps p.tables e below (s₁.setTop (mkF m 3 #[.val (.ref o)] [(.ref o), (.int (8 : Int32))])) τ → G τ := fun τ κ => pre τ (by
    refine XS.bipush X0.here hx rfl (hb hby d3_0) ?_
    show Steps p.tables e below (s₁.setTop (mkF m 2 #[.val (.ref o)] [(.int (8 : Int32))])) τ
    refine XS.aloadN X0.here hx rfl (hb hby d3_2) rfl rfl ?_
    show Steps p.tables e below (s₁.setTop (mkF m 3 #[.val (.ref o)] [(.ref o), (.int (8 : Int32))])) τ
    exact κ)
  obtain ⟨T1, X1, e1, st1⟩ := getF X0 hx hZ hown (host := "") (Or.inl (hw _ (List.mem_of_getElem? (i := 10) rfl))) Via.refl e0 F_longs (g := (mkF m 3 #[.val (.ref o)] [(.ref o), (.int (8 : Int32))])) rfl rfl (hb hby d3_3)
  have pre : ∀ τ, Steps p.tables e below (T1.setTop (mkF m 6 #[.val (.ref o)] [(.int x), (.int (8 : Int32))])) τ → G τ := fun τ κ => pre τ (st1 τ κ)
  have pre : ∀ τ, Steps p.tables e below (T1.setTop (mkF m 9 #[.val (.ref o)] [(.ref o), (.int (4 : Int32)), (.int ((8 : Int32) * x))])) τ → G τ := fun τ κ => pre τ (by
    refine XS.imul X1.here hx rfl (hb hby d3_6) rfl ?_
    show Steps p.tables e below (T1.setTop (mkF m 7 #[.val (.ref o)] [(.int ((8 : Int32) * x))])) τ
    refine XS.iconst X1.here hx rfl (hb hby d3_7) ?_
    show Steps p.tables e below (T1.setTop (mkF m 8 #[.val (.ref o)] [(.int (4 : Int32)), (.int ((8 : Int32) * x))])) τ
    refine XS.aloadN X1.here hx rfl (hb hby d3_8) rfl rfl ?_
    show Steps p.tables e below (T1.setTop (mkF m 9 #[.val (.ref o)] [(.ref o), (.int (4 : Int32)), (.int ((8 : Int32) * x))])) τ
    exact κ)
  obtain ⟨T2, X2, e2, st2⟩ := getF X1 hx hZ hown (host := "") (Or.inl (hw _ (List.mem_of_getElem? (i := 12) rfl))) Via.refl e1 F_ints (g := (mkF m 9 #[.val (.ref o)] [(.ref o), (.int (4 : Int32)), (.int ((8 : Int32) * x))])) rfl rfl (hb hby d3_9)
  have pre : ∀ τ, Steps p.tables e below (T2.setTop (mkF m 12 #[.val (.ref o)] [(.int y), (.int (4 : Int32)), (.int ((8 : Int32) * x))])) τ → G τ := fun τ κ => pre τ (st2 τ κ)
  have pre : ∀ τ, Steps p.tables e below (T2.setTop (mkF m 16 #[.val (.ref o)] [(.ref o), (.int (4 : Int32)), (.int (((8 : Int32) * x) + ((4 : Int32) * y)))])) τ → G τ := fun τ κ => pre τ (by
    refine XS.imul X2.here hx rfl (hb hby d3_12) rfl ?_
    show Steps p.tables e below (T2.setTop (mkF m 13 #[.val (.ref o)] [(.int ((4 : Int32) * y)), (.int ((8 : Int32) * x))])) τ
    refine XS.iadd X2.here hx rfl (hb hby d3_13) rfl ?_
    show Steps p.tables e below (T2.setTop (mkF m 14 #[.val (.ref o)] [(.int (((8 : Int32) * x) + ((4 : Int32) * y)))])) τ
    refine XS.iconst X2.here hx rfl (hb hby d3_14) ?_
    show Steps p.tables e below (T2.setTop (mkF m 15 #[.val (.ref o)] [(.int (4 : Int32)), (.int (((8 : Int32) * x) + ((4 : Int32) * y)))])) τ
    refine XS.aloadN X2.here hx rfl (hb hby d3_15) rfl rfl ?_
    show Steps p.tables e below (T2.setTop (mkF m 16 #[.val (.ref o)] [(.ref o), (.int (4 : Int32)), (.int (((8 : Int32) * x) + ((4 : Int32) * y)))])) τ
    exact κ)
  obtain ⟨T3, X3, e3, st3⟩ := getF X2 hx hZ hown (host := "") (Or.inl (hw _ (List.mem_of_getElem? (i := 14) rfl))) Via.refl e2 F_objects (g := (mkF m 16 #[.val (.ref o)] [(.ref o), (.int (4 : Int32)), (.int (((8 : Int32) * x) + ((4 : Int32) * y)))])) rfl rfl (hb hby d3_16)
  have pre : ∀ τ, Steps p.tables e below (T3.setTop (mkF m 19 #[.val (.ref o)] [(.int z), (.int (4 : Int32)), (.int (((8 : Int32) * x) + ((4 : Int32) * y)))])) τ → G τ := fun τ κ => pre τ (st3 τ κ)
  have pre : ∀ τ, Steps p.tables e below (T3.setTop (mkF m 21 #[.val (.ref o)] [(.int ((((8 : Int32) * x) + ((4 : Int32) * y)) + ((4 : Int32) * z)))])) τ → G τ := fun τ κ => pre τ (by
    refine XS.imul X3.here hx rfl (hb hby d3_19) rfl ?_
    show Steps p.tables e below (T3.setTop (mkF m 20 #[.val (.ref o)] [(.int ((4 : Int32) * z)), (.int (((8 : Int32) * x) + ((4 : Int32) * y)))])) τ
    refine XS.iadd X3.here hx rfl (hb hby d3_20) rfl ?_
    show Steps p.tables e below (T3.setTop (mkF m 21 #[.val (.ref o)] [(.int ((((8 : Int32) * x) + ((4 : Int32) * y)) + ((4 : Int32) * z)))])) τ
    exact κ)
  obtain ⟨fs, hr, hrun, hended, hW, hsame⟩ := X3.leave (v := some (.int ((((8 : Int32) * x) + ((4 : Int32) * y)) + ((4 : Int32) * z)))) (fun h => by rw [Bd.returns] at h; cases h)
  refine hGL ⟨_, _, hG _ (pre _ ?_), hrun, hended, _, _, rfl, ?_, ⟨_, rfl⟩, hW, hsame.mono (by decide) (by decide)⟩
  · exact retOut X3 hx Bd.returns rfl (Or.inl ⟨rfl, Or.inl rfl, _, rfl⟩) (hb hby d3_21) hr
  · show Q3 Z o x y z h0 n0 _ T3.heap _
    rw [e3]
    exact ⟨rfl, N0, rfl⟩
theorem pn_1 : plainName "com/example/cooldown/cooldown/policy/ShapeBytesPinLaw" = true := by first | (simp [plainName, overriddenIn]; done) | decide +kernel
theorem pd_0 : parseMethodDescriptor "(III)V" = some ⟨[.int, .int, .int], none⟩ := by decide +kernel
theorem pd_1 : parseMethodDescriptor "()I" = some ⟨[], some .int⟩ := by decide +kernel
theorem ef_0 (m : MethodId) (x0 : Int32) (x1 : Int32) (x2 : Int32) (x3 : Int32) (x4 : Int32) (x5 : Int64) : entryFrame m #[(.int x0), (.int x1), (.int x2), (.int x3), (.int x4), (.long x5)] maxLocals = mkF m 0 #[.val (.int x0), .val (.int x1), .val (.int x2), .val (.int x3), .val (.int x4), .val (.long x5), .second, .unset, .unset, .unset, .unset, .unset, .unset, .unset, .unset, .unset] [] := by first | (simp [entryFrame, mkF, argsToLocals, Value.category, maxLocals]; done) | rfl
def Q0 (Z : State) (a : Int32) (b : Int32) (cc : Int32) (d : Int32) (ee : Int32) (q6 : Int64) (h0 : Heap) (n0 : Nat) (vα : Option Value) (hα : Heap) (Lα : List Loc) : Prop := vα = some (.int (1 : Int32)) ∧ Fr n0 Lα
set_option maxRecDepth 65536 in
set_option maxHeartbeats 40000000 in
theorem rm0 (l : Launch) (Z : State) (a0 : Array Value) (hw : ∀ d ∈ tables_1, d.before a0 Z = true) (ws : List Jvm.Cond) (a : Int32) (b : Int32) (cc : Int32) (d : Int32) (ee : Int32) (q6 : Int64) (h0 : Heap) (n0 : Nat) (Z0 : n0 ≤ h0.size) :
    MetFree l x (head1 (Jvm.Cond.code x code maxLocals ret :: ws) room_1) (fun aα U => aα = #[(.int a), (.int b), (.int cc), (.int d), (.int ee), (.long q6)] ∧ Z.Warmed39 U.vm ∧ U.heap = h0) (fun _ _ _ _ _ => True) (fun _ U oα U' => ∃ vα Lα, oα = .returned vα ∧ Q0 Z a b cc d ee q6 h0 n0 vα U'.heap Lα ∧ FrameEnd U oα U' Lα room_1.cells room_1.slots) := by
  refine MetFree.of_bodySF (plainFor_of_name pn_1) hisR ?_
  intro p e s m args below meth c s₁ Bd hml0 hP hK
  refine own_wrap ?_
  intro GL hGL
  obtain ⟨rfl, hZ, hh⟩ := hP
  have hx := Bd.exec
  have hby := Bd.bytes
  have hml : c.maxLocals = 16 := hml0
  have hown : s.vm.findClass "com/example/cooldown/cooldown/policy/ShapeBytesPinLaw" = some m.cls := findClass_of_methodNamed Bd.named
  have hnm := (name_of_methodNamed Bd.named Bd.method).1
  have X0 : Stand p l e room_1 s m #[(.int a), (.int b), (.int cc), (.int d), (.int ee), (.long q6)] below meth c s₁ [] 0 0 := Stand.of_body Bd
  have e0 : s₁.heap = h0 := by rw [← hh, Bd.state]; rfl
  have N0 := Fr.nil n0
  have pre0 : ∀ τ, Steps p.tables e below (s₁.setTop (mkF m 0 #[.val (.int a), .val (.int b), .val (.int cc), .val (.int d), .val (.int ee), .val (.long q6), .second, .unset, .unset, .unset, .unset, .unset, .unset, .unset, .unset, .unset] [])) τ → Steps p.tables e below (s₁.setTop (entryFrame m #[(.int a), (.int b), (.int cc), (.int d), (.int ee), (.long q6)] maxLocals)) τ := fun τ κ => castTop (ef_0 m a b cc d ee q6) κ
  obtain ⟨G, hG, pre⟩ : ∃ G : State → Prop, (∀ τ, G τ → Steps p.tables e below (s₁.setTop (entryFrame m #[(.int a), (.int b), (.int cc), (.int d), (.int ee), (.long q6)] maxLocals)) τ) ∧ ∀ τ, Steps p.tables e below (s₁.setTop (mkF m 0 #[.val (.int a), .val (.int b), .val (.int cc), .val (.int d), .val (.int ee), .val (.long q6), .second, .unset, .unset, .unset, .unset, .unset, .unset, .unset, .unset, .unset] [])) τ → G τ := ⟨_, pre0, fun _ k => k⟩
  have Zn := Z0
  have pre : ∀ τ, Steps p.tables e below (s₁.setTop (mkF m 19 #[.val (.int a), .val (.int b), .val (.int cc), .val (.int d), .val (.int ee), .val (.long q6), .second, .val (.int (q6.toInt32)), .val (.int (((((q6.toUInt64 >>> ((32 : Int32) &&& 0x3f).toInt64.toUInt64).toInt64) &&& (2147483647 : Int64)).toInt32) % (3 : Int32))), .unset, .unset, .unset, .unset, .unset, .unset, .unset] [])) τ → G τ := fun τ κ => pre τ (by
    refine XS.lload X0.here hx rfl (hb hby at_0) rfl ?_
    show Steps p.tables e below (s₁.setTop (mkF m 2 #[.val (.int a), .val (.int b), .val (.int cc), .val (.int d), .val (.int ee), .val (.long q6), .second, .unset, .unset, .unset, .unset, .unset, .unset, .unset, .unset, .unset] [(.long q6)])) τ
    refine XS.l2i X0.here hx rfl (hb hby at_2) rfl ?_
    show Steps p.tables e below (s₁.setTop (mkF m 3 #[.val (.int a), .val (.int b), .val (.int cc), .val (.int d), .val (.int ee), .val (.long q6), .second, .unset, .unset, .unset, .unset, .unset, .unset, .unset, .unset, .unset] [(.int (q6.toInt32))])) τ
    refine XS.istore X0.here hx rfl (hb hby at_3) rfl (l' := #[.val (.int a), .val (.int b), .val (.int cc), .val (.int d), .val (.int ee), .val (.long q6), .second, .val (.int (q6.toInt32)), .unset, .unset, .unset, .unset, .unset, .unset, .unset, .unset]) rfl ?_
    show Steps p.tables e below (s₁.setTop (mkF m 5 #[.val (.int a), .val (.int b), .val (.int cc), .val (.int d), .val (.int ee), .val (.long q6), .second, .val (.int (q6.toInt32)), .unset, .unset, .unset, .unset, .unset, .unset, .unset, .unset] [])) τ
    refine XS.lload X0.here hx rfl (hb hby at_5) rfl ?_
    show Steps p.tables e below (s₁.setTop (mkF m 7 #[.val (.int a), .val (.int b), .val (.int cc), .val (.int d), .val (.int ee), .val (.long q6), .second, .val (.int (q6.toInt32)), .unset, .unset, .unset, .unset, .unset, .unset, .unset, .unset] [(.long q6)])) τ
    refine XS.bipush X0.here hx rfl (hb hby at_7) ?_
    show Steps p.tables e below (s₁.setTop (mkF m 9 #[.val (.int a), .val (.int b), .val (.int cc), .val (.int d), .val (.int ee), .val (.long q6), .second, .val (.int (q6.toInt32)), .unset, .unset, .unset, .unset, .unset, .unset, .unset, .unset] [(.int (32 : Int32)), (.long q6)])) τ
    refine XS.lushr X0.here hx rfl (hb hby at_9) rfl ?_
    show Steps p.tables e below (s₁.setTop (mkF m 10 #[.val (.int a), .val (.int b), .val (.int cc), .val (.int d), .val (.int ee), .val (.long q6), .second, .val (.int (q6.toInt32)), .unset, .unset, .unset, .unset, .unset, .unset, .unset, .unset] [(.long ((q6.toUInt64 >>> ((32 : Int32) &&& 0x3f).toInt64.toUInt64).toInt64))])) τ
    refine X0.ldc2Long hx hown (mvT hZ (hw _ (List.mem_of_getElem? (i := 0) rfl))) (g := (mkF m 10 #[.val (.int a), .val (.int b), .val (.int cc), .val (.int d), .val (.int ee), .val (.long q6), .second, .val (.int (q6.toInt32)), .unset, .unset, .unset, .unset, .unset, .unset, .unset, .unset] [(.long ((q6.toUInt64 >>> ((32 : Int32) &&& 0x3f).toInt64.toUInt64).toInt64))])) rfl (hb hby at_10) _ ?_
    show Steps p.tables e below (s₁.setTop (mkF m 13 #[.val (.int a), .val (.int b), .val (.int cc), .val (.int d), .val (.int ee), .val (.long q6), .second, .val (.int (q6.toInt32)), .unset, .unset, .unset, .unset, .unset, .unset, .unset, .unset] [(.long (2147483647 : Int64)), (.long ((q6.toUInt64 >>> ((32 : Int32) &&& 0x3f).toInt64.toUInt64).toInt64))])) τ
    refine XS.land X0.here hx rfl (hb hby at_13) rfl ?_
    show Steps p.tables e below (s₁.setTop (mkF m 14 #[.val (.int a), .val (.int b), .val (.int cc), .val (.int d), .val (.int ee), .val (.long q6), .second, .val (.int (q6.toInt32)), .unset, .unset, .unset, .unset, .unset, .unset, .unset, .unset] [(.long (((q6.toUInt64 >>> ((32 : Int32) &&& 0x3f).toInt64.toUInt64).toInt64) &&& (2147483647 : Int64)))])) τ
    refine XS.l2i X0.here hx rfl (hb hby at_14) rfl ?_
    show Steps p.tables e below (s₁.setTop (mkF m 15 #[.val (.int a), .val (.int b), .val (.int cc), .val (.int d), .val (.int ee), .val (.long q6), .second, .val (.int (q6.toInt32)), .unset, .unset, .unset, .unset, .unset, .unset, .unset, .unset] [(.int ((((q6.toUInt64 >>> ((32 : Int32) &&& 0x3f).toInt64.toUInt64).toInt64) &&& (2147483647 : Int64)).toInt32))])) τ
    refine XS.iconst X0.here hx rfl (hb hby at_15) ?_
    show Steps p.tables e below (s₁.setTop (mkF m 16 #[.val (.int a), .val (.int b), .val (.int cc), .val (.int d), .val (.int ee), .val (.long q6), .second, .val (.int (q6.toInt32)), .unset, .unset, .unset, .unset, .unset, .unset, .unset, .unset] [(.int (3 : Int32)), (.int ((((q6.toUInt64 >>> ((32 : Int32) &&& 0x3f).toInt64.toUInt64).toInt64) &&& (2147483647 : Int64)).toInt32))])) τ
    refine iremM X0 hx rfl (hb hby at_16) rfl (by decide) ?_
    show Steps p.tables e below (s₁.setTop (mkF m 17 #[.val (.int a), .val (.int b), .val (.int cc), .val (.int d), .val (.int ee), .val (.long q6), .second, .val (.int (q6.toInt32)), .unset, .unset, .unset, .unset, .unset, .unset, .unset, .unset] [(.int (((((q6.toUInt64 >>> ((32 : Int32) &&& 0x3f).toInt64.toUInt64).toInt64) &&& (2147483647 : Int64)).toInt32) % (3 : Int32)))])) τ
    refine XS.istore X0.here hx rfl (hb hby at_17) rfl (l' := #[.val (.int a), .val (.int b), .val (.int cc), .val (.int d), .val (.int ee), .val (.long q6), .second, .val (.int (q6.toInt32)), .val (.int (((((q6.toUInt64 >>> ((32 : Int32) &&& 0x3f).toInt64.toUInt64).toInt64) &&& (2147483647 : Int64)).toInt32) % (3 : Int32))), .unset, .unset, .unset, .unset, .unset, .unset, .unset]) rfl ?_
    show Steps p.tables e below (s₁.setTop (mkF m 19 #[.val (.int a), .val (.int b), .val (.int cc), .val (.int d), .val (.int ee), .val (.long q6), .second, .val (.int (q6.toInt32)), .val (.int (((((q6.toUInt64 >>> ((32 : Int32) &&& 0x3f).toInt64.toUInt64).toInt64) &&& (2147483647 : Int64)).toInt32) % (3 : Int32))), .unset, .unset, .unset, .unset, .unset, .unset, .unset] [])) τ
    exact κ)
  rcases own_k3 q6 with hk | hk | hk
  ·
    have pre : ∀ τ, Steps p.tables e below (s₁.setTop (mkF m 19 #[.val (.int a), .val (.int b), .val (.int cc), .val (.int d), .val (.int ee), .val (.long q6), .second, .val (.int (q6.toInt32)), .val (.int (0 : Int32)), .unset, .unset, .unset, .unset, .unset, .unset, .unset] [])) τ → G τ := (show (((((q6.toUInt64 >>> ((32 : Int32) &&& 0x3f).toInt64.toUInt64).toInt64) &&& (2147483647 : Int64)).toInt32) % (3 : Int32)) = (0 : Int32) from hk) ▸ pre
    obtain ⟨T1, h1, X1, e1, E1, A1, D1, -, st1⟩ := newO X0 hx hZ hown (hw _ (List.mem_of_getElem? (i := 1) rfl)) (hw _ (List.mem_of_getElem? (i := 2) rfl)) (hw _ (List.mem_of_getElem? (i := 3) rfl)) e0 (g := (mkF m 19 #[.val (.int a), .val (.int b), .val (.int cc), .val (.int d), .val (.int ee), .val (.long q6), .second, .val (.int (q6.toInt32)), .val (.int (0 : Int32)), .unset, .unset, .unset, .unset, .unset, .unset, .unset] [])) rfl (hb hby at_19) (by decide) (by decide)
    obtain ⟨b1, gg1⟩ : ∃ z, z = h0.size := ⟨_, rfl⟩
    rw [← gg1] at A1 D1 st1
    have g_b1 : n0 ≤ b1 := Nat.le_trans Zn (Nat.le_of_eq gg1.symm)
    have Zn : n0 ≤ h1.size := Nat.le_trans Zn E1.1
    have F_longs_b1 : Fld Z h1 b1 "com/example/cooldown/cooldown/policy/FieldColumn$Shape" "longs" "I" (.int (0 : Int32)) := D1 (Or.inr (hw _ (List.mem_of_getElem? (i := 11) rfl))) (ty := .int) (by decide)
    have F_ints_b1 : Fld Z h1 b1 "com/example/cooldown/cooldown/policy/FieldColumn$Shape" "ints" "I" (.int (0 : Int32)) := D1 (Or.inr (hw _ (List.mem_of_getElem? (i := 13) rfl))) (ty := .int) (by decide)
    have F_objects_b1 : Fld Z h1 b1 "com/example/cooldown/cooldown/policy/FieldColumn$Shape" "objects" "I" (.int (0 : Int32)) := D1 (Or.inr (hw _ (List.mem_of_getElem? (i := 15) rfl))) (ty := .int) (by decide)
    have E_b1 := A1
    have pre : ∀ τ, Steps p.tables e below (T1.setTop (mkF m 22 #[.val (.int a), .val (.int b), .val (.int cc), .val (.int d), .val (.int ee), .val (.long q6), .second, .val (.int (q6.toInt32)), .val (.int (0 : Int32)), .unset, .unset, .unset, .unset, .unset, .unset, .unset] [(.ref b1)])) τ → G τ := fun τ κ => pre τ (st1 τ κ)
    have pre : ∀ τ, Steps p.tables e below (T1.setTop (mkF m 26 #[.val (.int a), .val (.int b), .val (.int cc), .val (.int d), .val (.int ee), .val (.long q6), .second, .val (.int (q6.toInt32)), .val (.int (0 : Int32)), .unset, .unset, .unset, .unset, .unset, .unset, .unset] [(.int cc), (.int b), (.int a), (.ref b1), (.ref b1)])) τ → G τ := fun τ κ => pre τ (by
      refine XS.dup X1.here hx rfl (hb hby at_22) rfl rfl ?_
      show Steps p.tables e below (T1.setTop (mkF m 23 #[.val (.int a), .val (.int b), .val (.int cc), .val (.int d), .val (.int ee), .val (.long q6), .second, .val (.int (q6.toInt32)), .val (.int (0 : Int32)), .unset, .unset, .unset, .unset, .unset, .unset, .unset] [(.ref b1), (.ref b1)])) τ
      refine XS.iloadN X1.here hx rfl (hb hby at_23) rfl ?_
      show Steps p.tables e below (T1.setTop (mkF m 24 #[.val (.int a), .val (.int b), .val (.int cc), .val (.int d), .val (.int ee), .val (.long q6), .second, .val (.int (q6.toInt32)), .val (.int (0 : Int32)), .unset, .unset, .unset, .unset, .unset, .unset, .unset] [(.int a), (.ref b1), (.ref b1)])) τ
      refine XS.iloadN X1.here hx rfl (hb hby at_24) rfl ?_
      show Steps p.tables e below (T1.setTop (mkF m 25 #[.val (.int a), .val (.int b), .val (.int cc), .val (.int d), .val (.int ee), .val (.long q6), .second, .val (.int (q6.toInt32)), .val (.int (0 : Int32)), .unset, .unset, .unset, .unset, .unset, .unset, .unset] [(.int b), (.int a), (.ref b1), (.ref b1)])) τ
      refine XS.iloadN X1.here hx rfl (hb hby at_25) rfl ?_
      show Steps p.tables e below (T1.setTop (mkF m 26 #[.val (.int a), .val (.int b), .val (.int cc), .val (.int d), .val (.int ee), .val (.long q6), .second, .val (.int (q6.toInt32)), .val (.int (0 : Int32)), .unset, .unset, .unset, .unset, .unset, .unset, .unset] [(.int cc), (.int b), (.int a), (.ref b1), (.ref b1)])) τ
      exact κ)
    obtain ⟨_, _, ⟨T2, Lx2, kx2, nx2⟩, -, X2, ⟨Lc2, hQ2, l2, y2, z2⟩, st2⟩ := X1.specialBack hx (y := (⟨"com/example/cooldown/cooldown/policy/FieldColumn$Shape", "<init>", "(III)V"⟩ : MethodName)) rfl hown (mvT hZ (hw _ (List.mem_of_getElem? (i := 4) rfl))) (mvT hZ (hw _ (List.mem_of_getElem? (i := 5) rfl))) (mvT hZ (hw _ (List.mem_of_getElem? (i := 6) rfl))) (by decide) (backOf (W := 1) (rm1 l Z a0 hw [] b1 a b cc (.int (0 : Int32)) (.int (0 : Int32)) (.int (0 : Int32)) h1 n0 Zn g_b1 E_b1 F_longs_b1 F_ints_b1 F_objects_b1) hZ (hw _ (List.mem_of_getElem? (i := 6) rfl)) (hw _ (List.mem_of_getElem? (i := 3) rfl)) (by decide) (by decide)) (g := (mkF m 26 #[.val (.int a), .val (.int b), .val (.int cc), .val (.int d), .val (.int ee), .val (.long q6), .second, .val (.int (q6.toInt32)), .val (.int (0 : Int32)), .unset, .unset, .unset, .unset, .unset, .unset, .unset] [(.int cc), (.int b), (.int a), (.ref b1), (.ref b1)])) rfl (by rw [hml]; rfl) (Steps.refl _) (a := b1) (argsL := [(.int a), (.int b), (.int cc)]) (rest := [(.ref b1)]) (lenOf pd_0 rfl) rfl (by show 2 * 0 + _ ≤ _; exact Nat.le_of_eq rfl) (hb hby at_26) (fun _ _ => ⟨rfl, e1, (by decide : 1 + 0 ≤ _), (by decide : 3 + 0 ≤ _)⟩)
    dsimp only [Pt.U, Pt.locs, Pt.cells, Pt.slots] at X2 l2 y2 z2 st2 hQ2
    subst l2 y2 z2
    obtain ⟨rfl, Nq2, Kc2, E_o_2, F_longs_2, F_ints_2, F_objects_2⟩ := hQ2
    have NN := Fr.app N0 Nq2
    have E_b1 : Exa Z T2.heap b1 "com/example/cooldown/cooldown/policy/FieldColumn$Shape" := E_b1.keep Kc2
    have Zn : n0 ≤ T2.heap.size := Nat.le_trans Zn Kc2.1
    have pre : ∀ τ, Steps p.tables e below (T2.setTop (mkF m 29 #[.val (.int a), .val (.int b), .val (.int cc), .val (.int d), .val (.int ee), .val (.long q6), .second, .val (.int (q6.toInt32)), .val (.int (0 : Int32)), .unset, .unset, .unset, .unset, .unset, .unset, .unset] [(.ref b1)])) τ → G τ := fun τ κ => pre τ (st2.trans κ)
    have pre : ∀ τ, Steps p.tables e below (T2.setTop (mkF m 31 #[.val (.int a), .val (.int b), .val (.int cc), .val (.int d), .val (.int ee), .val (.long q6), .second, .val (.int (q6.toInt32)), .val (.int (0 : Int32)), .val (.ref b1), .unset, .unset, .unset, .unset, .unset, .unset] [])) τ → G τ := fun τ κ => pre τ (by
      refine XS.astore X2.here hx rfl (hb hby at_29) rfl rfl (l' := #[.val (.int a), .val (.int b), .val (.int cc), .val (.int d), .val (.int ee), .val (.long q6), .second, .val (.int (q6.toInt32)), .val (.int (0 : Int32)), .val (.ref b1), .unset, .unset, .unset, .unset, .unset, .unset]) rfl ?_
      show Steps p.tables e below (T2.setTop (mkF m 31 #[.val (.int a), .val (.int b), .val (.int cc), .val (.int d), .val (.int ee), .val (.long q6), .second, .val (.int (q6.toInt32)), .val (.int (0 : Int32)), .val (.ref b1), .unset, .unset, .unset, .unset, .unset, .unset] [])) τ
      exact κ)
    obtain ⟨T3, h3, X3, e3, E3, A3, D3, -, st3⟩ := newO X2 hx hZ hown (hw _ (List.mem_of_getElem? (i := 1) rfl)) (hw _ (List.mem_of_getElem? (i := 2) rfl)) (hw _ (List.mem_of_getElem? (i := 3) rfl)) rfl (g := (mkF m 31 #[.val (.int a), .val (.int b), .val (.int cc), .val (.int d), .val (.int ee), .val (.long q6), .second, .val (.int (q6.toInt32)), .val (.int (0 : Int32)), .val (.ref b1), .unset, .unset, .unset, .unset, .unset, .unset] [])) rfl (hb hby at_31) (by decide) (by decide)
    obtain ⟨b3, gg3⟩ : ∃ z, z = T2.heap.size := ⟨_, rfl⟩
    rw [← gg3] at A3 D3 st3
    have ne_b1_b3 : b1 ≠ b3 := Nat.ne_of_lt (Nat.lt_of_lt_of_le E_b1.lt (Nat.le_of_eq gg3.symm))
    have g_b3 : n0 ≤ b3 := Nat.le_trans Zn (Nat.le_of_eq gg3.symm)
    have E_b1 : Exa Z h3 b1 "com/example/cooldown/cooldown/policy/FieldColumn$Shape" := E_b1.ext E3
    have E_o_2 : Exa Z h3 b1 "com/example/cooldown/cooldown/policy/FieldColumn$Shape" := E_o_2.ext E3
    have F_longs_2 : Fld Z h3 b1 "com/example/cooldown/cooldown/policy/FieldColumn$Shape" "longs" "I" (.int a) := F_longs_2.ext E3
    have F_ints_2 : Fld Z h3 b1 "com/example/cooldown/cooldown/policy/FieldColumn$Shape" "ints" "I" (.int b) := F_ints_2.ext E3
    have F_objects_2 : Fld Z h3 b1 "com/example/cooldown/cooldown/policy/FieldColumn$Shape" "objects" "I" (.int cc) := F_objects_2.ext E3
    have Zn : n0 ≤ h3.size := Nat.le_trans Zn E3.1
    have F_longs_b3 : Fld Z h3 b3 "com/example/cooldown/cooldown/policy/FieldColumn$Shape" "longs" "I" (.int (0 : Int32)) := D3 (Or.inr (hw _ (List.mem_of_getElem? (i := 11) rfl))) (ty := .int) (by decide)
    have F_ints_b3 : Fld Z h3 b3 "com/example/cooldown/cooldown/policy/FieldColumn$Shape" "ints" "I" (.int (0 : Int32)) := D3 (Or.inr (hw _ (List.mem_of_getElem? (i := 13) rfl))) (ty := .int) (by decide)
    have F_objects_b3 : Fld Z h3 b3 "com/example/cooldown/cooldown/policy/FieldColumn$Shape" "objects" "I" (.int (0 : Int32)) := D3 (Or.inr (hw _ (List.mem_of_getElem? (i := 15) rfl))) (ty := .int) (by decide)
    have E_b3 := A3
    have pre : ∀ τ, Steps p.tables e below (T3.setTop (mkF m 34 #[.val (.int a), .val (.int b), .val (.int cc), .val (.int d), .val (.int ee), .val (.long q6), .second, .val (.int (q6.toInt32)), .val (.int (0 : Int32)), .val (.ref b1), .unset, .unset, .unset, .unset, .unset, .unset] [(.ref b3)])) τ → G τ := fun τ κ => pre τ (st3 τ κ)
    have pre : ∀ τ, Steps p.tables e below (T3.setTop (mkF m 40 #[.val (.int a), .val (.int b), .val (.int cc), .val (.int d), .val (.int ee), .val (.long q6), .second, .val (.int (q6.toInt32)), .val (.int (0 : Int32)), .val (.ref b1), .unset, .unset, .unset, .unset, .unset, .unset] [(.int (q6.toInt32)), (.int ee), (.int d), (.ref b3), (.ref b3)])) τ → G τ := fun τ κ => pre τ (by
      refine XS.dup X3.here hx rfl (hb hby at_34) rfl rfl ?_
      show Steps p.tables e below (T3.setTop (mkF m 35 #[.val (.int a), .val (.int b), .val (.int cc), .val (.int d), .val (.int ee), .val (.long q6), .second, .val (.int (q6.toInt32)), .val (.int (0 : Int32)), .val (.ref b1), .unset, .unset, .unset, .unset, .unset, .unset] [(.ref b3), (.ref b3)])) τ
      refine XS.iloadN X3.here hx rfl (hb hby at_35) rfl ?_
      show Steps p.tables e below (T3.setTop (mkF m 36 #[.val (.int a), .val (.int b), .val (.int cc), .val (.int d), .val (.int ee), .val (.long q6), .second, .val (.int (q6.toInt32)), .val (.int (0 : Int32)), .val (.ref b1), .unset, .unset, .unset, .unset, .unset, .unset] [(.int d), (.ref b3), (.ref b3)])) τ
      refine XS.iload X3.here hx rfl (hb hby at_36) rfl ?_
      show Steps p.tables e below (T3.setTop (mkF m 38 #[.val (.int a), .val (.int b), .val (.int cc), .val (.int d), .val (.int ee), .val (.long q6), .second, .val (.int (q6.toInt32)), .val (.int (0 : Int32)), .val (.ref b1), .unset, .unset, .unset, .unset, .unset, .unset] [(.int ee), (.int d), (.ref b3), (.ref b3)])) τ
      refine XS.iload X3.here hx rfl (hb hby at_38) rfl ?_
      show Steps p.tables e below (T3.setTop (mkF m 40 #[.val (.int a), .val (.int b), .val (.int cc), .val (.int d), .val (.int ee), .val (.long q6), .second, .val (.int (q6.toInt32)), .val (.int (0 : Int32)), .val (.ref b1), .unset, .unset, .unset, .unset, .unset, .unset] [(.int (q6.toInt32)), (.int ee), (.int d), (.ref b3), (.ref b3)])) τ
      exact κ)
    obtain ⟨_, _, ⟨T4, Lx4, kx4, nx4⟩, -, X4, ⟨Lc4, hQ4, l4, y4, z4⟩, st4⟩ := X3.specialBack hx (y := (⟨"com/example/cooldown/cooldown/policy/FieldColumn$Shape", "<init>", "(III)V"⟩ : MethodName)) rfl hown (mvT hZ (hw _ (List.mem_of_getElem? (i := 4) rfl))) (mvT hZ (hw _ (List.mem_of_getElem? (i := 5) rfl))) (mvT hZ (hw _ (List.mem_of_getElem? (i := 6) rfl))) (by decide) (backOf (W := 1) (rm1 l Z a0 hw [] b3 d ee (q6.toInt32) (.int (0 : Int32)) (.int (0 : Int32)) (.int (0 : Int32)) h3 n0 Zn g_b3 E_b3 F_longs_b3 F_ints_b3 F_objects_b3) hZ (hw _ (List.mem_of_getElem? (i := 6) rfl)) (hw _ (List.mem_of_getElem? (i := 3) rfl)) (by decide) (by decide)) (g := (mkF m 40 #[.val (.int a), .val (.int b), .val (.int cc), .val (.int d), .val (.int ee), .val (.long q6), .second, .val (.int (q6.toInt32)), .val (.int (0 : Int32)), .val (.ref b1), .unset, .unset, .unset, .unset, .unset, .unset] [(.int (q6.toInt32)), (.int ee), (.int d), (.ref b3), (.ref b3)])) rfl (by rw [hml]; rfl) (Steps.refl _) (a := b3) (argsL := [(.int d), (.int ee), (.int (q6.toInt32))]) (rest := [(.ref b3)]) (lenOf pd_0 rfl) rfl (by show 2 * 0 + _ ≤ _; exact Nat.le_of_eq rfl) (hb hby at_40) (fun _ _ => ⟨rfl, e3, (by decide : 2 + 0 ≤ _), (by decide : 6 + 0 ≤ _)⟩)
    dsimp only [Pt.U, Pt.locs, Pt.cells, Pt.slots] at X4 l4 y4 z4 st4 hQ4
    subst l4 y4 z4
    obtain ⟨rfl, Nq4, Kc4, E_o_4, F_longs_4, F_ints_4, F_objects_4⟩ := hQ4
    have NN := Fr.app NN Nq4
    have E_b1 : Exa Z T4.heap b1 "com/example/cooldown/cooldown/policy/FieldColumn$Shape" := E_b1.keep Kc4
    have E_o_2 : Exa Z T4.heap b1 "com/example/cooldown/cooldown/policy/FieldColumn$Shape" := E_o_2.keep Kc4
    have F_longs_2 : Fld Z T4.heap b1 "com/example/cooldown/cooldown/policy/FieldColumn$Shape" "longs" "I" (.int a) := F_longs_2.keep Kc4 (ninS ne_b1_b3 nin0)
    have F_ints_2 : Fld Z T4.heap b1 "com/example/cooldown/cooldown/policy/FieldColumn$Shape" "ints" "I" (.int b) := F_ints_2.keep Kc4 (ninS ne_b1_b3 nin0)
    have F_objects_2 : Fld Z T4.heap b1 "com/example/cooldown/cooldown/policy/FieldColumn$Shape" "objects" "I" (.int cc) := F_objects_2.keep Kc4 (ninS ne_b1_b3 nin0)
    have E_b3 : Exa Z T4.heap b3 "com/example/cooldown/cooldown/policy/FieldColumn$Shape" := E_b3.keep Kc4
    have Zn : n0 ≤ T4.heap.size := Nat.le_trans Zn Kc4.1
    have pre : ∀ τ, Steps p.tables e below (T4.setTop (mkF m 43 #[.val (.int a), .val (.int b), .val (.int cc), .val (.int d), .val (.int ee), .val (.long q6), .second, .val (.int (q6.toInt32)), .val (.int (0 : Int32)), .val (.ref b1), .unset, .unset, .unset, .unset, .unset, .unset] [(.ref b3)])) τ → G τ := fun τ κ => pre τ (st4.trans κ)
    have pre : ∀ τ, Steps p.tables e below (T4.setTop (mkF m 45 #[.val (.int a), .val (.int b), .val (.int cc), .val (.int d), .val (.int ee), .val (.long q6), .second, .val (.int (q6.toInt32)), .val (.int (0 : Int32)), .val (.ref b1), .val (.ref b3), .unset, .unset, .unset, .unset, .unset] [])) τ → G τ := fun τ κ => pre τ (by
      refine XS.astore X4.here hx rfl (hb hby at_43) rfl rfl (l' := #[.val (.int a), .val (.int b), .val (.int cc), .val (.int d), .val (.int ee), .val (.long q6), .second, .val (.int (q6.toInt32)), .val (.int (0 : Int32)), .val (.ref b1), .val (.ref b3), .unset, .unset, .unset, .unset, .unset]) rfl ?_
      show Steps p.tables e below (T4.setTop (mkF m 45 #[.val (.int a), .val (.int b), .val (.int cc), .val (.int d), .val (.int ee), .val (.long q6), .second, .val (.int (q6.toInt32)), .val (.int (0 : Int32)), .val (.ref b1), .val (.ref b3), .unset, .unset, .unset, .unset, .unset] [])) τ
      exact κ)
    obtain ⟨T5, h5, X5, e5, E5, A5, D5, -, st5⟩ := newO X4 hx hZ hown (hw _ (List.mem_of_getElem? (i := 1) rfl)) (hw _ (List.mem_of_getElem? (i := 2) rfl)) (hw _ (List.mem_of_getElem? (i := 3) rfl)) rfl (g := (mkF m 45 #[.val (.int a), .val (.int b), .val (.int cc), .val (.int d), .val (.int ee), .val (.long q6), .second, .val (.int (q6.toInt32)), .val (.int (0 : Int32)), .val (.ref b1), .val (.ref b3), .unset, .unset, .unset, .unset, .unset] [])) rfl (hb hby at_45) (by decide) (by decide)
    obtain ⟨b5, gg5⟩ : ∃ z, z = T4.heap.size := ⟨_, rfl⟩
    rw [← gg5] at A5 D5 st5
    have ne_b1_b5 : b1 ≠ b5 := Nat.ne_of_lt (Nat.lt_of_lt_of_le E_b1.lt (Nat.le_of_eq gg5.symm))
    have ne_b3_b5 : b3 ≠ b5 := Nat.ne_of_lt (Nat.lt_of_lt_of_le E_b3.lt (Nat.le_of_eq gg5.symm))
    have g_b5 : n0 ≤ b5 := Nat.le_trans Zn (Nat.le_of_eq gg5.symm)
    have E_b1 : Exa Z h5 b1 "com/example/cooldown/cooldown/policy/FieldColumn$Shape" := E_b1.ext E5
    have E_o_2 : Exa Z h5 b1 "com/example/cooldown/cooldown/policy/FieldColumn$Shape" := E_o_2.ext E5
    have F_longs_2 : Fld Z h5 b1 "com/example/cooldown/cooldown/policy/FieldColumn$Shape" "longs" "I" (.int a) := F_longs_2.ext E5
    have F_ints_2 : Fld Z h5 b1 "com/example/cooldown/cooldown/policy/FieldColumn$Shape" "ints" "I" (.int b) := F_ints_2.ext E5
    have F_objects_2 : Fld Z h5 b1 "com/example/cooldown/cooldown/policy/FieldColumn$Shape" "objects" "I" (.int cc) := F_objects_2.ext E5
    have E_b3 : Exa Z h5 b3 "com/example/cooldown/cooldown/policy/FieldColumn$Shape" := E_b3.ext E5
    have E_o_4 : Exa Z h5 b3 "com/example/cooldown/cooldown/policy/FieldColumn$Shape" := E_o_4.ext E5
    have F_longs_4 : Fld Z h5 b3 "com/example/cooldown/cooldown/policy/FieldColumn$Shape" "longs" "I" (.int d) := F_longs_4.ext E5
    have F_ints_4 : Fld Z h5 b3 "com/example/cooldown/cooldown/policy/FieldColumn$Shape" "ints" "I" (.int ee) := F_ints_4.ext E5
    have F_objects_4 : Fld Z h5 b3 "com/example/cooldown/cooldown/policy/FieldColumn$Shape" "objects" "I" (.int (q6.toInt32)) := F_objects_4.ext E5
    have Zn : n0 ≤ h5.size := Nat.le_trans Zn E5.1
    have F_longs_b5 : Fld Z h5 b5 "com/example/cooldown/cooldown/policy/FieldColumn$Shape" "longs" "I" (.int (0 : Int32)) := D5 (Or.inr (hw _ (List.mem_of_getElem? (i := 11) rfl))) (ty := .int) (by decide)
    have F_ints_b5 : Fld Z h5 b5 "com/example/cooldown/cooldown/policy/FieldColumn$Shape" "ints" "I" (.int (0 : Int32)) := D5 (Or.inr (hw _ (List.mem_of_getElem? (i := 13) rfl))) (ty := .int) (by decide)
    have F_objects_b5 : Fld Z h5 b5 "com/example/cooldown/cooldown/policy/FieldColumn$Shape" "objects" "I" (.int (0 : Int32)) := D5 (Or.inr (hw _ (List.mem_of_getElem? (i := 15) rfl))) (ty := .int) (by decide)
    have E_b5 := A5
    have pre : ∀ τ, Steps p.tables e below (T5.setTop (mkF m 48 #[.val (.int a), .val (.int b), .val (.int cc), .val (.int d), .val (.int ee), .val (.long q6), .second, .val (.int (q6.toInt32)), .val (.int (0 : Int32)), .val (.ref b1), .val (.ref b3), .unset, .unset, .unset, .unset, .unset] [(.ref b5)])) τ → G τ := fun τ κ => pre τ (st5 τ κ)
    have pre : ∀ τ, Steps p.tables e below (T5.setTop (mkF m 60 #[.val (.int a), .val (.int b), .val (.int cc), .val (.int d), .val (.int ee), .val (.long q6), .second, .val (.int (q6.toInt32)), .val (.int (0 : Int32)), .val (.ref b1), .val (.ref b3), .unset, .unset, .unset, .unset, .unset] [(.int (cc + (q6.toInt32))), (.int (b + ee)), (.int (a + d)), (.ref b5), (.ref b5)])) τ → G τ := fun τ κ => pre τ (by
      refine XS.dup X5.here hx rfl (hb hby at_48) rfl rfl ?_
      show Steps p.tables e below (T5.setTop (mkF m 49 #[.val (.int a), .val (.int b), .val (.int cc), .val (.int d), .val (.int ee), .val (.long q6), .second, .val (.int (q6.toInt32)), .val (.int (0 : Int32)), .val (.ref b1), .val (.ref b3), .unset, .unset, .unset, .unset, .unset] [(.ref b5), (.ref b5)])) τ
      refine XS.iloadN X5.here hx rfl (hb hby at_49) rfl ?_
      show Steps p.tables e below (T5.setTop (mkF m 50 #[.val (.int a), .val (.int b), .val (.int cc), .val (.int d), .val (.int ee), .val (.long q6), .second, .val (.int (q6.toInt32)), .val (.int (0 : Int32)), .val (.ref b1), .val (.ref b3), .unset, .unset, .unset, .unset, .unset] [(.int a), (.ref b5), (.ref b5)])) τ
      refine XS.iloadN X5.here hx rfl (hb hby at_50) rfl ?_
      show Steps p.tables e below (T5.setTop (mkF m 51 #[.val (.int a), .val (.int b), .val (.int cc), .val (.int d), .val (.int ee), .val (.long q6), .second, .val (.int (q6.toInt32)), .val (.int (0 : Int32)), .val (.ref b1), .val (.ref b3), .unset, .unset, .unset, .unset, .unset] [(.int d), (.int a), (.ref b5), (.ref b5)])) τ
      refine XS.iadd X5.here hx rfl (hb hby at_51) rfl ?_
      show Steps p.tables e below (T5.setTop (mkF m 52 #[.val (.int a), .val (.int b), .val (.int cc), .val (.int d), .val (.int ee), .val (.long q6), .second, .val (.int (q6.toInt32)), .val (.int (0 : Int32)), .val (.ref b1), .val (.ref b3), .unset, .unset, .unset, .unset, .unset] [(.int (a + d)), (.ref b5), (.ref b5)])) τ
      refine XS.iloadN X5.here hx rfl (hb hby at_52) rfl ?_
      show Steps p.tables e below (T5.setTop (mkF m 53 #[.val (.int a), .val (.int b), .val (.int cc), .val (.int d), .val (.int ee), .val (.long q6), .second, .val (.int (q6.toInt32)), .val (.int (0 : Int32)), .val (.ref b1), .val (.ref b3), .unset, .unset, .unset, .unset, .unset] [(.int b), (.int (a + d)), (.ref b5), (.ref b5)])) τ
      refine XS.iload X5.here hx rfl (hb hby at_53) rfl ?_
      show Steps p.tables e below (T5.setTop (mkF m 55 #[.val (.int a), .val (.int b), .val (.int cc), .val (.int d), .val (.int ee), .val (.long q6), .second, .val (.int (q6.toInt32)), .val (.int (0 : Int32)), .val (.ref b1), .val (.ref b3), .unset, .unset, .unset, .unset, .unset] [(.int ee), (.int b), (.int (a + d)), (.ref b5), (.ref b5)])) τ
      refine XS.iadd X5.here hx rfl (hb hby at_55) rfl ?_
      show Steps p.tables e below (T5.setTop (mkF m 56 #[.val (.int a), .val (.int b), .val (.int cc), .val (.int d), .val (.int ee), .val (.long q6), .second, .val (.int (q6.toInt32)), .val (.int (0 : Int32)), .val (.ref b1), .val (.ref b3), .unset, .unset, .unset, .unset, .unset] [(.int (b + ee)), (.int (a + d)), (.ref b5), (.ref b5)])) τ
      refine XS.iloadN X5.here hx rfl (hb hby at_56) rfl ?_
      show Steps p.tables e below (T5.setTop (mkF m 57 #[.val (.int a), .val (.int b), .val (.int cc), .val (.int d), .val (.int ee), .val (.long q6), .second, .val (.int (q6.toInt32)), .val (.int (0 : Int32)), .val (.ref b1), .val (.ref b3), .unset, .unset, .unset, .unset, .unset] [(.int cc), (.int (b + ee)), (.int (a + d)), (.ref b5), (.ref b5)])) τ
      refine XS.iload X5.here hx rfl (hb hby at_57) rfl ?_
      show Steps p.tables e below (T5.setTop (mkF m 59 #[.val (.int a), .val (.int b), .val (.int cc), .val (.int d), .val (.int ee), .val (.long q6), .second, .val (.int (q6.toInt32)), .val (.int (0 : Int32)), .val (.ref b1), .val (.ref b3), .unset, .unset, .unset, .unset, .unset] [(.int (q6.toInt32)), (.int cc), (.int (b + ee)), (.int (a + d)), (.ref b5), (.ref b5)])) τ
      refine XS.iadd X5.here hx rfl (hb hby at_59) rfl ?_
      show Steps p.tables e below (T5.setTop (mkF m 60 #[.val (.int a), .val (.int b), .val (.int cc), .val (.int d), .val (.int ee), .val (.long q6), .second, .val (.int (q6.toInt32)), .val (.int (0 : Int32)), .val (.ref b1), .val (.ref b3), .unset, .unset, .unset, .unset, .unset] [(.int (cc + (q6.toInt32))), (.int (b + ee)), (.int (a + d)), (.ref b5), (.ref b5)])) τ
      exact κ)
    obtain ⟨_, _, ⟨T6, Lx6, kx6, nx6⟩, -, X6, ⟨Lc6, hQ6, l6, y6, z6⟩, st6⟩ := X5.specialBack hx (y := (⟨"com/example/cooldown/cooldown/policy/FieldColumn$Shape", "<init>", "(III)V"⟩ : MethodName)) rfl hown (mvT hZ (hw _ (List.mem_of_getElem? (i := 4) rfl))) (mvT hZ (hw _ (List.mem_of_getElem? (i := 5) rfl))) (mvT hZ (hw _ (List.mem_of_getElem? (i := 6) rfl))) (by decide) (backOf (W := 1) (rm1 l Z a0 hw [] b5 (a + d) (b + ee) (cc + (q6.toInt32)) (.int (0 : Int32)) (.int (0 : Int32)) (.int (0 : Int32)) h5 n0 Zn g_b5 E_b5 F_longs_b5 F_ints_b5 F_objects_b5) hZ (hw _ (List.mem_of_getElem? (i := 6) rfl)) (hw _ (List.mem_of_getElem? (i := 3) rfl)) (by decide) (by decide)) (g := (mkF m 60 #[.val (.int a), .val (.int b), .val (.int cc), .val (.int d), .val (.int ee), .val (.long q6), .second, .val (.int (q6.toInt32)), .val (.int (0 : Int32)), .val (.ref b1), .val (.ref b3), .unset, .unset, .unset, .unset, .unset] [(.int (cc + (q6.toInt32))), (.int (b + ee)), (.int (a + d)), (.ref b5), (.ref b5)])) rfl (by rw [hml]; rfl) (Steps.refl _) (a := b5) (argsL := [(.int (a + d)), (.int (b + ee)), (.int (cc + (q6.toInt32)))]) (rest := [(.ref b5)]) (lenOf pd_0 rfl) rfl (by show 2 * 0 + _ ≤ _; exact Nat.le_of_eq rfl) (hb hby at_60) (fun _ _ => ⟨rfl, e5, (by decide : 3 + 0 ≤ _), (by decide : 9 + 0 ≤ _)⟩)
    dsimp only [Pt.U, Pt.locs, Pt.cells, Pt.slots] at X6 l6 y6 z6 st6 hQ6
    subst l6 y6 z6
    obtain ⟨rfl, Nq6, Kc6, E_o_6, F_longs_6, F_ints_6, F_objects_6⟩ := hQ6
    have NN := Fr.app NN Nq6
    have E_b1 : Exa Z T6.heap b1 "com/example/cooldown/cooldown/policy/FieldColumn$Shape" := E_b1.keep Kc6
    have E_o_2 : Exa Z T6.heap b1 "com/example/cooldown/cooldown/policy/FieldColumn$Shape" := E_o_2.keep Kc6
    have F_longs_2 : Fld Z T6.heap b1 "com/example/cooldown/cooldown/policy/FieldColumn$Shape" "longs" "I" (.int a) := F_longs_2.keep Kc6 (ninS ne_b1_b5 nin0)
    have F_ints_2 : Fld Z T6.heap b1 "com/example/cooldown/cooldown/policy/FieldColumn$Shape" "ints" "I" (.int b) := F_ints_2.keep Kc6 (ninS ne_b1_b5 nin0)
    have F_objects_2 : Fld Z T6.heap b1 "com/example/cooldown/cooldown/policy/FieldColumn$Shape" "objects" "I" (.int cc) := F_objects_2.keep Kc6 (ninS ne_b1_b5 nin0)
    have E_b3 : Exa Z T6.heap b3 "com/example/cooldown/cooldown/policy/FieldColumn$Shape" := E_b3.keep Kc6
    have E_o_4 : Exa Z T6.heap b3 "com/example/cooldown/cooldown/policy/FieldColumn$Shape" := E_o_4.keep Kc6
    have F_longs_4 : Fld Z T6.heap b3 "com/example/cooldown/cooldown/policy/FieldColumn$Shape" "longs" "I" (.int d) := F_longs_4.keep Kc6 (ninS ne_b3_b5 nin0)
    have F_ints_4 : Fld Z T6.heap b3 "com/example/cooldown/cooldown/policy/FieldColumn$Shape" "ints" "I" (.int ee) := F_ints_4.keep Kc6 (ninS ne_b3_b5 nin0)
    have F_objects_4 : Fld Z T6.heap b3 "com/example/cooldown/cooldown/policy/FieldColumn$Shape" "objects" "I" (.int (q6.toInt32)) := F_objects_4.keep Kc6 (ninS ne_b3_b5 nin0)
    have E_b5 : Exa Z T6.heap b5 "com/example/cooldown/cooldown/policy/FieldColumn$Shape" := E_b5.keep Kc6
    have Zn : n0 ≤ T6.heap.size := Nat.le_trans Zn Kc6.1
    have pre : ∀ τ, Steps p.tables e below (T6.setTop (mkF m 63 #[.val (.int a), .val (.int b), .val (.int cc), .val (.int d), .val (.int ee), .val (.long q6), .second, .val (.int (q6.toInt32)), .val (.int (0 : Int32)), .val (.ref b1), .val (.ref b3), .unset, .unset, .unset, .unset, .unset] [(.ref b5)])) τ → G τ := fun τ κ => pre τ (st6.trans κ)
    have pre : ∀ τ, Steps p.tables e below (T6.setTop (mkF m 65 #[.val (.int a), .val (.int b), .val (.int cc), .val (.int d), .val (.int ee), .val (.long q6), .second, .val (.int (q6.toInt32)), .val (.int (0 : Int32)), .val (.ref b1), .val (.ref b3), .val (.ref b5), .unset, .unset, .unset, .unset] [])) τ → G τ := fun τ κ => pre τ (by
      refine XS.astore X6.here hx rfl (hb hby at_63) rfl rfl (l' := #[.val (.int a), .val (.int b), .val (.int cc), .val (.int d), .val (.int ee), .val (.long q6), .second, .val (.int (q6.toInt32)), .val (.int (0 : Int32)), .val (.ref b1), .val (.ref b3), .val (.ref b5), .unset, .unset, .unset, .unset]) rfl ?_
      show Steps p.tables e below (T6.setTop (mkF m 65 #[.val (.int a), .val (.int b), .val (.int cc), .val (.int d), .val (.int ee), .val (.long q6), .second, .val (.int (q6.toInt32)), .val (.int (0 : Int32)), .val (.ref b1), .val (.ref b3), .val (.ref b5), .unset, .unset, .unset, .unset] [])) τ
      exact κ)
    obtain ⟨T7, h7, X7, e7, E7, A7, D7, -, st7⟩ := newO X6 hx hZ hown (hw _ (List.mem_of_getElem? (i := 1) rfl)) (hw _ (List.mem_of_getElem? (i := 2) rfl)) (hw _ (List.mem_of_getElem? (i := 3) rfl)) rfl (g := (mkF m 65 #[.val (.int a), .val (.int b), .val (.int cc), .val (.int d), .val (.int ee), .val (.long q6), .second, .val (.int (q6.toInt32)), .val (.int (0 : Int32)), .val (.ref b1), .val (.ref b3), .val (.ref b5), .unset, .unset, .unset, .unset] [])) rfl (hb hby at_65) (by decide) (by decide)
    obtain ⟨b7, gg7⟩ : ∃ z, z = T6.heap.size := ⟨_, rfl⟩
    rw [← gg7] at A7 D7 st7
    have ne_b1_b7 : b1 ≠ b7 := Nat.ne_of_lt (Nat.lt_of_lt_of_le E_b1.lt (Nat.le_of_eq gg7.symm))
    have ne_b3_b7 : b3 ≠ b7 := Nat.ne_of_lt (Nat.lt_of_lt_of_le E_b3.lt (Nat.le_of_eq gg7.symm))
    have ne_b5_b7 : b5 ≠ b7 := Nat.ne_of_lt (Nat.lt_of_lt_of_le E_b5.lt (Nat.le_of_eq gg7.symm))
    have g_b7 : n0 ≤ b7 := Nat.le_trans Zn (Nat.le_of_eq gg7.symm)
    have E_b1 : Exa Z h7 b1 "com/example/cooldown/cooldown/policy/FieldColumn$Shape" := E_b1.ext E7
    have E_o_2 : Exa Z h7 b1 "com/example/cooldown/cooldown/policy/FieldColumn$Shape" := E_o_2.ext E7
    have F_longs_2 : Fld Z h7 b1 "com/example/cooldown/cooldown/policy/FieldColumn$Shape" "longs" "I" (.int a) := F_longs_2.ext E7
    have F_ints_2 : Fld Z h7 b1 "com/example/cooldown/cooldown/policy/FieldColumn$Shape" "ints" "I" (.int b) := F_ints_2.ext E7
    have F_objects_2 : Fld Z h7 b1 "com/example/cooldown/cooldown/policy/FieldColumn$Shape" "objects" "I" (.int cc) := F_objects_2.ext E7
    have E_b3 : Exa Z h7 b3 "com/example/cooldown/cooldown/policy/FieldColumn$Shape" := E_b3.ext E7
    have E_o_4 : Exa Z h7 b3 "com/example/cooldown/cooldown/policy/FieldColumn$Shape" := E_o_4.ext E7
    have F_longs_4 : Fld Z h7 b3 "com/example/cooldown/cooldown/policy/FieldColumn$Shape" "longs" "I" (.int d) := F_longs_4.ext E7
    have F_ints_4 : Fld Z h7 b3 "com/example/cooldown/cooldown/policy/FieldColumn$Shape" "ints" "I" (.int ee) := F_ints_4.ext E7
    have F_objects_4 : Fld Z h7 b3 "com/example/cooldown/cooldown/policy/FieldColumn$Shape" "objects" "I" (.int (q6.toInt32)) := F_objects_4.ext E7
    have E_b5 : Exa Z h7 b5 "com/example/cooldown/cooldown/policy/FieldColumn$Shape" := E_b5.ext E7
    have E_o_6 : Exa Z h7 b5 "com/example/cooldown/cooldown/policy/FieldColumn$Shape" := E_o_6.ext E7
    have F_longs_6 : Fld Z h7 b5 "com/example/cooldown/cooldown/policy/FieldColumn$Shape" "longs" "I" (.int (a + d)) := F_longs_6.ext E7
    have F_ints_6 : Fld Z h7 b5 "com/example/cooldown/cooldown/policy/FieldColumn$Shape" "ints" "I" (.int (b + ee)) := F_ints_6.ext E7
    have F_objects_6 : Fld Z h7 b5 "com/example/cooldown/cooldown/policy/FieldColumn$Shape" "objects" "I" (.int (cc + (q6.toInt32))) := F_objects_6.ext E7
    have Zn : n0 ≤ h7.size := Nat.le_trans Zn E7.1
    have F_longs_b7 : Fld Z h7 b7 "com/example/cooldown/cooldown/policy/FieldColumn$Shape" "longs" "I" (.int (0 : Int32)) := D7 (Or.inr (hw _ (List.mem_of_getElem? (i := 11) rfl))) (ty := .int) (by decide)
    have F_ints_b7 : Fld Z h7 b7 "com/example/cooldown/cooldown/policy/FieldColumn$Shape" "ints" "I" (.int (0 : Int32)) := D7 (Or.inr (hw _ (List.mem_of_getElem? (i := 13) rfl))) (ty := .int) (by decide)
    have F_objects_b7 : Fld Z h7 b7 "com/example/cooldown/cooldown/policy/FieldColumn$Shape" "objects" "I" (.int (0 : Int32)) := D7 (Or.inr (hw _ (List.mem_of_getElem? (i := 15) rfl))) (ty := .int) (by decide)
    have E_b7 := A7
    have pre : ∀ τ, Steps p.tables e below (T7.setTop (mkF m 68 #[.val (.int a), .val (.int b), .val (.int cc), .val (.int d), .val (.int ee), .val (.long q6), .second, .val (.int (q6.toInt32)), .val (.int (0 : Int32)), .val (.ref b1), .val (.ref b3), .val (.ref b5), .unset, .unset, .unset, .unset] [(.ref b7)])) τ → G τ := fun τ κ => pre τ (st7 τ κ)
    have pre : ∀ τ, Steps p.tables e below (T7.setTop (mkF m 71 #[.val (.int a), .val (.int b), .val (.int cc), .val (.int d), .val (.int ee), .val (.long q6), .second, .val (.int (q6.toInt32)), .val (.int (0 : Int32)), .val (.ref b1), .val (.ref b3), .val (.ref b5), .unset, .unset, .unset, .unset] [(.int (0 : Int32)), (.ref b7), (.ref b7)])) τ → G τ := fun τ κ => pre τ (by
      refine XS.dup X7.here hx rfl (hb hby at_68) rfl rfl ?_
      show Steps p.tables e below (T7.setTop (mkF m 69 #[.val (.int a), .val (.int b), .val (.int cc), .val (.int d), .val (.int ee), .val (.long q6), .second, .val (.int (q6.toInt32)), .val (.int (0 : Int32)), .val (.ref b1), .val (.ref b3), .val (.ref b5), .unset, .unset, .unset, .unset] [(.ref b7), (.ref b7)])) τ
      refine XS.iload X7.here hx rfl (hb hby at_69) rfl ?_
      show Steps p.tables e below (T7.setTop (mkF m 71 #[.val (.int a), .val (.int b), .val (.int cc), .val (.int d), .val (.int ee), .val (.long q6), .second, .val (.int (q6.toInt32)), .val (.int (0 : Int32)), .val (.ref b1), .val (.ref b3), .val (.ref b5), .unset, .unset, .unset, .unset] [(.int (0 : Int32)), (.ref b7), (.ref b7)])) τ
      exact κ)
    have hc8 : (0 : Int32) = (0 : Int32) := rfl
    have pre : ∀ τ, Steps p.tables e below (T7.setTop (mkF m 82 #[.val (.int a), .val (.int b), .val (.int cc), .val (.int d), .val (.int ee), .val (.long q6), .second, .val (.int (q6.toInt32)), .val (.int (0 : Int32)), .val (.ref b1), .val (.ref b3), .val (.ref b5), .unset, .unset, .unset, .unset] [(.int (1 : Int32)), (.int (0 : Int32)), (.int (1 : Int32)), (.ref b7), (.ref b7)])) τ → G τ := fun τ κ => pre τ (by
      refine XS.ifNo X7.here hx rfl (hb hby at_71) rfl ((if0 _ _).trans (teq hc8).2) ?_
      show Steps p.tables e below (T7.setTop (mkF m 74 #[.val (.int a), .val (.int b), .val (.int cc), .val (.int d), .val (.int ee), .val (.long q6), .second, .val (.int (q6.toInt32)), .val (.int (0 : Int32)), .val (.ref b1), .val (.ref b3), .val (.ref b5), .unset, .unset, .unset, .unset] [(.ref b7), (.ref b7)])) τ
      refine XS.iconst X7.here hx rfl (hb hby at_74) ?_
      show Steps p.tables e below (T7.setTop (mkF m 75 #[.val (.int a), .val (.int b), .val (.int cc), .val (.int d), .val (.int ee), .val (.long q6), .second, .val (.int (q6.toInt32)), .val (.int (0 : Int32)), .val (.ref b1), .val (.ref b3), .val (.ref b5), .unset, .unset, .unset, .unset] [(.int (1 : Int32)), (.ref b7), (.ref b7)])) τ
      refine XS.goto X7.here hx rfl (pc0 := 75) (pc' := 79) rfl (hb hby at_75) (by decide) (by decide) ?_
      show Steps p.tables e below (T7.setTop (mkF m 79 #[.val (.int a), .val (.int b), .val (.int cc), .val (.int d), .val (.int ee), .val (.long q6), .second, .val (.int (q6.toInt32)), .val (.int (0 : Int32)), .val (.ref b1), .val (.ref b3), .val (.ref b5), .unset, .unset, .unset, .unset] [(.int (1 : Int32)), (.ref b7), (.ref b7)])) τ
      refine XS.iload X7.here hx rfl (hb hby at_79) rfl ?_
      show Steps p.tables e below (T7.setTop (mkF m 81 #[.val (.int a), .val (.int b), .val (.int cc), .val (.int d), .val (.int ee), .val (.long q6), .second, .val (.int (q6.toInt32)), .val (.int (0 : Int32)), .val (.ref b1), .val (.ref b3), .val (.ref b5), .unset, .unset, .unset, .unset] [(.int (0 : Int32)), (.int (1 : Int32)), (.ref b7), (.ref b7)])) τ
      refine XS.iconst X7.here hx rfl (hb hby at_81) ?_
      show Steps p.tables e below (T7.setTop (mkF m 82 #[.val (.int a), .val (.int b), .val (.int cc), .val (.int d), .val (.int ee), .val (.long q6), .second, .val (.int (q6.toInt32)), .val (.int (0 : Int32)), .val (.ref b1), .val (.ref b3), .val (.ref b5), .unset, .unset, .unset, .unset] [(.int (1 : Int32)), (.int (0 : Int32)), (.int (1 : Int32)), (.ref b7), (.ref b7)])) τ
      exact κ)
    have hc9 : ¬ ((0 : Int32) = (1 : Int32)) := (by decide)
    have pre : ∀ τ, Steps p.tables e below (T7.setTop (mkF m 93 #[.val (.int a), .val (.int b), .val (.int cc), .val (.int d), .val (.int ee), .val (.long q6), .second, .val (.int (q6.toInt32)), .val (.int (0 : Int32)), .val (.ref b1), .val (.ref b3), .val (.ref b5), .unset, .unset, .unset, .unset] [(.int (2 : Int32)), (.int (0 : Int32)), (.int (0 : Int32)), (.int (1 : Int32)), (.ref b7), (.ref b7)])) τ → G τ := fun τ κ => pre τ (by
      refine XS.icmpYes X7.here hx rfl (pc0 := 82) (pc' := 89) rfl (hb hby at_82) rfl (feq hc9).2 (by decide) (by decide) ?_
      show Steps p.tables e below (T7.setTop (mkF m 89 #[.val (.int a), .val (.int b), .val (.int cc), .val (.int d), .val (.int ee), .val (.long q6), .second, .val (.int (q6.toInt32)), .val (.int (0 : Int32)), .val (.ref b1), .val (.ref b3), .val (.ref b5), .unset, .unset, .unset, .unset] [(.int (1 : Int32)), (.ref b7), (.ref b7)])) τ
      refine XS.iconst X7.here hx rfl (hb hby at_89) ?_
      show Steps p.tables e below (T7.setTop (mkF m 90 #[.val (.int a), .val (.int b), .val (.int cc), .val (.int d), .val (.int ee), .val (.long q6), .second, .val (.int (q6.toInt32)), .val (.int (0 : Int32)), .val (.ref b1), .val (.ref b3), .val (.ref b5), .unset, .unset, .unset, .unset] [(.int (0 : Int32)), (.int (1 : Int32)), (.ref b7), (.ref b7)])) τ
      refine XS.iload X7.here hx rfl (hb hby at_90) rfl ?_
      show Steps p.tables e below (T7.setTop (mkF m 92 #[.val (.int a), .val (.int b), .val (.int cc), .val (.int d), .val (.int ee), .val (.long q6), .second, .val (.int (q6.toInt32)), .val (.int (0 : Int32)), .val (.ref b1), .val (.ref b3), .val (.ref b5), .unset, .unset, .unset, .unset] [(.int (0 : Int32)), (.int (0 : Int32)), (.int (1 : Int32)), (.ref b7), (.ref b7)])) τ
      refine XS.iconst X7.here hx rfl (hb hby at_92) ?_
      show Steps p.tables e below (T7.setTop (mkF m 93 #[.val (.int a), .val (.int b), .val (.int cc), .val (.int d), .val (.int ee), .val (.long q6), .second, .val (.int (q6.toInt32)), .val (.int (0 : Int32)), .val (.ref b1), .val (.ref b3), .val (.ref b5), .unset, .unset, .unset, .unset] [(.int (2 : Int32)), (.int (0 : Int32)), (.int (0 : Int32)), (.int (1 : Int32)), (.ref b7), (.ref b7)])) τ
      exact κ)
    have hc10 : ¬ ((0 : Int32) = (2 : Int32)) := (by decide)
    have pre : ∀ τ, Steps p.tables e below (T7.setTop (mkF m 101 #[.val (.int a), .val (.int b), .val (.int cc), .val (.int d), .val (.int ee), .val (.long q6), .second, .val (.int (q6.toInt32)), .val (.int (0 : Int32)), .val (.ref b1), .val (.ref b3), .val (.ref b5), .unset, .unset, .unset, .unset] [(.int (0 : Int32)), (.int (0 : Int32)), (.int (1 : Int32)), (.ref b7), (.ref b7)])) τ → G τ := fun τ κ => pre τ (by
      refine XS.icmpYes X7.here hx rfl (pc0 := 93) (pc' := 100) rfl (hb hby at_93) rfl (feq hc10).2 (by decide) (by decide) ?_
      show Steps p.tables e below (T7.setTop (mkF m 100 #[.val (.int a), .val (.int b), .val (.int cc), .val (.int d), .val (.int ee), .val (.long q6), .second, .val (.int (q6.toInt32)), .val (.int (0 : Int32)), .val (.ref b1), .val (.ref b3), .val (.ref b5), .unset, .unset, .unset, .unset] [(.int (0 : Int32)), (.int (1 : Int32)), (.ref b7), (.ref b7)])) τ
      refine XS.iconst X7.here hx rfl (hb hby at_100) ?_
      show Steps p.tables e below (T7.setTop (mkF m 101 #[.val (.int a), .val (.int b), .val (.int cc), .val (.int d), .val (.int ee), .val (.long q6), .second, .val (.int (q6.toInt32)), .val (.int (0 : Int32)), .val (.ref b1), .val (.ref b3), .val (.ref b5), .unset, .unset, .unset, .unset] [(.int (0 : Int32)), (.int (0 : Int32)), (.int (1 : Int32)), (.ref b7), (.ref b7)])) τ
      exact κ)
    obtain ⟨_, _, ⟨T11, Lx11, kx11, nx11⟩, -, X11, ⟨Lc11, hQ11, l11, y11, z11⟩, st11⟩ := X7.specialBack hx (y := (⟨"com/example/cooldown/cooldown/policy/FieldColumn$Shape", "<init>", "(III)V"⟩ : MethodName)) rfl hown (mvT hZ (hw _ (List.mem_of_getElem? (i := 4) rfl))) (mvT hZ (hw _ (List.mem_of_getElem? (i := 5) rfl))) (mvT hZ (hw _ (List.mem_of_getElem? (i := 6) rfl))) (by decide) (backOf (W := 1) (rm1 l Z a0 hw [] b7 (1 : Int32) (0 : Int32) (0 : Int32) (.int (0 : Int32)) (.int (0 : Int32)) (.int (0 : Int32)) h7 n0 Zn g_b7 E_b7 F_longs_b7 F_ints_b7 F_objects_b7) hZ (hw _ (List.mem_of_getElem? (i := 6) rfl)) (hw _ (List.mem_of_getElem? (i := 3) rfl)) (by decide) (by decide)) (g := (mkF m 101 #[.val (.int a), .val (.int b), .val (.int cc), .val (.int d), .val (.int ee), .val (.long q6), .second, .val (.int (q6.toInt32)), .val (.int (0 : Int32)), .val (.ref b1), .val (.ref b3), .val (.ref b5), .unset, .unset, .unset, .unset] [(.int (0 : Int32)), (.int (0 : Int32)), (.int (1 : Int32)), (.ref b7), (.ref b7)])) rfl (by rw [hml]; rfl) (Steps.refl _) (a := b7) (argsL := [(.int (1 : Int32)), (.int (0 : Int32)), (.int (0 : Int32))]) (rest := [(.ref b7)]) (lenOf pd_0 rfl) rfl (by show 2 * 0 + _ ≤ _; exact Nat.le_of_eq rfl) (hb hby at_101) (fun _ _ => ⟨rfl, e7, (by decide : 4 + 0 ≤ _), (by decide : 12 + 0 ≤ _)⟩)
    dsimp only [Pt.U, Pt.locs, Pt.cells, Pt.slots] at X11 l11 y11 z11 st11 hQ11
    subst l11 y11 z11
    obtain ⟨rfl, Nq11, Kc11, E_o_11, F_longs_11, F_ints_11, F_objects_11⟩ := hQ11
    have NN := Fr.app NN Nq11
    have E_b1 : Exa Z T11.heap b1 "com/example/cooldown/cooldown/policy/FieldColumn$Shape" := E_b1.keep Kc11
    have E_o_2 : Exa Z T11.heap b1 "com/example/cooldown/cooldown/policy/FieldColumn$Shape" := E_o_2.keep Kc11
    have F_longs_2 : Fld Z T11.heap b1 "com/example/cooldown/cooldown/policy/FieldColumn$Shape" "longs" "I" (.int a) := F_longs_2.keep Kc11 (ninS ne_b1_b7 nin0)
    have F_ints_2 : Fld Z T11.heap b1 "com/example/cooldown/cooldown/policy/FieldColumn$Shape" "ints" "I" (.int b) := F_ints_2.keep Kc11 (ninS ne_b1_b7 nin0)
    have F_objects_2 : Fld Z T11.heap b1 "com/example/cooldown/cooldown/policy/FieldColumn$Shape" "objects" "I" (.int cc) := F_objects_2.keep Kc11 (ninS ne_b1_b7 nin0)
    have E_b3 : Exa Z T11.heap b3 "com/example/cooldown/cooldown/policy/FieldColumn$Shape" := E_b3.keep Kc11
    have E_o_4 : Exa Z T11.heap b3 "com/example/cooldown/cooldown/policy/FieldColumn$Shape" := E_o_4.keep Kc11
    have F_longs_4 : Fld Z T11.heap b3 "com/example/cooldown/cooldown/policy/FieldColumn$Shape" "longs" "I" (.int d) := F_longs_4.keep Kc11 (ninS ne_b3_b7 nin0)
    have F_ints_4 : Fld Z T11.heap b3 "com/example/cooldown/cooldown/policy/FieldColumn$Shape" "ints" "I" (.int ee) := F_ints_4.keep Kc11 (ninS ne_b3_b7 nin0)
    have F_objects_4 : Fld Z T11.heap b3 "com/example/cooldown/cooldown/policy/FieldColumn$Shape" "objects" "I" (.int (q6.toInt32)) := F_objects_4.keep Kc11 (ninS ne_b3_b7 nin0)
    have E_b5 : Exa Z T11.heap b5 "com/example/cooldown/cooldown/policy/FieldColumn$Shape" := E_b5.keep Kc11
    have E_o_6 : Exa Z T11.heap b5 "com/example/cooldown/cooldown/policy/FieldColumn$Shape" := E_o_6.keep Kc11
    have F_longs_6 : Fld Z T11.heap b5 "com/example/cooldown/cooldown/policy/FieldColumn$Shape" "longs" "I" (.int (a + d)) := F_longs_6.keep Kc11 (ninS ne_b5_b7 nin0)
    have F_ints_6 : Fld Z T11.heap b5 "com/example/cooldown/cooldown/policy/FieldColumn$Shape" "ints" "I" (.int (b + ee)) := F_ints_6.keep Kc11 (ninS ne_b5_b7 nin0)
    have F_objects_6 : Fld Z T11.heap b5 "com/example/cooldown/cooldown/policy/FieldColumn$Shape" "objects" "I" (.int (cc + (q6.toInt32))) := F_objects_6.keep Kc11 (ninS ne_b5_b7 nin0)
    have E_b7 : Exa Z T11.heap b7 "com/example/cooldown/cooldown/policy/FieldColumn$Shape" := E_b7.keep Kc11
    have Zn : n0 ≤ T11.heap.size := Nat.le_trans Zn Kc11.1
    have pre : ∀ τ, Steps p.tables e below (T11.setTop (mkF m 104 #[.val (.int a), .val (.int b), .val (.int cc), .val (.int d), .val (.int ee), .val (.long q6), .second, .val (.int (q6.toInt32)), .val (.int (0 : Int32)), .val (.ref b1), .val (.ref b3), .val (.ref b5), .unset, .unset, .unset, .unset] [(.ref b7)])) τ → G τ := fun τ κ => pre τ (st11.trans κ)
    have pre : ∀ τ, Steps p.tables e below (T11.setTop (mkF m 108 #[.val (.int a), .val (.int b), .val (.int cc), .val (.int d), .val (.int ee), .val (.long q6), .second, .val (.int (q6.toInt32)), .val (.int (0 : Int32)), .val (.ref b1), .val (.ref b3), .val (.ref b5), .val (.ref b7), .unset, .unset, .unset] [(.int (0 : Int32))])) τ → G τ := fun τ κ => pre τ (by
      refine XS.astore X11.here hx rfl (hb hby at_104) rfl rfl (l' := #[.val (.int a), .val (.int b), .val (.int cc), .val (.int d), .val (.int ee), .val (.long q6), .second, .val (.int (q6.toInt32)), .val (.int (0 : Int32)), .val (.ref b1), .val (.ref b3), .val (.ref b5), .val (.ref b7), .unset, .unset, .unset]) rfl ?_
      show Steps p.tables e below (T11.setTop (mkF m 106 #[.val (.int a), .val (.int b), .val (.int cc), .val (.int d), .val (.int ee), .val (.long q6), .second, .val (.int (q6.toInt32)), .val (.int (0 : Int32)), .val (.ref b1), .val (.ref b3), .val (.ref b5), .val (.ref b7), .unset, .unset, .unset] [])) τ
      refine XS.iload X11.here hx rfl (hb hby at_106) rfl ?_
      show Steps p.tables e below (T11.setTop (mkF m 108 #[.val (.int a), .val (.int b), .val (.int cc), .val (.int d), .val (.int ee), .val (.long q6), .second, .val (.int (q6.toInt32)), .val (.int (0 : Int32)), .val (.ref b1), .val (.ref b3), .val (.ref b5), .val (.ref b7), .unset, .unset, .unset] [(.int (0 : Int32))])) τ
      exact κ)
    have hc12 : (0 : Int32) = (0 : Int32) := rfl
    have pre : ∀ τ, Steps p.tables e below (T11.setTop (mkF m 121 #[.val (.int a), .val (.int b), .val (.int cc), .val (.int d), .val (.int ee), .val (.long q6), .second, .val (.int (q6.toInt32)), .val (.int (0 : Int32)), .val (.ref b1), .val (.ref b3), .val (.ref b5), .val (.ref b7), .val (.int (8 : Int32)), .unset, .unset] [(.ref b5)])) τ → G τ := fun τ κ => pre τ (by
      refine XS.ifNo X11.here hx rfl (hb hby at_108) rfl ((if0 _ _).trans (teq hc12).2) ?_
      show Steps p.tables e below (T11.setTop (mkF m 111 #[.val (.int a), .val (.int b), .val (.int cc), .val (.int d), .val (.int ee), .val (.long q6), .second, .val (.int (q6.toInt32)), .val (.int (0 : Int32)), .val (.ref b1), .val (.ref b3), .val (.ref b5), .val (.ref b7), .unset, .unset, .unset] [])) τ
      refine XS.bipush X11.here hx rfl (hb hby at_111) ?_
      show Steps p.tables e below (T11.setTop (mkF m 113 #[.val (.int a), .val (.int b), .val (.int cc), .val (.int d), .val (.int ee), .val (.long q6), .second, .val (.int (q6.toInt32)), .val (.int (0 : Int32)), .val (.ref b1), .val (.ref b3), .val (.ref b5), .val (.ref b7), .unset, .unset, .unset] [(.int (8 : Int32))])) τ
      refine XS.goto X11.here hx rfl (pc0 := 113) (pc' := 117) rfl (hb hby at_113) (by decide) (by decide) ?_
      show Steps p.tables e below (T11.setTop (mkF m 117 #[.val (.int a), .val (.int b), .val (.int cc), .val (.int d), .val (.int ee), .val (.long q6), .second, .val (.int (q6.toInt32)), .val (.int (0 : Int32)), .val (.ref b1), .val (.ref b3), .val (.ref b5), .val (.ref b7), .unset, .unset, .unset] [(.int (8 : Int32))])) τ
      refine XS.istore X11.here hx rfl (hb hby at_117) rfl (l' := #[.val (.int a), .val (.int b), .val (.int cc), .val (.int d), .val (.int ee), .val (.long q6), .second, .val (.int (q6.toInt32)), .val (.int (0 : Int32)), .val (.ref b1), .val (.ref b3), .val (.ref b5), .val (.ref b7), .val (.int (8 : Int32)), .unset, .unset]) rfl ?_
      show Steps p.tables e below (T11.setTop (mkF m 119 #[.val (.int a), .val (.int b), .val (.int cc), .val (.int d), .val (.int ee), .val (.long q6), .second, .val (.int (q6.toInt32)), .val (.int (0 : Int32)), .val (.ref b1), .val (.ref b3), .val (.ref b5), .val (.ref b7), .val (.int (8 : Int32)), .unset, .unset] [])) τ
      refine XS.aload X11.here hx rfl (hb hby at_119) rfl rfl ?_
      show Steps p.tables e below (T11.setTop (mkF m 121 #[.val (.int a), .val (.int b), .val (.int cc), .val (.int d), .val (.int ee), .val (.long q6), .second, .val (.int (q6.toInt32)), .val (.int (0 : Int32)), .val (.ref b1), .val (.ref b3), .val (.ref b5), .val (.ref b7), .val (.int (8 : Int32)), .unset, .unset] [(.ref b5)])) τ
      exact κ)
    obtain ⟨cq13, kq13, q13a, q13b, q13c⟩ := isOf hZ rfl E_b5
    obtain ⟨_, _, ⟨T13, Lx13, kx13, nx13⟩, -, X13, ⟨Lc13, hQ13, l13, y13, z13⟩, st13⟩ := X11.virtualBack hx (y := (⟨"com/example/cooldown/cooldown/policy/FieldColumn$Shape", "bytes", "()I"⟩ : MethodName)) (z := (⟨"com/example/cooldown/cooldown/policy/FieldColumn$Shape", "bytes", "()I"⟩ : MethodName)) hown (mvT hZ (hw _ (List.mem_of_getElem? (i := 16) rfl))) (mvT hZ (hw _ (List.mem_of_getElem? (i := 17) rfl))) (notFace_of_selects (args := #[]) (mvT hZ (hw _ (List.mem_of_getElem? (i := 19) rfl)))) (mvT hZ (hw _ (List.mem_of_getElem? (i := 19) rfl))) (mvT hZ (hw _ (List.mem_of_getElem? (i := 18) rfl))) (by decide) (backOf (W := 0) (rm3 l Z a0 hw [] b5 (a + d) (b + ee) (cc + (q6.toInt32)) T11.heap n0 Zn F_longs_6 F_ints_6 F_objects_6) hZ (hw _ (List.mem_of_getElem? (i := 20) rfl)) (hw _ (List.mem_of_getElem? (i := 3) rfl)) (by decide) (by decide)) q13a q13c (g := (mkF m 121 #[.val (.int a), .val (.int b), .val (.int cc), .val (.int d), .val (.int ee), .val (.long q6), .second, .val (.int (q6.toInt32)), .val (.int (0 : Int32)), .val (.ref b1), .val (.ref b3), .val (.ref b5), .val (.ref b7), .val (.int (8 : Int32)), .unset, .unset] [(.ref b5)])) rfl (by rw [hml]; rfl) (Steps.refl _) (argsL := []) (rest := []) (lenOf pd_1 rfl) rfl (by show 2 * 0 + _ ≤ _; exact Nat.le_of_eq rfl) (hb hby at_121) (fun _ _ => ⟨rfl, rfl, (by decide : 4 + 0 ≤ _), (by decide : 12 + 0 ≤ _)⟩)
    dsimp only [Pt.U, Pt.locs, Pt.cells, Pt.slots] at X13 l13 y13 z13 st13 hQ13
    subst l13 y13 z13
    obtain ⟨rfl, Nq13, hs13⟩ := hQ13
    have NN := Fr.app NN Nq13
    have pre : ∀ τ, Steps p.tables e below (T13.setTop (mkF m 124 #[.val (.int a), .val (.int b), .val (.int cc), .val (.int d), .val (.int ee), .val (.long q6), .second, .val (.int (q6.toInt32)), .val (.int (0 : Int32)), .val (.ref b1), .val (.ref b3), .val (.ref b5), .val (.ref b7), .val (.int (8 : Int32)), .unset, .unset] [(.int ((((8 : Int32) * (a + d)) + ((4 : Int32) * (b + ee))) + ((4 : Int32) * (cc + (q6.toInt32)))))])) τ → G τ := fun τ κ => pre τ (st13.trans κ)
    have pre : ∀ τ, Steps p.tables e below (T13.setTop (mkF m 126 #[.val (.int a), .val (.int b), .val (.int cc), .val (.int d), .val (.int ee), .val (.long q6), .second, .val (.int (q6.toInt32)), .val (.int (0 : Int32)), .val (.ref b1), .val (.ref b3), .val (.ref b5), .val (.ref b7), .val (.int (8 : Int32)), .unset, .unset] [(.ref b1), (.int ((((8 : Int32) * (a + d)) + ((4 : Int32) * (b + ee))) + ((4 : Int32) * (cc + (q6.toInt32)))))])) τ → G τ := fun τ κ => pre τ (by
      refine XS.aload X13.here hx rfl (hb hby at_124) rfl rfl ?_
      show Steps p.tables e below (T13.setTop (mkF m 126 #[.val (.int a), .val (.int b), .val (.int cc), .val (.int d), .val (.int ee), .val (.long q6), .second, .val (.int (q6.toInt32)), .val (.int (0 : Int32)), .val (.ref b1), .val (.ref b3), .val (.ref b5), .val (.ref b7), .val (.int (8 : Int32)), .unset, .unset] [(.ref b1), (.int ((((8 : Int32) * (a + d)) + ((4 : Int32) * (b + ee))) + ((4 : Int32) * (cc + (q6.toInt32)))))])) τ
      exact κ)
    obtain ⟨cq14, kq14, q14a, q14b, q14c⟩ := isOf hZ hs13 E_b1
    obtain ⟨_, _, ⟨T14, Lx14, kx14, nx14⟩, -, X14, ⟨Lc14, hQ14, l14, y14, z14⟩, st14⟩ := X13.virtualBack hx (y := (⟨"com/example/cooldown/cooldown/policy/FieldColumn$Shape", "bytes", "()I"⟩ : MethodName)) (z := (⟨"com/example/cooldown/cooldown/policy/FieldColumn$Shape", "bytes", "()I"⟩ : MethodName)) hown (mvT hZ (hw _ (List.mem_of_getElem? (i := 16) rfl))) (mvT hZ (hw _ (List.mem_of_getElem? (i := 17) rfl))) (notFace_of_selects (args := #[]) (mvT hZ (hw _ (List.mem_of_getElem? (i := 19) rfl)))) (mvT hZ (hw _ (List.mem_of_getElem? (i := 19) rfl))) (mvT hZ (hw _ (List.mem_of_getElem? (i := 18) rfl))) (by decide) (backOf (W := 1) (rm3 l Z a0 hw [] b1 a b cc T11.heap n0 Zn F_longs_2 F_ints_2 F_objects_2) hZ (hw _ (List.mem_of_getElem? (i := 20) rfl)) (hw _ (List.mem_of_getElem? (i := 3) rfl)) (by decide) (by decide)) q14a q14c (g := (mkF m 126 #[.val (.int a), .val (.int b), .val (.int cc), .val (.int d), .val (.int ee), .val (.long q6), .second, .val (.int (q6.toInt32)), .val (.int (0 : Int32)), .val (.ref b1), .val (.ref b3), .val (.ref b5), .val (.ref b7), .val (.int (8 : Int32)), .unset, .unset] [(.ref b1), (.int ((((8 : Int32) * (a + d)) + ((4 : Int32) * (b + ee))) + ((4 : Int32) * (cc + (q6.toInt32)))))])) rfl (by rw [hml]; rfl) (Steps.refl _) (argsL := []) (rest := [(.int ((((8 : Int32) * (a + d)) + ((4 : Int32) * (b + ee))) + ((4 : Int32) * (cc + (q6.toInt32)))))]) (lenOf pd_1 rfl) rfl (by show 2 * 0 + _ ≤ _; exact Nat.le_of_eq rfl) (hb hby at_126) (fun _ _ => ⟨rfl, hs13, (by decide : 4 + 0 ≤ _), (by decide : 12 + 0 ≤ _)⟩)
    dsimp only [Pt.U, Pt.locs, Pt.cells, Pt.slots] at X14 l14 y14 z14 st14 hQ14
    subst l14 y14 z14
    obtain ⟨rfl, Nq14, hs14⟩ := hQ14
    have NN := Fr.app NN Nq14
    have pre : ∀ τ, Steps p.tables e below (T14.setTop (mkF m 129 #[.val (.int a), .val (.int b), .val (.int cc), .val (.int d), .val (.int ee), .val (.long q6), .second, .val (.int (q6.toInt32)), .val (.int (0 : Int32)), .val (.ref b1), .val (.ref b3), .val (.ref b5), .val (.ref b7), .val (.int (8 : Int32)), .unset, .unset] [(.int ((((8 : Int32) * a) + ((4 : Int32) * b)) + ((4 : Int32) * cc))), (.int ((((8 : Int32) * (a + d)) + ((4 : Int32) * (b + ee))) + ((4 : Int32) * (cc + (q6.toInt32)))))])) τ → G τ := fun τ κ => pre τ (st14.trans κ)
    have pre : ∀ τ, Steps p.tables e below (T14.setTop (mkF m 131 #[.val (.int a), .val (.int b), .val (.int cc), .val (.int d), .val (.int ee), .val (.long q6), .second, .val (.int (q6.toInt32)), .val (.int (0 : Int32)), .val (.ref b1), .val (.ref b3), .val (.ref b5), .val (.ref b7), .val (.int (8 : Int32)), .unset, .unset] [(.ref b3), (.int ((((8 : Int32) * a) + ((4 : Int32) * b)) + ((4 : Int32) * cc))), (.int ((((8 : Int32) * (a + d)) + ((4 : Int32) * (b + ee))) + ((4 : Int32) * (cc + (q6.toInt32)))))])) τ → G τ := fun τ κ => pre τ (by
      refine XS.aload X14.here hx rfl (hb hby at_129) rfl rfl ?_
      show Steps p.tables e below (T14.setTop (mkF m 131 #[.val (.int a), .val (.int b), .val (.int cc), .val (.int d), .val (.int ee), .val (.long q6), .second, .val (.int (q6.toInt32)), .val (.int (0 : Int32)), .val (.ref b1), .val (.ref b3), .val (.ref b5), .val (.ref b7), .val (.int (8 : Int32)), .unset, .unset] [(.ref b3), (.int ((((8 : Int32) * a) + ((4 : Int32) * b)) + ((4 : Int32) * cc))), (.int ((((8 : Int32) * (a + d)) + ((4 : Int32) * (b + ee))) + ((4 : Int32) * (cc + (q6.toInt32)))))])) τ
      exact κ)
    obtain ⟨cq15, kq15, q15a, q15b, q15c⟩ := isOf hZ hs14 E_b3
    obtain ⟨_, _, ⟨T15, Lx15, kx15, nx15⟩, -, X15, ⟨Lc15, hQ15, l15, y15, z15⟩, st15⟩ := X14.virtualBack hx (y := (⟨"com/example/cooldown/cooldown/policy/FieldColumn$Shape", "bytes", "()I"⟩ : MethodName)) (z := (⟨"com/example/cooldown/cooldown/policy/FieldColumn$Shape", "bytes", "()I"⟩ : MethodName)) hown (mvT hZ (hw _ (List.mem_of_getElem? (i := 16) rfl))) (mvT hZ (hw _ (List.mem_of_getElem? (i := 17) rfl))) (notFace_of_selects (args := #[]) (mvT hZ (hw _ (List.mem_of_getElem? (i := 19) rfl)))) (mvT hZ (hw _ (List.mem_of_getElem? (i := 19) rfl))) (mvT hZ (hw _ (List.mem_of_getElem? (i := 18) rfl))) (by decide) (backOf (W := 2) (rm3 l Z a0 hw [] b3 d ee (q6.toInt32) T11.heap n0 Zn F_longs_4 F_ints_4 F_objects_4) hZ (hw _ (List.mem_of_getElem? (i := 20) rfl)) (hw _ (List.mem_of_getElem? (i := 3) rfl)) (by decide) (by decide)) q15a q15c (g := (mkF m 131 #[.val (.int a), .val (.int b), .val (.int cc), .val (.int d), .val (.int ee), .val (.long q6), .second, .val (.int (q6.toInt32)), .val (.int (0 : Int32)), .val (.ref b1), .val (.ref b3), .val (.ref b5), .val (.ref b7), .val (.int (8 : Int32)), .unset, .unset] [(.ref b3), (.int ((((8 : Int32) * a) + ((4 : Int32) * b)) + ((4 : Int32) * cc))), (.int ((((8 : Int32) * (a + d)) + ((4 : Int32) * (b + ee))) + ((4 : Int32) * (cc + (q6.toInt32)))))])) rfl (by rw [hml]; rfl) (Steps.refl _) (argsL := []) (rest := [(.int ((((8 : Int32) * a) + ((4 : Int32) * b)) + ((4 : Int32) * cc))), (.int ((((8 : Int32) * (a + d)) + ((4 : Int32) * (b + ee))) + ((4 : Int32) * (cc + (q6.toInt32)))))]) (lenOf pd_1 rfl) rfl (by show 2 * 0 + _ ≤ _; exact Nat.le_of_eq rfl) (hb hby at_131) (fun _ _ => ⟨rfl, hs14, (by decide : 4 + 0 ≤ _), (by decide : 12 + 0 ≤ _)⟩)
    dsimp only [Pt.U, Pt.locs, Pt.cells, Pt.slots] at X15 l15 y15 z15 st15 hQ15
    subst l15 y15 z15
    obtain ⟨rfl, Nq15, hs15⟩ := hQ15
    have NN := Fr.app NN Nq15
    have pre : ∀ τ, Steps p.tables e below (T15.setTop (mkF m 134 #[.val (.int a), .val (.int b), .val (.int cc), .val (.int d), .val (.int ee), .val (.long q6), .second, .val (.int (q6.toInt32)), .val (.int (0 : Int32)), .val (.ref b1), .val (.ref b3), .val (.ref b5), .val (.ref b7), .val (.int (8 : Int32)), .unset, .unset] [(.int ((((8 : Int32) * d) + ((4 : Int32) * ee)) + ((4 : Int32) * (q6.toInt32)))), (.int ((((8 : Int32) * a) + ((4 : Int32) * b)) + ((4 : Int32) * cc))), (.int ((((8 : Int32) * (a + d)) + ((4 : Int32) * (b + ee))) + ((4 : Int32) * (cc + (q6.toInt32)))))])) τ → G τ := fun τ κ => pre τ (st15.trans κ)
    have pre : ∀ τ, Steps p.tables e below (T15.setTop (mkF m 135 #[.val (.int a), .val (.int b), .val (.int cc), .val (.int d), .val (.int ee), .val (.long q6), .second, .val (.int (q6.toInt32)), .val (.int (0 : Int32)), .val (.ref b1), .val (.ref b3), .val (.ref b5), .val (.ref b7), .val (.int (8 : Int32)), .unset, .unset] [(.int (((((8 : Int32) * a) + ((4 : Int32) * b)) + ((4 : Int32) * cc)) + ((((8 : Int32) * d) + ((4 : Int32) * ee)) + ((4 : Int32) * (q6.toInt32))))), (.int ((((8 : Int32) * (a + d)) + ((4 : Int32) * (b + ee))) + ((4 : Int32) * (cc + (q6.toInt32)))))])) τ → G τ := fun τ κ => pre τ (by
      refine XS.iadd X15.here hx rfl (hb hby at_134) rfl ?_
      show Steps p.tables e below (T15.setTop (mkF m 135 #[.val (.int a), .val (.int b), .val (.int cc), .val (.int d), .val (.int ee), .val (.long q6), .second, .val (.int (q6.toInt32)), .val (.int (0 : Int32)), .val (.ref b1), .val (.ref b3), .val (.ref b5), .val (.ref b7), .val (.int (8 : Int32)), .unset, .unset] [(.int (((((8 : Int32) * a) + ((4 : Int32) * b)) + ((4 : Int32) * cc)) + ((((8 : Int32) * d) + ((4 : Int32) * ee)) + ((4 : Int32) * (q6.toInt32))))), (.int ((((8 : Int32) * (a + d)) + ((4 : Int32) * (b + ee))) + ((4 : Int32) * (cc + (q6.toInt32)))))])) τ
      exact κ)
    have hc16 : ((((8 : Int32) * (a + d)) + ((4 : Int32) * (b + ee))) + ((4 : Int32) * (cc + (q6.toInt32)))) = (((((8 : Int32) * a) + ((4 : Int32) * b)) + ((4 : Int32) * cc)) + ((((8 : Int32) * d) + ((4 : Int32) * ee)) + ((4 : Int32) * (q6.toInt32)))) := own_add _ _ _ _ _ _
    have pre : ∀ τ, Steps p.tables e below (T15.setTop (mkF m 147 #[.val (.int a), .val (.int b), .val (.int cc), .val (.int d), .val (.int ee), .val (.long q6), .second, .val (.int (q6.toInt32)), .val (.int (0 : Int32)), .val (.ref b1), .val (.ref b3), .val (.ref b5), .val (.ref b7), .val (.int (8 : Int32)), .val (.int (1 : Int32)), .unset] [(.ref b7)])) τ → G τ := fun τ κ => pre τ (by
      refine XS.icmpNo X15.here hx rfl (hb hby at_135) rfl (teq hc16).2 ?_
      show Steps p.tables e below (T15.setTop (mkF m 138 #[.val (.int a), .val (.int b), .val (.int cc), .val (.int d), .val (.int ee), .val (.long q6), .second, .val (.int (q6.toInt32)), .val (.int (0 : Int32)), .val (.ref b1), .val (.ref b3), .val (.ref b5), .val (.ref b7), .val (.int (8 : Int32)), .unset, .unset] [])) τ
      refine XS.iconst X15.here hx rfl (hb hby at_138) ?_
      show Steps p.tables e below (T15.setTop (mkF m 139 #[.val (.int a), .val (.int b), .val (.int cc), .val (.int d), .val (.int ee), .val (.long q6), .second, .val (.int (q6.toInt32)), .val (.int (0 : Int32)), .val (.ref b1), .val (.ref b3), .val (.ref b5), .val (.ref b7), .val (.int (8 : Int32)), .unset, .unset] [(.int (1 : Int32))])) τ
      refine XS.goto X15.here hx rfl (pc0 := 139) (pc' := 143) rfl (hb hby at_139) (by decide) (by decide) ?_
      show Steps p.tables e below (T15.setTop (mkF m 143 #[.val (.int a), .val (.int b), .val (.int cc), .val (.int d), .val (.int ee), .val (.long q6), .second, .val (.int (q6.toInt32)), .val (.int (0 : Int32)), .val (.ref b1), .val (.ref b3), .val (.ref b5), .val (.ref b7), .val (.int (8 : Int32)), .unset, .unset] [(.int (1 : Int32))])) τ
      refine XS.istore X15.here hx rfl (hb hby at_143) rfl (l' := #[.val (.int a), .val (.int b), .val (.int cc), .val (.int d), .val (.int ee), .val (.long q6), .second, .val (.int (q6.toInt32)), .val (.int (0 : Int32)), .val (.ref b1), .val (.ref b3), .val (.ref b5), .val (.ref b7), .val (.int (8 : Int32)), .val (.int (1 : Int32)), .unset]) rfl ?_
      show Steps p.tables e below (T15.setTop (mkF m 145 #[.val (.int a), .val (.int b), .val (.int cc), .val (.int d), .val (.int ee), .val (.long q6), .second, .val (.int (q6.toInt32)), .val (.int (0 : Int32)), .val (.ref b1), .val (.ref b3), .val (.ref b5), .val (.ref b7), .val (.int (8 : Int32)), .val (.int (1 : Int32)), .unset] [])) τ
      refine XS.aload X15.here hx rfl (hb hby at_145) rfl rfl ?_
      show Steps p.tables e below (T15.setTop (mkF m 147 #[.val (.int a), .val (.int b), .val (.int cc), .val (.int d), .val (.int ee), .val (.long q6), .second, .val (.int (q6.toInt32)), .val (.int (0 : Int32)), .val (.ref b1), .val (.ref b3), .val (.ref b5), .val (.ref b7), .val (.int (8 : Int32)), .val (.int (1 : Int32)), .unset] [(.ref b7)])) τ
      exact κ)
    obtain ⟨cq17, kq17, q17a, q17b, q17c⟩ := isOf hZ hs15 E_b7
    obtain ⟨_, _, ⟨T17, Lx17, kx17, nx17⟩, -, X17, ⟨Lc17, hQ17, l17, y17, z17⟩, st17⟩ := X15.virtualBack hx (y := (⟨"com/example/cooldown/cooldown/policy/FieldColumn$Shape", "bytes", "()I"⟩ : MethodName)) (z := (⟨"com/example/cooldown/cooldown/policy/FieldColumn$Shape", "bytes", "()I"⟩ : MethodName)) hown (mvT hZ (hw _ (List.mem_of_getElem? (i := 16) rfl))) (mvT hZ (hw _ (List.mem_of_getElem? (i := 17) rfl))) (notFace_of_selects (args := #[]) (mvT hZ (hw _ (List.mem_of_getElem? (i := 19) rfl)))) (mvT hZ (hw _ (List.mem_of_getElem? (i := 19) rfl))) (mvT hZ (hw _ (List.mem_of_getElem? (i := 18) rfl))) (by decide) (backOf (W := 0) (rm3 l Z a0 hw [] b7 (1 : Int32) (0 : Int32) (0 : Int32) T11.heap n0 Zn F_longs_11 F_ints_11 F_objects_11) hZ (hw _ (List.mem_of_getElem? (i := 20) rfl)) (hw _ (List.mem_of_getElem? (i := 3) rfl)) (by decide) (by decide)) q17a q17c (g := (mkF m 147 #[.val (.int a), .val (.int b), .val (.int cc), .val (.int d), .val (.int ee), .val (.long q6), .second, .val (.int (q6.toInt32)), .val (.int (0 : Int32)), .val (.ref b1), .val (.ref b3), .val (.ref b5), .val (.ref b7), .val (.int (8 : Int32)), .val (.int (1 : Int32)), .unset] [(.ref b7)])) rfl (by rw [hml]; rfl) (Steps.refl _) (argsL := []) (rest := []) (lenOf pd_1 rfl) rfl (by show 2 * 0 + _ ≤ _; exact Nat.le_of_eq rfl) (hb hby at_147) (fun _ _ => ⟨rfl, hs15, (by decide : 4 + 0 ≤ _), (by decide : 12 + 0 ≤ _)⟩)
    dsimp only [Pt.U, Pt.locs, Pt.cells, Pt.slots] at X17 l17 y17 z17 st17 hQ17
    subst l17 y17 z17
    obtain ⟨rfl, Nq17, hs17⟩ := hQ17
    have NN := Fr.app NN Nq17
    have pre : ∀ τ, Steps p.tables e below (T17.setTop (mkF m 150 #[.val (.int a), .val (.int b), .val (.int cc), .val (.int d), .val (.int ee), .val (.long q6), .second, .val (.int (q6.toInt32)), .val (.int (0 : Int32)), .val (.ref b1), .val (.ref b3), .val (.ref b5), .val (.ref b7), .val (.int (8 : Int32)), .val (.int (1 : Int32)), .unset] [(.int ((((8 : Int32) * (1 : Int32)) + ((4 : Int32) * (0 : Int32))) + ((4 : Int32) * (0 : Int32))))])) τ → G τ := fun τ κ => pre τ (st17.trans κ)
    have pre : ∀ τ, Steps p.tables e below (T17.setTop (mkF m 152 #[.val (.int a), .val (.int b), .val (.int cc), .val (.int d), .val (.int ee), .val (.long q6), .second, .val (.int (q6.toInt32)), .val (.int (0 : Int32)), .val (.ref b1), .val (.ref b3), .val (.ref b5), .val (.ref b7), .val (.int (8 : Int32)), .val (.int (1 : Int32)), .unset] [(.int (8 : Int32)), (.int ((((8 : Int32) * (1 : Int32)) + ((4 : Int32) * (0 : Int32))) + ((4 : Int32) * (0 : Int32))))])) τ → G τ := fun τ κ => pre τ (by
      refine XS.iload X17.here hx rfl (hb hby at_150) rfl ?_
      show Steps p.tables e below (T17.setTop (mkF m 152 #[.val (.int a), .val (.int b), .val (.int cc), .val (.int d), .val (.int ee), .val (.long q6), .second, .val (.int (q6.toInt32)), .val (.int (0 : Int32)), .val (.ref b1), .val (.ref b3), .val (.ref b5), .val (.ref b7), .val (.int (8 : Int32)), .val (.int (1 : Int32)), .unset] [(.int (8 : Int32)), (.int ((((8 : Int32) * (1 : Int32)) + ((4 : Int32) * (0 : Int32))) + ((4 : Int32) * (0 : Int32))))])) τ
      exact κ)
    have hc18 : ((((8 : Int32) * (1 : Int32)) + ((4 : Int32) * (0 : Int32))) + ((4 : Int32) * (0 : Int32))) = (8 : Int32) := (by decide)
    have pre : ∀ τ, Steps p.tables e below (T17.setTop (mkF m 164 #[.val (.int a), .val (.int b), .val (.int cc), .val (.int d), .val (.int ee), .val (.long q6), .second, .val (.int (q6.toInt32)), .val (.int (0 : Int32)), .val (.ref b1), .val (.ref b3), .val (.ref b5), .val (.ref b7), .val (.int (8 : Int32)), .val (.int (1 : Int32)), .val (.int (1 : Int32))] [(.int (1 : Int32))])) τ → G τ := fun τ κ => pre τ (by
      refine XS.icmpNo X17.here hx rfl (hb hby at_152) rfl (teq hc18).2 ?_
      show Steps p.tables e below (T17.setTop (mkF m 155 #[.val (.int a), .val (.int b), .val (.int cc), .val (.int d), .val (.int ee), .val (.long q6), .second, .val (.int (q6.toInt32)), .val (.int (0 : Int32)), .val (.ref b1), .val (.ref b3), .val (.ref b5), .val (.ref b7), .val (.int (8 : Int32)), .val (.int (1 : Int32)), .unset] [])) τ
      refine XS.iconst X17.here hx rfl (hb hby at_155) ?_
      show Steps p.tables e below (T17.setTop (mkF m 156 #[.val (.int a), .val (.int b), .val (.int cc), .val (.int d), .val (.int ee), .val (.long q6), .second, .val (.int (q6.toInt32)), .val (.int (0 : Int32)), .val (.ref b1), .val (.ref b3), .val (.ref b5), .val (.ref b7), .val (.int (8 : Int32)), .val (.int (1 : Int32)), .unset] [(.int (1 : Int32))])) τ
      refine XS.goto X17.here hx rfl (pc0 := 156) (pc' := 160) rfl (hb hby at_156) (by decide) (by decide) ?_
      show Steps p.tables e below (T17.setTop (mkF m 160 #[.val (.int a), .val (.int b), .val (.int cc), .val (.int d), .val (.int ee), .val (.long q6), .second, .val (.int (q6.toInt32)), .val (.int (0 : Int32)), .val (.ref b1), .val (.ref b3), .val (.ref b5), .val (.ref b7), .val (.int (8 : Int32)), .val (.int (1 : Int32)), .unset] [(.int (1 : Int32))])) τ
      refine XS.istore X17.here hx rfl (hb hby at_160) rfl (l' := #[.val (.int a), .val (.int b), .val (.int cc), .val (.int d), .val (.int ee), .val (.long q6), .second, .val (.int (q6.toInt32)), .val (.int (0 : Int32)), .val (.ref b1), .val (.ref b3), .val (.ref b5), .val (.ref b7), .val (.int (8 : Int32)), .val (.int (1 : Int32)), .val (.int (1 : Int32))]) rfl ?_
      show Steps p.tables e below (T17.setTop (mkF m 162 #[.val (.int a), .val (.int b), .val (.int cc), .val (.int d), .val (.int ee), .val (.long q6), .second, .val (.int (q6.toInt32)), .val (.int (0 : Int32)), .val (.ref b1), .val (.ref b3), .val (.ref b5), .val (.ref b7), .val (.int (8 : Int32)), .val (.int (1 : Int32)), .val (.int (1 : Int32))] [])) τ
      refine XS.iload X17.here hx rfl (hb hby at_162) rfl ?_
      show Steps p.tables e below (T17.setTop (mkF m 164 #[.val (.int a), .val (.int b), .val (.int cc), .val (.int d), .val (.int ee), .val (.long q6), .second, .val (.int (q6.toInt32)), .val (.int (0 : Int32)), .val (.ref b1), .val (.ref b3), .val (.ref b5), .val (.ref b7), .val (.int (8 : Int32)), .val (.int (1 : Int32)), .val (.int (1 : Int32))] [(.int (1 : Int32))])) τ
      exact κ)
    have hc19 : ¬ ((1 : Int32) = (0 : Int32)) := (by decide)
    have pre : ∀ τ, Steps p.tables e below (T17.setTop (mkF m 169 #[.val (.int a), .val (.int b), .val (.int cc), .val (.int d), .val (.int ee), .val (.long q6), .second, .val (.int (q6.toInt32)), .val (.int (0 : Int32)), .val (.ref b1), .val (.ref b3), .val (.ref b5), .val (.ref b7), .val (.int (8 : Int32)), .val (.int (1 : Int32)), .val (.int (1 : Int32))] [(.int (1 : Int32))])) τ → G τ := fun τ κ => pre τ (by
      refine XS.ifNo X17.here hx rfl (hb hby at_164) rfl ((if0 _ _).trans (feq hc19).1) ?_
      show Steps p.tables e below (T17.setTop (mkF m 167 #[.val (.int a), .val (.int b), .val (.int cc), .val (.int d), .val (.int ee), .val (.long q6), .second, .val (.int (q6.toInt32)), .val (.int (0 : Int32)), .val (.ref b1), .val (.ref b3), .val (.ref b5), .val (.ref b7), .val (.int (8 : Int32)), .val (.int (1 : Int32)), .val (.int (1 : Int32))] [])) τ
      refine XS.iload X17.here hx rfl (hb hby at_167) rfl ?_
      show Steps p.tables e below (T17.setTop (mkF m 169 #[.val (.int a), .val (.int b), .val (.int cc), .val (.int d), .val (.int ee), .val (.long q6), .second, .val (.int (q6.toInt32)), .val (.int (0 : Int32)), .val (.ref b1), .val (.ref b3), .val (.ref b5), .val (.ref b7), .val (.int (8 : Int32)), .val (.int (1 : Int32)), .val (.int (1 : Int32))] [(.int (1 : Int32))])) τ
      exact κ)
    have hc20 : ¬ ((1 : Int32) = (0 : Int32)) := (by decide)
    have pre : ∀ τ, Steps p.tables e below (T17.setTop (mkF m 177 #[.val (.int a), .val (.int b), .val (.int cc), .val (.int d), .val (.int ee), .val (.long q6), .second, .val (.int (q6.toInt32)), .val (.int (0 : Int32)), .val (.ref b1), .val (.ref b3), .val (.ref b5), .val (.ref b7), .val (.int (8 : Int32)), .val (.int (1 : Int32)), .val (.int (1 : Int32))] [(.int (1 : Int32))])) τ → G τ := fun τ κ => pre τ (by
      refine XS.ifNo X17.here hx rfl (hb hby at_169) rfl ((if0 _ _).trans (feq hc20).1) ?_
      show Steps p.tables e below (T17.setTop (mkF m 172 #[.val (.int a), .val (.int b), .val (.int cc), .val (.int d), .val (.int ee), .val (.long q6), .second, .val (.int (q6.toInt32)), .val (.int (0 : Int32)), .val (.ref b1), .val (.ref b3), .val (.ref b5), .val (.ref b7), .val (.int (8 : Int32)), .val (.int (1 : Int32)), .val (.int (1 : Int32))] [])) τ
      refine XS.iconst X17.here hx rfl (hb hby at_172) ?_
      show Steps p.tables e below (T17.setTop (mkF m 173 #[.val (.int a), .val (.int b), .val (.int cc), .val (.int d), .val (.int ee), .val (.long q6), .second, .val (.int (q6.toInt32)), .val (.int (0 : Int32)), .val (.ref b1), .val (.ref b3), .val (.ref b5), .val (.ref b7), .val (.int (8 : Int32)), .val (.int (1 : Int32)), .val (.int (1 : Int32))] [(.int (1 : Int32))])) τ
      refine XS.goto X17.here hx rfl (pc0 := 173) (pc' := 177) rfl (hb hby at_173) (by decide) (by decide) ?_
      show Steps p.tables e below (T17.setTop (mkF m 177 #[.val (.int a), .val (.int b), .val (.int cc), .val (.int d), .val (.int ee), .val (.long q6), .second, .val (.int (q6.toInt32)), .val (.int (0 : Int32)), .val (.ref b1), .val (.ref b3), .val (.ref b5), .val (.ref b7), .val (.int (8 : Int32)), .val (.int (1 : Int32)), .val (.int (1 : Int32))] [(.int (1 : Int32))])) τ
      exact κ)
    obtain ⟨fs, hr, hrun, hended, hW, hsame⟩ := X17.leave (v := some (.int (1 : Int32))) (fun h => by rw [Bd.returns] at h; cases h)
    refine hGL ⟨_, _, hG _ (pre _ ?_), hrun, hended, _, _, rfl, ?_, ⟨_, rfl⟩, hW, hsame.mono (by decide) (by decide)⟩
    · exact retN X17 hx (t := .boolean) Bd.returns (by simp) (hb hby at_177) hr
    · show Q0 Z a b cc d ee q6 h0 n0 _ T17.heap _
      rw [hs17]
      exact ⟨rfl, NN⟩
  ·
    have pre : ∀ τ, Steps p.tables e below (s₁.setTop (mkF m 19 #[.val (.int a), .val (.int b), .val (.int cc), .val (.int d), .val (.int ee), .val (.long q6), .second, .val (.int (q6.toInt32)), .val (.int (1 : Int32)), .unset, .unset, .unset, .unset, .unset, .unset, .unset] [])) τ → G τ := (show (((((q6.toUInt64 >>> ((32 : Int32) &&& 0x3f).toInt64.toUInt64).toInt64) &&& (2147483647 : Int64)).toInt32) % (3 : Int32)) = (1 : Int32) from hk) ▸ pre
    obtain ⟨T21, h21, X21, e21, E21, A21, D21, -, st21⟩ := newO X0 hx hZ hown (hw _ (List.mem_of_getElem? (i := 1) rfl)) (hw _ (List.mem_of_getElem? (i := 2) rfl)) (hw _ (List.mem_of_getElem? (i := 3) rfl)) e0 (g := (mkF m 19 #[.val (.int a), .val (.int b), .val (.int cc), .val (.int d), .val (.int ee), .val (.long q6), .second, .val (.int (q6.toInt32)), .val (.int (1 : Int32)), .unset, .unset, .unset, .unset, .unset, .unset, .unset] [])) rfl (hb hby at_19) (by decide) (by decide)
    obtain ⟨b21, gg21⟩ : ∃ z, z = h0.size := ⟨_, rfl⟩
    rw [← gg21] at A21 D21 st21
    have g_b21 : n0 ≤ b21 := Nat.le_trans Zn (Nat.le_of_eq gg21.symm)
    have Zn : n0 ≤ h21.size := Nat.le_trans Zn E21.1
    have F_longs_b21 : Fld Z h21 b21 "com/example/cooldown/cooldown/policy/FieldColumn$Shape" "longs" "I" (.int (0 : Int32)) := D21 (Or.inr (hw _ (List.mem_of_getElem? (i := 11) rfl))) (ty := .int) (by decide)
    have F_ints_b21 : Fld Z h21 b21 "com/example/cooldown/cooldown/policy/FieldColumn$Shape" "ints" "I" (.int (0 : Int32)) := D21 (Or.inr (hw _ (List.mem_of_getElem? (i := 13) rfl))) (ty := .int) (by decide)
    have F_objects_b21 : Fld Z h21 b21 "com/example/cooldown/cooldown/policy/FieldColumn$Shape" "objects" "I" (.int (0 : Int32)) := D21 (Or.inr (hw _ (List.mem_of_getElem? (i := 15) rfl))) (ty := .int) (by decide)
    have E_b21 := A21
    have pre : ∀ τ, Steps p.tables e below (T21.setTop (mkF m 22 #[.val (.int a), .val (.int b), .val (.int cc), .val (.int d), .val (.int ee), .val (.long q6), .second, .val (.int (q6.toInt32)), .val (.int (1 : Int32)), .unset, .unset, .unset, .unset, .unset, .unset, .unset] [(.ref b21)])) τ → G τ := fun τ κ => pre τ (st21 τ κ)
    have pre : ∀ τ, Steps p.tables e below (T21.setTop (mkF m 26 #[.val (.int a), .val (.int b), .val (.int cc), .val (.int d), .val (.int ee), .val (.long q6), .second, .val (.int (q6.toInt32)), .val (.int (1 : Int32)), .unset, .unset, .unset, .unset, .unset, .unset, .unset] [(.int cc), (.int b), (.int a), (.ref b21), (.ref b21)])) τ → G τ := fun τ κ => pre τ (by
      refine XS.dup X21.here hx rfl (hb hby at_22) rfl rfl ?_
      show Steps p.tables e below (T21.setTop (mkF m 23 #[.val (.int a), .val (.int b), .val (.int cc), .val (.int d), .val (.int ee), .val (.long q6), .second, .val (.int (q6.toInt32)), .val (.int (1 : Int32)), .unset, .unset, .unset, .unset, .unset, .unset, .unset] [(.ref b21), (.ref b21)])) τ
      refine XS.iloadN X21.here hx rfl (hb hby at_23) rfl ?_
      show Steps p.tables e below (T21.setTop (mkF m 24 #[.val (.int a), .val (.int b), .val (.int cc), .val (.int d), .val (.int ee), .val (.long q6), .second, .val (.int (q6.toInt32)), .val (.int (1 : Int32)), .unset, .unset, .unset, .unset, .unset, .unset, .unset] [(.int a), (.ref b21), (.ref b21)])) τ
      refine XS.iloadN X21.here hx rfl (hb hby at_24) rfl ?_
      show Steps p.tables e below (T21.setTop (mkF m 25 #[.val (.int a), .val (.int b), .val (.int cc), .val (.int d), .val (.int ee), .val (.long q6), .second, .val (.int (q6.toInt32)), .val (.int (1 : Int32)), .unset, .unset, .unset, .unset, .unset, .unset, .unset] [(.int b), (.int a), (.ref b21), (.ref b21)])) τ
      refine XS.iloadN X21.here hx rfl (hb hby at_25) rfl ?_
      show Steps p.tables e below (T21.setTop (mkF m 26 #[.val (.int a), .val (.int b), .val (.int cc), .val (.int d), .val (.int ee), .val (.long q6), .second, .val (.int (q6.toInt32)), .val (.int (1 : Int32)), .unset, .unset, .unset, .unset, .unset, .unset, .unset] [(.int cc), (.int b), (.int a), (.ref b21), (.ref b21)])) τ
      exact κ)
    obtain ⟨_, _, ⟨T22, Lx22, kx22, nx22⟩, -, X22, ⟨Lc22, hQ22, l22, y22, z22⟩, st22⟩ := X21.specialBack hx (y := (⟨"com/example/cooldown/cooldown/policy/FieldColumn$Shape", "<init>", "(III)V"⟩ : MethodName)) rfl hown (mvT hZ (hw _ (List.mem_of_getElem? (i := 4) rfl))) (mvT hZ (hw _ (List.mem_of_getElem? (i := 5) rfl))) (mvT hZ (hw _ (List.mem_of_getElem? (i := 6) rfl))) (by decide) (backOf (W := 1) (rm1 l Z a0 hw [] b21 a b cc (.int (0 : Int32)) (.int (0 : Int32)) (.int (0 : Int32)) h21 n0 Zn g_b21 E_b21 F_longs_b21 F_ints_b21 F_objects_b21) hZ (hw _ (List.mem_of_getElem? (i := 6) rfl)) (hw _ (List.mem_of_getElem? (i := 3) rfl)) (by decide) (by decide)) (g := (mkF m 26 #[.val (.int a), .val (.int b), .val (.int cc), .val (.int d), .val (.int ee), .val (.long q6), .second, .val (.int (q6.toInt32)), .val (.int (1 : Int32)), .unset, .unset, .unset, .unset, .unset, .unset, .unset] [(.int cc), (.int b), (.int a), (.ref b21), (.ref b21)])) rfl (by rw [hml]; rfl) (Steps.refl _) (a := b21) (argsL := [(.int a), (.int b), (.int cc)]) (rest := [(.ref b21)]) (lenOf pd_0 rfl) rfl (by show 2 * 0 + _ ≤ _; exact Nat.le_of_eq rfl) (hb hby at_26) (fun _ _ => ⟨rfl, e21, (by decide : 1 + 0 ≤ _), (by decide : 3 + 0 ≤ _)⟩)
    dsimp only [Pt.U, Pt.locs, Pt.cells, Pt.slots] at X22 l22 y22 z22 st22 hQ22
    subst l22 y22 z22
    obtain ⟨rfl, Nq22, Kc22, E_o_22, F_longs_22, F_ints_22, F_objects_22⟩ := hQ22
    have NN := Fr.app N0 Nq22
    have E_b21 : Exa Z T22.heap b21 "com/example/cooldown/cooldown/policy/FieldColumn$Shape" := E_b21.keep Kc22
    have Zn : n0 ≤ T22.heap.size := Nat.le_trans Zn Kc22.1
    have pre : ∀ τ, Steps p.tables e below (T22.setTop (mkF m 29 #[.val (.int a), .val (.int b), .val (.int cc), .val (.int d), .val (.int ee), .val (.long q6), .second, .val (.int (q6.toInt32)), .val (.int (1 : Int32)), .unset, .unset, .unset, .unset, .unset, .unset, .unset] [(.ref b21)])) τ → G τ := fun τ κ => pre τ (st22.trans κ)
    have pre : ∀ τ, Steps p.tables e below (T22.setTop (mkF m 31 #[.val (.int a), .val (.int b), .val (.int cc), .val (.int d), .val (.int ee), .val (.long q6), .second, .val (.int (q6.toInt32)), .val (.int (1 : Int32)), .val (.ref b21), .unset, .unset, .unset, .unset, .unset, .unset] [])) τ → G τ := fun τ κ => pre τ (by
      refine XS.astore X22.here hx rfl (hb hby at_29) rfl rfl (l' := #[.val (.int a), .val (.int b), .val (.int cc), .val (.int d), .val (.int ee), .val (.long q6), .second, .val (.int (q6.toInt32)), .val (.int (1 : Int32)), .val (.ref b21), .unset, .unset, .unset, .unset, .unset, .unset]) rfl ?_
      show Steps p.tables e below (T22.setTop (mkF m 31 #[.val (.int a), .val (.int b), .val (.int cc), .val (.int d), .val (.int ee), .val (.long q6), .second, .val (.int (q6.toInt32)), .val (.int (1 : Int32)), .val (.ref b21), .unset, .unset, .unset, .unset, .unset, .unset] [])) τ
      exact κ)
    obtain ⟨T23, h23, X23, e23, E23, A23, D23, -, st23⟩ := newO X22 hx hZ hown (hw _ (List.mem_of_getElem? (i := 1) rfl)) (hw _ (List.mem_of_getElem? (i := 2) rfl)) (hw _ (List.mem_of_getElem? (i := 3) rfl)) rfl (g := (mkF m 31 #[.val (.int a), .val (.int b), .val (.int cc), .val (.int d), .val (.int ee), .val (.long q6), .second, .val (.int (q6.toInt32)), .val (.int (1 : Int32)), .val (.ref b21), .unset, .unset, .unset, .unset, .unset, .unset] [])) rfl (hb hby at_31) (by decide) (by decide)
    obtain ⟨b23, gg23⟩ : ∃ z, z = T22.heap.size := ⟨_, rfl⟩
    rw [← gg23] at A23 D23 st23
    have ne_b21_b23 : b21 ≠ b23 := Nat.ne_of_lt (Nat.lt_of_lt_of_le E_b21.lt (Nat.le_of_eq gg23.symm))
    have g_b23 : n0 ≤ b23 := Nat.le_trans Zn (Nat.le_of_eq gg23.symm)
    have E_b21 : Exa Z h23 b21 "com/example/cooldown/cooldown/policy/FieldColumn$Shape" := E_b21.ext E23
    have E_o_22 : Exa Z h23 b21 "com/example/cooldown/cooldown/policy/FieldColumn$Shape" := E_o_22.ext E23
    have F_longs_22 : Fld Z h23 b21 "com/example/cooldown/cooldown/policy/FieldColumn$Shape" "longs" "I" (.int a) := F_longs_22.ext E23
    have F_ints_22 : Fld Z h23 b21 "com/example/cooldown/cooldown/policy/FieldColumn$Shape" "ints" "I" (.int b) := F_ints_22.ext E23
    have F_objects_22 : Fld Z h23 b21 "com/example/cooldown/cooldown/policy/FieldColumn$Shape" "objects" "I" (.int cc) := F_objects_22.ext E23
    have Zn : n0 ≤ h23.size := Nat.le_trans Zn E23.1
    have F_longs_b23 : Fld Z h23 b23 "com/example/cooldown/cooldown/policy/FieldColumn$Shape" "longs" "I" (.int (0 : Int32)) := D23 (Or.inr (hw _ (List.mem_of_getElem? (i := 11) rfl))) (ty := .int) (by decide)
    have F_ints_b23 : Fld Z h23 b23 "com/example/cooldown/cooldown/policy/FieldColumn$Shape" "ints" "I" (.int (0 : Int32)) := D23 (Or.inr (hw _ (List.mem_of_getElem? (i := 13) rfl))) (ty := .int) (by decide)
    have F_objects_b23 : Fld Z h23 b23 "com/example/cooldown/cooldown/policy/FieldColumn$Shape" "objects" "I" (.int (0 : Int32)) := D23 (Or.inr (hw _ (List.mem_of_getElem? (i := 15) rfl))) (ty := .int) (by decide)
    have E_b23 := A23
    have pre : ∀ τ, Steps p.tables e below (T23.setTop (mkF m 34 #[.val (.int a), .val (.int b), .val (.int cc), .val (.int d), .val (.int ee), .val (.long q6), .second, .val (.int (q6.toInt32)), .val (.int (1 : Int32)), .val (.ref b21), .unset, .unset, .unset, .unset, .unset, .unset] [(.ref b23)])) τ → G τ := fun τ κ => pre τ (st23 τ κ)
    have pre : ∀ τ, Steps p.tables e below (T23.setTop (mkF m 40 #[.val (.int a), .val (.int b), .val (.int cc), .val (.int d), .val (.int ee), .val (.long q6), .second, .val (.int (q6.toInt32)), .val (.int (1 : Int32)), .val (.ref b21), .unset, .unset, .unset, .unset, .unset, .unset] [(.int (q6.toInt32)), (.int ee), (.int d), (.ref b23), (.ref b23)])) τ → G τ := fun τ κ => pre τ (by
      refine XS.dup X23.here hx rfl (hb hby at_34) rfl rfl ?_
      show Steps p.tables e below (T23.setTop (mkF m 35 #[.val (.int a), .val (.int b), .val (.int cc), .val (.int d), .val (.int ee), .val (.long q6), .second, .val (.int (q6.toInt32)), .val (.int (1 : Int32)), .val (.ref b21), .unset, .unset, .unset, .unset, .unset, .unset] [(.ref b23), (.ref b23)])) τ
      refine XS.iloadN X23.here hx rfl (hb hby at_35) rfl ?_
      show Steps p.tables e below (T23.setTop (mkF m 36 #[.val (.int a), .val (.int b), .val (.int cc), .val (.int d), .val (.int ee), .val (.long q6), .second, .val (.int (q6.toInt32)), .val (.int (1 : Int32)), .val (.ref b21), .unset, .unset, .unset, .unset, .unset, .unset] [(.int d), (.ref b23), (.ref b23)])) τ
      refine XS.iload X23.here hx rfl (hb hby at_36) rfl ?_
      show Steps p.tables e below (T23.setTop (mkF m 38 #[.val (.int a), .val (.int b), .val (.int cc), .val (.int d), .val (.int ee), .val (.long q6), .second, .val (.int (q6.toInt32)), .val (.int (1 : Int32)), .val (.ref b21), .unset, .unset, .unset, .unset, .unset, .unset] [(.int ee), (.int d), (.ref b23), (.ref b23)])) τ
      refine XS.iload X23.here hx rfl (hb hby at_38) rfl ?_
      show Steps p.tables e below (T23.setTop (mkF m 40 #[.val (.int a), .val (.int b), .val (.int cc), .val (.int d), .val (.int ee), .val (.long q6), .second, .val (.int (q6.toInt32)), .val (.int (1 : Int32)), .val (.ref b21), .unset, .unset, .unset, .unset, .unset, .unset] [(.int (q6.toInt32)), (.int ee), (.int d), (.ref b23), (.ref b23)])) τ
      exact κ)
    obtain ⟨_, _, ⟨T24, Lx24, kx24, nx24⟩, -, X24, ⟨Lc24, hQ24, l24, y24, z24⟩, st24⟩ := X23.specialBack hx (y := (⟨"com/example/cooldown/cooldown/policy/FieldColumn$Shape", "<init>", "(III)V"⟩ : MethodName)) rfl hown (mvT hZ (hw _ (List.mem_of_getElem? (i := 4) rfl))) (mvT hZ (hw _ (List.mem_of_getElem? (i := 5) rfl))) (mvT hZ (hw _ (List.mem_of_getElem? (i := 6) rfl))) (by decide) (backOf (W := 1) (rm1 l Z a0 hw [] b23 d ee (q6.toInt32) (.int (0 : Int32)) (.int (0 : Int32)) (.int (0 : Int32)) h23 n0 Zn g_b23 E_b23 F_longs_b23 F_ints_b23 F_objects_b23) hZ (hw _ (List.mem_of_getElem? (i := 6) rfl)) (hw _ (List.mem_of_getElem? (i := 3) rfl)) (by decide) (by decide)) (g := (mkF m 40 #[.val (.int a), .val (.int b), .val (.int cc), .val (.int d), .val (.int ee), .val (.long q6), .second, .val (.int (q6.toInt32)), .val (.int (1 : Int32)), .val (.ref b21), .unset, .unset, .unset, .unset, .unset, .unset] [(.int (q6.toInt32)), (.int ee), (.int d), (.ref b23), (.ref b23)])) rfl (by rw [hml]; rfl) (Steps.refl _) (a := b23) (argsL := [(.int d), (.int ee), (.int (q6.toInt32))]) (rest := [(.ref b23)]) (lenOf pd_0 rfl) rfl (by show 2 * 0 + _ ≤ _; exact Nat.le_of_eq rfl) (hb hby at_40) (fun _ _ => ⟨rfl, e23, (by decide : 2 + 0 ≤ _), (by decide : 6 + 0 ≤ _)⟩)
    dsimp only [Pt.U, Pt.locs, Pt.cells, Pt.slots] at X24 l24 y24 z24 st24 hQ24
    subst l24 y24 z24
    obtain ⟨rfl, Nq24, Kc24, E_o_24, F_longs_24, F_ints_24, F_objects_24⟩ := hQ24
    have NN := Fr.app NN Nq24
    have E_b21 : Exa Z T24.heap b21 "com/example/cooldown/cooldown/policy/FieldColumn$Shape" := E_b21.keep Kc24
    have E_o_22 : Exa Z T24.heap b21 "com/example/cooldown/cooldown/policy/FieldColumn$Shape" := E_o_22.keep Kc24
    have F_longs_22 : Fld Z T24.heap b21 "com/example/cooldown/cooldown/policy/FieldColumn$Shape" "longs" "I" (.int a) := F_longs_22.keep Kc24 (ninS ne_b21_b23 nin0)
    have F_ints_22 : Fld Z T24.heap b21 "com/example/cooldown/cooldown/policy/FieldColumn$Shape" "ints" "I" (.int b) := F_ints_22.keep Kc24 (ninS ne_b21_b23 nin0)
    have F_objects_22 : Fld Z T24.heap b21 "com/example/cooldown/cooldown/policy/FieldColumn$Shape" "objects" "I" (.int cc) := F_objects_22.keep Kc24 (ninS ne_b21_b23 nin0)
    have E_b23 : Exa Z T24.heap b23 "com/example/cooldown/cooldown/policy/FieldColumn$Shape" := E_b23.keep Kc24
    have Zn : n0 ≤ T24.heap.size := Nat.le_trans Zn Kc24.1
    have pre : ∀ τ, Steps p.tables e below (T24.setTop (mkF m 43 #[.val (.int a), .val (.int b), .val (.int cc), .val (.int d), .val (.int ee), .val (.long q6), .second, .val (.int (q6.toInt32)), .val (.int (1 : Int32)), .val (.ref b21), .unset, .unset, .unset, .unset, .unset, .unset] [(.ref b23)])) τ → G τ := fun τ κ => pre τ (st24.trans κ)
    have pre : ∀ τ, Steps p.tables e below (T24.setTop (mkF m 45 #[.val (.int a), .val (.int b), .val (.int cc), .val (.int d), .val (.int ee), .val (.long q6), .second, .val (.int (q6.toInt32)), .val (.int (1 : Int32)), .val (.ref b21), .val (.ref b23), .unset, .unset, .unset, .unset, .unset] [])) τ → G τ := fun τ κ => pre τ (by
      refine XS.astore X24.here hx rfl (hb hby at_43) rfl rfl (l' := #[.val (.int a), .val (.int b), .val (.int cc), .val (.int d), .val (.int ee), .val (.long q6), .second, .val (.int (q6.toInt32)), .val (.int (1 : Int32)), .val (.ref b21), .val (.ref b23), .unset, .unset, .unset, .unset, .unset]) rfl ?_
      show Steps p.tables e below (T24.setTop (mkF m 45 #[.val (.int a), .val (.int b), .val (.int cc), .val (.int d), .val (.int ee), .val (.long q6), .second, .val (.int (q6.toInt32)), .val (.int (1 : Int32)), .val (.ref b21), .val (.ref b23), .unset, .unset, .unset, .unset, .unset] [])) τ
      exact κ)
    obtain ⟨T25, h25, X25, e25, E25, A25, D25, -, st25⟩ := newO X24 hx hZ hown (hw _ (List.mem_of_getElem? (i := 1) rfl)) (hw _ (List.mem_of_getElem? (i := 2) rfl)) (hw _ (List.mem_of_getElem? (i := 3) rfl)) rfl (g := (mkF m 45 #[.val (.int a), .val (.int b), .val (.int cc), .val (.int d), .val (.int ee), .val (.long q6), .second, .val (.int (q6.toInt32)), .val (.int (1 : Int32)), .val (.ref b21), .val (.ref b23), .unset, .unset, .unset, .unset, .unset] [])) rfl (hb hby at_45) (by decide) (by decide)
    obtain ⟨b25, gg25⟩ : ∃ z, z = T24.heap.size := ⟨_, rfl⟩
    rw [← gg25] at A25 D25 st25
    have ne_b21_b25 : b21 ≠ b25 := Nat.ne_of_lt (Nat.lt_of_lt_of_le E_b21.lt (Nat.le_of_eq gg25.symm))
    have ne_b23_b25 : b23 ≠ b25 := Nat.ne_of_lt (Nat.lt_of_lt_of_le E_b23.lt (Nat.le_of_eq gg25.symm))
    have g_b25 : n0 ≤ b25 := Nat.le_trans Zn (Nat.le_of_eq gg25.symm)
    have E_b21 : Exa Z h25 b21 "com/example/cooldown/cooldown/policy/FieldColumn$Shape" := E_b21.ext E25
    have E_o_22 : Exa Z h25 b21 "com/example/cooldown/cooldown/policy/FieldColumn$Shape" := E_o_22.ext E25
    have F_longs_22 : Fld Z h25 b21 "com/example/cooldown/cooldown/policy/FieldColumn$Shape" "longs" "I" (.int a) := F_longs_22.ext E25
    have F_ints_22 : Fld Z h25 b21 "com/example/cooldown/cooldown/policy/FieldColumn$Shape" "ints" "I" (.int b) := F_ints_22.ext E25
    have F_objects_22 : Fld Z h25 b21 "com/example/cooldown/cooldown/policy/FieldColumn$Shape" "objects" "I" (.int cc) := F_objects_22.ext E25
    have E_b23 : Exa Z h25 b23 "com/example/cooldown/cooldown/policy/FieldColumn$Shape" := E_b23.ext E25
    have E_o_24 : Exa Z h25 b23 "com/example/cooldown/cooldown/policy/FieldColumn$Shape" := E_o_24.ext E25
    have F_longs_24 : Fld Z h25 b23 "com/example/cooldown/cooldown/policy/FieldColumn$Shape" "longs" "I" (.int d) := F_longs_24.ext E25
    have F_ints_24 : Fld Z h25 b23 "com/example/cooldown/cooldown/policy/FieldColumn$Shape" "ints" "I" (.int ee) := F_ints_24.ext E25
    have F_objects_24 : Fld Z h25 b23 "com/example/cooldown/cooldown/policy/FieldColumn$Shape" "objects" "I" (.int (q6.toInt32)) := F_objects_24.ext E25
    have Zn : n0 ≤ h25.size := Nat.le_trans Zn E25.1
    have F_longs_b25 : Fld Z h25 b25 "com/example/cooldown/cooldown/policy/FieldColumn$Shape" "longs" "I" (.int (0 : Int32)) := D25 (Or.inr (hw _ (List.mem_of_getElem? (i := 11) rfl))) (ty := .int) (by decide)
    have F_ints_b25 : Fld Z h25 b25 "com/example/cooldown/cooldown/policy/FieldColumn$Shape" "ints" "I" (.int (0 : Int32)) := D25 (Or.inr (hw _ (List.mem_of_getElem? (i := 13) rfl))) (ty := .int) (by decide)
    have F_objects_b25 : Fld Z h25 b25 "com/example/cooldown/cooldown/policy/FieldColumn$Shape" "objects" "I" (.int (0 : Int32)) := D25 (Or.inr (hw _ (List.mem_of_getElem? (i := 15) rfl))) (ty := .int) (by decide)
    have E_b25 := A25
    have pre : ∀ τ, Steps p.tables e below (T25.setTop (mkF m 48 #[.val (.int a), .val (.int b), .val (.int cc), .val (.int d), .val (.int ee), .val (.long q6), .second, .val (.int (q6.toInt32)), .val (.int (1 : Int32)), .val (.ref b21), .val (.ref b23), .unset, .unset, .unset, .unset, .unset] [(.ref b25)])) τ → G τ := fun τ κ => pre τ (st25 τ κ)
    have pre : ∀ τ, Steps p.tables e below (T25.setTop (mkF m 60 #[.val (.int a), .val (.int b), .val (.int cc), .val (.int d), .val (.int ee), .val (.long q6), .second, .val (.int (q6.toInt32)), .val (.int (1 : Int32)), .val (.ref b21), .val (.ref b23), .unset, .unset, .unset, .unset, .unset] [(.int (cc + (q6.toInt32))), (.int (b + ee)), (.int (a + d)), (.ref b25), (.ref b25)])) τ → G τ := fun τ κ => pre τ (by
      refine XS.dup X25.here hx rfl (hb hby at_48) rfl rfl ?_
      show Steps p.tables e below (T25.setTop (mkF m 49 #[.val (.int a), .val (.int b), .val (.int cc), .val (.int d), .val (.int ee), .val (.long q6), .second, .val (.int (q6.toInt32)), .val (.int (1 : Int32)), .val (.ref b21), .val (.ref b23), .unset, .unset, .unset, .unset, .unset] [(.ref b25), (.ref b25)])) τ
      refine XS.iloadN X25.here hx rfl (hb hby at_49) rfl ?_
      show Steps p.tables e below (T25.setTop (mkF m 50 #[.val (.int a), .val (.int b), .val (.int cc), .val (.int d), .val (.int ee), .val (.long q6), .second, .val (.int (q6.toInt32)), .val (.int (1 : Int32)), .val (.ref b21), .val (.ref b23), .unset, .unset, .unset, .unset, .unset] [(.int a), (.ref b25), (.ref b25)])) τ
      refine XS.iloadN X25.here hx rfl (hb hby at_50) rfl ?_
      show Steps p.tables e below (T25.setTop (mkF m 51 #[.val (.int a), .val (.int b), .val (.int cc), .val (.int d), .val (.int ee), .val (.long q6), .second, .val (.int (q6.toInt32)), .val (.int (1 : Int32)), .val (.ref b21), .val (.ref b23), .unset, .unset, .unset, .unset, .unset] [(.int d), (.int a), (.ref b25), (.ref b25)])) τ
      refine XS.iadd X25.here hx rfl (hb hby at_51) rfl ?_
      show Steps p.tables e below (T25.setTop (mkF m 52 #[.val (.int a), .val (.int b), .val (.int cc), .val (.int d), .val (.int ee), .val (.long q6), .second, .val (.int (q6.toInt32)), .val (.int (1 : Int32)), .val (.ref b21), .val (.ref b23), .unset, .unset, .unset, .unset, .unset] [(.int (a + d)), (.ref b25), (.ref b25)])) τ
      refine XS.iloadN X25.here hx rfl (hb hby at_52) rfl ?_
      show Steps p.tables e below (T25.setTop (mkF m 53 #[.val (.int a), .val (.int b), .val (.int cc), .val (.int d), .val (.int ee), .val (.long q6), .second, .val (.int (q6.toInt32)), .val (.int (1 : Int32)), .val (.ref b21), .val (.ref b23), .unset, .unset, .unset, .unset, .unset] [(.int b), (.int (a + d)), (.ref b25), (.ref b25)])) τ
      refine XS.iload X25.here hx rfl (hb hby at_53) rfl ?_
      show Steps p.tables e below (T25.setTop (mkF m 55 #[.val (.int a), .val (.int b), .val (.int cc), .val (.int d), .val (.int ee), .val (.long q6), .second, .val (.int (q6.toInt32)), .val (.int (1 : Int32)), .val (.ref b21), .val (.ref b23), .unset, .unset, .unset, .unset, .unset] [(.int ee), (.int b), (.int (a + d)), (.ref b25), (.ref b25)])) τ
      refine XS.iadd X25.here hx rfl (hb hby at_55) rfl ?_
      show Steps p.tables e below (T25.setTop (mkF m 56 #[.val (.int a), .val (.int b), .val (.int cc), .val (.int d), .val (.int ee), .val (.long q6), .second, .val (.int (q6.toInt32)), .val (.int (1 : Int32)), .val (.ref b21), .val (.ref b23), .unset, .unset, .unset, .unset, .unset] [(.int (b + ee)), (.int (a + d)), (.ref b25), (.ref b25)])) τ
      refine XS.iloadN X25.here hx rfl (hb hby at_56) rfl ?_
      show Steps p.tables e below (T25.setTop (mkF m 57 #[.val (.int a), .val (.int b), .val (.int cc), .val (.int d), .val (.int ee), .val (.long q6), .second, .val (.int (q6.toInt32)), .val (.int (1 : Int32)), .val (.ref b21), .val (.ref b23), .unset, .unset, .unset, .unset, .unset] [(.int cc), (.int (b + ee)), (.int (a + d)), (.ref b25), (.ref b25)])) τ
      refine XS.iload X25.here hx rfl (hb hby at_57) rfl ?_
      show Steps p.tables e below (T25.setTop (mkF m 59 #[.val (.int a), .val (.int b), .val (.int cc), .val (.int d), .val (.int ee), .val (.long q6), .second, .val (.int (q6.toInt32)), .val (.int (1 : Int32)), .val (.ref b21), .val (.ref b23), .unset, .unset, .unset, .unset, .unset] [(.int (q6.toInt32)), (.int cc), (.int (b + ee)), (.int (a + d)), (.ref b25), (.ref b25)])) τ
      refine XS.iadd X25.here hx rfl (hb hby at_59) rfl ?_
      show Steps p.tables e below (T25.setTop (mkF m 60 #[.val (.int a), .val (.int b), .val (.int cc), .val (.int d), .val (.int ee), .val (.long q6), .second, .val (.int (q6.toInt32)), .val (.int (1 : Int32)), .val (.ref b21), .val (.ref b23), .unset, .unset, .unset, .unset, .unset] [(.int (cc + (q6.toInt32))), (.int (b + ee)), (.int (a + d)), (.ref b25), (.ref b25)])) τ
      exact κ)
    obtain ⟨_, _, ⟨T26, Lx26, kx26, nx26⟩, -, X26, ⟨Lc26, hQ26, l26, y26, z26⟩, st26⟩ := X25.specialBack hx (y := (⟨"com/example/cooldown/cooldown/policy/FieldColumn$Shape", "<init>", "(III)V"⟩ : MethodName)) rfl hown (mvT hZ (hw _ (List.mem_of_getElem? (i := 4) rfl))) (mvT hZ (hw _ (List.mem_of_getElem? (i := 5) rfl))) (mvT hZ (hw _ (List.mem_of_getElem? (i := 6) rfl))) (by decide) (backOf (W := 1) (rm1 l Z a0 hw [] b25 (a + d) (b + ee) (cc + (q6.toInt32)) (.int (0 : Int32)) (.int (0 : Int32)) (.int (0 : Int32)) h25 n0 Zn g_b25 E_b25 F_longs_b25 F_ints_b25 F_objects_b25) hZ (hw _ (List.mem_of_getElem? (i := 6) rfl)) (hw _ (List.mem_of_getElem? (i := 3) rfl)) (by decide) (by decide)) (g := (mkF m 60 #[.val (.int a), .val (.int b), .val (.int cc), .val (.int d), .val (.int ee), .val (.long q6), .second, .val (.int (q6.toInt32)), .val (.int (1 : Int32)), .val (.ref b21), .val (.ref b23), .unset, .unset, .unset, .unset, .unset] [(.int (cc + (q6.toInt32))), (.int (b + ee)), (.int (a + d)), (.ref b25), (.ref b25)])) rfl (by rw [hml]; rfl) (Steps.refl _) (a := b25) (argsL := [(.int (a + d)), (.int (b + ee)), (.int (cc + (q6.toInt32)))]) (rest := [(.ref b25)]) (lenOf pd_0 rfl) rfl (by show 2 * 0 + _ ≤ _; exact Nat.le_of_eq rfl) (hb hby at_60) (fun _ _ => ⟨rfl, e25, (by decide : 3 + 0 ≤ _), (by decide : 9 + 0 ≤ _)⟩)
    dsimp only [Pt.U, Pt.locs, Pt.cells, Pt.slots] at X26 l26 y26 z26 st26 hQ26
    subst l26 y26 z26
    obtain ⟨rfl, Nq26, Kc26, E_o_26, F_longs_26, F_ints_26, F_objects_26⟩ := hQ26
    have NN := Fr.app NN Nq26
    have E_b21 : Exa Z T26.heap b21 "com/example/cooldown/cooldown/policy/FieldColumn$Shape" := E_b21.keep Kc26
    have E_o_22 : Exa Z T26.heap b21 "com/example/cooldown/cooldown/policy/FieldColumn$Shape" := E_o_22.keep Kc26
    have F_longs_22 : Fld Z T26.heap b21 "com/example/cooldown/cooldown/policy/FieldColumn$Shape" "longs" "I" (.int a) := F_longs_22.keep Kc26 (ninS ne_b21_b25 nin0)
    have F_ints_22 : Fld Z T26.heap b21 "com/example/cooldown/cooldown/policy/FieldColumn$Shape" "ints" "I" (.int b) := F_ints_22.keep Kc26 (ninS ne_b21_b25 nin0)
    have F_objects_22 : Fld Z T26.heap b21 "com/example/cooldown/cooldown/policy/FieldColumn$Shape" "objects" "I" (.int cc) := F_objects_22.keep Kc26 (ninS ne_b21_b25 nin0)
    have E_b23 : Exa Z T26.heap b23 "com/example/cooldown/cooldown/policy/FieldColumn$Shape" := E_b23.keep Kc26
    have E_o_24 : Exa Z T26.heap b23 "com/example/cooldown/cooldown/policy/FieldColumn$Shape" := E_o_24.keep Kc26
    have F_longs_24 : Fld Z T26.heap b23 "com/example/cooldown/cooldown/policy/FieldColumn$Shape" "longs" "I" (.int d) := F_longs_24.keep Kc26 (ninS ne_b23_b25 nin0)
    have F_ints_24 : Fld Z T26.heap b23 "com/example/cooldown/cooldown/policy/FieldColumn$Shape" "ints" "I" (.int ee) := F_ints_24.keep Kc26 (ninS ne_b23_b25 nin0)
    have F_objects_24 : Fld Z T26.heap b23 "com/example/cooldown/cooldown/policy/FieldColumn$Shape" "objects" "I" (.int (q6.toInt32)) := F_objects_24.keep Kc26 (ninS ne_b23_b25 nin0)
    have E_b25 : Exa Z T26.heap b25 "com/example/cooldown/cooldown/policy/FieldColumn$Shape" := E_b25.keep Kc26
    have Zn : n0 ≤ T26.heap.size := Nat.le_trans Zn Kc26.1
    have pre : ∀ τ, Steps p.tables e below (T26.setTop (mkF m 63 #[.val (.int a), .val (.int b), .val (.int cc), .val (.int d), .val (.int ee), .val (.long q6), .second, .val (.int (q6.toInt32)), .val (.int (1 : Int32)), .val (.ref b21), .val (.ref b23), .unset, .unset, .unset, .unset, .unset] [(.ref b25)])) τ → G τ := fun τ κ => pre τ (st26.trans κ)
    have pre : ∀ τ, Steps p.tables e below (T26.setTop (mkF m 65 #[.val (.int a), .val (.int b), .val (.int cc), .val (.int d), .val (.int ee), .val (.long q6), .second, .val (.int (q6.toInt32)), .val (.int (1 : Int32)), .val (.ref b21), .val (.ref b23), .val (.ref b25), .unset, .unset, .unset, .unset] [])) τ → G τ := fun τ κ => pre τ (by
      refine XS.astore X26.here hx rfl (hb hby at_63) rfl rfl (l' := #[.val (.int a), .val (.int b), .val (.int cc), .val (.int d), .val (.int ee), .val (.long q6), .second, .val (.int (q6.toInt32)), .val (.int (1 : Int32)), .val (.ref b21), .val (.ref b23), .val (.ref b25), .unset, .unset, .unset, .unset]) rfl ?_
      show Steps p.tables e below (T26.setTop (mkF m 65 #[.val (.int a), .val (.int b), .val (.int cc), .val (.int d), .val (.int ee), .val (.long q6), .second, .val (.int (q6.toInt32)), .val (.int (1 : Int32)), .val (.ref b21), .val (.ref b23), .val (.ref b25), .unset, .unset, .unset, .unset] [])) τ
      exact κ)
    obtain ⟨T27, h27, X27, e27, E27, A27, D27, -, st27⟩ := newO X26 hx hZ hown (hw _ (List.mem_of_getElem? (i := 1) rfl)) (hw _ (List.mem_of_getElem? (i := 2) rfl)) (hw _ (List.mem_of_getElem? (i := 3) rfl)) rfl (g := (mkF m 65 #[.val (.int a), .val (.int b), .val (.int cc), .val (.int d), .val (.int ee), .val (.long q6), .second, .val (.int (q6.toInt32)), .val (.int (1 : Int32)), .val (.ref b21), .val (.ref b23), .val (.ref b25), .unset, .unset, .unset, .unset] [])) rfl (hb hby at_65) (by decide) (by decide)
    obtain ⟨b27, gg27⟩ : ∃ z, z = T26.heap.size := ⟨_, rfl⟩
    rw [← gg27] at A27 D27 st27
    have ne_b21_b27 : b21 ≠ b27 := Nat.ne_of_lt (Nat.lt_of_lt_of_le E_b21.lt (Nat.le_of_eq gg27.symm))
    have ne_b23_b27 : b23 ≠ b27 := Nat.ne_of_lt (Nat.lt_of_lt_of_le E_b23.lt (Nat.le_of_eq gg27.symm))
    have ne_b25_b27 : b25 ≠ b27 := Nat.ne_of_lt (Nat.lt_of_lt_of_le E_b25.lt (Nat.le_of_eq gg27.symm))
    have g_b27 : n0 ≤ b27 := Nat.le_trans Zn (Nat.le_of_eq gg27.symm)
    have E_b21 : Exa Z h27 b21 "com/example/cooldown/cooldown/policy/FieldColumn$Shape" := E_b21.ext E27
    have E_o_22 : Exa Z h27 b21 "com/example/cooldown/cooldown/policy/FieldColumn$Shape" := E_o_22.ext E27
    have F_longs_22 : Fld Z h27 b21 "com/example/cooldown/cooldown/policy/FieldColumn$Shape" "longs" "I" (.int a) := F_longs_22.ext E27
    have F_ints_22 : Fld Z h27 b21 "com/example/cooldown/cooldown/policy/FieldColumn$Shape" "ints" "I" (.int b) := F_ints_22.ext E27
    have F_objects_22 : Fld Z h27 b21 "com/example/cooldown/cooldown/policy/FieldColumn$Shape" "objects" "I" (.int cc) := F_objects_22.ext E27
    have E_b23 : Exa Z h27 b23 "com/example/cooldown/cooldown/policy/FieldColumn$Shape" := E_b23.ext E27
    have E_o_24 : Exa Z h27 b23 "com/example/cooldown/cooldown/policy/FieldColumn$Shape" := E_o_24.ext E27
    have F_longs_24 : Fld Z h27 b23 "com/example/cooldown/cooldown/policy/FieldColumn$Shape" "longs" "I" (.int d) := F_longs_24.ext E27
    have F_ints_24 : Fld Z h27 b23 "com/example/cooldown/cooldown/policy/FieldColumn$Shape" "ints" "I" (.int ee) := F_ints_24.ext E27
    have F_objects_24 : Fld Z h27 b23 "com/example/cooldown/cooldown/policy/FieldColumn$Shape" "objects" "I" (.int (q6.toInt32)) := F_objects_24.ext E27
    have E_b25 : Exa Z h27 b25 "com/example/cooldown/cooldown/policy/FieldColumn$Shape" := E_b25.ext E27
    have E_o_26 : Exa Z h27 b25 "com/example/cooldown/cooldown/policy/FieldColumn$Shape" := E_o_26.ext E27
    have F_longs_26 : Fld Z h27 b25 "com/example/cooldown/cooldown/policy/FieldColumn$Shape" "longs" "I" (.int (a + d)) := F_longs_26.ext E27
    have F_ints_26 : Fld Z h27 b25 "com/example/cooldown/cooldown/policy/FieldColumn$Shape" "ints" "I" (.int (b + ee)) := F_ints_26.ext E27
    have F_objects_26 : Fld Z h27 b25 "com/example/cooldown/cooldown/policy/FieldColumn$Shape" "objects" "I" (.int (cc + (q6.toInt32))) := F_objects_26.ext E27
    have Zn : n0 ≤ h27.size := Nat.le_trans Zn E27.1
    have F_longs_b27 : Fld Z h27 b27 "com/example/cooldown/cooldown/policy/FieldColumn$Shape" "longs" "I" (.int (0 : Int32)) := D27 (Or.inr (hw _ (List.mem_of_getElem? (i := 11) rfl))) (ty := .int) (by decide)
    have F_ints_b27 : Fld Z h27 b27 "com/example/cooldown/cooldown/policy/FieldColumn$Shape" "ints" "I" (.int (0 : Int32)) := D27 (Or.inr (hw _ (List.mem_of_getElem? (i := 13) rfl))) (ty := .int) (by decide)
    have F_objects_b27 : Fld Z h27 b27 "com/example/cooldown/cooldown/policy/FieldColumn$Shape" "objects" "I" (.int (0 : Int32)) := D27 (Or.inr (hw _ (List.mem_of_getElem? (i := 15) rfl))) (ty := .int) (by decide)
    have E_b27 := A27
    have pre : ∀ τ, Steps p.tables e below (T27.setTop (mkF m 68 #[.val (.int a), .val (.int b), .val (.int cc), .val (.int d), .val (.int ee), .val (.long q6), .second, .val (.int (q6.toInt32)), .val (.int (1 : Int32)), .val (.ref b21), .val (.ref b23), .val (.ref b25), .unset, .unset, .unset, .unset] [(.ref b27)])) τ → G τ := fun τ κ => pre τ (st27 τ κ)
    have pre : ∀ τ, Steps p.tables e below (T27.setTop (mkF m 71 #[.val (.int a), .val (.int b), .val (.int cc), .val (.int d), .val (.int ee), .val (.long q6), .second, .val (.int (q6.toInt32)), .val (.int (1 : Int32)), .val (.ref b21), .val (.ref b23), .val (.ref b25), .unset, .unset, .unset, .unset] [(.int (1 : Int32)), (.ref b27), (.ref b27)])) τ → G τ := fun τ κ => pre τ (by
      refine XS.dup X27.here hx rfl (hb hby at_68) rfl rfl ?_
      show Steps p.tables e below (T27.setTop (mkF m 69 #[.val (.int a), .val (.int b), .val (.int cc), .val (.int d), .val (.int ee), .val (.long q6), .second, .val (.int (q6.toInt32)), .val (.int (1 : Int32)), .val (.ref b21), .val (.ref b23), .val (.ref b25), .unset, .unset, .unset, .unset] [(.ref b27), (.ref b27)])) τ
      refine XS.iload X27.here hx rfl (hb hby at_69) rfl ?_
      show Steps p.tables e below (T27.setTop (mkF m 71 #[.val (.int a), .val (.int b), .val (.int cc), .val (.int d), .val (.int ee), .val (.long q6), .second, .val (.int (q6.toInt32)), .val (.int (1 : Int32)), .val (.ref b21), .val (.ref b23), .val (.ref b25), .unset, .unset, .unset, .unset] [(.int (1 : Int32)), (.ref b27), (.ref b27)])) τ
      exact κ)
    have hc28 : ¬ ((1 : Int32) = (0 : Int32)) := (by decide)
    have pre : ∀ τ, Steps p.tables e below (T27.setTop (mkF m 82 #[.val (.int a), .val (.int b), .val (.int cc), .val (.int d), .val (.int ee), .val (.long q6), .second, .val (.int (q6.toInt32)), .val (.int (1 : Int32)), .val (.ref b21), .val (.ref b23), .val (.ref b25), .unset, .unset, .unset, .unset] [(.int (1 : Int32)), (.int (1 : Int32)), (.int (0 : Int32)), (.ref b27), (.ref b27)])) τ → G τ := fun τ κ => pre τ (by
      refine XS.ifYes X27.here hx rfl (pc0 := 71) (pc' := 78) rfl (hb hby at_71) rfl ((if0 _ _).trans (feq hc28).2) (by decide) (by decide) ?_
      show Steps p.tables e below (T27.setTop (mkF m 78 #[.val (.int a), .val (.int b), .val (.int cc), .val (.int d), .val (.int ee), .val (.long q6), .second, .val (.int (q6.toInt32)), .val (.int (1 : Int32)), .val (.ref b21), .val (.ref b23), .val (.ref b25), .unset, .unset, .unset, .unset] [(.ref b27), (.ref b27)])) τ
      refine XS.iconst X27.here hx rfl (hb hby at_78) ?_
      show Steps p.tables e below (T27.setTop (mkF m 79 #[.val (.int a), .val (.int b), .val (.int cc), .val (.int d), .val (.int ee), .val (.long q6), .second, .val (.int (q6.toInt32)), .val (.int (1 : Int32)), .val (.ref b21), .val (.ref b23), .val (.ref b25), .unset, .unset, .unset, .unset] [(.int (0 : Int32)), (.ref b27), (.ref b27)])) τ
      refine XS.iload X27.here hx rfl (hb hby at_79) rfl ?_
      show Steps p.tables e below (T27.setTop (mkF m 81 #[.val (.int a), .val (.int b), .val (.int cc), .val (.int d), .val (.int ee), .val (.long q6), .second, .val (.int (q6.toInt32)), .val (.int (1 : Int32)), .val (.ref b21), .val (.ref b23), .val (.ref b25), .unset, .unset, .unset, .unset] [(.int (1 : Int32)), (.int (0 : Int32)), (.ref b27), (.ref b27)])) τ
      refine XS.iconst X27.here hx rfl (hb hby at_81) ?_
      show Steps p.tables e below (T27.setTop (mkF m 82 #[.val (.int a), .val (.int b), .val (.int cc), .val (.int d), .val (.int ee), .val (.long q6), .second, .val (.int (q6.toInt32)), .val (.int (1 : Int32)), .val (.ref b21), .val (.ref b23), .val (.ref b25), .unset, .unset, .unset, .unset] [(.int (1 : Int32)), (.int (1 : Int32)), (.int (0 : Int32)), (.ref b27), (.ref b27)])) τ
      exact κ)
    have hc29 : (1 : Int32) = (1 : Int32) := rfl
    have pre : ∀ τ, Steps p.tables e below (T27.setTop (mkF m 93 #[.val (.int a), .val (.int b), .val (.int cc), .val (.int d), .val (.int ee), .val (.long q6), .second, .val (.int (q6.toInt32)), .val (.int (1 : Int32)), .val (.ref b21), .val (.ref b23), .val (.ref b25), .unset, .unset, .unset, .unset] [(.int (2 : Int32)), (.int (1 : Int32)), (.int (1 : Int32)), (.int (0 : Int32)), (.ref b27), (.ref b27)])) τ → G τ := fun τ κ => pre τ (by
      refine XS.icmpNo X27.here hx rfl (hb hby at_82) rfl (teq hc29).2 ?_
      show Steps p.tables e below (T27.setTop (mkF m 85 #[.val (.int a), .val (.int b), .val (.int cc), .val (.int d), .val (.int ee), .val (.long q6), .second, .val (.int (q6.toInt32)), .val (.int (1 : Int32)), .val (.ref b21), .val (.ref b23), .val (.ref b25), .unset, .unset, .unset, .unset] [(.int (0 : Int32)), (.ref b27), (.ref b27)])) τ
      refine XS.iconst X27.here hx rfl (hb hby at_85) ?_
      show Steps p.tables e below (T27.setTop (mkF m 86 #[.val (.int a), .val (.int b), .val (.int cc), .val (.int d), .val (.int ee), .val (.long q6), .second, .val (.int (q6.toInt32)), .val (.int (1 : Int32)), .val (.ref b21), .val (.ref b23), .val (.ref b25), .unset, .unset, .unset, .unset] [(.int (1 : Int32)), (.int (0 : Int32)), (.ref b27), (.ref b27)])) τ
      refine XS.goto X27.here hx rfl (pc0 := 86) (pc' := 90) rfl (hb hby at_86) (by decide) (by decide) ?_
      show Steps p.tables e below (T27.setTop (mkF m 90 #[.val (.int a), .val (.int b), .val (.int cc), .val (.int d), .val (.int ee), .val (.long q6), .second, .val (.int (q6.toInt32)), .val (.int (1 : Int32)), .val (.ref b21), .val (.ref b23), .val (.ref b25), .unset, .unset, .unset, .unset] [(.int (1 : Int32)), (.int (0 : Int32)), (.ref b27), (.ref b27)])) τ
      refine XS.iload X27.here hx rfl (hb hby at_90) rfl ?_
      show Steps p.tables e below (T27.setTop (mkF m 92 #[.val (.int a), .val (.int b), .val (.int cc), .val (.int d), .val (.int ee), .val (.long q6), .second, .val (.int (q6.toInt32)), .val (.int (1 : Int32)), .val (.ref b21), .val (.ref b23), .val (.ref b25), .unset, .unset, .unset, .unset] [(.int (1 : Int32)), (.int (1 : Int32)), (.int (0 : Int32)), (.ref b27), (.ref b27)])) τ
      refine XS.iconst X27.here hx rfl (hb hby at_92) ?_
      show Steps p.tables e below (T27.setTop (mkF m 93 #[.val (.int a), .val (.int b), .val (.int cc), .val (.int d), .val (.int ee), .val (.long q6), .second, .val (.int (q6.toInt32)), .val (.int (1 : Int32)), .val (.ref b21), .val (.ref b23), .val (.ref b25), .unset, .unset, .unset, .unset] [(.int (2 : Int32)), (.int (1 : Int32)), (.int (1 : Int32)), (.int (0 : Int32)), (.ref b27), (.ref b27)])) τ
      exact κ)
    have hc30 : ¬ ((1 : Int32) = (2 : Int32)) := (by decide)
    have pre : ∀ τ, Steps p.tables e below (T27.setTop (mkF m 101 #[.val (.int a), .val (.int b), .val (.int cc), .val (.int d), .val (.int ee), .val (.long q6), .second, .val (.int (q6.toInt32)), .val (.int (1 : Int32)), .val (.ref b21), .val (.ref b23), .val (.ref b25), .unset, .unset, .unset, .unset] [(.int (0 : Int32)), (.int (1 : Int32)), (.int (0 : Int32)), (.ref b27), (.ref b27)])) τ → G τ := fun τ κ => pre τ (by
      refine XS.icmpYes X27.here hx rfl (pc0 := 93) (pc' := 100) rfl (hb hby at_93) rfl (feq hc30).2 (by decide) (by decide) ?_
      show Steps p.tables e below (T27.setTop (mkF m 100 #[.val (.int a), .val (.int b), .val (.int cc), .val (.int d), .val (.int ee), .val (.long q6), .second, .val (.int (q6.toInt32)), .val (.int (1 : Int32)), .val (.ref b21), .val (.ref b23), .val (.ref b25), .unset, .unset, .unset, .unset] [(.int (1 : Int32)), (.int (0 : Int32)), (.ref b27), (.ref b27)])) τ
      refine XS.iconst X27.here hx rfl (hb hby at_100) ?_
      show Steps p.tables e below (T27.setTop (mkF m 101 #[.val (.int a), .val (.int b), .val (.int cc), .val (.int d), .val (.int ee), .val (.long q6), .second, .val (.int (q6.toInt32)), .val (.int (1 : Int32)), .val (.ref b21), .val (.ref b23), .val (.ref b25), .unset, .unset, .unset, .unset] [(.int (0 : Int32)), (.int (1 : Int32)), (.int (0 : Int32)), (.ref b27), (.ref b27)])) τ
      exact κ)
    obtain ⟨_, _, ⟨T31, Lx31, kx31, nx31⟩, -, X31, ⟨Lc31, hQ31, l31, y31, z31⟩, st31⟩ := X27.specialBack hx (y := (⟨"com/example/cooldown/cooldown/policy/FieldColumn$Shape", "<init>", "(III)V"⟩ : MethodName)) rfl hown (mvT hZ (hw _ (List.mem_of_getElem? (i := 4) rfl))) (mvT hZ (hw _ (List.mem_of_getElem? (i := 5) rfl))) (mvT hZ (hw _ (List.mem_of_getElem? (i := 6) rfl))) (by decide) (backOf (W := 1) (rm1 l Z a0 hw [] b27 (0 : Int32) (1 : Int32) (0 : Int32) (.int (0 : Int32)) (.int (0 : Int32)) (.int (0 : Int32)) h27 n0 Zn g_b27 E_b27 F_longs_b27 F_ints_b27 F_objects_b27) hZ (hw _ (List.mem_of_getElem? (i := 6) rfl)) (hw _ (List.mem_of_getElem? (i := 3) rfl)) (by decide) (by decide)) (g := (mkF m 101 #[.val (.int a), .val (.int b), .val (.int cc), .val (.int d), .val (.int ee), .val (.long q6), .second, .val (.int (q6.toInt32)), .val (.int (1 : Int32)), .val (.ref b21), .val (.ref b23), .val (.ref b25), .unset, .unset, .unset, .unset] [(.int (0 : Int32)), (.int (1 : Int32)), (.int (0 : Int32)), (.ref b27), (.ref b27)])) rfl (by rw [hml]; rfl) (Steps.refl _) (a := b27) (argsL := [(.int (0 : Int32)), (.int (1 : Int32)), (.int (0 : Int32))]) (rest := [(.ref b27)]) (lenOf pd_0 rfl) rfl (by show 2 * 0 + _ ≤ _; exact Nat.le_of_eq rfl) (hb hby at_101) (fun _ _ => ⟨rfl, e27, (by decide : 4 + 0 ≤ _), (by decide : 12 + 0 ≤ _)⟩)
    dsimp only [Pt.U, Pt.locs, Pt.cells, Pt.slots] at X31 l31 y31 z31 st31 hQ31
    subst l31 y31 z31
    obtain ⟨rfl, Nq31, Kc31, E_o_31, F_longs_31, F_ints_31, F_objects_31⟩ := hQ31
    have NN := Fr.app NN Nq31
    have E_b21 : Exa Z T31.heap b21 "com/example/cooldown/cooldown/policy/FieldColumn$Shape" := E_b21.keep Kc31
    have E_o_22 : Exa Z T31.heap b21 "com/example/cooldown/cooldown/policy/FieldColumn$Shape" := E_o_22.keep Kc31
    have F_longs_22 : Fld Z T31.heap b21 "com/example/cooldown/cooldown/policy/FieldColumn$Shape" "longs" "I" (.int a) := F_longs_22.keep Kc31 (ninS ne_b21_b27 nin0)
    have F_ints_22 : Fld Z T31.heap b21 "com/example/cooldown/cooldown/policy/FieldColumn$Shape" "ints" "I" (.int b) := F_ints_22.keep Kc31 (ninS ne_b21_b27 nin0)
    have F_objects_22 : Fld Z T31.heap b21 "com/example/cooldown/cooldown/policy/FieldColumn$Shape" "objects" "I" (.int cc) := F_objects_22.keep Kc31 (ninS ne_b21_b27 nin0)
    have E_b23 : Exa Z T31.heap b23 "com/example/cooldown/cooldown/policy/FieldColumn$Shape" := E_b23.keep Kc31
    have E_o_24 : Exa Z T31.heap b23 "com/example/cooldown/cooldown/policy/FieldColumn$Shape" := E_o_24.keep Kc31
    have F_longs_24 : Fld Z T31.heap b23 "com/example/cooldown/cooldown/policy/FieldColumn$Shape" "longs" "I" (.int d) := F_longs_24.keep Kc31 (ninS ne_b23_b27 nin0)
    have F_ints_24 : Fld Z T31.heap b23 "com/example/cooldown/cooldown/policy/FieldColumn$Shape" "ints" "I" (.int ee) := F_ints_24.keep Kc31 (ninS ne_b23_b27 nin0)
    have F_objects_24 : Fld Z T31.heap b23 "com/example/cooldown/cooldown/policy/FieldColumn$Shape" "objects" "I" (.int (q6.toInt32)) := F_objects_24.keep Kc31 (ninS ne_b23_b27 nin0)
    have E_b25 : Exa Z T31.heap b25 "com/example/cooldown/cooldown/policy/FieldColumn$Shape" := E_b25.keep Kc31
    have E_o_26 : Exa Z T31.heap b25 "com/example/cooldown/cooldown/policy/FieldColumn$Shape" := E_o_26.keep Kc31
    have F_longs_26 : Fld Z T31.heap b25 "com/example/cooldown/cooldown/policy/FieldColumn$Shape" "longs" "I" (.int (a + d)) := F_longs_26.keep Kc31 (ninS ne_b25_b27 nin0)
    have F_ints_26 : Fld Z T31.heap b25 "com/example/cooldown/cooldown/policy/FieldColumn$Shape" "ints" "I" (.int (b + ee)) := F_ints_26.keep Kc31 (ninS ne_b25_b27 nin0)
    have F_objects_26 : Fld Z T31.heap b25 "com/example/cooldown/cooldown/policy/FieldColumn$Shape" "objects" "I" (.int (cc + (q6.toInt32))) := F_objects_26.keep Kc31 (ninS ne_b25_b27 nin0)
    have E_b27 : Exa Z T31.heap b27 "com/example/cooldown/cooldown/policy/FieldColumn$Shape" := E_b27.keep Kc31
    have Zn : n0 ≤ T31.heap.size := Nat.le_trans Zn Kc31.1
    have pre : ∀ τ, Steps p.tables e below (T31.setTop (mkF m 104 #[.val (.int a), .val (.int b), .val (.int cc), .val (.int d), .val (.int ee), .val (.long q6), .second, .val (.int (q6.toInt32)), .val (.int (1 : Int32)), .val (.ref b21), .val (.ref b23), .val (.ref b25), .unset, .unset, .unset, .unset] [(.ref b27)])) τ → G τ := fun τ κ => pre τ (st31.trans κ)
    have pre : ∀ τ, Steps p.tables e below (T31.setTop (mkF m 108 #[.val (.int a), .val (.int b), .val (.int cc), .val (.int d), .val (.int ee), .val (.long q6), .second, .val (.int (q6.toInt32)), .val (.int (1 : Int32)), .val (.ref b21), .val (.ref b23), .val (.ref b25), .val (.ref b27), .unset, .unset, .unset] [(.int (1 : Int32))])) τ → G τ := fun τ κ => pre τ (by
      refine XS.astore X31.here hx rfl (hb hby at_104) rfl rfl (l' := #[.val (.int a), .val (.int b), .val (.int cc), .val (.int d), .val (.int ee), .val (.long q6), .second, .val (.int (q6.toInt32)), .val (.int (1 : Int32)), .val (.ref b21), .val (.ref b23), .val (.ref b25), .val (.ref b27), .unset, .unset, .unset]) rfl ?_
      show Steps p.tables e below (T31.setTop (mkF m 106 #[.val (.int a), .val (.int b), .val (.int cc), .val (.int d), .val (.int ee), .val (.long q6), .second, .val (.int (q6.toInt32)), .val (.int (1 : Int32)), .val (.ref b21), .val (.ref b23), .val (.ref b25), .val (.ref b27), .unset, .unset, .unset] [])) τ
      refine XS.iload X31.here hx rfl (hb hby at_106) rfl ?_
      show Steps p.tables e below (T31.setTop (mkF m 108 #[.val (.int a), .val (.int b), .val (.int cc), .val (.int d), .val (.int ee), .val (.long q6), .second, .val (.int (q6.toInt32)), .val (.int (1 : Int32)), .val (.ref b21), .val (.ref b23), .val (.ref b25), .val (.ref b27), .unset, .unset, .unset] [(.int (1 : Int32))])) τ
      exact κ)
    have hc32 : ¬ ((1 : Int32) = (0 : Int32)) := (by decide)
    have pre : ∀ τ, Steps p.tables e below (T31.setTop (mkF m 121 #[.val (.int a), .val (.int b), .val (.int cc), .val (.int d), .val (.int ee), .val (.long q6), .second, .val (.int (q6.toInt32)), .val (.int (1 : Int32)), .val (.ref b21), .val (.ref b23), .val (.ref b25), .val (.ref b27), .val (.int (4 : Int32)), .unset, .unset] [(.ref b25)])) τ → G τ := fun τ κ => pre τ (by
      refine XS.ifYes X31.here hx rfl (pc0 := 108) (pc' := 116) rfl (hb hby at_108) rfl ((if0 _ _).trans (feq hc32).2) (by decide) (by decide) ?_
      show Steps p.tables e below (T31.setTop (mkF m 116 #[.val (.int a), .val (.int b), .val (.int cc), .val (.int d), .val (.int ee), .val (.long q6), .second, .val (.int (q6.toInt32)), .val (.int (1 : Int32)), .val (.ref b21), .val (.ref b23), .val (.ref b25), .val (.ref b27), .unset, .unset, .unset] [])) τ
      refine XS.iconst X31.here hx rfl (hb hby at_116) ?_
      show Steps p.tables e below (T31.setTop (mkF m 117 #[.val (.int a), .val (.int b), .val (.int cc), .val (.int d), .val (.int ee), .val (.long q6), .second, .val (.int (q6.toInt32)), .val (.int (1 : Int32)), .val (.ref b21), .val (.ref b23), .val (.ref b25), .val (.ref b27), .unset, .unset, .unset] [(.int (4 : Int32))])) τ
      refine XS.istore X31.here hx rfl (hb hby at_117) rfl (l' := #[.val (.int a), .val (.int b), .val (.int cc), .val (.int d), .val (.int ee), .val (.long q6), .second, .val (.int (q6.toInt32)), .val (.int (1 : Int32)), .val (.ref b21), .val (.ref b23), .val (.ref b25), .val (.ref b27), .val (.int (4 : Int32)), .unset, .unset]) rfl ?_
      show Steps p.tables e below (T31.setTop (mkF m 119 #[.val (.int a), .val (.int b), .val (.int cc), .val (.int d), .val (.int ee), .val (.long q6), .second, .val (.int (q6.toInt32)), .val (.int (1 : Int32)), .val (.ref b21), .val (.ref b23), .val (.ref b25), .val (.ref b27), .val (.int (4 : Int32)), .unset, .unset] [])) τ
      refine XS.aload X31.here hx rfl (hb hby at_119) rfl rfl ?_
      show Steps p.tables e below (T31.setTop (mkF m 121 #[.val (.int a), .val (.int b), .val (.int cc), .val (.int d), .val (.int ee), .val (.long q6), .second, .val (.int (q6.toInt32)), .val (.int (1 : Int32)), .val (.ref b21), .val (.ref b23), .val (.ref b25), .val (.ref b27), .val (.int (4 : Int32)), .unset, .unset] [(.ref b25)])) τ
      exact κ)
    obtain ⟨cq33, kq33, q33a, q33b, q33c⟩ := isOf hZ rfl E_b25
    obtain ⟨_, _, ⟨T33, Lx33, kx33, nx33⟩, -, X33, ⟨Lc33, hQ33, l33, y33, z33⟩, st33⟩ := X31.virtualBack hx (y := (⟨"com/example/cooldown/cooldown/policy/FieldColumn$Shape", "bytes", "()I"⟩ : MethodName)) (z := (⟨"com/example/cooldown/cooldown/policy/FieldColumn$Shape", "bytes", "()I"⟩ : MethodName)) hown (mvT hZ (hw _ (List.mem_of_getElem? (i := 16) rfl))) (mvT hZ (hw _ (List.mem_of_getElem? (i := 17) rfl))) (notFace_of_selects (args := #[]) (mvT hZ (hw _ (List.mem_of_getElem? (i := 19) rfl)))) (mvT hZ (hw _ (List.mem_of_getElem? (i := 19) rfl))) (mvT hZ (hw _ (List.mem_of_getElem? (i := 18) rfl))) (by decide) (backOf (W := 0) (rm3 l Z a0 hw [] b25 (a + d) (b + ee) (cc + (q6.toInt32)) T31.heap n0 Zn F_longs_26 F_ints_26 F_objects_26) hZ (hw _ (List.mem_of_getElem? (i := 20) rfl)) (hw _ (List.mem_of_getElem? (i := 3) rfl)) (by decide) (by decide)) q33a q33c (g := (mkF m 121 #[.val (.int a), .val (.int b), .val (.int cc), .val (.int d), .val (.int ee), .val (.long q6), .second, .val (.int (q6.toInt32)), .val (.int (1 : Int32)), .val (.ref b21), .val (.ref b23), .val (.ref b25), .val (.ref b27), .val (.int (4 : Int32)), .unset, .unset] [(.ref b25)])) rfl (by rw [hml]; rfl) (Steps.refl _) (argsL := []) (rest := []) (lenOf pd_1 rfl) rfl (by show 2 * 0 + _ ≤ _; exact Nat.le_of_eq rfl) (hb hby at_121) (fun _ _ => ⟨rfl, rfl, (by decide : 4 + 0 ≤ _), (by decide : 12 + 0 ≤ _)⟩)
    dsimp only [Pt.U, Pt.locs, Pt.cells, Pt.slots] at X33 l33 y33 z33 st33 hQ33
    subst l33 y33 z33
    obtain ⟨rfl, Nq33, hs33⟩ := hQ33
    have NN := Fr.app NN Nq33
    have pre : ∀ τ, Steps p.tables e below (T33.setTop (mkF m 124 #[.val (.int a), .val (.int b), .val (.int cc), .val (.int d), .val (.int ee), .val (.long q6), .second, .val (.int (q6.toInt32)), .val (.int (1 : Int32)), .val (.ref b21), .val (.ref b23), .val (.ref b25), .val (.ref b27), .val (.int (4 : Int32)), .unset, .unset] [(.int ((((8 : Int32) * (a + d)) + ((4 : Int32) * (b + ee))) + ((4 : Int32) * (cc + (q6.toInt32)))))])) τ → G τ := fun τ κ => pre τ (st33.trans κ)
    have pre : ∀ τ, Steps p.tables e below (T33.setTop (mkF m 126 #[.val (.int a), .val (.int b), .val (.int cc), .val (.int d), .val (.int ee), .val (.long q6), .second, .val (.int (q6.toInt32)), .val (.int (1 : Int32)), .val (.ref b21), .val (.ref b23), .val (.ref b25), .val (.ref b27), .val (.int (4 : Int32)), .unset, .unset] [(.ref b21), (.int ((((8 : Int32) * (a + d)) + ((4 : Int32) * (b + ee))) + ((4 : Int32) * (cc + (q6.toInt32)))))])) τ → G τ := fun τ κ => pre τ (by
      refine XS.aload X33.here hx rfl (hb hby at_124) rfl rfl ?_
      show Steps p.tables e below (T33.setTop (mkF m 126 #[.val (.int a), .val (.int b), .val (.int cc), .val (.int d), .val (.int ee), .val (.long q6), .second, .val (.int (q6.toInt32)), .val (.int (1 : Int32)), .val (.ref b21), .val (.ref b23), .val (.ref b25), .val (.ref b27), .val (.int (4 : Int32)), .unset, .unset] [(.ref b21), (.int ((((8 : Int32) * (a + d)) + ((4 : Int32) * (b + ee))) + ((4 : Int32) * (cc + (q6.toInt32)))))])) τ
      exact κ)
    obtain ⟨cq34, kq34, q34a, q34b, q34c⟩ := isOf hZ hs33 E_b21
    obtain ⟨_, _, ⟨T34, Lx34, kx34, nx34⟩, -, X34, ⟨Lc34, hQ34, l34, y34, z34⟩, st34⟩ := X33.virtualBack hx (y := (⟨"com/example/cooldown/cooldown/policy/FieldColumn$Shape", "bytes", "()I"⟩ : MethodName)) (z := (⟨"com/example/cooldown/cooldown/policy/FieldColumn$Shape", "bytes", "()I"⟩ : MethodName)) hown (mvT hZ (hw _ (List.mem_of_getElem? (i := 16) rfl))) (mvT hZ (hw _ (List.mem_of_getElem? (i := 17) rfl))) (notFace_of_selects (args := #[]) (mvT hZ (hw _ (List.mem_of_getElem? (i := 19) rfl)))) (mvT hZ (hw _ (List.mem_of_getElem? (i := 19) rfl))) (mvT hZ (hw _ (List.mem_of_getElem? (i := 18) rfl))) (by decide) (backOf (W := 1) (rm3 l Z a0 hw [] b21 a b cc T31.heap n0 Zn F_longs_22 F_ints_22 F_objects_22) hZ (hw _ (List.mem_of_getElem? (i := 20) rfl)) (hw _ (List.mem_of_getElem? (i := 3) rfl)) (by decide) (by decide)) q34a q34c (g := (mkF m 126 #[.val (.int a), .val (.int b), .val (.int cc), .val (.int d), .val (.int ee), .val (.long q6), .second, .val (.int (q6.toInt32)), .val (.int (1 : Int32)), .val (.ref b21), .val (.ref b23), .val (.ref b25), .val (.ref b27), .val (.int (4 : Int32)), .unset, .unset] [(.ref b21), (.int ((((8 : Int32) * (a + d)) + ((4 : Int32) * (b + ee))) + ((4 : Int32) * (cc + (q6.toInt32)))))])) rfl (by rw [hml]; rfl) (Steps.refl _) (argsL := []) (rest := [(.int ((((8 : Int32) * (a + d)) + ((4 : Int32) * (b + ee))) + ((4 : Int32) * (cc + (q6.toInt32)))))]) (lenOf pd_1 rfl) rfl (by show 2 * 0 + _ ≤ _; exact Nat.le_of_eq rfl) (hb hby at_126) (fun _ _ => ⟨rfl, hs33, (by decide : 4 + 0 ≤ _), (by decide : 12 + 0 ≤ _)⟩)
    dsimp only [Pt.U, Pt.locs, Pt.cells, Pt.slots] at X34 l34 y34 z34 st34 hQ34
    subst l34 y34 z34
    obtain ⟨rfl, Nq34, hs34⟩ := hQ34
    have NN := Fr.app NN Nq34
    have pre : ∀ τ, Steps p.tables e below (T34.setTop (mkF m 129 #[.val (.int a), .val (.int b), .val (.int cc), .val (.int d), .val (.int ee), .val (.long q6), .second, .val (.int (q6.toInt32)), .val (.int (1 : Int32)), .val (.ref b21), .val (.ref b23), .val (.ref b25), .val (.ref b27), .val (.int (4 : Int32)), .unset, .unset] [(.int ((((8 : Int32) * a) + ((4 : Int32) * b)) + ((4 : Int32) * cc))), (.int ((((8 : Int32) * (a + d)) + ((4 : Int32) * (b + ee))) + ((4 : Int32) * (cc + (q6.toInt32)))))])) τ → G τ := fun τ κ => pre τ (st34.trans κ)
    have pre : ∀ τ, Steps p.tables e below (T34.setTop (mkF m 131 #[.val (.int a), .val (.int b), .val (.int cc), .val (.int d), .val (.int ee), .val (.long q6), .second, .val (.int (q6.toInt32)), .val (.int (1 : Int32)), .val (.ref b21), .val (.ref b23), .val (.ref b25), .val (.ref b27), .val (.int (4 : Int32)), .unset, .unset] [(.ref b23), (.int ((((8 : Int32) * a) + ((4 : Int32) * b)) + ((4 : Int32) * cc))), (.int ((((8 : Int32) * (a + d)) + ((4 : Int32) * (b + ee))) + ((4 : Int32) * (cc + (q6.toInt32)))))])) τ → G τ := fun τ κ => pre τ (by
      refine XS.aload X34.here hx rfl (hb hby at_129) rfl rfl ?_
      show Steps p.tables e below (T34.setTop (mkF m 131 #[.val (.int a), .val (.int b), .val (.int cc), .val (.int d), .val (.int ee), .val (.long q6), .second, .val (.int (q6.toInt32)), .val (.int (1 : Int32)), .val (.ref b21), .val (.ref b23), .val (.ref b25), .val (.ref b27), .val (.int (4 : Int32)), .unset, .unset] [(.ref b23), (.int ((((8 : Int32) * a) + ((4 : Int32) * b)) + ((4 : Int32) * cc))), (.int ((((8 : Int32) * (a + d)) + ((4 : Int32) * (b + ee))) + ((4 : Int32) * (cc + (q6.toInt32)))))])) τ
      exact κ)
    obtain ⟨cq35, kq35, q35a, q35b, q35c⟩ := isOf hZ hs34 E_b23
    obtain ⟨_, _, ⟨T35, Lx35, kx35, nx35⟩, -, X35, ⟨Lc35, hQ35, l35, y35, z35⟩, st35⟩ := X34.virtualBack hx (y := (⟨"com/example/cooldown/cooldown/policy/FieldColumn$Shape", "bytes", "()I"⟩ : MethodName)) (z := (⟨"com/example/cooldown/cooldown/policy/FieldColumn$Shape", "bytes", "()I"⟩ : MethodName)) hown (mvT hZ (hw _ (List.mem_of_getElem? (i := 16) rfl))) (mvT hZ (hw _ (List.mem_of_getElem? (i := 17) rfl))) (notFace_of_selects (args := #[]) (mvT hZ (hw _ (List.mem_of_getElem? (i := 19) rfl)))) (mvT hZ (hw _ (List.mem_of_getElem? (i := 19) rfl))) (mvT hZ (hw _ (List.mem_of_getElem? (i := 18) rfl))) (by decide) (backOf (W := 2) (rm3 l Z a0 hw [] b23 d ee (q6.toInt32) T31.heap n0 Zn F_longs_24 F_ints_24 F_objects_24) hZ (hw _ (List.mem_of_getElem? (i := 20) rfl)) (hw _ (List.mem_of_getElem? (i := 3) rfl)) (by decide) (by decide)) q35a q35c (g := (mkF m 131 #[.val (.int a), .val (.int b), .val (.int cc), .val (.int d), .val (.int ee), .val (.long q6), .second, .val (.int (q6.toInt32)), .val (.int (1 : Int32)), .val (.ref b21), .val (.ref b23), .val (.ref b25), .val (.ref b27), .val (.int (4 : Int32)), .unset, .unset] [(.ref b23), (.int ((((8 : Int32) * a) + ((4 : Int32) * b)) + ((4 : Int32) * cc))), (.int ((((8 : Int32) * (a + d)) + ((4 : Int32) * (b + ee))) + ((4 : Int32) * (cc + (q6.toInt32)))))])) rfl (by rw [hml]; rfl) (Steps.refl _) (argsL := []) (rest := [(.int ((((8 : Int32) * a) + ((4 : Int32) * b)) + ((4 : Int32) * cc))), (.int ((((8 : Int32) * (a + d)) + ((4 : Int32) * (b + ee))) + ((4 : Int32) * (cc + (q6.toInt32)))))]) (lenOf pd_1 rfl) rfl (by show 2 * 0 + _ ≤ _; exact Nat.le_of_eq rfl) (hb hby at_131) (fun _ _ => ⟨rfl, hs34, (by decide : 4 + 0 ≤ _), (by decide : 12 + 0 ≤ _)⟩)
    dsimp only [Pt.U, Pt.locs, Pt.cells, Pt.slots] at X35 l35 y35 z35 st35 hQ35
    subst l35 y35 z35
    obtain ⟨rfl, Nq35, hs35⟩ := hQ35
    have NN := Fr.app NN Nq35
    have pre : ∀ τ, Steps p.tables e below (T35.setTop (mkF m 134 #[.val (.int a), .val (.int b), .val (.int cc), .val (.int d), .val (.int ee), .val (.long q6), .second, .val (.int (q6.toInt32)), .val (.int (1 : Int32)), .val (.ref b21), .val (.ref b23), .val (.ref b25), .val (.ref b27), .val (.int (4 : Int32)), .unset, .unset] [(.int ((((8 : Int32) * d) + ((4 : Int32) * ee)) + ((4 : Int32) * (q6.toInt32)))), (.int ((((8 : Int32) * a) + ((4 : Int32) * b)) + ((4 : Int32) * cc))), (.int ((((8 : Int32) * (a + d)) + ((4 : Int32) * (b + ee))) + ((4 : Int32) * (cc + (q6.toInt32)))))])) τ → G τ := fun τ κ => pre τ (st35.trans κ)
    have pre : ∀ τ, Steps p.tables e below (T35.setTop (mkF m 135 #[.val (.int a), .val (.int b), .val (.int cc), .val (.int d), .val (.int ee), .val (.long q6), .second, .val (.int (q6.toInt32)), .val (.int (1 : Int32)), .val (.ref b21), .val (.ref b23), .val (.ref b25), .val (.ref b27), .val (.int (4 : Int32)), .unset, .unset] [(.int (((((8 : Int32) * a) + ((4 : Int32) * b)) + ((4 : Int32) * cc)) + ((((8 : Int32) * d) + ((4 : Int32) * ee)) + ((4 : Int32) * (q6.toInt32))))), (.int ((((8 : Int32) * (a + d)) + ((4 : Int32) * (b + ee))) + ((4 : Int32) * (cc + (q6.toInt32)))))])) τ → G τ := fun τ κ => pre τ (by
      refine XS.iadd X35.here hx rfl (hb hby at_134) rfl ?_
      show Steps p.tables e below (T35.setTop (mkF m 135 #[.val (.int a), .val (.int b), .val (.int cc), .val (.int d), .val (.int ee), .val (.long q6), .second, .val (.int (q6.toInt32)), .val (.int (1 : Int32)), .val (.ref b21), .val (.ref b23), .val (.ref b25), .val (.ref b27), .val (.int (4 : Int32)), .unset, .unset] [(.int (((((8 : Int32) * a) + ((4 : Int32) * b)) + ((4 : Int32) * cc)) + ((((8 : Int32) * d) + ((4 : Int32) * ee)) + ((4 : Int32) * (q6.toInt32))))), (.int ((((8 : Int32) * (a + d)) + ((4 : Int32) * (b + ee))) + ((4 : Int32) * (cc + (q6.toInt32)))))])) τ
      exact κ)
    have hc36 : ((((8 : Int32) * (a + d)) + ((4 : Int32) * (b + ee))) + ((4 : Int32) * (cc + (q6.toInt32)))) = (((((8 : Int32) * a) + ((4 : Int32) * b)) + ((4 : Int32) * cc)) + ((((8 : Int32) * d) + ((4 : Int32) * ee)) + ((4 : Int32) * (q6.toInt32)))) := own_add _ _ _ _ _ _
    have pre : ∀ τ, Steps p.tables e below (T35.setTop (mkF m 147 #[.val (.int a), .val (.int b), .val (.int cc), .val (.int d), .val (.int ee), .val (.long q6), .second, .val (.int (q6.toInt32)), .val (.int (1 : Int32)), .val (.ref b21), .val (.ref b23), .val (.ref b25), .val (.ref b27), .val (.int (4 : Int32)), .val (.int (1 : Int32)), .unset] [(.ref b27)])) τ → G τ := fun τ κ => pre τ (by
      refine XS.icmpNo X35.here hx rfl (hb hby at_135) rfl (teq hc36).2 ?_
      show Steps p.tables e below (T35.setTop (mkF m 138 #[.val (.int a), .val (.int b), .val (.int cc), .val (.int d), .val (.int ee), .val (.long q6), .second, .val (.int (q6.toInt32)), .val (.int (1 : Int32)), .val (.ref b21), .val (.ref b23), .val (.ref b25), .val (.ref b27), .val (.int (4 : Int32)), .unset, .unset] [])) τ
      refine XS.iconst X35.here hx rfl (hb hby at_138) ?_
      show Steps p.tables e below (T35.setTop (mkF m 139 #[.val (.int a), .val (.int b), .val (.int cc), .val (.int d), .val (.int ee), .val (.long q6), .second, .val (.int (q6.toInt32)), .val (.int (1 : Int32)), .val (.ref b21), .val (.ref b23), .val (.ref b25), .val (.ref b27), .val (.int (4 : Int32)), .unset, .unset] [(.int (1 : Int32))])) τ
      refine XS.goto X35.here hx rfl (pc0 := 139) (pc' := 143) rfl (hb hby at_139) (by decide) (by decide) ?_
      show Steps p.tables e below (T35.setTop (mkF m 143 #[.val (.int a), .val (.int b), .val (.int cc), .val (.int d), .val (.int ee), .val (.long q6), .second, .val (.int (q6.toInt32)), .val (.int (1 : Int32)), .val (.ref b21), .val (.ref b23), .val (.ref b25), .val (.ref b27), .val (.int (4 : Int32)), .unset, .unset] [(.int (1 : Int32))])) τ
      refine XS.istore X35.here hx rfl (hb hby at_143) rfl (l' := #[.val (.int a), .val (.int b), .val (.int cc), .val (.int d), .val (.int ee), .val (.long q6), .second, .val (.int (q6.toInt32)), .val (.int (1 : Int32)), .val (.ref b21), .val (.ref b23), .val (.ref b25), .val (.ref b27), .val (.int (4 : Int32)), .val (.int (1 : Int32)), .unset]) rfl ?_
      show Steps p.tables e below (T35.setTop (mkF m 145 #[.val (.int a), .val (.int b), .val (.int cc), .val (.int d), .val (.int ee), .val (.long q6), .second, .val (.int (q6.toInt32)), .val (.int (1 : Int32)), .val (.ref b21), .val (.ref b23), .val (.ref b25), .val (.ref b27), .val (.int (4 : Int32)), .val (.int (1 : Int32)), .unset] [])) τ
      refine XS.aload X35.here hx rfl (hb hby at_145) rfl rfl ?_
      show Steps p.tables e below (T35.setTop (mkF m 147 #[.val (.int a), .val (.int b), .val (.int cc), .val (.int d), .val (.int ee), .val (.long q6), .second, .val (.int (q6.toInt32)), .val (.int (1 : Int32)), .val (.ref b21), .val (.ref b23), .val (.ref b25), .val (.ref b27), .val (.int (4 : Int32)), .val (.int (1 : Int32)), .unset] [(.ref b27)])) τ
      exact κ)
    obtain ⟨cq37, kq37, q37a, q37b, q37c⟩ := isOf hZ hs35 E_b27
    obtain ⟨_, _, ⟨T37, Lx37, kx37, nx37⟩, -, X37, ⟨Lc37, hQ37, l37, y37, z37⟩, st37⟩ := X35.virtualBack hx (y := (⟨"com/example/cooldown/cooldown/policy/FieldColumn$Shape", "bytes", "()I"⟩ : MethodName)) (z := (⟨"com/example/cooldown/cooldown/policy/FieldColumn$Shape", "bytes", "()I"⟩ : MethodName)) hown (mvT hZ (hw _ (List.mem_of_getElem? (i := 16) rfl))) (mvT hZ (hw _ (List.mem_of_getElem? (i := 17) rfl))) (notFace_of_selects (args := #[]) (mvT hZ (hw _ (List.mem_of_getElem? (i := 19) rfl)))) (mvT hZ (hw _ (List.mem_of_getElem? (i := 19) rfl))) (mvT hZ (hw _ (List.mem_of_getElem? (i := 18) rfl))) (by decide) (backOf (W := 0) (rm3 l Z a0 hw [] b27 (0 : Int32) (1 : Int32) (0 : Int32) T31.heap n0 Zn F_longs_31 F_ints_31 F_objects_31) hZ (hw _ (List.mem_of_getElem? (i := 20) rfl)) (hw _ (List.mem_of_getElem? (i := 3) rfl)) (by decide) (by decide)) q37a q37c (g := (mkF m 147 #[.val (.int a), .val (.int b), .val (.int cc), .val (.int d), .val (.int ee), .val (.long q6), .second, .val (.int (q6.toInt32)), .val (.int (1 : Int32)), .val (.ref b21), .val (.ref b23), .val (.ref b25), .val (.ref b27), .val (.int (4 : Int32)), .val (.int (1 : Int32)), .unset] [(.ref b27)])) rfl (by rw [hml]; rfl) (Steps.refl _) (argsL := []) (rest := []) (lenOf pd_1 rfl) rfl (by show 2 * 0 + _ ≤ _; exact Nat.le_of_eq rfl) (hb hby at_147) (fun _ _ => ⟨rfl, hs35, (by decide : 4 + 0 ≤ _), (by decide : 12 + 0 ≤ _)⟩)
    dsimp only [Pt.U, Pt.locs, Pt.cells, Pt.slots] at X37 l37 y37 z37 st37 hQ37
    subst l37 y37 z37
    obtain ⟨rfl, Nq37, hs37⟩ := hQ37
    have NN := Fr.app NN Nq37
    have pre : ∀ τ, Steps p.tables e below (T37.setTop (mkF m 150 #[.val (.int a), .val (.int b), .val (.int cc), .val (.int d), .val (.int ee), .val (.long q6), .second, .val (.int (q6.toInt32)), .val (.int (1 : Int32)), .val (.ref b21), .val (.ref b23), .val (.ref b25), .val (.ref b27), .val (.int (4 : Int32)), .val (.int (1 : Int32)), .unset] [(.int ((((8 : Int32) * (0 : Int32)) + ((4 : Int32) * (1 : Int32))) + ((4 : Int32) * (0 : Int32))))])) τ → G τ := fun τ κ => pre τ (st37.trans κ)
    have pre : ∀ τ, Steps p.tables e below (T37.setTop (mkF m 152 #[.val (.int a), .val (.int b), .val (.int cc), .val (.int d), .val (.int ee), .val (.long q6), .second, .val (.int (q6.toInt32)), .val (.int (1 : Int32)), .val (.ref b21), .val (.ref b23), .val (.ref b25), .val (.ref b27), .val (.int (4 : Int32)), .val (.int (1 : Int32)), .unset] [(.int (4 : Int32)), (.int ((((8 : Int32) * (0 : Int32)) + ((4 : Int32) * (1 : Int32))) + ((4 : Int32) * (0 : Int32))))])) τ → G τ := fun τ κ => pre τ (by
      refine XS.iload X37.here hx rfl (hb hby at_150) rfl ?_
      show Steps p.tables e below (T37.setTop (mkF m 152 #[.val (.int a), .val (.int b), .val (.int cc), .val (.int d), .val (.int ee), .val (.long q6), .second, .val (.int (q6.toInt32)), .val (.int (1 : Int32)), .val (.ref b21), .val (.ref b23), .val (.ref b25), .val (.ref b27), .val (.int (4 : Int32)), .val (.int (1 : Int32)), .unset] [(.int (4 : Int32)), (.int ((((8 : Int32) * (0 : Int32)) + ((4 : Int32) * (1 : Int32))) + ((4 : Int32) * (0 : Int32))))])) τ
      exact κ)
    have hc38 : ((((8 : Int32) * (0 : Int32)) + ((4 : Int32) * (1 : Int32))) + ((4 : Int32) * (0 : Int32))) = (4 : Int32) := (by decide)
    have pre : ∀ τ, Steps p.tables e below (T37.setTop (mkF m 164 #[.val (.int a), .val (.int b), .val (.int cc), .val (.int d), .val (.int ee), .val (.long q6), .second, .val (.int (q6.toInt32)), .val (.int (1 : Int32)), .val (.ref b21), .val (.ref b23), .val (.ref b25), .val (.ref b27), .val (.int (4 : Int32)), .val (.int (1 : Int32)), .val (.int (1 : Int32))] [(.int (1 : Int32))])) τ → G τ := fun τ κ => pre τ (by
      refine XS.icmpNo X37.here hx rfl (hb hby at_152) rfl (teq hc38).2 ?_
      show Steps p.tables e below (T37.setTop (mkF m 155 #[.val (.int a), .val (.int b), .val (.int cc), .val (.int d), .val (.int ee), .val (.long q6), .second, .val (.int (q6.toInt32)), .val (.int (1 : Int32)), .val (.ref b21), .val (.ref b23), .val (.ref b25), .val (.ref b27), .val (.int (4 : Int32)), .val (.int (1 : Int32)), .unset] [])) τ
      refine XS.iconst X37.here hx rfl (hb hby at_155) ?_
      show Steps p.tables e below (T37.setTop (mkF m 156 #[.val (.int a), .val (.int b), .val (.int cc), .val (.int d), .val (.int ee), .val (.long q6), .second, .val (.int (q6.toInt32)), .val (.int (1 : Int32)), .val (.ref b21), .val (.ref b23), .val (.ref b25), .val (.ref b27), .val (.int (4 : Int32)), .val (.int (1 : Int32)), .unset] [(.int (1 : Int32))])) τ
      refine XS.goto X37.here hx rfl (pc0 := 156) (pc' := 160) rfl (hb hby at_156) (by decide) (by decide) ?_
      show Steps p.tables e below (T37.setTop (mkF m 160 #[.val (.int a), .val (.int b), .val (.int cc), .val (.int d), .val (.int ee), .val (.long q6), .second, .val (.int (q6.toInt32)), .val (.int (1 : Int32)), .val (.ref b21), .val (.ref b23), .val (.ref b25), .val (.ref b27), .val (.int (4 : Int32)), .val (.int (1 : Int32)), .unset] [(.int (1 : Int32))])) τ
      refine XS.istore X37.here hx rfl (hb hby at_160) rfl (l' := #[.val (.int a), .val (.int b), .val (.int cc), .val (.int d), .val (.int ee), .val (.long q6), .second, .val (.int (q6.toInt32)), .val (.int (1 : Int32)), .val (.ref b21), .val (.ref b23), .val (.ref b25), .val (.ref b27), .val (.int (4 : Int32)), .val (.int (1 : Int32)), .val (.int (1 : Int32))]) rfl ?_
      show Steps p.tables e below (T37.setTop (mkF m 162 #[.val (.int a), .val (.int b), .val (.int cc), .val (.int d), .val (.int ee), .val (.long q6), .second, .val (.int (q6.toInt32)), .val (.int (1 : Int32)), .val (.ref b21), .val (.ref b23), .val (.ref b25), .val (.ref b27), .val (.int (4 : Int32)), .val (.int (1 : Int32)), .val (.int (1 : Int32))] [])) τ
      refine XS.iload X37.here hx rfl (hb hby at_162) rfl ?_
      show Steps p.tables e below (T37.setTop (mkF m 164 #[.val (.int a), .val (.int b), .val (.int cc), .val (.int d), .val (.int ee), .val (.long q6), .second, .val (.int (q6.toInt32)), .val (.int (1 : Int32)), .val (.ref b21), .val (.ref b23), .val (.ref b25), .val (.ref b27), .val (.int (4 : Int32)), .val (.int (1 : Int32)), .val (.int (1 : Int32))] [(.int (1 : Int32))])) τ
      exact κ)
    have hc39 : ¬ ((1 : Int32) = (0 : Int32)) := (by decide)
    have pre : ∀ τ, Steps p.tables e below (T37.setTop (mkF m 169 #[.val (.int a), .val (.int b), .val (.int cc), .val (.int d), .val (.int ee), .val (.long q6), .second, .val (.int (q6.toInt32)), .val (.int (1 : Int32)), .val (.ref b21), .val (.ref b23), .val (.ref b25), .val (.ref b27), .val (.int (4 : Int32)), .val (.int (1 : Int32)), .val (.int (1 : Int32))] [(.int (1 : Int32))])) τ → G τ := fun τ κ => pre τ (by
      refine XS.ifNo X37.here hx rfl (hb hby at_164) rfl ((if0 _ _).trans (feq hc39).1) ?_
      show Steps p.tables e below (T37.setTop (mkF m 167 #[.val (.int a), .val (.int b), .val (.int cc), .val (.int d), .val (.int ee), .val (.long q6), .second, .val (.int (q6.toInt32)), .val (.int (1 : Int32)), .val (.ref b21), .val (.ref b23), .val (.ref b25), .val (.ref b27), .val (.int (4 : Int32)), .val (.int (1 : Int32)), .val (.int (1 : Int32))] [])) τ
      refine XS.iload X37.here hx rfl (hb hby at_167) rfl ?_
      show Steps p.tables e below (T37.setTop (mkF m 169 #[.val (.int a), .val (.int b), .val (.int cc), .val (.int d), .val (.int ee), .val (.long q6), .second, .val (.int (q6.toInt32)), .val (.int (1 : Int32)), .val (.ref b21), .val (.ref b23), .val (.ref b25), .val (.ref b27), .val (.int (4 : Int32)), .val (.int (1 : Int32)), .val (.int (1 : Int32))] [(.int (1 : Int32))])) τ
      exact κ)
    have hc40 : ¬ ((1 : Int32) = (0 : Int32)) := (by decide)
    have pre : ∀ τ, Steps p.tables e below (T37.setTop (mkF m 177 #[.val (.int a), .val (.int b), .val (.int cc), .val (.int d), .val (.int ee), .val (.long q6), .second, .val (.int (q6.toInt32)), .val (.int (1 : Int32)), .val (.ref b21), .val (.ref b23), .val (.ref b25), .val (.ref b27), .val (.int (4 : Int32)), .val (.int (1 : Int32)), .val (.int (1 : Int32))] [(.int (1 : Int32))])) τ → G τ := fun τ κ => pre τ (by
      refine XS.ifNo X37.here hx rfl (hb hby at_169) rfl ((if0 _ _).trans (feq hc40).1) ?_
      show Steps p.tables e below (T37.setTop (mkF m 172 #[.val (.int a), .val (.int b), .val (.int cc), .val (.int d), .val (.int ee), .val (.long q6), .second, .val (.int (q6.toInt32)), .val (.int (1 : Int32)), .val (.ref b21), .val (.ref b23), .val (.ref b25), .val (.ref b27), .val (.int (4 : Int32)), .val (.int (1 : Int32)), .val (.int (1 : Int32))] [])) τ
      refine XS.iconst X37.here hx rfl (hb hby at_172) ?_
      show Steps p.tables e below (T37.setTop (mkF m 173 #[.val (.int a), .val (.int b), .val (.int cc), .val (.int d), .val (.int ee), .val (.long q6), .second, .val (.int (q6.toInt32)), .val (.int (1 : Int32)), .val (.ref b21), .val (.ref b23), .val (.ref b25), .val (.ref b27), .val (.int (4 : Int32)), .val (.int (1 : Int32)), .val (.int (1 : Int32))] [(.int (1 : Int32))])) τ
      refine XS.goto X37.here hx rfl (pc0 := 173) (pc' := 177) rfl (hb hby at_173) (by decide) (by decide) ?_
      show Steps p.tables e below (T37.setTop (mkF m 177 #[.val (.int a), .val (.int b), .val (.int cc), .val (.int d), .val (.int ee), .val (.long q6), .second, .val (.int (q6.toInt32)), .val (.int (1 : Int32)), .val (.ref b21), .val (.ref b23), .val (.ref b25), .val (.ref b27), .val (.int (4 : Int32)), .val (.int (1 : Int32)), .val (.int (1 : Int32))] [(.int (1 : Int32))])) τ
      exact κ)
    obtain ⟨fs, hr, hrun, hended, hW, hsame⟩ := X37.leave (v := some (.int (1 : Int32))) (fun h => by rw [Bd.returns] at h; cases h)
    refine hGL ⟨_, _, hG _ (pre _ ?_), hrun, hended, _, _, rfl, ?_, ⟨_, rfl⟩, hW, hsame.mono (by decide) (by decide)⟩
    · exact retN X37 hx (t := .boolean) Bd.returns (by simp) (hb hby at_177) hr
    · show Q0 Z a b cc d ee q6 h0 n0 _ T37.heap _
      rw [hs37]
      exact ⟨rfl, NN⟩
  ·
    have pre : ∀ τ, Steps p.tables e below (s₁.setTop (mkF m 19 #[.val (.int a), .val (.int b), .val (.int cc), .val (.int d), .val (.int ee), .val (.long q6), .second, .val (.int (q6.toInt32)), .val (.int (2 : Int32)), .unset, .unset, .unset, .unset, .unset, .unset, .unset] [])) τ → G τ := (show (((((q6.toUInt64 >>> ((32 : Int32) &&& 0x3f).toInt64.toUInt64).toInt64) &&& (2147483647 : Int64)).toInt32) % (3 : Int32)) = (2 : Int32) from hk) ▸ pre
    obtain ⟨T41, h41, X41, e41, E41, A41, D41, -, st41⟩ := newO X0 hx hZ hown (hw _ (List.mem_of_getElem? (i := 1) rfl)) (hw _ (List.mem_of_getElem? (i := 2) rfl)) (hw _ (List.mem_of_getElem? (i := 3) rfl)) e0 (g := (mkF m 19 #[.val (.int a), .val (.int b), .val (.int cc), .val (.int d), .val (.int ee), .val (.long q6), .second, .val (.int (q6.toInt32)), .val (.int (2 : Int32)), .unset, .unset, .unset, .unset, .unset, .unset, .unset] [])) rfl (hb hby at_19) (by decide) (by decide)
    obtain ⟨b41, gg41⟩ : ∃ z, z = h0.size := ⟨_, rfl⟩
    rw [← gg41] at A41 D41 st41
    have g_b41 : n0 ≤ b41 := Nat.le_trans Zn (Nat.le_of_eq gg41.symm)
    have Zn : n0 ≤ h41.size := Nat.le_trans Zn E41.1
    have F_longs_b41 : Fld Z h41 b41 "com/example/cooldown/cooldown/policy/FieldColumn$Shape" "longs" "I" (.int (0 : Int32)) := D41 (Or.inr (hw _ (List.mem_of_getElem? (i := 11) rfl))) (ty := .int) (by decide)
    have F_ints_b41 : Fld Z h41 b41 "com/example/cooldown/cooldown/policy/FieldColumn$Shape" "ints" "I" (.int (0 : Int32)) := D41 (Or.inr (hw _ (List.mem_of_getElem? (i := 13) rfl))) (ty := .int) (by decide)
    have F_objects_b41 : Fld Z h41 b41 "com/example/cooldown/cooldown/policy/FieldColumn$Shape" "objects" "I" (.int (0 : Int32)) := D41 (Or.inr (hw _ (List.mem_of_getElem? (i := 15) rfl))) (ty := .int) (by decide)
    have E_b41 := A41
    have pre : ∀ τ, Steps p.tables e below (T41.setTop (mkF m 22 #[.val (.int a), .val (.int b), .val (.int cc), .val (.int d), .val (.int ee), .val (.long q6), .second, .val (.int (q6.toInt32)), .val (.int (2 : Int32)), .unset, .unset, .unset, .unset, .unset, .unset, .unset] [(.ref b41)])) τ → G τ := fun τ κ => pre τ (st41 τ κ)
    have pre : ∀ τ, Steps p.tables e below (T41.setTop (mkF m 26 #[.val (.int a), .val (.int b), .val (.int cc), .val (.int d), .val (.int ee), .val (.long q6), .second, .val (.int (q6.toInt32)), .val (.int (2 : Int32)), .unset, .unset, .unset, .unset, .unset, .unset, .unset] [(.int cc), (.int b), (.int a), (.ref b41), (.ref b41)])) τ → G τ := fun τ κ => pre τ (by
      refine XS.dup X41.here hx rfl (hb hby at_22) rfl rfl ?_
      show Steps p.tables e below (T41.setTop (mkF m 23 #[.val (.int a), .val (.int b), .val (.int cc), .val (.int d), .val (.int ee), .val (.long q6), .second, .val (.int (q6.toInt32)), .val (.int (2 : Int32)), .unset, .unset, .unset, .unset, .unset, .unset, .unset] [(.ref b41), (.ref b41)])) τ
      refine XS.iloadN X41.here hx rfl (hb hby at_23) rfl ?_
      show Steps p.tables e below (T41.setTop (mkF m 24 #[.val (.int a), .val (.int b), .val (.int cc), .val (.int d), .val (.int ee), .val (.long q6), .second, .val (.int (q6.toInt32)), .val (.int (2 : Int32)), .unset, .unset, .unset, .unset, .unset, .unset, .unset] [(.int a), (.ref b41), (.ref b41)])) τ
      refine XS.iloadN X41.here hx rfl (hb hby at_24) rfl ?_
      show Steps p.tables e below (T41.setTop (mkF m 25 #[.val (.int a), .val (.int b), .val (.int cc), .val (.int d), .val (.int ee), .val (.long q6), .second, .val (.int (q6.toInt32)), .val (.int (2 : Int32)), .unset, .unset, .unset, .unset, .unset, .unset, .unset] [(.int b), (.int a), (.ref b41), (.ref b41)])) τ
      refine XS.iloadN X41.here hx rfl (hb hby at_25) rfl ?_
      show Steps p.tables e below (T41.setTop (mkF m 26 #[.val (.int a), .val (.int b), .val (.int cc), .val (.int d), .val (.int ee), .val (.long q6), .second, .val (.int (q6.toInt32)), .val (.int (2 : Int32)), .unset, .unset, .unset, .unset, .unset, .unset, .unset] [(.int cc), (.int b), (.int a), (.ref b41), (.ref b41)])) τ
      exact κ)
    obtain ⟨_, _, ⟨T42, Lx42, kx42, nx42⟩, -, X42, ⟨Lc42, hQ42, l42, y42, z42⟩, st42⟩ := X41.specialBack hx (y := (⟨"com/example/cooldown/cooldown/policy/FieldColumn$Shape", "<init>", "(III)V"⟩ : MethodName)) rfl hown (mvT hZ (hw _ (List.mem_of_getElem? (i := 4) rfl))) (mvT hZ (hw _ (List.mem_of_getElem? (i := 5) rfl))) (mvT hZ (hw _ (List.mem_of_getElem? (i := 6) rfl))) (by decide) (backOf (W := 1) (rm1 l Z a0 hw [] b41 a b cc (.int (0 : Int32)) (.int (0 : Int32)) (.int (0 : Int32)) h41 n0 Zn g_b41 E_b41 F_longs_b41 F_ints_b41 F_objects_b41) hZ (hw _ (List.mem_of_getElem? (i := 6) rfl)) (hw _ (List.mem_of_getElem? (i := 3) rfl)) (by decide) (by decide)) (g := (mkF m 26 #[.val (.int a), .val (.int b), .val (.int cc), .val (.int d), .val (.int ee), .val (.long q6), .second, .val (.int (q6.toInt32)), .val (.int (2 : Int32)), .unset, .unset, .unset, .unset, .unset, .unset, .unset] [(.int cc), (.int b), (.int a), (.ref b41), (.ref b41)])) rfl (by rw [hml]; rfl) (Steps.refl _) (a := b41) (argsL := [(.int a), (.int b), (.int cc)]) (rest := [(.ref b41)]) (lenOf pd_0 rfl) rfl (by show 2 * 0 + _ ≤ _; exact Nat.le_of_eq rfl) (hb hby at_26) (fun _ _ => ⟨rfl, e41, (by decide : 1 + 0 ≤ _), (by decide : 3 + 0 ≤ _)⟩)
    dsimp only [Pt.U, Pt.locs, Pt.cells, Pt.slots] at X42 l42 y42 z42 st42 hQ42
    subst l42 y42 z42
    obtain ⟨rfl, Nq42, Kc42, E_o_42, F_longs_42, F_ints_42, F_objects_42⟩ := hQ42
    have NN := Fr.app N0 Nq42
    have E_b41 : Exa Z T42.heap b41 "com/example/cooldown/cooldown/policy/FieldColumn$Shape" := E_b41.keep Kc42
    have Zn : n0 ≤ T42.heap.size := Nat.le_trans Zn Kc42.1
    have pre : ∀ τ, Steps p.tables e below (T42.setTop (mkF m 29 #[.val (.int a), .val (.int b), .val (.int cc), .val (.int d), .val (.int ee), .val (.long q6), .second, .val (.int (q6.toInt32)), .val (.int (2 : Int32)), .unset, .unset, .unset, .unset, .unset, .unset, .unset] [(.ref b41)])) τ → G τ := fun τ κ => pre τ (st42.trans κ)
    have pre : ∀ τ, Steps p.tables e below (T42.setTop (mkF m 31 #[.val (.int a), .val (.int b), .val (.int cc), .val (.int d), .val (.int ee), .val (.long q6), .second, .val (.int (q6.toInt32)), .val (.int (2 : Int32)), .val (.ref b41), .unset, .unset, .unset, .unset, .unset, .unset] [])) τ → G τ := fun τ κ => pre τ (by
      refine XS.astore X42.here hx rfl (hb hby at_29) rfl rfl (l' := #[.val (.int a), .val (.int b), .val (.int cc), .val (.int d), .val (.int ee), .val (.long q6), .second, .val (.int (q6.toInt32)), .val (.int (2 : Int32)), .val (.ref b41), .unset, .unset, .unset, .unset, .unset, .unset]) rfl ?_
      show Steps p.tables e below (T42.setTop (mkF m 31 #[.val (.int a), .val (.int b), .val (.int cc), .val (.int d), .val (.int ee), .val (.long q6), .second, .val (.int (q6.toInt32)), .val (.int (2 : Int32)), .val (.ref b41), .unset, .unset, .unset, .unset, .unset, .unset] [])) τ
      exact κ)
    obtain ⟨T43, h43, X43, e43, E43, A43, D43, -, st43⟩ := newO X42 hx hZ hown (hw _ (List.mem_of_getElem? (i := 1) rfl)) (hw _ (List.mem_of_getElem? (i := 2) rfl)) (hw _ (List.mem_of_getElem? (i := 3) rfl)) rfl (g := (mkF m 31 #[.val (.int a), .val (.int b), .val (.int cc), .val (.int d), .val (.int ee), .val (.long q6), .second, .val (.int (q6.toInt32)), .val (.int (2 : Int32)), .val (.ref b41), .unset, .unset, .unset, .unset, .unset, .unset] [])) rfl (hb hby at_31) (by decide) (by decide)
    obtain ⟨b43, gg43⟩ : ∃ z, z = T42.heap.size := ⟨_, rfl⟩
    rw [← gg43] at A43 D43 st43
    have ne_b41_b43 : b41 ≠ b43 := Nat.ne_of_lt (Nat.lt_of_lt_of_le E_b41.lt (Nat.le_of_eq gg43.symm))
    have g_b43 : n0 ≤ b43 := Nat.le_trans Zn (Nat.le_of_eq gg43.symm)
    have E_b41 : Exa Z h43 b41 "com/example/cooldown/cooldown/policy/FieldColumn$Shape" := E_b41.ext E43
    have E_o_42 : Exa Z h43 b41 "com/example/cooldown/cooldown/policy/FieldColumn$Shape" := E_o_42.ext E43
    have F_longs_42 : Fld Z h43 b41 "com/example/cooldown/cooldown/policy/FieldColumn$Shape" "longs" "I" (.int a) := F_longs_42.ext E43
    have F_ints_42 : Fld Z h43 b41 "com/example/cooldown/cooldown/policy/FieldColumn$Shape" "ints" "I" (.int b) := F_ints_42.ext E43
    have F_objects_42 : Fld Z h43 b41 "com/example/cooldown/cooldown/policy/FieldColumn$Shape" "objects" "I" (.int cc) := F_objects_42.ext E43
    have Zn : n0 ≤ h43.size := Nat.le_trans Zn E43.1
    have F_longs_b43 : Fld Z h43 b43 "com/example/cooldown/cooldown/policy/FieldColumn$Shape" "longs" "I" (.int (0 : Int32)) := D43 (Or.inr (hw _ (List.mem_of_getElem? (i := 11) rfl))) (ty := .int) (by decide)
    have F_ints_b43 : Fld Z h43 b43 "com/example/cooldown/cooldown/policy/FieldColumn$Shape" "ints" "I" (.int (0 : Int32)) := D43 (Or.inr (hw _ (List.mem_of_getElem? (i := 13) rfl))) (ty := .int) (by decide)
    have F_objects_b43 : Fld Z h43 b43 "com/example/cooldown/cooldown/policy/FieldColumn$Shape" "objects" "I" (.int (0 : Int32)) := D43 (Or.inr (hw _ (List.mem_of_getElem? (i := 15) rfl))) (ty := .int) (by decide)
    have E_b43 := A43
    have pre : ∀ τ, Steps p.tables e below (T43.setTop (mkF m 34 #[.val (.int a), .val (.int b), .val (.int cc), .val (.int d), .val (.int ee), .val (.long q6), .second, .val (.int (q6.toInt32)), .val (.int (2 : Int32)), .val (.ref b41), .unset, .unset, .unset, .unset, .unset, .unset] [(.ref b43)])) τ → G τ := fun τ κ => pre τ (st43 τ κ)
    have pre : ∀ τ, Steps p.tables e below (T43.setTop (mkF m 40 #[.val (.int a), .val (.int b), .val (.int cc), .val (.int d), .val (.int ee), .val (.long q6), .second, .val (.int (q6.toInt32)), .val (.int (2 : Int32)), .val (.ref b41), .unset, .unset, .unset, .unset, .unset, .unset] [(.int (q6.toInt32)), (.int ee), (.int d), (.ref b43), (.ref b43)])) τ → G τ := fun τ κ => pre τ (by
      refine XS.dup X43.here hx rfl (hb hby at_34) rfl rfl ?_
      show Steps p.tables e below (T43.setTop (mkF m 35 #[.val (.int a), .val (.int b), .val (.int cc), .val (.int d), .val (.int ee), .val (.long q6), .second, .val (.int (q6.toInt32)), .val (.int (2 : Int32)), .val (.ref b41), .unset, .unset, .unset, .unset, .unset, .unset] [(.ref b43), (.ref b43)])) τ
      refine XS.iloadN X43.here hx rfl (hb hby at_35) rfl ?_
      show Steps p.tables e below (T43.setTop (mkF m 36 #[.val (.int a), .val (.int b), .val (.int cc), .val (.int d), .val (.int ee), .val (.long q6), .second, .val (.int (q6.toInt32)), .val (.int (2 : Int32)), .val (.ref b41), .unset, .unset, .unset, .unset, .unset, .unset] [(.int d), (.ref b43), (.ref b43)])) τ
      refine XS.iload X43.here hx rfl (hb hby at_36) rfl ?_
      show Steps p.tables e below (T43.setTop (mkF m 38 #[.val (.int a), .val (.int b), .val (.int cc), .val (.int d), .val (.int ee), .val (.long q6), .second, .val (.int (q6.toInt32)), .val (.int (2 : Int32)), .val (.ref b41), .unset, .unset, .unset, .unset, .unset, .unset] [(.int ee), (.int d), (.ref b43), (.ref b43)])) τ
      refine XS.iload X43.here hx rfl (hb hby at_38) rfl ?_
      show Steps p.tables e below (T43.setTop (mkF m 40 #[.val (.int a), .val (.int b), .val (.int cc), .val (.int d), .val (.int ee), .val (.long q6), .second, .val (.int (q6.toInt32)), .val (.int (2 : Int32)), .val (.ref b41), .unset, .unset, .unset, .unset, .unset, .unset] [(.int (q6.toInt32)), (.int ee), (.int d), (.ref b43), (.ref b43)])) τ
      exact κ)
    obtain ⟨_, _, ⟨T44, Lx44, kx44, nx44⟩, -, X44, ⟨Lc44, hQ44, l44, y44, z44⟩, st44⟩ := X43.specialBack hx (y := (⟨"com/example/cooldown/cooldown/policy/FieldColumn$Shape", "<init>", "(III)V"⟩ : MethodName)) rfl hown (mvT hZ (hw _ (List.mem_of_getElem? (i := 4) rfl))) (mvT hZ (hw _ (List.mem_of_getElem? (i := 5) rfl))) (mvT hZ (hw _ (List.mem_of_getElem? (i := 6) rfl))) (by decide) (backOf (W := 1) (rm1 l Z a0 hw [] b43 d ee (q6.toInt32) (.int (0 : Int32)) (.int (0 : Int32)) (.int (0 : Int32)) h43 n0 Zn g_b43 E_b43 F_longs_b43 F_ints_b43 F_objects_b43) hZ (hw _ (List.mem_of_getElem? (i := 6) rfl)) (hw _ (List.mem_of_getElem? (i := 3) rfl)) (by decide) (by decide)) (g := (mkF m 40 #[.val (.int a), .val (.int b), .val (.int cc), .val (.int d), .val (.int ee), .val (.long q6), .second, .val (.int (q6.toInt32)), .val (.int (2 : Int32)), .val (.ref b41), .unset, .unset, .unset, .unset, .unset, .unset] [(.int (q6.toInt32)), (.int ee), (.int d), (.ref b43), (.ref b43)])) rfl (by rw [hml]; rfl) (Steps.refl _) (a := b43) (argsL := [(.int d), (.int ee), (.int (q6.toInt32))]) (rest := [(.ref b43)]) (lenOf pd_0 rfl) rfl (by show 2 * 0 + _ ≤ _; exact Nat.le_of_eq rfl) (hb hby at_40) (fun _ _ => ⟨rfl, e43, (by decide : 2 + 0 ≤ _), (by decide : 6 + 0 ≤ _)⟩)
    dsimp only [Pt.U, Pt.locs, Pt.cells, Pt.slots] at X44 l44 y44 z44 st44 hQ44
    subst l44 y44 z44
    obtain ⟨rfl, Nq44, Kc44, E_o_44, F_longs_44, F_ints_44, F_objects_44⟩ := hQ44
    have NN := Fr.app NN Nq44
    have E_b41 : Exa Z T44.heap b41 "com/example/cooldown/cooldown/policy/FieldColumn$Shape" := E_b41.keep Kc44
    have E_o_42 : Exa Z T44.heap b41 "com/example/cooldown/cooldown/policy/FieldColumn$Shape" := E_o_42.keep Kc44
    have F_longs_42 : Fld Z T44.heap b41 "com/example/cooldown/cooldown/policy/FieldColumn$Shape" "longs" "I" (.int a) := F_longs_42.keep Kc44 (ninS ne_b41_b43 nin0)
    have F_ints_42 : Fld Z T44.heap b41 "com/example/cooldown/cooldown/policy/FieldColumn$Shape" "ints" "I" (.int b) := F_ints_42.keep Kc44 (ninS ne_b41_b43 nin0)
    have F_objects_42 : Fld Z T44.heap b41 "com/example/cooldown/cooldown/policy/FieldColumn$Shape" "objects" "I" (.int cc) := F_objects_42.keep Kc44 (ninS ne_b41_b43 nin0)
    have E_b43 : Exa Z T44.heap b43 "com/example/cooldown/cooldown/policy/FieldColumn$Shape" := E_b43.keep Kc44
    have Zn : n0 ≤ T44.heap.size := Nat.le_trans Zn Kc44.1
    have pre : ∀ τ, Steps p.tables e below (T44.setTop (mkF m 43 #[.val (.int a), .val (.int b), .val (.int cc), .val (.int d), .val (.int ee), .val (.long q6), .second, .val (.int (q6.toInt32)), .val (.int (2 : Int32)), .val (.ref b41), .unset, .unset, .unset, .unset, .unset, .unset] [(.ref b43)])) τ → G τ := fun τ κ => pre τ (st44.trans κ)
    have pre : ∀ τ, Steps p.tables e below (T44.setTop (mkF m 45 #[.val (.int a), .val (.int b), .val (.int cc), .val (.int d), .val (.int ee), .val (.long q6), .second, .val (.int (q6.toInt32)), .val (.int (2 : Int32)), .val (.ref b41), .val (.ref b43), .unset, .unset, .unset, .unset, .unset] [])) τ → G τ := fun τ κ => pre τ (by
      refine XS.astore X44.here hx rfl (hb hby at_43) rfl rfl (l' := #[.val (.int a), .val (.int b), .val (.int cc), .val (.int d), .val (.int ee), .val (.long q6), .second, .val (.int (q6.toInt32)), .val (.int (2 : Int32)), .val (.ref b41), .val (.ref b43), .unset, .unset, .unset, .unset, .unset]) rfl ?_
      show Steps p.tables e below (T44.setTop (mkF m 45 #[.val (.int a), .val (.int b), .val (.int cc), .val (.int d), .val (.int ee), .val (.long q6), .second, .val (.int (q6.toInt32)), .val (.int (2 : Int32)), .val (.ref b41), .val (.ref b43), .unset, .unset, .unset, .unset, .unset] [])) τ
      exact κ)
    obtain ⟨T45, h45, X45, e45, E45, A45, D45, -, st45⟩ := newO X44 hx hZ hown (hw _ (List.mem_of_getElem? (i := 1) rfl)) (hw _ (List.mem_of_getElem? (i := 2) rfl)) (hw _ (List.mem_of_getElem? (i := 3) rfl)) rfl (g := (mkF m 45 #[.val (.int a), .val (.int b), .val (.int cc), .val (.int d), .val (.int ee), .val (.long q6), .second, .val (.int (q6.toInt32)), .val (.int (2 : Int32)), .val (.ref b41), .val (.ref b43), .unset, .unset, .unset, .unset, .unset] [])) rfl (hb hby at_45) (by decide) (by decide)
    obtain ⟨b45, gg45⟩ : ∃ z, z = T44.heap.size := ⟨_, rfl⟩
    rw [← gg45] at A45 D45 st45
    have ne_b41_b45 : b41 ≠ b45 := Nat.ne_of_lt (Nat.lt_of_lt_of_le E_b41.lt (Nat.le_of_eq gg45.symm))
    have ne_b43_b45 : b43 ≠ b45 := Nat.ne_of_lt (Nat.lt_of_lt_of_le E_b43.lt (Nat.le_of_eq gg45.symm))
    have g_b45 : n0 ≤ b45 := Nat.le_trans Zn (Nat.le_of_eq gg45.symm)
    have E_b41 : Exa Z h45 b41 "com/example/cooldown/cooldown/policy/FieldColumn$Shape" := E_b41.ext E45
    have E_o_42 : Exa Z h45 b41 "com/example/cooldown/cooldown/policy/FieldColumn$Shape" := E_o_42.ext E45
    have F_longs_42 : Fld Z h45 b41 "com/example/cooldown/cooldown/policy/FieldColumn$Shape" "longs" "I" (.int a) := F_longs_42.ext E45
    have F_ints_42 : Fld Z h45 b41 "com/example/cooldown/cooldown/policy/FieldColumn$Shape" "ints" "I" (.int b) := F_ints_42.ext E45
    have F_objects_42 : Fld Z h45 b41 "com/example/cooldown/cooldown/policy/FieldColumn$Shape" "objects" "I" (.int cc) := F_objects_42.ext E45
    have E_b43 : Exa Z h45 b43 "com/example/cooldown/cooldown/policy/FieldColumn$Shape" := E_b43.ext E45
    have E_o_44 : Exa Z h45 b43 "com/example/cooldown/cooldown/policy/FieldColumn$Shape" := E_o_44.ext E45
    have F_longs_44 : Fld Z h45 b43 "com/example/cooldown/cooldown/policy/FieldColumn$Shape" "longs" "I" (.int d) := F_longs_44.ext E45
    have F_ints_44 : Fld Z h45 b43 "com/example/cooldown/cooldown/policy/FieldColumn$Shape" "ints" "I" (.int ee) := F_ints_44.ext E45
    have F_objects_44 : Fld Z h45 b43 "com/example/cooldown/cooldown/policy/FieldColumn$Shape" "objects" "I" (.int (q6.toInt32)) := F_objects_44.ext E45
    have Zn : n0 ≤ h45.size := Nat.le_trans Zn E45.1
    have F_longs_b45 : Fld Z h45 b45 "com/example/cooldown/cooldown/policy/FieldColumn$Shape" "longs" "I" (.int (0 : Int32)) := D45 (Or.inr (hw _ (List.mem_of_getElem? (i := 11) rfl))) (ty := .int) (by decide)
    have F_ints_b45 : Fld Z h45 b45 "com/example/cooldown/cooldown/policy/FieldColumn$Shape" "ints" "I" (.int (0 : Int32)) := D45 (Or.inr (hw _ (List.mem_of_getElem? (i := 13) rfl))) (ty := .int) (by decide)
    have F_objects_b45 : Fld Z h45 b45 "com/example/cooldown/cooldown/policy/FieldColumn$Shape" "objects" "I" (.int (0 : Int32)) := D45 (Or.inr (hw _ (List.mem_of_getElem? (i := 15) rfl))) (ty := .int) (by decide)
    have E_b45 := A45
    have pre : ∀ τ, Steps p.tables e below (T45.setTop (mkF m 48 #[.val (.int a), .val (.int b), .val (.int cc), .val (.int d), .val (.int ee), .val (.long q6), .second, .val (.int (q6.toInt32)), .val (.int (2 : Int32)), .val (.ref b41), .val (.ref b43), .unset, .unset, .unset, .unset, .unset] [(.ref b45)])) τ → G τ := fun τ κ => pre τ (st45 τ κ)
    have pre : ∀ τ, Steps p.tables e below (T45.setTop (mkF m 60 #[.val (.int a), .val (.int b), .val (.int cc), .val (.int d), .val (.int ee), .val (.long q6), .second, .val (.int (q6.toInt32)), .val (.int (2 : Int32)), .val (.ref b41), .val (.ref b43), .unset, .unset, .unset, .unset, .unset] [(.int (cc + (q6.toInt32))), (.int (b + ee)), (.int (a + d)), (.ref b45), (.ref b45)])) τ → G τ := fun τ κ => pre τ (by
      refine XS.dup X45.here hx rfl (hb hby at_48) rfl rfl ?_
      show Steps p.tables e below (T45.setTop (mkF m 49 #[.val (.int a), .val (.int b), .val (.int cc), .val (.int d), .val (.int ee), .val (.long q6), .second, .val (.int (q6.toInt32)), .val (.int (2 : Int32)), .val (.ref b41), .val (.ref b43), .unset, .unset, .unset, .unset, .unset] [(.ref b45), (.ref b45)])) τ
      refine XS.iloadN X45.here hx rfl (hb hby at_49) rfl ?_
      show Steps p.tables e below (T45.setTop (mkF m 50 #[.val (.int a), .val (.int b), .val (.int cc), .val (.int d), .val (.int ee), .val (.long q6), .second, .val (.int (q6.toInt32)), .val (.int (2 : Int32)), .val (.ref b41), .val (.ref b43), .unset, .unset, .unset, .unset, .unset] [(.int a), (.ref b45), (.ref b45)])) τ
      refine XS.iloadN X45.here hx rfl (hb hby at_50) rfl ?_
      show Steps p.tables e below (T45.setTop (mkF m 51 #[.val (.int a), .val (.int b), .val (.int cc), .val (.int d), .val (.int ee), .val (.long q6), .second, .val (.int (q6.toInt32)), .val (.int (2 : Int32)), .val (.ref b41), .val (.ref b43), .unset, .unset, .unset, .unset, .unset] [(.int d), (.int a), (.ref b45), (.ref b45)])) τ
      refine XS.iadd X45.here hx rfl (hb hby at_51) rfl ?_
      show Steps p.tables e below (T45.setTop (mkF m 52 #[.val (.int a), .val (.int b), .val (.int cc), .val (.int d), .val (.int ee), .val (.long q6), .second, .val (.int (q6.toInt32)), .val (.int (2 : Int32)), .val (.ref b41), .val (.ref b43), .unset, .unset, .unset, .unset, .unset] [(.int (a + d)), (.ref b45), (.ref b45)])) τ
      refine XS.iloadN X45.here hx rfl (hb hby at_52) rfl ?_
      show Steps p.tables e below (T45.setTop (mkF m 53 #[.val (.int a), .val (.int b), .val (.int cc), .val (.int d), .val (.int ee), .val (.long q6), .second, .val (.int (q6.toInt32)), .val (.int (2 : Int32)), .val (.ref b41), .val (.ref b43), .unset, .unset, .unset, .unset, .unset] [(.int b), (.int (a + d)), (.ref b45), (.ref b45)])) τ
      refine XS.iload X45.here hx rfl (hb hby at_53) rfl ?_
      show Steps p.tables e below (T45.setTop (mkF m 55 #[.val (.int a), .val (.int b), .val (.int cc), .val (.int d), .val (.int ee), .val (.long q6), .second, .val (.int (q6.toInt32)), .val (.int (2 : Int32)), .val (.ref b41), .val (.ref b43), .unset, .unset, .unset, .unset, .unset] [(.int ee), (.int b), (.int (a + d)), (.ref b45), (.ref b45)])) τ
      refine XS.iadd X45.here hx rfl (hb hby at_55) rfl ?_
      show Steps p.tables e below (T45.setTop (mkF m 56 #[.val (.int a), .val (.int b), .val (.int cc), .val (.int d), .val (.int ee), .val (.long q6), .second, .val (.int (q6.toInt32)), .val (.int (2 : Int32)), .val (.ref b41), .val (.ref b43), .unset, .unset, .unset, .unset, .unset] [(.int (b + ee)), (.int (a + d)), (.ref b45), (.ref b45)])) τ
      refine XS.iloadN X45.here hx rfl (hb hby at_56) rfl ?_
      show Steps p.tables e below (T45.setTop (mkF m 57 #[.val (.int a), .val (.int b), .val (.int cc), .val (.int d), .val (.int ee), .val (.long q6), .second, .val (.int (q6.toInt32)), .val (.int (2 : Int32)), .val (.ref b41), .val (.ref b43), .unset, .unset, .unset, .unset, .unset] [(.int cc), (.int (b + ee)), (.int (a + d)), (.ref b45), (.ref b45)])) τ
      refine XS.iload X45.here hx rfl (hb hby at_57) rfl ?_
      show Steps p.tables e below (T45.setTop (mkF m 59 #[.val (.int a), .val (.int b), .val (.int cc), .val (.int d), .val (.int ee), .val (.long q6), .second, .val (.int (q6.toInt32)), .val (.int (2 : Int32)), .val (.ref b41), .val (.ref b43), .unset, .unset, .unset, .unset, .unset] [(.int (q6.toInt32)), (.int cc), (.int (b + ee)), (.int (a + d)), (.ref b45), (.ref b45)])) τ
      refine XS.iadd X45.here hx rfl (hb hby at_59) rfl ?_
      show Steps p.tables e below (T45.setTop (mkF m 60 #[.val (.int a), .val (.int b), .val (.int cc), .val (.int d), .val (.int ee), .val (.long q6), .second, .val (.int (q6.toInt32)), .val (.int (2 : Int32)), .val (.ref b41), .val (.ref b43), .unset, .unset, .unset, .unset, .unset] [(.int (cc + (q6.toInt32))), (.int (b + ee)), (.int (a + d)), (.ref b45), (.ref b45)])) τ
      exact κ)
    obtain ⟨_, _, ⟨T46, Lx46, kx46, nx46⟩, -, X46, ⟨Lc46, hQ46, l46, y46, z46⟩, st46⟩ := X45.specialBack hx (y := (⟨"com/example/cooldown/cooldown/policy/FieldColumn$Shape", "<init>", "(III)V"⟩ : MethodName)) rfl hown (mvT hZ (hw _ (List.mem_of_getElem? (i := 4) rfl))) (mvT hZ (hw _ (List.mem_of_getElem? (i := 5) rfl))) (mvT hZ (hw _ (List.mem_of_getElem? (i := 6) rfl))) (by decide) (backOf (W := 1) (rm1 l Z a0 hw [] b45 (a + d) (b + ee) (cc + (q6.toInt32)) (.int (0 : Int32)) (.int (0 : Int32)) (.int (0 : Int32)) h45 n0 Zn g_b45 E_b45 F_longs_b45 F_ints_b45 F_objects_b45) hZ (hw _ (List.mem_of_getElem? (i := 6) rfl)) (hw _ (List.mem_of_getElem? (i := 3) rfl)) (by decide) (by decide)) (g := (mkF m 60 #[.val (.int a), .val (.int b), .val (.int cc), .val (.int d), .val (.int ee), .val (.long q6), .second, .val (.int (q6.toInt32)), .val (.int (2 : Int32)), .val (.ref b41), .val (.ref b43), .unset, .unset, .unset, .unset, .unset] [(.int (cc + (q6.toInt32))), (.int (b + ee)), (.int (a + d)), (.ref b45), (.ref b45)])) rfl (by rw [hml]; rfl) (Steps.refl _) (a := b45) (argsL := [(.int (a + d)), (.int (b + ee)), (.int (cc + (q6.toInt32)))]) (rest := [(.ref b45)]) (lenOf pd_0 rfl) rfl (by show 2 * 0 + _ ≤ _; exact Nat.le_of_eq rfl) (hb hby at_60) (fun _ _ => ⟨rfl, e45, (by decide : 3 + 0 ≤ _), (by decide : 9 + 0 ≤ _)⟩)
    dsimp only [Pt.U, Pt.locs, Pt.cells, Pt.slots] at X46 l46 y46 z46 st46 hQ46
    subst l46 y46 z46
    obtain ⟨rfl, Nq46, Kc46, E_o_46, F_longs_46, F_ints_46, F_objects_46⟩ := hQ46
    have NN := Fr.app NN Nq46
    have E_b41 : Exa Z T46.heap b41 "com/example/cooldown/cooldown/policy/FieldColumn$Shape" := E_b41.keep Kc46
    have E_o_42 : Exa Z T46.heap b41 "com/example/cooldown/cooldown/policy/FieldColumn$Shape" := E_o_42.keep Kc46
    have F_longs_42 : Fld Z T46.heap b41 "com/example/cooldown/cooldown/policy/FieldColumn$Shape" "longs" "I" (.int a) := F_longs_42.keep Kc46 (ninS ne_b41_b45 nin0)
    have F_ints_42 : Fld Z T46.heap b41 "com/example/cooldown/cooldown/policy/FieldColumn$Shape" "ints" "I" (.int b) := F_ints_42.keep Kc46 (ninS ne_b41_b45 nin0)
    have F_objects_42 : Fld Z T46.heap b41 "com/example/cooldown/cooldown/policy/FieldColumn$Shape" "objects" "I" (.int cc) := F_objects_42.keep Kc46 (ninS ne_b41_b45 nin0)
    have E_b43 : Exa Z T46.heap b43 "com/example/cooldown/cooldown/policy/FieldColumn$Shape" := E_b43.keep Kc46
    have E_o_44 : Exa Z T46.heap b43 "com/example/cooldown/cooldown/policy/FieldColumn$Shape" := E_o_44.keep Kc46
    have F_longs_44 : Fld Z T46.heap b43 "com/example/cooldown/cooldown/policy/FieldColumn$Shape" "longs" "I" (.int d) := F_longs_44.keep Kc46 (ninS ne_b43_b45 nin0)
    have F_ints_44 : Fld Z T46.heap b43 "com/example/cooldown/cooldown/policy/FieldColumn$Shape" "ints" "I" (.int ee) := F_ints_44.keep Kc46 (ninS ne_b43_b45 nin0)
    have F_objects_44 : Fld Z T46.heap b43 "com/example/cooldown/cooldown/policy/FieldColumn$Shape" "objects" "I" (.int (q6.toInt32)) := F_objects_44.keep Kc46 (ninS ne_b43_b45 nin0)
    have E_b45 : Exa Z T46.heap b45 "com/example/cooldown/cooldown/policy/FieldColumn$Shape" := E_b45.keep Kc46
    have Zn : n0 ≤ T46.heap.size := Nat.le_trans Zn Kc46.1
    have pre : ∀ τ, Steps p.tables e below (T46.setTop (mkF m 63 #[.val (.int a), .val (.int b), .val (.int cc), .val (.int d), .val (.int ee), .val (.long q6), .second, .val (.int (q6.toInt32)), .val (.int (2 : Int32)), .val (.ref b41), .val (.ref b43), .unset, .unset, .unset, .unset, .unset] [(.ref b45)])) τ → G τ := fun τ κ => pre τ (st46.trans κ)
    have pre : ∀ τ, Steps p.tables e below (T46.setTop (mkF m 65 #[.val (.int a), .val (.int b), .val (.int cc), .val (.int d), .val (.int ee), .val (.long q6), .second, .val (.int (q6.toInt32)), .val (.int (2 : Int32)), .val (.ref b41), .val (.ref b43), .val (.ref b45), .unset, .unset, .unset, .unset] [])) τ → G τ := fun τ κ => pre τ (by
      refine XS.astore X46.here hx rfl (hb hby at_63) rfl rfl (l' := #[.val (.int a), .val (.int b), .val (.int cc), .val (.int d), .val (.int ee), .val (.long q6), .second, .val (.int (q6.toInt32)), .val (.int (2 : Int32)), .val (.ref b41), .val (.ref b43), .val (.ref b45), .unset, .unset, .unset, .unset]) rfl ?_
      show Steps p.tables e below (T46.setTop (mkF m 65 #[.val (.int a), .val (.int b), .val (.int cc), .val (.int d), .val (.int ee), .val (.long q6), .second, .val (.int (q6.toInt32)), .val (.int (2 : Int32)), .val (.ref b41), .val (.ref b43), .val (.ref b45), .unset, .unset, .unset, .unset] [])) τ
      exact κ)
    obtain ⟨T47, h47, X47, e47, E47, A47, D47, -, st47⟩ := newO X46 hx hZ hown (hw _ (List.mem_of_getElem? (i := 1) rfl)) (hw _ (List.mem_of_getElem? (i := 2) rfl)) (hw _ (List.mem_of_getElem? (i := 3) rfl)) rfl (g := (mkF m 65 #[.val (.int a), .val (.int b), .val (.int cc), .val (.int d), .val (.int ee), .val (.long q6), .second, .val (.int (q6.toInt32)), .val (.int (2 : Int32)), .val (.ref b41), .val (.ref b43), .val (.ref b45), .unset, .unset, .unset, .unset] [])) rfl (hb hby at_65) (by decide) (by decide)
    obtain ⟨b47, gg47⟩ : ∃ z, z = T46.heap.size := ⟨_, rfl⟩
    rw [← gg47] at A47 D47 st47
    have ne_b41_b47 : b41 ≠ b47 := Nat.ne_of_lt (Nat.lt_of_lt_of_le E_b41.lt (Nat.le_of_eq gg47.symm))
    have ne_b43_b47 : b43 ≠ b47 := Nat.ne_of_lt (Nat.lt_of_lt_of_le E_b43.lt (Nat.le_of_eq gg47.symm))
    have ne_b45_b47 : b45 ≠ b47 := Nat.ne_of_lt (Nat.lt_of_lt_of_le E_b45.lt (Nat.le_of_eq gg47.symm))
    have g_b47 : n0 ≤ b47 := Nat.le_trans Zn (Nat.le_of_eq gg47.symm)
    have E_b41 : Exa Z h47 b41 "com/example/cooldown/cooldown/policy/FieldColumn$Shape" := E_b41.ext E47
    have E_o_42 : Exa Z h47 b41 "com/example/cooldown/cooldown/policy/FieldColumn$Shape" := E_o_42.ext E47
    have F_longs_42 : Fld Z h47 b41 "com/example/cooldown/cooldown/policy/FieldColumn$Shape" "longs" "I" (.int a) := F_longs_42.ext E47
    have F_ints_42 : Fld Z h47 b41 "com/example/cooldown/cooldown/policy/FieldColumn$Shape" "ints" "I" (.int b) := F_ints_42.ext E47
    have F_objects_42 : Fld Z h47 b41 "com/example/cooldown/cooldown/policy/FieldColumn$Shape" "objects" "I" (.int cc) := F_objects_42.ext E47
    have E_b43 : Exa Z h47 b43 "com/example/cooldown/cooldown/policy/FieldColumn$Shape" := E_b43.ext E47
    have E_o_44 : Exa Z h47 b43 "com/example/cooldown/cooldown/policy/FieldColumn$Shape" := E_o_44.ext E47
    have F_longs_44 : Fld Z h47 b43 "com/example/cooldown/cooldown/policy/FieldColumn$Shape" "longs" "I" (.int d) := F_longs_44.ext E47
    have F_ints_44 : Fld Z h47 b43 "com/example/cooldown/cooldown/policy/FieldColumn$Shape" "ints" "I" (.int ee) := F_ints_44.ext E47
    have F_objects_44 : Fld Z h47 b43 "com/example/cooldown/cooldown/policy/FieldColumn$Shape" "objects" "I" (.int (q6.toInt32)) := F_objects_44.ext E47
    have E_b45 : Exa Z h47 b45 "com/example/cooldown/cooldown/policy/FieldColumn$Shape" := E_b45.ext E47
    have E_o_46 : Exa Z h47 b45 "com/example/cooldown/cooldown/policy/FieldColumn$Shape" := E_o_46.ext E47
    have F_longs_46 : Fld Z h47 b45 "com/example/cooldown/cooldown/policy/FieldColumn$Shape" "longs" "I" (.int (a + d)) := F_longs_46.ext E47
    have F_ints_46 : Fld Z h47 b45 "com/example/cooldown/cooldown/policy/FieldColumn$Shape" "ints" "I" (.int (b + ee)) := F_ints_46.ext E47
    have F_objects_46 : Fld Z h47 b45 "com/example/cooldown/cooldown/policy/FieldColumn$Shape" "objects" "I" (.int (cc + (q6.toInt32))) := F_objects_46.ext E47
    have Zn : n0 ≤ h47.size := Nat.le_trans Zn E47.1
    have F_longs_b47 : Fld Z h47 b47 "com/example/cooldown/cooldown/policy/FieldColumn$Shape" "longs" "I" (.int (0 : Int32)) := D47 (Or.inr (hw _ (List.mem_of_getElem? (i := 11) rfl))) (ty := .int) (by decide)
    have F_ints_b47 : Fld Z h47 b47 "com/example/cooldown/cooldown/policy/FieldColumn$Shape" "ints" "I" (.int (0 : Int32)) := D47 (Or.inr (hw _ (List.mem_of_getElem? (i := 13) rfl))) (ty := .int) (by decide)
    have F_objects_b47 : Fld Z h47 b47 "com/example/cooldown/cooldown/policy/FieldColumn$Shape" "objects" "I" (.int (0 : Int32)) := D47 (Or.inr (hw _ (List.mem_of_getElem? (i := 15) rfl))) (ty := .int) (by decide)
    have E_b47 := A47
    have pre : ∀ τ, Steps p.tables e below (T47.setTop (mkF m 68 #[.val (.int a), .val (.int b), .val (.int cc), .val (.int d), .val (.int ee), .val (.long q6), .second, .val (.int (q6.toInt32)), .val (.int (2 : Int32)), .val (.ref b41), .val (.ref b43), .val (.ref b45), .unset, .unset, .unset, .unset] [(.ref b47)])) τ → G τ := fun τ κ => pre τ (st47 τ κ)
    have pre : ∀ τ, Steps p.tables e below (T47.setTop (mkF m 71 #[.val (.int a), .val (.int b), .val (.int cc), .val (.int d), .val (.int ee), .val (.long q6), .second, .val (.int (q6.toInt32)), .val (.int (2 : Int32)), .val (.ref b41), .val (.ref b43), .val (.ref b45), .unset, .unset, .unset, .unset] [(.int (2 : Int32)), (.ref b47), (.ref b47)])) τ → G τ := fun τ κ => pre τ (by
      refine XS.dup X47.here hx rfl (hb hby at_68) rfl rfl ?_
      show Steps p.tables e below (T47.setTop (mkF m 69 #[.val (.int a), .val (.int b), .val (.int cc), .val (.int d), .val (.int ee), .val (.long q6), .second, .val (.int (q6.toInt32)), .val (.int (2 : Int32)), .val (.ref b41), .val (.ref b43), .val (.ref b45), .unset, .unset, .unset, .unset] [(.ref b47), (.ref b47)])) τ
      refine XS.iload X47.here hx rfl (hb hby at_69) rfl ?_
      show Steps p.tables e below (T47.setTop (mkF m 71 #[.val (.int a), .val (.int b), .val (.int cc), .val (.int d), .val (.int ee), .val (.long q6), .second, .val (.int (q6.toInt32)), .val (.int (2 : Int32)), .val (.ref b41), .val (.ref b43), .val (.ref b45), .unset, .unset, .unset, .unset] [(.int (2 : Int32)), (.ref b47), (.ref b47)])) τ
      exact κ)
    have hc48 : ¬ ((2 : Int32) = (0 : Int32)) := (by decide)
    have pre : ∀ τ, Steps p.tables e below (T47.setTop (mkF m 82 #[.val (.int a), .val (.int b), .val (.int cc), .val (.int d), .val (.int ee), .val (.long q6), .second, .val (.int (q6.toInt32)), .val (.int (2 : Int32)), .val (.ref b41), .val (.ref b43), .val (.ref b45), .unset, .unset, .unset, .unset] [(.int (1 : Int32)), (.int (2 : Int32)), (.int (0 : Int32)), (.ref b47), (.ref b47)])) τ → G τ := fun τ κ => pre τ (by
      refine XS.ifYes X47.here hx rfl (pc0 := 71) (pc' := 78) rfl (hb hby at_71) rfl ((if0 _ _).trans (feq hc48).2) (by decide) (by decide) ?_
      show Steps p.tables e below (T47.setTop (mkF m 78 #[.val (.int a), .val (.int b), .val (.int cc), .val (.int d), .val (.int ee), .val (.long q6), .second, .val (.int (q6.toInt32)), .val (.int (2 : Int32)), .val (.ref b41), .val (.ref b43), .val (.ref b45), .unset, .unset, .unset, .unset] [(.ref b47), (.ref b47)])) τ
      refine XS.iconst X47.here hx rfl (hb hby at_78) ?_
      show Steps p.tables e below (T47.setTop (mkF m 79 #[.val (.int a), .val (.int b), .val (.int cc), .val (.int d), .val (.int ee), .val (.long q6), .second, .val (.int (q6.toInt32)), .val (.int (2 : Int32)), .val (.ref b41), .val (.ref b43), .val (.ref b45), .unset, .unset, .unset, .unset] [(.int (0 : Int32)), (.ref b47), (.ref b47)])) τ
      refine XS.iload X47.here hx rfl (hb hby at_79) rfl ?_
      show Steps p.tables e below (T47.setTop (mkF m 81 #[.val (.int a), .val (.int b), .val (.int cc), .val (.int d), .val (.int ee), .val (.long q6), .second, .val (.int (q6.toInt32)), .val (.int (2 : Int32)), .val (.ref b41), .val (.ref b43), .val (.ref b45), .unset, .unset, .unset, .unset] [(.int (2 : Int32)), (.int (0 : Int32)), (.ref b47), (.ref b47)])) τ
      refine XS.iconst X47.here hx rfl (hb hby at_81) ?_
      show Steps p.tables e below (T47.setTop (mkF m 82 #[.val (.int a), .val (.int b), .val (.int cc), .val (.int d), .val (.int ee), .val (.long q6), .second, .val (.int (q6.toInt32)), .val (.int (2 : Int32)), .val (.ref b41), .val (.ref b43), .val (.ref b45), .unset, .unset, .unset, .unset] [(.int (1 : Int32)), (.int (2 : Int32)), (.int (0 : Int32)), (.ref b47), (.ref b47)])) τ
      exact κ)
    have hc49 : ¬ ((2 : Int32) = (1 : Int32)) := (by decide)
    have pre : ∀ τ, Steps p.tables e below (T47.setTop (mkF m 93 #[.val (.int a), .val (.int b), .val (.int cc), .val (.int d), .val (.int ee), .val (.long q6), .second, .val (.int (q6.toInt32)), .val (.int (2 : Int32)), .val (.ref b41), .val (.ref b43), .val (.ref b45), .unset, .unset, .unset, .unset] [(.int (2 : Int32)), (.int (2 : Int32)), (.int (0 : Int32)), (.int (0 : Int32)), (.ref b47), (.ref b47)])) τ → G τ := fun τ κ => pre τ (by
      refine XS.icmpYes X47.here hx rfl (pc0 := 82) (pc' := 89) rfl (hb hby at_82) rfl (feq hc49).2 (by decide) (by decide) ?_
      show Steps p.tables e below (T47.setTop (mkF m 89 #[.val (.int a), .val (.int b), .val (.int cc), .val (.int d), .val (.int ee), .val (.long q6), .second, .val (.int (q6.toInt32)), .val (.int (2 : Int32)), .val (.ref b41), .val (.ref b43), .val (.ref b45), .unset, .unset, .unset, .unset] [(.int (0 : Int32)), (.ref b47), (.ref b47)])) τ
      refine XS.iconst X47.here hx rfl (hb hby at_89) ?_
      show Steps p.tables e below (T47.setTop (mkF m 90 #[.val (.int a), .val (.int b), .val (.int cc), .val (.int d), .val (.int ee), .val (.long q6), .second, .val (.int (q6.toInt32)), .val (.int (2 : Int32)), .val (.ref b41), .val (.ref b43), .val (.ref b45), .unset, .unset, .unset, .unset] [(.int (0 : Int32)), (.int (0 : Int32)), (.ref b47), (.ref b47)])) τ
      refine XS.iload X47.here hx rfl (hb hby at_90) rfl ?_
      show Steps p.tables e below (T47.setTop (mkF m 92 #[.val (.int a), .val (.int b), .val (.int cc), .val (.int d), .val (.int ee), .val (.long q6), .second, .val (.int (q6.toInt32)), .val (.int (2 : Int32)), .val (.ref b41), .val (.ref b43), .val (.ref b45), .unset, .unset, .unset, .unset] [(.int (2 : Int32)), (.int (0 : Int32)), (.int (0 : Int32)), (.ref b47), (.ref b47)])) τ
      refine XS.iconst X47.here hx rfl (hb hby at_92) ?_
      show Steps p.tables e below (T47.setTop (mkF m 93 #[.val (.int a), .val (.int b), .val (.int cc), .val (.int d), .val (.int ee), .val (.long q6), .second, .val (.int (q6.toInt32)), .val (.int (2 : Int32)), .val (.ref b41), .val (.ref b43), .val (.ref b45), .unset, .unset, .unset, .unset] [(.int (2 : Int32)), (.int (2 : Int32)), (.int (0 : Int32)), (.int (0 : Int32)), (.ref b47), (.ref b47)])) τ
      exact κ)
    have hc50 : (2 : Int32) = (2 : Int32) := rfl
    have pre : ∀ τ, Steps p.tables e below (T47.setTop (mkF m 101 #[.val (.int a), .val (.int b), .val (.int cc), .val (.int d), .val (.int ee), .val (.long q6), .second, .val (.int (q6.toInt32)), .val (.int (2 : Int32)), .val (.ref b41), .val (.ref b43), .val (.ref b45), .unset, .unset, .unset, .unset] [(.int (1 : Int32)), (.int (0 : Int32)), (.int (0 : Int32)), (.ref b47), (.ref b47)])) τ → G τ := fun τ κ => pre τ (by
      refine XS.icmpNo X47.here hx rfl (hb hby at_93) rfl (teq hc50).2 ?_
      show Steps p.tables e below (T47.setTop (mkF m 96 #[.val (.int a), .val (.int b), .val (.int cc), .val (.int d), .val (.int ee), .val (.long q6), .second, .val (.int (q6.toInt32)), .val (.int (2 : Int32)), .val (.ref b41), .val (.ref b43), .val (.ref b45), .unset, .unset, .unset, .unset] [(.int (0 : Int32)), (.int (0 : Int32)), (.ref b47), (.ref b47)])) τ
      refine XS.iconst X47.here hx rfl (hb hby at_96) ?_
      show Steps p.tables e below (T47.setTop (mkF m 97 #[.val (.int a), .val (.int b), .val (.int cc), .val (.int d), .val (.int ee), .val (.long q6), .second, .val (.int (q6.toInt32)), .val (.int (2 : Int32)), .val (.ref b41), .val (.ref b43), .val (.ref b45), .unset, .unset, .unset, .unset] [(.int (1 : Int32)), (.int (0 : Int32)), (.int (0 : Int32)), (.ref b47), (.ref b47)])) τ
      refine XS.goto X47.here hx rfl (pc0 := 97) (pc' := 101) rfl (hb hby at_97) (by decide) (by decide) ?_
      show Steps p.tables e below (T47.setTop (mkF m 101 #[.val (.int a), .val (.int b), .val (.int cc), .val (.int d), .val (.int ee), .val (.long q6), .second, .val (.int (q6.toInt32)), .val (.int (2 : Int32)), .val (.ref b41), .val (.ref b43), .val (.ref b45), .unset, .unset, .unset, .unset] [(.int (1 : Int32)), (.int (0 : Int32)), (.int (0 : Int32)), (.ref b47), (.ref b47)])) τ
      exact κ)
    obtain ⟨_, _, ⟨T51, Lx51, kx51, nx51⟩, -, X51, ⟨Lc51, hQ51, l51, y51, z51⟩, st51⟩ := X47.specialBack hx (y := (⟨"com/example/cooldown/cooldown/policy/FieldColumn$Shape", "<init>", "(III)V"⟩ : MethodName)) rfl hown (mvT hZ (hw _ (List.mem_of_getElem? (i := 4) rfl))) (mvT hZ (hw _ (List.mem_of_getElem? (i := 5) rfl))) (mvT hZ (hw _ (List.mem_of_getElem? (i := 6) rfl))) (by decide) (backOf (W := 1) (rm1 l Z a0 hw [] b47 (0 : Int32) (0 : Int32) (1 : Int32) (.int (0 : Int32)) (.int (0 : Int32)) (.int (0 : Int32)) h47 n0 Zn g_b47 E_b47 F_longs_b47 F_ints_b47 F_objects_b47) hZ (hw _ (List.mem_of_getElem? (i := 6) rfl)) (hw _ (List.mem_of_getElem? (i := 3) rfl)) (by decide) (by decide)) (g := (mkF m 101 #[.val (.int a), .val (.int b), .val (.int cc), .val (.int d), .val (.int ee), .val (.long q6), .second, .val (.int (q6.toInt32)), .val (.int (2 : Int32)), .val (.ref b41), .val (.ref b43), .val (.ref b45), .unset, .unset, .unset, .unset] [(.int (1 : Int32)), (.int (0 : Int32)), (.int (0 : Int32)), (.ref b47), (.ref b47)])) rfl (by rw [hml]; rfl) (Steps.refl _) (a := b47) (argsL := [(.int (0 : Int32)), (.int (0 : Int32)), (.int (1 : Int32))]) (rest := [(.ref b47)]) (lenOf pd_0 rfl) rfl (by show 2 * 0 + _ ≤ _; exact Nat.le_of_eq rfl) (hb hby at_101) (fun _ _ => ⟨rfl, e47, (by decide : 4 + 0 ≤ _), (by decide : 12 + 0 ≤ _)⟩)
    dsimp only [Pt.U, Pt.locs, Pt.cells, Pt.slots] at X51 l51 y51 z51 st51 hQ51
    subst l51 y51 z51
    obtain ⟨rfl, Nq51, Kc51, E_o_51, F_longs_51, F_ints_51, F_objects_51⟩ := hQ51
    have NN := Fr.app NN Nq51
    have E_b41 : Exa Z T51.heap b41 "com/example/cooldown/cooldown/policy/FieldColumn$Shape" := E_b41.keep Kc51
    have E_o_42 : Exa Z T51.heap b41 "com/example/cooldown/cooldown/policy/FieldColumn$Shape" := E_o_42.keep Kc51
    have F_longs_42 : Fld Z T51.heap b41 "com/example/cooldown/cooldown/policy/FieldColumn$Shape" "longs" "I" (.int a) := F_longs_42.keep Kc51 (ninS ne_b41_b47 nin0)
    have F_ints_42 : Fld Z T51.heap b41 "com/example/cooldown/cooldown/policy/FieldColumn$Shape" "ints" "I" (.int b) := F_ints_42.keep Kc51 (ninS ne_b41_b47 nin0)
    have F_objects_42 : Fld Z T51.heap b41 "com/example/cooldown/cooldown/policy/FieldColumn$Shape" "objects" "I" (.int cc) := F_objects_42.keep Kc51 (ninS ne_b41_b47 nin0)
    have E_b43 : Exa Z T51.heap b43 "com/example/cooldown/cooldown/policy/FieldColumn$Shape" := E_b43.keep Kc51
    have E_o_44 : Exa Z T51.heap b43 "com/example/cooldown/cooldown/policy/FieldColumn$Shape" := E_o_44.keep Kc51
    have F_longs_44 : Fld Z T51.heap b43 "com/example/cooldown/cooldown/policy/FieldColumn$Shape" "longs" "I" (.int d) := F_longs_44.keep Kc51 (ninS ne_b43_b47 nin0)
    have F_ints_44 : Fld Z T51.heap b43 "com/example/cooldown/cooldown/policy/FieldColumn$Shape" "ints" "I" (.int ee) := F_ints_44.keep Kc51 (ninS ne_b43_b47 nin0)
    have F_objects_44 : Fld Z T51.heap b43 "com/example/cooldown/cooldown/policy/FieldColumn$Shape" "objects" "I" (.int (q6.toInt32)) := F_objects_44.keep Kc51 (ninS ne_b43_b47 nin0)
    have E_b45 : Exa Z T51.heap b45 "com/example/cooldown/cooldown/policy/FieldColumn$Shape" := E_b45.keep Kc51
    have E_o_46 : Exa Z T51.heap b45 "com/example/cooldown/cooldown/policy/FieldColumn$Shape" := E_o_46.keep Kc51
    have F_longs_46 : Fld Z T51.heap b45 "com/example/cooldown/cooldown/policy/FieldColumn$Shape" "longs" "I" (.int (a + d)) := F_longs_46.keep Kc51 (ninS ne_b45_b47 nin0)
    have F_ints_46 : Fld Z T51.heap b45 "com/example/cooldown/cooldown/policy/FieldColumn$Shape" "ints" "I" (.int (b + ee)) := F_ints_46.keep Kc51 (ninS ne_b45_b47 nin0)
    have F_objects_46 : Fld Z T51.heap b45 "com/example/cooldown/cooldown/policy/FieldColumn$Shape" "objects" "I" (.int (cc + (q6.toInt32))) := F_objects_46.keep Kc51 (ninS ne_b45_b47 nin0)
    have E_b47 : Exa Z T51.heap b47 "com/example/cooldown/cooldown/policy/FieldColumn$Shape" := E_b47.keep Kc51
    have Zn : n0 ≤ T51.heap.size := Nat.le_trans Zn Kc51.1
    have pre : ∀ τ, Steps p.tables e below (T51.setTop (mkF m 104 #[.val (.int a), .val (.int b), .val (.int cc), .val (.int d), .val (.int ee), .val (.long q6), .second, .val (.int (q6.toInt32)), .val (.int (2 : Int32)), .val (.ref b41), .val (.ref b43), .val (.ref b45), .unset, .unset, .unset, .unset] [(.ref b47)])) τ → G τ := fun τ κ => pre τ (st51.trans κ)
    have pre : ∀ τ, Steps p.tables e below (T51.setTop (mkF m 108 #[.val (.int a), .val (.int b), .val (.int cc), .val (.int d), .val (.int ee), .val (.long q6), .second, .val (.int (q6.toInt32)), .val (.int (2 : Int32)), .val (.ref b41), .val (.ref b43), .val (.ref b45), .val (.ref b47), .unset, .unset, .unset] [(.int (2 : Int32))])) τ → G τ := fun τ κ => pre τ (by
      refine XS.astore X51.here hx rfl (hb hby at_104) rfl rfl (l' := #[.val (.int a), .val (.int b), .val (.int cc), .val (.int d), .val (.int ee), .val (.long q6), .second, .val (.int (q6.toInt32)), .val (.int (2 : Int32)), .val (.ref b41), .val (.ref b43), .val (.ref b45), .val (.ref b47), .unset, .unset, .unset]) rfl ?_
      show Steps p.tables e below (T51.setTop (mkF m 106 #[.val (.int a), .val (.int b), .val (.int cc), .val (.int d), .val (.int ee), .val (.long q6), .second, .val (.int (q6.toInt32)), .val (.int (2 : Int32)), .val (.ref b41), .val (.ref b43), .val (.ref b45), .val (.ref b47), .unset, .unset, .unset] [])) τ
      refine XS.iload X51.here hx rfl (hb hby at_106) rfl ?_
      show Steps p.tables e below (T51.setTop (mkF m 108 #[.val (.int a), .val (.int b), .val (.int cc), .val (.int d), .val (.int ee), .val (.long q6), .second, .val (.int (q6.toInt32)), .val (.int (2 : Int32)), .val (.ref b41), .val (.ref b43), .val (.ref b45), .val (.ref b47), .unset, .unset, .unset] [(.int (2 : Int32))])) τ
      exact κ)
    have hc52 : ¬ ((2 : Int32) = (0 : Int32)) := (by decide)
    have pre : ∀ τ, Steps p.tables e below (T51.setTop (mkF m 121 #[.val (.int a), .val (.int b), .val (.int cc), .val (.int d), .val (.int ee), .val (.long q6), .second, .val (.int (q6.toInt32)), .val (.int (2 : Int32)), .val (.ref b41), .val (.ref b43), .val (.ref b45), .val (.ref b47), .val (.int (4 : Int32)), .unset, .unset] [(.ref b45)])) τ → G τ := fun τ κ => pre τ (by
      refine XS.ifYes X51.here hx rfl (pc0 := 108) (pc' := 116) rfl (hb hby at_108) rfl ((if0 _ _).trans (feq hc52).2) (by decide) (by decide) ?_
      show Steps p.tables e below (T51.setTop (mkF m 116 #[.val (.int a), .val (.int b), .val (.int cc), .val (.int d), .val (.int ee), .val (.long q6), .second, .val (.int (q6.toInt32)), .val (.int (2 : Int32)), .val (.ref b41), .val (.ref b43), .val (.ref b45), .val (.ref b47), .unset, .unset, .unset] [])) τ
      refine XS.iconst X51.here hx rfl (hb hby at_116) ?_
      show Steps p.tables e below (T51.setTop (mkF m 117 #[.val (.int a), .val (.int b), .val (.int cc), .val (.int d), .val (.int ee), .val (.long q6), .second, .val (.int (q6.toInt32)), .val (.int (2 : Int32)), .val (.ref b41), .val (.ref b43), .val (.ref b45), .val (.ref b47), .unset, .unset, .unset] [(.int (4 : Int32))])) τ
      refine XS.istore X51.here hx rfl (hb hby at_117) rfl (l' := #[.val (.int a), .val (.int b), .val (.int cc), .val (.int d), .val (.int ee), .val (.long q6), .second, .val (.int (q6.toInt32)), .val (.int (2 : Int32)), .val (.ref b41), .val (.ref b43), .val (.ref b45), .val (.ref b47), .val (.int (4 : Int32)), .unset, .unset]) rfl ?_
      show Steps p.tables e below (T51.setTop (mkF m 119 #[.val (.int a), .val (.int b), .val (.int cc), .val (.int d), .val (.int ee), .val (.long q6), .second, .val (.int (q6.toInt32)), .val (.int (2 : Int32)), .val (.ref b41), .val (.ref b43), .val (.ref b45), .val (.ref b47), .val (.int (4 : Int32)), .unset, .unset] [])) τ
      refine XS.aload X51.here hx rfl (hb hby at_119) rfl rfl ?_
      show Steps p.tables e below (T51.setTop (mkF m 121 #[.val (.int a), .val (.int b), .val (.int cc), .val (.int d), .val (.int ee), .val (.long q6), .second, .val (.int (q6.toInt32)), .val (.int (2 : Int32)), .val (.ref b41), .val (.ref b43), .val (.ref b45), .val (.ref b47), .val (.int (4 : Int32)), .unset, .unset] [(.ref b45)])) τ
      exact κ)
    obtain ⟨cq53, kq53, q53a, q53b, q53c⟩ := isOf hZ rfl E_b45
    obtain ⟨_, _, ⟨T53, Lx53, kx53, nx53⟩, -, X53, ⟨Lc53, hQ53, l53, y53, z53⟩, st53⟩ := X51.virtualBack hx (y := (⟨"com/example/cooldown/cooldown/policy/FieldColumn$Shape", "bytes", "()I"⟩ : MethodName)) (z := (⟨"com/example/cooldown/cooldown/policy/FieldColumn$Shape", "bytes", "()I"⟩ : MethodName)) hown (mvT hZ (hw _ (List.mem_of_getElem? (i := 16) rfl))) (mvT hZ (hw _ (List.mem_of_getElem? (i := 17) rfl))) (notFace_of_selects (args := #[]) (mvT hZ (hw _ (List.mem_of_getElem? (i := 19) rfl)))) (mvT hZ (hw _ (List.mem_of_getElem? (i := 19) rfl))) (mvT hZ (hw _ (List.mem_of_getElem? (i := 18) rfl))) (by decide) (backOf (W := 0) (rm3 l Z a0 hw [] b45 (a + d) (b + ee) (cc + (q6.toInt32)) T51.heap n0 Zn F_longs_46 F_ints_46 F_objects_46) hZ (hw _ (List.mem_of_getElem? (i := 20) rfl)) (hw _ (List.mem_of_getElem? (i := 3) rfl)) (by decide) (by decide)) q53a q53c (g := (mkF m 121 #[.val (.int a), .val (.int b), .val (.int cc), .val (.int d), .val (.int ee), .val (.long q6), .second, .val (.int (q6.toInt32)), .val (.int (2 : Int32)), .val (.ref b41), .val (.ref b43), .val (.ref b45), .val (.ref b47), .val (.int (4 : Int32)), .unset, .unset] [(.ref b45)])) rfl (by rw [hml]; rfl) (Steps.refl _) (argsL := []) (rest := []) (lenOf pd_1 rfl) rfl (by show 2 * 0 + _ ≤ _; exact Nat.le_of_eq rfl) (hb hby at_121) (fun _ _ => ⟨rfl, rfl, (by decide : 4 + 0 ≤ _), (by decide : 12 + 0 ≤ _)⟩)
    dsimp only [Pt.U, Pt.locs, Pt.cells, Pt.slots] at X53 l53 y53 z53 st53 hQ53
    subst l53 y53 z53
    obtain ⟨rfl, Nq53, hs53⟩ := hQ53
    have NN := Fr.app NN Nq53
    have pre : ∀ τ, Steps p.tables e below (T53.setTop (mkF m 124 #[.val (.int a), .val (.int b), .val (.int cc), .val (.int d), .val (.int ee), .val (.long q6), .second, .val (.int (q6.toInt32)), .val (.int (2 : Int32)), .val (.ref b41), .val (.ref b43), .val (.ref b45), .val (.ref b47), .val (.int (4 : Int32)), .unset, .unset] [(.int ((((8 : Int32) * (a + d)) + ((4 : Int32) * (b + ee))) + ((4 : Int32) * (cc + (q6.toInt32)))))])) τ → G τ := fun τ κ => pre τ (st53.trans κ)
    have pre : ∀ τ, Steps p.tables e below (T53.setTop (mkF m 126 #[.val (.int a), .val (.int b), .val (.int cc), .val (.int d), .val (.int ee), .val (.long q6), .second, .val (.int (q6.toInt32)), .val (.int (2 : Int32)), .val (.ref b41), .val (.ref b43), .val (.ref b45), .val (.ref b47), .val (.int (4 : Int32)), .unset, .unset] [(.ref b41), (.int ((((8 : Int32) * (a + d)) + ((4 : Int32) * (b + ee))) + ((4 : Int32) * (cc + (q6.toInt32)))))])) τ → G τ := fun τ κ => pre τ (by
      refine XS.aload X53.here hx rfl (hb hby at_124) rfl rfl ?_
      show Steps p.tables e below (T53.setTop (mkF m 126 #[.val (.int a), .val (.int b), .val (.int cc), .val (.int d), .val (.int ee), .val (.long q6), .second, .val (.int (q6.toInt32)), .val (.int (2 : Int32)), .val (.ref b41), .val (.ref b43), .val (.ref b45), .val (.ref b47), .val (.int (4 : Int32)), .unset, .unset] [(.ref b41), (.int ((((8 : Int32) * (a + d)) + ((4 : Int32) * (b + ee))) + ((4 : Int32) * (cc + (q6.toInt32)))))])) τ
      exact κ)
    obtain ⟨cq54, kq54, q54a, q54b, q54c⟩ := isOf hZ hs53 E_b41
    obtain ⟨_, _, ⟨T54, Lx54, kx54, nx54⟩, -, X54, ⟨Lc54, hQ54, l54, y54, z54⟩, st54⟩ := X53.virtualBack hx (y := (⟨"com/example/cooldown/cooldown/policy/FieldColumn$Shape", "bytes", "()I"⟩ : MethodName)) (z := (⟨"com/example/cooldown/cooldown/policy/FieldColumn$Shape", "bytes", "()I"⟩ : MethodName)) hown (mvT hZ (hw _ (List.mem_of_getElem? (i := 16) rfl))) (mvT hZ (hw _ (List.mem_of_getElem? (i := 17) rfl))) (notFace_of_selects (args := #[]) (mvT hZ (hw _ (List.mem_of_getElem? (i := 19) rfl)))) (mvT hZ (hw _ (List.mem_of_getElem? (i := 19) rfl))) (mvT hZ (hw _ (List.mem_of_getElem? (i := 18) rfl))) (by decide) (backOf (W := 1) (rm3 l Z a0 hw [] b41 a b cc T51.heap n0 Zn F_longs_42 F_ints_42 F_objects_42) hZ (hw _ (List.mem_of_getElem? (i := 20) rfl)) (hw _ (List.mem_of_getElem? (i := 3) rfl)) (by decide) (by decide)) q54a q54c (g := (mkF m 126 #[.val (.int a), .val (.int b), .val (.int cc), .val (.int d), .val (.int ee), .val (.long q6), .second, .val (.int (q6.toInt32)), .val (.int (2 : Int32)), .val (.ref b41), .val (.ref b43), .val (.ref b45), .val (.ref b47), .val (.int (4 : Int32)), .unset, .unset] [(.ref b41), (.int ((((8 : Int32) * (a + d)) + ((4 : Int32) * (b + ee))) + ((4 : Int32) * (cc + (q6.toInt32)))))])) rfl (by rw [hml]; rfl) (Steps.refl _) (argsL := []) (rest := [(.int ((((8 : Int32) * (a + d)) + ((4 : Int32) * (b + ee))) + ((4 : Int32) * (cc + (q6.toInt32)))))]) (lenOf pd_1 rfl) rfl (by show 2 * 0 + _ ≤ _; exact Nat.le_of_eq rfl) (hb hby at_126) (fun _ _ => ⟨rfl, hs53, (by decide : 4 + 0 ≤ _), (by decide : 12 + 0 ≤ _)⟩)
    dsimp only [Pt.U, Pt.locs, Pt.cells, Pt.slots] at X54 l54 y54 z54 st54 hQ54
    subst l54 y54 z54
    obtain ⟨rfl, Nq54, hs54⟩ := hQ54
    have NN := Fr.app NN Nq54
    have pre : ∀ τ, Steps p.tables e below (T54.setTop (mkF m 129 #[.val (.int a), .val (.int b), .val (.int cc), .val (.int d), .val (.int ee), .val (.long q6), .second, .val (.int (q6.toInt32)), .val (.int (2 : Int32)), .val (.ref b41), .val (.ref b43), .val (.ref b45), .val (.ref b47), .val (.int (4 : Int32)), .unset, .unset] [(.int ((((8 : Int32) * a) + ((4 : Int32) * b)) + ((4 : Int32) * cc))), (.int ((((8 : Int32) * (a + d)) + ((4 : Int32) * (b + ee))) + ((4 : Int32) * (cc + (q6.toInt32)))))])) τ → G τ := fun τ κ => pre τ (st54.trans κ)
    have pre : ∀ τ, Steps p.tables e below (T54.setTop (mkF m 131 #[.val (.int a), .val (.int b), .val (.int cc), .val (.int d), .val (.int ee), .val (.long q6), .second, .val (.int (q6.toInt32)), .val (.int (2 : Int32)), .val (.ref b41), .val (.ref b43), .val (.ref b45), .val (.ref b47), .val (.int (4 : Int32)), .unset, .unset] [(.ref b43), (.int ((((8 : Int32) * a) + ((4 : Int32) * b)) + ((4 : Int32) * cc))), (.int ((((8 : Int32) * (a + d)) + ((4 : Int32) * (b + ee))) + ((4 : Int32) * (cc + (q6.toInt32)))))])) τ → G τ := fun τ κ => pre τ (by
      refine XS.aload X54.here hx rfl (hb hby at_129) rfl rfl ?_
      show Steps p.tables e below (T54.setTop (mkF m 131 #[.val (.int a), .val (.int b), .val (.int cc), .val (.int d), .val (.int ee), .val (.long q6), .second, .val (.int (q6.toInt32)), .val (.int (2 : Int32)), .val (.ref b41), .val (.ref b43), .val (.ref b45), .val (.ref b47), .val (.int (4 : Int32)), .unset, .unset] [(.ref b43), (.int ((((8 : Int32) * a) + ((4 : Int32) * b)) + ((4 : Int32) * cc))), (.int ((((8 : Int32) * (a + d)) + ((4 : Int32) * (b + ee))) + ((4 : Int32) * (cc + (q6.toInt32)))))])) τ
      exact κ)
    obtain ⟨cq55, kq55, q55a, q55b, q55c⟩ := isOf hZ hs54 E_b43
    obtain ⟨_, _, ⟨T55, Lx55, kx55, nx55⟩, -, X55, ⟨Lc55, hQ55, l55, y55, z55⟩, st55⟩ := X54.virtualBack hx (y := (⟨"com/example/cooldown/cooldown/policy/FieldColumn$Shape", "bytes", "()I"⟩ : MethodName)) (z := (⟨"com/example/cooldown/cooldown/policy/FieldColumn$Shape", "bytes", "()I"⟩ : MethodName)) hown (mvT hZ (hw _ (List.mem_of_getElem? (i := 16) rfl))) (mvT hZ (hw _ (List.mem_of_getElem? (i := 17) rfl))) (notFace_of_selects (args := #[]) (mvT hZ (hw _ (List.mem_of_getElem? (i := 19) rfl)))) (mvT hZ (hw _ (List.mem_of_getElem? (i := 19) rfl))) (mvT hZ (hw _ (List.mem_of_getElem? (i := 18) rfl))) (by decide) (backOf (W := 2) (rm3 l Z a0 hw [] b43 d ee (q6.toInt32) T51.heap n0 Zn F_longs_44 F_ints_44 F_objects_44) hZ (hw _ (List.mem_of_getElem? (i := 20) rfl)) (hw _ (List.mem_of_getElem? (i := 3) rfl)) (by decide) (by decide)) q55a q55c (g := (mkF m 131 #[.val (.int a), .val (.int b), .val (.int cc), .val (.int d), .val (.int ee), .val (.long q6), .second, .val (.int (q6.toInt32)), .val (.int (2 : Int32)), .val (.ref b41), .val (.ref b43), .val (.ref b45), .val (.ref b47), .val (.int (4 : Int32)), .unset, .unset] [(.ref b43), (.int ((((8 : Int32) * a) + ((4 : Int32) * b)) + ((4 : Int32) * cc))), (.int ((((8 : Int32) * (a + d)) + ((4 : Int32) * (b + ee))) + ((4 : Int32) * (cc + (q6.toInt32)))))])) rfl (by rw [hml]; rfl) (Steps.refl _) (argsL := []) (rest := [(.int ((((8 : Int32) * a) + ((4 : Int32) * b)) + ((4 : Int32) * cc))), (.int ((((8 : Int32) * (a + d)) + ((4 : Int32) * (b + ee))) + ((4 : Int32) * (cc + (q6.toInt32)))))]) (lenOf pd_1 rfl) rfl (by show 2 * 0 + _ ≤ _; exact Nat.le_of_eq rfl) (hb hby at_131) (fun _ _ => ⟨rfl, hs54, (by decide : 4 + 0 ≤ _), (by decide : 12 + 0 ≤ _)⟩)
    dsimp only [Pt.U, Pt.locs, Pt.cells, Pt.slots] at X55 l55 y55 z55 st55 hQ55
    subst l55 y55 z55
    obtain ⟨rfl, Nq55, hs55⟩ := hQ55
    have NN := Fr.app NN Nq55
    have pre : ∀ τ, Steps p.tables e below (T55.setTop (mkF m 134 #[.val (.int a), .val (.int b), .val (.int cc), .val (.int d), .val (.int ee), .val (.long q6), .second, .val (.int (q6.toInt32)), .val (.int (2 : Int32)), .val (.ref b41), .val (.ref b43), .val (.ref b45), .val (.ref b47), .val (.int (4 : Int32)), .unset, .unset] [(.int ((((8 : Int32) * d) + ((4 : Int32) * ee)) + ((4 : Int32) * (q6.toInt32)))), (.int ((((8 : Int32) * a) + ((4 : Int32) * b)) + ((4 : Int32) * cc))), (.int ((((8 : Int32) * (a + d)) + ((4 : Int32) * (b + ee))) + ((4 : Int32) * (cc + (q6.toInt32)))))])) τ → G τ := fun τ κ => pre τ (st55.trans κ)
    have pre : ∀ τ, Steps p.tables e below (T55.setTop (mkF m 135 #[.val (.int a), .val (.int b), .val (.int cc), .val (.int d), .val (.int ee), .val (.long q6), .second, .val (.int (q6.toInt32)), .val (.int (2 : Int32)), .val (.ref b41), .val (.ref b43), .val (.ref b45), .val (.ref b47), .val (.int (4 : Int32)), .unset, .unset] [(.int (((((8 : Int32) * a) + ((4 : Int32) * b)) + ((4 : Int32) * cc)) + ((((8 : Int32) * d) + ((4 : Int32) * ee)) + ((4 : Int32) * (q6.toInt32))))), (.int ((((8 : Int32) * (a + d)) + ((4 : Int32) * (b + ee))) + ((4 : Int32) * (cc + (q6.toInt32)))))])) τ → G τ := fun τ κ => pre τ (by
      refine XS.iadd X55.here hx rfl (hb hby at_134) rfl ?_
      show Steps p.tables e below (T55.setTop (mkF m 135 #[.val (.int a), .val (.int b), .val (.int cc), .val (.int d), .val (.int ee), .val (.long q6), .second, .val (.int (q6.toInt32)), .val (.int (2 : Int32)), .val (.ref b41), .val (.ref b43), .val (.ref b45), .val (.ref b47), .val (.int (4 : Int32)), .unset, .unset] [(.int (((((8 : Int32) * a) + ((4 : Int32) * b)) + ((4 : Int32) * cc)) + ((((8 : Int32) * d) + ((4 : Int32) * ee)) + ((4 : Int32) * (q6.toInt32))))), (.int ((((8 : Int32) * (a + d)) + ((4 : Int32) * (b + ee))) + ((4 : Int32) * (cc + (q6.toInt32)))))])) τ
      exact κ)
    have hc56 : ((((8 : Int32) * (a + d)) + ((4 : Int32) * (b + ee))) + ((4 : Int32) * (cc + (q6.toInt32)))) = (((((8 : Int32) * a) + ((4 : Int32) * b)) + ((4 : Int32) * cc)) + ((((8 : Int32) * d) + ((4 : Int32) * ee)) + ((4 : Int32) * (q6.toInt32)))) := own_add _ _ _ _ _ _
    have pre : ∀ τ, Steps p.tables e below (T55.setTop (mkF m 147 #[.val (.int a), .val (.int b), .val (.int cc), .val (.int d), .val (.int ee), .val (.long q6), .second, .val (.int (q6.toInt32)), .val (.int (2 : Int32)), .val (.ref b41), .val (.ref b43), .val (.ref b45), .val (.ref b47), .val (.int (4 : Int32)), .val (.int (1 : Int32)), .unset] [(.ref b47)])) τ → G τ := fun τ κ => pre τ (by
      refine XS.icmpNo X55.here hx rfl (hb hby at_135) rfl (teq hc56).2 ?_
      show Steps p.tables e below (T55.setTop (mkF m 138 #[.val (.int a), .val (.int b), .val (.int cc), .val (.int d), .val (.int ee), .val (.long q6), .second, .val (.int (q6.toInt32)), .val (.int (2 : Int32)), .val (.ref b41), .val (.ref b43), .val (.ref b45), .val (.ref b47), .val (.int (4 : Int32)), .unset, .unset] [])) τ
      refine XS.iconst X55.here hx rfl (hb hby at_138) ?_
      show Steps p.tables e below (T55.setTop (mkF m 139 #[.val (.int a), .val (.int b), .val (.int cc), .val (.int d), .val (.int ee), .val (.long q6), .second, .val (.int (q6.toInt32)), .val (.int (2 : Int32)), .val (.ref b41), .val (.ref b43), .val (.ref b45), .val (.ref b47), .val (.int (4 : Int32)), .unset, .unset] [(.int (1 : Int32))])) τ
      refine XS.goto X55.here hx rfl (pc0 := 139) (pc' := 143) rfl (hb hby at_139) (by decide) (by decide) ?_
      show Steps p.tables e below (T55.setTop (mkF m 143 #[.val (.int a), .val (.int b), .val (.int cc), .val (.int d), .val (.int ee), .val (.long q6), .second, .val (.int (q6.toInt32)), .val (.int (2 : Int32)), .val (.ref b41), .val (.ref b43), .val (.ref b45), .val (.ref b47), .val (.int (4 : Int32)), .unset, .unset] [(.int (1 : Int32))])) τ
      refine XS.istore X55.here hx rfl (hb hby at_143) rfl (l' := #[.val (.int a), .val (.int b), .val (.int cc), .val (.int d), .val (.int ee), .val (.long q6), .second, .val (.int (q6.toInt32)), .val (.int (2 : Int32)), .val (.ref b41), .val (.ref b43), .val (.ref b45), .val (.ref b47), .val (.int (4 : Int32)), .val (.int (1 : Int32)), .unset]) rfl ?_
      show Steps p.tables e below (T55.setTop (mkF m 145 #[.val (.int a), .val (.int b), .val (.int cc), .val (.int d), .val (.int ee), .val (.long q6), .second, .val (.int (q6.toInt32)), .val (.int (2 : Int32)), .val (.ref b41), .val (.ref b43), .val (.ref b45), .val (.ref b47), .val (.int (4 : Int32)), .val (.int (1 : Int32)), .unset] [])) τ
      refine XS.aload X55.here hx rfl (hb hby at_145) rfl rfl ?_
      show Steps p.tables e below (T55.setTop (mkF m 147 #[.val (.int a), .val (.int b), .val (.int cc), .val (.int d), .val (.int ee), .val (.long q6), .second, .val (.int (q6.toInt32)), .val (.int (2 : Int32)), .val (.ref b41), .val (.ref b43), .val (.ref b45), .val (.ref b47), .val (.int (4 : Int32)), .val (.int (1 : Int32)), .unset] [(.ref b47)])) τ
      exact κ)
    obtain ⟨cq57, kq57, q57a, q57b, q57c⟩ := isOf hZ hs55 E_b47
    obtain ⟨_, _, ⟨T57, Lx57, kx57, nx57⟩, -, X57, ⟨Lc57, hQ57, l57, y57, z57⟩, st57⟩ := X55.virtualBack hx (y := (⟨"com/example/cooldown/cooldown/policy/FieldColumn$Shape", "bytes", "()I"⟩ : MethodName)) (z := (⟨"com/example/cooldown/cooldown/policy/FieldColumn$Shape", "bytes", "()I"⟩ : MethodName)) hown (mvT hZ (hw _ (List.mem_of_getElem? (i := 16) rfl))) (mvT hZ (hw _ (List.mem_of_getElem? (i := 17) rfl))) (notFace_of_selects (args := #[]) (mvT hZ (hw _ (List.mem_of_getElem? (i := 19) rfl)))) (mvT hZ (hw _ (List.mem_of_getElem? (i := 19) rfl))) (mvT hZ (hw _ (List.mem_of_getElem? (i := 18) rfl))) (by decide) (backOf (W := 0) (rm3 l Z a0 hw [] b47 (0 : Int32) (0 : Int32) (1 : Int32) T51.heap n0 Zn F_longs_51 F_ints_51 F_objects_51) hZ (hw _ (List.mem_of_getElem? (i := 20) rfl)) (hw _ (List.mem_of_getElem? (i := 3) rfl)) (by decide) (by decide)) q57a q57c (g := (mkF m 147 #[.val (.int a), .val (.int b), .val (.int cc), .val (.int d), .val (.int ee), .val (.long q6), .second, .val (.int (q6.toInt32)), .val (.int (2 : Int32)), .val (.ref b41), .val (.ref b43), .val (.ref b45), .val (.ref b47), .val (.int (4 : Int32)), .val (.int (1 : Int32)), .unset] [(.ref b47)])) rfl (by rw [hml]; rfl) (Steps.refl _) (argsL := []) (rest := []) (lenOf pd_1 rfl) rfl (by show 2 * 0 + _ ≤ _; exact Nat.le_of_eq rfl) (hb hby at_147) (fun _ _ => ⟨rfl, hs55, (by decide : 4 + 0 ≤ _), (by decide : 12 + 0 ≤ _)⟩)
    dsimp only [Pt.U, Pt.locs, Pt.cells, Pt.slots] at X57 l57 y57 z57 st57 hQ57
    subst l57 y57 z57
    obtain ⟨rfl, Nq57, hs57⟩ := hQ57
    have NN := Fr.app NN Nq57
    have pre : ∀ τ, Steps p.tables e below (T57.setTop (mkF m 150 #[.val (.int a), .val (.int b), .val (.int cc), .val (.int d), .val (.int ee), .val (.long q6), .second, .val (.int (q6.toInt32)), .val (.int (2 : Int32)), .val (.ref b41), .val (.ref b43), .val (.ref b45), .val (.ref b47), .val (.int (4 : Int32)), .val (.int (1 : Int32)), .unset] [(.int ((((8 : Int32) * (0 : Int32)) + ((4 : Int32) * (0 : Int32))) + ((4 : Int32) * (1 : Int32))))])) τ → G τ := fun τ κ => pre τ (st57.trans κ)
    have pre : ∀ τ, Steps p.tables e below (T57.setTop (mkF m 152 #[.val (.int a), .val (.int b), .val (.int cc), .val (.int d), .val (.int ee), .val (.long q6), .second, .val (.int (q6.toInt32)), .val (.int (2 : Int32)), .val (.ref b41), .val (.ref b43), .val (.ref b45), .val (.ref b47), .val (.int (4 : Int32)), .val (.int (1 : Int32)), .unset] [(.int (4 : Int32)), (.int ((((8 : Int32) * (0 : Int32)) + ((4 : Int32) * (0 : Int32))) + ((4 : Int32) * (1 : Int32))))])) τ → G τ := fun τ κ => pre τ (by
      refine XS.iload X57.here hx rfl (hb hby at_150) rfl ?_
      show Steps p.tables e below (T57.setTop (mkF m 152 #[.val (.int a), .val (.int b), .val (.int cc), .val (.int d), .val (.int ee), .val (.long q6), .second, .val (.int (q6.toInt32)), .val (.int (2 : Int32)), .val (.ref b41), .val (.ref b43), .val (.ref b45), .val (.ref b47), .val (.int (4 : Int32)), .val (.int (1 : Int32)), .unset] [(.int (4 : Int32)), (.int ((((8 : Int32) * (0 : Int32)) + ((4 : Int32) * (0 : Int32))) + ((4 : Int32) * (1 : Int32))))])) τ
      exact κ)
    have hc58 : ((((8 : Int32) * (0 : Int32)) + ((4 : Int32) * (0 : Int32))) + ((4 : Int32) * (1 : Int32))) = (4 : Int32) := (by decide)
    have pre : ∀ τ, Steps p.tables e below (T57.setTop (mkF m 164 #[.val (.int a), .val (.int b), .val (.int cc), .val (.int d), .val (.int ee), .val (.long q6), .second, .val (.int (q6.toInt32)), .val (.int (2 : Int32)), .val (.ref b41), .val (.ref b43), .val (.ref b45), .val (.ref b47), .val (.int (4 : Int32)), .val (.int (1 : Int32)), .val (.int (1 : Int32))] [(.int (1 : Int32))])) τ → G τ := fun τ κ => pre τ (by
      refine XS.icmpNo X57.here hx rfl (hb hby at_152) rfl (teq hc58).2 ?_
      show Steps p.tables e below (T57.setTop (mkF m 155 #[.val (.int a), .val (.int b), .val (.int cc), .val (.int d), .val (.int ee), .val (.long q6), .second, .val (.int (q6.toInt32)), .val (.int (2 : Int32)), .val (.ref b41), .val (.ref b43), .val (.ref b45), .val (.ref b47), .val (.int (4 : Int32)), .val (.int (1 : Int32)), .unset] [])) τ
      refine XS.iconst X57.here hx rfl (hb hby at_155) ?_
      show Steps p.tables e below (T57.setTop (mkF m 156 #[.val (.int a), .val (.int b), .val (.int cc), .val (.int d), .val (.int ee), .val (.long q6), .second, .val (.int (q6.toInt32)), .val (.int (2 : Int32)), .val (.ref b41), .val (.ref b43), .val (.ref b45), .val (.ref b47), .val (.int (4 : Int32)), .val (.int (1 : Int32)), .unset] [(.int (1 : Int32))])) τ
      refine XS.goto X57.here hx rfl (pc0 := 156) (pc' := 160) rfl (hb hby at_156) (by decide) (by decide) ?_
      show Steps p.tables e below (T57.setTop (mkF m 160 #[.val (.int a), .val (.int b), .val (.int cc), .val (.int d), .val (.int ee), .val (.long q6), .second, .val (.int (q6.toInt32)), .val (.int (2 : Int32)), .val (.ref b41), .val (.ref b43), .val (.ref b45), .val (.ref b47), .val (.int (4 : Int32)), .val (.int (1 : Int32)), .unset] [(.int (1 : Int32))])) τ
      refine XS.istore X57.here hx rfl (hb hby at_160) rfl (l' := #[.val (.int a), .val (.int b), .val (.int cc), .val (.int d), .val (.int ee), .val (.long q6), .second, .val (.int (q6.toInt32)), .val (.int (2 : Int32)), .val (.ref b41), .val (.ref b43), .val (.ref b45), .val (.ref b47), .val (.int (4 : Int32)), .val (.int (1 : Int32)), .val (.int (1 : Int32))]) rfl ?_
      show Steps p.tables e below (T57.setTop (mkF m 162 #[.val (.int a), .val (.int b), .val (.int cc), .val (.int d), .val (.int ee), .val (.long q6), .second, .val (.int (q6.toInt32)), .val (.int (2 : Int32)), .val (.ref b41), .val (.ref b43), .val (.ref b45), .val (.ref b47), .val (.int (4 : Int32)), .val (.int (1 : Int32)), .val (.int (1 : Int32))] [])) τ
      refine XS.iload X57.here hx rfl (hb hby at_162) rfl ?_
      show Steps p.tables e below (T57.setTop (mkF m 164 #[.val (.int a), .val (.int b), .val (.int cc), .val (.int d), .val (.int ee), .val (.long q6), .second, .val (.int (q6.toInt32)), .val (.int (2 : Int32)), .val (.ref b41), .val (.ref b43), .val (.ref b45), .val (.ref b47), .val (.int (4 : Int32)), .val (.int (1 : Int32)), .val (.int (1 : Int32))] [(.int (1 : Int32))])) τ
      exact κ)
    have hc59 : ¬ ((1 : Int32) = (0 : Int32)) := (by decide)
    have pre : ∀ τ, Steps p.tables e below (T57.setTop (mkF m 169 #[.val (.int a), .val (.int b), .val (.int cc), .val (.int d), .val (.int ee), .val (.long q6), .second, .val (.int (q6.toInt32)), .val (.int (2 : Int32)), .val (.ref b41), .val (.ref b43), .val (.ref b45), .val (.ref b47), .val (.int (4 : Int32)), .val (.int (1 : Int32)), .val (.int (1 : Int32))] [(.int (1 : Int32))])) τ → G τ := fun τ κ => pre τ (by
      refine XS.ifNo X57.here hx rfl (hb hby at_164) rfl ((if0 _ _).trans (feq hc59).1) ?_
      show Steps p.tables e below (T57.setTop (mkF m 167 #[.val (.int a), .val (.int b), .val (.int cc), .val (.int d), .val (.int ee), .val (.long q6), .second, .val (.int (q6.toInt32)), .val (.int (2 : Int32)), .val (.ref b41), .val (.ref b43), .val (.ref b45), .val (.ref b47), .val (.int (4 : Int32)), .val (.int (1 : Int32)), .val (.int (1 : Int32))] [])) τ
      refine XS.iload X57.here hx rfl (hb hby at_167) rfl ?_
      show Steps p.tables e below (T57.setTop (mkF m 169 #[.val (.int a), .val (.int b), .val (.int cc), .val (.int d), .val (.int ee), .val (.long q6), .second, .val (.int (q6.toInt32)), .val (.int (2 : Int32)), .val (.ref b41), .val (.ref b43), .val (.ref b45), .val (.ref b47), .val (.int (4 : Int32)), .val (.int (1 : Int32)), .val (.int (1 : Int32))] [(.int (1 : Int32))])) τ
      exact κ)
    have hc60 : ¬ ((1 : Int32) = (0 : Int32)) := (by decide)
    have pre : ∀ τ, Steps p.tables e below (T57.setTop (mkF m 177 #[.val (.int a), .val (.int b), .val (.int cc), .val (.int d), .val (.int ee), .val (.long q6), .second, .val (.int (q6.toInt32)), .val (.int (2 : Int32)), .val (.ref b41), .val (.ref b43), .val (.ref b45), .val (.ref b47), .val (.int (4 : Int32)), .val (.int (1 : Int32)), .val (.int (1 : Int32))] [(.int (1 : Int32))])) τ → G τ := fun τ κ => pre τ (by
      refine XS.ifNo X57.here hx rfl (hb hby at_169) rfl ((if0 _ _).trans (feq hc60).1) ?_
      show Steps p.tables e below (T57.setTop (mkF m 172 #[.val (.int a), .val (.int b), .val (.int cc), .val (.int d), .val (.int ee), .val (.long q6), .second, .val (.int (q6.toInt32)), .val (.int (2 : Int32)), .val (.ref b41), .val (.ref b43), .val (.ref b45), .val (.ref b47), .val (.int (4 : Int32)), .val (.int (1 : Int32)), .val (.int (1 : Int32))] [])) τ
      refine XS.iconst X57.here hx rfl (hb hby at_172) ?_
      show Steps p.tables e below (T57.setTop (mkF m 173 #[.val (.int a), .val (.int b), .val (.int cc), .val (.int d), .val (.int ee), .val (.long q6), .second, .val (.int (q6.toInt32)), .val (.int (2 : Int32)), .val (.ref b41), .val (.ref b43), .val (.ref b45), .val (.ref b47), .val (.int (4 : Int32)), .val (.int (1 : Int32)), .val (.int (1 : Int32))] [(.int (1 : Int32))])) τ
      refine XS.goto X57.here hx rfl (pc0 := 173) (pc' := 177) rfl (hb hby at_173) (by decide) (by decide) ?_
      show Steps p.tables e below (T57.setTop (mkF m 177 #[.val (.int a), .val (.int b), .val (.int cc), .val (.int d), .val (.int ee), .val (.long q6), .second, .val (.int (q6.toInt32)), .val (.int (2 : Int32)), .val (.ref b41), .val (.ref b43), .val (.ref b45), .val (.ref b47), .val (.int (4 : Int32)), .val (.int (1 : Int32)), .val (.int (1 : Int32))] [(.int (1 : Int32))])) τ
      exact κ)
    obtain ⟨fs, hr, hrun, hended, hW, hsame⟩ := X57.leave (v := some (.int (1 : Int32))) (fun h => by rw [Bd.returns] at h; cases h)
    refine hGL ⟨_, _, hG _ (pre _ ?_), hrun, hended, _, _, rfl, ?_, ⟨_, rfl⟩, hW, hsame.mono (by decide) (by decide)⟩
    · exact retN X57 hx (t := .boolean) Bd.returns (by simp) (hb hby at_177) hr
    · show Q0 Z a b cc d ee q6 h0 n0 _ T57.heap _
      rw [hs57]
      exact ⟨rfl, NN⟩
set_option maxRecDepth 65536 in
set_option maxHeartbeats 40000000 in
theorem comes_1 {Post : Tables → Env → Array Value → State → Outcome → State → Prop} (hpost : ∀ tb e args s v u, (limb_1_1.after args s (.returned v) u = true ∧ limb_1_2.after args s (.returned v) u = true ∧ True) → FrameEnd s (.returned v) u (Jvm.fieldLocs frame_1_writes args s ++ Jvm.arrayLocs frame_1_arrays args s ++ Jvm.staticLocs frame_1_statics s) 16 128 → Post tb e args s (.returned v) u) :
    ArmFor flags0 classFile x code maxLocals ret World_1 tables_1 room_1 Calls_1 rest_1 Pre_1 Post := by
  intro l hfl _ _ p e ha hc hk s m args below hf hA hF happ hP
  obtain ⟨hcalls, hrest, hpre⟩ := hP
  obtain ⟨-, -, -, hnamed, -, -, -, hat⟩ := (Spec.applies_iff hf).mp happ
  obtain ⟨hg, hn⟩ := and_e (Cond.before_iff.mp (show (Jvm.Cond.and given_1 narrow_1).before args s = true from hpre))
  obtain ⟨gv1, gv2⟩ := and_e hg
  obtain ⟨gv3, gv4⟩ := and_e gv2
  obtain ⟨gv5, gv6⟩ := and_e gv4
  obtain ⟨gv7, gv8⟩ := and_e gv6
  obtain ⟨gv9, gv10⟩ := and_e gv8
  obtain ⟨gv11, gv12⟩ := and_e gv10
  obtain ⟨w0, w1, w2, w3, w4, w5, rfl⟩ : ∃ w0 w1 w2 w3 w4 w5 : Value, args = #[w0, w1, w2, w3, w4, w5] := by
    have hs : args.size = 6 := by simpa [Cond.value, given_1] using gv1
    obtain ⟨L⟩ := args
    match L, hs with
    | [w0, w1, w2, w3, w4, w5], _ => exact ⟨w0, w1, w2, w3, w4, w5, rfl⟩
  have hw := fun d (hd : d ∈ tables_1) => atoms_spec (ws := Jvm.Cond.code x code maxLocals ret :: tables_1) hat d (List.mem_cons_of_mem _ hd)
  have hfit : Fit s := fun {y c} hc i hi => by
    obtain ⟨ha, rfl⟩ := Array.getElem?_eq_some_iff.mp hc
    have q := List.all_eq_true.mp ((Array.all_eq_true_iff_forall_mem.mp hF) _ (Array.getElem_mem ha)) i (List.mem_range.mpr hi)
    simpa [Array.getElem?_eq_getElem hi] using q
  obtain ⟨i0, ei0⟩ := is_v gv3
  obtain rfl : w0 = (.int i0) := Option.some.inj ei0
  obtain ⟨i1, ei1⟩ := is_v gv5
  obtain rfl : w1 = (.int i1) := Option.some.inj ei1
  obtain ⟨i2, ei2⟩ := is_v gv7
  obtain rfl : w2 = (.int i2) := Option.some.inj ei2
  obtain ⟨i3, ei3⟩ := is_v gv9
  obtain rfl : w3 = (.int i3) := Option.some.inj ei3
  obtain ⟨i4, ei4⟩ := is_v gv11
  obtain rfl : w4 = (.int i4) := Option.some.inj ei4
  obtain ⟨i5, ei5⟩ := isL_v gv12
  obtain rfl : w5 = (.long i5) := Option.some.inj ei5
  obtain ⟨n, o, h1, h2, h3, _, L, rfl, ⟨rfl, N⟩, hq⟩ := rm0 l s _ hw tables_1 i0 i1 i2 i3 i4 i5  s.heap s.heap.size (Nat.le_refl _)  p e ha hc hk s m _ below hf ((Spec.applies_iff_loose hf).mp happ).1 ⟨rfl, State.Warmed39.refl s, rfl⟩ trivial
  refine ⟨n, _, h1, h2, h3, hpost _ _ _ _ _ _ ⟨Cond.after_iff.mpr rfl, Cond.after_iff.mpr (eq_i res_at (Term.int_eval (1)) rfl), trivial⟩ ⟨hq.1, hq.2.1, (hq.2.2.sift fun y hy => Or.inr (N y hy)).mono (by decide) (by decide)⟩⟩
theorem main_1_1 : Claimed_1_1 := comes_1 fun _ _ _ _ _ _ h hF => ⟨h.1, hF⟩
theorem main_1_2 : Claimed_1_2 := comes_1 fun _ _ _ _ _ _ h hF => ⟨h.2.1, hF⟩
end Jvm.Pilot.@@N@@
namespace Jvm.Pilot.@@N@@
open Jvm Jvm.ClassFile Sem Op Lib Jvm.Free Jvm.Stand Jvm.Pilot.@@N@@.Jvm.D
/-! MADE BY PROGRAM (witnessworld.py) out of the Statement's table words and the real class files: 9 classes; the members and pool entries that the words name. The judged class is class 1, her method 1. -/
namespace start1
open Jvm.ClassFile
def u (s : String) : CpInfo := .utf8 (stringToUtf16 s)
/-- a pool by its gaps: so many unusable entries, then the entry; so many at the end -/
def gap : Nat → List CpInfo → List CpInfo
  | 0, r => r
  | n + 1, r => .unusable :: gap n r
def poolList (es : List (Nat × CpInfo)) (last : Nat) : List CpInfo := es.foldr (fun e r => gap e.1 (e.2 :: r)) (gap last [])
def pool (es : List (Nat × CpInfo)) (last : Nat) : Array CpInfo := ⟨poolList es last⟩
def fileOf (pool : Array CpInfo) (this : Nat) (attrs : Array Attribute := #[]) (ms : Array MethodInfo := #[]) (fl : Nat := 33) (sup : Nat := 0) (ifs : Array Nat := #[]) (fds : Array FieldInfo := #[]) : ClassFile where
  minorVersion := 0
  majorVersion := 65
  constantPool := pool
  accessFlags := fl
  thisClass := this
  superClass := sup
  interfaces := ifs
  fields := fds
  methods := ms
  attributes := attrs
def plain (name : String) (sup : Option ClassId) : Class where
  name := name
  kind := .ordinary
  loader := none
  accessFlags := 33
  super := sup
  interfaces := #[]
  cf := none
  fields := #[]
  methods := #[]
  instanceTypes := #[]
  staticTypes := #[]
  resolved := #[]
  callSites := []
  init := .initialized
  statics := none
  mirror := none

def pool0 : Array CpInfo := pool [(5, u "<init>"), (0, u "()V"), (1, .class_ 10), (1, u "java/lang/Object")] 113

def k0c0 : Code := { maxStack := 0, maxLocals := 1, code := object_method_1_code, exceptionTable := #[], attributes := #[] }
def k0m0 : Method := { name := "<init>", desc := "()V", sig := { parameters := [], returnType := none }, accessFlags := 1, code := some k0c0 }
/-- java/lang/Object -/
def k0 : Class := { plain "java/lang/Object" none with
  accessFlags := 33
  interfaces := #[]
  cf := some (fileOf pool0 8 #[] #[{ accessFlags := 1, nameIndex := 5, descriptorIndex := 6, attributes := #[] }] 33 0 #[] #[])
  fields := #[]
  methods := #[k0m0]
  instanceTypes := #[]
  staticTypes := #[]
  resolved := Array.replicate 124 none
  statics := none }

def pool1 : Array CpInfo := pool [(2, .class_ 4), (1, u "java/lang/Object"), (0, u "<init>"), (0, u "()V"), (0, .long 2147483647), (1, .class_ 10), (0, u "com/example/cooldown/cooldown/policy/FieldColumn$Shape"), (0, .methodref 9 12), (0, .nameAndType 5 13), (0, u "(III)V"), (0, .methodref 9 15), (0, .nameAndType 16 17), (0, u "bytes"), (0, u "()I"), (0, .class_ 19), (0, u "com/example/cooldown/cooldown/policy/ShapeBytesPinLaw"), (2, u "law"), (0, u "(IIIIIJ)Z")] 7

def k1m0 : Method := { name := "<init>", desc := "()V", sig := { parameters := [], returnType := none }, accessFlags := 2, code := none }
def k1c1 : Code := { maxStack := 6, maxLocals := 16, code := code, exceptionTable := #[], attributes := #[] }
def k1m1 : Method := { name := "law", desc := "(IIIIIJ)Z", sig := { parameters := [.int, .int, .int, .int, .int, .long], returnType := some .boolean }, accessFlags := 9, code := some k1c1 }
/-- com/example/cooldown/cooldown/policy/ShapeBytesPinLaw -/
def k1 : Class := { plain "com/example/cooldown/cooldown/policy/ShapeBytesPinLaw" (some 0) with
  accessFlags := 49
  interfaces := #[]
  cf := some (fileOf pool1 18 #[] #[{ accessFlags := 2, nameIndex := 5, descriptorIndex := 6, attributes := #[] }, { accessFlags := 9, nameIndex := 22, descriptorIndex := 23, attributes := #[] }] 49 2 #[] #[])
  fields := #[]
  methods := #[k1m0, k1m1]
  instanceTypes := #[]
  staticTypes := #[]
  resolved := Array.replicate 31 none
  statics := none }

def pool2 : Array CpInfo := pool [(1, .methodref 2 3), (0, .class_ 4), (0, .nameAndType 5 6), (0, u "java/lang/Object"), (0, u "<init>"), (0, u "()V"), (0, .fieldref 8 9), (0, .class_ 10), (0, .nameAndType 11 12), (0, u "com/example/cooldown/cooldown/policy/FieldColumn$Shape"), (0, u "longs"), (0, u "I"), (0, .fieldref 8 14), (0, .nameAndType 15 12), (0, u "ints"), (0, .fieldref 8 17), (0, .nameAndType 18 12), (0, u "objects"), (0, .class_ 20), (0, u "com/example/cooldown/cooldown/policy/FieldColumn"), (9, u "(III)V"), (4, u "bytes"), (0, u "()I")] 5

def k2c0 : Code := { maxStack := 2, maxLocals := 4, code := prog_20_method_1_code, exceptionTable := #[], attributes := #[] }
def k2m0 : Method := { name := "<init>", desc := "(III)V", sig := { parameters := [.int, .int, .int], returnType := none }, accessFlags := 0, code := some k2c0 }
def k2c1 : Code := { maxStack := 3, maxLocals := 1, code := prog_20_method_3_code, exceptionTable := #[], attributes := #[] }
def k2m1 : Method := { name := "bytes", desc := "()I", sig := { parameters := [], returnType := some .int }, accessFlags := 0, code := some k2c1 }
/-- com/example/cooldown/cooldown/policy/FieldColumn$Shape -/
def k2 : Class := { plain "com/example/cooldown/cooldown/policy/FieldColumn$Shape" (some 0) with
  accessFlags := 33
  interfaces := #[]
  cf := some (fileOf pool2 8 #[.nestHost 19] #[{ accessFlags := 0, nameIndex := 5, descriptorIndex := 30, attributes := #[] }, { accessFlags := 0, nameIndex := 35, descriptorIndex := 36, attributes := #[] }] 33 2 #[] #[{ accessFlags := 18, nameIndex := 11, descriptorIndex := 12, attributes := #[] }, { accessFlags := 18, nameIndex := 15, descriptorIndex := 12, attributes := #[] }, { accessFlags := 18, nameIndex := 18, descriptorIndex := 12, attributes := #[] }])
  fields := #[{ name := "longs", type := .int, accessFlags := 18, slot := 0, constantValue := 0 }, { name := "ints", type := .int, accessFlags := 18, slot := 1, constantValue := 0 }, { name := "objects", type := .int, accessFlags := 18, slot := 2, constantValue := 0 }]
  methods := #[k2m0, k2m1]
  instanceTypes := #[.int, .int, .int]
  staticTypes := #[]
  resolved := Array.replicate 42 none
  statics := none }

def pool3 : Array CpInfo := pool [(1, u "java/lang/Cloneable"), (0, .class_ 1), (0, u "java/lang/Object"), (0, .class_ 3)] 3

/-- java/lang/Cloneable -/
def k3 : Class := { plain "java/lang/Cloneable" (some 0) with
  accessFlags := 1537
  interfaces := #[]
  cf := some (fileOf pool3 2 #[] #[] 1537 4 #[] #[])
  fields := #[]
  methods := #[]
  instanceTypes := #[]
  staticTypes := #[]
  resolved := Array.replicate 8 none
  statics := none }

def pool4 : Array CpInfo := pool [(1, u "java/io/Serializable"), (0, .class_ 1), (0, u "java/lang/Object"), (0, .class_ 3)] 3

/-- java/io/Serializable -/
def k4 : Class := { plain "java/io/Serializable" (some 0) with
  accessFlags := 1537
  interfaces := #[]
  cf := some (fileOf pool4 2 #[] #[] 1537 4 #[] #[])
  fields := #[]
  methods := #[]
  instanceTypes := #[]
  staticTypes := #[]
  resolved := Array.replicate 8 none
  statics := none }

/-- the primitive byte -/
def k5 : Class := { plain "byte" none with kind := .primitive 'B', accessFlags := 0x411 }
/-- [B -/
def k6 : Class := { plain "[B" (some 0) with kind := .array 5 .byte, interfaces := #[3, 4], accessFlags := 1041 }

/-- the primitive int -/
def k7 : Class := { plain "int" none with kind := .primitive 'I', accessFlags := 0x411 }
/-- [I -/
def k8 : Class := { plain "[I" (some 0) with kind := .array 7 .int, interfaces := #[3, 4], accessFlags := 1041 }

def heap : Heap := #[]
def classes : Array Class := #[k0, k1, k2, k3, k4, k5, k6, k7, k8]
def interned : List (Array UInt16 × Addr) := []
def slotsUsed : Nat := 0
def theMethod : MethodId := ⟨1, 1⟩
def args0 : Array Value := #[.int 5, .int 1, .int 5, .int 1, .int 5, .long 7]
def aboutOver (below : List Frame) : State where
  vm := { classes := classes, interned := interned.toArray }
  heap := heap
  slotsUsed := slotsUsed
  threads := #[{ frames := .invoking theMethod args0 :: below }]
def below0 : List Frame := [.native { method := ⟨0, 0⟩, args := #[] }]
def about1 : State := aboutOver below0
def p0 : Program := .bare "" "" ""
def e0 : Env := launch0.env 0 0 0
theorem w_frames : about1.frames = Frame.invoking theMethod args0 :: below0 := rfl
set_option maxRecDepth 65536 in
theorem w_args : argsFit about1.vm theMethod args0 = true := by decide +kernel
set_option maxRecDepth 65536 in
theorem w_heap : heapFits about1 = true := by decide +kernel
set_option maxRecDepth 65536 in
theorem w_runnable : about1.curStatus? = some .runnable := by decide +kernel
set_option maxRecDepth 65536 in
theorem w_alone : about1.alone = true := by decide +kernel
set_option maxRecDepth 65536 in
theorem w_named : about1.methodNamed? x = some theMethod := by decide +kernel
set_option maxRecDepth 65536 in
theorem w_hears : about1.hears theMethod below0 = true := by decide +kernel
set_option maxRecDepth 65536 in
theorem w_ripe : about1.ripe theMethod args0 below0 = true := by decide +kernel
theorem w_running : about1.status = .running := rfl
set_option maxRecDepth 65536 in
theorem w_room : about1.hasRoom e0.platform room_1 = true :=
  launch0.hasRoom_least _ room_1 (by decide +kernel) (by decide +kernel) (by decide +kernel) (by decide +kernel) (by decide +kernel) (by decide +kernel)
theorem allAtoms_all (ts : List Jvm.Cond) (a : Array Jvm.Value) (st : Jvm.State) : (allAtoms ts).before a st = ts.all (fun c => c.before a st) := by
  induction ts with
  | nil => rfl
  | cons c t ih =>
    show (Jvm.Cond.and c (allAtoms t)).before a st = _
    rw [Jvm.Cond.before_and, ih, List.all_cons]
def words1 : List Jvm.Cond := Jvm.Cond.code x code maxLocals ret :: tables_1
/-- a 'code' word, met by the world's own term for the bytes: nothing is compared byte by byte -/
theorem code_word {y : MethodName} {bytes : ByteArray} {mx : Nat} {rt : Option FieldType} {a : Array Value} {s : State} {m : MethodId} {meth : Method} {c : Code} (h1 : s.methodNamed? y = some m) (h2 : s.vm.method? m = some meth) (h3 : meth.code = some c) (h4 : c.code = bytes)
    (h5 : (c.maxLocals == mx && c.exceptionTable.isEmpty && decide (c.maxStack ≤ mostOperands) && decide (meth.sig.returnType = rt) && !meth.locks && decide (parseMethodDescriptor y.desc = some meth.sig)) = true) : (Jvm.Cond.code y bytes mx rt).before a s = true := by
  simp only [Bool.and_eq_true, beq_iff_eq, Bool.not_eq_true', decide_eq_true_eq] at h5
  obtain ⟨⟨⟨⟨⟨g1, g2⟩, g3⟩, g4⟩, g5⟩, g6⟩ := h5
  simp [Cond.before, Cond.holds, Cond.value, h1, h2, h3, h4, g1, g2, g3, g4, g5, g6]
def isCode : Jvm.Cond → Bool
  | .code _ _ _ _ => true
  | _ => false
theorem all_split {L : List Jvm.Cond} {P : Jvm.Cond → Bool} (h1 : L.all (fun c => isCode c || P c) = true) (h2 : ∀ c ∈ L.filter isCode, P c = true) : L.all P = true := by
  refine List.all_eq_true.mpr fun c hc => ?_
  have h := List.all_eq_true.mp h1 c hc
  rcases Bool.eq_false_or_eq_true (isCode c) with hi | hi
  · exact h2 c (List.mem_filter.mpr ⟨hc, hi⟩)
  · simpa [hi] using h
set_option maxRecDepth 65536 in
theorem w_c0 : (Jvm.Cond.code x code maxLocals ret).before args0 about1 = true := code_word (m := ⟨1, 1⟩) (meth := k1m1) (c := k1c1) (by decide +kernel) rfl rfl rfl (by decide +kernel)
set_option maxRecDepth 65536 in
theorem w_c1 : (Jvm.Cond.code ({ cls := "com/example/cooldown/cooldown/policy/FieldColumn$Shape", name := "<init>", desc := "(III)V" } : Jvm.MethodName) prog_20_method_1_code (4 : Nat) (Option.none : Option Jvm.ClassFile.FieldType)).before args0 about1 = true := code_word (m := ⟨2, 0⟩) (meth := k2m0) (c := k2c0) (by decide +kernel) rfl rfl rfl (by decide +kernel)
set_option maxRecDepth 65536 in
theorem w_c2 : (Jvm.Cond.code ({ cls := "java/lang/Object", name := "<init>", desc := "()V" } : Jvm.MethodName) object_method_1_code (1 : Nat) (Option.none : Option Jvm.ClassFile.FieldType)).before args0 about1 = true := code_word (m := ⟨0, 0⟩) (meth := k0m0) (c := k0c0) (by decide +kernel) rfl rfl rfl (by decide +kernel)
set_option maxRecDepth 65536 in
theorem w_c3 : (Jvm.Cond.code ({ cls := "com/example/cooldown/cooldown/policy/FieldColumn$Shape", name := "bytes", desc := "()I" } : Jvm.MethodName) prog_20_method_3_code (1 : Nat) (Option.some Jvm.ClassFile.FieldType.int)).before args0 about1 = true := code_word (m := ⟨2, 1⟩) (meth := k2m1) (c := k2c1) (by decide +kernel) rfl rfl rfl (by decide +kernel)
def codes1 : List Jvm.Cond := [Jvm.Cond.code x code maxLocals ret, Jvm.Cond.code ({ cls := "com/example/cooldown/cooldown/policy/FieldColumn$Shape", name := "<init>", desc := "(III)V" } : Jvm.MethodName) prog_20_method_1_code (4 : Nat) (Option.none : Option Jvm.ClassFile.FieldType), Jvm.Cond.code ({ cls := "java/lang/Object", name := "<init>", desc := "()V" } : Jvm.MethodName) object_method_1_code (1 : Nat) (Option.none : Option Jvm.ClassFile.FieldType), Jvm.Cond.code ({ cls := "com/example/cooldown/cooldown/policy/FieldColumn$Shape", name := "bytes", desc := "()I" } : Jvm.MethodName) prog_20_method_3_code (1 : Nat) (Option.some Jvm.ClassFile.FieldType.int)]
set_option maxRecDepth 65536 in
theorem codes_eq : words1.filter isCode = codes1 := rfl
theorem w_codes : ∀ c ∈ words1.filter isCode, c.before args0 about1 = true := by
  rw [codes_eq]
  intro c hc
  simp only [codes1, List.mem_cons, List.not_mem_nil, or_false] at hc
  rcases hc with rfl | rfl | rfl | rfl
  · exact w_c0
  · exact w_c1
  · exact w_c2
  · exact w_c3
set_option maxRecDepth 65536 in
theorem w_t1 : words1.all (fun c => isCode c || c.before args0 about1) = true := by decide +kernel
theorem w_tables : (allAtoms (Jvm.Cond.code x code maxLocals ret :: tables_1)).before args0 about1 = true := by
  rw [allAtoms_all]
  show words1.all (fun c => c.before args0 about1) = true
  refine all_split ?_ w_codes
  rw [w_t1]
set_option maxRecDepth 65536 in
theorem w_case : (Jvm.Cond.and given_1 narrow_1).before args0 about1 = true := by decide +kernel
theorem w_applies : (headSpec (Jvm.Cond.code x code maxLocals ret :: tables_1) room_1).applies x e0.platform about1 = true :=
  (Spec.applies_iff w_frames).mpr ⟨w_running, w_runnable, w_alone, w_named, w_hears, w_ripe, w_room, w_tables⟩
theorem atStart : AtStart classFile x code maxLocals ret World_1 tables_1 room_1 Calls_1 rest_1 Pre_1 launch0 p0 e0 about1 theMethod args0 below0 :=
  ⟨lists_1, trivial, launch0.admits_env _ _ _, launch0.least_env, fairChoices_fair.cas, fairChoices_fair.clock, w_frames, w_args, w_heap, w_applies, trivial, trivial, w_case⟩
end start1
theorem witness_1 : WitnessClaimed_1 := ⟨start1.p0, start1.e0, start1.about1, start1.theMethod, start1.args0, start1.below0, start1.atStart⟩
end Jvm.Pilot.@@N@@
