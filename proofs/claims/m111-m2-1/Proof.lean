import JvmDerived
import JvmDerived.Pilot.@@N@@Statement
import JvmDerived.Pilot.@@N@@Code
set_option linter.unusedVariables false
set_option linter.unusedSimpArgs false
namespace Jvm.Pilot.@@N@@
open Jvm Jvm.ClassFile Sem Op Lib Jvm.Free Jvm.Stand Jvm.LawKit Jvm.RoadKit Bundle Jvm.Pilot.@@N@@.Jvm.D
theorem own_wrap {A : Prop} (h : ∀ GL : Prop, (A → GL) → GL) : A := h A id
theorem own_sub_add (a b : Int64) : a - b + b = a := by
  apply Int64.toInt_inj.mp
  have h1 := c_ladd (a - b) b; have h2 := c_lsub a b
  have r1 := rng64 (a - b + b); have r2 := rng64 a; have r3 := rng64 b; have r4 := rng64 (a - b)
  omega
theorem pn_0 : plainName "java/lang/Record" = true := by first | (simp [plainName, overriddenIn]; done) | decide +kernel
theorem d2_0 : decode jdk_30_method_1_code 0 = .ok (.aload_n 0, 1) := by decide +kernel
theorem d2_1 : decode jdk_30_method_1_code 1 = .ok (.invokespecial 1, 3) := by decide +kernel
theorem d2_4 : decode jdk_30_method_1_code 4 = .ok (.return_, 1) := by decide +kernel
theorem ef_2 (m : MethodId) (x0 : Addr) : entryFrame m #[(.ref x0)] 1 = mkF m 0 #[.val (.ref x0)] [] := by first | (simp [entryFrame, mkF, argsToLocals, Value.category]; done) | rfl
def Q2 (Z : State) (o : Addr) (h0 : Heap) (n0 : Nat) (vα : Option Value) (hα : Heap) (Lα : List Loc) : Prop := vα = none ∧ Fr n0 Lα ∧ hα = h0
set_option maxRecDepth 65536 in
set_option maxHeartbeats 40000000 in
theorem rm2 (l : Launch) (Z : State) (a0 : Array Value) (hw : ∀ d ∈ tables_1, d.before a0 Z = true) (ws : List Jvm.Cond) (o : Addr) (h0 : Heap) (n0 : Nat) (Z0 : n0 ≤ h0.size) :
    MetFree l (⟨"java/lang/Record", "<init>", "()V"⟩ : MethodName) (head1 (Jvm.Cond.code (⟨"java/lang/Record", "<init>", "()V"⟩ : MethodName) jdk_30_method_1_code 1 none :: ws) ({ frames := 1, cells := 0, slots := 0, locals := 12 } : Room)) (fun aα U => aα = #[(.ref o)] ∧ Z.Warmed39 U.vm ∧ U.heap = h0) (fun _ _ _ _ _ => True) (fun _ U oα U' => ∃ vα Lα, oα = .returned vα ∧ Q2 Z o h0 n0 vα U'.heap Lα ∧ FrameEnd U oα U' Lα ({ frames := 1, cells := 0, slots := 0, locals := 12 } : Room).cells ({ frames := 1, cells := 0, slots := 0, locals := 12 } : Room).slots) := by
  refine MetFree.of_bodySF (plainFor_of_name pn_0) hisR ?_
  intro p e s m args below meth c s₁ Bd hml0 hP hK
  refine own_wrap ?_
  intro GL hGL
  obtain ⟨rfl, hZ, hh⟩ := hP
  have hx := Bd.exec
  have hby := Bd.bytes
  have hml : c.maxLocals = 1 := hml0
  have hown : s.vm.findClass "java/lang/Record" = some m.cls := findClass_of_methodNamed Bd.named
  have hnm := (name_of_methodNamed Bd.named Bd.method).1
  have X0 : Stand p l e ({ frames := 1, cells := 0, slots := 0, locals := 12 } : Room) s m #[(.ref o)] below meth c s₁ [] 0 0 := Stand.of_body Bd
  have e0 : s₁.heap = h0 := by rw [← hh, Bd.state]; rfl
  have N0 := Fr.nil n0
  have pre0 : ∀ τ, Steps p.tables e below (s₁.setTop (mkF m 0 #[.val (.ref o)] [])) τ → Steps p.tables e below (s₁.setTop (entryFrame m #[(.ref o)] 1)) τ := fun τ κ => castTop (ef_2 m o) κ
  obtain ⟨G, hG, pre⟩ : ∃ G : State → Prop, (∀ τ, G τ → Steps p.tables e below (s₁.setTop (entryFrame m #[(.ref o)] 1)) τ) ∧ ∀ τ, Steps p.tables e below (s₁.setTop (mkF m 0 #[.val (.ref o)] [])) τ → G τ := ⟨_, pre0, fun _ k => k⟩
  have K : Keep h0 h0 [] := Keep.refl h0 _
  have Zn := Z0
  have pre : ∀ τ, Steps p.tables e below (s₁.setTop (mkF m 1 #[.val (.ref o)] [(.ref o)])) τ → G τ := fun τ κ => pre τ (by
    refine XS.aloadN X0.here hx rfl (hb hby d2_0) rfl rfl ?_
    show Steps p.tables e below (s₁.setTop (mkF m 1 #[.val (.ref o)] [(.ref o)])) τ
    exact κ)
  obtain ⟨T1, X1, e1, st1⟩ := initO X0 hx hZ hown (hw _ (List.mem_of_getElem? (i := 11) rfl)) (hw _ (List.mem_of_getElem? (i := 12) rfl)) (hw _ (List.mem_of_getElem? (i := 13) rfl)) e0 (g := (mkF m 1 #[.val (.ref o)] [(.ref o)])) rfl (by rw [hml]; rfl) rfl (hb hby d2_1) (by decide) (W := 0) (by show 2 * 0 + _ ≤ _; exact Nat.le_of_eq rfl) (by decide)
  have pre : ∀ τ, Steps p.tables e below (T1.setTop (mkF m 4 #[.val (.ref o)] [])) τ → G τ := fun τ κ => pre τ (st1 τ κ)
  obtain ⟨fs, hr, hrun, hended, hW, hsame⟩ := X1.leave (v := none) (fun _ => rfl)
  refine hGL ⟨_, _, hG _ (pre _ ?_), hrun, hended, _, _, rfl, ?_, ⟨_, rfl⟩, hW, hsame.mono (by decide) (by decide)⟩
  · exact X1.returnOut hx Bd.returns (hb hby d2_4) hr
  · show Q2 Z o h0 n0 _ T1.heap _
    rw [e1]
    exact ⟨rfl, N0, rfl⟩
theorem pn_1 : plainName "com/example/idlefleet/idlefleet/Request" = true := by first | (simp [plainName, overriddenIn]; done) | decide +kernel
theorem d1_0 : decode prog_18_method_1_code 0 = .ok (.aload_n 0, 1) := by decide +kernel
theorem d1_1 : decode prog_18_method_1_code 1 = .ok (.invokespecial 1, 3) := by decide +kernel
theorem pd_0 : parseMethodDescriptor "()V" = some ⟨[], none⟩ := by decide +kernel
theorem d1_4 : decode prog_18_method_1_code 4 = .ok (.aload_n 0, 1) := by decide +kernel
theorem d1_5 : decode prog_18_method_1_code 5 = .ok (.lload_n 1, 1) := by decide +kernel
theorem d1_6 : decode prog_18_method_1_code 6 = .ok (.putfield 7, 3) := by decide +kernel
theorem d1_9 : decode prog_18_method_1_code 9 = .ok (.aload_n 0, 1) := by decide +kernel
theorem d1_10 : decode prog_18_method_1_code 10 = .ok (.iload_n 3, 1) := by decide +kernel
theorem d1_11 : decode prog_18_method_1_code 11 = .ok (.putfield 13, 3) := by decide +kernel
theorem d1_14 : decode prog_18_method_1_code 14 = .ok (.aload_n 0, 1) := by decide +kernel
theorem d1_15 : decode prog_18_method_1_code 15 = .ok (.iload 4, 2) := by decide +kernel
theorem d1_17 : decode prog_18_method_1_code 17 = .ok (.putfield 17, 3) := by decide +kernel
theorem d1_20 : decode prog_18_method_1_code 20 = .ok (.return_, 1) := by decide +kernel
theorem ef_1 (m : MethodId) (x0 : Addr) (x1 : Int64) (x2 : Int32) (x3 : Int32) : entryFrame m #[(.ref x0), (.long x1), (.int x2), (.int x3)] 5 = mkF m 0 #[.val (.ref x0), .val (.long x1), .second, .val (.int x2), .val (.int x3)] [] := by first | (simp [entryFrame, mkF, argsToLocals, Value.category]; done) | rfl
def Q1 (Z : State) (o : Addr) (t : Int64) (og : Int32) (de : Int32) (u_time : Value) (u_origin : Value) (u_destination : Value) (h0 : Heap) (n0 : Nat) (vα : Option Value) (hα : Heap) (Lα : List Loc) : Prop := vα = none ∧ Fr n0 Lα ∧ Keep h0 hα [o] ∧ Exa Z hα o "com/example/idlefleet/idlefleet/Request" ∧ Fld Z hα o "com/example/idlefleet/idlefleet/Request" "time" "J" (.long t) ∧ Fld Z hα o "com/example/idlefleet/idlefleet/Request" "origin" "I" (.int og) ∧ Fld Z hα o "com/example/idlefleet/idlefleet/Request" "destination" "I" (.int de)
set_option maxRecDepth 65536 in
set_option maxHeartbeats 40000000 in
theorem rm1 (l : Launch) (Z : State) (a0 : Array Value) (hw : ∀ d ∈ tables_1, d.before a0 Z = true) (ws : List Jvm.Cond) (o : Addr) (t : Int64) (og : Int32) (de : Int32) (u_time : Value) (u_origin : Value) (u_destination : Value) (h0 : Heap) (n0 : Nat) (Z0 : n0 ≤ h0.size) (g_o : n0 ≤ o) (E_o : Exa Z h0 o "com/example/idlefleet/idlefleet/Request") (F_time : Fld Z h0 o "com/example/idlefleet/idlefleet/Request" "time" "J" u_time) (F_origin : Fld Z h0 o "com/example/idlefleet/idlefleet/Request" "origin" "I" u_origin) (F_destination : Fld Z h0 o "com/example/idlefleet/idlefleet/Request" "destination" "I" u_destination) :
    MetFree l (⟨"com/example/idlefleet/idlefleet/Request", "<init>", "(JII)V"⟩ : MethodName) (head1 (Jvm.Cond.code (⟨"com/example/idlefleet/idlefleet/Request", "<init>", "(JII)V"⟩ : MethodName) prog_18_method_1_code 5 none :: ws) ({ frames := 2, cells := 0, slots := 0, locals := 24 } : Room)) (fun aα U => aα = #[(.ref o), (.long t), (.int og), (.int de)] ∧ Z.Warmed39 U.vm ∧ U.heap = h0) (fun _ _ _ _ _ => True) (fun _ U oα U' => ∃ vα Lα, oα = .returned vα ∧ Q1 Z o t og de u_time u_origin u_destination h0 n0 vα U'.heap Lα ∧ FrameEnd U oα U' Lα ({ frames := 2, cells := 0, slots := 0, locals := 24 } : Room).cells ({ frames := 2, cells := 0, slots := 0, locals := 24 } : Room).slots) := by
  refine MetFree.of_bodySF (plainFor_of_name pn_1) hisR ?_
  intro p e s m args below meth c s₁ Bd hml0 hP hK
  refine own_wrap ?_
  intro GL hGL
  obtain ⟨rfl, hZ, hh⟩ := hP
  have hx := Bd.exec
  have hby := Bd.bytes
  have hml : c.maxLocals = 5 := hml0
  have hown : s.vm.findClass "com/example/idlefleet/idlefleet/Request" = some m.cls := findClass_of_methodNamed Bd.named
  have hnm := (name_of_methodNamed Bd.named Bd.method).1
  have X0 : Stand p l e ({ frames := 2, cells := 0, slots := 0, locals := 24 } : Room) s m #[(.ref o), (.long t), (.int og), (.int de)] below meth c s₁ [] 0 0 := Stand.of_body Bd
  have e0 : s₁.heap = h0 := by rw [← hh, Bd.state]; rfl
  have N0 := Fr.nil n0
  have pre0 : ∀ τ, Steps p.tables e below (s₁.setTop (mkF m 0 #[.val (.ref o), .val (.long t), .second, .val (.int og), .val (.int de)] [])) τ → Steps p.tables e below (s₁.setTop (entryFrame m #[(.ref o), (.long t), (.int og), (.int de)] 5)) τ := fun τ κ => castTop (ef_1 m o t og de) κ
  obtain ⟨G, hG, pre⟩ : ∃ G : State → Prop, (∀ τ, G τ → Steps p.tables e below (s₁.setTop (entryFrame m #[(.ref o), (.long t), (.int og), (.int de)] 5)) τ) ∧ ∀ τ, Steps p.tables e below (s₁.setTop (mkF m 0 #[.val (.ref o), .val (.long t), .second, .val (.int og), .val (.int de)] [])) τ → G τ := ⟨_, pre0, fun _ k => k⟩
  have K : Keep h0 h0 [o] := Keep.refl h0 _
  have Zn := Z0
  have pre : ∀ τ, Steps p.tables e below (s₁.setTop (mkF m 1 #[.val (.ref o), .val (.long t), .second, .val (.int og), .val (.int de)] [(.ref o)])) τ → G τ := fun τ κ => pre τ (by
    refine XS.aloadN X0.here hx rfl (hb hby d1_0) rfl rfl ?_
    show Steps p.tables e below (s₁.setTop (mkF m 1 #[.val (.ref o), .val (.long t), .second, .val (.int og), .val (.int de)] [(.ref o)])) τ
    exact κ)
  obtain ⟨_, _, ⟨T1, Lx1, kx1, nx1⟩, -, X1, ⟨Lc1, hQ1, l1, y1, z1⟩, st1⟩ := X0.specialBack hx (y := (⟨"java/lang/Record", "<init>", "()V"⟩ : MethodName)) rfl hown (mvT hZ (hw _ (List.mem_of_getElem? (i := 6) rfl))) (mvT hZ (hw _ (List.mem_of_getElem? (i := 7) rfl))) (mvT hZ (hw _ (List.mem_of_getElem? (i := 10) rfl))) (by decide) (backOf (W := 0) (rm2 l Z a0 hw [] o h0 n0 Zn) hZ (hw _ (List.mem_of_getElem? (i := 10) rfl)) (hw _ (List.mem_of_getElem? (i := 9) rfl)) (by decide) (by decide)) (g := (mkF m 1 #[.val (.ref o), .val (.long t), .second, .val (.int og), .val (.int de)] [(.ref o)])) rfl (by rw [hml]; rfl) (Steps.refl _) (a := o) (argsL := []) (rest := []) (lenOf pd_0 rfl) rfl (by show 2 * 0 + _ ≤ _; exact Nat.le_of_eq rfl) (hb hby d1_1) (fun _ _ => ⟨rfl, e0, (by decide : 0 + 0 ≤ _), (by decide : 0 + 0 ≤ _)⟩)
  dsimp only [Pt.U, Pt.locs, Pt.cells, Pt.slots] at X1 l1 y1 z1 st1 hQ1
  subst l1 y1 z1
  obtain ⟨rfl, Nq1, hs1⟩ := hQ1
  have NN := Fr.app N0 Nq1
  have pre : ∀ τ, Steps p.tables e below (T1.setTop (mkF m 4 #[.val (.ref o), .val (.long t), .second, .val (.int og), .val (.int de)] [])) τ → G τ := fun τ κ => pre τ (st1.trans κ)
  have pre : ∀ τ, Steps p.tables e below (T1.setTop (mkF m 6 #[.val (.ref o), .val (.long t), .second, .val (.int og), .val (.int de)] [(.long t), (.ref o)])) τ → G τ := fun τ κ => pre τ (by
    refine XS.aloadN X1.here hx rfl (hb hby d1_4) rfl rfl ?_
    show Steps p.tables e below (T1.setTop (mkF m 5 #[.val (.ref o), .val (.long t), .second, .val (.int og), .val (.int de)] [(.ref o)])) τ
    refine XS.lloadN X1.here hx rfl (hb hby d1_5) rfl ?_
    show Steps p.tables e below (T1.setTop (mkF m 6 #[.val (.ref o), .val (.long t), .second, .val (.int og), .val (.int de)] [(.long t), (.ref o)])) τ
    exact κ)
  obtain ⟨T2, h2, X2, e2, W2, st2⟩ := putF X1 hx hZ hown (host := "") (Or.inl (hw _ (List.mem_of_getElem? (i := 14) rfl))) Via.refl hs1 F_time E_o (Or.inr ⟨(hw _ (List.mem_of_getElem? (i := 15) rfl)), rfl, hnm⟩) (hw _ (List.mem_of_getElem? (i := 1) rfl)) (ty := .long) (by decide) rfl rfl (g := (mkF m 6 #[.val (.ref o), .val (.long t), .second, .val (.int og), .val (.int de)] [(.long t), (.ref o)])) rfl rfl (hb hby d1_6)
  have F_time : Fld Z h2 o "com/example/idlefleet/idlefleet/Request" "time" "J" (.long t) := F_time.same W2
  have E_o : Exa Z h2 o "com/example/idlefleet/idlefleet/Request" := E_o.wr W2
  have F_origin : Fld Z h2 o "com/example/idlefleet/idlefleet/Request" "origin" "I" u_origin := F_origin.other W2 (Or.inr (slot_ne (Or.inr (hw _ (List.mem_of_getElem? (i := 17) rfl))) (Or.inr (hw _ (List.mem_of_getElem? (i := 15) rfl))) (by decide) (t := .int) (t' := .long) (by decide) (by decide)))
  have F_destination : Fld Z h2 o "com/example/idlefleet/idlefleet/Request" "destination" "I" u_destination := F_destination.other W2 (Or.inr (slot_ne (Or.inr (hw _ (List.mem_of_getElem? (i := 19) rfl))) (Or.inr (hw _ (List.mem_of_getElem? (i := 15) rfl))) (by decide) (t := .int) (t' := .long) (by decide) (by decide)))
  have Zn : n0 ≤ h2.size := Nat.le_trans Zn (Keep.of_wr W2).1
  have K : Keep h0 h2 [o] := K.wr W2 (Or.inl (List.mem_of_getElem? (i := 0) rfl))
  have NN := Fr.snoc X2 NN g_o
  have pre : ∀ τ, Steps p.tables e below (T2.setTop (mkF m 9 #[.val (.ref o), .val (.long t), .second, .val (.int og), .val (.int de)] [])) τ → G τ := fun τ κ => pre τ (st2 τ κ)
  have pre : ∀ τ, Steps p.tables e below (T2.setTop (mkF m 11 #[.val (.ref o), .val (.long t), .second, .val (.int og), .val (.int de)] [(.int og), (.ref o)])) τ → G τ := fun τ κ => pre τ (by
    refine XS.aloadN X2.here hx rfl (hb hby d1_9) rfl rfl ?_
    show Steps p.tables e below (T2.setTop (mkF m 10 #[.val (.ref o), .val (.long t), .second, .val (.int og), .val (.int de)] [(.ref o)])) τ
    refine XS.iloadN X2.here hx rfl (hb hby d1_10) rfl ?_
    show Steps p.tables e below (T2.setTop (mkF m 11 #[.val (.ref o), .val (.long t), .second, .val (.int og), .val (.int de)] [(.int og), (.ref o)])) τ
    exact κ)
  obtain ⟨T3, h3, X3, e3, W3, st3⟩ := putF X2 hx hZ hown (host := "") (Or.inl (hw _ (List.mem_of_getElem? (i := 16) rfl))) Via.refl e2 F_origin E_o (Or.inr ⟨(hw _ (List.mem_of_getElem? (i := 17) rfl)), rfl, hnm⟩) (hw _ (List.mem_of_getElem? (i := 1) rfl)) (ty := .int) (by decide) rfl rfl (g := (mkF m 11 #[.val (.ref o), .val (.long t), .second, .val (.int og), .val (.int de)] [(.int og), (.ref o)])) rfl rfl (hb hby d1_11)
  have F_origin : Fld Z h3 o "com/example/idlefleet/idlefleet/Request" "origin" "I" (.int og) := F_origin.same W3
  have E_o : Exa Z h3 o "com/example/idlefleet/idlefleet/Request" := E_o.wr W3
  have F_time : Fld Z h3 o "com/example/idlefleet/idlefleet/Request" "time" "J" (.long t) := F_time.other W3 (Or.inr (slot_ne (Or.inr (hw _ (List.mem_of_getElem? (i := 15) rfl))) (Or.inr (hw _ (List.mem_of_getElem? (i := 17) rfl))) (by decide) (t := .long) (t' := .int) (by decide) (by decide)))
  have F_destination : Fld Z h3 o "com/example/idlefleet/idlefleet/Request" "destination" "I" u_destination := F_destination.other W3 (Or.inr (slot_ne (Or.inr (hw _ (List.mem_of_getElem? (i := 19) rfl))) (Or.inr (hw _ (List.mem_of_getElem? (i := 17) rfl))) (by decide) (t := .int) (t' := .int) (by decide) (by decide)))
  have Zn : n0 ≤ h3.size := Nat.le_trans Zn (Keep.of_wr W3).1
  have K : Keep h0 h3 [o] := K.wr W3 (Or.inl (List.mem_of_getElem? (i := 0) rfl))
  have NN := Fr.snoc X3 NN g_o
  have pre : ∀ τ, Steps p.tables e below (T3.setTop (mkF m 14 #[.val (.ref o), .val (.long t), .second, .val (.int og), .val (.int de)] [])) τ → G τ := fun τ κ => pre τ (st3 τ κ)
  have pre : ∀ τ, Steps p.tables e below (T3.setTop (mkF m 17 #[.val (.ref o), .val (.long t), .second, .val (.int og), .val (.int de)] [(.int de), (.ref o)])) τ → G τ := fun τ κ => pre τ (by
    refine XS.aloadN X3.here hx rfl (hb hby d1_14) rfl rfl ?_
    show Steps p.tables e below (T3.setTop (mkF m 15 #[.val (.ref o), .val (.long t), .second, .val (.int og), .val (.int de)] [(.ref o)])) τ
    refine XS.iload X3.here hx rfl (hb hby d1_15) rfl ?_
    show Steps p.tables e below (T3.setTop (mkF m 17 #[.val (.ref o), .val (.long t), .second, .val (.int og), .val (.int de)] [(.int de), (.ref o)])) τ
    exact κ)
  obtain ⟨T4, h4, X4, e4, W4, st4⟩ := putF X3 hx hZ hown (host := "") (Or.inl (hw _ (List.mem_of_getElem? (i := 18) rfl))) Via.refl e3 F_destination E_o (Or.inr ⟨(hw _ (List.mem_of_getElem? (i := 19) rfl)), rfl, hnm⟩) (hw _ (List.mem_of_getElem? (i := 1) rfl)) (ty := .int) (by decide) rfl rfl (g := (mkF m 17 #[.val (.ref o), .val (.long t), .second, .val (.int og), .val (.int de)] [(.int de), (.ref o)])) rfl rfl (hb hby d1_17)
  have F_destination : Fld Z h4 o "com/example/idlefleet/idlefleet/Request" "destination" "I" (.int de) := F_destination.same W4
  have E_o : Exa Z h4 o "com/example/idlefleet/idlefleet/Request" := E_o.wr W4
  have F_time : Fld Z h4 o "com/example/idlefleet/idlefleet/Request" "time" "J" (.long t) := F_time.other W4 (Or.inr (slot_ne (Or.inr (hw _ (List.mem_of_getElem? (i := 15) rfl))) (Or.inr (hw _ (List.mem_of_getElem? (i := 19) rfl))) (by decide) (t := .long) (t' := .int) (by decide) (by decide)))
  have F_origin : Fld Z h4 o "com/example/idlefleet/idlefleet/Request" "origin" "I" (.int og) := F_origin.other W4 (Or.inr (slot_ne (Or.inr (hw _ (List.mem_of_getElem? (i := 17) rfl))) (Or.inr (hw _ (List.mem_of_getElem? (i := 19) rfl))) (by decide) (t := .int) (t' := .int) (by decide) (by decide)))
  have Zn : n0 ≤ h4.size := Nat.le_trans Zn (Keep.of_wr W4).1
  have K : Keep h0 h4 [o] := K.wr W4 (Or.inl (List.mem_of_getElem? (i := 0) rfl))
  have NN := Fr.snoc X4 NN g_o
  have pre : ∀ τ, Steps p.tables e below (T4.setTop (mkF m 20 #[.val (.ref o), .val (.long t), .second, .val (.int og), .val (.int de)] [])) τ → G τ := fun τ κ => pre τ (st4 τ κ)
  obtain ⟨fs, hr, hrun, hended, hW, hsame⟩ := X4.leave (v := none) (fun _ => rfl)
  refine hGL ⟨_, _, hG _ (pre _ ?_), hrun, hended, _, _, rfl, ?_, ⟨_, rfl⟩, hW, hsame.mono (by decide) (by decide)⟩
  · exact X4.returnOut hx Bd.returns (hb hby d1_20) hr
  · show Q1 Z o t og de u_time u_origin u_destination h0 n0 _ T4.heap _
    rw [e4]
    exact ⟨rfl, NN, K, E_o, F_time, F_origin, F_destination⟩
theorem pn_2 : plainName "com/example/idlefleet/idlefleet/Assignment" = true := by first | (simp [plainName, overriddenIn]; done) | decide +kernel
theorem d4_0 : decode prog_1_method_1_code 0 = .ok (.aload_n 0, 1) := by decide +kernel
theorem d4_1 : decode prog_1_method_1_code 1 = .ok (.invokespecial 1, 3) := by decide +kernel
theorem d4_4 : decode prog_1_method_1_code 4 = .ok (.aload_n 0, 1) := by decide +kernel
theorem d4_5 : decode prog_1_method_1_code 5 = .ok (.aload_n 1, 1) := by decide +kernel
theorem d4_6 : decode prog_1_method_1_code 6 = .ok (.putfield 7, 3) := by decide +kernel
theorem d4_9 : decode prog_1_method_1_code 9 = .ok (.aload_n 0, 1) := by decide +kernel
theorem d4_10 : decode prog_1_method_1_code 10 = .ok (.iload_n 2, 1) := by decide +kernel
theorem d4_11 : decode prog_1_method_1_code 11 = .ok (.putfield 13, 3) := by decide +kernel
theorem d4_14 : decode prog_1_method_1_code 14 = .ok (.aload_n 0, 1) := by decide +kernel
theorem d4_15 : decode prog_1_method_1_code 15 = .ok (.lload_n 3, 1) := by decide +kernel
theorem d4_16 : decode prog_1_method_1_code 16 = .ok (.putfield 17, 3) := by decide +kernel
theorem d4_19 : decode prog_1_method_1_code 19 = .ok (.aload_n 0, 1) := by decide +kernel
theorem d4_20 : decode prog_1_method_1_code 20 = .ok (.iload 5, 2) := by decide +kernel
theorem d4_22 : decode prog_1_method_1_code 22 = .ok (.putfield 21, 3) := by decide +kernel
theorem d4_25 : decode prog_1_method_1_code 25 = .ok (.return_, 1) := by decide +kernel
theorem ef_4 (m : MethodId) (x0 : Addr) (x1 : Addr) (x2 : Int32) (x3 : Int64) (x4 : Int32) : entryFrame m #[(.ref x0), (.ref x1), (.int x2), (.long x3), (.int x4)] 6 = mkF m 0 #[.val (.ref x0), .val (.ref x1), .val (.int x2), .val (.long x3), .second, .val (.int x4)] [] := by first | (simp [entryFrame, mkF, argsToLocals, Value.category]; done) | rfl
def Q4 (Z : State) (o : Addr) (rq : Addr) (ve : Int32) (pk : Int64) (oc : Int32) (u_request : Value) (u_vehicle : Value) (u_pickup : Value) (u_occupiedTime : Value) (h0 : Heap) (n0 : Nat) (vα : Option Value) (hα : Heap) (Lα : List Loc) : Prop := vα = none ∧ Fr n0 Lα ∧ Keep h0 hα [o] ∧ Exa Z hα o "com/example/idlefleet/idlefleet/Assignment" ∧ Fld Z hα o "com/example/idlefleet/idlefleet/Assignment" "request" "Lcom/example/idlefleet/idlefleet/Request;" (.ref rq) ∧ Fld Z hα o "com/example/idlefleet/idlefleet/Assignment" "vehicle" "I" (.int ve) ∧ Fld Z hα o "com/example/idlefleet/idlefleet/Assignment" "pickup" "J" (.long pk) ∧ Fld Z hα o "com/example/idlefleet/idlefleet/Assignment" "occupiedTime" "I" (.int oc)
set_option maxRecDepth 65536 in
set_option maxHeartbeats 40000000 in
theorem rm4 (l : Launch) (Z : State) (a0 : Array Value) (hw : ∀ d ∈ tables_1, d.before a0 Z = true) (ws : List Jvm.Cond) (o : Addr) (rq : Addr) (ve : Int32) (pk : Int64) (oc : Int32) (u_request : Value) (u_vehicle : Value) (u_pickup : Value) (u_occupiedTime : Value) (h0 : Heap) (n0 : Nat) (Z0 : n0 ≤ h0.size) (g_o : n0 ≤ o) (E_o : Exa Z h0 o "com/example/idlefleet/idlefleet/Assignment") (F_request : Fld Z h0 o "com/example/idlefleet/idlefleet/Assignment" "request" "Lcom/example/idlefleet/idlefleet/Request;" u_request) (F_vehicle : Fld Z h0 o "com/example/idlefleet/idlefleet/Assignment" "vehicle" "I" u_vehicle) (F_pickup : Fld Z h0 o "com/example/idlefleet/idlefleet/Assignment" "pickup" "J" u_pickup) (F_occupiedTime : Fld Z h0 o "com/example/idlefleet/idlefleet/Assignment" "occupiedTime" "I" u_occupiedTime) :
    MetFree l (⟨"com/example/idlefleet/idlefleet/Assignment", "<init>", "(Lcom/example/idlefleet/idlefleet/Request;IJI)V"⟩ : MethodName) (head1 (Jvm.Cond.code (⟨"com/example/idlefleet/idlefleet/Assignment", "<init>", "(Lcom/example/idlefleet/idlefleet/Request;IJI)V"⟩ : MethodName) prog_1_method_1_code 6 none :: ws) ({ frames := 2, cells := 0, slots := 0, locals := 24 } : Room)) (fun aα U => aα = #[(.ref o), (.ref rq), (.int ve), (.long pk), (.int oc)] ∧ Z.Warmed39 U.vm ∧ U.heap = h0) (fun _ _ _ _ _ => True) (fun _ U oα U' => ∃ vα Lα, oα = .returned vα ∧ Q4 Z o rq ve pk oc u_request u_vehicle u_pickup u_occupiedTime h0 n0 vα U'.heap Lα ∧ FrameEnd U oα U' Lα ({ frames := 2, cells := 0, slots := 0, locals := 24 } : Room).cells ({ frames := 2, cells := 0, slots := 0, locals := 24 } : Room).slots) := by
  refine MetFree.of_bodySF (plainFor_of_name pn_2) hisR ?_
  intro p e s m args below meth c s₁ Bd hml0 hP hK
  refine own_wrap ?_
  intro GL hGL
  obtain ⟨rfl, hZ, hh⟩ := hP
  have hx := Bd.exec
  have hby := Bd.bytes
  have hml : c.maxLocals = 6 := hml0
  have hown : s.vm.findClass "com/example/idlefleet/idlefleet/Assignment" = some m.cls := findClass_of_methodNamed Bd.named
  have hnm := (name_of_methodNamed Bd.named Bd.method).1
  have X0 : Stand p l e ({ frames := 2, cells := 0, slots := 0, locals := 24 } : Room) s m #[(.ref o), (.ref rq), (.int ve), (.long pk), (.int oc)] below meth c s₁ [] 0 0 := Stand.of_body Bd
  have e0 : s₁.heap = h0 := by rw [← hh, Bd.state]; rfl
  have N0 := Fr.nil n0
  have pre0 : ∀ τ, Steps p.tables e below (s₁.setTop (mkF m 0 #[.val (.ref o), .val (.ref rq), .val (.int ve), .val (.long pk), .second, .val (.int oc)] [])) τ → Steps p.tables e below (s₁.setTop (entryFrame m #[(.ref o), (.ref rq), (.int ve), (.long pk), (.int oc)] 6)) τ := fun τ κ => castTop (ef_4 m o rq ve pk oc) κ
  obtain ⟨G, hG, pre⟩ : ∃ G : State → Prop, (∀ τ, G τ → Steps p.tables e below (s₁.setTop (entryFrame m #[(.ref o), (.ref rq), (.int ve), (.long pk), (.int oc)] 6)) τ) ∧ ∀ τ, Steps p.tables e below (s₁.setTop (mkF m 0 #[.val (.ref o), .val (.ref rq), .val (.int ve), .val (.long pk), .second, .val (.int oc)] [])) τ → G τ := ⟨_, pre0, fun _ k => k⟩
  have K : Keep h0 h0 [o] := Keep.refl h0 _
  have Zn := Z0
  have pre : ∀ τ, Steps p.tables e below (s₁.setTop (mkF m 1 #[.val (.ref o), .val (.ref rq), .val (.int ve), .val (.long pk), .second, .val (.int oc)] [(.ref o)])) τ → G τ := fun τ κ => pre τ (by
    refine XS.aloadN X0.here hx rfl (hb hby d4_0) rfl rfl ?_
    show Steps p.tables e below (s₁.setTop (mkF m 1 #[.val (.ref o), .val (.ref rq), .val (.int ve), .val (.long pk), .second, .val (.int oc)] [(.ref o)])) τ
    exact κ)
  obtain ⟨_, _, ⟨T1, Lx1, kx1, nx1⟩, -, X1, ⟨Lc1, hQ1, l1, y1, z1⟩, st1⟩ := X0.specialBack hx (y := (⟨"java/lang/Record", "<init>", "()V"⟩ : MethodName)) rfl hown (mvT hZ (hw _ (List.mem_of_getElem? (i := 26) rfl))) (mvT hZ (hw _ (List.mem_of_getElem? (i := 7) rfl))) (mvT hZ (hw _ (List.mem_of_getElem? (i := 10) rfl))) (by decide) (backOf (W := 0) (rm2 l Z a0 hw [] o h0 n0 Zn) hZ (hw _ (List.mem_of_getElem? (i := 10) rfl)) (hw _ (List.mem_of_getElem? (i := 9) rfl)) (by decide) (by decide)) (g := (mkF m 1 #[.val (.ref o), .val (.ref rq), .val (.int ve), .val (.long pk), .second, .val (.int oc)] [(.ref o)])) rfl (by rw [hml]; rfl) (Steps.refl _) (a := o) (argsL := []) (rest := []) (lenOf pd_0 rfl) rfl (by show 2 * 0 + _ ≤ _; exact Nat.le_of_eq rfl) (hb hby d4_1) (fun _ _ => ⟨rfl, e0, (by decide : 0 + 0 ≤ _), (by decide : 0 + 0 ≤ _)⟩)
  dsimp only [Pt.U, Pt.locs, Pt.cells, Pt.slots] at X1 l1 y1 z1 st1 hQ1
  subst l1 y1 z1
  obtain ⟨rfl, Nq1, hs1⟩ := hQ1
  have NN := Fr.app N0 Nq1
  have pre : ∀ τ, Steps p.tables e below (T1.setTop (mkF m 4 #[.val (.ref o), .val (.ref rq), .val (.int ve), .val (.long pk), .second, .val (.int oc)] [])) τ → G τ := fun τ κ => pre τ (st1.trans κ)
  have pre : ∀ τ, Steps p.tables e below (T1.setTop (mkF m 6 #[.val (.ref o), .val (.ref rq), .val (.int ve), .val (.long pk), .second, .val (.int oc)] [(.ref rq), (.ref o)])) τ → G τ := fun τ κ => pre τ (by
    refine XS.aloadN X1.here hx rfl (hb hby d4_4) rfl rfl ?_
    show Steps p.tables e below (T1.setTop (mkF m 5 #[.val (.ref o), .val (.ref rq), .val (.int ve), .val (.long pk), .second, .val (.int oc)] [(.ref o)])) τ
    refine XS.aloadN X1.here hx rfl (hb hby d4_5) rfl rfl ?_
    show Steps p.tables e below (T1.setTop (mkF m 6 #[.val (.ref o), .val (.ref rq), .val (.int ve), .val (.long pk), .second, .val (.int oc)] [(.ref rq), (.ref o)])) τ
    exact κ)
  obtain ⟨T2, h2, X2, e2, W2, st2⟩ := putF X1 hx hZ hown (host := "") (Or.inl (hw _ (List.mem_of_getElem? (i := 27) rfl))) Via.refl hs1 F_request E_o (Or.inr ⟨(hw _ (List.mem_of_getElem? (i := 28) rfl)), rfl, hnm⟩) (hw _ (List.mem_of_getElem? (i := 21) rfl)) (ty := (.object "com/example/idlefleet/idlefleet/Request")) (by decide) rfl rfl (g := (mkF m 6 #[.val (.ref o), .val (.ref rq), .val (.int ve), .val (.long pk), .second, .val (.int oc)] [(.ref rq), (.ref o)])) rfl rfl (hb hby d4_6)
  have F_request : Fld Z h2 o "com/example/idlefleet/idlefleet/Assignment" "request" "Lcom/example/idlefleet/idlefleet/Request;" (.ref rq) := F_request.same W2
  have E_o : Exa Z h2 o "com/example/idlefleet/idlefleet/Assignment" := E_o.wr W2
  have F_vehicle : Fld Z h2 o "com/example/idlefleet/idlefleet/Assignment" "vehicle" "I" u_vehicle := F_vehicle.other W2 (Or.inr (slot_ne (Or.inr (hw _ (List.mem_of_getElem? (i := 30) rfl))) (Or.inr (hw _ (List.mem_of_getElem? (i := 28) rfl))) (by decide) (t := .int) (t' := (.object "com/example/idlefleet/idlefleet/Request")) (by decide) (by decide)))
  have F_pickup : Fld Z h2 o "com/example/idlefleet/idlefleet/Assignment" "pickup" "J" u_pickup := F_pickup.other W2 (Or.inr (slot_ne (Or.inr (hw _ (List.mem_of_getElem? (i := 32) rfl))) (Or.inr (hw _ (List.mem_of_getElem? (i := 28) rfl))) (by decide) (t := .long) (t' := (.object "com/example/idlefleet/idlefleet/Request")) (by decide) (by decide)))
  have F_occupiedTime : Fld Z h2 o "com/example/idlefleet/idlefleet/Assignment" "occupiedTime" "I" u_occupiedTime := F_occupiedTime.other W2 (Or.inr (slot_ne (Or.inr (hw _ (List.mem_of_getElem? (i := 34) rfl))) (Or.inr (hw _ (List.mem_of_getElem? (i := 28) rfl))) (by decide) (t := .int) (t' := (.object "com/example/idlefleet/idlefleet/Request")) (by decide) (by decide)))
  have Zn : n0 ≤ h2.size := Nat.le_trans Zn (Keep.of_wr W2).1
  have K : Keep h0 h2 [o] := K.wr W2 (Or.inl (List.mem_of_getElem? (i := 0) rfl))
  have NN := Fr.snoc X2 NN g_o
  have pre : ∀ τ, Steps p.tables e below (T2.setTop (mkF m 9 #[.val (.ref o), .val (.ref rq), .val (.int ve), .val (.long pk), .second, .val (.int oc)] [])) τ → G τ := fun τ κ => pre τ (st2 τ κ)
  have pre : ∀ τ, Steps p.tables e below (T2.setTop (mkF m 11 #[.val (.ref o), .val (.ref rq), .val (.int ve), .val (.long pk), .second, .val (.int oc)] [(.int ve), (.ref o)])) τ → G τ := fun τ κ => pre τ (by
    refine XS.aloadN X2.here hx rfl (hb hby d4_9) rfl rfl ?_
    show Steps p.tables e below (T2.setTop (mkF m 10 #[.val (.ref o), .val (.ref rq), .val (.int ve), .val (.long pk), .second, .val (.int oc)] [(.ref o)])) τ
    refine XS.iloadN X2.here hx rfl (hb hby d4_10) rfl ?_
    show Steps p.tables e below (T2.setTop (mkF m 11 #[.val (.ref o), .val (.ref rq), .val (.int ve), .val (.long pk), .second, .val (.int oc)] [(.int ve), (.ref o)])) τ
    exact κ)
  obtain ⟨T3, h3, X3, e3, W3, st3⟩ := putF X2 hx hZ hown (host := "") (Or.inl (hw _ (List.mem_of_getElem? (i := 29) rfl))) Via.refl e2 F_vehicle E_o (Or.inr ⟨(hw _ (List.mem_of_getElem? (i := 30) rfl)), rfl, hnm⟩) (hw _ (List.mem_of_getElem? (i := 21) rfl)) (ty := .int) (by decide) rfl rfl (g := (mkF m 11 #[.val (.ref o), .val (.ref rq), .val (.int ve), .val (.long pk), .second, .val (.int oc)] [(.int ve), (.ref o)])) rfl rfl (hb hby d4_11)
  have F_vehicle : Fld Z h3 o "com/example/idlefleet/idlefleet/Assignment" "vehicle" "I" (.int ve) := F_vehicle.same W3
  have E_o : Exa Z h3 o "com/example/idlefleet/idlefleet/Assignment" := E_o.wr W3
  have F_request : Fld Z h3 o "com/example/idlefleet/idlefleet/Assignment" "request" "Lcom/example/idlefleet/idlefleet/Request;" (.ref rq) := F_request.other W3 (Or.inr (slot_ne (Or.inr (hw _ (List.mem_of_getElem? (i := 28) rfl))) (Or.inr (hw _ (List.mem_of_getElem? (i := 30) rfl))) (by decide) (t := (.object "com/example/idlefleet/idlefleet/Request")) (t' := .int) (by decide) (by decide)))
  have F_pickup : Fld Z h3 o "com/example/idlefleet/idlefleet/Assignment" "pickup" "J" u_pickup := F_pickup.other W3 (Or.inr (slot_ne (Or.inr (hw _ (List.mem_of_getElem? (i := 32) rfl))) (Or.inr (hw _ (List.mem_of_getElem? (i := 30) rfl))) (by decide) (t := .long) (t' := .int) (by decide) (by decide)))
  have F_occupiedTime : Fld Z h3 o "com/example/idlefleet/idlefleet/Assignment" "occupiedTime" "I" u_occupiedTime := F_occupiedTime.other W3 (Or.inr (slot_ne (Or.inr (hw _ (List.mem_of_getElem? (i := 34) rfl))) (Or.inr (hw _ (List.mem_of_getElem? (i := 30) rfl))) (by decide) (t := .int) (t' := .int) (by decide) (by decide)))
  have Zn : n0 ≤ h3.size := Nat.le_trans Zn (Keep.of_wr W3).1
  have K : Keep h0 h3 [o] := K.wr W3 (Or.inl (List.mem_of_getElem? (i := 0) rfl))
  have NN := Fr.snoc X3 NN g_o
  have pre : ∀ τ, Steps p.tables e below (T3.setTop (mkF m 14 #[.val (.ref o), .val (.ref rq), .val (.int ve), .val (.long pk), .second, .val (.int oc)] [])) τ → G τ := fun τ κ => pre τ (st3 τ κ)
  have pre : ∀ τ, Steps p.tables e below (T3.setTop (mkF m 16 #[.val (.ref o), .val (.ref rq), .val (.int ve), .val (.long pk), .second, .val (.int oc)] [(.long pk), (.ref o)])) τ → G τ := fun τ κ => pre τ (by
    refine XS.aloadN X3.here hx rfl (hb hby d4_14) rfl rfl ?_
    show Steps p.tables e below (T3.setTop (mkF m 15 #[.val (.ref o), .val (.ref rq), .val (.int ve), .val (.long pk), .second, .val (.int oc)] [(.ref o)])) τ
    refine XS.lloadN X3.here hx rfl (hb hby d4_15) rfl ?_
    show Steps p.tables e below (T3.setTop (mkF m 16 #[.val (.ref o), .val (.ref rq), .val (.int ve), .val (.long pk), .second, .val (.int oc)] [(.long pk), (.ref o)])) τ
    exact κ)
  obtain ⟨T4, h4, X4, e4, W4, st4⟩ := putF X3 hx hZ hown (host := "") (Or.inl (hw _ (List.mem_of_getElem? (i := 31) rfl))) Via.refl e3 F_pickup E_o (Or.inr ⟨(hw _ (List.mem_of_getElem? (i := 32) rfl)), rfl, hnm⟩) (hw _ (List.mem_of_getElem? (i := 21) rfl)) (ty := .long) (by decide) rfl rfl (g := (mkF m 16 #[.val (.ref o), .val (.ref rq), .val (.int ve), .val (.long pk), .second, .val (.int oc)] [(.long pk), (.ref o)])) rfl rfl (hb hby d4_16)
  have F_pickup : Fld Z h4 o "com/example/idlefleet/idlefleet/Assignment" "pickup" "J" (.long pk) := F_pickup.same W4
  have E_o : Exa Z h4 o "com/example/idlefleet/idlefleet/Assignment" := E_o.wr W4
  have F_request : Fld Z h4 o "com/example/idlefleet/idlefleet/Assignment" "request" "Lcom/example/idlefleet/idlefleet/Request;" (.ref rq) := F_request.other W4 (Or.inr (slot_ne (Or.inr (hw _ (List.mem_of_getElem? (i := 28) rfl))) (Or.inr (hw _ (List.mem_of_getElem? (i := 32) rfl))) (by decide) (t := (.object "com/example/idlefleet/idlefleet/Request")) (t' := .long) (by decide) (by decide)))
  have F_vehicle : Fld Z h4 o "com/example/idlefleet/idlefleet/Assignment" "vehicle" "I" (.int ve) := F_vehicle.other W4 (Or.inr (slot_ne (Or.inr (hw _ (List.mem_of_getElem? (i := 30) rfl))) (Or.inr (hw _ (List.mem_of_getElem? (i := 32) rfl))) (by decide) (t := .int) (t' := .long) (by decide) (by decide)))
  have F_occupiedTime : Fld Z h4 o "com/example/idlefleet/idlefleet/Assignment" "occupiedTime" "I" u_occupiedTime := F_occupiedTime.other W4 (Or.inr (slot_ne (Or.inr (hw _ (List.mem_of_getElem? (i := 34) rfl))) (Or.inr (hw _ (List.mem_of_getElem? (i := 32) rfl))) (by decide) (t := .int) (t' := .long) (by decide) (by decide)))
  have Zn : n0 ≤ h4.size := Nat.le_trans Zn (Keep.of_wr W4).1
  have K : Keep h0 h4 [o] := K.wr W4 (Or.inl (List.mem_of_getElem? (i := 0) rfl))
  have NN := Fr.snoc X4 NN g_o
  have pre : ∀ τ, Steps p.tables e below (T4.setTop (mkF m 19 #[.val (.ref o), .val (.ref rq), .val (.int ve), .val (.long pk), .second, .val (.int oc)] [])) τ → G τ := fun τ κ => pre τ (st4 τ κ)
  have pre : ∀ τ, Steps p.tables e below (T4.setTop (mkF m 22 #[.val (.ref o), .val (.ref rq), .val (.int ve), .val (.long pk), .second, .val (.int oc)] [(.int oc), (.ref o)])) τ → G τ := fun τ κ => pre τ (by
    refine XS.aloadN X4.here hx rfl (hb hby d4_19) rfl rfl ?_
    show Steps p.tables e below (T4.setTop (mkF m 20 #[.val (.ref o), .val (.ref rq), .val (.int ve), .val (.long pk), .second, .val (.int oc)] [(.ref o)])) τ
    refine XS.iload X4.here hx rfl (hb hby d4_20) rfl ?_
    show Steps p.tables e below (T4.setTop (mkF m 22 #[.val (.ref o), .val (.ref rq), .val (.int ve), .val (.long pk), .second, .val (.int oc)] [(.int oc), (.ref o)])) τ
    exact κ)
  obtain ⟨T5, h5, X5, e5, W5, st5⟩ := putF X4 hx hZ hown (host := "") (Or.inl (hw _ (List.mem_of_getElem? (i := 33) rfl))) Via.refl e4 F_occupiedTime E_o (Or.inr ⟨(hw _ (List.mem_of_getElem? (i := 34) rfl)), rfl, hnm⟩) (hw _ (List.mem_of_getElem? (i := 21) rfl)) (ty := .int) (by decide) rfl rfl (g := (mkF m 22 #[.val (.ref o), .val (.ref rq), .val (.int ve), .val (.long pk), .second, .val (.int oc)] [(.int oc), (.ref o)])) rfl rfl (hb hby d4_22)
  have F_occupiedTime : Fld Z h5 o "com/example/idlefleet/idlefleet/Assignment" "occupiedTime" "I" (.int oc) := F_occupiedTime.same W5
  have E_o : Exa Z h5 o "com/example/idlefleet/idlefleet/Assignment" := E_o.wr W5
  have F_request : Fld Z h5 o "com/example/idlefleet/idlefleet/Assignment" "request" "Lcom/example/idlefleet/idlefleet/Request;" (.ref rq) := F_request.other W5 (Or.inr (slot_ne (Or.inr (hw _ (List.mem_of_getElem? (i := 28) rfl))) (Or.inr (hw _ (List.mem_of_getElem? (i := 34) rfl))) (by decide) (t := (.object "com/example/idlefleet/idlefleet/Request")) (t' := .int) (by decide) (by decide)))
  have F_vehicle : Fld Z h5 o "com/example/idlefleet/idlefleet/Assignment" "vehicle" "I" (.int ve) := F_vehicle.other W5 (Or.inr (slot_ne (Or.inr (hw _ (List.mem_of_getElem? (i := 30) rfl))) (Or.inr (hw _ (List.mem_of_getElem? (i := 34) rfl))) (by decide) (t := .int) (t' := .int) (by decide) (by decide)))
  have F_pickup : Fld Z h5 o "com/example/idlefleet/idlefleet/Assignment" "pickup" "J" (.long pk) := F_pickup.other W5 (Or.inr (slot_ne (Or.inr (hw _ (List.mem_of_getElem? (i := 32) rfl))) (Or.inr (hw _ (List.mem_of_getElem? (i := 34) rfl))) (by decide) (t := .long) (t' := .int) (by decide) (by decide)))
  have Zn : n0 ≤ h5.size := Nat.le_trans Zn (Keep.of_wr W5).1
  have K : Keep h0 h5 [o] := K.wr W5 (Or.inl (List.mem_of_getElem? (i := 0) rfl))
  have NN := Fr.snoc X5 NN g_o
  have pre : ∀ τ, Steps p.tables e below (T5.setTop (mkF m 25 #[.val (.ref o), .val (.ref rq), .val (.int ve), .val (.long pk), .second, .val (.int oc)] [])) τ → G τ := fun τ κ => pre τ (st5 τ κ)
  obtain ⟨fs, hr, hrun, hended, hW, hsame⟩ := X5.leave (v := none) (fun _ => rfl)
  refine hGL ⟨_, _, hG _ (pre _ ?_), hrun, hended, _, _, rfl, ?_, ⟨_, rfl⟩, hW, hsame.mono (by decide) (by decide)⟩
  · exact X5.returnOut hx Bd.returns (hb hby d4_25) hr
  · show Q4 Z o rq ve pk oc u_request u_vehicle u_pickup u_occupiedTime h0 n0 _ T5.heap _
    rw [e5]
    exact ⟨rfl, NN, K, E_o, F_request, F_vehicle, F_pickup, F_occupiedTime⟩
theorem d6_0 : decode prog_18_method_7_code 0 = .ok (.aload_n 0, 1) := by decide +kernel
theorem d6_1 : decode prog_18_method_7_code 1 = .ok (.getfield 7, 3) := by decide +kernel
theorem d6_4 : decode prog_18_method_7_code 4 = .ok (.lreturn, 1) := by decide +kernel
theorem ef_6 (m : MethodId) (x0 : Addr) : entryFrame m #[(.ref x0)] 1 = mkF m 0 #[.val (.ref x0)] [] := by first | (simp [entryFrame, mkF, argsToLocals, Value.category]; done) | rfl
def Q6 (Z : State) (o : Addr) (t : Int64) (h0 : Heap) (n0 : Nat) (vα : Option Value) (hα : Heap) (Lα : List Loc) : Prop := vα = some (.long t) ∧ Fr n0 Lα ∧ hα = h0
set_option maxRecDepth 65536 in
set_option maxHeartbeats 40000000 in
theorem rm6 (l : Launch) (Z : State) (a0 : Array Value) (hw : ∀ d ∈ tables_1, d.before a0 Z = true) (ws : List Jvm.Cond) (o : Addr) (t : Int64) (h0 : Heap) (n0 : Nat) (Z0 : n0 ≤ h0.size) (F_time : Fld Z h0 o "com/example/idlefleet/idlefleet/Request" "time" "J" (.long t)) :
    MetFree l (⟨"com/example/idlefleet/idlefleet/Request", "time", "()J"⟩ : MethodName) (head1 (Jvm.Cond.code (⟨"com/example/idlefleet/idlefleet/Request", "time", "()J"⟩ : MethodName) prog_18_method_7_code 1 (some .long) :: ws) ({ frames := 0, cells := 0, slots := 0, locals := 0 } : Room)) (fun aα U => aα = #[(.ref o)] ∧ Z.Warmed39 U.vm ∧ U.heap = h0) (fun _ _ _ _ _ => True) (fun _ U oα U' => ∃ vα Lα, oα = .returned vα ∧ Q6 Z o t h0 n0 vα U'.heap Lα ∧ FrameEnd U oα U' Lα ({ frames := 0, cells := 0, slots := 0, locals := 0 } : Room).cells ({ frames := 0, cells := 0, slots := 0, locals := 0 } : Room).slots) := by
  refine MetFree.of_bodySF (plainFor_of_name pn_1) hisR ?_
  intro p e s m args below meth c s₁ Bd hml0 hP hK
  refine own_wrap ?_
  intro GL hGL
  obtain ⟨rfl, hZ, hh⟩ := hP
  have hx := Bd.exec
  have hby := Bd.bytes
  have hml : c.maxLocals = 1 := hml0
  have hown : s.vm.findClass "com/example/idlefleet/idlefleet/Request" = some m.cls := findClass_of_methodNamed Bd.named
  have hnm := (name_of_methodNamed Bd.named Bd.method).1
  have X0 : Stand p l e ({ frames := 0, cells := 0, slots := 0, locals := 0 } : Room) s m #[(.ref o)] below meth c s₁ [] 0 0 := Stand.of_body Bd
  have e0 : s₁.heap = h0 := by rw [← hh, Bd.state]; rfl
  have N0 := Fr.nil n0
  have pre0 : ∀ τ, Steps p.tables e below (s₁.setTop (mkF m 0 #[.val (.ref o)] [])) τ → Steps p.tables e below (s₁.setTop (entryFrame m #[(.ref o)] 1)) τ := fun τ κ => castTop (ef_6 m o) κ
  obtain ⟨G, hG, pre⟩ : ∃ G : State → Prop, (∀ τ, G τ → Steps p.tables e below (s₁.setTop (entryFrame m #[(.ref o)] 1)) τ) ∧ ∀ τ, Steps p.tables e below (s₁.setTop (mkF m 0 #[.val (.ref o)] [])) τ → G τ := ⟨_, pre0, fun _ k => k⟩
  have K : Keep h0 h0 [] := Keep.refl h0 _
  have Zn := Z0
  have pre : ∀ τ, Steps p.tables e below (s₁.setTop (mkF m 1 #[.val (.ref o)] [(.ref o)])) τ → G τ := fun τ κ => pre τ (by
    refine XS.aloadN X0.here hx rfl (hb hby d6_0) rfl rfl ?_
    show Steps p.tables e below (s₁.setTop (mkF m 1 #[.val (.ref o)] [(.ref o)])) τ
    exact κ)
  obtain ⟨T1, X1, e1, st1⟩ := getF X0 hx hZ hown (host := "") (Or.inl (hw _ (List.mem_of_getElem? (i := 14) rfl))) Via.refl e0 F_time (g := (mkF m 1 #[.val (.ref o)] [(.ref o)])) rfl rfl (hb hby d6_1)
  have pre : ∀ τ, Steps p.tables e below (T1.setTop (mkF m 4 #[.val (.ref o)] [(.long t)])) τ → G τ := fun τ κ => pre τ (st1 τ κ)
  obtain ⟨fs, hr, hrun, hended, hW, hsame⟩ := X1.leave (v := some (.long t)) (fun h => by rw [Bd.returns] at h; cases h)
  refine hGL ⟨_, _, hG _ (pre _ ?_), hrun, hended, _, _, rfl, ?_, ⟨_, rfl⟩, hW, hsame.mono (by decide) (by decide)⟩
  · exact retOut X1 hx Bd.returns rfl (Or.inr (Or.inl ⟨rfl, rfl, _, rfl⟩)) (hb hby d6_4) hr
  · show Q6 Z o t h0 n0 _ T1.heap _
    rw [e1]
    exact ⟨rfl, N0, rfl⟩
theorem d5_0 : decode prog_1_method_2_code 0 = .ok (.aload_n 0, 1) := by decide +kernel
theorem d5_1 : decode prog_1_method_2_code 1 = .ok (.getfield 17, 3) := by decide +kernel
theorem d5_4 : decode prog_1_method_2_code 4 = .ok (.aload_n 0, 1) := by decide +kernel
theorem d5_5 : decode prog_1_method_2_code 5 = .ok (.getfield 7, 3) := by decide +kernel
theorem d5_8 : decode prog_1_method_2_code 8 = .ok (.invokevirtual 24, 3) := by decide +kernel
theorem pd_1 : parseMethodDescriptor "()J" = some ⟨[], some .long⟩ := by decide +kernel
theorem d5_11 : decode prog_1_method_2_code 11 = .ok (.lsub, 1) := by decide +kernel
theorem d5_12 : decode prog_1_method_2_code 12 = .ok (.lreturn, 1) := by decide +kernel
theorem ef_5 (m : MethodId) (x0 : Addr) : entryFrame m #[(.ref x0)] 1 = mkF m 0 #[.val (.ref x0)] [] := by first | (simp [entryFrame, mkF, argsToLocals, Value.category]; done) | rfl
def Q5 (Z : State) (o : Addr) (pk : Int64) (rq : Addr) (t : Int64) (h0 : Heap) (n0 : Nat) (vα : Option Value) (hα : Heap) (Lα : List Loc) : Prop := vα = some (.long (pk - t)) ∧ Fr n0 Lα ∧ hα = h0
set_option maxRecDepth 65536 in
set_option maxHeartbeats 40000000 in
theorem rm5 (l : Launch) (Z : State) (a0 : Array Value) (hw : ∀ d ∈ tables_1, d.before a0 Z = true) (ws : List Jvm.Cond) (o : Addr) (pk : Int64) (rq : Addr) (t : Int64) (h0 : Heap) (n0 : Nat) (Z0 : n0 ≤ h0.size) (F_pickup : Fld Z h0 o "com/example/idlefleet/idlefleet/Assignment" "pickup" "J" (.long pk)) (F_request : Fld Z h0 o "com/example/idlefleet/idlefleet/Assignment" "request" "Lcom/example/idlefleet/idlefleet/Request;" (.ref rq)) (E_rq : Exa Z h0 rq "com/example/idlefleet/idlefleet/Request") (F_time : Fld Z h0 rq "com/example/idlefleet/idlefleet/Request" "time" "J" (.long t)) :
    MetFree l (⟨"com/example/idlefleet/idlefleet/Assignment", "waitTime", "()J"⟩ : MethodName) (head1 (Jvm.Cond.code (⟨"com/example/idlefleet/idlefleet/Assignment", "waitTime", "()J"⟩ : MethodName) prog_1_method_2_code 1 (some .long) :: ws) ({ frames := 1, cells := 0, slots := 0, locals := 14 } : Room)) (fun aα U => aα = #[(.ref o)] ∧ Z.Warmed39 U.vm ∧ U.heap = h0) (fun _ _ _ _ _ => True) (fun _ U oα U' => ∃ vα Lα, oα = .returned vα ∧ Q5 Z o pk rq t h0 n0 vα U'.heap Lα ∧ FrameEnd U oα U' Lα ({ frames := 1, cells := 0, slots := 0, locals := 14 } : Room).cells ({ frames := 1, cells := 0, slots := 0, locals := 14 } : Room).slots) := by
  refine MetFree.of_bodySF (plainFor_of_name pn_2) hisR ?_
  intro p e s m args below meth c s₁ Bd hml0 hP hK
  refine own_wrap ?_
  intro GL hGL
  obtain ⟨rfl, hZ, hh⟩ := hP
  have hx := Bd.exec
  have hby := Bd.bytes
  have hml : c.maxLocals = 1 := hml0
  have hown : s.vm.findClass "com/example/idlefleet/idlefleet/Assignment" = some m.cls := findClass_of_methodNamed Bd.named
  have hnm := (name_of_methodNamed Bd.named Bd.method).1
  have X0 : Stand p l e ({ frames := 1, cells := 0, slots := 0, locals := 14 } : Room) s m #[(.ref o)] below meth c s₁ [] 0 0 := Stand.of_body Bd
  have e0 : s₁.heap = h0 := by rw [← hh, Bd.state]; rfl
  have N0 := Fr.nil n0
  have pre0 : ∀ τ, Steps p.tables e below (s₁.setTop (mkF m 0 #[.val (.ref o)] [])) τ → Steps p.tables e below (s₁.setTop (entryFrame m #[(.ref o)] 1)) τ := fun τ κ => castTop (ef_5 m o) κ
  obtain ⟨G, hG, pre⟩ : ∃ G : State → Prop, (∀ τ, G τ → Steps p.tables e below (s₁.setTop (entryFrame m #[(.ref o)] 1)) τ) ∧ ∀ τ, Steps p.tables e below (s₁.setTop (mkF m 0 #[.val (.ref o)] [])) τ → G τ := ⟨_, pre0, fun _ k => k⟩
  have K : Keep h0 h0 [] := Keep.refl h0 _
  have Zn := Z0
  have pre : ∀ τ, Steps p.tables e below (s₁.setTop (mkF m 1 #[.val (.ref o)] [(.ref o)])) τ → G τ := fun τ κ => pre τ (by
    refine XS.aloadN X0.here hx rfl (hb hby d5_0) rfl rfl ?_
    show Steps p.tables e below (s₁.setTop (mkF m 1 #[.val (.ref o)] [(.ref o)])) τ
    exact κ)
  obtain ⟨T1, X1, e1, st1⟩ := getF X0 hx hZ hown (host := "") (Or.inl (hw _ (List.mem_of_getElem? (i := 31) rfl))) Via.refl e0 F_pickup (g := (mkF m 1 #[.val (.ref o)] [(.ref o)])) rfl rfl (hb hby d5_1)
  have pre : ∀ τ, Steps p.tables e below (T1.setTop (mkF m 4 #[.val (.ref o)] [(.long pk)])) τ → G τ := fun τ κ => pre τ (st1 τ κ)
  have pre : ∀ τ, Steps p.tables e below (T1.setTop (mkF m 5 #[.val (.ref o)] [(.ref o), (.long pk)])) τ → G τ := fun τ κ => pre τ (by
    refine XS.aloadN X1.here hx rfl (hb hby d5_4) rfl rfl ?_
    show Steps p.tables e below (T1.setTop (mkF m 5 #[.val (.ref o)] [(.ref o), (.long pk)])) τ
    exact κ)
  obtain ⟨T2, X2, e2, st2⟩ := getF X1 hx hZ hown (host := "") (Or.inl (hw _ (List.mem_of_getElem? (i := 27) rfl))) Via.refl e1 F_request (g := (mkF m 5 #[.val (.ref o)] [(.ref o), (.long pk)])) rfl rfl (hb hby d5_5)
  have pre : ∀ τ, Steps p.tables e below (T2.setTop (mkF m 8 #[.val (.ref o)] [(.ref rq), (.long pk)])) τ → G τ := fun τ κ => pre τ (st2 τ κ)
  obtain ⟨cq3, kq3, q3a, q3b, q3c⟩ := isOf hZ e2 E_rq
  obtain ⟨_, _, ⟨T3, Lx3, kx3, nx3⟩, -, X3, ⟨Lc3, hQ3, l3, y3, z3⟩, st3⟩ := X2.virtualBack hx (y := (⟨"com/example/idlefleet/idlefleet/Request", "time", "()J"⟩ : MethodName)) (z := (⟨"com/example/idlefleet/idlefleet/Request", "time", "()J"⟩ : MethodName)) hown (mvT hZ (hw _ (List.mem_of_getElem? (i := 40) rfl))) (mvT hZ (hw _ (List.mem_of_getElem? (i := 41) rfl))) (notFace_of_selects (args := #[]) (mvT hZ (hw _ (List.mem_of_getElem? (i := 43) rfl)))) (mvT hZ (hw _ (List.mem_of_getElem? (i := 43) rfl))) (mvT hZ (hw _ (List.mem_of_getElem? (i := 42) rfl))) (by decide) (backOf (W := 2) (rm6 l Z a0 hw [] rq t h0 n0 Zn F_time) hZ (hw _ (List.mem_of_getElem? (i := 44) rfl)) (hw _ (List.mem_of_getElem? (i := 2) rfl)) (by decide) (by decide)) q3a q3c (g := (mkF m 8 #[.val (.ref o)] [(.ref rq), (.long pk)])) rfl (by rw [hml]; rfl) (Steps.refl _) (argsL := []) (rest := [(.long pk)]) (lenOf pd_1 rfl) rfl (by show 2 * 0 + _ ≤ _; exact Nat.le_of_eq rfl) (hb hby d5_8) (fun _ _ => ⟨rfl, e2, (by decide : 0 + 0 ≤ _), (by decide : 0 + 0 ≤ _)⟩)
  dsimp only [Pt.U, Pt.locs, Pt.cells, Pt.slots] at X3 l3 y3 z3 st3 hQ3
  subst l3 y3 z3
  obtain ⟨rfl, Nq3, hs3⟩ := hQ3
  have NN := Fr.app N0 Nq3
  have pre : ∀ τ, Steps p.tables e below (T3.setTop (mkF m 11 #[.val (.ref o)] [(.long t), (.long pk)])) τ → G τ := fun τ κ => pre τ (st3.trans κ)
  have pre : ∀ τ, Steps p.tables e below (T3.setTop (mkF m 12 #[.val (.ref o)] [(.long (pk - t))])) τ → G τ := fun τ κ => pre τ (by
    refine XS.lsub X3.here hx rfl (hb hby d5_11) rfl ?_
    show Steps p.tables e below (T3.setTop (mkF m 12 #[.val (.ref o)] [(.long (pk - t))])) τ
    exact κ)
  obtain ⟨fs, hr, hrun, hended, hW, hsame⟩ := X3.leave (v := some (.long (pk - t))) (fun h => by rw [Bd.returns] at h; cases h)
  refine hGL ⟨_, _, hG _ (pre _ ?_), hrun, hended, _, _, rfl, ?_, ⟨_, rfl⟩, hW, hsame.mono (by decide) (by decide)⟩
  · exact retOut X3 hx Bd.returns rfl (Or.inr (Or.inl ⟨rfl, rfl, _, rfl⟩)) (hb hby d5_12) hr
  · show Q5 Z o pk rq t h0 n0 _ T3.heap _
    rw [hs3]
    exact ⟨rfl, NN, rfl⟩
theorem pn_3 : plainName "com/example/idlefleet/idlefleet/AssignmentWaitTimePinLaw" = true := by first | (simp [plainName, overriddenIn]; done) | decide +kernel
theorem pd_2 : parseMethodDescriptor "(JII)V" = some ⟨[.long, .int, .int], none⟩ := by decide +kernel
theorem pd_3 : parseMethodDescriptor "(Lcom/example/idlefleet/idlefleet/Request;IJI)V" = some ⟨[(.object "com/example/idlefleet/idlefleet/Request"), .int, .long, .int], none⟩ := by decide +kernel
theorem ef_0 (m : MethodId) (x0 : Int64) (x1 : Int64) (x2 : Int32) (x3 : Int32) (x4 : Int32) (x5 : Int32) : entryFrame m #[(.long x0), (.long x1), (.int x2), (.int x3), (.int x4), (.int x5)] maxLocals = mkF m 0 #[.val (.long x0), .second, .val (.long x1), .second, .val (.int x2), .val (.int x3), .val (.int x4), .val (.int x5), .unset, .unset, .unset, .unset] [] := by first | (simp [entryFrame, mkF, argsToLocals, Value.category, maxLocals]; done) | rfl
def Q0 (Z : State) (q1 : Int64) (q2 : Int64) (p3 : Int32) (p4 : Int32) (p5 : Int32) (p6 : Int32) (h0 : Heap) (n0 : Nat) (vα : Option Value) (hα : Heap) (Lα : List Loc) : Prop := vα = some (.int (1 : Int32)) ∧ Fr n0 Lα
set_option maxRecDepth 65536 in
set_option maxHeartbeats 40000000 in
theorem rm0 (l : Launch) (Z : State) (a0 : Array Value) (hw : ∀ d ∈ tables_1, d.before a0 Z = true) (ws : List Jvm.Cond) (q1 : Int64) (q2 : Int64) (p3 : Int32) (p4 : Int32) (p5 : Int32) (p6 : Int32) (h0 : Heap) (n0 : Nat) (Z0 : n0 ≤ h0.size) :
    MetFree l x (head1 (Jvm.Cond.code x code maxLocals ret :: ws) room_1) (fun aα U => aα = #[(.long q1), (.long q2), (.int p3), (.int p4), (.int p5), (.int p6)] ∧ Z.Warmed39 U.vm ∧ U.heap = h0) (fun _ _ _ _ _ => True) (fun _ U oα U' => ∃ vα Lα, oα = .returned vα ∧ Q0 Z q1 q2 p3 p4 p5 p6 h0 n0 vα U'.heap Lα ∧ FrameEnd U oα U' Lα room_1.cells room_1.slots) := by
  refine MetFree.of_bodySF (plainFor_of_name pn_3) hisR ?_
  intro p e s m args below meth c s₁ Bd hml0 hP hK
  refine own_wrap ?_
  intro GL hGL
  obtain ⟨rfl, hZ, hh⟩ := hP
  have hx := Bd.exec
  have hby := Bd.bytes
  have hml : c.maxLocals = 12 := hml0
  have hown : s.vm.findClass "com/example/idlefleet/idlefleet/AssignmentWaitTimePinLaw" = some m.cls := findClass_of_methodNamed Bd.named
  have hnm := (name_of_methodNamed Bd.named Bd.method).1
  have X0 : Stand p l e room_1 s m #[(.long q1), (.long q2), (.int p3), (.int p4), (.int p5), (.int p6)] below meth c s₁ [] 0 0 := Stand.of_body Bd
  have e0 : s₁.heap = h0 := by rw [← hh, Bd.state]; rfl
  have N0 := Fr.nil n0
  have pre0 : ∀ τ, Steps p.tables e below (s₁.setTop (mkF m 0 #[.val (.long q1), .second, .val (.long q2), .second, .val (.int p3), .val (.int p4), .val (.int p5), .val (.int p6), .unset, .unset, .unset, .unset] [])) τ → Steps p.tables e below (s₁.setTop (entryFrame m #[(.long q1), (.long q2), (.int p3), (.int p4), (.int p5), (.int p6)] maxLocals)) τ := fun τ κ => castTop (ef_0 m q1 q2 p3 p4 p5 p6) κ
  obtain ⟨G, hG, pre⟩ : ∃ G : State → Prop, (∀ τ, G τ → Steps p.tables e below (s₁.setTop (entryFrame m #[(.long q1), (.long q2), (.int p3), (.int p4), (.int p5), (.int p6)] maxLocals)) τ) ∧ ∀ τ, Steps p.tables e below (s₁.setTop (mkF m 0 #[.val (.long q1), .second, .val (.long q2), .second, .val (.int p3), .val (.int p4), .val (.int p5), .val (.int p6), .unset, .unset, .unset, .unset] [])) τ → G τ := ⟨_, pre0, fun _ k => k⟩
  have Zn := Z0
  obtain ⟨T1, h1, X1, e1, E1, A1, D1, -, st1⟩ := newO X0 hx hZ hown (hw _ (List.mem_of_getElem? (i := 0) rfl)) (hw _ (List.mem_of_getElem? (i := 1) rfl)) (hw _ (List.mem_of_getElem? (i := 2) rfl)) e0 (g := (mkF m 0 #[.val (.long q1), .second, .val (.long q2), .second, .val (.int p3), .val (.int p4), .val (.int p5), .val (.int p6), .unset, .unset, .unset, .unset] [])) rfl (hb hby at_0) (by decide) (by decide)
  obtain ⟨b1, gg1⟩ : ∃ z, z = h0.size := ⟨_, rfl⟩
  rw [← gg1] at A1 D1 st1
  have g_b1 : n0 ≤ b1 := Nat.le_trans Zn (Nat.le_of_eq gg1.symm)
  have Zn : n0 ≤ h1.size := Nat.le_trans Zn E1.1
  have F_time_b1 : Fld Z h1 b1 "com/example/idlefleet/idlefleet/Request" "time" "J" (.long (0 : Int64)) := D1 (Or.inr (hw _ (List.mem_of_getElem? (i := 15) rfl))) (ty := .long) (by decide)
  have F_origin_b1 : Fld Z h1 b1 "com/example/idlefleet/idlefleet/Request" "origin" "I" (.int (0 : Int32)) := D1 (Or.inr (hw _ (List.mem_of_getElem? (i := 17) rfl))) (ty := .int) (by decide)
  have F_destination_b1 : Fld Z h1 b1 "com/example/idlefleet/idlefleet/Request" "destination" "I" (.int (0 : Int32)) := D1 (Or.inr (hw _ (List.mem_of_getElem? (i := 19) rfl))) (ty := .int) (by decide)
  have E_b1 := A1
  have pre : ∀ τ, Steps p.tables e below (T1.setTop (mkF m 3 #[.val (.long q1), .second, .val (.long q2), .second, .val (.int p3), .val (.int p4), .val (.int p5), .val (.int p6), .unset, .unset, .unset, .unset] [(.ref b1)])) τ → G τ := fun τ κ => pre τ (st1 τ κ)
  have pre : ∀ τ, Steps p.tables e below (T1.setTop (mkF m 9 #[.val (.long q1), .second, .val (.long q2), .second, .val (.int p3), .val (.int p4), .val (.int p5), .val (.int p6), .unset, .unset, .unset, .unset] [(.int p6), (.int p5), (.long q1), (.ref b1), (.ref b1)])) τ → G τ := fun τ κ => pre τ (by
    refine XS.dup X1.here hx rfl (hb hby at_3) rfl rfl ?_
    show Steps p.tables e below (T1.setTop (mkF m 4 #[.val (.long q1), .second, .val (.long q2), .second, .val (.int p3), .val (.int p4), .val (.int p5), .val (.int p6), .unset, .unset, .unset, .unset] [(.ref b1), (.ref b1)])) τ
    refine XS.lloadN X1.here hx rfl (hb hby at_4) rfl ?_
    show Steps p.tables e below (T1.setTop (mkF m 5 #[.val (.long q1), .second, .val (.long q2), .second, .val (.int p3), .val (.int p4), .val (.int p5), .val (.int p6), .unset, .unset, .unset, .unset] [(.long q1), (.ref b1), (.ref b1)])) τ
    refine XS.iload X1.here hx rfl (hb hby at_5) rfl ?_
    show Steps p.tables e below (T1.setTop (mkF m 7 #[.val (.long q1), .second, .val (.long q2), .second, .val (.int p3), .val (.int p4), .val (.int p5), .val (.int p6), .unset, .unset, .unset, .unset] [(.int p5), (.long q1), (.ref b1), (.ref b1)])) τ
    refine XS.iload X1.here hx rfl (hb hby at_7) rfl ?_
    show Steps p.tables e below (T1.setTop (mkF m 9 #[.val (.long q1), .second, .val (.long q2), .second, .val (.int p3), .val (.int p4), .val (.int p5), .val (.int p6), .unset, .unset, .unset, .unset] [(.int p6), (.int p5), (.long q1), (.ref b1), (.ref b1)])) τ
    exact κ)
  obtain ⟨_, _, ⟨T2, Lx2, kx2, nx2⟩, -, X2, ⟨Lc2, hQ2, l2, y2, z2⟩, st2⟩ := X1.specialBack hx (y := (⟨"com/example/idlefleet/idlefleet/Request", "<init>", "(JII)V"⟩ : MethodName)) rfl hown (mvT hZ (hw _ (List.mem_of_getElem? (i := 3) rfl))) (mvT hZ (hw _ (List.mem_of_getElem? (i := 4) rfl))) (mvT hZ (hw _ (List.mem_of_getElem? (i := 5) rfl))) (by decide) (backOf (W := 1) (rm1 l Z a0 hw [] b1 q1 p5 p6 (.long (0 : Int64)) (.int (0 : Int32)) (.int (0 : Int32)) h1 n0 Zn g_b1 E_b1 F_time_b1 F_origin_b1 F_destination_b1) hZ (hw _ (List.mem_of_getElem? (i := 5) rfl)) (hw _ (List.mem_of_getElem? (i := 2) rfl)) (by decide) (by decide)) (g := (mkF m 9 #[.val (.long q1), .second, .val (.long q2), .second, .val (.int p3), .val (.int p4), .val (.int p5), .val (.int p6), .unset, .unset, .unset, .unset] [(.int p6), (.int p5), (.long q1), (.ref b1), (.ref b1)])) rfl (by rw [hml]; rfl) (Steps.refl _) (a := b1) (argsL := [(.long q1), (.int p5), (.int p6)]) (rest := [(.ref b1)]) (lenOf pd_2 rfl) rfl (by show 2 * 0 + _ ≤ _; exact Nat.le_of_eq rfl) (hb hby at_9) (fun _ _ => ⟨rfl, e1, (by decide : 1 + 0 ≤ _), (by decide : 3 + 0 ≤ _)⟩)
  dsimp only [Pt.U, Pt.locs, Pt.cells, Pt.slots] at X2 l2 y2 z2 st2 hQ2
  subst l2 y2 z2
  obtain ⟨rfl, Nq2, Kc2, E_o_2, F_time_2, F_origin_2, F_destination_2⟩ := hQ2
  have NN := Fr.app N0 Nq2
  have E_b1 : Exa Z T2.heap b1 "com/example/idlefleet/idlefleet/Request" := E_b1.keep Kc2
  have Zn : n0 ≤ T2.heap.size := Nat.le_trans Zn Kc2.1
  have pre : ∀ τ, Steps p.tables e below (T2.setTop (mkF m 12 #[.val (.long q1), .second, .val (.long q2), .second, .val (.int p3), .val (.int p4), .val (.int p5), .val (.int p6), .unset, .unset, .unset, .unset] [(.ref b1)])) τ → G τ := fun τ κ => pre τ (st2.trans κ)
  have pre : ∀ τ, Steps p.tables e below (T2.setTop (mkF m 14 #[.val (.long q1), .second, .val (.long q2), .second, .val (.int p3), .val (.int p4), .val (.int p5), .val (.int p6), .val (.ref b1), .unset, .unset, .unset] [])) τ → G τ := fun τ κ => pre τ (by
    refine XS.astore X2.here hx rfl (hb hby at_12) rfl rfl (l' := #[.val (.long q1), .second, .val (.long q2), .second, .val (.int p3), .val (.int p4), .val (.int p5), .val (.int p6), .val (.ref b1), .unset, .unset, .unset]) rfl ?_
    show Steps p.tables e below (T2.setTop (mkF m 14 #[.val (.long q1), .second, .val (.long q2), .second, .val (.int p3), .val (.int p4), .val (.int p5), .val (.int p6), .val (.ref b1), .unset, .unset, .unset] [])) τ
    exact κ)
  obtain ⟨T3, h3, X3, e3, E3, A3, D3, -, st3⟩ := newO X2 hx hZ hown (hw _ (List.mem_of_getElem? (i := 20) rfl)) (hw _ (List.mem_of_getElem? (i := 21) rfl)) (hw _ (List.mem_of_getElem? (i := 22) rfl)) rfl (g := (mkF m 14 #[.val (.long q1), .second, .val (.long q2), .second, .val (.int p3), .val (.int p4), .val (.int p5), .val (.int p6), .val (.ref b1), .unset, .unset, .unset] [])) rfl (hb hby at_14) (by decide) (by decide)
  obtain ⟨b3, gg3⟩ : ∃ z, z = T2.heap.size := ⟨_, rfl⟩
  rw [← gg3] at A3 D3 st3
  have ne_b1_b3 : b1 ≠ b3 := Nat.ne_of_lt (Nat.lt_of_lt_of_le E_b1.lt (Nat.le_of_eq gg3.symm))
  have g_b3 : n0 ≤ b3 := Nat.le_trans Zn (Nat.le_of_eq gg3.symm)
  have E_b1 : Exa Z h3 b1 "com/example/idlefleet/idlefleet/Request" := E_b1.ext E3
  have E_o_2 : Exa Z h3 b1 "com/example/idlefleet/idlefleet/Request" := E_o_2.ext E3
  have F_time_2 : Fld Z h3 b1 "com/example/idlefleet/idlefleet/Request" "time" "J" (.long q1) := F_time_2.ext E3
  have F_origin_2 : Fld Z h3 b1 "com/example/idlefleet/idlefleet/Request" "origin" "I" (.int p5) := F_origin_2.ext E3
  have F_destination_2 : Fld Z h3 b1 "com/example/idlefleet/idlefleet/Request" "destination" "I" (.int p6) := F_destination_2.ext E3
  have Zn : n0 ≤ h3.size := Nat.le_trans Zn E3.1
  have F_request_b3 : Fld Z h3 b3 "com/example/idlefleet/idlefleet/Assignment" "request" "Lcom/example/idlefleet/idlefleet/Request;" .null := D3 (Or.inr (hw _ (List.mem_of_getElem? (i := 28) rfl))) (ty := (.object "com/example/idlefleet/idlefleet/Request")) (by decide)
  have F_vehicle_b3 : Fld Z h3 b3 "com/example/idlefleet/idlefleet/Assignment" "vehicle" "I" (.int (0 : Int32)) := D3 (Or.inr (hw _ (List.mem_of_getElem? (i := 30) rfl))) (ty := .int) (by decide)
  have F_pickup_b3 : Fld Z h3 b3 "com/example/idlefleet/idlefleet/Assignment" "pickup" "J" (.long (0 : Int64)) := D3 (Or.inr (hw _ (List.mem_of_getElem? (i := 32) rfl))) (ty := .long) (by decide)
  have F_occupiedTime_b3 : Fld Z h3 b3 "com/example/idlefleet/idlefleet/Assignment" "occupiedTime" "I" (.int (0 : Int32)) := D3 (Or.inr (hw _ (List.mem_of_getElem? (i := 34) rfl))) (ty := .int) (by decide)
  have E_b3 := A3
  have pre : ∀ τ, Steps p.tables e below (T3.setTop (mkF m 17 #[.val (.long q1), .second, .val (.long q2), .second, .val (.int p3), .val (.int p4), .val (.int p5), .val (.int p6), .val (.ref b1), .unset, .unset, .unset] [(.ref b3)])) τ → G τ := fun τ κ => pre τ (st3 τ κ)
  have pre : ∀ τ, Steps p.tables e below (T3.setTop (mkF m 25 #[.val (.long q1), .second, .val (.long q2), .second, .val (.int p3), .val (.int p4), .val (.int p5), .val (.int p6), .val (.ref b1), .unset, .unset, .unset] [(.int p4), (.long q2), (.int p3), (.ref b1), (.ref b3), (.ref b3)])) τ → G τ := fun τ κ => pre τ (by
    refine XS.dup X3.here hx rfl (hb hby at_17) rfl rfl ?_
    show Steps p.tables e below (T3.setTop (mkF m 18 #[.val (.long q1), .second, .val (.long q2), .second, .val (.int p3), .val (.int p4), .val (.int p5), .val (.int p6), .val (.ref b1), .unset, .unset, .unset] [(.ref b3), (.ref b3)])) τ
    refine XS.aload X3.here hx rfl (hb hby at_18) rfl rfl ?_
    show Steps p.tables e below (T3.setTop (mkF m 20 #[.val (.long q1), .second, .val (.long q2), .second, .val (.int p3), .val (.int p4), .val (.int p5), .val (.int p6), .val (.ref b1), .unset, .unset, .unset] [(.ref b1), (.ref b3), (.ref b3)])) τ
    refine XS.iload X3.here hx rfl (hb hby at_20) rfl ?_
    show Steps p.tables e below (T3.setTop (mkF m 22 #[.val (.long q1), .second, .val (.long q2), .second, .val (.int p3), .val (.int p4), .val (.int p5), .val (.int p6), .val (.ref b1), .unset, .unset, .unset] [(.int p3), (.ref b1), (.ref b3), (.ref b3)])) τ
    refine XS.lloadN X3.here hx rfl (hb hby at_22) rfl ?_
    show Steps p.tables e below (T3.setTop (mkF m 23 #[.val (.long q1), .second, .val (.long q2), .second, .val (.int p3), .val (.int p4), .val (.int p5), .val (.int p6), .val (.ref b1), .unset, .unset, .unset] [(.long q2), (.int p3), (.ref b1), (.ref b3), (.ref b3)])) τ
    refine XS.iload X3.here hx rfl (hb hby at_23) rfl ?_
    show Steps p.tables e below (T3.setTop (mkF m 25 #[.val (.long q1), .second, .val (.long q2), .second, .val (.int p3), .val (.int p4), .val (.int p5), .val (.int p6), .val (.ref b1), .unset, .unset, .unset] [(.int p4), (.long q2), (.int p3), (.ref b1), (.ref b3), (.ref b3)])) τ
    exact κ)
  obtain ⟨_, _, ⟨T4, Lx4, kx4, nx4⟩, -, X4, ⟨Lc4, hQ4, l4, y4, z4⟩, st4⟩ := X3.specialBack hx (y := (⟨"com/example/idlefleet/idlefleet/Assignment", "<init>", "(Lcom/example/idlefleet/idlefleet/Request;IJI)V"⟩ : MethodName)) rfl hown (mvT hZ (hw _ (List.mem_of_getElem? (i := 23) rfl))) (mvT hZ (hw _ (List.mem_of_getElem? (i := 24) rfl))) (mvT hZ (hw _ (List.mem_of_getElem? (i := 25) rfl))) (by decide) (backOf (W := 1) (rm4 l Z a0 hw [] b3 b1 p3 q2 p4 .null (.int (0 : Int32)) (.long (0 : Int64)) (.int (0 : Int32)) h3 n0 Zn g_b3 E_b3 F_request_b3 F_vehicle_b3 F_pickup_b3 F_occupiedTime_b3) hZ (hw _ (List.mem_of_getElem? (i := 25) rfl)) (hw _ (List.mem_of_getElem? (i := 22) rfl)) (by decide) (by decide)) (g := (mkF m 25 #[.val (.long q1), .second, .val (.long q2), .second, .val (.int p3), .val (.int p4), .val (.int p5), .val (.int p6), .val (.ref b1), .unset, .unset, .unset] [(.int p4), (.long q2), (.int p3), (.ref b1), (.ref b3), (.ref b3)])) rfl (by rw [hml]; rfl) (Steps.refl _) (a := b3) (argsL := [(.ref b1), (.int p3), (.long q2), (.int p4)]) (rest := [(.ref b3)]) (lenOf pd_3 rfl) rfl (by show 2 * 0 + _ ≤ _; exact Nat.le_of_eq rfl) (hb hby at_25) (fun _ _ => ⟨rfl, e3, (by decide : 2 + 0 ≤ _), (by decide : 7 + 0 ≤ _)⟩)
  dsimp only [Pt.U, Pt.locs, Pt.cells, Pt.slots] at X4 l4 y4 z4 st4 hQ4
  subst l4 y4 z4
  obtain ⟨rfl, Nq4, Kc4, E_o_4, F_request_4, F_vehicle_4, F_pickup_4, F_occupiedTime_4⟩ := hQ4
  have NN := Fr.app NN Nq4
  have E_b1 : Exa Z T4.heap b1 "com/example/idlefleet/idlefleet/Request" := E_b1.keep Kc4
  have E_o_2 : Exa Z T4.heap b1 "com/example/idlefleet/idlefleet/Request" := E_o_2.keep Kc4
  have F_time_2 : Fld Z T4.heap b1 "com/example/idlefleet/idlefleet/Request" "time" "J" (.long q1) := F_time_2.keep Kc4 (ninS ne_b1_b3 nin0)
  have F_origin_2 : Fld Z T4.heap b1 "com/example/idlefleet/idlefleet/Request" "origin" "I" (.int p5) := F_origin_2.keep Kc4 (ninS ne_b1_b3 nin0)
  have F_destination_2 : Fld Z T4.heap b1 "com/example/idlefleet/idlefleet/Request" "destination" "I" (.int p6) := F_destination_2.keep Kc4 (ninS ne_b1_b3 nin0)
  have E_b3 : Exa Z T4.heap b3 "com/example/idlefleet/idlefleet/Assignment" := E_b3.keep Kc4
  have Zn : n0 ≤ T4.heap.size := Nat.le_trans Zn Kc4.1
  have pre : ∀ τ, Steps p.tables e below (T4.setTop (mkF m 28 #[.val (.long q1), .second, .val (.long q2), .second, .val (.int p3), .val (.int p4), .val (.int p5), .val (.int p6), .val (.ref b1), .unset, .unset, .unset] [(.ref b3)])) τ → G τ := fun τ κ => pre τ (st4.trans κ)
  have pre : ∀ τ, Steps p.tables e below (T4.setTop (mkF m 32 #[.val (.long q1), .second, .val (.long q2), .second, .val (.int p3), .val (.int p4), .val (.int p5), .val (.int p6), .val (.ref b1), .val (.ref b3), .unset, .unset] [(.ref b3)])) τ → G τ := fun τ κ => pre τ (by
    refine XS.astore X4.here hx rfl (hb hby at_28) rfl rfl (l' := #[.val (.long q1), .second, .val (.long q2), .second, .val (.int p3), .val (.int p4), .val (.int p5), .val (.int p6), .val (.ref b1), .val (.ref b3), .unset, .unset]) rfl ?_
    show Steps p.tables e below (T4.setTop (mkF m 30 #[.val (.long q1), .second, .val (.long q2), .second, .val (.int p3), .val (.int p4), .val (.int p5), .val (.int p6), .val (.ref b1), .val (.ref b3), .unset, .unset] [])) τ
    refine XS.aload X4.here hx rfl (hb hby at_30) rfl rfl ?_
    show Steps p.tables e below (T4.setTop (mkF m 32 #[.val (.long q1), .second, .val (.long q2), .second, .val (.int p3), .val (.int p4), .val (.int p5), .val (.int p6), .val (.ref b1), .val (.ref b3), .unset, .unset] [(.ref b3)])) τ
    exact κ)
  obtain ⟨cq5, kq5, q5a, q5b, q5c⟩ := isOf hZ rfl E_b3
  obtain ⟨_, _, ⟨T5, Lx5, kx5, nx5⟩, -, X5, ⟨Lc5, hQ5, l5, y5, z5⟩, st5⟩ := X4.virtualBack hx (y := (⟨"com/example/idlefleet/idlefleet/Assignment", "waitTime", "()J"⟩ : MethodName)) (z := (⟨"com/example/idlefleet/idlefleet/Assignment", "waitTime", "()J"⟩ : MethodName)) hown (mvT hZ (hw _ (List.mem_of_getElem? (i := 35) rfl))) (mvT hZ (hw _ (List.mem_of_getElem? (i := 36) rfl))) (notFace_of_selects (args := #[]) (mvT hZ (hw _ (List.mem_of_getElem? (i := 38) rfl)))) (mvT hZ (hw _ (List.mem_of_getElem? (i := 38) rfl))) (mvT hZ (hw _ (List.mem_of_getElem? (i := 37) rfl))) (by decide) (backOf (W := 0) (rm5 l Z a0 hw [] b3 q2 b1 q1 T4.heap n0 Zn F_pickup_4 F_request_4 E_b1 F_time_2) hZ (hw _ (List.mem_of_getElem? (i := 39) rfl)) (hw _ (List.mem_of_getElem? (i := 22) rfl)) (by decide) (by decide)) q5a q5c (g := (mkF m 32 #[.val (.long q1), .second, .val (.long q2), .second, .val (.int p3), .val (.int p4), .val (.int p5), .val (.int p6), .val (.ref b1), .val (.ref b3), .unset, .unset] [(.ref b3)])) rfl (by rw [hml]; rfl) (Steps.refl _) (argsL := []) (rest := []) (lenOf pd_1 rfl) rfl (by show 2 * 0 + _ ≤ _; exact Nat.le_of_eq rfl) (hb hby at_32) (fun _ _ => ⟨rfl, rfl, (by decide : 2 + 0 ≤ _), (by decide : 7 + 0 ≤ _)⟩)
  dsimp only [Pt.U, Pt.locs, Pt.cells, Pt.slots] at X5 l5 y5 z5 st5 hQ5
  subst l5 y5 z5
  obtain ⟨rfl, Nq5, hs5⟩ := hQ5
  have NN := Fr.app NN Nq5
  have pre : ∀ τ, Steps p.tables e below (T5.setTop (mkF m 35 #[.val (.long q1), .second, .val (.long q2), .second, .val (.int p3), .val (.int p4), .val (.int p5), .val (.int p6), .val (.ref b1), .val (.ref b3), .unset, .unset] [(.long (q2 - q1))])) τ → G τ := fun τ κ => pre τ (st5.trans κ)
  have pre : ∀ τ, Steps p.tables e below (T5.setTop (mkF m 43 #[.val (.long q1), .second, .val (.long q2), .second, .val (.int p3), .val (.int p4), .val (.int p5), .val (.int p6), .val (.ref b1), .val (.ref b3), .val (.long (q2 - q1)), .second] [(.int (lcmpW ((q2 - q1) + q1) q2))])) τ → G τ := fun τ κ => pre τ (by
    refine XS.lstore X5.here hx rfl (hb hby at_35) rfl (l' := #[.val (.long q1), .second, .val (.long q2), .second, .val (.int p3), .val (.int p4), .val (.int p5), .val (.int p6), .val (.ref b1), .val (.ref b3), .val (.long (q2 - q1)), .second]) rfl ?_
    show Steps p.tables e below (T5.setTop (mkF m 37 #[.val (.long q1), .second, .val (.long q2), .second, .val (.int p3), .val (.int p4), .val (.int p5), .val (.int p6), .val (.ref b1), .val (.ref b3), .val (.long (q2 - q1)), .second] [])) τ
    refine XS.lload X5.here hx rfl (hb hby at_37) rfl ?_
    show Steps p.tables e below (T5.setTop (mkF m 39 #[.val (.long q1), .second, .val (.long q2), .second, .val (.int p3), .val (.int p4), .val (.int p5), .val (.int p6), .val (.ref b1), .val (.ref b3), .val (.long (q2 - q1)), .second] [(.long (q2 - q1))])) τ
    refine XS.lloadN X5.here hx rfl (hb hby at_39) rfl ?_
    show Steps p.tables e below (T5.setTop (mkF m 40 #[.val (.long q1), .second, .val (.long q2), .second, .val (.int p3), .val (.int p4), .val (.int p5), .val (.int p6), .val (.ref b1), .val (.ref b3), .val (.long (q2 - q1)), .second] [(.long q1), (.long (q2 - q1))])) τ
    refine XS.ladd X5.here hx rfl (hb hby at_40) rfl ?_
    show Steps p.tables e below (T5.setTop (mkF m 41 #[.val (.long q1), .second, .val (.long q2), .second, .val (.int p3), .val (.int p4), .val (.int p5), .val (.int p6), .val (.ref b1), .val (.ref b3), .val (.long (q2 - q1)), .second] [(.long ((q2 - q1) + q1))])) τ
    refine XS.lloadN X5.here hx rfl (hb hby at_41) rfl ?_
    show Steps p.tables e below (T5.setTop (mkF m 42 #[.val (.long q1), .second, .val (.long q2), .second, .val (.int p3), .val (.int p4), .val (.int p5), .val (.int p6), .val (.ref b1), .val (.ref b3), .val (.long (q2 - q1)), .second] [(.long q2), (.long ((q2 - q1) + q1))])) τ
    refine XS.lcmp X5.here hx rfl (hb hby at_42) rfl ?_
    show Steps p.tables e below (T5.setTop (mkF m 43 #[.val (.long q1), .second, .val (.long q2), .second, .val (.int p3), .val (.int p4), .val (.int p5), .val (.int p6), .val (.ref b1), .val (.ref b3), .val (.long (q2 - q1)), .second] [(.int (lcmpW ((q2 - q1) + q1) q2))])) τ
    exact κ)
  have hc6 : ((q2 - q1) + q1) = q2 := own_sub_add _ _
  have pre : ∀ τ, Steps p.tables e below (T5.setTop (mkF m 51 #[.val (.long q1), .second, .val (.long q2), .second, .val (.int p3), .val (.int p4), .val (.int p5), .val (.int p6), .val (.ref b1), .val (.ref b3), .val (.long (q2 - q1)), .second] [(.int (1 : Int32))])) τ → G τ := fun τ κ => pre τ (by
    refine XS.ifNo X5.here hx rfl (hb hby at_43) rfl ((if0 _ _).trans (teq ((lw_eq _ _).mpr hc6)).2) ?_
    show Steps p.tables e below (T5.setTop (mkF m 46 #[.val (.long q1), .second, .val (.long q2), .second, .val (.int p3), .val (.int p4), .val (.int p5), .val (.int p6), .val (.ref b1), .val (.ref b3), .val (.long (q2 - q1)), .second] [])) τ
    refine XS.iconst X5.here hx rfl (hb hby at_46) ?_
    show Steps p.tables e below (T5.setTop (mkF m 47 #[.val (.long q1), .second, .val (.long q2), .second, .val (.int p3), .val (.int p4), .val (.int p5), .val (.int p6), .val (.ref b1), .val (.ref b3), .val (.long (q2 - q1)), .second] [(.int (1 : Int32))])) τ
    refine XS.goto X5.here hx rfl (pc0 := 47) (pc' := 51) rfl (hb hby at_47) (by decide) (by decide) ?_
    show Steps p.tables e below (T5.setTop (mkF m 51 #[.val (.long q1), .second, .val (.long q2), .second, .val (.int p3), .val (.int p4), .val (.int p5), .val (.int p6), .val (.ref b1), .val (.ref b3), .val (.long (q2 - q1)), .second] [(.int (1 : Int32))])) τ
    exact κ)
  obtain ⟨fs, hr, hrun, hended, hW, hsame⟩ := X5.leave (v := some (.int (1 : Int32))) (fun h => by rw [Bd.returns] at h; cases h)
  refine hGL ⟨_, _, hG _ (pre _ ?_), hrun, hended, _, _, rfl, ?_, ⟨_, rfl⟩, hW, hsame.mono (by decide) (by decide)⟩
  · exact retN X5 hx (t := .boolean) Bd.returns (by simp) (hb hby at_51) hr
  · show Q0 Z q1 q2 p3 p4 p5 p6 h0 n0 _ T5.heap _
    rw [hs5]
    exact ⟨rfl, NN⟩
set_option maxRecDepth 65536 in
set_option maxHeartbeats 40000000 in
theorem comes_1 {Post : Tables → Env → Array Value → State → Outcome → State → Prop} (hpost : ∀ tb e args s v u, (limb_1_1.after args s (.returned v) u = true ∧ limb_1_2.after args s (.returned v) u = true ∧ True) → FrameEnd s (.returned v) u (Jvm.fieldLocs frame_1_writes args s ++ Jvm.arrayLocs frame_1_arrays args s ++ Jvm.staticLocs frame_1_statics s) 16 128 → Post tb e args s (.returned v) u) :
    ArmFor flags0 classFile x code maxLocals ret World_1 tables_1 room_1 Calls_1 rest_1 Pre_1 Post := by
  intro l hfl _ _ p e ha hc hk s m args below hf hA hF happ hP
  obtain ⟨hcalls, hrest, hpre⟩ := hP
  obtain ⟨-, -, -, hnamed, -, -, -, hat⟩ := (Spec.applies_iff hf).mp happ
  obtain ⟨hg, hn⟩ := and_e (Cond.before_iff.mp (show (Jvm.Cond.and given_1 narrow_1).before args s = true from hpre))
  obtain ⟨gv1, gv2⟩ := and_e hg
  obtain ⟨gv3, gv4⟩ := and_e gv2
  obtain ⟨gv5, gv6⟩ := and_e gv4
  obtain ⟨gv7, gv8⟩ := and_e gv6
  obtain ⟨gv9, gv10⟩ := and_e gv8
  obtain ⟨gv11, gv12⟩ := and_e gv10
  obtain ⟨w0, w1, w2, w3, w4, w5, rfl⟩ : ∃ w0 w1 w2 w3 w4 w5 : Value, args = #[w0, w1, w2, w3, w4, w5] := by
    have hs : args.size = 6 := by simpa [Cond.value, given_1] using gv1
    obtain ⟨L⟩ := args
    match L, hs with
    | [w0, w1, w2, w3, w4, w5], _ => exact ⟨w0, w1, w2, w3, w4, w5, rfl⟩
  have hw := fun d (hd : d ∈ tables_1) => atoms_spec (ws := Jvm.Cond.code x code maxLocals ret :: tables_1) hat d (List.mem_cons_of_mem _ hd)
  have hfit : Fit s := fun {y c} hc i hi => by
    obtain ⟨ha, rfl⟩ := Array.getElem?_eq_some_iff.mp hc
    have q := List.all_eq_true.mp ((Array.all_eq_true_iff_forall_mem.mp hF) _ (Array.getElem_mem ha)) i (List.mem_range.mpr hi)
    simpa [Array.getElem?_eq_getElem hi] using q
  obtain ⟨i0, ei0⟩ := isL_v gv3
  obtain rfl : w0 = (.long i0) := Option.some.inj ei0
  obtain ⟨i1, ei1⟩ := isL_v gv5
  obtain rfl : w1 = (.long i1) := Option.some.inj ei1
  obtain ⟨i2, ei2⟩ := is_v gv7
  obtain rfl : w2 = (.int i2) := Option.some.inj ei2
  obtain ⟨i3, ei3⟩ := is_v gv9
  obtain rfl : w3 = (.int i3) := Option.some.inj ei3
  obtain ⟨i4, ei4⟩ := is_v gv11
  obtain rfl : w4 = (.int i4) := Option.some.inj ei4
  obtain ⟨i5, ei5⟩ := is_v gv12
  obtain rfl : w5 = (.int i5) := Option.some.inj ei5
  obtain ⟨n, o, h1, h2, h3, _, L, rfl, ⟨rfl, N⟩, hq⟩ := rm0 l s _ hw tables_1 i0 i1 i2 i3 i4 i5  s.heap s.heap.size (Nat.le_refl _)  p e ha hc hk s m _ below hf ((Spec.applies_iff_loose hf).mp happ).1 ⟨rfl, State.Warmed39.refl s, rfl⟩ trivial
  refine ⟨n, _, h1, h2, h3, hpost _ _ _ _ _ _ ⟨Cond.after_iff.mpr rfl, Cond.after_iff.mpr (eq_i res_at (Term.int_eval (1)) rfl), trivial⟩ ⟨hq.1, hq.2.1, (hq.2.2.sift fun y hy => Or.inr (N y hy)).mono (by decide) (by decide)⟩⟩
theorem main_1_1 : Claimed_1_1 := comes_1 fun _ _ _ _ _ _ h hF => ⟨h.1, hF⟩
theorem main_1_2 : Claimed_1_2 := comes_1 fun _ _ _ _ _ _ h hF => ⟨h.2.1, hF⟩
end Jvm.Pilot.@@N@@
namespace Jvm.Pilot.@@N@@
open Jvm Jvm.ClassFile Sem Op Lib Jvm.Free Jvm.Stand Jvm.Pilot.@@N@@.Jvm.D
/-! MADE BY PROGRAM (witnessworld.py) out of the Statement's table words and the real class files: 11 classes; the members and pool entries that the words name. The judged class is class 1, her method 1. -/
namespace start1
open Jvm.ClassFile
def u (s : String) : CpInfo := .utf8 (stringToUtf16 s)
/-- a pool by its gaps: so many unusable entries, then the entry; so many at the end -/
def gap : Nat → List CpInfo → List CpInfo
  | 0, r => r
  | n + 1, r => .unusable :: gap n r
def poolList (es : List (Nat × CpInfo)) (last : Nat) : List CpInfo := es.foldr (fun e r => gap e.1 (e.2 :: r)) (gap last [])
def pool (es : List (Nat × CpInfo)) (last : Nat) : Array CpInfo := ⟨poolList es last⟩
def fileOf (pool : Array CpInfo) (this : Nat) (attrs : Array Attribute := #[]) (ms : Array MethodInfo := #[]) (fl : Nat := 33) (sup : Nat := 0) (ifs : Array Nat := #[]) (fds : Array FieldInfo := #[]) : ClassFile where
  minorVersion := 0
  majorVersion := 65
  constantPool := pool
  accessFlags := fl
  thisClass := this
  superClass := sup
  interfaces := ifs
  fields := fds
  methods := ms
  attributes := attrs
def plain (name : String) (sup : Option ClassId) : Class where
  name := name
  kind := .ordinary
  loader := none
  accessFlags := 33
  super := sup
  interfaces := #[]
  cf := none
  fields := #[]
  methods := #[]
  instanceTypes := #[]
  staticTypes := #[]
  resolved := #[]
  callSites := []
  init := .initialized
  statics := none
  mirror := none

def pool0 : Array CpInfo := pool [(5, u "<init>"), (0, u "()V"), (1, .class_ 10), (1, u "java/lang/Object")] 113

def k0c0 : Code := { maxStack := 0, maxLocals := 1, code := object_method_1_code, exceptionTable := #[], attributes := #[] }
def k0m0 : Method := { name := "<init>", desc := "()V", sig := { parameters := [], returnType := none }, accessFlags := 1, code := some k0c0 }
/-- java/lang/Object -/
def k0 : Class := { plain "java/lang/Object" none with
  accessFlags := 33
  interfaces := #[]
  cf := some (fileOf pool0 8 #[] #[{ accessFlags := 1, nameIndex := 5, descriptorIndex := 6, attributes := #[] }] 33 0 #[] #[])
  fields := #[]
  methods := #[k0m0]
  instanceTypes := #[]
  staticTypes := #[]
  resolved := Array.replicate 124 none
  statics := none }

def pool1 : Array CpInfo := pool [(2, .class_ 4), (1, u "java/lang/Object"), (0, u "<init>"), (0, u "()V"), (0, .class_ 8), (0, u "com/example/idlefleet/idlefleet/Request"), (0, .methodref 7 10), (0, .nameAndType 5 11), (0, u "(JII)V"), (0, .class_ 13), (0, u "com/example/idlefleet/idlefleet/Assignment"), (0, .methodref 12 15), (0, .nameAndType 5 16), (0, u "(Lcom/example/idlefleet/idlefleet/Request;IJI)V"), (0, .methodref 12 18), (0, .nameAndType 19 20), (0, u "waitTime"), (0, u "()J"), (0, .class_ 22), (0, u "com/example/idlefleet/idlefleet/AssignmentWaitTimePinLaw"), (2, u "law"), (0, u "(JJIIII)Z")] 3

def k1m0 : Method := { name := "<init>", desc := "()V", sig := { parameters := [], returnType := none }, accessFlags := 2, code := none }
def k1c1 : Code := { maxStack := 7, maxLocals := 12, code := code, exceptionTable := #[], attributes := #[] }
def k1m1 : Method := { name := "law", desc := "(JJIIII)Z", sig := { parameters := [.long, .long, .int, .int, .int, .int], returnType := some .boolean }, accessFlags := 9, code := some k1c1 }
/-- com/example/idlefleet/idlefleet/AssignmentWaitTimePinLaw -/
def k1 : Class := { plain "com/example/idlefleet/idlefleet/AssignmentWaitTimePinLaw" (some 0) with
  accessFlags := 49
  interfaces := #[]
  cf := some (fileOf pool1 21 #[] #[{ accessFlags := 2, nameIndex := 5, descriptorIndex := 6, attributes := #[] }, { accessFlags := 9, nameIndex := 25, descriptorIndex := 26, attributes := #[] }] 49 2 #[] #[])
  fields := #[]
  methods := #[k1m0, k1m1]
  instanceTypes := #[]
  staticTypes := #[]
  resolved := Array.replicate 30 none
  statics := none }

def pool2 : Array CpInfo := pool [(1, .methodref 2 3), (0, .class_ 4), (0, .nameAndType 5 6), (0, u "java/lang/Object"), (0, u "<init>"), (0, u "()V"), (0, .class_ 8), (0, u "java/lang/Record")] 13

def k2c0 : Code := { maxStack := 1, maxLocals := 1, code := jdk_30_method_1_code, exceptionTable := #[], attributes := #[] }
def k2m0 : Method := { name := "<init>", desc := "()V", sig := { parameters := [], returnType := none }, accessFlags := 4, code := some k2c0 }
/-- java/lang/Record -/
def k2 : Class := { plain "java/lang/Record" (some 0) with
  accessFlags := 1057
  interfaces := #[]
  cf := some (fileOf pool2 7 #[] #[{ accessFlags := 4, nameIndex := 5, descriptorIndex := 6, attributes := #[] }] 1057 2 #[] #[])
  fields := #[]
  methods := #[k2m0]
  instanceTypes := #[]
  staticTypes := #[]
  resolved := Array.replicate 22 none
  statics := none }

def pool3 : Array CpInfo := pool [(1, .methodref 2 3), (0, .class_ 4), (0, .nameAndType 5 6), (0, u "java/lang/Record"), (0, u "<init>"), (0, u "()V"), (0, .fieldref 8 9), (0, .class_ 10), (0, .nameAndType 11 12), (0, u "com/example/idlefleet/idlefleet/Request"), (0, u "time"), (0, u "J"), (0, .fieldref 8 14), (0, .nameAndType 15 16), (0, u "origin"), (0, u "I"), (0, .fieldref 8 18), (0, .nameAndType 19 16), (0, u "destination"), (38, u "(JII)V"), (47, u "HEADER"), (0, u "Ljava/lang/String;"), (15, u "()J")] 32

def k3c0 : Code := { maxStack := 3, maxLocals := 5, code := prog_18_method_1_code, exceptionTable := #[], attributes := #[] }
def k3m0 : Method := { name := "<init>", desc := "(JII)V", sig := { parameters := [.long, .int, .int], returnType := none }, accessFlags := 0, code := some k3c0 }
def k3c1 : Code := { maxStack := 2, maxLocals := 1, code := prog_18_method_7_code, exceptionTable := #[], attributes := #[] }
def k3m1 : Method := { name := "time", desc := "()J", sig := { parameters := [], returnType := some .long }, accessFlags := 1, code := some k3c1 }
/-- com/example/idlefleet/idlefleet/Request -/
def k3 : Class := { plain "com/example/idlefleet/idlefleet/Request" (some 2) with
  accessFlags := 48
  interfaces := #[]
  cf := some (fileOf pool3 8 #[] #[{ accessFlags := 0, nameIndex := 5, descriptorIndex := 58, attributes := #[] }, { accessFlags := 1, nameIndex := 11, descriptorIndex := 123, attributes := #[] }] 48 2 #[] #[{ accessFlags := 18, nameIndex := 11, descriptorIndex := 12, attributes := #[] }, { accessFlags := 18, nameIndex := 15, descriptorIndex := 16, attributes := #[] }, { accessFlags := 18, nameIndex := 19, descriptorIndex := 16, attributes := #[] }, { accessFlags := 26, nameIndex := 106, descriptorIndex := 107, attributes := #[] }])
  fields := #[{ name := "time", type := .long, accessFlags := 18, slot := 0, constantValue := 0 }, { name := "origin", type := .int, accessFlags := 18, slot := 1, constantValue := 0 }, { name := "destination", type := .int, accessFlags := 18, slot := 2, constantValue := 0 }, { name := "HEADER", type := (.object "java/lang/String"), accessFlags := 26, slot := 0, constantValue := 0 }]
  methods := #[k3m0, k3m1]
  instanceTypes := #[.long, .int, .int]
  staticTypes := #[(.object "java/lang/String")]
  resolved := Array.replicate 156 none
  statics := none }

def pool4 : Array CpInfo := pool [(1, .methodref 2 3), (0, .class_ 4), (0, .nameAndType 5 6), (0, u "java/lang/Record"), (0, u "<init>"), (0, u "()V"), (0, .fieldref 8 9), (0, .class_ 10), (0, .nameAndType 11 12), (0, u "com/example/idlefleet/idlefleet/Assignment"), (0, u "request"), (0, u "Lcom/example/idlefleet/idlefleet/Request;"), (0, .fieldref 8 14), (0, .nameAndType 15 16), (0, u "vehicle"), (0, u "I"), (0, .fieldref 8 18), (0, .nameAndType 19 20), (0, u "pickup"), (0, u "J"), (0, .fieldref 8 22), (0, .nameAndType 23 16), (0, u "occupiedTime"), (0, .methodref 25 26), (0, .class_ 27), (0, .nameAndType 28 29), (0, u "com/example/idlefleet/idlefleet/Request"), (0, u "time"), (0, u "()J"), (12, u "(Lcom/example/idlefleet/idlefleet/Request;IJI)V"), (3, u "waitTime")] 27

def k4c0 : Code := { maxStack := 3, maxLocals := 6, code := prog_1_method_1_code, exceptionTable := #[], attributes := #[] }
def k4m0 : Method := { name := "<init>", desc := "(Lcom/example/idlefleet/idlefleet/Request;IJI)V", sig := { parameters := [(.object "com/example/idlefleet/idlefleet/Request"), .int, .long, .int], returnType := none }, accessFlags := 0, code := some k4c0 }
def k4c1 : Code := { maxStack := 4, maxLocals := 1, code := prog_1_method_2_code, exceptionTable := #[], attributes := #[] }
def k4m1 : Method := { name := "waitTime", desc := "()J", sig := { parameters := [], returnType := some .long }, accessFlags := 0, code := some k4c1 }
/-- com/example/idlefleet/idlefleet/Assignment -/
def k4 : Class := { plain "com/example/idlefleet/idlefleet/Assignment" (some 2) with
  accessFlags := 48
  interfaces := #[]
  cf := some (fileOf pool4 8 #[] #[{ accessFlags := 0, nameIndex := 5, descriptorIndex := 42, attributes := #[] }, { accessFlags := 0, nameIndex := 46, descriptorIndex := 29, attributes := #[] }] 48 2 #[] #[{ accessFlags := 18, nameIndex := 11, descriptorIndex := 12, attributes := #[] }, { accessFlags := 18, nameIndex := 15, descriptorIndex := 16, attributes := #[] }, { accessFlags := 18, nameIndex := 19, descriptorIndex := 20, attributes := #[] }, { accessFlags := 18, nameIndex := 23, descriptorIndex := 16, attributes := #[] }])
  fields := #[{ name := "request", type := (.object "com/example/idlefleet/idlefleet/Request"), accessFlags := 18, slot := 0, constantValue := 0 }, { name := "vehicle", type := .int, accessFlags := 18, slot := 1, constantValue := 0 }, { name := "pickup", type := .long, accessFlags := 18, slot := 2, constantValue := 0 }, { name := "occupiedTime", type := .int, accessFlags := 18, slot := 3, constantValue := 0 }]
  methods := #[k4m0, k4m1]
  instanceTypes := #[(.object "com/example/idlefleet/idlefleet/Request"), .int, .long, .int]
  staticTypes := #[]
  resolved := Array.replicate 74 none
  statics := none }

def pool5 : Array CpInfo := pool [(1, u "java/lang/Cloneable"), (0, .class_ 1), (0, u "java/lang/Object"), (0, .class_ 3)] 3

/-- java/lang/Cloneable -/
def k5 : Class := { plain "java/lang/Cloneable" (some 0) with
  accessFlags := 1537
  interfaces := #[]
  cf := some (fileOf pool5 2 #[] #[] 1537 4 #[] #[])
  fields := #[]
  methods := #[]
  instanceTypes := #[]
  staticTypes := #[]
  resolved := Array.replicate 8 none
  statics := none }

def pool6 : Array CpInfo := pool [(1, u "java/io/Serializable"), (0, .class_ 1), (0, u "java/lang/Object"), (0, .class_ 3)] 3

/-- java/io/Serializable -/
def k6 : Class := { plain "java/io/Serializable" (some 0) with
  accessFlags := 1537
  interfaces := #[]
  cf := some (fileOf pool6 2 #[] #[] 1537 4 #[] #[])
  fields := #[]
  methods := #[]
  instanceTypes := #[]
  staticTypes := #[]
  resolved := Array.replicate 8 none
  statics := none }

/-- the primitive byte -/
def k7 : Class := { plain "byte" none with kind := .primitive 'B', accessFlags := 0x411 }
/-- [B -/
def k8 : Class := { plain "[B" (some 0) with kind := .array 7 .byte, interfaces := #[5, 6], accessFlags := 1041 }

/-- the primitive int -/
def k9 : Class := { plain "int" none with kind := .primitive 'I', accessFlags := 0x411 }
/-- [I -/
def k10 : Class := { plain "[I" (some 0) with kind := .array 9 .int, interfaces := #[5, 6], accessFlags := 1041 }

def heap : Heap := #[]
def classes : Array Class := #[k0, k1, k2, k3, k4, k5, k6, k7, k8, k9, k10]
def interned : List (Array UInt16 × Addr) := []
def slotsUsed : Nat := 0
def theMethod : MethodId := ⟨1, 1⟩
def args0 : Array Value := #[.long 5, .long 9, .int 1, .int 2, .int 3, .int 4]
def aboutOver (below : List Frame) : State where
  vm := { classes := classes, interned := interned.toArray }
  heap := heap
  slotsUsed := slotsUsed
  threads := #[{ frames := .invoking theMethod args0 :: below }]
def below0 : List Frame := [.native { method := ⟨0, 0⟩, args := #[] }]
def about1 : State := aboutOver below0
def p0 : Program := .bare "" "" ""
def e0 : Env := launch0.env 0 0 0
theorem w_frames : about1.frames = Frame.invoking theMethod args0 :: below0 := rfl
set_option maxRecDepth 65536 in
theorem w_args : argsFit about1.vm theMethod args0 = true := by decide +kernel
set_option maxRecDepth 65536 in
theorem w_heap : heapFits about1 = true := by decide +kernel
set_option maxRecDepth 65536 in
theorem w_runnable : about1.curStatus? = some .runnable := by decide +kernel
set_option maxRecDepth 65536 in
theorem w_alone : about1.alone = true := by decide +kernel
set_option maxRecDepth 65536 in
theorem w_named : about1.methodNamed? x = some theMethod := by decide +kernel
set_option maxRecDepth 65536 in
theorem w_hears : about1.hears theMethod below0 = true := by decide +kernel
set_option maxRecDepth 65536 in
theorem w_ripe : about1.ripe theMethod args0 below0 = true := by decide +kernel
theorem w_running : about1.status = .running := rfl
set_option maxRecDepth 65536 in
theorem w_room : about1.hasRoom e0.platform room_1 = true :=
  launch0.hasRoom_least _ room_1 (by decide +kernel) (by decide +kernel) (by decide +kernel) (by decide +kernel) (by decide +kernel) (by decide +kernel)
theorem allAtoms_all (ts : List Jvm.Cond) (a : Array Jvm.Value) (st : Jvm.State) : (allAtoms ts).before a st = ts.all (fun c => c.before a st) := by
  induction ts with
  | nil => rfl
  | cons c t ih =>
    show (Jvm.Cond.and c (allAtoms t)).before a st = _
    rw [Jvm.Cond.before_and, ih, List.all_cons]
def words1 : List Jvm.Cond := Jvm.Cond.code x code maxLocals ret :: tables_1
/-- a 'code' word, met by the world's own term for the bytes: nothing is compared byte by byte -/
theorem code_word {y : MethodName} {bytes : ByteArray} {mx : Nat} {rt : Option FieldType} {a : Array Value} {s : State} {m : MethodId} {meth : Method} {c : Code} (h1 : s.methodNamed? y = some m) (h2 : s.vm.method? m = some meth) (h3 : meth.code = some c) (h4 : c.code = bytes)
    (h5 : (c.maxLocals == mx && c.exceptionTable.isEmpty && decide (c.maxStack ≤ mostOperands) && decide (meth.sig.returnType = rt) && !meth.locks && decide (parseMethodDescriptor y.desc = some meth.sig)) = true) : (Jvm.Cond.code y bytes mx rt).before a s = true := by
  simp only [Bool.and_eq_true, beq_iff_eq, Bool.not_eq_true', decide_eq_true_eq] at h5
  obtain ⟨⟨⟨⟨⟨g1, g2⟩, g3⟩, g4⟩, g5⟩, g6⟩ := h5
  simp [Cond.before, Cond.holds, Cond.value, h1, h2, h3, h4, g1, g2, g3, g4, g5, g6]
def isCode : Jvm.Cond → Bool
  | .code _ _ _ _ => true
  | _ => false
theorem all_split {L : List Jvm.Cond} {P : Jvm.Cond → Bool} (h1 : L.all (fun c => isCode c || P c) = true) (h2 : ∀ c ∈ L.filter isCode, P c = true) : L.all P = true := by
  refine List.all_eq_true.mpr fun c hc => ?_
  have h := List.all_eq_true.mp h1 c hc
  rcases Bool.eq_false_or_eq_true (isCode c) with hi | hi
  · exact h2 c (List.mem_filter.mpr ⟨hc, hi⟩)
  · simpa [hi] using h
set_option maxRecDepth 65536 in
theorem w_c0 : (Jvm.Cond.code x code maxLocals ret).before args0 about1 = true := code_word (m := ⟨1, 1⟩) (meth := k1m1) (c := k1c1) (by decide +kernel) rfl rfl rfl (by decide +kernel)
set_option maxRecDepth 65536 in
theorem w_c1 : (Jvm.Cond.code ({ cls := "com/example/idlefleet/idlefleet/Request", name := "<init>", desc := "(JII)V" } : Jvm.MethodName) prog_18_method_1_code (5 : Nat) (Option.none : Option Jvm.ClassFile.FieldType)).before args0 about1 = true := code_word (m := ⟨3, 0⟩) (meth := k3m0) (c := k3c0) (by decide +kernel) rfl rfl rfl (by decide +kernel)
set_option maxRecDepth 65536 in
theorem w_c2 : (Jvm.Cond.code ({ cls := "java/lang/Record", name := "<init>", desc := "()V" } : Jvm.MethodName) jdk_30_method_1_code (1 : Nat) (Option.none : Option Jvm.ClassFile.FieldType)).before args0 about1 = true := code_word (m := ⟨2, 0⟩) (meth := k2m0) (c := k2c0) (by decide +kernel) rfl rfl rfl (by decide +kernel)
set_option maxRecDepth 65536 in
theorem w_c3 : (Jvm.Cond.code ({ cls := "java/lang/Object", name := "<init>", desc := "()V" } : Jvm.MethodName) object_method_1_code (1 : Nat) (Option.none : Option Jvm.ClassFile.FieldType)).before args0 about1 = true := code_word (m := ⟨0, 0⟩) (meth := k0m0) (c := k0c0) (by decide +kernel) rfl rfl rfl (by decide +kernel)
set_option maxRecDepth 65536 in
theorem w_c4 : (Jvm.Cond.code ({ cls := "com/example/idlefleet/idlefleet/Assignment", name := "<init>", desc := "(Lcom/example/idlefleet/idlefleet/Request;IJI)V" } : Jvm.MethodName) prog_1_method_1_code (6 : Nat) (Option.none : Option Jvm.ClassFile.FieldType)).before args0 about1 = true := code_word (m := ⟨4, 0⟩) (meth := k4m0) (c := k4c0) (by decide +kernel) rfl rfl rfl (by decide +kernel)
set_option maxRecDepth 65536 in
theorem w_c5 : (Jvm.Cond.code ({ cls := "com/example/idlefleet/idlefleet/Assignment", name := "waitTime", desc := "()J" } : Jvm.MethodName) prog_1_method_2_code (1 : Nat) (Option.some Jvm.ClassFile.FieldType.long)).before args0 about1 = true := code_word (m := ⟨4, 1⟩) (meth := k4m1) (c := k4c1) (by decide +kernel) rfl rfl rfl (by decide +kernel)
set_option maxRecDepth 65536 in
theorem w_c6 : (Jvm.Cond.code ({ cls := "com/example/idlefleet/idlefleet/Request", name := "time", desc := "()J" } : Jvm.MethodName) prog_18_method_7_code (1 : Nat) (Option.some Jvm.ClassFile.FieldType.long)).before args0 about1 = true := code_word (m := ⟨3, 1⟩) (meth := k3m1) (c := k3c1) (by decide +kernel) rfl rfl rfl (by decide +kernel)
def codes1 : List Jvm.Cond := [Jvm.Cond.code x code maxLocals ret, Jvm.Cond.code ({ cls := "com/example/idlefleet/idlefleet/Request", name := "<init>", desc := "(JII)V" } : Jvm.MethodName) prog_18_method_1_code (5 : Nat) (Option.none : Option Jvm.ClassFile.FieldType), Jvm.Cond.code ({ cls := "java/lang/Record", name := "<init>", desc := "()V" } : Jvm.MethodName) jdk_30_method_1_code (1 : Nat) (Option.none : Option Jvm.ClassFile.FieldType), Jvm.Cond.code ({ cls := "java/lang/Object", name := "<init>", desc := "()V" } : Jvm.MethodName) object_method_1_code (1 : Nat) (Option.none : Option Jvm.ClassFile.FieldType), Jvm.Cond.code ({ cls := "com/example/idlefleet/idlefleet/Assignment", name := "<init>", desc := "(Lcom/example/idlefleet/idlefleet/Request;IJI)V" } : Jvm.MethodName) prog_1_method_1_code (6 : Nat) (Option.none : Option Jvm.ClassFile.FieldType), Jvm.Cond.code ({ cls := "com/example/idlefleet/idlefleet/Assignment", name := "waitTime", desc := "()J" } : Jvm.MethodName) prog_1_method_2_code (1 : Nat) (Option.some Jvm.ClassFile.FieldType.long), Jvm.Cond.code ({ cls := "com/example/idlefleet/idlefleet/Request", name := "time", desc := "()J" } : Jvm.MethodName) prog_18_method_7_code (1 : Nat) (Option.some Jvm.ClassFile.FieldType.long)]
set_option maxRecDepth 65536 in
theorem codes_eq : words1.filter isCode = codes1 := rfl
theorem w_codes : ∀ c ∈ words1.filter isCode, c.before args0 about1 = true := by
  rw [codes_eq]
  intro c hc
  simp only [codes1, List.mem_cons, List.not_mem_nil, or_false] at hc
  rcases hc with rfl | rfl | rfl | rfl | rfl | rfl | rfl
  · exact w_c0
  · exact w_c1
  · exact w_c2
  · exact w_c3
  · exact w_c4
  · exact w_c5
  · exact w_c6
set_option maxRecDepth 65536 in
theorem w_t1 : (words1.take 24).all (fun c => isCode c || c.before args0 about1) = true := by decide +kernel
set_option maxRecDepth 65536 in
theorem w_t2 : (words1.drop 24).all (fun c => isCode c || c.before args0 about1) = true := by decide +kernel
theorem w_tables : (allAtoms (Jvm.Cond.code x code maxLocals ret :: tables_1)).before args0 about1 = true := by
  rw [allAtoms_all]
  show words1.all (fun c => c.before args0 about1) = true
  refine all_split ?_ w_codes
  rw [← List.take_append_drop 24 words1, List.all_append, w_t1, w_t2]
  rfl
set_option maxRecDepth 65536 in
theorem w_case : (Jvm.Cond.and given_1 narrow_1).before args0 about1 = true := by decide +kernel
theorem w_applies : (headSpec (Jvm.Cond.code x code maxLocals ret :: tables_1) room_1).applies x e0.platform about1 = true :=
  (Spec.applies_iff w_frames).mpr ⟨w_running, w_runnable, w_alone, w_named, w_hears, w_ripe, w_room, w_tables⟩
theorem atStart : AtStart classFile x code maxLocals ret World_1 tables_1 room_1 Calls_1 rest_1 Pre_1 launch0 p0 e0 about1 theMethod args0 below0 :=
  ⟨lists_1, trivial, launch0.admits_env _ _ _, launch0.least_env, fairChoices_fair.cas, fairChoices_fair.clock, w_frames, w_args, w_heap, w_applies, trivial, trivial, w_case⟩
end start1
theorem witness_1 : WitnessClaimed_1 := ⟨start1.p0, start1.e0, start1.about1, start1.theMethod, start1.args0, start1.below0, start1.atStart⟩
end Jvm.Pilot.@@N@@
