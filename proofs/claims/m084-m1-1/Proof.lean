import JvmDerived
import JvmDerived.Pilot.@@N@@Statement
import JvmDerived.Pilot.@@N@@Code
set_option linter.unusedVariables false
set_option linter.unusedSimpArgs false
namespace Jvm.Pilot.@@N@@
open Jvm Jvm.ClassFile Sem Op Lib Jvm.Free Jvm.Stand Jvm.LawKit Jvm.RoadKit Bundle Jvm.Pilot.@@N@@.Jvm.D
theorem own_wrap {A : Prop} (h : ∀ GL : Prop, (A → GL) → GL) : A := h A id
def own_exp (tk : Int32) (tl : Int64) : Int32 := if tk = 0 then (if tl < 0 then 0 else 1) else 0
theorem pn_0 : plainName "java/lang/Record" = true := by first | (simp [plainName, overriddenIn]; done) | decide +kernel
theorem d2_0 : decode jdk_30_method_1_code 0 = .ok (.aload_n 0, 1) := by decide +kernel
theorem d2_1 : decode jdk_30_method_1_code 1 = .ok (.invokespecial 1, 3) := by decide +kernel
theorem d2_4 : decode jdk_30_method_1_code 4 = .ok (.return_, 1) := by decide +kernel
theorem ef_2 (m : MethodId) (x0 : Addr) : entryFrame m #[(.ref x0)] 1 = mkF m 0 #[.val (.ref x0)] [] := by first | (simp [entryFrame, mkF, argsToLocals, Value.category]; done) | rfl
def Q2 (Z : State) (o : Addr) (h0 : Heap) (n0 : Nat) (vα : Option Value) (hα : Heap) (Lα : List Loc) : Prop := vα = none ∧ Fr n0 Lα ∧ hα = h0
set_option maxRecDepth 65536 in
set_option maxHeartbeats 40000000 in
theorem rm2 (l : Launch) (Z : State) (a0 : Array Value) (hw : ∀ d ∈ tables_1, d.before a0 Z = true) (ws : List Jvm.Cond) (o : Addr) (h0 : Heap) (n0 : Nat) (Z0 : n0 ≤ h0.size) :
    MetFree l (⟨"java/lang/Record", "<init>", "()V"⟩ : MethodName) (head1 (Jvm.Cond.code (⟨"java/lang/Record", "<init>", "()V"⟩ : MethodName) jdk_30_method_1_code 1 none :: ws) ({ frames := 1, cells := 0, slots := 0, locals := 12 } : Room)) (fun aα U => aα = #[(.ref o)] ∧ Z.Warmed39 U.vm ∧ U.heap = h0) (fun _ _ _ _ _ => True) (fun _ U oα U' => ∃ vα Lα, oα = .returned vα ∧ Q2 Z o h0 n0 vα U'.heap Lα ∧ FrameEnd U oα U' Lα ({ frames := 1, cells := 0, slots := 0, locals := 12 } : Room).cells ({ frames := 1, cells := 0, slots := 0, locals := 12 } : Room).slots) := by
  refine MetFree.of_bodySF (plainFor_of_name pn_0) hisR ?_
  intro p e s m args below meth c s₁ Bd hml0 hP hK
  refine own_wrap ?_
  intro GL hGL
  obtain ⟨rfl, hZ, hh⟩ := hP
  have hx := Bd.exec
  have hby := Bd.bytes
  have hml : c.maxLocals = 1 := hml0
  have hown : s.vm.findClass "java/lang/Record" = some m.cls := findClass_of_methodNamed Bd.named
  have hnm := (name_of_methodNamed Bd.named Bd.method).1
  have X0 : Stand p l e ({ frames := 1, cells := 0, slots := 0, locals := 12 } : Room) s m #[(.ref o)] below meth c s₁ [] 0 0 := Stand.of_body Bd
  have e0 : s₁.heap = h0 := by rw [← hh, Bd.state]; rfl
  have N0 := Fr.nil n0
  have pre0 : ∀ τ, Steps p.tables e below (s₁.setTop (mkF m 0 #[.val (.ref o)] [])) τ → Steps p.tables e below (s₁.setTop (entryFrame m #[(.ref o)] 1)) τ := fun τ κ => castTop (ef_2 m o) κ
  obtain ⟨G, hG, pre⟩ : ∃ G : State → Prop, (∀ τ, G τ → Steps p.tables e below (s₁.setTop (entryFrame m #[(.ref o)] 1)) τ) ∧ ∀ τ, Steps p.tables e below (s₁.setTop (mkF m 0 #[.val (.ref o)] [])) τ → G τ := ⟨_, pre0, fun _ k => k⟩
  have K : Keep h0 h0 [] := Keep.refl h0 _
  have Zn := Z0
  have pre : ∀ τ, Steps p.tables e below (s₁.setTop (mkF m 1 #[.val (.ref o)] [(.ref o)])) τ → G τ := fun τ κ => pre τ (by
    refine XS.aloadN X0.here hx rfl (hb hby d2_0) rfl rfl ?_
    show Steps p.tables e below (s₁.setTop (mkF m 1 #[.val (.ref o)] [(.ref o)])) τ
    exact κ)
  obtain ⟨T1, X1, e1, st1⟩ := initO X0 hx hZ hown (hw _ (List.mem_of_getElem? (i := 11) rfl)) (hw _ (List.mem_of_getElem? (i := 12) rfl)) (hw _ (List.mem_of_getElem? (i := 13) rfl)) e0 (g := (mkF m 1 #[.val (.ref o)] [(.ref o)])) rfl (by rw [hml]; rfl) rfl (hb hby d2_1) (by decide) (W := 0) (by show 2 * 0 + _ ≤ _; exact Nat.le_of_eq rfl) (by decide)
  have pre : ∀ τ, Steps p.tables e below (T1.setTop (mkF m 4 #[.val (.ref o)] [])) τ → G τ := fun τ κ => pre τ (st1 τ κ)
  obtain ⟨fs, hr, hrun, hended, hW, hsame⟩ := X1.leave (v := none) (fun _ => rfl)
  refine hGL ⟨_, _, hG _ (pre _ ?_), hrun, hended, _, _, rfl, ?_, ⟨_, rfl⟩, hW, hsame.mono (by decide) (by decide)⟩
  · exact X1.returnOut hx Bd.returns (hb hby d2_4) hr
  · show Q2 Z o h0 n0 _ T1.heap _
    rw [e1]
    exact ⟨rfl, N0, rfl⟩
theorem pn_1 : plainName "com/example/neti/neti/Take" = true := by first | (simp [plainName, overriddenIn]; done) | decide +kernel
theorem d1_0 : decode prog_4_method_1_code 0 = .ok (.aload_n 0, 1) := by decide +kernel
theorem d1_1 : decode prog_4_method_1_code 1 = .ok (.invokespecial 1, 3) := by decide +kernel
theorem pd_0 : parseMethodDescriptor "()V" = some ⟨[], none⟩ := by decide +kernel
theorem d1_4 : decode prog_4_method_1_code 4 = .ok (.aload_n 0, 1) := by decide +kernel
theorem d1_5 : decode prog_4_method_1_code 5 = .ok (.iload_n 1, 1) := by decide +kernel
theorem d1_6 : decode prog_4_method_1_code 6 = .ok (.putfield 7, 3) := by decide +kernel
theorem d1_9 : decode prog_4_method_1_code 9 = .ok (.aload_n 0, 1) := by decide +kernel
theorem d1_10 : decode prog_4_method_1_code 10 = .ok (.lload_n 2, 1) := by decide +kernel
theorem d1_11 : decode prog_4_method_1_code 11 = .ok (.putfield 13, 3) := by decide +kernel
theorem d1_14 : decode prog_4_method_1_code 14 = .ok (.aload_n 0, 1) := by decide +kernel
theorem d1_15 : decode prog_4_method_1_code 15 = .ok (.lload 4, 2) := by decide +kernel
theorem d1_17 : decode prog_4_method_1_code 17 = .ok (.putfield 17, 3) := by decide +kernel
theorem d1_20 : decode prog_4_method_1_code 20 = .ok (.aload_n 0, 1) := by decide +kernel
theorem d1_21 : decode prog_4_method_1_code 21 = .ok (.lload 6, 2) := by decide +kernel
theorem d1_23 : decode prog_4_method_1_code 23 = .ok (.putfield 20, 3) := by decide +kernel
theorem d1_26 : decode prog_4_method_1_code 26 = .ok (.aload_n 0, 1) := by decide +kernel
theorem d1_27 : decode prog_4_method_1_code 27 = .ok (.lload 8, 2) := by decide +kernel
theorem d1_29 : decode prog_4_method_1_code 29 = .ok (.putfield 23, 3) := by decide +kernel
theorem d1_32 : decode prog_4_method_1_code 32 = .ok (.return_, 1) := by decide +kernel
theorem ef_1 (m : MethodId) (x0 : Addr) (x1 : Int32) (x2 : Int64) (x3 : Int64) (x4 : Int64) (x5 : Int64) : entryFrame m #[(.ref x0), (.int x1), (.long x2), (.long x3), (.long x4), (.long x5)] 10 = mkF m 0 #[.val (.ref x0), .val (.int x1), .val (.long x2), .second, .val (.long x3), .second, .val (.long x4), .second, .val (.long x5), .second] [] := by first | (simp [entryFrame, mkF, argsToLocals, Value.category]; done) | rfl
def Q1 (Z : State) (o : Addr) (tk : Int32) (ft : Int64) (dl : Int64) (tl : Int64) (bo : Int64) (u_taken : Value) (u_fencingToken : Value) (u_deadline : Value) (u_timeToLiveMillis : Value) (u_backoffNanos : Value) (h0 : Heap) (n0 : Nat) (vα : Option Value) (hα : Heap) (Lα : List Loc) : Prop := vα = none ∧ Fr n0 Lα ∧ Keep h0 hα [o] ∧ Exa Z hα o "com/example/neti/neti/Take" ∧ Fld Z hα o "com/example/neti/neti/Take" "taken" "Z" (.int (nar .boolean tk)) ∧ Fld Z hα o "com/example/neti/neti/Take" "fencingToken" "J" (.long ft) ∧ Fld Z hα o "com/example/neti/neti/Take" "deadline" "J" (.long dl) ∧ Fld Z hα o "com/example/neti/neti/Take" "timeToLiveMillis" "J" (.long tl) ∧ Fld Z hα o "com/example/neti/neti/Take" "backoffNanos" "J" (.long bo)
set_option maxRecDepth 65536 in
set_option maxHeartbeats 40000000 in
theorem rm1 (l : Launch) (Z : State) (a0 : Array Value) (hw : ∀ d ∈ tables_1, d.before a0 Z = true) (ws : List Jvm.Cond) (o : Addr) (tk : Int32) (ft : Int64) (dl : Int64) (tl : Int64) (bo : Int64) (u_taken : Value) (u_fencingToken : Value) (u_deadline : Value) (u_timeToLiveMillis : Value) (u_backoffNanos : Value) (h0 : Heap) (n0 : Nat) (Z0 : n0 ≤ h0.size) (g_o : n0 ≤ o) (E_o : Exa Z h0 o "com/example/neti/neti/Take") (F_taken : Fld Z h0 o "com/example/neti/neti/Take" "taken" "Z" u_taken) (F_fencingToken : Fld Z h0 o "com/example/neti/neti/Take" "fencingToken" "J" u_fencingToken) (F_deadline : Fld Z h0 o "com/example/neti/neti/Take" "deadline" "J" u_deadline) (F_timeToLiveMillis : Fld Z h0 o "com/example/neti/neti/Take" "timeToLiveMillis" "J" u_timeToLiveMillis) (F_backoffNanos : Fld Z h0 o "com/example/neti/neti/Take" "backoffNanos" "J" u_backoffNanos) :
    MetFree l (⟨"com/example/neti/neti/Take", "<init>", "(ZJJJJ)V"⟩ : MethodName) (head1 (Jvm.Cond.code (⟨"com/example/neti/neti/Take", "<init>", "(ZJJJJ)V"⟩ : MethodName) prog_4_method_1_code 10 none :: ws) ({ frames := 2, cells := 0, slots := 0, locals := 24 } : Room)) (fun aα U => aα = #[(.ref o), (.int tk), (.long ft), (.long dl), (.long tl), (.long bo)] ∧ Z.Warmed39 U.vm ∧ U.heap = h0) (fun _ _ _ _ _ => True) (fun _ U oα U' => ∃ vα Lα, oα = .returned vα ∧ Q1 Z o tk ft dl tl bo u_taken u_fencingToken u_deadline u_timeToLiveMillis u_backoffNanos h0 n0 vα U'.heap Lα ∧ FrameEnd U oα U' Lα ({ frames := 2, cells := 0, slots := 0, locals := 24 } : Room).cells ({ frames := 2, cells := 0, slots := 0, locals := 24 } : Room).slots) := by
  refine MetFree.of_bodySF (plainFor_of_name pn_1) hisR ?_
  intro p e s m args below meth c s₁ Bd hml0 hP hK
  refine own_wrap ?_
  intro GL hGL
  obtain ⟨rfl, hZ, hh⟩ := hP
  have hx := Bd.exec
  have hby := Bd.bytes
  have hml : c.maxLocals = 10 := hml0
  have hown : s.vm.findClass "com/example/neti/neti/Take" = some m.cls := findClass_of_methodNamed Bd.named
  have hnm := (name_of_methodNamed Bd.named Bd.method).1
  have X0 : Stand p l e ({ frames := 2, cells := 0, slots := 0, locals := 24 } : Room) s m #[(.ref o), (.int tk), (.long ft), (.long dl), (.long tl), (.long bo)] below meth c s₁ [] 0 0 := Stand.of_body Bd
  have e0 : s₁.heap = h0 := by rw [← hh, Bd.state]; rfl
  have N0 := Fr.nil n0
  have pre0 : ∀ τ, Steps p.tables e below (s₁.setTop (mkF m 0 #[.val (.ref o), .val (.int tk), .val (.long ft), .second, .val (.long dl), .second, .val (.long tl), .second, .val (.long bo), .second] [])) τ → Steps p.tables e below (s₁.setTop (entryFrame m #[(.ref o), (.int tk), (.long ft), (.long dl), (.long tl), (.long bo)] 10)) τ := fun τ κ => castTop (ef_1 m o tk ft dl tl bo) κ
  obtain ⟨G, hG, pre⟩ : ∃ G : State → Prop, (∀ τ, G τ → Steps p.tables e below (s₁.setTop (entryFrame m #[(.ref o), (.int tk), (.long ft), (.long dl), (.long tl), (.long bo)] 10)) τ) ∧ ∀ τ, Steps p.tables e below (s₁.setTop (mkF m 0 #[.val (.ref o), .val (.int tk), .val (.long ft), .second, .val (.long dl), .second, .val (.long tl), .second, .val (.long bo), .second] [])) τ → G τ := ⟨_, pre0, fun _ k => k⟩
  have K : Keep h0 h0 [o] := Keep.refl h0 _
  have Zn := Z0
  have pre : ∀ τ, Steps p.tables e below (s₁.setTop (mkF m 1 #[.val (.ref o), .val (.int tk), .val (.long ft), .second, .val (.long dl), .second, .val (.long tl), .second, .val (.long bo), .second] [(.ref o)])) τ → G τ := fun τ κ => pre τ (by
    refine XS.aloadN X0.here hx rfl (hb hby d1_0) rfl rfl ?_
    show Steps p.tables e below (s₁.setTop (mkF m 1 #[.val (.ref o), .val (.int tk), .val (.long ft), .second, .val (.long dl), .second, .val (.long tl), .second, .val (.long bo), .second] [(.ref o)])) τ
    exact κ)
  obtain ⟨_, _, ⟨T1, Lx1, kx1, nx1⟩, -, X1, ⟨Lc1, hQ1, l1, y1, z1⟩, st1⟩ := X0.specialBack hx (y := (⟨"java/lang/Record", "<init>", "()V"⟩ : MethodName)) rfl hown (mvT hZ (hw _ (List.mem_of_getElem? (i := 6) rfl))) (mvT hZ (hw _ (List.mem_of_getElem? (i := 7) rfl))) (mvT hZ (hw _ (List.mem_of_getElem? (i := 10) rfl))) (by decide) (backOf (W := 0) (rm2 l Z a0 hw [] o h0 n0 Zn) hZ (hw _ (List.mem_of_getElem? (i := 10) rfl)) (hw _ (List.mem_of_getElem? (i := 9) rfl)) (by decide) (by decide)) (g := (mkF m 1 #[.val (.ref o), .val (.int tk), .val (.long ft), .second, .val (.long dl), .second, .val (.long tl), .second, .val (.long bo), .second] [(.ref o)])) rfl (by rw [hml]; rfl) (Steps.refl _) (a := o) (argsL := []) (rest := []) (lenOf pd_0 rfl) rfl (by show 2 * 0 + _ ≤ _; exact Nat.le_of_eq rfl) (hb hby d1_1) (fun _ _ => ⟨rfl, e0, (by decide : 0 + 0 ≤ _), (by decide : 0 + 0 ≤ _)⟩)
  dsimp only [Pt.U, Pt.locs, Pt.cells, Pt.slots] at X1 l1 y1 z1 st1 hQ1
  subst l1 y1 z1
  obtain ⟨rfl, Nq1, hs1⟩ := hQ1
  have NN := Fr.app N0 Nq1
  have pre : ∀ τ, Steps p.tables e below (T1.setTop (mkF m 4 #[.val (.ref o), .val (.int tk), .val (.long ft), .second, .val (.long dl), .second, .val (.long tl), .second, .val (.long bo), .second] [])) τ → G τ := fun τ κ => pre τ (st1.trans κ)
  have pre : ∀ τ, Steps p.tables e below (T1.setTop (mkF m 6 #[.val (.ref o), .val (.int tk), .val (.long ft), .second, .val (.long dl), .second, .val (.long tl), .second, .val (.long bo), .second] [(.int tk), (.ref o)])) τ → G τ := fun τ κ => pre τ (by
    refine XS.aloadN X1.here hx rfl (hb hby d1_4) rfl rfl ?_
    show Steps p.tables e below (T1.setTop (mkF m 5 #[.val (.ref o), .val (.int tk), .val (.long ft), .second, .val (.long dl), .second, .val (.long tl), .second, .val (.long bo), .second] [(.ref o)])) τ
    refine XS.iloadN X1.here hx rfl (hb hby d1_5) rfl ?_
    show Steps p.tables e below (T1.setTop (mkF m 6 #[.val (.ref o), .val (.int tk), .val (.long ft), .second, .val (.long dl), .second, .val (.long tl), .second, .val (.long bo), .second] [(.int tk), (.ref o)])) τ
    exact κ)
  obtain ⟨T2, h2, X2, e2, W2, st2⟩ := putFN X1 hx hZ hown (hw _ (List.mem_of_getElem? (i := 14) rfl)) Via.refl hs1 F_taken E_o (Or.inr ⟨(hw _ (List.mem_of_getElem? (i := 15) rfl)), rfl, hnm⟩) (hw _ (List.mem_of_getElem? (i := 1) rfl)) (ty := .boolean) (v' := (.int (nar .boolean tk))) (by decide) rfl (fits_nar_bool _) (g := (mkF m 6 #[.val (.ref o), .val (.int tk), .val (.long ft), .second, .val (.long dl), .second, .val (.long tl), .second, .val (.long bo), .second] [(.int tk), (.ref o)])) rfl rfl (hb hby d1_6)
  have F_taken : Fld Z h2 o "com/example/neti/neti/Take" "taken" "Z" (.int (nar .boolean tk)) := F_taken.same W2
  have E_o : Exa Z h2 o "com/example/neti/neti/Take" := E_o.wr W2
  have F_fencingToken : Fld Z h2 o "com/example/neti/neti/Take" "fencingToken" "J" u_fencingToken := F_fencingToken.other W2 (Or.inr (slot_ne (Or.inr (hw _ (List.mem_of_getElem? (i := 17) rfl))) (Or.inr (hw _ (List.mem_of_getElem? (i := 15) rfl))) (by decide) (t := .long) (t' := .boolean) (by decide) (by decide)))
  have F_deadline : Fld Z h2 o "com/example/neti/neti/Take" "deadline" "J" u_deadline := F_deadline.other W2 (Or.inr (slot_ne (Or.inr (hw _ (List.mem_of_getElem? (i := 19) rfl))) (Or.inr (hw _ (List.mem_of_getElem? (i := 15) rfl))) (by decide) (t := .long) (t' := .boolean) (by decide) (by decide)))
  have F_timeToLiveMillis : Fld Z h2 o "com/example/neti/neti/Take" "timeToLiveMillis" "J" u_timeToLiveMillis := F_timeToLiveMillis.other W2 (Or.inr (slot_ne (Or.inr (hw _ (List.mem_of_getElem? (i := 21) rfl))) (Or.inr (hw _ (List.mem_of_getElem? (i := 15) rfl))) (by decide) (t := .long) (t' := .boolean) (by decide) (by decide)))
  have F_backoffNanos : Fld Z h2 o "com/example/neti/neti/Take" "backoffNanos" "J" u_backoffNanos := F_backoffNanos.other W2 (Or.inr (slot_ne (Or.inr (hw _ (List.mem_of_getElem? (i := 23) rfl))) (Or.inr (hw _ (List.mem_of_getElem? (i := 15) rfl))) (by decide) (t := .long) (t' := .boolean) (by decide) (by decide)))
  have Zn : n0 ≤ h2.size := Nat.le_trans Zn (Keep.of_wr W2).1
  have K : Keep h0 h2 [o] := K.wr W2 (Or.inl (List.mem_of_getElem? (i := 0) rfl))
  have NN := Fr.snoc X2 NN g_o
  have pre : ∀ τ, Steps p.tables e below (T2.setTop (mkF m 9 #[.val (.ref o), .val (.int tk), .val (.long ft), .second, .val (.long dl), .second, .val (.long tl), .second, .val (.long bo), .second] [])) τ → G τ := fun τ κ => pre τ (st2 τ κ)
  have pre : ∀ τ, Steps p.tables e below (T2.setTop (mkF m 11 #[.val (.ref o), .val (.int tk), .val (.long ft), .second, .val (.long dl), .second, .val (.long tl), .second, .val (.long bo), .second] [(.long ft), (.ref o)])) τ → G τ := fun τ κ => pre τ (by
    refine XS.aloadN X2.here hx rfl (hb hby d1_9) rfl rfl ?_
    show Steps p.tables e below (T2.setTop (mkF m 10 #[.val (.ref o), .val (.int tk), .val (.long ft), .second, .val (.long dl), .second, .val (.long tl), .second, .val (.long bo), .second] [(.ref o)])) τ
    refine XS.lloadN X2.here hx rfl (hb hby d1_10) rfl ?_
    show Steps p.tables e below (T2.setTop (mkF m 11 #[.val (.ref o), .val (.int tk), .val (.long ft), .second, .val (.long dl), .second, .val (.long tl), .second, .val (.long bo), .second] [(.long ft), (.ref o)])) τ
    exact κ)
  obtain ⟨T3, h3, X3, e3, W3, st3⟩ := putF X2 hx hZ hown (host := "") (Or.inl (hw _ (List.mem_of_getElem? (i := 16) rfl))) Via.refl e2 F_fencingToken E_o (Or.inr ⟨(hw _ (List.mem_of_getElem? (i := 17) rfl)), rfl, hnm⟩) (hw _ (List.mem_of_getElem? (i := 1) rfl)) (ty := .long) (by decide) rfl rfl (g := (mkF m 11 #[.val (.ref o), .val (.int tk), .val (.long ft), .second, .val (.long dl), .second, .val (.long tl), .second, .val (.long bo), .second] [(.long ft), (.ref o)])) rfl rfl (hb hby d1_11)
  have F_fencingToken : Fld Z h3 o "com/example/neti/neti/Take" "fencingToken" "J" (.long ft) := F_fencingToken.same W3
  have E_o : Exa Z h3 o "com/example/neti/neti/Take" := E_o.wr W3
  have F_taken : Fld Z h3 o "com/example/neti/neti/Take" "taken" "Z" (.int (nar .boolean tk)) := F_taken.other W3 (Or.inr (slot_ne (Or.inr (hw _ (List.mem_of_getElem? (i := 15) rfl))) (Or.inr (hw _ (List.mem_of_getElem? (i := 17) rfl))) (by decide) (t := .boolean) (t' := .long) (by decide) (by decide)))
  have F_deadline : Fld Z h3 o "com/example/neti/neti/Take" "deadline" "J" u_deadline := F_deadline.other W3 (Or.inr (slot_ne (Or.inr (hw _ (List.mem_of_getElem? (i := 19) rfl))) (Or.inr (hw _ (List.mem_of_getElem? (i := 17) rfl))) (by decide) (t := .long) (t' := .long) (by decide) (by decide)))
  have F_timeToLiveMillis : Fld Z h3 o "com/example/neti/neti/Take" "timeToLiveMillis" "J" u_timeToLiveMillis := F_timeToLiveMillis.other W3 (Or.inr (slot_ne (Or.inr (hw _ (List.mem_of_getElem? (i := 21) rfl))) (Or.inr (hw _ (List.mem_of_getElem? (i := 17) rfl))) (by decide) (t := .long) (t' := .long) (by decide) (by decide)))
  have F_backoffNanos : Fld Z h3 o "com/example/neti/neti/Take" "backoffNanos" "J" u_backoffNanos := F_backoffNanos.other W3 (Or.inr (slot_ne (Or.inr (hw _ (List.mem_of_getElem? (i := 23) rfl))) (Or.inr (hw _ (List.mem_of_getElem? (i := 17) rfl))) (by decide) (t := .long) (t' := .long) (by decide) (by decide)))
  have Zn : n0 ≤ h3.size := Nat.le_trans Zn (Keep.of_wr W3).1
  have K : Keep h0 h3 [o] := K.wr W3 (Or.inl (List.mem_of_getElem? (i := 0) rfl))
  have NN := Fr.snoc X3 NN g_o
  have pre : ∀ τ, Steps p.tables e below (T3.setTop (mkF m 14 #[.val (.ref o), .val (.int tk), .val (.long ft), .second, .val (.long dl), .second, .val (.long tl), .second, .val (.long bo), .second] [])) τ → G τ := fun τ κ => pre τ (st3 τ κ)
  have pre : ∀ τ, Steps p.tables e below (T3.setTop (mkF m 17 #[.val (.ref o), .val (.int tk), .val (.long ft), .second, .val (.long dl), .second, .val (.long tl), .second, .val (.long bo), .second] [(.long dl), (.ref o)])) τ → G τ := fun τ κ => pre τ (by
    refine XS.aloadN X3.here hx rfl (hb hby d1_14) rfl rfl ?_
    show Steps p.tables e below (T3.setTop (mkF m 15 #[.val (.ref o), .val (.int tk), .val (.long ft), .second, .val (.long dl), .second, .val (.long tl), .second, .val (.long bo), .second] [(.ref o)])) τ
    refine XS.lload X3.here hx rfl (hb hby d1_15) rfl ?_
    show Steps p.tables e below (T3.setTop (mkF m 17 #[.val (.ref o), .val (.int tk), .val (.long ft), .second, .val (.long dl), .second, .val (.long tl), .second, .val (.long bo), .second] [(.long dl), (.ref o)])) τ
    exact κ)
  obtain ⟨T4, h4, X4, e4, W4, st4⟩ := putF X3 hx hZ hown (host := "") (Or.inl (hw _ (List.mem_of_getElem? (i := 18) rfl))) Via.refl e3 F_deadline E_o (Or.inr ⟨(hw _ (List.mem_of_getElem? (i := 19) rfl)), rfl, hnm⟩) (hw _ (List.mem_of_getElem? (i := 1) rfl)) (ty := .long) (by decide) rfl rfl (g := (mkF m 17 #[.val (.ref o), .val (.int tk), .val (.long ft), .second, .val (.long dl), .second, .val (.long tl), .second, .val (.long bo), .second] [(.long dl), (.ref o)])) rfl rfl (hb hby d1_17)
  have F_deadline : Fld Z h4 o "com/example/neti/neti/Take" "deadline" "J" (.long dl) := F_deadline.same W4
  have E_o : Exa Z h4 o "com/example/neti/neti/Take" := E_o.wr W4
  have F_taken : Fld Z h4 o "com/example/neti/neti/Take" "taken" "Z" (.int (nar .boolean tk)) := F_taken.other W4 (Or.inr (slot_ne (Or.inr (hw _ (List.mem_of_getElem? (i := 15) rfl))) (Or.inr (hw _ (List.mem_of_getElem? (i := 19) rfl))) (by decide) (t := .boolean) (t' := .long) (by decide) (by decide)))
  have F_fencingToken : Fld Z h4 o "com/example/neti/neti/Take" "fencingToken" "J" (.long ft) := F_fencingToken.other W4 (Or.inr (slot_ne (Or.inr (hw _ (List.mem_of_getElem? (i := 17) rfl))) (Or.inr (hw _ (List.mem_of_getElem? (i := 19) rfl))) (by decide) (t := .long) (t' := .long) (by decide) (by decide)))
  have F_timeToLiveMillis : Fld Z h4 o "com/example/neti/neti/Take" "timeToLiveMillis" "J" u_timeToLiveMillis := F_timeToLiveMillis.other W4 (Or.inr (slot_ne (Or.inr (hw _ (List.mem_of_getElem? (i := 21) rfl))) (Or.inr (hw _ (List.mem_of_getElem? (i := 19) rfl))) (by decide) (t := .long) (t' := .long) (by decide) (by decide)))
  have F_backoffNanos : Fld Z h4 o "com/example/neti/neti/Take" "backoffNanos" "J" u_backoffNanos := F_backoffNanos.other W4 (Or.inr (slot_ne (Or.inr (hw _ (List.mem_of_getElem? (i := 23) rfl))) (Or.inr (hw _ (List.mem_of_getElem? (i := 19) rfl))) (by decide) (t := .long) (t' := .long) (by decide) (by decide)))
  have Zn : n0 ≤ h4.size := Nat.le_trans Zn (Keep.of_wr W4).1
  have K : Keep h0 h4 [o] := K.wr W4 (Or.inl (List.mem_of_getElem? (i := 0) rfl))
  have NN := Fr.snoc X4 NN g_o
  have pre : ∀ τ, Steps p.tables e below (T4.setTop (mkF m 20 #[.val (.ref o), .val (.int tk), .val (.long ft), .second, .val (.long dl), .second, .val (.long tl), .second, .val (.long bo), .second] [])) τ → G τ := fun τ κ => pre τ (st4 τ κ)
  have pre : ∀ τ, Steps p.tables e below (T4.setTop (mkF m 23 #[.val (.ref o), .val (.int tk), .val (.long ft), .second, .val (.long dl), .second, .val (.long tl), .second, .val (.long bo), .second] [(.long tl), (.ref o)])) τ → G τ := fun τ κ => pre τ (by
    refine XS.aloadN X4.here hx rfl (hb hby d1_20) rfl rfl ?_
    show Steps p.tables e below (T4.setTop (mkF m 21 #[.val (.ref o), .val (.int tk), .val (.long ft), .second, .val (.long dl), .second, .val (.long tl), .second, .val (.long bo), .second] [(.ref o)])) τ
    refine XS.lload X4.here hx rfl (hb hby d1_21) rfl ?_
    show Steps p.tables e below (T4.setTop (mkF m 23 #[.val (.ref o), .val (.int tk), .val (.long ft), .second, .val (.long dl), .second, .val (.long tl), .second, .val (.long bo), .second] [(.long tl), (.ref o)])) τ
    exact κ)
  obtain ⟨T5, h5, X5, e5, W5, st5⟩ := putF X4 hx hZ hown (host := "") (Or.inl (hw _ (List.mem_of_getElem? (i := 20) rfl))) Via.refl e4 F_timeToLiveMillis E_o (Or.inr ⟨(hw _ (List.mem_of_getElem? (i := 21) rfl)), rfl, hnm⟩) (hw _ (List.mem_of_getElem? (i := 1) rfl)) (ty := .long) (by decide) rfl rfl (g := (mkF m 23 #[.val (.ref o), .val (.int tk), .val (.long ft), .second, .val (.long dl), .second, .val (.long tl), .second, .val (.long bo), .second] [(.long tl), (.ref o)])) rfl rfl (hb hby d1_23)
  have F_timeToLiveMillis : Fld Z h5 o "com/example/neti/neti/Take" "timeToLiveMillis" "J" (.long tl) := F_timeToLiveMillis.same W5
  have E_o : Exa Z h5 o "com/example/neti/neti/Take" := E_o.wr W5
  have F_taken : Fld Z h5 o "com/example/neti/neti/Take" "taken" "Z" (.int (nar .boolean tk)) := F_taken.other W5 (Or.inr (slot_ne (Or.inr (hw _ (List.mem_of_getElem? (i := 15) rfl))) (Or.inr (hw _ (List.mem_of_getElem? (i := 21) rfl))) (by decide) (t := .boolean) (t' := .long) (by decide) (by decide)))
  have F_fencingToken : Fld Z h5 o "com/example/neti/neti/Take" "fencingToken" "J" (.long ft) := F_fencingToken.other W5 (Or.inr (slot_ne (Or.inr (hw _ (List.mem_of_getElem? (i := 17) rfl))) (Or.inr (hw _ (List.mem_of_getElem? (i := 21) rfl))) (by decide) (t := .long) (t' := .long) (by decide) (by decide)))
  have F_deadline : Fld Z h5 o "com/example/neti/neti/Take" "deadline" "J" (.long dl) := F_deadline.other W5 (Or.inr (slot_ne (Or.inr (hw _ (List.mem_of_getElem? (i := 19) rfl))) (Or.inr (hw _ (List.mem_of_getElem? (i := 21) rfl))) (by decide) (t := .long) (t' := .long) (by decide) (by decide)))
  have F_backoffNanos : Fld Z h5 o "com/example/neti/neti/Take" "backoffNanos" "J" u_backoffNanos := F_backoffNanos.other W5 (Or.inr (slot_ne (Or.inr (hw _ (List.mem_of_getElem? (i := 23) rfl))) (Or.inr (hw _ (List.mem_of_getElem? (i := 21) rfl))) (by decide) (t := .long) (t' := .long) (by decide) (by decide)))
  have Zn : n0 ≤ h5.size := Nat.le_trans Zn (Keep.of_wr W5).1
  have K : Keep h0 h5 [o] := K.wr W5 (Or.inl (List.mem_of_getElem? (i := 0) rfl))
  have NN := Fr.snoc X5 NN g_o
  have pre : ∀ τ, Steps p.tables e below (T5.setTop (mkF m 26 #[.val (.ref o), .val (.int tk), .val (.long ft), .second, .val (.long dl), .second, .val (.long tl), .second, .val (.long bo), .second] [])) τ → G τ := fun τ κ => pre τ (st5 τ κ)
  have pre : ∀ τ, Steps p.tables e below (T5.setTop (mkF m 29 #[.val (.ref o), .val (.int tk), .val (.long ft), .second, .val (.long dl), .second, .val (.long tl), .second, .val (.long bo), .second] [(.long bo), (.ref o)])) τ → G τ := fun τ κ => pre τ (by
    refine XS.aloadN X5.here hx rfl (hb hby d1_26) rfl rfl ?_
    show Steps p.tables e below (T5.setTop (mkF m 27 #[.val (.ref o), .val (.int tk), .val (.long ft), .second, .val (.long dl), .second, .val (.long tl), .second, .val (.long bo), .second] [(.ref o)])) τ
    refine XS.lload X5.here hx rfl (hb hby d1_27) rfl ?_
    show Steps p.tables e below (T5.setTop (mkF m 29 #[.val (.ref o), .val (.int tk), .val (.long ft), .second, .val (.long dl), .second, .val (.long tl), .second, .val (.long bo), .second] [(.long bo), (.ref o)])) τ
    exact κ)
  obtain ⟨T6, h6, X6, e6, W6, st6⟩ := putF X5 hx hZ hown (host := "") (Or.inl (hw _ (List.mem_of_getElem? (i := 22) rfl))) Via.refl e5 F_backoffNanos E_o (Or.inr ⟨(hw _ (List.mem_of_getElem? (i := 23) rfl)), rfl, hnm⟩) (hw _ (List.mem_of_getElem? (i := 1) rfl)) (ty := .long) (by decide) rfl rfl (g := (mkF m 29 #[.val (.ref o), .val (.int tk), .val (.long ft), .second, .val (.long dl), .second, .val (.long tl), .second, .val (.long bo), .second] [(.long bo), (.ref o)])) rfl rfl (hb hby d1_29)
  have F_backoffNanos : Fld Z h6 o "com/example/neti/neti/Take" "backoffNanos" "J" (.long bo) := F_backoffNanos.same W6
  have E_o : Exa Z h6 o "com/example/neti/neti/Take" := E_o.wr W6
  have F_taken : Fld Z h6 o "com/example/neti/neti/Take" "taken" "Z" (.int (nar .boolean tk)) := F_taken.other W6 (Or.inr (slot_ne (Or.inr (hw _ (List.mem_of_getElem? (i := 15) rfl))) (Or.inr (hw _ (List.mem_of_getElem? (i := 23) rfl))) (by decide) (t := .boolean) (t' := .long) (by decide) (by decide)))
  have F_fencingToken : Fld Z h6 o "com/example/neti/neti/Take" "fencingToken" "J" (.long ft) := F_fencingToken.other W6 (Or.inr (slot_ne (Or.inr (hw _ (List.mem_of_getElem? (i := 17) rfl))) (Or.inr (hw _ (List.mem_of_getElem? (i := 23) rfl))) (by decide) (t := .long) (t' := .long) (by decide) (by decide)))
  have F_deadline : Fld Z h6 o "com/example/neti/neti/Take" "deadline" "J" (.long dl) := F_deadline.other W6 (Or.inr (slot_ne (Or.inr (hw _ (List.mem_of_getElem? (i := 19) rfl))) (Or.inr (hw _ (List.mem_of_getElem? (i := 23) rfl))) (by decide) (t := .long) (t' := .long) (by decide) (by decide)))
  have F_timeToLiveMillis : Fld Z h6 o "com/example/neti/neti/Take" "timeToLiveMillis" "J" (.long tl) := F_timeToLiveMillis.other W6 (Or.inr (slot_ne (Or.inr (hw _ (List.mem_of_getElem? (i := 21) rfl))) (Or.inr (hw _ (List.mem_of_getElem? (i := 23) rfl))) (by decide) (t := .long) (t' := .long) (by decide) (by decide)))
  have Zn : n0 ≤ h6.size := Nat.le_trans Zn (Keep.of_wr W6).1
  have K : Keep h0 h6 [o] := K.wr W6 (Or.inl (List.mem_of_getElem? (i := 0) rfl))
  have NN := Fr.snoc X6 NN g_o
  have pre : ∀ τ, Steps p.tables e below (T6.setTop (mkF m 32 #[.val (.ref o), .val (.int tk), .val (.long ft), .second, .val (.long dl), .second, .val (.long tl), .second, .val (.long bo), .second] [])) τ → G τ := fun τ κ => pre τ (st6 τ κ)
  obtain ⟨fs, hr, hrun, hended, hW, hsame⟩ := X6.leave (v := none) (fun _ => rfl)
  refine hGL ⟨_, _, hG _ (pre _ ?_), hrun, hended, _, _, rfl, ?_, ⟨_, rfl⟩, hW, hsame.mono (by decide) (by decide)⟩
  · exact X6.returnOut hx Bd.returns (hb hby d1_32) hr
  · show Q1 Z o tk ft dl tl bo u_taken u_fencingToken u_deadline u_timeToLiveMillis u_backoffNanos h0 n0 _ T6.heap _
    rw [e6]
    exact ⟨rfl, NN, K, E_o, F_taken, F_fencingToken, F_deadline, F_timeToLiveMillis, F_backoffNanos⟩
theorem d4_0 : decode prog_4_method_6_code 0 = .ok (.aload_n 0, 1) := by decide +kernel
theorem d4_1 : decode prog_4_method_6_code 1 = .ok (.getfield 7, 3) := by decide +kernel
theorem d4_4 : decode prog_4_method_6_code 4 = .ok (.ifCond .ne 16, 3) := by decide +kernel
theorem d4_7 : decode prog_4_method_6_code 7 = .ok (.aload_n 0, 1) := by decide +kernel
theorem d4_8 : decode prog_4_method_6_code 8 = .ok (.getfield 20, 3) := by decide +kernel
theorem d4_11 : decode prog_4_method_6_code 11 = .ok (.lconst 0, 1) := by decide +kernel
theorem d4_12 : decode prog_4_method_6_code 12 = .ok (.lcmp, 1) := by decide +kernel
theorem d4_13 : decode prog_4_method_6_code 13 = .ok (.ifCond .lt 7, 3) := by decide +kernel
theorem d4_20 : decode prog_4_method_6_code 20 = .ok (.iconst 0, 1) := by decide +kernel
theorem d4_21 : decode prog_4_method_6_code 21 = .ok (.ireturn, 1) := by decide +kernel
theorem d4_16 : decode prog_4_method_6_code 16 = .ok (.iconst 1, 1) := by decide +kernel
theorem d4_17 : decode prog_4_method_6_code 17 = .ok (.goto 4, 3) := by decide +kernel
theorem ef_4 (m : MethodId) (x0 : Addr) : entryFrame m #[(.ref x0)] 1 = mkF m 0 #[.val (.ref x0)] [] := by first | (simp [entryFrame, mkF, argsToLocals, Value.category]; done) | rfl
def Q4 (Z : State) (o : Addr) (tk : Int32) (tl : Int64) (h0 : Heap) (n0 : Nat) (vα : Option Value) (hα : Heap) (Lα : List Loc) : Prop := vα = some (.int (own_exp tk tl)) ∧ Fr n0 Lα ∧ hα = h0
set_option maxRecDepth 65536 in
set_option maxHeartbeats 40000000 in
theorem rm4 (l : Launch) (Z : State) (a0 : Array Value) (hw : ∀ d ∈ tables_1, d.before a0 Z = true) (ws : List Jvm.Cond) (o : Addr) (tk : Int32) (tl : Int64) (h0 : Heap) (n0 : Nat) (Z0 : n0 ≤ h0.size) (F_taken : Fld Z h0 o "com/example/neti/neti/Take" "taken" "Z" (.int tk)) (F_ttl : Fld Z h0 o "com/example/neti/neti/Take" "timeToLiveMillis" "J" (.long tl)) :
    MetFree l (⟨"com/example/neti/neti/Take", "expires", "()Z"⟩ : MethodName) (head1 (Jvm.Cond.code (⟨"com/example/neti/neti/Take", "expires", "()Z"⟩ : MethodName) prog_4_method_6_code 1 (some .boolean) :: ws) ({ frames := 0, cells := 0, slots := 0, locals := 0 } : Room)) (fun aα U => aα = #[(.ref o)] ∧ Z.Warmed39 U.vm ∧ U.heap = h0) (fun _ _ _ _ _ => True) (fun _ U oα U' => ∃ vα Lα, oα = .returned vα ∧ Q4 Z o tk tl h0 n0 vα U'.heap Lα ∧ FrameEnd U oα U' Lα ({ frames := 0, cells := 0, slots := 0, locals := 0 } : Room).cells ({ frames := 0, cells := 0, slots := 0, locals := 0 } : Room).slots) := by
  refine MetFree.of_bodySF (plainFor_of_name pn_1) hisR ?_
  intro p e s m args below meth c s₁ Bd hml0 hP hK
  refine own_wrap ?_
  intro GL hGL
  obtain ⟨rfl, hZ, hh⟩ := hP
  have hx := Bd.exec
  have hby := Bd.bytes
  have hml : c.maxLocals = 1 := hml0
  have hown : s.vm.findClass "com/example/neti/neti/Take" = some m.cls := findClass_of_methodNamed Bd.named
  have hnm := (name_of_methodNamed Bd.named Bd.method).1
  have X0 : Stand p l e ({ frames := 0, cells := 0, slots := 0, locals := 0 } : Room) s m #[(.ref o)] below meth c s₁ [] 0 0 := Stand.of_body Bd
  have e0 : s₁.heap = h0 := by rw [← hh, Bd.state]; rfl
  have N0 := Fr.nil n0
  have pre0 : ∀ τ, Steps p.tables e below (s₁.setTop (mkF m 0 #[.val (.ref o)] [])) τ → Steps p.tables e below (s₁.setTop (entryFrame m #[(.ref o)] 1)) τ := fun τ κ => castTop (ef_4 m o) κ
  obtain ⟨G, hG, pre⟩ : ∃ G : State → Prop, (∀ τ, G τ → Steps p.tables e below (s₁.setTop (entryFrame m #[(.ref o)] 1)) τ) ∧ ∀ τ, Steps p.tables e below (s₁.setTop (mkF m 0 #[.val (.ref o)] [])) τ → G τ := ⟨_, pre0, fun _ k => k⟩
  have K : Keep h0 h0 [] := Keep.refl h0 _
  have Zn := Z0
  have pre : ∀ τ, Steps p.tables e below (s₁.setTop (mkF m 1 #[.val (.ref o)] [(.ref o)])) τ → G τ := fun τ κ => pre τ (by
    refine XS.aloadN X0.here hx rfl (hb hby d4_0) rfl rfl ?_
    show Steps p.tables e below (s₁.setTop (mkF m 1 #[.val (.ref o)] [(.ref o)])) τ
    exact κ)
  obtain ⟨T1, X1, e1, st1⟩ := getF X0 hx hZ hown (host := "") (Or.inl (hw _ (List.mem_of_getElem? (i := 14) rfl))) Via.refl e0 F_taken (g := (mkF m 1 #[.val (.ref o)] [(.ref o)])) rfl rfl (hb hby d4_1)
  have pre : ∀ τ, Steps p.tables e below (T1.setTop (mkF m 4 #[.val (.ref o)] [(.int tk)])) τ → G τ := fun τ κ => pre τ (st1 τ κ)
  rcases Classical.em (tk = (0 : Int32)) with hc4_2 | hc4_2
  ·
    have pre : ∀ τ, Steps p.tables e below (T1.setTop (mkF m 8 #[.val (.ref o)] [(.ref o)])) τ → G τ := fun τ κ => pre τ (by
      refine XS.ifNo X1.here hx rfl (hb hby d4_4) rfl ((if0 _ _).trans (teq hc4_2).2) ?_
      show Steps p.tables e below (T1.setTop (mkF m 7 #[.val (.ref o)] [])) τ
      refine XS.aloadN X1.here hx rfl (hb hby d4_7) rfl rfl ?_
      show Steps p.tables e below (T1.setTop (mkF m 8 #[.val (.ref o)] [(.ref o)])) τ
      exact κ)
    obtain ⟨T3, X3, e3, st3⟩ := getF X1 hx hZ hown (host := "") (Or.inl (hw _ (List.mem_of_getElem? (i := 20) rfl))) Via.refl e1 F_ttl (g := (mkF m 8 #[.val (.ref o)] [(.ref o)])) rfl rfl (hb hby d4_8)
    have pre : ∀ τ, Steps p.tables e below (T3.setTop (mkF m 11 #[.val (.ref o)] [(.long tl)])) τ → G τ := fun τ κ => pre τ (st3 τ κ)
    have pre : ∀ τ, Steps p.tables e below (T3.setTop (mkF m 13 #[.val (.ref o)] [(.int (lcmpW tl (0 : Int64)))])) τ → G τ := fun τ κ => pre τ (by
      refine XS.lconst X3.here hx rfl (hb hby d4_11) ?_
      show Steps p.tables e below (T3.setTop (mkF m 12 #[.val (.ref o)] [(.long (0 : Int64)), (.long tl)])) τ
      refine XS.lcmp X3.here hx rfl (hb hby d4_12) rfl ?_
      show Steps p.tables e below (T3.setTop (mkF m 13 #[.val (.ref o)] [(.int (lcmpW tl (0 : Int64)))])) τ
      exact κ)
    rcases Classical.em (tl < (0 : Int64)) with hc13_4 | hc13_4
    ·
      have pre : ∀ τ, Steps p.tables e below (T3.setTop (mkF m 21 #[.val (.ref o)] [(.int (0 : Int32))])) τ → G τ := fun τ κ => pre τ (by
        refine XS.ifYes X3.here hx rfl (pc0 := 13) (pc' := 20) rfl (hb hby d4_13) rfl ((if0 _ _).trans (tlt ((lw_lt _ _).mpr hc13_4)).1) (by decide) (by decide) ?_
        show Steps p.tables e below (T3.setTop (mkF m 20 #[.val (.ref o)] [])) τ
        refine XS.iconst X3.here hx rfl (hb hby d4_20) ?_
        show Steps p.tables e below (T3.setTop (mkF m 21 #[.val (.ref o)] [(.int (0 : Int32))])) τ
        exact κ)
      obtain ⟨fs, hr, hrun, hended, hW, hsame⟩ := X3.leave (v := some (.int (0 : Int32))) (fun h => by rw [Bd.returns] at h; cases h)
      refine hGL ⟨_, _, hG _ (pre _ ?_), hrun, hended, _, _, rfl, ?_, ⟨_, rfl⟩, hW, hsame.mono (by decide) (by decide)⟩
      · exact retN X3 hx (t := .boolean) Bd.returns (by simp) (hb hby d4_21) hr
      · show Q4 Z o tk tl h0 n0 _ T3.heap _
        rw [e3]
        refine ⟨?_, N0, rfl⟩
        simp [own_exp, hc4_2, hc13_4]
    ·
      have pre : ∀ τ, Steps p.tables e below (T3.setTop (mkF m 21 #[.val (.ref o)] [(.int (1 : Int32))])) τ → G τ := fun τ κ => pre τ (by
        refine XS.ifNo X3.here hx rfl (hb hby d4_13) rfl ((if0 _ _).trans (flt (fun q => hc13_4 ((lw_lt _ _).mp q))).1) ?_
        show Steps p.tables e below (T3.setTop (mkF m 16 #[.val (.ref o)] [])) τ
        refine XS.iconst X3.here hx rfl (hb hby d4_16) ?_
        show Steps p.tables e below (T3.setTop (mkF m 17 #[.val (.ref o)] [(.int (1 : Int32))])) τ
        refine XS.goto X3.here hx rfl (pc0 := 17) (pc' := 21) rfl (hb hby d4_17) (by decide) (by decide) ?_
        show Steps p.tables e below (T3.setTop (mkF m 21 #[.val (.ref o)] [(.int (1 : Int32))])) τ
        exact κ)
      obtain ⟨fs, hr, hrun, hended, hW, hsame⟩ := X3.leave (v := some (.int (1 : Int32))) (fun h => by rw [Bd.returns] at h; cases h)
      refine hGL ⟨_, _, hG _ (pre _ ?_), hrun, hended, _, _, rfl, ?_, ⟨_, rfl⟩, hW, hsame.mono (by decide) (by decide)⟩
      · exact retN X3 hx (t := .boolean) Bd.returns (by simp) (hb hby d4_21) hr
      · show Q4 Z o tk tl h0 n0 _ T3.heap _
        rw [e3]
        refine ⟨?_, N0, rfl⟩
        simp [own_exp, hc4_2, hc13_4]
  ·
    have pre : ∀ τ, Steps p.tables e below (T1.setTop (mkF m 21 #[.val (.ref o)] [(.int (0 : Int32))])) τ → G τ := fun τ κ => pre τ (by
      refine XS.ifYes X1.here hx rfl (pc0 := 4) (pc' := 20) rfl (hb hby d4_4) rfl ((if0 _ _).trans (feq hc4_2).2) (by decide) (by decide) ?_
      show Steps p.tables e below (T1.setTop (mkF m 20 #[.val (.ref o)] [])) τ
      refine XS.iconst X1.here hx rfl (hb hby d4_20) ?_
      show Steps p.tables e below (T1.setTop (mkF m 21 #[.val (.ref o)] [(.int (0 : Int32))])) τ
      exact κ)
    obtain ⟨fs, hr, hrun, hended, hW, hsame⟩ := X1.leave (v := some (.int (0 : Int32))) (fun h => by rw [Bd.returns] at h; cases h)
    refine hGL ⟨_, _, hG _ (pre _ ?_), hrun, hended, _, _, rfl, ?_, ⟨_, rfl⟩, hW, hsame.mono (by decide) (by decide)⟩
    · exact retN X1 hx (t := .boolean) Bd.returns (by simp) (hb hby d4_21) hr
    · show Q4 Z o tk tl h0 n0 _ T1.heap _
      rw [e1]
      refine ⟨?_, N0, rfl⟩
      simp [own_exp, hc4_2]
theorem pn_2 : plainName "com/example/neti/neti/TakeExpiresPinLaw" = true := by first | (simp [plainName, overriddenIn]; done) | decide +kernel
theorem pd_1 : parseMethodDescriptor "(ZJJJJ)V" = some ⟨[.boolean, .long, .long, .long, .long], none⟩ := by decide +kernel
theorem pd_2 : parseMethodDescriptor "()Z" = some ⟨[], some .boolean⟩ := by decide +kernel
theorem ef_0 (m : MethodId) (x0 : Int32) (x1 : Int64) (x2 : Int64) (x3 : Int64) (x4 : Int64) : entryFrame m #[(.int x0), (.long x1), (.long x2), (.long x3), (.long x4)] maxLocals = mkF m 0 #[.val (.int x0), .val (.long x1), .second, .val (.long x2), .second, .val (.long x3), .second, .val (.long x4), .second, .unset, .unset, .unset] [] := by first | (simp [entryFrame, mkF, argsToLocals, Value.category, maxLocals]; done) | rfl
def Q0 (Z : State) (f : Int32) (q1 : Int64) (q2 : Int64) (q3 : Int64) (q4 : Int64) (h0 : Heap) (n0 : Nat) (vα : Option Value) (hα : Heap) (Lα : List Loc) : Prop := vα = some (.int (1 : Int32)) ∧ Fr n0 Lα
set_option maxRecDepth 65536 in
set_option maxHeartbeats 40000000 in
theorem rm0 (l : Launch) (Z : State) (a0 : Array Value) (hw : ∀ d ∈ tables_1, d.before a0 Z = true) (ws : List Jvm.Cond) (f : Int32) (q1 : Int64) (q2 : Int64) (q3 : Int64) (q4 : Int64) (h0 : Heap) (n0 : Nat) (Z0 : n0 ≤ h0.size) :
    MetFree l x (head1 (Jvm.Cond.code x code maxLocals ret :: ws) room_1) (fun aα U => aα = #[(.int f), (.long q1), (.long q2), (.long q3), (.long q4)] ∧ Z.Warmed39 U.vm ∧ U.heap = h0) (fun _ _ _ _ _ => True) (fun _ U oα U' => ∃ vα Lα, oα = .returned vα ∧ Q0 Z f q1 q2 q3 q4 h0 n0 vα U'.heap Lα ∧ FrameEnd U oα U' Lα room_1.cells room_1.slots) := by
  refine MetFree.of_bodySF (plainFor_of_name pn_2) hisR ?_
  intro p e s m args below meth c s₁ Bd hml0 hP hK
  refine own_wrap ?_
  intro GL hGL
  obtain ⟨rfl, hZ, hh⟩ := hP
  have hx := Bd.exec
  have hby := Bd.bytes
  have hml : c.maxLocals = 12 := hml0
  have hown : s.vm.findClass "com/example/neti/neti/TakeExpiresPinLaw" = some m.cls := findClass_of_methodNamed Bd.named
  have hnm := (name_of_methodNamed Bd.named Bd.method).1
  have X0 : Stand p l e room_1 s m #[(.int f), (.long q1), (.long q2), (.long q3), (.long q4)] below meth c s₁ [] 0 0 := Stand.of_body Bd
  have e0 : s₁.heap = h0 := by rw [← hh, Bd.state]; rfl
  have N0 := Fr.nil n0
  have pre0 : ∀ τ, Steps p.tables e below (s₁.setTop (mkF m 0 #[.val (.int f), .val (.long q1), .second, .val (.long q2), .second, .val (.long q3), .second, .val (.long q4), .second, .unset, .unset, .unset] [])) τ → Steps p.tables e below (s₁.setTop (entryFrame m #[(.int f), (.long q1), (.long q2), (.long q3), (.long q4)] maxLocals)) τ := fun τ κ => castTop (ef_0 m f q1 q2 q3 q4) κ
  obtain ⟨G, hG, pre⟩ : ∃ G : State → Prop, (∀ τ, G τ → Steps p.tables e below (s₁.setTop (entryFrame m #[(.int f), (.long q1), (.long q2), (.long q3), (.long q4)] maxLocals)) τ) ∧ ∀ τ, Steps p.tables e below (s₁.setTop (mkF m 0 #[.val (.int f), .val (.long q1), .second, .val (.long q2), .second, .val (.long q3), .second, .val (.long q4), .second, .unset, .unset, .unset] [])) τ → G τ := ⟨_, pre0, fun _ k => k⟩
  have Zn := Z0
  have pre : ∀ τ, Steps p.tables e below (s₁.setTop (mkF m 3 #[.val (.int f), .val (.long q1), .second, .val (.long q2), .second, .val (.long q3), .second, .val (.long q4), .second, .unset, .unset, .unset] [(.int (f &&& (1 : Int32)))])) τ → G τ := fun τ κ => pre τ (by
    refine XS.iloadN X0.here hx rfl (hb hby at_0) rfl ?_
    show Steps p.tables e below (s₁.setTop (mkF m 1 #[.val (.int f), .val (.long q1), .second, .val (.long q2), .second, .val (.long q3), .second, .val (.long q4), .second, .unset, .unset, .unset] [(.int f)])) τ
    refine XS.iconst X0.here hx rfl (hb hby at_1) ?_
    show Steps p.tables e below (s₁.setTop (mkF m 2 #[.val (.int f), .val (.long q1), .second, .val (.long q2), .second, .val (.long q3), .second, .val (.long q4), .second, .unset, .unset, .unset] [(.int (1 : Int32)), (.int f)])) τ
    refine XS.iand X0.here hx rfl (hb hby at_2) rfl ?_
    show Steps p.tables e below (s₁.setTop (mkF m 3 #[.val (.int f), .val (.long q1), .second, .val (.long q2), .second, .val (.long q3), .second, .val (.long q4), .second, .unset, .unset, .unset] [(.int (f &&& (1 : Int32)))])) τ
    exact κ)
  rcases Classical.em ((f &&& (1 : Int32)) = (0 : Int32)) with hc3_1 | hc3_1
  ·
    have pre : ∀ τ, Steps p.tables e below (s₁.setTop (mkF m 13 #[.val (.int f), .val (.long q1), .second, .val (.long q2), .second, .val (.long q3), .second, .val (.long q4), .second, .val (.int (0 : Int32)), .unset, .unset] [])) τ → G τ := fun τ κ => pre τ (by
      refine XS.ifYes X0.here hx rfl (pc0 := 3) (pc' := 10) rfl (hb hby at_3) rfl ((if0 _ _).trans (teq hc3_1).1) (by decide) (by decide) ?_
      show Steps p.tables e below (s₁.setTop (mkF m 10 #[.val (.int f), .val (.long q1), .second, .val (.long q2), .second, .val (.long q3), .second, .val (.long q4), .second, .unset, .unset, .unset] [])) τ
      refine XS.iconst X0.here hx rfl (hb hby at_10) ?_
      show Steps p.tables e below (s₁.setTop (mkF m 11 #[.val (.int f), .val (.long q1), .second, .val (.long q2), .second, .val (.long q3), .second, .val (.long q4), .second, .unset, .unset, .unset] [(.int (0 : Int32))])) τ
      refine XS.istore X0.here hx rfl (hb hby at_11) rfl (l' := #[.val (.int f), .val (.long q1), .second, .val (.long q2), .second, .val (.long q3), .second, .val (.long q4), .second, .val (.int (0 : Int32)), .unset, .unset]) rfl ?_
      show Steps p.tables e below (s₁.setTop (mkF m 13 #[.val (.int f), .val (.long q1), .second, .val (.long q2), .second, .val (.long q3), .second, .val (.long q4), .second, .val (.int (0 : Int32)), .unset, .unset] [])) τ
      exact κ)
    obtain ⟨T2, h2, X2, e2, E2, A2, D2, -, st2⟩ := newO X0 hx hZ hown (hw _ (List.mem_of_getElem? (i := 0) rfl)) (hw _ (List.mem_of_getElem? (i := 1) rfl)) (hw _ (List.mem_of_getElem? (i := 2) rfl)) e0 (g := (mkF m 13 #[.val (.int f), .val (.long q1), .second, .val (.long q2), .second, .val (.long q3), .second, .val (.long q4), .second, .val (.int (0 : Int32)), .unset, .unset] [])) rfl (hb hby at_13) (by decide) (by decide)
    obtain ⟨b2, gg2⟩ : ∃ z, z = h0.size := ⟨_, rfl⟩
    rw [← gg2] at A2 D2 st2
    have g_b2 : n0 ≤ b2 := Nat.le_trans Zn (Nat.le_of_eq gg2.symm)
    have Zn : n0 ≤ h2.size := Nat.le_trans Zn E2.1
    have F_taken_b2 : Fld Z h2 b2 "com/example/neti/neti/Take" "taken" "Z" (.int (0 : Int32)) := D2 (Or.inr (hw _ (List.mem_of_getElem? (i := 15) rfl))) (ty := .boolean) (by decide)
    have F_fencingToken_b2 : Fld Z h2 b2 "com/example/neti/neti/Take" "fencingToken" "J" (.long (0 : Int64)) := D2 (Or.inr (hw _ (List.mem_of_getElem? (i := 17) rfl))) (ty := .long) (by decide)
    have F_deadline_b2 : Fld Z h2 b2 "com/example/neti/neti/Take" "deadline" "J" (.long (0 : Int64)) := D2 (Or.inr (hw _ (List.mem_of_getElem? (i := 19) rfl))) (ty := .long) (by decide)
    have F_timeToLiveMillis_b2 : Fld Z h2 b2 "com/example/neti/neti/Take" "timeToLiveMillis" "J" (.long (0 : Int64)) := D2 (Or.inr (hw _ (List.mem_of_getElem? (i := 21) rfl))) (ty := .long) (by decide)
    have F_backoffNanos_b2 : Fld Z h2 b2 "com/example/neti/neti/Take" "backoffNanos" "J" (.long (0 : Int64)) := D2 (Or.inr (hw _ (List.mem_of_getElem? (i := 23) rfl))) (ty := .long) (by decide)
    have E_b2 := A2
    have pre : ∀ τ, Steps p.tables e below (T2.setTop (mkF m 16 #[.val (.int f), .val (.long q1), .second, .val (.long q2), .second, .val (.long q3), .second, .val (.long q4), .second, .val (.int (0 : Int32)), .unset, .unset] [(.ref b2)])) τ → G τ := fun τ κ => pre τ (st2 τ κ)
    have pre : ∀ τ, Steps p.tables e below (T2.setTop (mkF m 25 #[.val (.int f), .val (.long q1), .second, .val (.long q2), .second, .val (.long q3), .second, .val (.long q4), .second, .val (.int (0 : Int32)), .unset, .unset] [(.long q4), (.long q3), (.long q2), (.long q1), (.int (0 : Int32)), (.ref b2), (.ref b2)])) τ → G τ := fun τ κ => pre τ (by
      refine XS.dup X2.here hx rfl (hb hby at_16) rfl rfl ?_
      show Steps p.tables e below (T2.setTop (mkF m 17 #[.val (.int f), .val (.long q1), .second, .val (.long q2), .second, .val (.long q3), .second, .val (.long q4), .second, .val (.int (0 : Int32)), .unset, .unset] [(.ref b2), (.ref b2)])) τ
      refine XS.iload X2.here hx rfl (hb hby at_17) rfl ?_
      show Steps p.tables e below (T2.setTop (mkF m 19 #[.val (.int f), .val (.long q1), .second, .val (.long q2), .second, .val (.long q3), .second, .val (.long q4), .second, .val (.int (0 : Int32)), .unset, .unset] [(.int (0 : Int32)), (.ref b2), (.ref b2)])) τ
      refine XS.lloadN X2.here hx rfl (hb hby at_19) rfl ?_
      show Steps p.tables e below (T2.setTop (mkF m 20 #[.val (.int f), .val (.long q1), .second, .val (.long q2), .second, .val (.long q3), .second, .val (.long q4), .second, .val (.int (0 : Int32)), .unset, .unset] [(.long q1), (.int (0 : Int32)), (.ref b2), (.ref b2)])) τ
      refine XS.lloadN X2.here hx rfl (hb hby at_20) rfl ?_
      show Steps p.tables e below (T2.setTop (mkF m 21 #[.val (.int f), .val (.long q1), .second, .val (.long q2), .second, .val (.long q3), .second, .val (.long q4), .second, .val (.int (0 : Int32)), .unset, .unset] [(.long q2), (.long q1), (.int (0 : Int32)), (.ref b2), (.ref b2)])) τ
      refine XS.lload X2.here hx rfl (hb hby at_21) rfl ?_
      show Steps p.tables e below (T2.setTop (mkF m 23 #[.val (.int f), .val (.long q1), .second, .val (.long q2), .second, .val (.long q3), .second, .val (.long q4), .second, .val (.int (0 : Int32)), .unset, .unset] [(.long q3), (.long q2), (.long q1), (.int (0 : Int32)), (.ref b2), (.ref b2)])) τ
      refine XS.lload X2.here hx rfl (hb hby at_23) rfl ?_
      show Steps p.tables e below (T2.setTop (mkF m 25 #[.val (.int f), .val (.long q1), .second, .val (.long q2), .second, .val (.long q3), .second, .val (.long q4), .second, .val (.int (0 : Int32)), .unset, .unset] [(.long q4), (.long q3), (.long q2), (.long q1), (.int (0 : Int32)), (.ref b2), (.ref b2)])) τ
      exact κ)
    obtain ⟨_, _, ⟨T3, Lx3, kx3, nx3⟩, -, X3, ⟨Lc3, hQ3, l3, y3, z3⟩, st3⟩ := X2.specialBack hx (y := (⟨"com/example/neti/neti/Take", "<init>", "(ZJJJJ)V"⟩ : MethodName)) rfl hown (mvT hZ (hw _ (List.mem_of_getElem? (i := 3) rfl))) (mvT hZ (hw _ (List.mem_of_getElem? (i := 4) rfl))) (mvT hZ (hw _ (List.mem_of_getElem? (i := 5) rfl))) (by decide) (backOf (W := 1) (rm1 l Z a0 hw [] b2 (0 : Int32) q1 q2 q3 q4 (.int (0 : Int32)) (.long (0 : Int64)) (.long (0 : Int64)) (.long (0 : Int64)) (.long (0 : Int64)) h2 n0 Zn g_b2 E_b2 F_taken_b2 F_fencingToken_b2 F_deadline_b2 F_timeToLiveMillis_b2 F_backoffNanos_b2) hZ (hw _ (List.mem_of_getElem? (i := 5) rfl)) (hw _ (List.mem_of_getElem? (i := 2) rfl)) (by decide) (by decide)) (g := (mkF m 25 #[.val (.int f), .val (.long q1), .second, .val (.long q2), .second, .val (.long q3), .second, .val (.long q4), .second, .val (.int (0 : Int32)), .unset, .unset] [(.long q4), (.long q3), (.long q2), (.long q1), (.int (0 : Int32)), (.ref b2), (.ref b2)])) rfl (by rw [hml]; rfl) (Steps.refl _) (a := b2) (argsL := [(.int (0 : Int32)), (.long q1), (.long q2), (.long q3), (.long q4)]) (rest := [(.ref b2)]) (lenOf pd_1 rfl) rfl (by show 2 * 0 + _ ≤ _; exact Nat.le_of_eq rfl) (hb hby at_25) (fun _ _ => ⟨rfl, e2, (by decide : 1 + 0 ≤ _), (by decide : 5 + 0 ≤ _)⟩)
    dsimp only [Pt.U, Pt.locs, Pt.cells, Pt.slots] at X3 l3 y3 z3 st3 hQ3
    subst l3 y3 z3
    obtain ⟨rfl, Nq3, Kc3, E_o_3, F_taken_3, F_fencingToken_3, F_deadline_3, F_timeToLiveMillis_3, F_backoffNanos_3⟩ := hQ3
    have NN := Fr.app N0 Nq3
    have E_b2 : Exa Z T3.heap b2 "com/example/neti/neti/Take" := E_b2.keep Kc3
    have Zn : n0 ≤ T3.heap.size := Nat.le_trans Zn Kc3.1
    have pre : ∀ τ, Steps p.tables e below (T3.setTop (mkF m 28 #[.val (.int f), .val (.long q1), .second, .val (.long q2), .second, .val (.long q3), .second, .val (.long q4), .second, .val (.int (0 : Int32)), .unset, .unset] [(.ref b2)])) τ → G τ := fun τ κ => pre τ (st3.trans κ)
    have pre : ∀ τ, Steps p.tables e below (T3.setTop (mkF m 32 #[.val (.int f), .val (.long q1), .second, .val (.long q2), .second, .val (.long q3), .second, .val (.long q4), .second, .val (.int (0 : Int32)), .val (.ref b2), .unset] [(.int (0 : Int32))])) τ → G τ := fun τ κ => pre τ (by
      refine XS.astore X3.here hx rfl (hb hby at_28) rfl rfl (l' := #[.val (.int f), .val (.long q1), .second, .val (.long q2), .second, .val (.long q3), .second, .val (.long q4), .second, .val (.int (0 : Int32)), .val (.ref b2), .unset]) rfl ?_
      show Steps p.tables e below (T3.setTop (mkF m 30 #[.val (.int f), .val (.long q1), .second, .val (.long q2), .second, .val (.long q3), .second, .val (.long q4), .second, .val (.int (0 : Int32)), .val (.ref b2), .unset] [])) τ
      refine XS.iload X3.here hx rfl (hb hby at_30) rfl ?_
      show Steps p.tables e below (T3.setTop (mkF m 32 #[.val (.int f), .val (.long q1), .second, .val (.long q2), .second, .val (.long q3), .second, .val (.long q4), .second, .val (.int (0 : Int32)), .val (.ref b2), .unset] [(.int (0 : Int32))])) τ
      exact κ)
    have hc4 : (0 : Int32) = (0 : Int32) := rfl
    have pre : ∀ τ, Steps p.tables e below (T3.setTop (mkF m 45 #[.val (.int f), .val (.long q1), .second, .val (.long q2), .second, .val (.long q3), .second, .val (.long q4), .second, .val (.int (0 : Int32)), .val (.ref b2), .unset] [(.int (lcmpW q3 (0 : Int64)))])) τ → G τ := fun τ κ => pre τ (by
      refine XS.ifYes X3.here hx rfl (pc0 := 32) (pc' := 41) rfl (hb hby at_32) rfl ((if0 _ _).trans (teq hc4).1) (by decide) (by decide) ?_
      show Steps p.tables e below (T3.setTop (mkF m 41 #[.val (.int f), .val (.long q1), .second, .val (.long q2), .second, .val (.long q3), .second, .val (.long q4), .second, .val (.int (0 : Int32)), .val (.ref b2), .unset] [])) τ
      refine XS.lload X3.here hx rfl (hb hby at_41) rfl ?_
      show Steps p.tables e below (T3.setTop (mkF m 43 #[.val (.int f), .val (.long q1), .second, .val (.long q2), .second, .val (.long q3), .second, .val (.long q4), .second, .val (.int (0 : Int32)), .val (.ref b2), .unset] [(.long q3)])) τ
      refine XS.lconst X3.here hx rfl (hb hby at_43) ?_
      show Steps p.tables e below (T3.setTop (mkF m 44 #[.val (.int f), .val (.long q1), .second, .val (.long q2), .second, .val (.long q3), .second, .val (.long q4), .second, .val (.int (0 : Int32)), .val (.ref b2), .unset] [(.long (0 : Int64)), (.long q3)])) τ
      refine XS.lcmp X3.here hx rfl (hb hby at_44) rfl ?_
      show Steps p.tables e below (T3.setTop (mkF m 45 #[.val (.int f), .val (.long q1), .second, .val (.long q2), .second, .val (.long q3), .second, .val (.long q4), .second, .val (.int (0 : Int32)), .val (.ref b2), .unset] [(.int (lcmpW q3 (0 : Int64)))])) τ
      exact κ)
    rcases Classical.em (q3 < (0 : Int64)) with hc45_5 | hc45_5
    ·
      have pre : ∀ τ, Steps p.tables e below (T3.setTop (mkF m 59 #[.val (.int f), .val (.long q1), .second, .val (.long q2), .second, .val (.long q3), .second, .val (.long q4), .second, .val (.int (0 : Int32)), .val (.ref b2), .val (.int (0 : Int32))] [(.ref b2)])) τ → G τ := fun τ κ => pre τ (by
        refine XS.ifNo X3.here hx rfl (hb hby at_45) rfl ((if0 _ _).trans (tlt ((lw_lt _ _).mpr hc45_5)).2.1) ?_
        show Steps p.tables e below (T3.setTop (mkF m 48 #[.val (.int f), .val (.long q1), .second, .val (.long q2), .second, .val (.long q3), .second, .val (.long q4), .second, .val (.int (0 : Int32)), .val (.ref b2), .unset] [])) τ
        refine XS.iconst X3.here hx rfl (hb hby at_48) ?_
        show Steps p.tables e below (T3.setTop (mkF m 49 #[.val (.int f), .val (.long q1), .second, .val (.long q2), .second, .val (.long q3), .second, .val (.long q4), .second, .val (.int (0 : Int32)), .val (.ref b2), .unset] [(.int (0 : Int32))])) τ
        refine XS.istore X3.here hx rfl (hb hby at_49) rfl (l' := #[.val (.int f), .val (.long q1), .second, .val (.long q2), .second, .val (.long q3), .second, .val (.long q4), .second, .val (.int (0 : Int32)), .val (.ref b2), .val (.int (0 : Int32))]) rfl ?_
        show Steps p.tables e below (T3.setTop (mkF m 51 #[.val (.int f), .val (.long q1), .second, .val (.long q2), .second, .val (.long q3), .second, .val (.long q4), .second, .val (.int (0 : Int32)), .val (.ref b2), .val (.int (0 : Int32))] [])) τ
        refine XS.goto X3.here hx rfl (pc0 := 51) (pc' := 57) rfl (hb hby at_51) (by decide) (by decide) ?_
        show Steps p.tables e below (T3.setTop (mkF m 57 #[.val (.int f), .val (.long q1), .second, .val (.long q2), .second, .val (.long q3), .second, .val (.long q4), .second, .val (.int (0 : Int32)), .val (.ref b2), .val (.int (0 : Int32))] [])) τ
        refine XS.aload X3.here hx rfl (hb hby at_57) rfl rfl ?_
        show Steps p.tables e below (T3.setTop (mkF m 59 #[.val (.int f), .val (.long q1), .second, .val (.long q2), .second, .val (.long q3), .second, .val (.long q4), .second, .val (.int (0 : Int32)), .val (.ref b2), .val (.int (0 : Int32))] [(.ref b2)])) τ
        exact κ)
      obtain ⟨cq6, kq6, q6a, q6b, q6c⟩ := isOf hZ rfl E_b2
      obtain ⟨_, _, ⟨T6, Lx6, kx6, nx6⟩, -, X6, ⟨Lc6, hQ6, l6, y6, z6⟩, st6⟩ := X3.virtualBack hx (y := (⟨"com/example/neti/neti/Take", "expires", "()Z"⟩ : MethodName)) (z := (⟨"com/example/neti/neti/Take", "expires", "()Z"⟩ : MethodName)) hown (mvT hZ (hw _ (List.mem_of_getElem? (i := 24) rfl))) (mvT hZ (hw _ (List.mem_of_getElem? (i := 25) rfl))) (notFace_of_selects (args := #[]) (mvT hZ (hw _ (List.mem_of_getElem? (i := 27) rfl)))) (mvT hZ (hw _ (List.mem_of_getElem? (i := 27) rfl))) (mvT hZ (hw _ (List.mem_of_getElem? (i := 26) rfl))) (by decide) (backOf (W := 0) (rm4 l Z a0 hw [] b2 (nar .boolean (0 : Int32)) q3 T3.heap n0 Zn F_taken_3 F_timeToLiveMillis_3) hZ (hw _ (List.mem_of_getElem? (i := 28) rfl)) (hw _ (List.mem_of_getElem? (i := 2) rfl)) (by decide) (by decide)) q6a q6c (g := (mkF m 59 #[.val (.int f), .val (.long q1), .second, .val (.long q2), .second, .val (.long q3), .second, .val (.long q4), .second, .val (.int (0 : Int32)), .val (.ref b2), .val (.int (0 : Int32))] [(.ref b2)])) rfl (by rw [hml]; rfl) (Steps.refl _) (argsL := []) (rest := []) (lenOf pd_2 rfl) rfl (by show 2 * 0 + _ ≤ _; exact Nat.le_of_eq rfl) (hb hby at_59) (fun _ _ => ⟨rfl, rfl, (by decide : 1 + 0 ≤ _), (by decide : 5 + 0 ≤ _)⟩)
      dsimp only [Pt.U, Pt.locs, Pt.cells, Pt.slots] at X6 l6 y6 z6 st6 hQ6
      subst l6 y6 z6
      obtain ⟨rfl, Nq6, hs6⟩ := hQ6
      have NN := Fr.app NN Nq6
      have pre : ∀ τ, Steps p.tables e below (T6.setTop (mkF m 62 #[.val (.int f), .val (.long q1), .second, .val (.long q2), .second, .val (.long q3), .second, .val (.long q4), .second, .val (.int (0 : Int32)), .val (.ref b2), .val (.int (0 : Int32))] [(.int (own_exp (nar .boolean (0 : Int32)) q3))])) τ → G τ := fun τ κ => pre τ (st6.trans κ)
      have pre : ∀ τ, Steps p.tables e below (T6.setTop (mkF m 64 #[.val (.int f), .val (.long q1), .second, .val (.long q2), .second, .val (.long q3), .second, .val (.long q4), .second, .val (.int (0 : Int32)), .val (.ref b2), .val (.int (0 : Int32))] [(.int (0 : Int32)), (.int (own_exp (nar .boolean (0 : Int32)) q3))])) τ → G τ := fun τ κ => pre τ (by
        refine XS.iload X6.here hx rfl (hb hby at_62) rfl ?_
        show Steps p.tables e below (T6.setTop (mkF m 64 #[.val (.int f), .val (.long q1), .second, .val (.long q2), .second, .val (.long q3), .second, .val (.long q4), .second, .val (.int (0 : Int32)), .val (.ref b2), .val (.int (0 : Int32))] [(.int (0 : Int32)), (.int (own_exp (nar .boolean (0 : Int32)) q3))])) τ
        exact κ)
      have hc7 : (own_exp (nar .boolean (0 : Int32)) q3) = (0 : Int32) := (by simp [own_exp, nar, hc3_1, hc4, hc45_5])
      have pre : ∀ τ, Steps p.tables e below (T6.setTop (mkF m 72 #[.val (.int f), .val (.long q1), .second, .val (.long q2), .second, .val (.long q3), .second, .val (.long q4), .second, .val (.int (0 : Int32)), .val (.ref b2), .val (.int (0 : Int32))] [(.int (1 : Int32))])) τ → G τ := fun τ κ => pre τ (by
        refine XS.icmpNo X6.here hx rfl (hb hby at_64) rfl (teq hc7).2 ?_
        show Steps p.tables e below (T6.setTop (mkF m 67 #[.val (.int f), .val (.long q1), .second, .val (.long q2), .second, .val (.long q3), .second, .val (.long q4), .second, .val (.int (0 : Int32)), .val (.ref b2), .val (.int (0 : Int32))] [])) τ
        refine XS.iconst X6.here hx rfl (hb hby at_67) ?_
        show Steps p.tables e below (T6.setTop (mkF m 68 #[.val (.int f), .val (.long q1), .second, .val (.long q2), .second, .val (.long q3), .second, .val (.long q4), .second, .val (.int (0 : Int32)), .val (.ref b2), .val (.int (0 : Int32))] [(.int (1 : Int32))])) τ
        refine XS.goto X6.here hx rfl (pc0 := 68) (pc' := 72) rfl (hb hby at_68) (by decide) (by decide) ?_
        show Steps p.tables e below (T6.setTop (mkF m 72 #[.val (.int f), .val (.long q1), .second, .val (.long q2), .second, .val (.long q3), .second, .val (.long q4), .second, .val (.int (0 : Int32)), .val (.ref b2), .val (.int (0 : Int32))] [(.int (1 : Int32))])) τ
        exact κ)
      obtain ⟨fs, hr, hrun, hended, hW, hsame⟩ := X6.leave (v := some (.int (1 : Int32))) (fun h => by rw [Bd.returns] at h; cases h)
      refine hGL ⟨_, _, hG _ (pre _ ?_), hrun, hended, _, _, rfl, ?_, ⟨_, rfl⟩, hW, hsame.mono (by decide) (by decide)⟩
      · exact retN X6 hx (t := .boolean) Bd.returns (by simp) (hb hby at_72) hr
      · show Q0 Z f q1 q2 q3 q4 h0 n0 _ T6.heap _
        rw [hs6]
        exact ⟨rfl, NN⟩
    ·
      have pre : ∀ τ, Steps p.tables e below (T3.setTop (mkF m 59 #[.val (.int f), .val (.long q1), .second, .val (.long q2), .second, .val (.long q3), .second, .val (.long q4), .second, .val (.int (0 : Int32)), .val (.ref b2), .val (.int (1 : Int32))] [(.ref b2)])) τ → G τ := fun τ κ => pre τ (by
        refine XS.ifYes X3.here hx rfl (pc0 := 45) (pc' := 54) rfl (hb hby at_45) rfl ((if0 _ _).trans (flt (fun q => hc45_5 ((lw_lt _ _).mp q))).2.1) (by decide) (by decide) ?_
        show Steps p.tables e below (T3.setTop (mkF m 54 #[.val (.int f), .val (.long q1), .second, .val (.long q2), .second, .val (.long q3), .second, .val (.long q4), .second, .val (.int (0 : Int32)), .val (.ref b2), .unset] [])) τ
        refine XS.iconst X3.here hx rfl (hb hby at_54) ?_
        show Steps p.tables e below (T3.setTop (mkF m 55 #[.val (.int f), .val (.long q1), .second, .val (.long q2), .second, .val (.long q3), .second, .val (.long q4), .second, .val (.int (0 : Int32)), .val (.ref b2), .unset] [(.int (1 : Int32))])) τ
        refine XS.istore X3.here hx rfl (hb hby at_55) rfl (l' := #[.val (.int f), .val (.long q1), .second, .val (.long q2), .second, .val (.long q3), .second, .val (.long q4), .second, .val (.int (0 : Int32)), .val (.ref b2), .val (.int (1 : Int32))]) rfl ?_
        show Steps p.tables e below (T3.setTop (mkF m 57 #[.val (.int f), .val (.long q1), .second, .val (.long q2), .second, .val (.long q3), .second, .val (.long q4), .second, .val (.int (0 : Int32)), .val (.ref b2), .val (.int (1 : Int32))] [])) τ
        refine XS.aload X3.here hx rfl (hb hby at_57) rfl rfl ?_
        show Steps p.tables e below (T3.setTop (mkF m 59 #[.val (.int f), .val (.long q1), .second, .val (.long q2), .second, .val (.long q3), .second, .val (.long q4), .second, .val (.int (0 : Int32)), .val (.ref b2), .val (.int (1 : Int32))] [(.ref b2)])) τ
        exact κ)
      obtain ⟨cq8, kq8, q8a, q8b, q8c⟩ := isOf hZ rfl E_b2
      obtain ⟨_, _, ⟨T8, Lx8, kx8, nx8⟩, -, X8, ⟨Lc8, hQ8, l8, y8, z8⟩, st8⟩ := X3.virtualBack hx (y := (⟨"com/example/neti/neti/Take", "expires", "()Z"⟩ : MethodName)) (z := (⟨"com/example/neti/neti/Take", "expires", "()Z"⟩ : MethodName)) hown (mvT hZ (hw _ (List.mem_of_getElem? (i := 24) rfl))) (mvT hZ (hw _ (List.mem_of_getElem? (i := 25) rfl))) (notFace_of_selects (args := #[]) (mvT hZ (hw _ (List.mem_of_getElem? (i := 27) rfl)))) (mvT hZ (hw _ (List.mem_of_getElem? (i := 27) rfl))) (mvT hZ (hw _ (List.mem_of_getElem? (i := 26) rfl))) (by decide) (backOf (W := 0) (rm4 l Z a0 hw [] b2 (nar .boolean (0 : Int32)) q3 T3.heap n0 Zn F_taken_3 F_timeToLiveMillis_3) hZ (hw _ (List.mem_of_getElem? (i := 28) rfl)) (hw _ (List.mem_of_getElem? (i := 2) rfl)) (by decide) (by decide)) q8a q8c (g := (mkF m 59 #[.val (.int f), .val (.long q1), .second, .val (.long q2), .second, .val (.long q3), .second, .val (.long q4), .second, .val (.int (0 : Int32)), .val (.ref b2), .val (.int (1 : Int32))] [(.ref b2)])) rfl (by rw [hml]; rfl) (Steps.refl _) (argsL := []) (rest := []) (lenOf pd_2 rfl) rfl (by show 2 * 0 + _ ≤ _; exact Nat.le_of_eq rfl) (hb hby at_59) (fun _ _ => ⟨rfl, rfl, (by decide : 1 + 0 ≤ _), (by decide : 5 + 0 ≤ _)⟩)
      dsimp only [Pt.U, Pt.locs, Pt.cells, Pt.slots] at X8 l8 y8 z8 st8 hQ8
      subst l8 y8 z8
      obtain ⟨rfl, Nq8, hs8⟩ := hQ8
      have NN := Fr.app NN Nq8
      have pre : ∀ τ, Steps p.tables e below (T8.setTop (mkF m 62 #[.val (.int f), .val (.long q1), .second, .val (.long q2), .second, .val (.long q3), .second, .val (.long q4), .second, .val (.int (0 : Int32)), .val (.ref b2), .val (.int (1 : Int32))] [(.int (own_exp (nar .boolean (0 : Int32)) q3))])) τ → G τ := fun τ κ => pre τ (st8.trans κ)
      have pre : ∀ τ, Steps p.tables e below (T8.setTop (mkF m 64 #[.val (.int f), .val (.long q1), .second, .val (.long q2), .second, .val (.long q3), .second, .val (.long q4), .second, .val (.int (0 : Int32)), .val (.ref b2), .val (.int (1 : Int32))] [(.int (1 : Int32)), (.int (own_exp (nar .boolean (0 : Int32)) q3))])) τ → G τ := fun τ κ => pre τ (by
        refine XS.iload X8.here hx rfl (hb hby at_62) rfl ?_
        show Steps p.tables e below (T8.setTop (mkF m 64 #[.val (.int f), .val (.long q1), .second, .val (.long q2), .second, .val (.long q3), .second, .val (.long q4), .second, .val (.int (0 : Int32)), .val (.ref b2), .val (.int (1 : Int32))] [(.int (1 : Int32)), (.int (own_exp (nar .boolean (0 : Int32)) q3))])) τ
        exact κ)
      have hc9 : (own_exp (nar .boolean (0 : Int32)) q3) = (1 : Int32) := (by simp [own_exp, nar, hc3_1, hc4, hc45_5])
      have pre : ∀ τ, Steps p.tables e below (T8.setTop (mkF m 72 #[.val (.int f), .val (.long q1), .second, .val (.long q2), .second, .val (.long q3), .second, .val (.long q4), .second, .val (.int (0 : Int32)), .val (.ref b2), .val (.int (1 : Int32))] [(.int (1 : Int32))])) τ → G τ := fun τ κ => pre τ (by
        refine XS.icmpNo X8.here hx rfl (hb hby at_64) rfl (teq hc9).2 ?_
        show Steps p.tables e below (T8.setTop (mkF m 67 #[.val (.int f), .val (.long q1), .second, .val (.long q2), .second, .val (.long q3), .second, .val (.long q4), .second, .val (.int (0 : Int32)), .val (.ref b2), .val (.int (1 : Int32))] [])) τ
        refine XS.iconst X8.here hx rfl (hb hby at_67) ?_
        show Steps p.tables e below (T8.setTop (mkF m 68 #[.val (.int f), .val (.long q1), .second, .val (.long q2), .second, .val (.long q3), .second, .val (.long q4), .second, .val (.int (0 : Int32)), .val (.ref b2), .val (.int (1 : Int32))] [(.int (1 : Int32))])) τ
        refine XS.goto X8.here hx rfl (pc0 := 68) (pc' := 72) rfl (hb hby at_68) (by decide) (by decide) ?_
        show Steps p.tables e below (T8.setTop (mkF m 72 #[.val (.int f), .val (.long q1), .second, .val (.long q2), .second, .val (.long q3), .second, .val (.long q4), .second, .val (.int (0 : Int32)), .val (.ref b2), .val (.int (1 : Int32))] [(.int (1 : Int32))])) τ
        exact κ)
      obtain ⟨fs, hr, hrun, hended, hW, hsame⟩ := X8.leave (v := some (.int (1 : Int32))) (fun h => by rw [Bd.returns] at h; cases h)
      refine hGL ⟨_, _, hG _ (pre _ ?_), hrun, hended, _, _, rfl, ?_, ⟨_, rfl⟩, hW, hsame.mono (by decide) (by decide)⟩
      · exact retN X8 hx (t := .boolean) Bd.returns (by simp) (hb hby at_72) hr
      · show Q0 Z f q1 q2 q3 q4 h0 n0 _ T8.heap _
        rw [hs8]
        exact ⟨rfl, NN⟩
  ·
    have pre : ∀ τ, Steps p.tables e below (s₁.setTop (mkF m 13 #[.val (.int f), .val (.long q1), .second, .val (.long q2), .second, .val (.long q3), .second, .val (.long q4), .second, .val (.int (1 : Int32)), .unset, .unset] [])) τ → G τ := fun τ κ => pre τ (by
      refine XS.ifNo X0.here hx rfl (hb hby at_3) rfl ((if0 _ _).trans (feq hc3_1).1) ?_
      show Steps p.tables e below (s₁.setTop (mkF m 6 #[.val (.int f), .val (.long q1), .second, .val (.long q2), .second, .val (.long q3), .second, .val (.long q4), .second, .unset, .unset, .unset] [])) τ
      refine XS.iconst X0.here hx rfl (hb hby at_6) ?_
      show Steps p.tables e below (s₁.setTop (mkF m 7 #[.val (.int f), .val (.long q1), .second, .val (.long q2), .second, .val (.long q3), .second, .val (.long q4), .second, .unset, .unset, .unset] [(.int (1 : Int32))])) τ
      refine XS.goto X0.here hx rfl (pc0 := 7) (pc' := 11) rfl (hb hby at_7) (by decide) (by decide) ?_
      show Steps p.tables e below (s₁.setTop (mkF m 11 #[.val (.int f), .val (.long q1), .second, .val (.long q2), .second, .val (.long q3), .second, .val (.long q4), .second, .unset, .unset, .unset] [(.int (1 : Int32))])) τ
      refine XS.istore X0.here hx rfl (hb hby at_11) rfl (l' := #[.val (.int f), .val (.long q1), .second, .val (.long q2), .second, .val (.long q3), .second, .val (.long q4), .second, .val (.int (1 : Int32)), .unset, .unset]) rfl ?_
      show Steps p.tables e below (s₁.setTop (mkF m 13 #[.val (.int f), .val (.long q1), .second, .val (.long q2), .second, .val (.long q3), .second, .val (.long q4), .second, .val (.int (1 : Int32)), .unset, .unset] [])) τ
      exact κ)
    obtain ⟨T10, h10, X10, e10, E10, A10, D10, -, st10⟩ := newO X0 hx hZ hown (hw _ (List.mem_of_getElem? (i := 0) rfl)) (hw _ (List.mem_of_getElem? (i := 1) rfl)) (hw _ (List.mem_of_getElem? (i := 2) rfl)) e0 (g := (mkF m 13 #[.val (.int f), .val (.long q1), .second, .val (.long q2), .second, .val (.long q3), .second, .val (.long q4), .second, .val (.int (1 : Int32)), .unset, .unset] [])) rfl (hb hby at_13) (by decide) (by decide)
    obtain ⟨b10, gg10⟩ : ∃ z, z = h0.size := ⟨_, rfl⟩
    rw [← gg10] at A10 D10 st10
    have g_b10 : n0 ≤ b10 := Nat.le_trans Zn (Nat.le_of_eq gg10.symm)
    have Zn : n0 ≤ h10.size := Nat.le_trans Zn E10.1
    have F_taken_b10 : Fld Z h10 b10 "com/example/neti/neti/Take" "taken" "Z" (.int (0 : Int32)) := D10 (Or.inr (hw _ (List.mem_of_getElem? (i := 15) rfl))) (ty := .boolean) (by decide)
    have F_fencingToken_b10 : Fld Z h10 b10 "com/example/neti/neti/Take" "fencingToken" "J" (.long (0 : Int64)) := D10 (Or.inr (hw _ (List.mem_of_getElem? (i := 17) rfl))) (ty := .long) (by decide)
    have F_deadline_b10 : Fld Z h10 b10 "com/example/neti/neti/Take" "deadline" "J" (.long (0 : Int64)) := D10 (Or.inr (hw _ (List.mem_of_getElem? (i := 19) rfl))) (ty := .long) (by decide)
    have F_timeToLiveMillis_b10 : Fld Z h10 b10 "com/example/neti/neti/Take" "timeToLiveMillis" "J" (.long (0 : Int64)) := D10 (Or.inr (hw _ (List.mem_of_getElem? (i := 21) rfl))) (ty := .long) (by decide)
    have F_backoffNanos_b10 : Fld Z h10 b10 "com/example/neti/neti/Take" "backoffNanos" "J" (.long (0 : Int64)) := D10 (Or.inr (hw _ (List.mem_of_getElem? (i := 23) rfl))) (ty := .long) (by decide)
    have E_b10 := A10
    have pre : ∀ τ, Steps p.tables e below (T10.setTop (mkF m 16 #[.val (.int f), .val (.long q1), .second, .val (.long q2), .second, .val (.long q3), .second, .val (.long q4), .second, .val (.int (1 : Int32)), .unset, .unset] [(.ref b10)])) τ → G τ := fun τ κ => pre τ (st10 τ κ)
    have pre : ∀ τ, Steps p.tables e below (T10.setTop (mkF m 25 #[.val (.int f), .val (.long q1), .second, .val (.long q2), .second, .val (.long q3), .second, .val (.long q4), .second, .val (.int (1 : Int32)), .unset, .unset] [(.long q4), (.long q3), (.long q2), (.long q1), (.int (1 : Int32)), (.ref b10), (.ref b10)])) τ → G τ := fun τ κ => pre τ (by
      refine XS.dup X10.here hx rfl (hb hby at_16) rfl rfl ?_
      show Steps p.tables e below (T10.setTop (mkF m 17 #[.val (.int f), .val (.long q1), .second, .val (.long q2), .second, .val (.long q3), .second, .val (.long q4), .second, .val (.int (1 : Int32)), .unset, .unset] [(.ref b10), (.ref b10)])) τ
      refine XS.iload X10.here hx rfl (hb hby at_17) rfl ?_
      show Steps p.tables e below (T10.setTop (mkF m 19 #[.val (.int f), .val (.long q1), .second, .val (.long q2), .second, .val (.long q3), .second, .val (.long q4), .second, .val (.int (1 : Int32)), .unset, .unset] [(.int (1 : Int32)), (.ref b10), (.ref b10)])) τ
      refine XS.lloadN X10.here hx rfl (hb hby at_19) rfl ?_
      show Steps p.tables e below (T10.setTop (mkF m 20 #[.val (.int f), .val (.long q1), .second, .val (.long q2), .second, .val (.long q3), .second, .val (.long q4), .second, .val (.int (1 : Int32)), .unset, .unset] [(.long q1), (.int (1 : Int32)), (.ref b10), (.ref b10)])) τ
      refine XS.lloadN X10.here hx rfl (hb hby at_20) rfl ?_
      show Steps p.tables e below (T10.setTop (mkF m 21 #[.val (.int f), .val (.long q1), .second, .val (.long q2), .second, .val (.long q3), .second, .val (.long q4), .second, .val (.int (1 : Int32)), .unset, .unset] [(.long q2), (.long q1), (.int (1 : Int32)), (.ref b10), (.ref b10)])) τ
      refine XS.lload X10.here hx rfl (hb hby at_21) rfl ?_
      show Steps p.tables e below (T10.setTop (mkF m 23 #[.val (.int f), .val (.long q1), .second, .val (.long q2), .second, .val (.long q3), .second, .val (.long q4), .second, .val (.int (1 : Int32)), .unset, .unset] [(.long q3), (.long q2), (.long q1), (.int (1 : Int32)), (.ref b10), (.ref b10)])) τ
      refine XS.lload X10.here hx rfl (hb hby at_23) rfl ?_
      show Steps p.tables e below (T10.setTop (mkF m 25 #[.val (.int f), .val (.long q1), .second, .val (.long q2), .second, .val (.long q3), .second, .val (.long q4), .second, .val (.int (1 : Int32)), .unset, .unset] [(.long q4), (.long q3), (.long q2), (.long q1), (.int (1 : Int32)), (.ref b10), (.ref b10)])) τ
      exact κ)
    obtain ⟨_, _, ⟨T11, Lx11, kx11, nx11⟩, -, X11, ⟨Lc11, hQ11, l11, y11, z11⟩, st11⟩ := X10.specialBack hx (y := (⟨"com/example/neti/neti/Take", "<init>", "(ZJJJJ)V"⟩ : MethodName)) rfl hown (mvT hZ (hw _ (List.mem_of_getElem? (i := 3) rfl))) (mvT hZ (hw _ (List.mem_of_getElem? (i := 4) rfl))) (mvT hZ (hw _ (List.mem_of_getElem? (i := 5) rfl))) (by decide) (backOf (W := 1) (rm1 l Z a0 hw [] b10 (1 : Int32) q1 q2 q3 q4 (.int (0 : Int32)) (.long (0 : Int64)) (.long (0 : Int64)) (.long (0 : Int64)) (.long (0 : Int64)) h10 n0 Zn g_b10 E_b10 F_taken_b10 F_fencingToken_b10 F_deadline_b10 F_timeToLiveMillis_b10 F_backoffNanos_b10) hZ (hw _ (List.mem_of_getElem? (i := 5) rfl)) (hw _ (List.mem_of_getElem? (i := 2) rfl)) (by decide) (by decide)) (g := (mkF m 25 #[.val (.int f), .val (.long q1), .second, .val (.long q2), .second, .val (.long q3), .second, .val (.long q4), .second, .val (.int (1 : Int32)), .unset, .unset] [(.long q4), (.long q3), (.long q2), (.long q1), (.int (1 : Int32)), (.ref b10), (.ref b10)])) rfl (by rw [hml]; rfl) (Steps.refl _) (a := b10) (argsL := [(.int (1 : Int32)), (.long q1), (.long q2), (.long q3), (.long q4)]) (rest := [(.ref b10)]) (lenOf pd_1 rfl) rfl (by show 2 * 0 + _ ≤ _; exact Nat.le_of_eq rfl) (hb hby at_25) (fun _ _ => ⟨rfl, e10, (by decide : 1 + 0 ≤ _), (by decide : 5 + 0 ≤ _)⟩)
    dsimp only [Pt.U, Pt.locs, Pt.cells, Pt.slots] at X11 l11 y11 z11 st11 hQ11
    subst l11 y11 z11
    obtain ⟨rfl, Nq11, Kc11, E_o_11, F_taken_11, F_fencingToken_11, F_deadline_11, F_timeToLiveMillis_11, F_backoffNanos_11⟩ := hQ11
    have NN := Fr.app N0 Nq11
    have E_b10 : Exa Z T11.heap b10 "com/example/neti/neti/Take" := E_b10.keep Kc11
    have Zn : n0 ≤ T11.heap.size := Nat.le_trans Zn Kc11.1
    have pre : ∀ τ, Steps p.tables e below (T11.setTop (mkF m 28 #[.val (.int f), .val (.long q1), .second, .val (.long q2), .second, .val (.long q3), .second, .val (.long q4), .second, .val (.int (1 : Int32)), .unset, .unset] [(.ref b10)])) τ → G τ := fun τ κ => pre τ (st11.trans κ)
    have pre : ∀ τ, Steps p.tables e below (T11.setTop (mkF m 32 #[.val (.int f), .val (.long q1), .second, .val (.long q2), .second, .val (.long q3), .second, .val (.long q4), .second, .val (.int (1 : Int32)), .val (.ref b10), .unset] [(.int (1 : Int32))])) τ → G τ := fun τ κ => pre τ (by
      refine XS.astore X11.here hx rfl (hb hby at_28) rfl rfl (l' := #[.val (.int f), .val (.long q1), .second, .val (.long q2), .second, .val (.long q3), .second, .val (.long q4), .second, .val (.int (1 : Int32)), .val (.ref b10), .unset]) rfl ?_
      show Steps p.tables e below (T11.setTop (mkF m 30 #[.val (.int f), .val (.long q1), .second, .val (.long q2), .second, .val (.long q3), .second, .val (.long q4), .second, .val (.int (1 : Int32)), .val (.ref b10), .unset] [])) τ
      refine XS.iload X11.here hx rfl (hb hby at_30) rfl ?_
      show Steps p.tables e below (T11.setTop (mkF m 32 #[.val (.int f), .val (.long q1), .second, .val (.long q2), .second, .val (.long q3), .second, .val (.long q4), .second, .val (.int (1 : Int32)), .val (.ref b10), .unset] [(.int (1 : Int32))])) τ
      exact κ)
    have hc12 : ¬ ((1 : Int32) = (0 : Int32)) := (by decide)
    have pre : ∀ τ, Steps p.tables e below (T11.setTop (mkF m 59 #[.val (.int f), .val (.long q1), .second, .val (.long q2), .second, .val (.long q3), .second, .val (.long q4), .second, .val (.int (1 : Int32)), .val (.ref b10), .val (.int (0 : Int32))] [(.ref b10)])) τ → G τ := fun τ κ => pre τ (by
      refine XS.ifNo X11.here hx rfl (hb hby at_32) rfl ((if0 _ _).trans (feq hc12).1) ?_
      show Steps p.tables e below (T11.setTop (mkF m 35 #[.val (.int f), .val (.long q1), .second, .val (.long q2), .second, .val (.long q3), .second, .val (.long q4), .second, .val (.int (1 : Int32)), .val (.ref b10), .unset] [])) τ
      refine XS.iconst X11.here hx rfl (hb hby at_35) ?_
      show Steps p.tables e below (T11.setTop (mkF m 36 #[.val (.int f), .val (.long q1), .second, .val (.long q2), .second, .val (.long q3), .second, .val (.long q4), .second, .val (.int (1 : Int32)), .val (.ref b10), .unset] [(.int (0 : Int32))])) τ
      refine XS.istore X11.here hx rfl (hb hby at_36) rfl (l' := #[.val (.int f), .val (.long q1), .second, .val (.long q2), .second, .val (.long q3), .second, .val (.long q4), .second, .val (.int (1 : Int32)), .val (.ref b10), .val (.int (0 : Int32))]) rfl ?_
      show Steps p.tables e below (T11.setTop (mkF m 38 #[.val (.int f), .val (.long q1), .second, .val (.long q2), .second, .val (.long q3), .second, .val (.long q4), .second, .val (.int (1 : Int32)), .val (.ref b10), .val (.int (0 : Int32))] [])) τ
      refine XS.goto X11.here hx rfl (pc0 := 38) (pc' := 57) rfl (hb hby at_38) (by decide) (by decide) ?_
      show Steps p.tables e below (T11.setTop (mkF m 57 #[.val (.int f), .val (.long q1), .second, .val (.long q2), .second, .val (.long q3), .second, .val (.long q4), .second, .val (.int (1 : Int32)), .val (.ref b10), .val (.int (0 : Int32))] [])) τ
      refine XS.aload X11.here hx rfl (hb hby at_57) rfl rfl ?_
      show Steps p.tables e below (T11.setTop (mkF m 59 #[.val (.int f), .val (.long q1), .second, .val (.long q2), .second, .val (.long q3), .second, .val (.long q4), .second, .val (.int (1 : Int32)), .val (.ref b10), .val (.int (0 : Int32))] [(.ref b10)])) τ
      exact κ)
    obtain ⟨cq13, kq13, q13a, q13b, q13c⟩ := isOf hZ rfl E_b10
    obtain ⟨_, _, ⟨T13, Lx13, kx13, nx13⟩, -, X13, ⟨Lc13, hQ13, l13, y13, z13⟩, st13⟩ := X11.virtualBack hx (y := (⟨"com/example/neti/neti/Take", "expires", "()Z"⟩ : MethodName)) (z := (⟨"com/example/neti/neti/Take", "expires", "()Z"⟩ : MethodName)) hown (mvT hZ (hw _ (List.mem_of_getElem? (i := 24) rfl))) (mvT hZ (hw _ (List.mem_of_getElem? (i := 25) rfl))) (notFace_of_selects (args := #[]) (mvT hZ (hw _ (List.mem_of_getElem? (i := 27) rfl)))) (mvT hZ (hw _ (List.mem_of_getElem? (i := 27) rfl))) (mvT hZ (hw _ (List.mem_of_getElem? (i := 26) rfl))) (by decide) (backOf (W := 0) (rm4 l Z a0 hw [] b10 (nar .boolean (1 : Int32)) q3 T11.heap n0 Zn F_taken_11 F_timeToLiveMillis_11) hZ (hw _ (List.mem_of_getElem? (i := 28) rfl)) (hw _ (List.mem_of_getElem? (i := 2) rfl)) (by decide) (by decide)) q13a q13c (g := (mkF m 59 #[.val (.int f), .val (.long q1), .second, .val (.long q2), .second, .val (.long q3), .second, .val (.long q4), .second, .val (.int (1 : Int32)), .val (.ref b10), .val (.int (0 : Int32))] [(.ref b10)])) rfl (by rw [hml]; rfl) (Steps.refl _) (argsL := []) (rest := []) (lenOf pd_2 rfl) rfl (by show 2 * 0 + _ ≤ _; exact Nat.le_of_eq rfl) (hb hby at_59) (fun _ _ => ⟨rfl, rfl, (by decide : 1 + 0 ≤ _), (by decide : 5 + 0 ≤ _)⟩)
    dsimp only [Pt.U, Pt.locs, Pt.cells, Pt.slots] at X13 l13 y13 z13 st13 hQ13
    subst l13 y13 z13
    obtain ⟨rfl, Nq13, hs13⟩ := hQ13
    have NN := Fr.app NN Nq13
    have pre : ∀ τ, Steps p.tables e below (T13.setTop (mkF m 62 #[.val (.int f), .val (.long q1), .second, .val (.long q2), .second, .val (.long q3), .second, .val (.long q4), .second, .val (.int (1 : Int32)), .val (.ref b10), .val (.int (0 : Int32))] [(.int (own_exp (nar .boolean (1 : Int32)) q3))])) τ → G τ := fun τ κ => pre τ (st13.trans κ)
    have pre : ∀ τ, Steps p.tables e below (T13.setTop (mkF m 64 #[.val (.int f), .val (.long q1), .second, .val (.long q2), .second, .val (.long q3), .second, .val (.long q4), .second, .val (.int (1 : Int32)), .val (.ref b10), .val (.int (0 : Int32))] [(.int (0 : Int32)), (.int (own_exp (nar .boolean (1 : Int32)) q3))])) τ → G τ := fun τ κ => pre τ (by
      refine XS.iload X13.here hx rfl (hb hby at_62) rfl ?_
      show Steps p.tables e below (T13.setTop (mkF m 64 #[.val (.int f), .val (.long q1), .second, .val (.long q2), .second, .val (.long q3), .second, .val (.long q4), .second, .val (.int (1 : Int32)), .val (.ref b10), .val (.int (0 : Int32))] [(.int (0 : Int32)), (.int (own_exp (nar .boolean (1 : Int32)) q3))])) τ
      exact κ)
    have hc14 : (own_exp (nar .boolean (1 : Int32)) q3) = (0 : Int32) := (by simp [own_exp, nar, hc3_1, hc12])
    have pre : ∀ τ, Steps p.tables e below (T13.setTop (mkF m 72 #[.val (.int f), .val (.long q1), .second, .val (.long q2), .second, .val (.long q3), .second, .val (.long q4), .second, .val (.int (1 : Int32)), .val (.ref b10), .val (.int (0 : Int32))] [(.int (1 : Int32))])) τ → G τ := fun τ κ => pre τ (by
      refine XS.icmpNo X13.here hx rfl (hb hby at_64) rfl (teq hc14).2 ?_
      show Steps p.tables e below (T13.setTop (mkF m 67 #[.val (.int f), .val (.long q1), .second, .val (.long q2), .second, .val (.long q3), .second, .val (.long q4), .second, .val (.int (1 : Int32)), .val (.ref b10), .val (.int (0 : Int32))] [])) τ
      refine XS.iconst X13.here hx rfl (hb hby at_67) ?_
      show Steps p.tables e below (T13.setTop (mkF m 68 #[.val (.int f), .val (.long q1), .second, .val (.long q2), .second, .val (.long q3), .second, .val (.long q4), .second, .val (.int (1 : Int32)), .val (.ref b10), .val (.int (0 : Int32))] [(.int (1 : Int32))])) τ
      refine XS.goto X13.here hx rfl (pc0 := 68) (pc' := 72) rfl (hb hby at_68) (by decide) (by decide) ?_
      show Steps p.tables e below (T13.setTop (mkF m 72 #[.val (.int f), .val (.long q1), .second, .val (.long q2), .second, .val (.long q3), .second, .val (.long q4), .second, .val (.int (1 : Int32)), .val (.ref b10), .val (.int (0 : Int32))] [(.int (1 : Int32))])) τ
      exact κ)
    obtain ⟨fs, hr, hrun, hended, hW, hsame⟩ := X13.leave (v := some (.int (1 : Int32))) (fun h => by rw [Bd.returns] at h; cases h)
    refine hGL ⟨_, _, hG _ (pre _ ?_), hrun, hended, _, _, rfl, ?_, ⟨_, rfl⟩, hW, hsame.mono (by decide) (by decide)⟩
    · exact retN X13 hx (t := .boolean) Bd.returns (by simp) (hb hby at_72) hr
    · show Q0 Z f q1 q2 q3 q4 h0 n0 _ T13.heap _
      rw [hs13]
      exact ⟨rfl, NN⟩
set_option maxRecDepth 65536 in
set_option maxHeartbeats 40000000 in
theorem comes_1 {Post : Tables → Env → Array Value → State → Outcome → State → Prop} (hpost : ∀ tb e args s v u, (limb_1_1.after args s (.returned v) u = true ∧ limb_1_2.after args s (.returned v) u = true ∧ True) → FrameEnd s (.returned v) u (Jvm.fieldLocs frame_1_writes args s ++ Jvm.arrayLocs frame_1_arrays args s ++ Jvm.staticLocs frame_1_statics s) 16 128 → Post tb e args s (.returned v) u) :
    ArmFor flags0 classFile x code maxLocals ret World_1 tables_1 room_1 Calls_1 rest_1 Pre_1 Post := by
  intro l hfl _ _ p e ha hc hk s m args below hf hA hF happ hP
  obtain ⟨hcalls, hrest, hpre⟩ := hP
  obtain ⟨-, -, -, hnamed, -, -, -, hat⟩ := (Spec.applies_iff hf).mp happ
  obtain ⟨hg, hn⟩ := and_e (Cond.before_iff.mp (show (Jvm.Cond.and given_1 narrow_1).before args s = true from hpre))
  obtain ⟨gv1, gv2⟩ := and_e hg
  obtain ⟨gv3, gv4⟩ := and_e gv2
  obtain ⟨gv5, gv6⟩ := and_e gv4
  obtain ⟨gv7, gv8⟩ := and_e gv6
  obtain ⟨gv9, gv10⟩ := and_e gv8
  obtain ⟨w0, w1, w2, w3, w4, rfl⟩ : ∃ w0 w1 w2 w3 w4 : Value, args = #[w0, w1, w2, w3, w4] := by
    have hs : args.size = 5 := by simpa [Cond.value, given_1] using gv1
    obtain ⟨L⟩ := args
    match L, hs with
    | [w0, w1, w2, w3, w4], _ => exact ⟨w0, w1, w2, w3, w4, rfl⟩
  have hw := fun d (hd : d ∈ tables_1) => atoms_spec (ws := Jvm.Cond.code x code maxLocals ret :: tables_1) hat d (List.mem_cons_of_mem _ hd)
  have hfit : Fit s := fun {y c} hc i hi => by
    obtain ⟨ha, rfl⟩ := Array.getElem?_eq_some_iff.mp hc
    have q := List.all_eq_true.mp ((Array.all_eq_true_iff_forall_mem.mp hF) _ (Array.getElem_mem ha)) i (List.mem_range.mpr hi)
    simpa [Array.getElem?_eq_getElem hi] using q
  obtain ⟨i0, ei0⟩ := is_v gv3
  obtain rfl : w0 = (.int i0) := Option.some.inj ei0
  obtain ⟨i1, ei1⟩ := isL_v gv5
  obtain rfl : w1 = (.long i1) := Option.some.inj ei1
  obtain ⟨i2, ei2⟩ := isL_v gv7
  obtain rfl : w2 = (.long i2) := Option.some.inj ei2
  obtain ⟨i3, ei3⟩ := isL_v gv9
  obtain rfl : w3 = (.long i3) := Option.some.inj ei3
  obtain ⟨i4, ei4⟩ := isL_v gv10
  obtain rfl : w4 = (.long i4) := Option.some.inj ei4
  obtain ⟨n, o, h1, h2, h3, _, L, rfl, ⟨rfl, N⟩, hq⟩ := rm0 l s _ hw tables_1 i0 i1 i2 i3 i4  s.heap s.heap.size (Nat.le_refl _)  p e ha hc hk s m _ below hf ((Spec.applies_iff_loose hf).mp happ).1 ⟨rfl, State.Warmed39.refl s, rfl⟩ trivial
  refine ⟨n, _, h1, h2, h3, hpost _ _ _ _ _ _ ⟨Cond.after_iff.mpr rfl, Cond.after_iff.mpr (eq_i res_at (Term.int_eval (1)) rfl), trivial⟩ ⟨hq.1, hq.2.1, (hq.2.2.sift fun y hy => Or.inr (N y hy)).mono (by decide) (by decide)⟩⟩
theorem main_1_1 : Claimed_1_1 := comes_1 fun _ _ _ _ _ _ h hF => ⟨h.1, hF⟩
theorem main_1_2 : Claimed_1_2 := comes_1 fun _ _ _ _ _ _ h hF => ⟨h.2.1, hF⟩
end Jvm.Pilot.@@N@@
namespace Jvm.Pilot.@@N@@
open Jvm Jvm.ClassFile Sem Op Lib Jvm.Free Jvm.Stand Jvm.Pilot.@@N@@.Jvm.D
/-! MADE BY PROGRAM (witnessworld.py) out of the Statement's table words and the real class files: 10 classes; the members and pool entries that the words name. The judged class is class 1, her method 1. -/
namespace start1
open Jvm.ClassFile
def u (s : String) : CpInfo := .utf8 (stringToUtf16 s)
/-- a pool by its gaps: so many unusable entries, then the entry; so many at the end -/
def gap : Nat → List CpInfo → List CpInfo
  | 0, r => r
  | n + 1, r => .unusable :: gap n r
def poolList (es : List (Nat × CpInfo)) (last : Nat) : List CpInfo := es.foldr (fun e r => gap e.1 (e.2 :: r)) (gap last [])
def pool (es : List (Nat × CpInfo)) (last : Nat) : Array CpInfo := ⟨poolList es last⟩
def fileOf (pool : Array CpInfo) (this : Nat) (attrs : Array Attribute := #[]) (ms : Array MethodInfo := #[]) (fl : Nat := 33) (sup : Nat := 0) (ifs : Array Nat := #[]) (fds : Array FieldInfo := #[]) : ClassFile where
  minorVersion := 0
  majorVersion := 65
  constantPool := pool
  accessFlags := fl
  thisClass := this
  superClass := sup
  interfaces := ifs
  fields := fds
  methods := ms
  attributes := attrs
def plain (name : String) (sup : Option ClassId) : Class where
  name := name
  kind := .ordinary
  loader := none
  accessFlags := 33
  super := sup
  interfaces := #[]
  cf := none
  fields := #[]
  methods := #[]
  instanceTypes := #[]
  staticTypes := #[]
  resolved := #[]
  callSites := []
  init := .initialized
  statics := none
  mirror := none

def pool0 : Array CpInfo := pool [(5, u "<init>"), (0, u "()V"), (1, .class_ 10), (1, u "java/lang/Object")] 113

def k0c0 : Code := { maxStack := 0, maxLocals := 1, code := object_method_1_code, exceptionTable := #[], attributes := #[] }
def k0m0 : Method := { name := "<init>", desc := "()V", sig := { parameters := [], returnType := none }, accessFlags := 1, code := some k0c0 }
/-- java/lang/Object -/
def k0 : Class := { plain "java/lang/Object" none with
  accessFlags := 33
  interfaces := #[]
  cf := some (fileOf pool0 8 #[] #[{ accessFlags := 1, nameIndex := 5, descriptorIndex := 6, attributes := #[] }] 33 0 #[] #[])
  fields := #[]
  methods := #[k0m0]
  instanceTypes := #[]
  staticTypes := #[]
  resolved := Array.replicate 124 none
  statics := none }

def pool1 : Array CpInfo := pool [(2, .class_ 4), (1, u "java/lang/Object"), (0, u "<init>"), (0, u "()V"), (0, .class_ 8), (0, u "com/example/neti/neti/Take"), (0, .methodref 7 10), (0, .nameAndType 5 11), (0, u "(ZJJJJ)V"), (0, .methodref 7 13), (0, .nameAndType 14 15), (0, u "expires"), (0, u "()Z"), (0, .class_ 17), (0, u "com/example/neti/neti/TakeExpiresPinLaw"), (2, u "law"), (0, u "(IJJJJ)Z")] 3

def k1m0 : Method := { name := "<init>", desc := "()V", sig := { parameters := [], returnType := none }, accessFlags := 1, code := none }
def k1c1 : Code := { maxStack := 11, maxLocals := 12, code := code, exceptionTable := #[], attributes := #[] }
def k1m1 : Method := { name := "law", desc := "(IJJJJ)Z", sig := { parameters := [.int, .long, .long, .long, .long], returnType := some .boolean }, accessFlags := 9, code := some k1c1 }
/-- com/example/neti/neti/TakeExpiresPinLaw -/
def k1 : Class := { plain "com/example/neti/neti/TakeExpiresPinLaw" (some 0) with
  accessFlags := 49
  interfaces := #[]
  cf := some (fileOf pool1 16 #[] #[{ accessFlags := 1, nameIndex := 5, descriptorIndex := 6, attributes := #[] }, { accessFlags := 9, nameIndex := 20, descriptorIndex := 21, attributes := #[] }] 49 2 #[] #[])
  fields := #[]
  methods := #[k1m0, k1m1]
  instanceTypes := #[]
  staticTypes := #[]
  resolved := Array.replicate 25 none
  statics := none }

def pool2 : Array CpInfo := pool [(1, .methodref 2 3), (0, .class_ 4), (0, .nameAndType 5 6), (0, u "java/lang/Object"), (0, u "<init>"), (0, u "()V"), (0, .class_ 8), (0, u "java/lang/Record")] 13

def k2c0 : Code := { maxStack := 1, maxLocals := 1, code := jdk_30_method_1_code, exceptionTable := #[], attributes := #[] }
def k2m0 : Method := { name := "<init>", desc := "()V", sig := { parameters := [], returnType := none }, accessFlags := 4, code := some k2c0 }
/-- java/lang/Record -/
def k2 : Class := { plain "java/lang/Record" (some 0) with
  accessFlags := 1057
  interfaces := #[]
  cf := some (fileOf pool2 7 #[] #[{ accessFlags := 4, nameIndex := 5, descriptorIndex := 6, attributes := #[] }] 1057 2 #[] #[])
  fields := #[]
  methods := #[k2m0]
  instanceTypes := #[]
  staticTypes := #[]
  resolved := Array.replicate 22 none
  statics := none }

def pool3 : Array CpInfo := pool [(1, .methodref 2 3), (0, .class_ 4), (0, .nameAndType 5 6), (0, u "java/lang/Record"), (0, u "<init>"), (0, u "()V"), (0, .fieldref 8 9), (0, .class_ 10), (0, .nameAndType 11 12), (0, u "com/example/neti/neti/Take"), (0, u "taken"), (0, u "Z"), (0, .fieldref 8 14), (0, .nameAndType 15 16), (0, u "fencingToken"), (0, u "J"), (0, .fieldref 8 18), (0, .nameAndType 19 16), (0, u "deadline"), (0, .fieldref 8 21), (0, .nameAndType 22 16), (0, u "timeToLiveMillis"), (0, .fieldref 8 24), (0, .nameAndType 25 16), (0, u "backoffNanos"), (2, u "(ZJJJJ)V"), (41, u "expires"), (0, u "()Z")] 27

def k3c0 : Code := { maxStack := 3, maxLocals := 10, code := prog_4_method_1_code, exceptionTable := #[], attributes := #[] }
def k3m0 : Method := { name := "<init>", desc := "(ZJJJJ)V", sig := { parameters := [.boolean, .long, .long, .long, .long], returnType := none }, accessFlags := 0, code := some k3c0 }
def k3c1 : Code := { maxStack := 4, maxLocals := 1, code := prog_4_method_6_code, exceptionTable := #[], attributes := #[] }
def k3m1 : Method := { name := "expires", desc := "()Z", sig := { parameters := [], returnType := some .boolean }, accessFlags := 0, code := some k3c1 }
/-- com/example/neti/neti/Take -/
def k3 : Class := { plain "com/example/neti/neti/Take" (some 2) with
  accessFlags := 48
  interfaces := #[]
  cf := some (fileOf pool3 8 #[] #[{ accessFlags := 0, nameIndex := 5, descriptorIndex := 28, attributes := #[] }, { accessFlags := 0, nameIndex := 70, descriptorIndex := 71, attributes := #[] }] 48 2 #[] #[{ accessFlags := 18, nameIndex := 11, descriptorIndex := 12, attributes := #[] }, { accessFlags := 18, nameIndex := 15, descriptorIndex := 16, attributes := #[] }, { accessFlags := 18, nameIndex := 19, descriptorIndex := 16, attributes := #[] }, { accessFlags := 18, nameIndex := 22, descriptorIndex := 16, attributes := #[] }, { accessFlags := 18, nameIndex := 25, descriptorIndex := 16, attributes := #[] }])
  fields := #[{ name := "taken", type := .boolean, accessFlags := 18, slot := 0, constantValue := 0 }, { name := "fencingToken", type := .long, accessFlags := 18, slot := 1, constantValue := 0 }, { name := "deadline", type := .long, accessFlags := 18, slot := 2, constantValue := 0 }, { name := "timeToLiveMillis", type := .long, accessFlags := 18, slot := 3, constantValue := 0 }, { name := "backoffNanos", type := .long, accessFlags := 18, slot := 4, constantValue := 0 }]
  methods := #[k3m0, k3m1]
  instanceTypes := #[.boolean, .long, .long, .long, .long]
  staticTypes := #[]
  resolved := Array.replicate 99 none
  statics := none }

def pool4 : Array CpInfo := pool [(1, u "java/lang/Cloneable"), (0, .class_ 1), (0, u "java/lang/Object"), (0, .class_ 3)] 3

/-- java/lang/Cloneable -/
def k4 : Class := { plain "java/lang/Cloneable" (some 0) with
  accessFlags := 1537
  interfaces := #[]
  cf := some (fileOf pool4 2 #[] #[] 1537 4 #[] #[])
  fields := #[]
  methods := #[]
  instanceTypes := #[]
  staticTypes := #[]
  resolved := Array.replicate 8 none
  statics := none }

def pool5 : Array CpInfo := pool [(1, u "java/io/Serializable"), (0, .class_ 1), (0, u "java/lang/Object"), (0, .class_ 3)] 3

/-- java/io/Serializable -/
def k5 : Class := { plain "java/io/Serializable" (some 0) with
  accessFlags := 1537
  interfaces := #[]
  cf := some (fileOf pool5 2 #[] #[] 1537 4 #[] #[])
  fields := #[]
  methods := #[]
  instanceTypes := #[]
  staticTypes := #[]
  resolved := Array.replicate 8 none
  statics := none }

/-- the primitive byte -/
def k6 : Class := { plain "byte" none with kind := .primitive 'B', accessFlags := 0x411 }
/-- [B -/
def k7 : Class := { plain "[B" (some 0) with kind := .array 6 .byte, interfaces := #[4, 5], accessFlags := 1041 }

/-- the primitive int -/
def k8 : Class := { plain "int" none with kind := .primitive 'I', accessFlags := 0x411 }
/-- [I -/
def k9 : Class := { plain "[I" (some 0) with kind := .array 8 .int, interfaces := #[4, 5], accessFlags := 1041 }

def heap : Heap := #[]
def classes : Array Class := #[k0, k1, k2, k3, k4, k5, k6, k7, k8, k9]
def interned : List (Array UInt16 × Addr) := []
def slotsUsed : Nat := 0
def theMethod : MethodId := ⟨1, 1⟩
def args0 : Array Value := #[.int 1, .long 5, .long 9, .long 1, .long 2]
def aboutOver (below : List Frame) : State where
  vm := { classes := classes, interned := interned.toArray }
  heap := heap
  slotsUsed := slotsUsed
  threads := #[{ frames := .invoking theMethod args0 :: below }]
def below0 : List Frame := [.native { method := ⟨0, 0⟩, args := #[] }]
def about1 : State := aboutOver below0
def p0 : Program := .bare "" "" ""
def e0 : Env := launch0.env 0 0 0
theorem w_frames : about1.frames = Frame.invoking theMethod args0 :: below0 := rfl
set_option maxRecDepth 65536 in
theorem w_args : argsFit about1.vm theMethod args0 = true := by decide +kernel
set_option maxRecDepth 65536 in
theorem w_heap : heapFits about1 = true := by decide +kernel
set_option maxRecDepth 65536 in
theorem w_runnable : about1.curStatus? = some .runnable := by decide +kernel
set_option maxRecDepth 65536 in
theorem w_alone : about1.alone = true := by decide +kernel
set_option maxRecDepth 65536 in
theorem w_named : about1.methodNamed? x = some theMethod := by decide +kernel
set_option maxRecDepth 65536 in
theorem w_hears : about1.hears theMethod below0 = true := by decide +kernel
set_option maxRecDepth 65536 in
theorem w_ripe : about1.ripe theMethod args0 below0 = true := by decide +kernel
theorem w_running : about1.status = .running := rfl
set_option maxRecDepth 65536 in
theorem w_room : about1.hasRoom e0.platform room_1 = true :=
  launch0.hasRoom_least _ room_1 (by decide +kernel) (by decide +kernel) (by decide +kernel) (by decide +kernel) (by decide +kernel) (by decide +kernel)
theorem allAtoms_all (ts : List Jvm.Cond) (a : Array Jvm.Value) (st : Jvm.State) : (allAtoms ts).before a st = ts.all (fun c => c.before a st) := by
  induction ts with
  | nil => rfl
  | cons c t ih =>
    show (Jvm.Cond.and c (allAtoms t)).before a st = _
    rw [Jvm.Cond.before_and, ih, List.all_cons]
def words1 : List Jvm.Cond := Jvm.Cond.code x code maxLocals ret :: tables_1
/-- a 'code' word, met by the world's own term for the bytes: nothing is compared byte by byte -/
theorem code_word {y : MethodName} {bytes : ByteArray} {mx : Nat} {rt : Option FieldType} {a : Array Value} {s : State} {m : MethodId} {meth : Method} {c : Code} (h1 : s.methodNamed? y = some m) (h2 : s.vm.method? m = some meth) (h3 : meth.code = some c) (h4 : c.code = bytes)
    (h5 : (c.maxLocals == mx && c.exceptionTable.isEmpty && decide (c.maxStack ≤ mostOperands) && decide (meth.sig.returnType = rt) && !meth.locks && decide (parseMethodDescriptor y.desc = some meth.sig)) = true) : (Jvm.Cond.code y bytes mx rt).before a s = true := by
  simp only [Bool.and_eq_true, beq_iff_eq, Bool.not_eq_true', decide_eq_true_eq] at h5
  obtain ⟨⟨⟨⟨⟨g1, g2⟩, g3⟩, g4⟩, g5⟩, g6⟩ := h5
  simp [Cond.before, Cond.holds, Cond.value, h1, h2, h3, h4, g1, g2, g3, g4, g5, g6]
def isCode : Jvm.Cond → Bool
  | .code _ _ _ _ => true
  | _ => false
theorem all_split {L : List Jvm.Cond} {P : Jvm.Cond → Bool} (h1 : L.all (fun c => isCode c || P c) = true) (h2 : ∀ c ∈ L.filter isCode, P c = true) : L.all P = true := by
  refine List.all_eq_true.mpr fun c hc => ?_
  have h := List.all_eq_true.mp h1 c hc
  rcases Bool.eq_false_or_eq_true (isCode c) with hi | hi
  · exact h2 c (List.mem_filter.mpr ⟨hc, hi⟩)
  · simpa [hi] using h
set_option maxRecDepth 65536 in
theorem w_c0 : (Jvm.Cond.code x code maxLocals ret).before args0 about1 = true := code_word (m := ⟨1, 1⟩) (meth := k1m1) (c := k1c1) (by decide +kernel) rfl rfl rfl (by decide +kernel)
set_option maxRecDepth 65536 in
theorem w_c1 : (Jvm.Cond.code ({ cls := "com/example/neti/neti/Take", name := "<init>", desc := "(ZJJJJ)V" } : Jvm.MethodName) prog_4_method_1_code (10 : Nat) (Option.none : Option Jvm.ClassFile.FieldType)).before args0 about1 = true := code_word (m := ⟨3, 0⟩) (meth := k3m0) (c := k3c0) (by decide +kernel) rfl rfl rfl (by decide +kernel)
set_option maxRecDepth 65536 in
theorem w_c2 : (Jvm.Cond.code ({ cls := "java/lang/Record", name := "<init>", desc := "()V" } : Jvm.MethodName) jdk_30_method_1_code (1 : Nat) (Option.none : Option Jvm.ClassFile.FieldType)).before args0 about1 = true := code_word (m := ⟨2, 0⟩) (meth := k2m0) (c := k2c0) (by decide +kernel) rfl rfl rfl (by decide +kernel)
set_option maxRecDepth 65536 in
theorem w_c3 : (Jvm.Cond.code ({ cls := "java/lang/Object", name := "<init>", desc := "()V" } : Jvm.MethodName) object_method_1_code (1 : Nat) (Option.none : Option Jvm.ClassFile.FieldType)).before args0 about1 = true := code_word (m := ⟨0, 0⟩) (meth := k0m0) (c := k0c0) (by decide +kernel) rfl rfl rfl (by decide +kernel)
set_option maxRecDepth 65536 in
theorem w_c4 : (Jvm.Cond.code ({ cls := "com/example/neti/neti/Take", name := "expires", desc := "()Z" } : Jvm.MethodName) prog_4_method_6_code (1 : Nat) (Option.some Jvm.ClassFile.FieldType.boolean)).before args0 about1 = true := code_word (m := ⟨3, 1⟩) (meth := k3m1) (c := k3c1) (by decide +kernel) rfl rfl rfl (by decide +kernel)
def codes1 : List Jvm.Cond := [Jvm.Cond.code x code maxLocals ret, Jvm.Cond.code ({ cls := "com/example/neti/neti/Take", name := "<init>", desc := "(ZJJJJ)V" } : Jvm.MethodName) prog_4_method_1_code (10 : Nat) (Option.none : Option Jvm.ClassFile.FieldType), Jvm.Cond.code ({ cls := "java/lang/Record", name := "<init>", desc := "()V" } : Jvm.MethodName) jdk_30_method_1_code (1 : Nat) (Option.none : Option Jvm.ClassFile.FieldType), Jvm.Cond.code ({ cls := "java/lang/Object", name := "<init>", desc := "()V" } : Jvm.MethodName) object_method_1_code (1 : Nat) (Option.none : Option Jvm.ClassFile.FieldType), Jvm.Cond.code ({ cls := "com/example/neti/neti/Take", name := "expires", desc := "()Z" } : Jvm.MethodName) prog_4_method_6_code (1 : Nat) (Option.some Jvm.ClassFile.FieldType.boolean)]
set_option maxRecDepth 65536 in
theorem codes_eq : words1.filter isCode = codes1 := rfl
theorem w_codes : ∀ c ∈ words1.filter isCode, c.before args0 about1 = true := by
  rw [codes_eq]
  intro c hc
  simp only [codes1, List.mem_cons, List.not_mem_nil, or_false] at hc
  rcases hc with rfl | rfl | rfl | rfl | rfl
  · exact w_c0
  · exact w_c1
  · exact w_c2
  · exact w_c3
  · exact w_c4
set_option maxRecDepth 65536 in
theorem w_t1 : (words1.take 24).all (fun c => isCode c || c.before args0 about1) = true := by decide +kernel
set_option maxRecDepth 65536 in
theorem w_t2 : (words1.drop 24).all (fun c => isCode c || c.before args0 about1) = true := by decide +kernel
theorem w_tables : (allAtoms (Jvm.Cond.code x code maxLocals ret :: tables_1)).before args0 about1 = true := by
  rw [allAtoms_all]
  show words1.all (fun c => c.before args0 about1) = true
  refine all_split ?_ w_codes
  rw [← List.take_append_drop 24 words1, List.all_append, w_t1, w_t2]
  rfl
set_option maxRecDepth 65536 in
theorem w_case : (Jvm.Cond.and given_1 narrow_1).before args0 about1 = true := by decide +kernel
theorem w_applies : (headSpec (Jvm.Cond.code x code maxLocals ret :: tables_1) room_1).applies x e0.platform about1 = true :=
  (Spec.applies_iff w_frames).mpr ⟨w_running, w_runnable, w_alone, w_named, w_hears, w_ripe, w_room, w_tables⟩
theorem atStart : AtStart classFile x code maxLocals ret World_1 tables_1 room_1 Calls_1 rest_1 Pre_1 launch0 p0 e0 about1 theMethod args0 below0 :=
  ⟨lists_1, trivial, launch0.admits_env _ _ _, launch0.least_env, fairChoices_fair.cas, fairChoices_fair.clock, w_frames, w_args, w_heap, w_applies, trivial, trivial, w_case⟩
end start1
theorem witness_1 : WitnessClaimed_1 := ⟨start1.p0, start1.e0, start1.about1, start1.theMethod, start1.args0, start1.below0, start1.atStart⟩
end Jvm.Pilot.@@N@@
