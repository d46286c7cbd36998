import JvmDerived
import JvmDerived.Pilot.@@N@@Statement
import JvmDerived.Pilot.@@N@@Code
set_option linter.unusedVariables false
set_option linter.unusedSimpArgs false
namespace Jvm.Pilot.@@N@@
open Jvm Jvm.ClassFile Sem Op Lib Jvm.Free Jvm.Stand Jvm.LawKit Jvm.RoadKit Bundle Jvm.Pilot.@@N@@.Jvm.D
theorem own_wrap {A : Prop} (h : ∀ GL : Prop, (A → GL) → GL) : A := h A id
def own_max (x y : Int32) : Int32 := if x < y then y else x
theorem own_b1 (x : Int32) : 0 ≤ (x &&& (1023 : Int32)).toInt ∧ (x &&& (1023 : Int32)).toInt ≤ 1431655764 := by
  have := c_mask x 1023 10 (by decide) (by decide)
  omega
theorem own_b2 (x : Int32) : 0 ≤ ((x &&& (2147483647 : Int32)) % (1431655765 : Int32)).toInt ∧ ((x &&& (2147483647 : Int32)) % (1431655765 : Int32)).toInt ≤ 1431655764 := by
  have h := c_mask x 2147483647 31 (by decide) (by decide)
  have h2 := (c_irem (x &&& 2147483647) 1431655765 1431655765 (by decide)).1 (by omega)
  omega
theorem own_key (n : Int32) (hb : 0 ≤ n.toInt ∧ n.toInt ≤ 1431655764) : (n + ((n + (1 : Int32)) / (2 : Int32))).toInt = (3 * n.toInt + 1) / 2 ∧ (((3 : Int64) * n.toInt64 + (1 : Int64)) / (2 : Int64)).toInt = (3 * n.toInt + 1) / 2 := by
  have k1 : (1 : Int32).toInt = 1 := by decide
  have k2 : (3 : Int64).toInt = 3 := by decide
  have k3 : (1 : Int64).toInt = 1 := by decide
  have a1 := c_iadd n 1
  have r1 := rng32 (n + 1)
  have s1 : (n + 1).toInt = n.toInt + 1 := by omega
  have d1 := (c_idiv (n + 1) 2 2 (by decide) (by decide)).1 (by omega)
  have a2 := c_iadd n ((n + 1) / 2)
  have r2 := rng32 (n + (n + 1) / 2)
  have s2 : (n + (n + 1) / 2).toInt = n.toInt + (n.toInt + 1) / 2 := by omega
  have m1 := c_lmul 3 n.toInt64
  rw [k2, c_i2l] at m1
  have r3 := rng64 (3 * n.toInt64)
  have s3 : (3 * n.toInt64).toInt = 3 * n.toInt := by omega
  have a3 := c_ladd (3 * n.toInt64) 1
  have r4 := rng64 (3 * n.toInt64 + 1)
  have s4 : (3 * n.toInt64 + 1).toInt = 3 * n.toInt + 1 := by omega
  have d2 := (c_ldiv (3 * n.toInt64 + 1) 2 2 (by decide) (by decide)).1 (by omega)
  constructor <;> omega
theorem own_law_t (n : Int32) (h : ((3 : Int64) * n.toInt64 + (1 : Int64)) / (2 : Int64) < (300 : Int64)) (hb : 0 ≤ n.toInt ∧ n.toInt ≤ 1431655764) : (own_max (300 : Int32) (n + ((n + (1 : Int32)) / (2 : Int32)))).toInt64 = (300 : Int64) := by
  obtain ⟨q1, q2⟩ := own_key n hb
  have k1 : (300 : Int32).toInt = 300 := by decide
  have k2 : (300 : Int64).toInt = 300 := by decide
  rw [Int64.lt_iff_toInt_lt] at h
  unfold own_max
  rw [if_neg]
  · decide
  · rw [Int32.lt_iff_toInt_lt]; omega
theorem own_law_f (n : Int32) (h : ¬ ((3 : Int64) * n.toInt64 + (1 : Int64)) / (2 : Int64) < (300 : Int64)) (hb : 0 ≤ n.toInt ∧ n.toInt ≤ 1431655764) : (own_max (300 : Int32) (n + ((n + (1 : Int32)) / (2 : Int32)))).toInt64 = ((3 : Int64) * n.toInt64 + (1 : Int64)) / (2 : Int64) := by
  obtain ⟨q1, q2⟩ := own_key n hb
  have k1 : (300 : Int32).toInt = 300 := by decide
  have k2 : (300 : Int64).toInt = 300 := by decide
  rw [Int64.lt_iff_toInt_lt] at h
  apply Int64.toInt_inj.mp
  rw [c_i2l]
  unfold own_max
  split
  · omega
  · rename_i q; rw [Int32.lt_iff_toInt_lt] at q; omega
theorem d2_0 : decode jdk_29_method_65_code 0 = .ok (.iload_n 0, 1) := by decide +kernel
theorem d2_1 : decode jdk_29_method_65_code 1 = .ok (.iload_n 1, 1) := by decide +kernel
theorem d2_2 : decode jdk_29_method_65_code 2 = .ok (.if_icmp .lt 7, 3) := by decide +kernel
theorem d2_9 : decode jdk_29_method_65_code 9 = .ok (.iload_n 1, 1) := by decide +kernel
theorem d2_10 : decode jdk_29_method_65_code 10 = .ok (.ireturn, 1) := by decide +kernel
theorem d2_5 : decode jdk_29_method_65_code 5 = .ok (.iload_n 0, 1) := by decide +kernel
theorem d2_6 : decode jdk_29_method_65_code 6 = .ok (.goto 4, 3) := by decide +kernel
theorem ef_2 (m : MethodId) (x0 : Int32) (x1 : Int32) : entryFrame m #[(.int x0), (.int x1)] 2 = mkF m 0 #[.val (.int x0), .val (.int x1)] [] := by first | (simp [entryFrame, mkF, argsToLocals, Value.category]; done) | rfl
def Q2 (Z : State) (x : Int32) (y : Int32) (h0 : Heap) (n0 : Nat) (vα : Option Value) (hα : Heap) (Lα : List Loc) : Prop := vα = some (.int (own_max x y)) ∧ Fr n0 Lα ∧ hα = h0
set_option maxRecDepth 65536 in
set_option maxHeartbeats 40000000 in
theorem rm2 (l : Launch) (Z : State) (a0 : Array Value) (hw : ∀ d ∈ tables_1, d.before a0 Z = true) (ws : List Jvm.Cond) (x : Int32) (y : Int32) (h0 : Heap) (n0 : Nat) (Z0 : n0 ≤ h0.size) :
    MetFree l (⟨"java/lang/Math", "max", "(II)I"⟩ : MethodName) (head1 (Jvm.Cond.code (⟨"java/lang/Math", "max", "(II)I"⟩ : MethodName) jdk_29_method_65_code 2 (some .int) :: ws) ({ frames := 0, cells := 0, slots := 0, locals := 0 } : Room)) (fun aα U => aα = #[(.int x), (.int y)] ∧ Z.Warmed39 U.vm ∧ U.heap = h0) (fun _ _ _ _ _ => True) (fun _ U oα U' => ∃ vα Lα, oα = .returned vα ∧ Q2 Z x y h0 n0 vα U'.heap Lα ∧ FrameEnd U oα U' Lα ({ frames := 0, cells := 0, slots := 0, locals := 0 } : Room).cells ({ frames := 0, cells := 0, slots := 0, locals := 0 } : Room).slots) := by
  refine MetFree.of_bodySF (Jvm.Free.JP.mathPlain rfl (by decide +kernel)) hisR ?_
  intro p e s m args below meth c s₁ Bd hml0 hP hK
  refine own_wrap ?_
  intro GL hGL
  obtain ⟨rfl, hZ, hh⟩ := hP
  have hx := Bd.exec
  have hby := Bd.bytes
  have hml : c.maxLocals = 2 := hml0
  have hown : s.vm.findClass "java/lang/Math" = some m.cls := findClass_of_methodNamed Bd.named
  have hnm := (name_of_methodNamed Bd.named Bd.method).1
  have X0 : Stand p l e ({ frames := 0, cells := 0, slots := 0, locals := 0 } : Room) s m #[(.int x), (.int y)] below meth c s₁ [] 0 0 := Stand.of_body Bd
  have e0 : s₁.heap = h0 := by rw [← hh, Bd.state]; rfl
  have N0 := Fr.nil n0
  have pre0 : ∀ τ, Steps p.tables e below (s₁.setTop (mkF m 0 #[.val (.int x), .val (.int y)] [])) τ → Steps p.tables e below (s₁.setTop (entryFrame m #[(.int x), (.int y)] 2)) τ := fun τ κ => castTop (ef_2 m x y) κ
  obtain ⟨G, hG, pre⟩ : ∃ G : State → Prop, (∀ τ, G τ → Steps p.tables e below (s₁.setTop (entryFrame m #[(.int x), (.int y)] 2)) τ) ∧ ∀ τ, Steps p.tables e below (s₁.setTop (mkF m 0 #[.val (.int x), .val (.int y)] [])) τ → G τ := ⟨_, pre0, fun _ k => k⟩
  have K : Keep h0 h0 [] := Keep.refl h0 _
  have Zn := Z0
  have pre : ∀ τ, Steps p.tables e below (s₁.setTop (mkF m 2 #[.val (.int x), .val (.int y)] [(.int y), (.int x)])) τ → G τ := fun τ κ => pre τ (by
    refine XS.iloadN X0.here hx rfl (hb hby d2_0) rfl ?_
    show Steps p.tables e below (s₁.setTop (mkF m 1 #[.val (.int x), .val (.int y)] [(.int x)])) τ
    refine XS.iloadN X0.here hx rfl (hb hby d2_1) rfl ?_
    show Steps p.tables e below (s₁.setTop (mkF m 2 #[.val (.int x), .val (.int y)] [(.int y), (.int x)])) τ
    exact κ)
  rcases Classical.em (x < y) with hc2_1 | hc2_1
  ·
    have pre : ∀ τ, Steps p.tables e below (s₁.setTop (mkF m 10 #[.val (.int x), .val (.int y)] [(.int y)])) τ → G τ := fun τ κ => pre τ (by
      refine XS.icmpYes X0.here hx rfl (pc0 := 2) (pc' := 9) rfl (hb hby d2_2) rfl (tlt hc2_1).1 (by decide) (by decide) ?_
      show Steps p.tables e below (s₁.setTop (mkF m 9 #[.val (.int x), .val (.int y)] [])) τ
      refine XS.iloadN X0.here hx rfl (hb hby d2_9) rfl ?_
      show Steps p.tables e below (s₁.setTop (mkF m 10 #[.val (.int x), .val (.int y)] [(.int y)])) τ
      exact κ)
    obtain ⟨fs, hr, hrun, hended, hW, hsame⟩ := X0.leave (v := some (.int y)) (fun h => by rw [Bd.returns] at h; cases h)
    refine hGL ⟨_, _, hG _ (pre _ ?_), hrun, hended, _, _, rfl, ?_, ⟨_, rfl⟩, hW, hsame.mono (by decide) (by decide)⟩
    · exact retOut X0 hx Bd.returns rfl (Or.inl ⟨rfl, Or.inl rfl, _, rfl⟩) (hb hby d2_10) hr
    · show Q2 Z x y h0 n0 _ s₁.heap _
      rw [e0]
      refine ⟨?_, N0, rfl⟩
      simp [own_max, hc2_1]
  ·
    have pre : ∀ τ, Steps p.tables e below (s₁.setTop (mkF m 10 #[.val (.int x), .val (.int y)] [(.int x)])) τ → G τ := fun τ κ => pre τ (by
      refine XS.icmpNo X0.here hx rfl (hb hby d2_2) rfl (flt hc2_1).1 ?_
      show Steps p.tables e below (s₁.setTop (mkF m 5 #[.val (.int x), .val (.int y)] [])) τ
      refine XS.iloadN X0.here hx rfl (hb hby d2_5) rfl ?_
      show Steps p.tables e below (s₁.setTop (mkF m 6 #[.val (.int x), .val (.int y)] [(.int x)])) τ
      refine XS.goto X0.here hx rfl (pc0 := 6) (pc' := 10) rfl (hb hby d2_6) (by decide) (by decide) ?_
      show Steps p.tables e below (s₁.setTop (mkF m 10 #[.val (.int x), .val (.int y)] [(.int x)])) τ
      exact κ)
    obtain ⟨fs, hr, hrun, hended, hW, hsame⟩ := X0.leave (v := some (.int x)) (fun h => by rw [Bd.returns] at h; cases h)
    refine hGL ⟨_, _, hG _ (pre _ ?_), hrun, hended, _, _, rfl, ?_, ⟨_, rfl⟩, hW, hsame.mono (by decide) (by decide)⟩
    · exact retOut X0 hx Bd.returns rfl (Or.inl ⟨rfl, Or.inl rfl, _, rfl⟩) (hb hby d2_10) hr
    · show Q2 Z x y h0 n0 _ s₁.heap _
      rw [e0]
      refine ⟨?_, N0, rfl⟩
      simp [own_max, hc2_1]
theorem pn_0 : plainName "com/example/idlefleet/idlefleet/SamplingVoting" = true := by first | (simp [plainName, overriddenIn]; done) | decide +kernel
theorem d1_0 : decode prog_20_method_3_code 0 = .ok (.sipush 300, 3) := by decide +kernel
theorem d1_3 : decode prog_20_method_3_code 3 = .ok (.iload_n 0, 1) := by decide +kernel
theorem d1_4 : decode prog_20_method_3_code 4 = .ok (.iload_n 0, 1) := by decide +kernel
theorem d1_5 : decode prog_20_method_3_code 5 = .ok (.iconst 1, 1) := by decide +kernel
theorem d1_6 : decode prog_20_method_3_code 6 = .ok (.iadd, 1) := by decide +kernel
theorem d1_7 : decode prog_20_method_3_code 7 = .ok (.iconst 2, 1) := by decide +kernel
theorem d1_8 : decode prog_20_method_3_code 8 = .ok (.idiv, 1) := by decide +kernel
theorem d1_9 : decode prog_20_method_3_code 9 = .ok (.iadd, 1) := by decide +kernel
theorem d1_10 : decode prog_20_method_3_code 10 = .ok (.invokestatic 102, 3) := by decide +kernel
theorem pd_0 : parseMethodDescriptor "(II)I" = some ⟨[.int, .int], some .int⟩ := by decide +kernel
theorem d1_13 : decode prog_20_method_3_code 13 = .ok (.ireturn, 1) := by decide +kernel
theorem ef_1 (m : MethodId) (x0 : Int32) : entryFrame m #[(.int x0)] 1 = mkF m 0 #[.val (.int x0)] [] := by first | (simp [entryFrame, mkF, argsToLocals, Value.category]; done) | rfl
def Q1 (Z : State) (n : Int32) (h0 : Heap) (n0 : Nat) (vα : Option Value) (hα : Heap) (Lα : List Loc) : Prop := vα = some (.int (own_max (300 : Int32) (n + ((n + (1 : Int32)) / (2 : Int32))))) ∧ Fr n0 Lα ∧ hα = h0
set_option maxRecDepth 65536 in
set_option maxHeartbeats 40000000 in
theorem rm1 (l : Launch) (Z : State) (a0 : Array Value) (hw : ∀ d ∈ tables_1, d.before a0 Z = true) (ws : List Jvm.Cond) (n : Int32) (h0 : Heap) (n0 : Nat) (Z0 : n0 ≤ h0.size) :
    MetFree l (⟨"com/example/idlefleet/idlefleet/SamplingVoting", "defaultSampleRequests", "(I)I"⟩ : MethodName) (head1 (Jvm.Cond.code (⟨"com/example/idlefleet/idlefleet/SamplingVoting", "defaultSampleRequests", "(I)I"⟩ : MethodName) prog_20_method_3_code 1 (some .int) :: ws) ({ frames := 1, cells := 0, slots := 0, locals := 13 } : Room)) (fun aα U => aα = #[(.int n)] ∧ Z.Warmed39 U.vm ∧ U.heap = h0) (fun _ _ _ _ _ => True) (fun _ U oα U' => ∃ vα Lα, oα = .returned vα ∧ Q1 Z n h0 n0 vα U'.heap Lα ∧ FrameEnd U oα U' Lα ({ frames := 1, cells := 0, slots := 0, locals := 13 } : Room).cells ({ frames := 1, cells := 0, slots := 0, locals := 13 } : Room).slots) := by
  refine MetFree.of_bodySF (plainFor_of_name pn_0) hisR ?_
  intro p e s m args below meth c s₁ Bd hml0 hP hK
  refine own_wrap ?_
  intro GL hGL
  obtain ⟨rfl, hZ, hh⟩ := hP
  have hx := Bd.exec
  have hby := Bd.bytes
  have hml : c.maxLocals = 1 := hml0
  have hown : s.vm.findClass "com/example/idlefleet/idlefleet/SamplingVoting" = some m.cls := findClass_of_methodNamed Bd.named
  have hnm := (name_of_methodNamed Bd.named Bd.method).1
  have X0 : Stand p l e ({ frames := 1, cells := 0, slots := 0, locals := 13 } : Room) s m #[(.int n)] below meth c s₁ [] 0 0 := Stand.of_body Bd
  have e0 : s₁.heap = h0 := by rw [← hh, Bd.state]; rfl
  have N0 := Fr.nil n0
  have pre0 : ∀ τ, Steps p.tables e below (s₁.setTop (mkF m 0 #[.val (.int n)] [])) τ → Steps p.tables e below (s₁.setTop (entryFrame m #[(.int n)] 1)) τ := fun τ κ => castTop (ef_1 m n) κ
  obtain ⟨G, hG, pre⟩ : ∃ G : State → Prop, (∀ τ, G τ → Steps p.tables e below (s₁.setTop (entryFrame m #[(.int n)] 1)) τ) ∧ ∀ τ, Steps p.tables e below (s₁.setTop (mkF m 0 #[.val (.int n)] [])) τ → G τ := ⟨_, pre0, fun _ k => k⟩
  have K : Keep h0 h0 [] := Keep.refl h0 _
  have Zn := Z0
  have pre : ∀ τ, Steps p.tables e below (s₁.setTop (mkF m 10 #[.val (.int n)] [(.int (n + ((n + (1 : Int32)) / (2 : Int32)))), (.int (300 : Int32))])) τ → G τ := fun τ κ => pre τ (by
    refine XS.sipush X0.here hx rfl (hb hby d1_0) ?_
    show Steps p.tables e below (s₁.setTop (mkF m 3 #[.val (.int n)] [(.int (300 : Int32))])) τ
    refine XS.iloadN X0.here hx rfl (hb hby d1_3) rfl ?_
    show Steps p.tables e below (s₁.setTop (mkF m 4 #[.val (.int n)] [(.int n), (.int (300 : Int32))])) τ
    refine XS.iloadN X0.here hx rfl (hb hby d1_4) rfl ?_
    show Steps p.tables e below (s₁.setTop (mkF m 5 #[.val (.int n)] [(.int n), (.int n), (.int (300 : Int32))])) τ
    refine XS.iconst X0.here hx rfl (hb hby d1_5) ?_
    show Steps p.tables e below (s₁.setTop (mkF m 6 #[.val (.int n)] [(.int (1 : Int32)), (.int n), (.int n), (.int (300 : Int32))])) τ
    refine XS.iadd X0.here hx rfl (hb hby d1_6) rfl ?_
    show Steps p.tables e below (s₁.setTop (mkF m 7 #[.val (.int n)] [(.int (n + (1 : Int32))), (.int n), (.int (300 : Int32))])) τ
    refine XS.iconst X0.here hx rfl (hb hby d1_7) ?_
    show Steps p.tables e below (s₁.setTop (mkF m 8 #[.val (.int n)] [(.int (2 : Int32)), (.int (n + (1 : Int32))), (.int n), (.int (300 : Int32))])) τ
    refine XS.idiv X0.here hx rfl (hb hby d1_8) rfl (by decide) ?_
    show Steps p.tables e below (s₁.setTop (mkF m 9 #[.val (.int n)] [(.int ((n + (1 : Int32)) / (2 : Int32))), (.int n), (.int (300 : Int32))])) τ
    refine XS.iadd X0.here hx rfl (hb hby d1_9) rfl ?_
    show Steps p.tables e below (s₁.setTop (mkF m 10 #[.val (.int n)] [(.int (n + ((n + (1 : Int32)) / (2 : Int32)))), (.int (300 : Int32))])) τ
    exact κ)
  obtain ⟨_, _, ⟨T1, Lx1, kx1, nx1⟩, -, X1, ⟨Lc1, hQ1, l1, y1, z1⟩, st1⟩ := Jvm.LawKit.callS X0 hx (y := (⟨"java/lang/Math", "max", "(II)I"⟩ : MethodName)) hown (mvT hZ (hw _ (List.mem_of_getElem? (i := 4) rfl))) (mvT hZ (hw _ (List.mem_of_getElem? (i := 5) rfl))) (mvT hZ (hw _ (List.mem_of_getElem? (i := 6) rfl))) (mvT hZ (hw _ (List.mem_of_getElem? (i := 7) rfl))) (by decide) (backOf (W := 0) (rm2 l Z a0 hw [] (300 : Int32) (n + ((n + (1 : Int32)) / (2 : Int32))) h0 n0 Zn) hZ (hw _ (List.mem_of_getElem? (i := 7) rfl)) (hw _ (List.mem_of_getElem? (i := 6) rfl)) (by decide) (by decide)) (g := (mkF m 10 #[.val (.int n)] [(.int (n + ((n + (1 : Int32)) / (2 : Int32)))), (.int (300 : Int32))])) rfl (by rw [hml]; rfl) (argsL := [(.int (300 : Int32)), (.int (n + ((n + (1 : Int32)) / (2 : Int32))))]) (rest := []) (lenOf pd_0 rfl) rfl (by show 2 * 0 + _ ≤ _; exact Nat.le_of_eq rfl) (hb hby d1_10) (fun _ _ => ⟨rfl, e0, (by decide : 0 + 0 ≤ _), (by decide : 0 + 0 ≤ _)⟩)
  dsimp only [Pt.U, Pt.locs, Pt.cells, Pt.slots] at X1 l1 y1 z1 st1 hQ1
  subst l1 y1 z1
  obtain ⟨rfl, Nq1, hs1⟩ := hQ1
  have NN := Fr.app N0 Nq1
  have pre : ∀ τ, Steps p.tables e below (T1.setTop (mkF m 13 #[.val (.int n)] [(.int (own_max (300 : Int32) (n + ((n + (1 : Int32)) / (2 : Int32)))))])) τ → G τ := fun τ κ => pre τ (st1 τ κ)
  obtain ⟨fs, hr, hrun, hended, hW, hsame⟩ := X1.leave (v := some (.int (own_max (300 : Int32) (n + ((n + (1 : Int32)) / (2 : Int32)))))) (fun h => by rw [Bd.returns] at h; cases h)
  refine hGL ⟨_, _, hG _ (pre _ ?_), hrun, hended, _, _, rfl, ?_, ⟨_, rfl⟩, hW, hsame.mono (by decide) (by decide)⟩
  · exact retOut X1 hx Bd.returns rfl (Or.inl ⟨rfl, Or.inl rfl, _, rfl⟩) (hb hby d1_13) hr
  · show Q1 Z n h0 n0 _ T1.heap _
    rw [hs1]
    exact ⟨rfl, NN, rfl⟩
theorem pn_1 : plainName "com/example/idlefleet/idlefleet/SamplingVotingDefaultSampleRequestsPinLaw" = true := by first | (simp [plainName, overriddenIn]; done) | decide +kernel
theorem pd_1 : parseMethodDescriptor "(I)I" = some ⟨[.int], some .int⟩ := by decide +kernel
theorem ef_0 (m : MethodId) (x0 : Int32) (x1 : Int32) : entryFrame m #[(.int x0), (.int x1)] maxLocals = mkF m 0 #[.val (.int x0), .val (.int x1), .unset, .unset, .unset, .unset, .unset, .unset, .unset, .unset] [] := by first | (simp [entryFrame, mkF, argsToLocals, Value.category, maxLocals]; done) | rfl
def Q0 (Z : State) (xx : Int32) (mode : Int32) (h0 : Heap) (n0 : Nat) (vα : Option Value) (hα : Heap) (Lα : List Loc) : Prop := vα = some (.int (1 : Int32)) ∧ Fr n0 Lα
set_option maxRecDepth 65536 in
set_option maxHeartbeats 40000000 in
theorem rm0 (l : Launch) (Z : State) (a0 : Array Value) (hw : ∀ d ∈ tables_1, d.before a0 Z = true) (ws : List Jvm.Cond) (xx : Int32) (mode : Int32) (h0 : Heap) (n0 : Nat) (Z0 : n0 ≤ h0.size) :
    MetFree l x (head1 (Jvm.Cond.code x code maxLocals ret :: ws) room_1) (fun aα U => aα = #[(.int xx), (.int mode)] ∧ Z.Warmed39 U.vm ∧ U.heap = h0) (fun _ _ _ _ _ => True) (fun _ U oα U' => ∃ vα Lα, oα = .returned vα ∧ Q0 Z xx mode h0 n0 vα U'.heap Lα ∧ FrameEnd U oα U' Lα room_1.cells room_1.slots) := by
  refine MetFree.of_bodySF (plainFor_of_name pn_1) hisR ?_
  intro p e s m args below meth c s₁ Bd hml0 hP hK
  refine own_wrap ?_
  intro GL hGL
  obtain ⟨rfl, hZ, hh⟩ := hP
  have hx := Bd.exec
  have hby := Bd.bytes
  have hml : c.maxLocals = 10 := hml0
  have hown : s.vm.findClass "com/example/idlefleet/idlefleet/SamplingVotingDefaultSampleRequestsPinLaw" = some m.cls := findClass_of_methodNamed Bd.named
  have hnm := (name_of_methodNamed Bd.named Bd.method).1
  have X0 : Stand p l e room_1 s m #[(.int xx), (.int mode)] below meth c s₁ [] 0 0 := Stand.of_body Bd
  have e0 : s₁.heap = h0 := by rw [← hh, Bd.state]; rfl
  have N0 := Fr.nil n0
  have pre0 : ∀ τ, Steps p.tables e below (s₁.setTop (mkF m 0 #[.val (.int xx), .val (.int mode), .unset, .unset, .unset, .unset, .unset, .unset, .unset, .unset] [])) τ → Steps p.tables e below (s₁.setTop (entryFrame m #[(.int xx), (.int mode)] maxLocals)) τ := fun τ κ => castTop (ef_0 m xx mode) κ
  obtain ⟨G, hG, pre⟩ : ∃ G : State → Prop, (∀ τ, G τ → Steps p.tables e below (s₁.setTop (entryFrame m #[(.int xx), (.int mode)] maxLocals)) τ) ∧ ∀ τ, Steps p.tables e below (s₁.setTop (mkF m 0 #[.val (.int xx), .val (.int mode), .unset, .unset, .unset, .unset, .unset, .unset, .unset, .unset] [])) τ → G τ := ⟨_, pre0, fun _ k => k⟩
  have Zn := Z0
  have pre : ∀ τ, Steps p.tables e below (s₁.setTop (mkF m 3 #[.val (.int xx), .val (.int mode), .unset, .unset, .unset, .unset, .unset, .unset, .unset, .unset] [(.int (mode &&& (1 : Int32)))])) τ → G τ := fun τ κ => pre τ (by
    refine XS.iloadN X0.here hx rfl (hb hby at_0) rfl ?_
    show Steps p.tables e below (s₁.setTop (mkF m 1 #[.val (.int xx), .val (.int mode), .unset, .unset, .unset, .unset, .unset, .unset, .unset, .unset] [(.int mode)])) τ
    refine XS.iconst X0.here hx rfl (hb hby at_1) ?_
    show Steps p.tables e below (s₁.setTop (mkF m 2 #[.val (.int xx), .val (.int mode), .unset, .unset, .unset, .unset, .unset, .unset, .unset, .unset] [(.int (1 : Int32)), (.int mode)])) τ
    refine XS.iand X0.here hx rfl (hb hby at_2) rfl ?_
    show Steps p.tables e below (s₁.setTop (mkF m 3 #[.val (.int xx), .val (.int mode), .unset, .unset, .unset, .unset, .unset, .unset, .unset, .unset] [(.int (mode &&& (1 : Int32)))])) τ
    exact κ)
  rcases Classical.em ((mode &&& (1 : Int32)) = (0 : Int32)) with hc3_1 | hc3_1
  ·
    have pre : ∀ τ, Steps p.tables e below (s₁.setTop (mkF m 13 #[.val (.int xx), .val (.int mode), .val (.int (0 : Int32)), .unset, .unset, .unset, .unset, .unset, .unset, .unset] [(.int (0 : Int32))])) τ → G τ := fun τ κ => pre τ (by
      refine XS.ifYes X0.here hx rfl (pc0 := 3) (pc' := 10) rfl (hb hby at_3) rfl ((if0 _ _).trans (teq hc3_1).1) (by decide) (by decide) ?_
      show Steps p.tables e below (s₁.setTop (mkF m 10 #[.val (.int xx), .val (.int mode), .unset, .unset, .unset, .unset, .unset, .unset, .unset, .unset] [])) τ
      refine XS.iconst X0.here hx rfl (hb hby at_10) ?_
      show Steps p.tables e below (s₁.setTop (mkF m 11 #[.val (.int xx), .val (.int mode), .unset, .unset, .unset, .unset, .unset, .unset, .unset, .unset] [(.int (0 : Int32))])) τ
      refine XS.istoreN X0.here hx rfl (hb hby at_11) rfl (l' := #[.val (.int xx), .val (.int mode), .val (.int (0 : Int32)), .unset, .unset, .unset, .unset, .unset, .unset, .unset]) rfl ?_
      show Steps p.tables e below (s₁.setTop (mkF m 12 #[.val (.int xx), .val (.int mode), .val (.int (0 : Int32)), .unset, .unset, .unset, .unset, .unset, .unset, .unset] [])) τ
      refine XS.iloadN X0.here hx rfl (hb hby at_12) rfl ?_
      show Steps p.tables e below (s₁.setTop (mkF m 13 #[.val (.int xx), .val (.int mode), .val (.int (0 : Int32)), .unset, .unset, .unset, .unset, .unset, .unset, .unset] [(.int (0 : Int32))])) τ
      exact κ)
    have hc2 : (0 : Int32) = (0 : Int32) := rfl
    have pre : ∀ τ, Steps p.tables e below (s₁.setTop (mkF m 32 #[.val (.int xx), .val (.int mode), .val (.int (0 : Int32)), .val (.int ((xx &&& (2147483647 : Int32)) % (1431655765 : Int32))), .unset, .unset, .unset, .unset, .unset, .unset] [])) τ → G τ := fun τ κ => pre τ (by
      refine XS.ifYes X0.here hx rfl (pc0 := 13) (pc' := 24) rfl (hb hby at_13) rfl ((if0 _ _).trans (teq hc2).1) (by decide) (by decide) ?_
      show Steps p.tables e below (s₁.setTop (mkF m 24 #[.val (.int xx), .val (.int mode), .val (.int (0 : Int32)), .unset, .unset, .unset, .unset, .unset, .unset, .unset] [])) τ
      refine XS.iloadN X0.here hx rfl (hb hby at_24) rfl ?_
      show Steps p.tables e below (s₁.setTop (mkF m 25 #[.val (.int xx), .val (.int mode), .val (.int (0 : Int32)), .unset, .unset, .unset, .unset, .unset, .unset, .unset] [(.int xx)])) τ
      refine X0.ldcInt hx hown (mvT hZ (hw _ (List.mem_of_getElem? (i := 11) rfl))) (g := (mkF m 25 #[.val (.int xx), .val (.int mode), .val (.int (0 : Int32)), .unset, .unset, .unset, .unset, .unset, .unset, .unset] [(.int xx)])) rfl (hb hby at_25) _ ?_
      show Steps p.tables e below (s₁.setTop (mkF m 27 #[.val (.int xx), .val (.int mode), .val (.int (0 : Int32)), .unset, .unset, .unset, .unset, .unset, .unset, .unset] [(.int (2147483647 : Int32)), (.int xx)])) τ
      refine XS.iand X0.here hx rfl (hb hby at_27) rfl ?_
      show Steps p.tables e below (s₁.setTop (mkF m 28 #[.val (.int xx), .val (.int mode), .val (.int (0 : Int32)), .unset, .unset, .unset, .unset, .unset, .unset, .unset] [(.int (xx &&& (2147483647 : Int32)))])) τ
      refine X0.ldcInt hx hown (mvT hZ (hw _ (List.mem_of_getElem? (i := 12) rfl))) (g := (mkF m 28 #[.val (.int xx), .val (.int mode), .val (.int (0 : Int32)), .unset, .unset, .unset, .unset, .unset, .unset, .unset] [(.int (xx &&& (2147483647 : Int32)))])) rfl (hb hby at_28) _ ?_
      show Steps p.tables e below (s₁.setTop (mkF m 30 #[.val (.int xx), .val (.int mode), .val (.int (0 : Int32)), .unset, .unset, .unset, .unset, .unset, .unset, .unset] [(.int (1431655765 : Int32)), (.int (xx &&& (2147483647 : Int32)))])) τ
      refine iremM X0 hx rfl (hb hby at_30) rfl (by decide) ?_
      show Steps p.tables e below (s₁.setTop (mkF m 31 #[.val (.int xx), .val (.int mode), .val (.int (0 : Int32)), .unset, .unset, .unset, .unset, .unset, .unset, .unset] [(.int ((xx &&& (2147483647 : Int32)) % (1431655765 : Int32)))])) τ
      refine XS.istoreN X0.here hx rfl (hb hby at_31) rfl (l' := #[.val (.int xx), .val (.int mode), .val (.int (0 : Int32)), .val (.int ((xx &&& (2147483647 : Int32)) % (1431655765 : Int32))), .unset, .unset, .unset, .unset, .unset, .unset]) rfl ?_
      show Steps p.tables e below (s₁.setTop (mkF m 32 #[.val (.int xx), .val (.int mode), .val (.int (0 : Int32)), .val (.int ((xx &&& (2147483647 : Int32)) % (1431655765 : Int32))), .unset, .unset, .unset, .unset, .unset, .unset] [])) τ
      exact κ)
    obtain ⟨n, hn⟩ : ∃ z : Int32, z = ((xx &&& (2147483647 : Int32)) % (1431655765 : Int32)) := ⟨_, rfl⟩
    have pre : ∀ τ, Steps p.tables e below (s₁.setTop (mkF m 32 #[.val (.int xx), .val (.int mode), .val (.int (0 : Int32)), .val (.int n), .unset, .unset, .unset, .unset, .unset, .unset] [])) τ → G τ := by subst hn; exact pre
    have hbn : 0 ≤ n.toInt ∧ n.toInt ≤ 1431655764 := by rw [hn]; exact own_b2 _
    have pre : ∀ τ, Steps p.tables e below (s₁.setTop (mkF m 33 #[.val (.int xx), .val (.int mode), .val (.int (0 : Int32)), .val (.int n), .unset, .unset, .unset, .unset, .unset, .unset] [(.int n)])) τ → G τ := fun τ κ => pre τ (by
      refine XS.iloadN X0.here hx rfl (hb hby at_32) rfl ?_
      show Steps p.tables e below (s₁.setTop (mkF m 33 #[.val (.int xx), .val (.int mode), .val (.int (0 : Int32)), .val (.int n), .unset, .unset, .unset, .unset, .unset, .unset] [(.int n)])) τ
      exact κ)
    obtain ⟨_, _, ⟨T3, Lx3, kx3, nx3⟩, -, X3, ⟨Lc3, hQ3, l3, y3, z3⟩, st3⟩ := Jvm.LawKit.callS X0 hx (y := (⟨"com/example/idlefleet/idlefleet/SamplingVoting", "defaultSampleRequests", "(I)I"⟩ : MethodName)) hown (mvT hZ (hw _ (List.mem_of_getElem? (i := 0) rfl))) (mvT hZ (hw _ (List.mem_of_getElem? (i := 1) rfl))) (mvT hZ (hw _ (List.mem_of_getElem? (i := 2) rfl))) (mvT hZ (hw _ (List.mem_of_getElem? (i := 3) rfl))) (by decide) (backOf (W := 0) (rm1 l Z a0 hw [] n h0 n0 Zn) hZ (hw _ (List.mem_of_getElem? (i := 3) rfl)) (hw _ (List.mem_of_getElem? (i := 2) rfl)) (by decide) (by decide)) (g := (mkF m 33 #[.val (.int xx), .val (.int mode), .val (.int (0 : Int32)), .val (.int n), .unset, .unset, .unset, .unset, .unset, .unset] [(.int n)])) rfl (by rw [hml]; rfl) (argsL := [(.int n)]) (rest := []) (lenOf pd_1 rfl) rfl (by show 2 * 0 + _ ≤ _; exact Nat.le_of_eq rfl) (hb hby at_33) (fun _ _ => ⟨rfl, e0, (by decide : 0 + 0 ≤ _), (by decide : 0 + 0 ≤ _)⟩)
    dsimp only [Pt.U, Pt.locs, Pt.cells, Pt.slots] at X3 l3 y3 z3 st3 hQ3
    subst l3 y3 z3
    obtain ⟨rfl, Nq3, hs3⟩ := hQ3
    have NN := Fr.app N0 Nq3
    have pre : ∀ τ, Steps p.tables e below (T3.setTop (mkF m 36 #[.val (.int xx), .val (.int mode), .val (.int (0 : Int32)), .val (.int n), .unset, .unset, .unset, .unset, .unset, .unset] [(.int (own_max (300 : Int32) (n + ((n + (1 : Int32)) / (2 : Int32)))))])) τ → G τ := fun τ κ => pre τ (st3 τ κ)
    have pre : ∀ τ, Steps p.tables e below (T3.setTop (mkF m 59 #[.val (.int xx), .val (.int mode), .val (.int (0 : Int32)), .val (.int n), .val (.long ((own_max (300 : Int32) (n + ((n + (1 : Int32)) / (2 : Int32)))).toInt64)), .second, .val (.long ((((3 : Int64) * (n.toInt64)) + (1 : Int64)) / (2 : Int64))), .second, .unset, .unset] [(.int (lcmpW ((((3 : Int64) * (n.toInt64)) + (1 : Int64)) / (2 : Int64)) (300 : Int64)))])) τ → G τ := fun τ κ => pre τ (by
      refine XS.i2l X3.here hx rfl (hb hby at_36) rfl ?_
      show Steps p.tables e below (T3.setTop (mkF m 37 #[.val (.int xx), .val (.int mode), .val (.int (0 : Int32)), .val (.int n), .unset, .unset, .unset, .unset, .unset, .unset] [(.long ((own_max (300 : Int32) (n + ((n + (1 : Int32)) / (2 : Int32)))).toInt64))])) τ
      refine XS.lstore X3.here hx rfl (hb hby at_37) rfl (l' := #[.val (.int xx), .val (.int mode), .val (.int (0 : Int32)), .val (.int n), .val (.long ((own_max (300 : Int32) (n + ((n + (1 : Int32)) / (2 : Int32)))).toInt64)), .second, .unset, .unset, .unset, .unset]) rfl ?_
      show Steps p.tables e below (T3.setTop (mkF m 39 #[.val (.int xx), .val (.int mode), .val (.int (0 : Int32)), .val (.int n), .val (.long ((own_max (300 : Int32) (n + ((n + (1 : Int32)) / (2 : Int32)))).toInt64)), .second, .unset, .unset, .unset, .unset] [])) τ
      refine X3.ldc2Long hx hown (mvT hZ (hw _ (List.mem_of_getElem? (i := 8) rfl))) (g := (mkF m 39 #[.val (.int xx), .val (.int mode), .val (.int (0 : Int32)), .val (.int n), .val (.long ((own_max (300 : Int32) (n + ((n + (1 : Int32)) / (2 : Int32)))).toInt64)), .second, .unset, .unset, .unset, .unset] [])) rfl (hb hby at_39) _ ?_
      show Steps p.tables e below (T3.setTop (mkF m 42 #[.val (.int xx), .val (.int mode), .val (.int (0 : Int32)), .val (.int n), .val (.long ((own_max (300 : Int32) (n + ((n + (1 : Int32)) / (2 : Int32)))).toInt64)), .second, .unset, .unset, .unset, .unset] [(.long (3 : Int64))])) τ
      refine XS.iloadN X3.here hx rfl (hb hby at_42) rfl ?_
      show Steps p.tables e below (T3.setTop (mkF m 43 #[.val (.int xx), .val (.int mode), .val (.int (0 : Int32)), .val (.int n), .val (.long ((own_max (300 : Int32) (n + ((n + (1 : Int32)) / (2 : Int32)))).toInt64)), .second, .unset, .unset, .unset, .unset] [(.int n), (.long (3 : Int64))])) τ
      refine XS.i2l X3.here hx rfl (hb hby at_43) rfl ?_
      show Steps p.tables e below (T3.setTop (mkF m 44 #[.val (.int xx), .val (.int mode), .val (.int (0 : Int32)), .val (.int n), .val (.long ((own_max (300 : Int32) (n + ((n + (1 : Int32)) / (2 : Int32)))).toInt64)), .second, .unset, .unset, .unset, .unset] [(.long (n.toInt64)), (.long (3 : Int64))])) τ
      refine XS.lmul X3.here hx rfl (hb hby at_44) rfl ?_
      show Steps p.tables e below (T3.setTop (mkF m 45 #[.val (.int xx), .val (.int mode), .val (.int (0 : Int32)), .val (.int n), .val (.long ((own_max (300 : Int32) (n + ((n + (1 : Int32)) / (2 : Int32)))).toInt64)), .second, .unset, .unset, .unset, .unset] [(.long ((3 : Int64) * (n.toInt64)))])) τ
      refine XS.lconst X3.here hx rfl (hb hby at_45) ?_
      show Steps p.tables e below (T3.setTop (mkF m 46 #[.val (.int xx), .val (.int mode), .val (.int (0 : Int32)), .val (.int n), .val (.long ((own_max (300 : Int32) (n + ((n + (1 : Int32)) / (2 : Int32)))).toInt64)), .second, .unset, .unset, .unset, .unset] [(.long (1 : Int64)), (.long ((3 : Int64) * (n.toInt64)))])) τ
      refine XS.ladd X3.here hx rfl (hb hby at_46) rfl ?_
      show Steps p.tables e below (T3.setTop (mkF m 47 #[.val (.int xx), .val (.int mode), .val (.int (0 : Int32)), .val (.int n), .val (.long ((own_max (300 : Int32) (n + ((n + (1 : Int32)) / (2 : Int32)))).toInt64)), .second, .unset, .unset, .unset, .unset] [(.long (((3 : Int64) * (n.toInt64)) + (1 : Int64)))])) τ
      refine X3.ldc2Long hx hown (mvT hZ (hw _ (List.mem_of_getElem? (i := 9) rfl))) (g := (mkF m 47 #[.val (.int xx), .val (.int mode), .val (.int (0 : Int32)), .val (.int n), .val (.long ((own_max (300 : Int32) (n + ((n + (1 : Int32)) / (2 : Int32)))).toInt64)), .second, .unset, .unset, .unset, .unset] [(.long (((3 : Int64) * (n.toInt64)) + (1 : Int64)))])) rfl (hb hby at_47) _ ?_
      show Steps p.tables e below (T3.setTop (mkF m 50 #[.val (.int xx), .val (.int mode), .val (.int (0 : Int32)), .val (.int n), .val (.long ((own_max (300 : Int32) (n + ((n + (1 : Int32)) / (2 : Int32)))).toInt64)), .second, .unset, .unset, .unset, .unset] [(.long (2 : Int64)), (.long (((3 : Int64) * (n.toInt64)) + (1 : Int64)))])) τ
      refine XS.ldiv X3.here hx rfl (hb hby at_50) rfl (by decide) ?_
      show Steps p.tables e below (T3.setTop (mkF m 51 #[.val (.int xx), .val (.int mode), .val (.int (0 : Int32)), .val (.int n), .val (.long ((own_max (300 : Int32) (n + ((n + (1 : Int32)) / (2 : Int32)))).toInt64)), .second, .unset, .unset, .unset, .unset] [(.long ((((3 : Int64) * (n.toInt64)) + (1 : Int64)) / (2 : Int64)))])) τ
      refine XS.lstore X3.here hx rfl (hb hby at_51) rfl (l' := #[.val (.int xx), .val (.int mode), .val (.int (0 : Int32)), .val (.int n), .val (.long ((own_max (300 : Int32) (n + ((n + (1 : Int32)) / (2 : Int32)))).toInt64)), .second, .val (.long ((((3 : Int64) * (n.toInt64)) + (1 : Int64)) / (2 : Int64))), .second, .unset, .unset]) rfl ?_
      show Steps p.tables e below (T3.setTop (mkF m 53 #[.val (.int xx), .val (.int mode), .val (.int (0 : Int32)), .val (.int n), .val (.long ((own_max (300 : Int32) (n + ((n + (1 : Int32)) / (2 : Int32)))).toInt64)), .second, .val (.long ((((3 : Int64) * (n.toInt64)) + (1 : Int64)) / (2 : Int64))), .second, .unset, .unset] [])) τ
      refine XS.lload X3.here hx rfl (hb hby at_53) rfl ?_
      show Steps p.tables e below (T3.setTop (mkF m 55 #[.val (.int xx), .val (.int mode), .val (.int (0 : Int32)), .val (.int n), .val (.long ((own_max (300 : Int32) (n + ((n + (1 : Int32)) / (2 : Int32)))).toInt64)), .second, .val (.long ((((3 : Int64) * (n.toInt64)) + (1 : Int64)) / (2 : Int64))), .second, .unset, .unset] [(.long ((((3 : Int64) * (n.toInt64)) + (1 : Int64)) / (2 : Int64)))])) τ
      refine X3.ldc2Long hx hown (mvT hZ (hw _ (List.mem_of_getElem? (i := 10) rfl))) (g := (mkF m 55 #[.val (.int xx), .val (.int mode), .val (.int (0 : Int32)), .val (.int n), .val (.long ((own_max (300 : Int32) (n + ((n + (1 : Int32)) / (2 : Int32)))).toInt64)), .second, .val (.long ((((3 : Int64) * (n.toInt64)) + (1 : Int64)) / (2 : Int64))), .second, .unset, .unset] [(.long ((((3 : Int64) * (n.toInt64)) + (1 : Int64)) / (2 : Int64)))])) rfl (hb hby at_55) _ ?_
      show Steps p.tables e below (T3.setTop (mkF m 58 #[.val (.int xx), .val (.int mode), .val (.int (0 : Int32)), .val (.int n), .val (.long ((own_max (300 : Int32) (n + ((n + (1 : Int32)) / (2 : Int32)))).toInt64)), .second, .val (.long ((((3 : Int64) * (n.toInt64)) + (1 : Int64)) / (2 : Int64))), .second, .unset, .unset] [(.long (300 : Int64)), (.long ((((3 : Int64) * (n.toInt64)) + (1 : Int64)) / (2 : Int64)))])) τ
      refine XS.lcmp X3.here hx rfl (hb hby at_58) rfl ?_
      show Steps p.tables e below (T3.setTop (mkF m 59 #[.val (.int xx), .val (.int mode), .val (.int (0 : Int32)), .val (.int n), .val (.long ((own_max (300 : Int32) (n + ((n + (1 : Int32)) / (2 : Int32)))).toInt64)), .second, .val (.long ((((3 : Int64) * (n.toInt64)) + (1 : Int64)) / (2 : Int64))), .second, .unset, .unset] [(.int (lcmpW ((((3 : Int64) * (n.toInt64)) + (1 : Int64)) / (2 : Int64)) (300 : Int64)))])) τ
      exact κ)
    rcases Classical.em (((((3 : Int64) * (n.toInt64)) + (1 : Int64)) / (2 : Int64)) < (300 : Int64)) with hc59_4 | hc59_4
    ·
      have pre : ∀ τ, Steps p.tables e below (T3.setTop (mkF m 77 #[.val (.int xx), .val (.int mode), .val (.int (0 : Int32)), .val (.int n), .val (.long ((own_max (300 : Int32) (n + ((n + (1 : Int32)) / (2 : Int32)))).toInt64)), .second, .val (.long ((((3 : Int64) * (n.toInt64)) + (1 : Int64)) / (2 : Int64))), .second, .val (.long (300 : Int64)), .second] [(.int (lcmpW ((own_max (300 : Int32) (n + ((n + (1 : Int32)) / (2 : Int32)))).toInt64) (300 : Int64)))])) τ → G τ := fun τ κ => pre τ (by
        refine XS.ifNo X3.here hx rfl (hb hby at_59) rfl ((if0 _ _).trans (tlt ((lw_lt _ _).mpr hc59_4)).2.1) ?_
        show Steps p.tables e below (T3.setTop (mkF m 62 #[.val (.int xx), .val (.int mode), .val (.int (0 : Int32)), .val (.int n), .val (.long ((own_max (300 : Int32) (n + ((n + (1 : Int32)) / (2 : Int32)))).toInt64)), .second, .val (.long ((((3 : Int64) * (n.toInt64)) + (1 : Int64)) / (2 : Int64))), .second, .unset, .unset] [])) τ
        refine X3.ldc2Long hx hown (mvT hZ (hw _ (List.mem_of_getElem? (i := 10) rfl))) (g := (mkF m 62 #[.val (.int xx), .val (.int mode), .val (.int (0 : Int32)), .val (.int n), .val (.long ((own_max (300 : Int32) (n + ((n + (1 : Int32)) / (2 : Int32)))).toInt64)), .second, .val (.long ((((3 : Int64) * (n.toInt64)) + (1 : Int64)) / (2 : Int64))), .second, .unset, .unset] [])) rfl (hb hby at_62) _ ?_
        show Steps p.tables e below (T3.setTop (mkF m 65 #[.val (.int xx), .val (.int mode), .val (.int (0 : Int32)), .val (.int n), .val (.long ((own_max (300 : Int32) (n + ((n + (1 : Int32)) / (2 : Int32)))).toInt64)), .second, .val (.long ((((3 : Int64) * (n.toInt64)) + (1 : Int64)) / (2 : Int64))), .second, .unset, .unset] [(.long (300 : Int64))])) τ
        refine XS.goto X3.here hx rfl (pc0 := 65) (pc' := 70) rfl (hb hby at_65) (by decide) (by decide) ?_
        show Steps p.tables e below (T3.setTop (mkF m 70 #[.val (.int xx), .val (.int mode), .val (.int (0 : Int32)), .val (.int n), .val (.long ((own_max (300 : Int32) (n + ((n + (1 : Int32)) / (2 : Int32)))).toInt64)), .second, .val (.long ((((3 : Int64) * (n.toInt64)) + (1 : Int64)) / (2 : Int64))), .second, .unset, .unset] [(.long (300 : Int64))])) τ
        refine XS.lstore X3.here hx rfl (hb hby at_70) rfl (l' := #[.val (.int xx), .val (.int mode), .val (.int (0 : Int32)), .val (.int n), .val (.long ((own_max (300 : Int32) (n + ((n + (1 : Int32)) / (2 : Int32)))).toInt64)), .second, .val (.long ((((3 : Int64) * (n.toInt64)) + (1 : Int64)) / (2 : Int64))), .second, .val (.long (300 : Int64)), .second]) rfl ?_
        show Steps p.tables e below (T3.setTop (mkF m 72 #[.val (.int xx), .val (.int mode), .val (.int (0 : Int32)), .val (.int n), .val (.long ((own_max (300 : Int32) (n + ((n + (1 : Int32)) / (2 : Int32)))).toInt64)), .second, .val (.long ((((3 : Int64) * (n.toInt64)) + (1 : Int64)) / (2 : Int64))), .second, .val (.long (300 : Int64)), .second] [])) τ
        refine XS.lload X3.here hx rfl (hb hby at_72) rfl ?_
        show Steps p.tables e below (T3.setTop (mkF m 74 #[.val (.int xx), .val (.int mode), .val (.int (0 : Int32)), .val (.int n), .val (.long ((own_max (300 : Int32) (n + ((n + (1 : Int32)) / (2 : Int32)))).toInt64)), .second, .val (.long ((((3 : Int64) * (n.toInt64)) + (1 : Int64)) / (2 : Int64))), .second, .val (.long (300 : Int64)), .second] [(.long ((own_max (300 : Int32) (n + ((n + (1 : Int32)) / (2 : Int32)))).toInt64))])) τ
        refine XS.lload X3.here hx rfl (hb hby at_74) rfl ?_
        show Steps p.tables e below (T3.setTop (mkF m 76 #[.val (.int xx), .val (.int mode), .val (.int (0 : Int32)), .val (.int n), .val (.long ((own_max (300 : Int32) (n + ((n + (1 : Int32)) / (2 : Int32)))).toInt64)), .second, .val (.long ((((3 : Int64) * (n.toInt64)) + (1 : Int64)) / (2 : Int64))), .second, .val (.long (300 : Int64)), .second] [(.long (300 : Int64)), (.long ((own_max (300 : Int32) (n + ((n + (1 : Int32)) / (2 : Int32)))).toInt64))])) τ
        refine XS.lcmp X3.here hx rfl (hb hby at_76) rfl ?_
        show Steps p.tables e below (T3.setTop (mkF m 77 #[.val (.int xx), .val (.int mode), .val (.int (0 : Int32)), .val (.int n), .val (.long ((own_max (300 : Int32) (n + ((n + (1 : Int32)) / (2 : Int32)))).toInt64)), .second, .val (.long ((((3 : Int64) * (n.toInt64)) + (1 : Int64)) / (2 : Int64))), .second, .val (.long (300 : Int64)), .second] [(.int (lcmpW ((own_max (300 : Int32) (n + ((n + (1 : Int32)) / (2 : Int32)))).toInt64) (300 : Int64)))])) τ
        exact κ)
      have hc5 : ((own_max (300 : Int32) (n + ((n + (1 : Int32)) / (2 : Int32)))).toInt64) = (300 : Int64) := own_law_t _ hc59_4 hbn
      have pre : ∀ τ, Steps p.tables e below (T3.setTop (mkF m 85 #[.val (.int xx), .val (.int mode), .val (.int (0 : Int32)), .val (.int n), .val (.long ((own_max (300 : Int32) (n + ((n + (1 : Int32)) / (2 : Int32)))).toInt64)), .second, .val (.long ((((3 : Int64) * (n.toInt64)) + (1 : Int64)) / (2 : Int64))), .second, .val (.long (300 : Int64)), .second] [(.int (1 : Int32))])) τ → G τ := fun τ κ => pre τ (by
        refine XS.ifNo X3.here hx rfl (hb hby at_77) rfl ((if0 _ _).trans (teq ((lw_eq _ _).mpr hc5)).2) ?_
        show Steps p.tables e below (T3.setTop (mkF m 80 #[.val (.int xx), .val (.int mode), .val (.int (0 : Int32)), .val (.int n), .val (.long ((own_max (300 : Int32) (n + ((n + (1 : Int32)) / (2 : Int32)))).toInt64)), .second, .val (.long ((((3 : Int64) * (n.toInt64)) + (1 : Int64)) / (2 : Int64))), .second, .val (.long (300 : Int64)), .second] [])) τ
        refine XS.iconst X3.here hx rfl (hb hby at_80) ?_
        show Steps p.tables e below (T3.setTop (mkF m 81 #[.val (.int xx), .val (.int mode), .val (.int (0 : Int32)), .val (.int n), .val (.long ((own_max (300 : Int32) (n + ((n + (1 : Int32)) / (2 : Int32)))).toInt64)), .second, .val (.long ((((3 : Int64) * (n.toInt64)) + (1 : Int64)) / (2 : Int64))), .second, .val (.long (300 : Int64)), .second] [(.int (1 : Int32))])) τ
        refine XS.goto X3.here hx rfl (pc0 := 81) (pc' := 85) rfl (hb hby at_81) (by decide) (by decide) ?_
        show Steps p.tables e below (T3.setTop (mkF m 85 #[.val (.int xx), .val (.int mode), .val (.int (0 : Int32)), .val (.int n), .val (.long ((own_max (300 : Int32) (n + ((n + (1 : Int32)) / (2 : Int32)))).toInt64)), .second, .val (.long ((((3 : Int64) * (n.toInt64)) + (1 : Int64)) / (2 : Int64))), .second, .val (.long (300 : Int64)), .second] [(.int (1 : Int32))])) τ
        exact κ)
      obtain ⟨fs, hr, hrun, hended, hW, hsame⟩ := X3.leave (v := some (.int (1 : Int32))) (fun h => by rw [Bd.returns] at h; cases h)
      refine hGL ⟨_, _, hG _ (pre _ ?_), hrun, hended, _, _, rfl, ?_, ⟨_, rfl⟩, hW, hsame.mono (by decide) (by decide)⟩
      · exact retN X3 hx (t := .boolean) Bd.returns (by simp) (hb hby at_85) hr
      · show Q0 Z xx mode h0 n0 _ T3.heap _
        rw [hs3]
        exact ⟨rfl, NN⟩
    ·
      have pre : ∀ τ, Steps p.tables e below (T3.setTop (mkF m 77 #[.val (.int xx), .val (.int mode), .val (.int (0 : Int32)), .val (.int n), .val (.long ((own_max (300 : Int32) (n + ((n + (1 : Int32)) / (2 : Int32)))).toInt64)), .second, .val (.long ((((3 : Int64) * (n.toInt64)) + (1 : Int64)) / (2 : Int64))), .second, .val (.long ((((3 : Int64) * (n.toInt64)) + (1 : Int64)) / (2 : Int64))), .second] [(.int (lcmpW ((own_max (300 : Int32) (n + ((n + (1 : Int32)) / (2 : Int32)))).toInt64) ((((3 : Int64) * (n.toInt64)) + (1 : Int64)) / (2 : Int64))))])) τ → G τ := fun τ κ => pre τ (by
        refine XS.ifYes X3.here hx rfl (pc0 := 59) (pc' := 68) rfl (hb hby at_59) rfl ((if0 _ _).trans (flt (fun q => hc59_4 ((lw_lt _ _).mp q))).2.1) (by decide) (by decide) ?_
        show Steps p.tables e below (T3.setTop (mkF m 68 #[.val (.int xx), .val (.int mode), .val (.int (0 : Int32)), .val (.int n), .val (.long ((own_max (300 : Int32) (n + ((n + (1 : Int32)) / (2 : Int32)))).toInt64)), .second, .val (.long ((((3 : Int64) * (n.toInt64)) + (1 : Int64)) / (2 : Int64))), .second, .unset, .unset] [])) τ
        refine XS.lload X3.here hx rfl (hb hby at_68) rfl ?_
        show Steps p.tables e below (T3.setTop (mkF m 70 #[.val (.int xx), .val (.int mode), .val (.int (0 : Int32)), .val (.int n), .val (.long ((own_max (300 : Int32) (n + ((n + (1 : Int32)) / (2 : Int32)))).toInt64)), .second, .val (.long ((((3 : Int64) * (n.toInt64)) + (1 : Int64)) / (2 : Int64))), .second, .unset, .unset] [(.long ((((3 : Int64) * (n.toInt64)) + (1 : Int64)) / (2 : Int64)))])) τ
        refine XS.lstore X3.here hx rfl (hb hby at_70) rfl (l' := #[.val (.int xx), .val (.int mode), .val (.int (0 : Int32)), .val (.int n), .val (.long ((own_max (300 : Int32) (n + ((n + (1 : Int32)) / (2 : Int32)))).toInt64)), .second, .val (.long ((((3 : Int64) * (n.toInt64)) + (1 : Int64)) / (2 : Int64))), .second, .val (.long ((((3 : Int64) * (n.toInt64)) + (1 : Int64)) / (2 : Int64))), .second]) rfl ?_
        show Steps p.tables e below (T3.setTop (mkF m 72 #[.val (.int xx), .val (.int mode), .val (.int (0 : Int32)), .val (.int n), .val (.long ((own_max (300 : Int32) (n + ((n + (1 : Int32)) / (2 : Int32)))).toInt64)), .second, .val (.long ((((3 : Int64) * (n.toInt64)) + (1 : Int64)) / (2 : Int64))), .second, .val (.long ((((3 : Int64) * (n.toInt64)) + (1 : Int64)) / (2 : Int64))), .second] [])) τ
        refine XS.lload X3.here hx rfl (hb hby at_72) rfl ?_
        show Steps p.tables e below (T3.setTop (mkF m 74 #[.val (.int xx), .val (.int mode), .val (.int (0 : Int32)), .val (.int n), .val (.long ((own_max (300 : Int32) (n + ((n + (1 : Int32)) / (2 : Int32)))).toInt64)), .second, .val (.long ((((3 : Int64) * (n.toInt64)) + (1 : Int64)) / (2 : Int64))), .second, .val (.long ((((3 : Int64) * (n.toInt64)) + (1 : Int64)) / (2 : Int64))), .second] [(.long ((own_max (300 : Int32) (n + ((n + (1 : Int32)) / (2 : Int32)))).toInt64))])) τ
        refine XS.lload X3.here hx rfl (hb hby at_74) rfl ?_
        show Steps p.tables e below (T3.setTop (mkF m 76 #[.val (.int xx), .val (.int mode), .val (.int (0 : Int32)), .val (.int n), .val (.long ((own_max (300 : Int32) (n + ((n + (1 : Int32)) / (2 : Int32)))).toInt64)), .second, .val (.long ((((3 : Int64) * (n.toInt64)) + (1 : Int64)) / (2 : Int64))), .second, .val (.long ((((3 : Int64) * (n.toInt64)) + (1 : Int64)) / (2 : Int64))), .second] [(.long ((((3 : Int64) * (n.toInt64)) + (1 : Int64)) / (2 : Int64))), (.long ((own_max (300 : Int32) (n + ((n + (1 : Int32)) / (2 : Int32)))).toInt64))])) τ
        refine XS.lcmp X3.here hx rfl (hb hby at_76) rfl ?_
        show Steps p.tables e below (T3.setTop (mkF m 77 #[.val (.int xx), .val (.int mode), .val (.int (0 : Int32)), .val (.int n), .val (.long ((own_max (300 : Int32) (n + ((n + (1 : Int32)) / (2 : Int32)))).toInt64)), .second, .val (.long ((((3 : Int64) * (n.toInt64)) + (1 : Int64)) / (2 : Int64))), .second, .val (.long ((((3 : Int64) * (n.toInt64)) + (1 : Int64)) / (2 : Int64))), .second] [(.int (lcmpW ((own_max (300 : Int32) (n + ((n + (1 : Int32)) / (2 : Int32)))).toInt64) ((((3 : Int64) * (n.toInt64)) + (1 : Int64)) / (2 : Int64))))])) τ
        exact κ)
      have hc6 : ((own_max (300 : Int32) (n + ((n + (1 : Int32)) / (2 : Int32)))).toInt64) = ((((3 : Int64) * (n.toInt64)) + (1 : Int64)) / (2 : Int64)) := own_law_f _ hc59_4 hbn
      have pre : ∀ τ, Steps p.tables e below (T3.setTop (mkF m 85 #[.val (.int xx), .val (.int mode), .val (.int (0 : Int32)), .val (.int n), .val (.long ((own_max (300 : Int32) (n + ((n + (1 : Int32)) / (2 : Int32)))).toInt64)), .second, .val (.long ((((3 : Int64) * (n.toInt64)) + (1 : Int64)) / (2 : Int64))), .second, .val (.long ((((3 : Int64) * (n.toInt64)) + (1 : Int64)) / (2 : Int64))), .second] [(.int (1 : Int32))])) τ → G τ := fun τ κ => pre τ (by
        refine XS.ifNo X3.here hx rfl (hb hby at_77) rfl ((if0 _ _).trans (teq ((lw_eq _ _).mpr hc6)).2) ?_
        show Steps p.tables e below (T3.setTop (mkF m 80 #[.val (.int xx), .val (.int mode), .val (.int (0 : Int32)), .val (.int n), .val (.long ((own_max (300 : Int32) (n + ((n + (1 : Int32)) / (2 : Int32)))).toInt64)), .second, .val (.long ((((3 : Int64) * (n.toInt64)) + (1 : Int64)) / (2 : Int64))), .second, .val (.long ((((3 : Int64) * (n.toInt64)) + (1 : Int64)) / (2 : Int64))), .second] [])) τ
        refine XS.iconst X3.here hx rfl (hb hby at_80) ?_
        show Steps p.tables e below (T3.setTop (mkF m 81 #[.val (.int xx), .val (.int mode), .val (.int (0 : Int32)), .val (.int n), .val (.long ((own_max (300 : Int32) (n + ((n + (1 : Int32)) / (2 : Int32)))).toInt64)), .second, .val (.long ((((3 : Int64) * (n.toInt64)) + (1 : Int64)) / (2 : Int64))), .second, .val (.long ((((3 : Int64) * (n.toInt64)) + (1 : Int64)) / (2 : Int64))), .second] [(.int (1 : Int32))])) τ
        refine XS.goto X3.here hx rfl (pc0 := 81) (pc' := 85) rfl (hb hby at_81) (by decide) (by decide) ?_
        show Steps p.tables e below (T3.setTop (mkF m 85 #[.val (.int xx), .val (.int mode), .val (.int (0 : Int32)), .val (.int n), .val (.long ((own_max (300 : Int32) (n + ((n + (1 : Int32)) / (2 : Int32)))).toInt64)), .second, .val (.long ((((3 : Int64) * (n.toInt64)) + (1 : Int64)) / (2 : Int64))), .second, .val (.long ((((3 : Int64) * (n.toInt64)) + (1 : Int64)) / (2 : Int64))), .second] [(.int (1 : Int32))])) τ
        exact κ)
      obtain ⟨fs, hr, hrun, hended, hW, hsame⟩ := X3.leave (v := some (.int (1 : Int32))) (fun h => by rw [Bd.returns] at h; cases h)
      refine hGL ⟨_, _, hG _ (pre _ ?_), hrun, hended, _, _, rfl, ?_, ⟨_, rfl⟩, hW, hsame.mono (by decide) (by decide)⟩
      · exact retN X3 hx (t := .boolean) Bd.returns (by simp) (hb hby at_85) hr
      · show Q0 Z xx mode h0 n0 _ T3.heap _
        rw [hs3]
        exact ⟨rfl, NN⟩
  ·
    have pre : ∀ τ, Steps p.tables e below (s₁.setTop (mkF m 13 #[.val (.int xx), .val (.int mode), .val (.int (1 : Int32)), .unset, .unset, .unset, .unset, .unset, .unset, .unset] [(.int (1 : Int32))])) τ → G τ := fun τ κ => pre τ (by
      refine XS.ifNo X0.here hx rfl (hb hby at_3) rfl ((if0 _ _).trans (feq hc3_1).1) ?_
      show Steps p.tables e below (s₁.setTop (mkF m 6 #[.val (.int xx), .val (.int mode), .unset, .unset, .unset, .unset, .unset, .unset, .unset, .unset] [])) τ
      refine XS.iconst X0.here hx rfl (hb hby at_6) ?_
      show Steps p.tables e below (s₁.setTop (mkF m 7 #[.val (.int xx), .val (.int mode), .unset, .unset, .unset, .unset, .unset, .unset, .unset, .unset] [(.int (1 : Int32))])) τ
      refine XS.goto X0.here hx rfl (pc0 := 7) (pc' := 11) rfl (hb hby at_7) (by decide) (by decide) ?_
      show Steps p.tables e below (s₁.setTop (mkF m 11 #[.val (.int xx), .val (.int mode), .unset, .unset, .unset, .unset, .unset, .unset, .unset, .unset] [(.int (1 : Int32))])) τ
      refine XS.istoreN X0.here hx rfl (hb hby at_11) rfl (l' := #[.val (.int xx), .val (.int mode), .val (.int (1 : Int32)), .unset, .unset, .unset, .unset, .unset, .unset, .unset]) rfl ?_
      show Steps p.tables e below (s₁.setTop (mkF m 12 #[.val (.int xx), .val (.int mode), .val (.int (1 : Int32)), .unset, .unset, .unset, .unset, .unset, .unset, .unset] [])) τ
      refine XS.iloadN X0.here hx rfl (hb hby at_12) rfl ?_
      show Steps p.tables e below (s₁.setTop (mkF m 13 #[.val (.int xx), .val (.int mode), .val (.int (1 : Int32)), .unset, .unset, .unset, .unset, .unset, .unset, .unset] [(.int (1 : Int32))])) τ
      exact κ)
    have hc7 : ¬ ((1 : Int32) = (0 : Int32)) := (by decide)
    have pre : ∀ τ, Steps p.tables e below (s₁.setTop (mkF m 32 #[.val (.int xx), .val (.int mode), .val (.int (1 : Int32)), .val (.int (xx &&& (1023 : Int32))), .unset, .unset, .unset, .unset, .unset, .unset] [])) τ → G τ := fun τ κ => pre τ (by
      refine XS.ifNo X0.here hx rfl (hb hby at_13) rfl ((if0 _ _).trans (feq hc7).1) ?_
      show Steps p.tables e below (s₁.setTop (mkF m 16 #[.val (.int xx), .val (.int mode), .val (.int (1 : Int32)), .unset, .unset, .unset, .unset, .unset, .unset, .unset] [])) τ
      refine XS.iloadN X0.here hx rfl (hb hby at_16) rfl ?_
      show Steps p.tables e below (s₁.setTop (mkF m 17 #[.val (.int xx), .val (.int mode), .val (.int (1 : Int32)), .unset, .unset, .unset, .unset, .unset, .unset, .unset] [(.int xx)])) τ
      refine XS.sipush X0.here hx rfl (hb hby at_17) ?_
      show Steps p.tables e below (s₁.setTop (mkF m 20 #[.val (.int xx), .val (.int mode), .val (.int (1 : Int32)), .unset, .unset, .unset, .unset, .unset, .unset, .unset] [(.int (1023 : Int32)), (.int xx)])) τ
      refine XS.iand X0.here hx rfl (hb hby at_20) rfl ?_
      show Steps p.tables e below (s₁.setTop (mkF m 21 #[.val (.int xx), .val (.int mode), .val (.int (1 : Int32)), .unset, .unset, .unset, .unset, .unset, .unset, .unset] [(.int (xx &&& (1023 : Int32)))])) τ
      refine XS.goto X0.here hx rfl (pc0 := 21) (pc' := 31) rfl (hb hby at_21) (by decide) (by decide) ?_
      show Steps p.tables e below (s₁.setTop (mkF m 31 #[.val (.int xx), .val (.int mode), .val (.int (1 : Int32)), .unset, .unset, .unset, .unset, .unset, .unset, .unset] [(.int (xx &&& (1023 : Int32)))])) τ
      refine XS.istoreN X0.here hx rfl (hb hby at_31) rfl (l' := #[.val (.int xx), .val (.int mode), .val (.int (1 : Int32)), .val (.int (xx &&& (1023 : Int32))), .unset, .unset, .unset, .unset, .unset, .unset]) rfl ?_
      show Steps p.tables e below (s₁.setTop (mkF m 32 #[.val (.int xx), .val (.int mode), .val (.int (1 : Int32)), .val (.int (xx &&& (1023 : Int32))), .unset, .unset, .unset, .unset, .unset, .unset] [])) τ
      exact κ)
    obtain ⟨n, hn⟩ : ∃ z : Int32, z = (xx &&& (1023 : Int32)) := ⟨_, rfl⟩
    have pre : ∀ τ, Steps p.tables e below (s₁.setTop (mkF m 32 #[.val (.int xx), .val (.int mode), .val (.int (1 : Int32)), .val (.int n), .unset, .unset, .unset, .unset, .unset, .unset] [])) τ → G τ := by subst hn; exact pre
    have hbn : 0 ≤ n.toInt ∧ n.toInt ≤ 1431655764 := by rw [hn]; exact own_b1 _
    have pre : ∀ τ, Steps p.tables e below (s₁.setTop (mkF m 33 #[.val (.int xx), .val (.int mode), .val (.int (1 : Int32)), .val (.int n), .unset, .unset, .unset, .unset, .unset, .unset] [(.int n)])) τ → G τ := fun τ κ => pre τ (by
      refine XS.iloadN X0.here hx rfl (hb hby at_32) rfl ?_
      show Steps p.tables e below (s₁.setTop (mkF m 33 #[.val (.int xx), .val (.int mode), .val (.int (1 : Int32)), .val (.int n), .unset, .unset, .unset, .unset, .unset, .unset] [(.int n)])) τ
      exact κ)
    obtain ⟨_, _, ⟨T8, Lx8, kx8, nx8⟩, -, X8, ⟨Lc8, hQ8, l8, y8, z8⟩, st8⟩ := Jvm.LawKit.callS X0 hx (y := (⟨"com/example/idlefleet/idlefleet/SamplingVoting", "defaultSampleRequests", "(I)I"⟩ : MethodName)) hown (mvT hZ (hw _ (List.mem_of_getElem? (i := 0) rfl))) (mvT hZ (hw _ (List.mem_of_getElem? (i := 1) rfl))) (mvT hZ (hw _ (List.mem_of_getElem? (i := 2) rfl))) (mvT hZ (hw _ (List.mem_of_getElem? (i := 3) rfl))) (by decide) (backOf (W := 0) (rm1 l Z a0 hw [] n h0 n0 Zn) hZ (hw _ (List.mem_of_getElem? (i := 3) rfl)) (hw _ (List.mem_of_getElem? (i := 2) rfl)) (by decide) (by decide)) (g := (mkF m 33 #[.val (.int xx), .val (.int mode), .val (.int (1 : Int32)), .val (.int n), .unset, .unset, .unset, .unset, .unset, .unset] [(.int n)])) rfl (by rw [hml]; rfl) (argsL := [(.int n)]) (rest := []) (lenOf pd_1 rfl) rfl (by show 2 * 0 + _ ≤ _; exact Nat.le_of_eq rfl) (hb hby at_33) (fun _ _ => ⟨rfl, e0, (by decide : 0 + 0 ≤ _), (by decide : 0 + 0 ≤ _)⟩)
    dsimp only [Pt.U, Pt.locs, Pt.cells, Pt.slots] at X8 l8 y8 z8 st8 hQ8
    subst l8 y8 z8
    obtain ⟨rfl, Nq8, hs8⟩ := hQ8
    have NN := Fr.app N0 Nq8
    have pre : ∀ τ, Steps p.tables e below (T8.setTop (mkF m 36 #[.val (.int xx), .val (.int mode), .val (.int (1 : Int32)), .val (.int n), .unset, .unset, .unset, .unset, .unset, .unset] [(.int (own_max (300 : Int32) (n + ((n + (1 : Int32)) / (2 : Int32)))))])) τ → G τ := fun τ κ => pre τ (st8 τ κ)
    have pre : ∀ τ, Steps p.tables e below (T8.setTop (mkF m 59 #[.val (.int xx), .val (.int mode), .val (.int (1 : Int32)), .val (.int n), .val (.long ((own_max (300 : Int32) (n + ((n + (1 : Int32)) / (2 : Int32)))).toInt64)), .second, .val (.long ((((3 : Int64) * (n.toInt64)) + (1 : Int64)) / (2 : Int64))), .second, .unset, .unset] [(.int (lcmpW ((((3 : Int64) * (n.toInt64)) + (1 : Int64)) / (2 : Int64)) (300 : Int64)))])) τ → G τ := fun τ κ => pre τ (by
      refine XS.i2l X8.here hx rfl (hb hby at_36) rfl ?_
      show Steps p.tables e below (T8.setTop (mkF m 37 #[.val (.int xx), .val (.int mode), .val (.int (1 : Int32)), .val (.int n), .unset, .unset, .unset, .unset, .unset, .unset] [(.long ((own_max (300 : Int32) (n + ((n + (1 : Int32)) / (2 : Int32)))).toInt64))])) τ
      refine XS.lstore X8.here hx rfl (hb hby at_37) rfl (l' := #[.val (.int xx), .val (.int mode), .val (.int (1 : Int32)), .val (.int n), .val (.long ((own_max (300 : Int32) (n + ((n + (1 : Int32)) / (2 : Int32)))).toInt64)), .second, .unset, .unset, .unset, .unset]) rfl ?_
      show Steps p.tables e below (T8.setTop (mkF m 39 #[.val (.int xx), .val (.int mode), .val (.int (1 : Int32)), .val (.int n), .val (.long ((own_max (300 : Int32) (n + ((n + (1 : Int32)) / (2 : Int32)))).toInt64)), .second, .unset, .unset, .unset, .unset] [])) τ
      refine X8.ldc2Long hx hown (mvT hZ (hw _ (List.mem_of_getElem? (i := 8) rfl))) (g := (mkF m 39 #[.val (.int xx), .val (.int mode), .val (.int (1 : Int32)), .val (.int n), .val (.long ((own_max (300 : Int32) (n + ((n + (1 : Int32)) / (2 : Int32)))).toInt64)), .second, .unset, .unset, .unset, .unset] [])) rfl (hb hby at_39) _ ?_
      show Steps p.tables e below (T8.setTop (mkF m 42 #[.val (.int xx), .val (.int mode), .val (.int (1 : Int32)), .val (.int n), .val (.long ((own_max (300 : Int32) (n + ((n + (1 : Int32)) / (2 : Int32)))).toInt64)), .second, .unset, .unset, .unset, .unset] [(.long (3 : Int64))])) τ
      refine XS.iloadN X8.here hx rfl (hb hby at_42) rfl ?_
      show Steps p.tables e below (T8.setTop (mkF m 43 #[.val (.int xx), .val (.int mode), .val (.int (1 : Int32)), .val (.int n), .val (.long ((own_max (300 : Int32) (n + ((n + (1 : Int32)) / (2 : Int32)))).toInt64)), .second, .unset, .unset, .unset, .unset] [(.int n), (.long (3 : Int64))])) τ
      refine XS.i2l X8.here hx rfl (hb hby at_43) rfl ?_
      show Steps p.tables e below (T8.setTop (mkF m 44 #[.val (.int xx), .val (.int mode), .val (.int (1 : Int32)), .val (.int n), .val (.long ((own_max (300 : Int32) (n + ((n + (1 : Int32)) / (2 : Int32)))).toInt64)), .second, .unset, .unset, .unset, .unset] [(.long (n.toInt64)), (.long (3 : Int64))])) τ
      refine XS.lmul X8.here hx rfl (hb hby at_44) rfl ?_
      show Steps p.tables e below (T8.setTop (mkF m 45 #[.val (.int xx), .val (.int mode), .val (.int (1 : Int32)), .val (.int n), .val (.long ((own_max (300 : Int32) (n + ((n + (1 : Int32)) / (2 : Int32)))).toInt64)), .second, .unset, .unset, .unset, .unset] [(.long ((3 : Int64) * (n.toInt64)))])) τ
      refine XS.lconst X8.here hx rfl (hb hby at_45) ?_
      show Steps p.tables e below (T8.setTop (mkF m 46 #[.val (.int xx), .val (.int mode), .val (.int (1 : Int32)), .val (.int n), .val (.long ((own_max (300 : Int32) (n + ((n + (1 : Int32)) / (2 : Int32)))).toInt64)), .second, .unset, .unset, .unset, .unset] [(.long (1 : Int64)), (.long ((3 : Int64) * (n.toInt64)))])) τ
      refine XS.ladd X8.here hx rfl (hb hby at_46) rfl ?_
      show Steps p.tables e below (T8.setTop (mkF m 47 #[.val (.int xx), .val (.int mode), .val (.int (1 : Int32)), .val (.int n), .val (.long ((own_max (300 : Int32) (n + ((n + (1 : Int32)) / (2 : Int32)))).toInt64)), .second, .unset, .unset, .unset, .unset] [(.long (((3 : Int64) * (n.toInt64)) + (1 : Int64)))])) τ
      refine X8.ldc2Long hx hown (mvT hZ (hw _ (List.mem_of_getElem? (i := 9) rfl))) (g := (mkF m 47 #[.val (.int xx), .val (.int mode), .val (.int (1 : Int32)), .val (.int n), .val (.long ((own_max (300 : Int32) (n + ((n + (1 : Int32)) / (2 : Int32)))).toInt64)), .second, .unset, .unset, .unset, .unset] [(.long (((3 : Int64) * (n.toInt64)) + (1 : Int64)))])) rfl (hb hby at_47) _ ?_
      show Steps p.tables e below (T8.setTop (mkF m 50 #[.val (.int xx), .val (.int mode), .val (.int (1 : Int32)), .val (.int n), .val (.long ((own_max (300 : Int32) (n + ((n + (1 : Int32)) / (2 : Int32)))).toInt64)), .second, .unset, .unset, .unset, .unset] [(.long (2 : Int64)), (.long (((3 : Int64) * (n.toInt64)) + (1 : Int64)))])) τ
      refine XS.ldiv X8.here hx rfl (hb hby at_50) rfl (by decide) ?_
      show Steps p.tables e below (T8.setTop (mkF m 51 #[.val (.int xx), .val (.int mode), .val (.int (1 : Int32)), .val (.int n), .val (.long ((own_max (300 : Int32) (n + ((n + (1 : Int32)) / (2 : Int32)))).toInt64)), .second, .unset, .unset, .unset, .unset] [(.long ((((3 : Int64) * (n.toInt64)) + (1 : Int64)) / (2 : Int64)))])) τ
      refine XS.lstore X8.here hx rfl (hb hby at_51) rfl (l' := #[.val (.int xx), .val (.int mode), .val (.int (1 : Int32)), .val (.int n), .val (.long ((own_max (300 : Int32) (n + ((n + (1 : Int32)) / (2 : Int32)))).toInt64)), .second, .val (.long ((((3 : Int64) * (n.toInt64)) + (1 : Int64)) / (2 : Int64))), .second, .unset, .unset]) rfl ?_
      show Steps p.tables e below (T8.setTop (mkF m 53 #[.val (.int xx), .val (.int mode), .val (.int (1 : Int32)), .val (.int n), .val (.long ((own_max (300 : Int32) (n + ((n + (1 : Int32)) / (2 : Int32)))).toInt64)), .second, .val (.long ((((3 : Int64) * (n.toInt64)) + (1 : Int64)) / (2 : Int64))), .second, .unset, .unset] [])) τ
      refine XS.lload X8.here hx rfl (hb hby at_53) rfl ?_
      show Steps p.tables e below (T8.setTop (mkF m 55 #[.val (.int xx), .val (.int mode), .val (.int (1 : Int32)), .val (.int n), .val (.long ((own_max (300 : Int32) (n + ((n + (1 : Int32)) / (2 : Int32)))).toInt64)), .second, .val (.long ((((3 : Int64) * (n.toInt64)) + (1 : Int64)) / (2 : Int64))), .second, .unset, .unset] [(.long ((((3 : Int64) * (n.toInt64)) + (1 : Int64)) / (2 : Int64)))])) τ
      refine X8.ldc2Long hx hown (mvT hZ (hw _ (List.mem_of_getElem? (i := 10) rfl))) (g := (mkF m 55 #[.val (.int xx), .val (.int mode), .val (.int (1 : Int32)), .val (.int n), .val (.long ((own_max (300 : Int32) (n + ((n + (1 : Int32)) / (2 : Int32)))).toInt64)), .second, .val (.long ((((3 : Int64) * (n.toInt64)) + (1 : Int64)) / (2 : Int64))), .second, .unset, .unset] [(.long ((((3 : Int64) * (n.toInt64)) + (1 : Int64)) / (2 : Int64)))])) rfl (hb hby at_55) _ ?_
      show Steps p.tables e below (T8.setTop (mkF m 58 #[.val (.int xx), .val (.int mode), .val (.int (1 : Int32)), .val (.int n), .val (.long ((own_max (300 : Int32) (n + ((n + (1 : Int32)) / (2 : Int32)))).toInt64)), .second, .val (.long ((((3 : Int64) * (n.toInt64)) + (1 : Int64)) / (2 : Int64))), .second, .unset, .unset] [(.long (300 : Int64)), (.long ((((3 : Int64) * (n.toInt64)) + (1 : Int64)) / (2 : Int64)))])) τ
      refine XS.lcmp X8.here hx rfl (hb hby at_58) rfl ?_
      show Steps p.tables e below (T8.setTop (mkF m 59 #[.val (.int xx), .val (.int mode), .val (.int (1 : Int32)), .val (.int n), .val (.long ((own_max (300 : Int32) (n + ((n + (1 : Int32)) / (2 : Int32)))).toInt64)), .second, .val (.long ((((3 : Int64) * (n.toInt64)) + (1 : Int64)) / (2 : Int64))), .second, .unset, .unset] [(.int (lcmpW ((((3 : Int64) * (n.toInt64)) + (1 : Int64)) / (2 : Int64)) (300 : Int64)))])) τ
      exact κ)
    rcases Classical.em (((((3 : Int64) * (n.toInt64)) + (1 : Int64)) / (2 : Int64)) < (300 : Int64)) with hc59_9 | hc59_9
    ·
      have pre : ∀ τ, Steps p.tables e below (T8.setTop (mkF m 77 #[.val (.int xx), .val (.int mode), .val (.int (1 : Int32)), .val (.int n), .val (.long ((own_max (300 : Int32) (n + ((n + (1 : Int32)) / (2 : Int32)))).toInt64)), .second, .val (.long ((((3 : Int64) * (n.toInt64)) + (1 : Int64)) / (2 : Int64))), .second, .val (.long (300 : Int64)), .second] [(.int (lcmpW ((own_max (300 : Int32) (n + ((n + (1 : Int32)) / (2 : Int32)))).toInt64) (300 : Int64)))])) τ → G τ := fun τ κ => pre τ (by
        refine XS.ifNo X8.here hx rfl (hb hby at_59) rfl ((if0 _ _).trans (tlt ((lw_lt _ _).mpr hc59_9)).2.1) ?_
        show Steps p.tables e below (T8.setTop (mkF m 62 #[.val (.int xx), .val (.int mode), .val (.int (1 : Int32)), .val (.int n), .val (.long ((own_max (300 : Int32) (n + ((n + (1 : Int32)) / (2 : Int32)))).toInt64)), .second, .val (.long ((((3 : Int64) * (n.toInt64)) + (1 : Int64)) / (2 : Int64))), .second, .unset, .unset] [])) τ
        refine X8.ldc2Long hx hown (mvT hZ (hw _ (List.mem_of_getElem? (i := 10) rfl))) (g := (mkF m 62 #[.val (.int xx), .val (.int mode), .val (.int (1 : Int32)), .val (.int n), .val (.long ((own_max (300 : Int32) (n + ((n + (1 : Int32)) / (2 : Int32)))).toInt64)), .second, .val (.long ((((3 : Int64) * (n.toInt64)) + (1 : Int64)) / (2 : Int64))), .second, .unset, .unset] [])) rfl (hb hby at_62) _ ?_
        show Steps p.tables e below (T8.setTop (mkF m 65 #[.val (.int xx), .val (.int mode), .val (.int (1 : Int32)), .val (.int n), .val (.long ((own_max (300 : Int32) (n + ((n + (1 : Int32)) / (2 : Int32)))).toInt64)), .second, .val (.long ((((3 : Int64) * (n.toInt64)) + (1 : Int64)) / (2 : Int64))), .second, .unset, .unset] [(.long (300 : Int64))])) τ
        refine XS.goto X8.here hx rfl (pc0 := 65) (pc' := 70) rfl (hb hby at_65) (by decide) (by decide) ?_
        show Steps p.tables e below (T8.setTop (mkF m 70 #[.val (.int xx), .val (.int mode), .val (.int (1 : Int32)), .val (.int n), .val (.long ((own_max (300 : Int32) (n + ((n + (1 : Int32)) / (2 : Int32)))).toInt64)), .second, .val (.long ((((3 : Int64) * (n.toInt64)) + (1 : Int64)) / (2 : Int64))), .second, .unset, .unset] [(.long (300 : Int64))])) τ
        refine XS.lstore X8.here hx rfl (hb hby at_70) rfl (l' := #[.val (.int xx), .val (.int mode), .val (.int (1 : Int32)), .val (.int n), .val (.long ((own_max (300 : Int32) (n + ((n + (1 : Int32)) / (2 : Int32)))).toInt64)), .second, .val (.long ((((3 : Int64) * (n.toInt64)) + (1 : Int64)) / (2 : Int64))), .second, .val (.long (300 : Int64)), .second]) rfl ?_
        show Steps p.tables e below (T8.setTop (mkF m 72 #[.val (.int xx), .val (.int mode), .val (.int (1 : Int32)), .val (.int n), .val (.long ((own_max (300 : Int32) (n + ((n + (1 : Int32)) / (2 : Int32)))).toInt64)), .second, .val (.long ((((3 : Int64) * (n.toInt64)) + (1 : Int64)) / (2 : Int64))), .second, .val (.long (300 : Int64)), .second] [])) τ
        refine XS.lload X8.here hx rfl (hb hby at_72) rfl ?_
        show Steps p.tables e below (T8.setTop (mkF m 74 #[.val (.int xx), .val (.int mode), .val (.int (1 : Int32)), .val (.int n), .val (.long ((own_max (300 : Int32) (n + ((n + (1 : Int32)) / (2 : Int32)))).toInt64)), .second, .val (.long ((((3 : Int64) * (n.toInt64)) + (1 : Int64)) / (2 : Int64))), .second, .val (.long (300 : Int64)), .second] [(.long ((own_max (300 : Int32) (n + ((n + (1 : Int32)) / (2 : Int32)))).toInt64))])) τ
        refine XS.lload X8.here hx rfl (hb hby at_74) rfl ?_
        show Steps p.tables e below (T8.setTop (mkF m 76 #[.val (.int xx), .val (.int mode), .val (.int (1 : Int32)), .val (.int n), .val (.long ((own_max (300 : Int32) (n + ((n + (1 : Int32)) / (2 : Int32)))).toInt64)), .second, .val (.long ((((3 : Int64) * (n.toInt64)) + (1 : Int64)) / (2 : Int64))), .second, .val (.long (300 : Int64)), .second] [(.long (300 : Int64)), (.long ((own_max (300 : Int32) (n + ((n + (1 : Int32)) / (2 : Int32)))).toInt64))])) τ
        refine XS.lcmp X8.here hx rfl (hb hby at_76) rfl ?_
        show Steps p.tables e below (T8.setTop (mkF m 77 #[.val (.int xx), .val (.int mode), .val (.int (1 : Int32)), .val (.int n), .val (.long ((own_max (300 : Int32) (n + ((n + (1 : Int32)) / (2 : Int32)))).toInt64)), .second, .val (.long ((((3 : Int64) * (n.toInt64)) + (1 : Int64)) / (2 : Int64))), .second, .val (.long (300 : Int64)), .second] [(.int (lcmpW ((own_max (300 : Int32) (n + ((n + (1 : Int32)) / (2 : Int32)))).toInt64) (300 : Int64)))])) τ
        exact κ)
      have hc10 : ((own_max (300 : Int32) (n + ((n + (1 : Int32)) / (2 : Int32)))).toInt64) = (300 : Int64) := own_law_t _ hc59_9 hbn
      have pre : ∀ τ, Steps p.tables e below (T8.setTop (mkF m 85 #[.val (.int xx), .val (.int mode), .val (.int (1 : Int32)), .val (.int n), .val (.long ((own_max (300 : Int32) (n + ((n + (1 : Int32)) / (2 : Int32)))).toInt64)), .second, .val (.long ((((3 : Int64) * (n.toInt64)) + (1 : Int64)) / (2 : Int64))), .second, .val (.long (300 : Int64)), .second] [(.int (1 : Int32))])) τ → G τ := fun τ κ => pre τ (by
        refine XS.ifNo X8.here hx rfl (hb hby at_77) rfl ((if0 _ _).trans (teq ((lw_eq _ _).mpr hc10)).2) ?_
        show Steps p.tables e below (T8.setTop (mkF m 80 #[.val (.int xx), .val (.int mode), .val (.int (1 : Int32)), .val (.int n), .val (.long ((own_max (300 : Int32) (n + ((n + (1 : Int32)) / (2 : Int32)))).toInt64)), .second, .val (.long ((((3 : Int64) * (n.toInt64)) + (1 : Int64)) / (2 : Int64))), .second, .val (.long (300 : Int64)), .second] [])) τ
        refine XS.iconst X8.here hx rfl (hb hby at_80) ?_
        show Steps p.tables e below (T8.setTop (mkF m 81 #[.val (.int xx), .val (.int mode), .val (.int (1 : Int32)), .val (.int n), .val (.long ((own_max (300 : Int32) (n + ((n + (1 : Int32)) / (2 : Int32)))).toInt64)), .second, .val (.long ((((3 : Int64) * (n.toInt64)) + (1 : Int64)) / (2 : Int64))), .second, .val (.long (300 : Int64)), .second] [(.int (1 : Int32))])) τ
        refine XS.goto X8.here hx rfl (pc0 := 81) (pc' := 85) rfl (hb hby at_81) (by decide) (by decide) ?_
        show Steps p.tables e below (T8.setTop (mkF m 85 #[.val (.int xx), .val (.int mode), .val (.int (1 : Int32)), .val (.int n), .val (.long ((own_max (300 : Int32) (n + ((n + (1 : Int32)) / (2 : Int32)))).toInt64)), .second, .val (.long ((((3 : Int64) * (n.toInt64)) + (1 : Int64)) / (2 : Int64))), .second, .val (.long (300 : Int64)), .second] [(.int (1 : Int32))])) τ
        exact κ)
      obtain ⟨fs, hr, hrun, hended, hW, hsame⟩ := X8.leave (v := some (.int (1 : Int32))) (fun h => by rw [Bd.returns] at h; cases h)
      refine hGL ⟨_, _, hG _ (pre _ ?_), hrun, hended, _, _, rfl, ?_, ⟨_, rfl⟩, hW, hsame.mono (by decide) (by decide)⟩
      · exact retN X8 hx (t := .boolean) Bd.returns (by simp) (hb hby at_85) hr
      · show Q0 Z xx mode h0 n0 _ T8.heap _
        rw [hs8]
        exact ⟨rfl, NN⟩
    ·
      have pre : ∀ τ, Steps p.tables e below (T8.setTop (mkF m 77 #[.val (.int xx), .val (.int mode), .val (.int (1 : Int32)), .val (.int n), .val (.long ((own_max (300 : Int32) (n + ((n + (1 : Int32)) / (2 : Int32)))).toInt64)), .second, .val (.long ((((3 : Int64) * (n.toInt64)) + (1 : Int64)) / (2 : Int64))), .second, .val (.long ((((3 : Int64) * (n.toInt64)) + (1 : Int64)) / (2 : Int64))), .second] [(.int (lcmpW ((own_max (300 : Int32) (n + ((n + (1 : Int32)) / (2 : Int32)))).toInt64) ((((3 : Int64) * (n.toInt64)) + (1 : Int64)) / (2 : Int64))))])) τ → G τ := fun τ κ => pre τ (by
        refine XS.ifYes X8.here hx rfl (pc0 := 59) (pc' := 68) rfl (hb hby at_59) rfl ((if0 _ _).trans (flt (fun q => hc59_9 ((lw_lt _ _).mp q))).2.1) (by decide) (by decide) ?_
        show Steps p.tables e below (T8.setTop (mkF m 68 #[.val (.int xx), .val (.int mode), .val (.int (1 : Int32)), .val (.int n), .val (.long ((own_max (300 : Int32) (n + ((n + (1 : Int32)) / (2 : Int32)))).toInt64)), .second, .val (.long ((((3 : Int64) * (n.toInt64)) + (1 : Int64)) / (2 : Int64))), .second, .unset, .unset] [])) τ
        refine XS.lload X8.here hx rfl (hb hby at_68) rfl ?_
        show Steps p.tables e below (T8.setTop (mkF m 70 #[.val (.int xx), .val (.int mode), .val (.int (1 : Int32)), .val (.int n), .val (.long ((own_max (300 : Int32) (n + ((n + (1 : Int32)) / (2 : Int32)))).toInt64)), .second, .val (.long ((((3 : Int64) * (n.toInt64)) + (1 : Int64)) / (2 : Int64))), .second, .unset, .unset] [(.long ((((3 : Int64) * (n.toInt64)) + (1 : Int64)) / (2 : Int64)))])) τ
        refine XS.lstore X8.here hx rfl (hb hby at_70) rfl (l' := #[.val (.int xx), .val (.int mode), .val (.int (1 : Int32)), .val (.int n), .val (.long ((own_max (300 : Int32) (n + ((n + (1 : Int32)) / (2 : Int32)))).toInt64)), .second, .val (.long ((((3 : Int64) * (n.toInt64)) + (1 : Int64)) / (2 : Int64))), .second, .val (.long ((((3 : Int64) * (n.toInt64)) + (1 : Int64)) / (2 : Int64))), .second]) rfl ?_
        show Steps p.tables e below (T8.setTop (mkF m 72 #[.val (.int xx), .val (.int mode), .val (.int (1 : Int32)), .val (.int n), .val (.long ((own_max (300 : Int32) (n + ((n + (1 : Int32)) / (2 : Int32)))).toInt64)), .second, .val (.long ((((3 : Int64) * (n.toInt64)) + (1 : Int64)) / (2 : Int64))), .second, .val (.long ((((3 : Int64) * (n.toInt64)) + (1 : Int64)) / (2 : Int64))), .second] [])) τ
        refine XS.lload X8.here hx rfl (hb hby at_72) rfl ?_
        show Steps p.tables e below (T8.setTop (mkF m 74 #[.val (.int xx), .val (.int mode), .val (.int (1 : Int32)), .val (.int n), .val (.long ((own_max (300 : Int32) (n + ((n + (1 : Int32)) / (2 : Int32)))).toInt64)), .second, .val (.long ((((3 : Int64) * (n.toInt64)) + (1 : Int64)) / (2 : Int64))), .second, .val (.long ((((3 : Int64) * (n.toInt64)) + (1 : Int64)) / (2 : Int64))), .second] [(.long ((own_max (300 : Int32) (n + ((n + (1 : Int32)) / (2 : Int32)))).toInt64))])) τ
        refine XS.lload X8.here hx rfl (hb hby at_74) rfl ?_
        show Steps p.tables e below (T8.setTop (mkF m 76 #[.val (.int xx), .val (.int mode), .val (.int (1 : Int32)), .val (.int n), .val (.long ((own_max (300 : Int32) (n + ((n + (1 : Int32)) / (2 : Int32)))).toInt64)), .second, .val (.long ((((3 : Int64) * (n.toInt64)) + (1 : Int64)) / (2 : Int64))), .second, .val (.long ((((3 : Int64) * (n.toInt64)) + (1 : Int64)) / (2 : Int64))), .second] [(.long ((((3 : Int64) * (n.toInt64)) + (1 : Int64)) / (2 : Int64))), (.long ((own_max (300 : Int32) (n + ((n + (1 : Int32)) / (2 : Int32)))).toInt64))])) τ
        refine XS.lcmp X8.here hx rfl (hb hby at_76) rfl ?_
        show Steps p.tables e below (T8.setTop (mkF m 77 #[.val (.int xx), .val (.int mode), .val (.int (1 : Int32)), .val (.int n), .val (.long ((own_max (300 : Int32) (n + ((n + (1 : Int32)) / (2 : Int32)))).toInt64)), .second, .val (.long ((((3 : Int64) * (n.toInt64)) + (1 : Int64)) / (2 : Int64))), .second, .val (.long ((((3 : Int64) * (n.toInt64)) + (1 : Int64)) / (2 : Int64))), .second] [(.int (lcmpW ((own_max (300 : Int32) (n + ((n + (1 : Int32)) / (2 : Int32)))).toInt64) ((((3 : Int64) * (n.toInt64)) + (1 : Int64)) / (2 : Int64))))])) τ
        exact κ)
      have hc11 : ((own_max (300 : Int32) (n + ((n + (1 : Int32)) / (2 : Int32)))).toInt64) = ((((3 : Int64) * (n.toInt64)) + (1 : Int64)) / (2 : Int64)) := own_law_f _ hc59_9 hbn
      have pre : ∀ τ, Steps p.tables e below (T8.setTop (mkF m 85 #[.val (.int xx), .val (.int mode), .val (.int (1 : Int32)), .val (.int n), .val (.long ((own_max (300 : Int32) (n + ((n + (1 : Int32)) / (2 : Int32)))).toInt64)), .second, .val (.long ((((3 : Int64) * (n.toInt64)) + (1 : Int64)) / (2 : Int64))), .second, .val (.long ((((3 : Int64) * (n.toInt64)) + (1 : Int64)) / (2 : Int64))), .second] [(.int (1 : Int32))])) τ → G τ := fun τ κ => pre τ (by
        refine XS.ifNo X8.here hx rfl (hb hby at_77) rfl ((if0 _ _).trans (teq ((lw_eq _ _).mpr hc11)).2) ?_
        show Steps p.tables e below (T8.setTop (mkF m 80 #[.val (.int xx), .val (.int mode), .val (.int (1 : Int32)), .val (.int n), .val (.long ((own_max (300 : Int32) (n + ((n + (1 : Int32)) / (2 : Int32)))).toInt64)), .second, .val (.long ((((3 : Int64) * (n.toInt64)) + (1 : Int64)) / (2 : Int64))), .second, .val (.long ((((3 : Int64) * (n.toInt64)) + (1 : Int64)) / (2 : Int64))), .second] [])) τ
        refine XS.iconst X8.here hx rfl (hb hby at_80) ?_
        show Steps p.tables e below (T8.setTop (mkF m 81 #[.val (.int xx), .val (.int mode), .val (.int (1 : Int32)), .val (.int n), .val (.long ((own_max (300 : Int32) (n + ((n + (1 : Int32)) / (2 : Int32)))).toInt64)), .second, .val (.long ((((3 : Int64) * (n.toInt64)) + (1 : Int64)) / (2 : Int64))), .second, .val (.long ((((3 : Int64) * (n.toInt64)) + (1 : Int64)) / (2 : Int64))), .second] [(.int (1 : Int32))])) τ
        refine XS.goto X8.here hx rfl (pc0 := 81) (pc' := 85) rfl (hb hby at_81) (by decide) (by decide) ?_
        show Steps p.tables e below (T8.setTop (mkF m 85 #[.val (.int xx), .val (.int mode), .val (.int (1 : Int32)), .val (.int n), .val (.long ((own_max (300 : Int32) (n + ((n + (1 : Int32)) / (2 : Int32)))).toInt64)), .second, .val (.long ((((3 : Int64) * (n.toInt64)) + (1 : Int64)) / (2 : Int64))), .second, .val (.long ((((3 : Int64) * (n.toInt64)) + (1 : Int64)) / (2 : Int64))), .second] [(.int (1 : Int32))])) τ
        exact κ)
      obtain ⟨fs, hr, hrun, hended, hW, hsame⟩ := X8.leave (v := some (.int (1 : Int32))) (fun h => by rw [Bd.returns] at h; cases h)
      refine hGL ⟨_, _, hG _ (pre _ ?_), hrun, hended, _, _, rfl, ?_, ⟨_, rfl⟩, hW, hsame.mono (by decide) (by decide)⟩
      · exact retN X8 hx (t := .boolean) Bd.returns (by simp) (hb hby at_85) hr
      · show Q0 Z xx mode h0 n0 _ T8.heap _
        rw [hs8]
        exact ⟨rfl, NN⟩
set_option maxRecDepth 65536 in
set_option maxHeartbeats 40000000 in
theorem comes_1 {Post : Tables → Env → Array Value → State → Outcome → State → Prop} (hpost : ∀ tb e args s v u, (limb_1_1.after args s (.returned v) u = true ∧ limb_1_2.after args s (.returned v) u = true ∧ True) → FrameEnd s (.returned v) u (Jvm.fieldLocs frame_1_writes args s ++ Jvm.arrayLocs frame_1_arrays args s ++ Jvm.staticLocs frame_1_statics s) 0 0 → Post tb e args s (.returned v) u) :
    ArmFor flags0 classFile x code maxLocals ret World_1 tables_1 room_1 Calls_1 rest_1 Pre_1 Post := by
  intro l hfl _ _ p e ha hc hk s m args below hf hA hF happ hP
  obtain ⟨hcalls, hrest, hpre⟩ := hP
  obtain ⟨-, -, -, hnamed, -, -, -, hat⟩ := (Spec.applies_iff hf).mp happ
  obtain ⟨hg, hn⟩ := and_e (Cond.before_iff.mp (show (Jvm.Cond.and given_1 narrow_1).before args s = true from hpre))
  obtain ⟨gv1, gv2⟩ := and_e hg
  obtain ⟨gv3, gv4⟩ := and_e gv2
  obtain ⟨w0, w1, rfl⟩ : ∃ w0 w1 : Value, args = #[w0, w1] := by
    have hs : args.size = 2 := by simpa [Cond.value, given_1] using gv1
    obtain ⟨L⟩ := args
    match L, hs with
    | [w0, w1], _ => exact ⟨w0, w1, rfl⟩
  have hw := fun d (hd : d ∈ tables_1) => atoms_spec (ws := Jvm.Cond.code x code maxLocals ret :: tables_1) hat d (List.mem_cons_of_mem _ hd)
  have hfit : Fit s := fun {y c} hc i hi => by
    obtain ⟨ha, rfl⟩ := Array.getElem?_eq_some_iff.mp hc
    have q := List.all_eq_true.mp ((Array.all_eq_true_iff_forall_mem.mp hF) _ (Array.getElem_mem ha)) i (List.mem_range.mpr hi)
    simpa [Array.getElem?_eq_getElem hi] using q
  obtain ⟨i0, ei0⟩ := is_v gv3
  obtain rfl : w0 = (.int i0) := Option.some.inj ei0
  obtain ⟨i1, ei1⟩ := is_v gv4
  obtain rfl : w1 = (.int i1) := Option.some.inj ei1
  obtain ⟨n, o, h1, h2, h3, _, L, rfl, ⟨rfl, N⟩, hq⟩ := rm0 l s _ hw tables_1 i0 i1  s.heap s.heap.size (Nat.le_refl _)  p e ha hc hk s m _ below hf ((Spec.applies_iff_loose hf).mp happ).1 ⟨rfl, State.Warmed39.refl s, rfl⟩ trivial
  refine ⟨n, _, h1, h2, h3, hpost _ _ _ _ _ _ ⟨Cond.after_iff.mpr rfl, Cond.after_iff.mpr (eq_i res_at (Term.int_eval (1)) rfl), trivial⟩ ⟨hq.1, hq.2.1, (hq.2.2.sift fun y hy => Or.inr (N y hy)).mono (by decide) (by decide)⟩⟩
theorem main_1_1 : Claimed_1_1 := comes_1 fun _ _ _ _ _ _ h hF => ⟨h.1, hF⟩
theorem main_1_2 : Claimed_1_2 := comes_1 fun _ _ _ _ _ _ h hF => ⟨h.2.1, hF⟩
end Jvm.Pilot.@@N@@
namespace Jvm.Pilot.@@N@@
open Jvm Jvm.ClassFile Sem Op Lib Jvm.Free Jvm.Stand Jvm.Pilot.@@N@@.Jvm.D
/-! MADE BY PROGRAM (witnessworld.py) out of the Statement's table words and the real class files: 11 classes; the members and pool entries that the words name. The judged class is class 1, her method 1. -/
namespace start1
open Jvm.ClassFile
def u (s : String) : CpInfo := .utf8 (stringToUtf16 s)
/-- a pool by its gaps: so many unusable entries, then the entry; so many at the end -/
def gap : Nat → List CpInfo → List CpInfo
  | 0, r => r
  | n + 1, r => .unusable :: gap n r
def poolList (es : List (Nat × CpInfo)) (last : Nat) : List CpInfo := es.foldr (fun e r => gap e.1 (e.2 :: r)) (gap last [])
def pool (es : List (Nat × CpInfo)) (last : Nat) : Array CpInfo := ⟨poolList es last⟩
def fileOf (pool : Array CpInfo) (this : Nat) (attrs : Array Attribute := #[]) (ms : Array MethodInfo := #[]) (fl : Nat := 33) (sup : Nat := 0) (ifs : Array Nat := #[]) (fds : Array FieldInfo := #[]) : ClassFile where
  minorVersion := 0
  majorVersion := 65
  constantPool := pool
  accessFlags := fl
  thisClass := this
  superClass := sup
  interfaces := ifs
  fields := fds
  methods := ms
  attributes := attrs
def plain (name : String) (sup : Option ClassId) : Class where
  name := name
  kind := .ordinary
  loader := none
  accessFlags := 33
  super := sup
  interfaces := #[]
  cf := none
  fields := #[]
  methods := #[]
  instanceTypes := #[]
  staticTypes := #[]
  resolved := #[]
  callSites := []
  init := .initialized
  statics := none
  mirror := none

def pool0 : Array CpInfo := pool [(5, u "<init>"), (0, u "()V"), (1, .class_ 10), (1, u "java/lang/Object")] 113

def k0m0 : Method := { name := "<init>", desc := "()V", sig := { parameters := [], returnType := none }, accessFlags := 1, code := none }
/-- java/lang/Object -/
def k0 : Class := { plain "java/lang/Object" none with
  accessFlags := 33
  interfaces := #[]
  cf := some (fileOf pool0 8 #[] #[{ accessFlags := 1, nameIndex := 5, descriptorIndex := 6, attributes := #[] }] 33 0 #[] #[])
  fields := #[]
  methods := #[k0m0]
  instanceTypes := #[]
  staticTypes := #[]
  resolved := Array.replicate 124 none
  statics := none }

def pool1 : Array CpInfo := pool [(2, .class_ 4), (1, u "java/lang/Object"), (0, u "<init>"), (0, u "()V"), (0, .integer 2147483647), (0, .integer 1431655765), (0, .methodref 10 11), (0, .class_ 12), (0, .nameAndType 13 14), (0, u "com/example/idlefleet/idlefleet/SamplingVoting"), (0, u "defaultSampleRequests"), (0, u "(I)I"), (0, .long 3), (1, .long 2), (1, .long 300), (1, .class_ 22), (0, u "com/example/idlefleet/idlefleet/SamplingVotingDefaultSampleRequestsPinLaw"), (2, u "law"), (0, u "(II)Z")] 3

def k1m0 : Method := { name := "<init>", desc := "()V", sig := { parameters := [], returnType := none }, accessFlags := 1, code := none }
def k1c1 : Code := { maxStack := 4, maxLocals := 10, code := code, exceptionTable := #[], attributes := #[] }
def k1m1 : Method := { name := "law", desc := "(II)Z", sig := { parameters := [.int, .int], returnType := some .boolean }, accessFlags := 9, code := some k1c1 }
/-- com/example/idlefleet/idlefleet/SamplingVotingDefaultSampleRequestsPinLaw -/
def k1 : Class := { plain "com/example/idlefleet/idlefleet/SamplingVotingDefaultSampleRequestsPinLaw" (some 0) with
  accessFlags := 49
  interfaces := #[]
  cf := some (fileOf pool1 21 #[] #[{ accessFlags := 1, nameIndex := 5, descriptorIndex := 6, attributes := #[] }, { accessFlags := 9, nameIndex := 25, descriptorIndex := 26, attributes := #[] }] 49 2 #[] #[])
  fields := #[]
  methods := #[k1m0, k1m1]
  instanceTypes := #[]
  staticTypes := #[]
  resolved := Array.replicate 30 none
  statics := none }

def pool2 : Array CpInfo := pool [(1, .class_ 2), (0, u "com/example/idlefleet/idlefleet/Redistribution$1"), (5, .class_ 10), (1, u "com/example/idlefleet/idlefleet/Redistribution"), (0, u "NONE"), (0, u "Lcom/example/idlefleet/idlefleet/Redistribution;"), (0, .class_ 14), (0, u "java/lang/Object")] 11

/-- com/example/idlefleet/idlefleet/Redistribution -/
def k2 : Class := { plain "com/example/idlefleet/idlefleet/Redistribution" (some 0) with
  accessFlags := 1536
  interfaces := #[]
  cf := some (fileOf pool2 8 #[.nestMembers #[1]] #[] 1536 13 #[] #[{ accessFlags := 25, nameIndex := 11, descriptorIndex := 12, attributes := #[] }])
  fields := #[{ name := "NONE", type := (.object "com/example/idlefleet/idlefleet/Redistribution"), accessFlags := 25, slot := 0, constantValue := 0 }]
  methods := #[]
  instanceTypes := #[]
  staticTypes := #[(.object "com/example/idlefleet/idlefleet/Redistribution")]
  resolved := Array.replicate 26 none
  statics := none }

def pool3 : Array CpInfo := pool [(6, u "Lcom/example/idlefleet/idlefleet/VoteRule;"), (1, .class_ 10), (1, u "com/example/idlefleet/idlefleet/SamplingVoting"), (3, .class_ 16), (1, u "java/lang/Object"), (12, u "fleet"), (0, u "Lcom/example/idlefleet/idlefleet/Fleet;"), (4, u "tripTimes"), (3, u "Lcom/example/idlefleet/idlefleet/TripTimes;"), (2, u "voteRule"), (2, u "samples"), (0, u "I"), (2, u "sampleRequests"), (2, u "futures"), (0, u "Ljava/util/function/LongFunction;"), (8, u "decided"), (0, u "[I"), (2, u "deciding"), (0, u "[Z"), (2, u "idle"), (2, u "lowestIdle"), (24, u "[Lcom/example/idlefleet/idlefleet/SamplingVoting$Plan;"), (2, u "plans"), (0, .methodref 103 104), (0, .class_ 105), (0, .nameAndType 106 107), (0, u "java/lang/Math"), (0, u "max"), (0, u "(II)I"), (18, u "(I)I"), (12, u "decidedCount"), (2, u "drawn"), (27, .class_ 172), (1, u "com/example/idlefleet/idlefleet/SamplingVoting$Plan"), (17, .class_ 192), (1, u "com/example/idlefleet/idlefleet/SamplingVoting$1"), (43, .class_ 237), (0, u "com/example/idlefleet/idlefleet/Redistribution"), (0, u "MIN_DEFAULT_SAMPLE_REQUESTS"), (2, u "NOT_NOTED"), (1, u "STAYING_VOTES"), (0, u "J"), (0, u "STAYING_OUT_OF"), (8, u "defaultSampleRequests")] 52

def k3c0 : Code := { maxStack := 4, maxLocals := 1, code := prog_20_method_3_code, exceptionTable := #[], attributes := #[] }
def k3m0 : Method := { name := "defaultSampleRequests", desc := "(I)I", sig := { parameters := [.int], returnType := some .int }, accessFlags := 8, code := some k3c0 }
/-- com/example/idlefleet/idlefleet/SamplingVoting -/
def k3 : Class := { plain "com/example/idlefleet/idlefleet/SamplingVoting" (some 0) with
  accessFlags := 48
  interfaces := #[2]
  cf := some (fileOf pool3 8 #[.nestMembers #[190, 170]] #[{ accessFlags := 8, nameIndex := 254, descriptorIndex := 126, attributes := #[] }] 48 14 #[236] #[{ accessFlags := 24, nameIndex := 238, descriptorIndex := 46, attributes := #[] }, { accessFlags := 26, nameIndex := 241, descriptorIndex := 46, attributes := #[] }, { accessFlags := 26, nameIndex := 243, descriptorIndex := 244, attributes := #[] }, { accessFlags := 26, nameIndex := 245, descriptorIndex := 244, attributes := #[] }, { accessFlags := 18, nameIndex := 29, descriptorIndex := 30, attributes := #[] }, { accessFlags := 18, nameIndex := 35, descriptorIndex := 39, attributes := #[] }, { accessFlags := 18, nameIndex := 42, descriptorIndex := 6, attributes := #[] }, { accessFlags := 18, nameIndex := 45, descriptorIndex := 46, attributes := #[] }, { accessFlags := 18, nameIndex := 49, descriptorIndex := 46, attributes := #[] }, { accessFlags := 18, nameIndex := 52, descriptorIndex := 53, attributes := #[] }, { accessFlags := 18, nameIndex := 101, descriptorIndex := 98, attributes := #[] }, { accessFlags := 18, nameIndex := 62, descriptorIndex := 63, attributes := #[] }, { accessFlags := 2, nameIndex := 139, descriptorIndex := 46, attributes := #[] }, { accessFlags := 18, nameIndex := 66, descriptorIndex := 67, attributes := #[] }, { accessFlags := 18, nameIndex := 70, descriptorIndex := 63, attributes := #[] }, { accessFlags := 18, nameIndex := 73, descriptorIndex := 63, attributes := #[] }, { accessFlags := 2, nameIndex := 142, descriptorIndex := 46, attributes := #[] }])
  fields := #[{ name := "MIN_DEFAULT_SAMPLE_REQUESTS", type := .int, accessFlags := 24, slot := 0, constantValue := 0 }, { name := "NOT_NOTED", type := .int, accessFlags := 26, slot := 1, constantValue := 0 }, { name := "STAYING_VOTES", type := .long, accessFlags := 26, slot := 2, constantValue := 0 }, { name := "STAYING_OUT_OF", type := .long, accessFlags := 26, slot := 3, constantValue := 0 }, { name := "fleet", type := (.object "com/example/idlefleet/idlefleet/Fleet"), accessFlags := 18, slot := 0, constantValue := 0 }, { name := "tripTimes", type := (.object "com/example/idlefleet/idlefleet/TripTimes"), accessFlags := 18, slot := 1, constantValue := 0 }, { name := "voteRule", type := (.object "com/example/idlefleet/idlefleet/VoteRule"), accessFlags := 18, slot := 2, constantValue := 0 }, { name := "samples", type := .int, accessFlags := 18, slot := 3, constantValue := 0 }, { name := "sampleRequests", type := .int, accessFlags := 18, slot := 4, constantValue := 0 }, { name := "futures", type := (.object "java/util/function/LongFunction"), accessFlags := 18, slot := 5, constantValue := 0 }, { name := "plans", type := (.array (.object "com/example/idlefleet/idlefleet/SamplingVoting$Plan")), accessFlags := 18, slot := 6, constantValue := 0 }, { name := "decided", type := (.array .int), accessFlags := 18, slot := 7, constantValue := 0 }, { name := "decidedCount", type := .int, accessFlags := 2, slot := 8, constantValue := 0 }, { name := "deciding", type := (.array .boolean), accessFlags := 18, slot := 9, constantValue := 0 }, { name := "idle", type := (.array .int), accessFlags := 18, slot := 10, constantValue := 0 }, { name := "lowestIdle", type := (.array .int), accessFlags := 18, slot := 11, constantValue := 0 }, { name := "drawn", type := .int, accessFlags := 2, slot := 12, constantValue := 0 }]
  methods := #[k3m0]
  instanceTypes := #[(.object "com/example/idlefleet/idlefleet/Fleet"), (.object "com/example/idlefleet/idlefleet/TripTimes"), (.object "com/example/idlefleet/idlefleet/VoteRule"), .int, .int, (.object "java/util/function/LongFunction"), (.array (.object "com/example/idlefleet/idlefleet/SamplingVoting$Plan")), (.array .int), .int, (.array .boolean), (.array .int), (.array .int), .int]
  staticTypes := #[.int, .int, .long, .long]
  resolved := Array.replicate 307 none
  statics := none }

def pool4 : Array CpInfo := pool [(1, .class_ 2), (0, u "java/lang/Math"), (1, .class_ 6), (1, u "java/lang/Object"), (0, u "<init>"), (0, u "()V"), (89, .class_ 100), (1, u "java/lang/Math$RandomNumberGeneratorHolder"), (71, u "negativeZeroFloatBits"), (0, u "J"), (2, u "negativeZeroDoubleBits"), (21, u "max"), (46, u "$assertionsDisabled"), (0, u "Z"), (88, u "(II)I"), (2, u "twoToTheDoubleScaleDown"), (0, u "D"), (4, u "twoToTheDoubleScaleUp"), (9, u "E"), (3, u "PI"), (2, u "TAU"), (2, u "DEGREES_TO_RADIANS"), (0, u "RADIANS_TO_DEGREES")] 94

def k4m0 : Method := { name := "<init>", desc := "()V", sig := { parameters := [], returnType := none }, accessFlags := 2, code := none }
def k4c1 : Code := { maxStack := 2, maxLocals := 2, code := jdk_29_method_65_code, exceptionTable := #[], attributes := #[] }
def k4m1 : Method := { name := "max", desc := "(II)I", sig := { parameters := [.int, .int], returnType := some .int }, accessFlags := 9, code := some k4c1 }
/-- java/lang/Math -/
def k4 : Class := { plain "java/lang/Math" (some 0) with
  accessFlags := 49
  interfaces := #[]
  cf := some (fileOf pool4 1 #[.nestMembers #[98]] #[{ accessFlags := 2, nameIndex := 7, descriptorIndex := 8, attributes := #[] }, { accessFlags := 9, nameIndex := 198, descriptorIndex := 335, attributes := #[] }] 49 4 #[] #[{ accessFlags := 25, nameIndex := 354, descriptorIndex := 339, attributes := #[] }, { accessFlags := 25, nameIndex := 358, descriptorIndex := 339, attributes := #[] }, { accessFlags := 25, nameIndex := 361, descriptorIndex := 339, attributes := #[] }, { accessFlags := 26, nameIndex := 364, descriptorIndex := 339, attributes := #[] }, { accessFlags := 26, nameIndex := 365, descriptorIndex := 339, attributes := #[] }, { accessFlags := 26, nameIndex := 172, descriptorIndex := 173, attributes := #[] }, { accessFlags := 26, nameIndex := 176, descriptorIndex := 173, attributes := #[] }, { accessFlags := 8, nameIndex := 344, descriptorIndex := 339, attributes := #[] }, { accessFlags := 8, nameIndex := 338, descriptorIndex := 339, attributes := #[] }, { accessFlags := 4120, nameIndex := 245, descriptorIndex := 246, attributes := #[] }])
  fields := #[{ name := "E", type := .double, accessFlags := 25, slot := 0, constantValue := 0 }, { name := "PI", type := .double, accessFlags := 25, slot := 1, constantValue := 0 }, { name := "TAU", type := .double, accessFlags := 25, slot := 2, constantValue := 0 }, { name := "DEGREES_TO_RADIANS", type := .double, accessFlags := 26, slot := 3, constantValue := 0 }, { name := "RADIANS_TO_DEGREES", type := .double, accessFlags := 26, slot := 4, constantValue := 0 }, { name := "negativeZeroFloatBits", type := .long, accessFlags := 26, slot := 5, constantValue := 0 }, { name := "negativeZeroDoubleBits", type := .long, accessFlags := 26, slot := 6, constantValue := 0 }, { name := "twoToTheDoubleScaleUp", type := .double, accessFlags := 8, slot := 7, constantValue := 0 }, { name := "twoToTheDoubleScaleDown", type := .double, accessFlags := 8, slot := 8, constantValue := 0 }, { name := "$assertionsDisabled", type := .boolean, accessFlags := 4120, slot := 9, constantValue := 0 }]
  methods := #[k4m0, k4m1]
  instanceTypes := #[]
  staticTypes := #[.double, .double, .double, .double, .double, .long, .long, .double, .double, .boolean]
  resolved := Array.replicate 460 none
  statics := none }

def pool5 : Array CpInfo := pool [(1, u "java/lang/Cloneable"), (0, .class_ 1), (0, u "java/lang/Object"), (0, .class_ 3)] 3

/-- java/lang/Cloneable -/
def k5 : Class := { plain "java/lang/Cloneable" (some 0) with
  accessFlags := 1537
  interfaces := #[]
  cf := some (fileOf pool5 2 #[] #[] 1537 4 #[] #[])
  fields := #[]
  methods := #[]
  instanceTypes := #[]
  staticTypes := #[]
  resolved := Array.replicate 8 none
  statics := none }

def pool6 : Array CpInfo := pool [(1, u "java/io/Serializable"), (0, .class_ 1), (0, u "java/lang/Object"), (0, .class_ 3)] 3

/-- java/io/Serializable -/
def k6 : Class := { plain "java/io/Serializable" (some 0) with
  accessFlags := 1537
  interfaces := #[]
  cf := some (fileOf pool6 2 #[] #[] 1537 4 #[] #[])
  fields := #[]
  methods := #[]
  instanceTypes := #[]
  staticTypes := #[]
  resolved := Array.replicate 8 none
  statics := none }

/-- the primitive byte -/
def k7 : Class := { plain "byte" none with kind := .primitive 'B', accessFlags := 0x411 }
/-- [B -/
def k8 : Class := { plain "[B" (some 0) with kind := .array 7 .byte, interfaces := #[5, 6], accessFlags := 1041 }

/-- the primitive int -/
def k9 : Class := { plain "int" none with kind := .primitive 'I', accessFlags := 0x411 }
/-- [I -/
def k10 : Class := { plain "[I" (some 0) with kind := .array 9 .int, interfaces := #[5, 6], accessFlags := 1041 }

def heap : Heap := #[]
def classes : Array Class := #[k0, k1, k2, k3, k4, k5, k6, k7, k8, k9, k10]
def interned : List (Array UInt16 × Addr) := []
def slotsUsed : Nat := 0
def theMethod : MethodId := ⟨1, 1⟩
def args0 : Array Value := #[.int 5, .int 1]
def aboutOver (below : List Frame) : State where
  vm := { classes := classes, interned := interned.toArray }
  heap := heap
  slotsUsed := slotsUsed
  threads := #[{ frames := .invoking theMethod args0 :: below }]
def below0 : List Frame := [.native { method := ⟨0, 0⟩, args := #[] }]
def about1 : State := aboutOver below0
def p0 : Program := .bare "" "" ""
def e0 : Env := launch0.env 0 0 0
theorem w_frames : about1.frames = Frame.invoking theMethod args0 :: below0 := rfl
set_option maxRecDepth 65536 in
theorem w_args : argsFit about1.vm theMethod args0 = true := by decide +kernel
set_option maxRecDepth 65536 in
theorem w_heap : heapFits about1 = true := by decide +kernel
set_option maxRecDepth 65536 in
theorem w_runnable : about1.curStatus? = some .runnable := by decide +kernel
set_option maxRecDepth 65536 in
theorem w_alone : about1.alone = true := by decide +kernel
set_option maxRecDepth 65536 in
theorem w_named : about1.methodNamed? x = some theMethod := by decide +kernel
set_option maxRecDepth 65536 in
theorem w_hears : about1.hears theMethod below0 = true := by decide +kernel
set_option maxRecDepth 65536 in
theorem w_ripe : about1.ripe theMethod args0 below0 = true := by decide +kernel
theorem w_running : about1.status = .running := rfl
set_option maxRecDepth 65536 in
theorem w_room : about1.hasRoom e0.platform room_1 = true :=
  launch0.hasRoom_least _ room_1 (by decide +kernel) (by decide +kernel) (by decide +kernel) (by decide +kernel) (by decide +kernel) (by decide +kernel)
theorem allAtoms_all (ts : List Jvm.Cond) (a : Array Jvm.Value) (st : Jvm.State) : (allAtoms ts).before a st = ts.all (fun c => c.before a st) := by
  induction ts with
  | nil => rfl
  | cons c t ih =>
    show (Jvm.Cond.and c (allAtoms t)).before a st = _
    rw [Jvm.Cond.before_and, ih, List.all_cons]
def words1 : List Jvm.Cond := Jvm.Cond.code x code maxLocals ret :: tables_1
/-- a 'code' word, met by the world's own term for the bytes: nothing is compared byte by byte -/
theorem code_word {y : MethodName} {bytes : ByteArray} {mx : Nat} {rt : Option FieldType} {a : Array Value} {s : State} {m : MethodId} {meth : Method} {c : Code} (h1 : s.methodNamed? y = some m) (h2 : s.vm.method? m = some meth) (h3 : meth.code = some c) (h4 : c.code = bytes)
    (h5 : (c.maxLocals == mx && c.exceptionTable.isEmpty && decide (c.maxStack ≤ mostOperands) && decide (meth.sig.returnType = rt) && !meth.locks && decide (parseMethodDescriptor y.desc = some meth.sig)) = true) : (Jvm.Cond.code y bytes mx rt).before a s = true := by
  simp only [Bool.and_eq_true, beq_iff_eq, Bool.not_eq_true', decide_eq_true_eq] at h5
  obtain ⟨⟨⟨⟨⟨g1, g2⟩, g3⟩, g4⟩, g5⟩, g6⟩ := h5
  simp [Cond.before, Cond.holds, Cond.value, h1, h2, h3, h4, g1, g2, g3, g4, g5, g6]
def isCode : Jvm.Cond → Bool
  | .code _ _ _ _ => true
  | _ => false
theorem all_split {L : List Jvm.Cond} {P : Jvm.Cond → Bool} (h1 : L.all (fun c => isCode c || P c) = true) (h2 : ∀ c ∈ L.filter isCode, P c = true) : L.all P = true := by
  refine List.all_eq_true.mpr fun c hc => ?_
  have h := List.all_eq_true.mp h1 c hc
  rcases Bool.eq_false_or_eq_true (isCode c) with hi | hi
  · exact h2 c (List.mem_filter.mpr ⟨hc, hi⟩)
  · simpa [hi] using h
set_option maxRecDepth 65536 in
theorem w_c0 : (Jvm.Cond.code x code maxLocals ret).before args0 about1 = true := code_word (m := ⟨1, 1⟩) (meth := k1m1) (c := k1c1) (by decide +kernel) rfl rfl rfl (by decide +kernel)
set_option maxRecDepth 65536 in
theorem w_c1 : (Jvm.Cond.code ({ cls := "com/example/idlefleet/idlefleet/SamplingVoting", name := "defaultSampleRequests", desc := "(I)I" } : Jvm.MethodName) prog_20_method_3_code (1 : Nat) (Option.some Jvm.ClassFile.FieldType.int)).before args0 about1 = true := code_word (m := ⟨3, 0⟩) (meth := k3m0) (c := k3c0) (by decide +kernel) rfl rfl rfl (by decide +kernel)
set_option maxRecDepth 65536 in
theorem w_c2 : (Jvm.Cond.code ({ cls := "java/lang/Math", name := "max", desc := "(II)I" } : Jvm.MethodName) jdk_29_method_65_code (2 : Nat) (Option.some Jvm.ClassFile.FieldType.int)).before args0 about1 = true := code_word (m := ⟨4, 1⟩) (meth := k4m1) (c := k4c1) (by decide +kernel) rfl rfl rfl (by decide +kernel)
def codes1 : List Jvm.Cond := [Jvm.Cond.code x code maxLocals ret, Jvm.Cond.code ({ cls := "com/example/idlefleet/idlefleet/SamplingVoting", name := "defaultSampleRequests", desc := "(I)I" } : Jvm.MethodName) prog_20_method_3_code (1 : Nat) (Option.some Jvm.ClassFile.FieldType.int), Jvm.Cond.code ({ cls := "java/lang/Math", name := "max", desc := "(II)I" } : Jvm.MethodName) jdk_29_method_65_code (2 : Nat) (Option.some Jvm.ClassFile.FieldType.int)]
set_option maxRecDepth 65536 in
theorem codes_eq : words1.filter isCode = codes1 := rfl
theorem w_codes : ∀ c ∈ words1.filter isCode, c.before args0 about1 = true := by
  rw [codes_eq]
  intro c hc
  simp only [codes1, List.mem_cons, List.not_mem_nil, or_false] at hc
  rcases hc with rfl | rfl | rfl
  · exact w_c0
  · exact w_c1
  · exact w_c2
set_option maxRecDepth 65536 in
theorem w_t1 : words1.all (fun c => isCode c || c.before args0 about1) = true := by decide +kernel
theorem w_tables : (allAtoms (Jvm.Cond.code x code maxLocals ret :: tables_1)).before args0 about1 = true := by
  rw [allAtoms_all]
  show words1.all (fun c => c.before args0 about1) = true
  refine all_split ?_ w_codes
  rw [w_t1]
set_option maxRecDepth 65536 in
theorem w_case : (Jvm.Cond.and given_1 narrow_1).before args0 about1 = true := by decide +kernel
theorem w_applies : (headSpec (Jvm.Cond.code x code maxLocals ret :: tables_1) room_1).applies x e0.platform about1 = true :=
  (Spec.applies_iff w_frames).mpr ⟨w_running, w_runnable, w_alone, w_named, w_hears, w_ripe, w_room, w_tables⟩
theorem atStart : AtStart classFile x code maxLocals ret World_1 tables_1 room_1 Calls_1 rest_1 Pre_1 launch0 p0 e0 about1 theMethod args0 below0 :=
  ⟨lists_1, trivial, launch0.admits_env _ _ _, launch0.least_env, fairChoices_fair.cas, fairChoices_fair.clock, w_frames, w_args, w_heap, w_applies, trivial, trivial, w_case⟩
end start1
theorem witness_1 : WitnessClaimed_1 := ⟨start1.p0, start1.e0, start1.about1, start1.theMethod, start1.args0, start1.below0, start1.atStart⟩
end Jvm.Pilot.@@N@@
