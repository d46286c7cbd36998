import JvmDerived
import JvmDerived.Pilot.@@N@@Statement
import JvmDerived.Pilot.@@N@@Code
set_option linter.unusedVariables false
set_option linter.unusedSimpArgs false
namespace Jvm.Pilot.@@N@@
open Jvm Jvm.ClassFile Sem Op Lib Jvm.Free Jvm.Stand Jvm.LawKit Jvm.RoadKit Bundle Jvm.Pilot.@@N@@.Jvm.D
theorem own_wrap {A : Prop} (h : ∀ GL : Prop, (A → GL) → GL) : A := h A id
def own_min (x y : Int64) : Int64 := if y < x then y else x
def own_max (x y : Int64) : Int64 := if x < y then y else x
def own_all (le gr : Int64) (z : Int32) : Int32 := if le = (-9223372036854775808 : Int64) then (if gr = (9223372036854775807 : Int64) then (if z = (1 : Int32) then 1 else 0) else 0) else 0
def own_con (le gr r : Int64) : Int32 := if r < le then 0 else if gr < r then 0 else 1
theorem own_conall (r : Int64) {a d : Int64} (ha : a = (-9223372036854775808 : Int64)) (hd : d = (9223372036854775807 : Int64)) : ¬ own_con a d r = (0 : Int32) := by
  subst ha hd
  have := rng64 r
  have k1 : (-9223372036854775808 : Int64).toInt = -9223372036854775808 := by decide
  have k2 : (9223372036854775807 : Int64).toInt = 9223372036854775807 := by decide
  unfold own_con
  rw [if_neg, if_neg]
  · decide
  · rw [Int64.lt_iff_toInt_lt]; omega
  · rw [Int64.lt_iff_toInt_lt]; omega
theorem pn_0 : plainName "java/lang/Record" = true := by first | (simp [plainName, overriddenIn]; done) | decide +kernel
theorem d4_0 : decode jdk_30_method_1_code 0 = .ok (.aload_n 0, 1) := by decide +kernel
theorem d4_1 : decode jdk_30_method_1_code 1 = .ok (.invokespecial 1, 3) := by decide +kernel
theorem d4_4 : decode jdk_30_method_1_code 4 = .ok (.return_, 1) := by decide +kernel
theorem ef_4 (m : MethodId) (x0 : Addr) : entryFrame m #[(.ref x0)] 1 = mkF m 0 #[.val (.ref x0)] [] := by first | (simp [entryFrame, mkF, argsToLocals, Value.category]; done) | rfl
def Q4 (Z : State) (o : Addr) (h0 : Heap) (n0 : Nat) (vα : Option Value) (hα : Heap) (Lα : List Loc) : Prop := vα = none ∧ Fr n0 Lα ∧ hα = h0
set_option maxRecDepth 65536 in
set_option maxHeartbeats 40000000 in
theorem rm4 (l : Launch) (Z : State) (a0 : Array Value) (hw : ∀ d ∈ tables_1, d.before a0 Z = true) (ws : List Jvm.Cond) (o : Addr) (h0 : Heap) (n0 : Nat) (Z0 : n0 ≤ h0.size) :
    MetFree l (⟨"java/lang/Record", "<init>", "()V"⟩ : MethodName) (head1 (Jvm.Cond.code (⟨"java/lang/Record", "<init>", "()V"⟩ : MethodName) jdk_30_method_1_code 1 none :: ws) ({ frames := 1, cells := 0, slots := 0, locals := 12 } : Room)) (fun aα U => aα = #[(.ref o)] ∧ Z.Warmed39 U.vm ∧ U.heap = h0) (fun _ _ _ _ _ => True) (fun _ U oα U' => ∃ vα Lα, oα = .returned vα ∧ Q4 Z o h0 n0 vα U'.heap Lα ∧ FrameEnd U oα U' Lα ({ frames := 1, cells := 0, slots := 0, locals := 12 } : Room).cells ({ frames := 1, cells := 0, slots := 0, locals := 12 } : Room).slots) := by
  refine MetFree.of_bodySF (plainFor_of_name pn_0) hisR ?_
  intro p e s m args below meth c s₁ Bd hml0 hP hK
  refine own_wrap ?_
  intro GL hGL
  obtain ⟨rfl, hZ, hh⟩ := hP
  have hx := Bd.exec
  have hby := Bd.bytes
  have hml : c.maxLocals = 1 := hml0
  have hown : s.vm.findClass "java/lang/Record" = some m.cls := findClass_of_methodNamed Bd.named
  have hnm := (name_of_methodNamed Bd.named Bd.method).1
  have X0 : Stand p l e ({ frames := 1, cells := 0, slots := 0, locals := 12 } : Room) s m #[(.ref o)] below meth c s₁ [] 0 0 := Stand.of_body Bd
  have e0 : s₁.heap = h0 := by rw [← hh, Bd.state]; rfl
  have N0 := Fr.nil n0
  have pre0 : ∀ τ, Steps p.tables e below (s₁.setTop (mkF m 0 #[.val (.ref o)] [])) τ → Steps p.tables e below (s₁.setTop (entryFrame m #[(.ref o)] 1)) τ := fun τ κ => castTop (ef_4 m o) κ
  obtain ⟨G, hG, pre⟩ : ∃ G : State → Prop, (∀ τ, G τ → Steps p.tables e below (s₁.setTop (entryFrame m #[(.ref o)] 1)) τ) ∧ ∀ τ, Steps p.tables e below (s₁.setTop (mkF m 0 #[.val (.ref o)] [])) τ → G τ := ⟨_, pre0, fun _ k => k⟩
  have K : Keep h0 h0 [] := Keep.refl h0 _
  have Zn := Z0
  have pre : ∀ τ, Steps p.tables e below (s₁.setTop (mkF m 1 #[.val (.ref o)] [(.ref o)])) τ → G τ := fun τ κ => pre τ (by
    refine XS.aloadN X0.here hx rfl (hb hby d4_0) rfl rfl ?_
    show Steps p.tables e below (s₁.setTop (mkF m 1 #[.val (.ref o)] [(.ref o)])) τ
    exact κ)
  obtain ⟨T1, X1, e1, st1⟩ := initO X0 hx hZ hown (hw _ (List.mem_of_getElem? (i := 19) rfl)) (hw _ (List.mem_of_getElem? (i := 20) rfl)) (hw _ (List.mem_of_getElem? (i := 21) rfl)) e0 (g := (mkF m 1 #[.val (.ref o)] [(.ref o)])) rfl (by rw [hml]; rfl) rfl (hb hby d4_1) (by decide) (W := 0) (by show 2 * 0 + _ ≤ _; exact Nat.le_of_eq rfl) (by decide)
  have pre : ∀ τ, Steps p.tables e below (T1.setTop (mkF m 4 #[.val (.ref o)] [])) τ → G τ := fun τ κ => pre τ (st1 τ κ)
  obtain ⟨fs, hr, hrun, hended, hW, hsame⟩ := X1.leave (v := none) (fun _ => rfl)
  refine hGL ⟨_, _, hG _ (pre _ ?_), hrun, hended, _, _, rfl, ?_, ⟨_, rfl⟩, hW, hsame.mono (by decide) (by decide)⟩
  · exact X1.returnOut hx Bd.returns (hb hby d4_4) hr
  · show Q4 Z o h0 n0 _ T1.heap _
    rw [e1]
    exact ⟨rfl, N0, rfl⟩
theorem d1_0 : decode jdk_29_method_70_code 0 = .ok (.lload_n 0, 1) := by decide +kernel
theorem d1_1 : decode jdk_29_method_70_code 1 = .ok (.lload_n 2, 1) := by decide +kernel
theorem d1_2 : decode jdk_29_method_70_code 2 = .ok (.lcmp, 1) := by decide +kernel
theorem d1_3 : decode jdk_29_method_70_code 3 = .ok (.ifCond .gt 7, 3) := by decide +kernel
theorem d1_10 : decode jdk_29_method_70_code 10 = .ok (.lload_n 2, 1) := by decide +kernel
theorem d1_11 : decode jdk_29_method_70_code 11 = .ok (.lreturn, 1) := by decide +kernel
theorem d1_6 : decode jdk_29_method_70_code 6 = .ok (.lload_n 0, 1) := by decide +kernel
theorem d1_7 : decode jdk_29_method_70_code 7 = .ok (.goto 4, 3) := by decide +kernel
theorem ef_1 (m : MethodId) (x0 : Int64) (x1 : Int64) : entryFrame m #[(.long x0), (.long x1)] 4 = mkF m 0 #[.val (.long x0), .second, .val (.long x1), .second] [] := by first | (simp [entryFrame, mkF, argsToLocals, Value.category]; done) | rfl
def Q1 (Z : State) (x : Int64) (y : Int64) (h0 : Heap) (n0 : Nat) (vα : Option Value) (hα : Heap) (Lα : List Loc) : Prop := vα = some (.long (own_min x y)) ∧ Fr n0 Lα ∧ hα = h0
set_option maxRecDepth 65536 in
set_option maxHeartbeats 40000000 in
theorem rm1 (l : Launch) (Z : State) (a0 : Array Value) (hw : ∀ d ∈ tables_1, d.before a0 Z = true) (ws : List Jvm.Cond) (x : Int64) (y : Int64) (h0 : Heap) (n0 : Nat) (Z0 : n0 ≤ h0.size) :
    MetFree l (⟨"java/lang/Math", "min", "(JJ)J"⟩ : MethodName) (head1 (Jvm.Cond.code (⟨"java/lang/Math", "min", "(JJ)J"⟩ : MethodName) jdk_29_method_70_code 4 (some .long) :: ws) ({ frames := 0, cells := 0, slots := 0, locals := 0 } : Room)) (fun aα U => aα = #[(.long x), (.long y)] ∧ Z.Warmed39 U.vm ∧ U.heap = h0) (fun _ _ _ _ _ => True) (fun _ U oα U' => ∃ vα Lα, oα = .returned vα ∧ Q1 Z x y h0 n0 vα U'.heap Lα ∧ FrameEnd U oα U' Lα ({ frames := 0, cells := 0, slots := 0, locals := 0 } : Room).cells ({ frames := 0, cells := 0, slots := 0, locals := 0 } : Room).slots) := by
  refine MetFree.of_bodySF (Jvm.Free.JP.mathPlain rfl (by decide +kernel)) hisR ?_
  intro p e s m args below meth c s₁ Bd hml0 hP hK
  refine own_wrap ?_
  intro GL hGL
  obtain ⟨rfl, hZ, hh⟩ := hP
  have hx := Bd.exec
  have hby := Bd.bytes
  have hml : c.maxLocals = 4 := hml0
  have hown : s.vm.findClass "java/lang/Math" = some m.cls := findClass_of_methodNamed Bd.named
  have hnm := (name_of_methodNamed Bd.named Bd.method).1
  have X0 : Stand p l e ({ frames := 0, cells := 0, slots := 0, locals := 0 } : Room) s m #[(.long x), (.long y)] below meth c s₁ [] 0 0 := Stand.of_body Bd
  have e0 : s₁.heap = h0 := by rw [← hh, Bd.state]; rfl
  have N0 := Fr.nil n0
  have pre0 : ∀ τ, Steps p.tables e below (s₁.setTop (mkF m 0 #[.val (.long x), .second, .val (.long y), .second] [])) τ → Steps p.tables e below (s₁.setTop (entryFrame m #[(.long x), (.long y)] 4)) τ := fun τ κ => castTop (ef_1 m x y) κ
  obtain ⟨G, hG, pre⟩ : ∃ G : State → Prop, (∀ τ, G τ → Steps p.tables e below (s₁.setTop (entryFrame m #[(.long x), (.long y)] 4)) τ) ∧ ∀ τ, Steps p.tables e below (s₁.setTop (mkF m 0 #[.val (.long x), .second, .val (.long y), .second] [])) τ → G τ := ⟨_, pre0, fun _ k => k⟩
  have K : Keep h0 h0 [] := Keep.refl h0 _
  have Zn := Z0
  have pre : ∀ τ, Steps p.tables e below (s₁.setTop (mkF m 3 #[.val (.long x), .second, .val (.long y), .second] [(.int (lcmpW x y))])) τ → G τ := fun τ κ => pre τ (by
    refine XS.lloadN X0.here hx rfl (hb hby d1_0) rfl ?_
    show Steps p.tables e below (s₁.setTop (mkF m 1 #[.val (.long x), .second, .val (.long y), .second] [(.long x)])) τ
    refine XS.lloadN X0.here hx rfl (hb hby d1_1) rfl ?_
    show Steps p.tables e below (s₁.setTop (mkF m 2 #[.val (.long x), .second, .val (.long y), .second] [(.long y), (.long x)])) τ
    refine XS.lcmp X0.here hx rfl (hb hby d1_2) rfl ?_
    show Steps p.tables e below (s₁.setTop (mkF m 3 #[.val (.long x), .second, .val (.long y), .second] [(.int (lcmpW x y))])) τ
    exact κ)
  rcases Classical.em (y < x) with hc3_1 | hc3_1
  ·
    have pre : ∀ τ, Steps p.tables e below (s₁.setTop (mkF m 11 #[.val (.long x), .second, .val (.long y), .second] [(.long y)])) τ → G τ := fun τ κ => pre τ (by
      refine XS.ifYes X0.here hx rfl (pc0 := 3) (pc' := 10) rfl (hb hby d1_3) rfl ((if0 _ _).trans (tlt ((lw_gt _ _).mpr hc3_1)).2.2.1) (by decide) (by decide) ?_
      show Steps p.tables e below (s₁.setTop (mkF m 10 #[.val (.long x), .second, .val (.long y), .second] [])) τ
      refine XS.lloadN X0.here hx rfl (hb hby d1_10) rfl ?_
      show Steps p.tables e below (s₁.setTop (mkF m 11 #[.val (.long x), .second, .val (.long y), .second] [(.long y)])) τ
      exact κ)
    obtain ⟨fs, hr, hrun, hended, hW, hsame⟩ := X0.leave (v := some (.long y)) (fun h => by rw [Bd.returns] at h; cases h)
    refine hGL ⟨_, _, hG _ (pre _ ?_), hrun, hended, _, _, rfl, ?_, ⟨_, rfl⟩, hW, hsame.mono (by decide) (by decide)⟩
    · exact retOut X0 hx Bd.returns rfl (Or.inr (Or.inl ⟨rfl, rfl, _, rfl⟩)) (hb hby d1_11) hr
    · show Q1 Z x y h0 n0 _ s₁.heap _
      rw [e0]
      refine ⟨?_, N0, rfl⟩
      simp [own_min, hc3_1]
  ·
    have pre : ∀ τ, Steps p.tables e below (s₁.setTop (mkF m 11 #[.val (.long x), .second, .val (.long y), .second] [(.long x)])) τ → G τ := fun τ κ => pre τ (by
      refine XS.ifNo X0.here hx rfl (hb hby d1_3) rfl ((if0 _ _).trans (flt (fun q => hc3_1 ((lw_gt _ _).mp q))).2.2.1) ?_
      show Steps p.tables e below (s₁.setTop (mkF m 6 #[.val (.long x), .second, .val (.long y), .second] [])) τ
      refine XS.lloadN X0.here hx rfl (hb hby d1_6) rfl ?_
      show Steps p.tables e below (s₁.setTop (mkF m 7 #[.val (.long x), .second, .val (.long y), .second] [(.long x)])) τ
      refine XS.goto X0.here hx rfl (pc0 := 7) (pc' := 11) rfl (hb hby d1_7) (by decide) (by decide) ?_
      show Steps p.tables e below (s₁.setTop (mkF m 11 #[.val (.long x), .second, .val (.long y), .second] [(.long x)])) τ
      exact κ)
    obtain ⟨fs, hr, hrun, hended, hW, hsame⟩ := X0.leave (v := some (.long x)) (fun h => by rw [Bd.returns] at h; cases h)
    refine hGL ⟨_, _, hG _ (pre _ ?_), hrun, hended, _, _, rfl, ?_, ⟨_, rfl⟩, hW, hsame.mono (by decide) (by decide)⟩
    · exact retOut X0 hx Bd.returns rfl (Or.inr (Or.inl ⟨rfl, rfl, _, rfl⟩)) (hb hby d1_11) hr
    · show Q1 Z x y h0 n0 _ s₁.heap _
      rw [e0]
      refine ⟨?_, N0, rfl⟩
      simp [own_min, hc3_1]
theorem d2_0 : decode jdk_29_method_66_code 0 = .ok (.lload_n 0, 1) := by decide +kernel
theorem d2_1 : decode jdk_29_method_66_code 1 = .ok (.lload_n 2, 1) := by decide +kernel
theorem d2_2 : decode jdk_29_method_66_code 2 = .ok (.lcmp, 1) := by decide +kernel
theorem d2_3 : decode jdk_29_method_66_code 3 = .ok (.ifCond .lt 7, 3) := by decide +kernel
theorem d2_10 : decode jdk_29_method_66_code 10 = .ok (.lload_n 2, 1) := by decide +kernel
theorem d2_11 : decode jdk_29_method_66_code 11 = .ok (.lreturn, 1) := by decide +kernel
theorem d2_6 : decode jdk_29_method_66_code 6 = .ok (.lload_n 0, 1) := by decide +kernel
theorem d2_7 : decode jdk_29_method_66_code 7 = .ok (.goto 4, 3) := by decide +kernel
theorem ef_2 (m : MethodId) (x0 : Int64) (x1 : Int64) : entryFrame m #[(.long x0), (.long x1)] 4 = mkF m 0 #[.val (.long x0), .second, .val (.long x1), .second] [] := by first | (simp [entryFrame, mkF, argsToLocals, Value.category]; done) | rfl
def Q2 (Z : State) (x : Int64) (y : Int64) (h0 : Heap) (n0 : Nat) (vα : Option Value) (hα : Heap) (Lα : List Loc) : Prop := vα = some (.long (own_max x y)) ∧ Fr n0 Lα ∧ hα = h0
set_option maxRecDepth 65536 in
set_option maxHeartbeats 40000000 in
theorem rm2 (l : Launch) (Z : State) (a0 : Array Value) (hw : ∀ d ∈ tables_1, d.before a0 Z = true) (ws : List Jvm.Cond) (x : Int64) (y : Int64) (h0 : Heap) (n0 : Nat) (Z0 : n0 ≤ h0.size) :
    MetFree l (⟨"java/lang/Math", "max", "(JJ)J"⟩ : MethodName) (head1 (Jvm.Cond.code (⟨"java/lang/Math", "max", "(JJ)J"⟩ : MethodName) jdk_29_method_66_code 4 (some .long) :: ws) ({ frames := 0, cells := 0, slots := 0, locals := 0 } : Room)) (fun aα U => aα = #[(.long x), (.long y)] ∧ Z.Warmed39 U.vm ∧ U.heap = h0) (fun _ _ _ _ _ => True) (fun _ U oα U' => ∃ vα Lα, oα = .returned vα ∧ Q2 Z x y h0 n0 vα U'.heap Lα ∧ FrameEnd U oα U' Lα ({ frames := 0, cells := 0, slots := 0, locals := 0 } : Room).cells ({ frames := 0, cells := 0, slots := 0, locals := 0 } : Room).slots) := by
  refine MetFree.of_bodySF (Jvm.Free.JP.mathPlain rfl (by decide +kernel)) hisR ?_
  intro p e s m args below meth c s₁ Bd hml0 hP hK
  refine own_wrap ?_
  intro GL hGL
  obtain ⟨rfl, hZ, hh⟩ := hP
  have hx := Bd.exec
  have hby := Bd.bytes
  have hml : c.maxLocals = 4 := hml0
  have hown : s.vm.findClass "java/lang/Math" = some m.cls := findClass_of_methodNamed Bd.named
  have hnm := (name_of_methodNamed Bd.named Bd.method).1
  have X0 : Stand p l e ({ frames := 0, cells := 0, slots := 0, locals := 0 } : Room) s m #[(.long x), (.long y)] below meth c s₁ [] 0 0 := Stand.of_body Bd
  have e0 : s₁.heap = h0 := by rw [← hh, Bd.state]; rfl
  have N0 := Fr.nil n0
  have pre0 : ∀ τ, Steps p.tables e below (s₁.setTop (mkF m 0 #[.val (.long x), .second, .val (.long y), .second] [])) τ → Steps p.tables e below (s₁.setTop (entryFrame m #[(.long x), (.long y)] 4)) τ := fun τ κ => castTop (ef_2 m x y) κ
  obtain ⟨G, hG, pre⟩ : ∃ G : State → Prop, (∀ τ, G τ → Steps p.tables e below (s₁.setTop (entryFrame m #[(.long x), (.long y)] 4)) τ) ∧ ∀ τ, Steps p.tables e below (s₁.setTop (mkF m 0 #[.val (.long x), .second, .val (.long y), .second] [])) τ → G τ := ⟨_, pre0, fun _ k => k⟩
  have K : Keep h0 h0 [] := Keep.refl h0 _
  have Zn := Z0
  have pre : ∀ τ, Steps p.tables e below (s₁.setTop (mkF m 3 #[.val (.long x), .second, .val (.long y), .second] [(.int (lcmpW x y))])) τ → G τ := fun τ κ => pre τ (by
    refine XS.lloadN X0.here hx rfl (hb hby d2_0) rfl ?_
    show Steps p.tables e below (s₁.setTop (mkF m 1 #[.val (.long x), .second, .val (.long y), .second] [(.long x)])) τ
    refine XS.lloadN X0.here hx rfl (hb hby d2_1) rfl ?_
    show Steps p.tables e below (s₁.setTop (mkF m 2 #[.val (.long x), .second, .val (.long y), .second] [(.long y), (.long x)])) τ
    refine XS.lcmp X0.here hx rfl (hb hby d2_2) rfl ?_
    show Steps p.tables e below (s₁.setTop (mkF m 3 #[.val (.long x), .second, .val (.long y), .second] [(.int (lcmpW x y))])) τ
    exact κ)
  rcases Classical.em (x < y) with hc3_1 | hc3_1
  ·
    have pre : ∀ τ, Steps p.tables e below (s₁.setTop (mkF m 11 #[.val (.long x), .second, .val (.long y), .second] [(.long y)])) τ → G τ := fun τ κ => pre τ (by
      refine XS.ifYes X0.here hx rfl (pc0 := 3) (pc' := 10) rfl (hb hby d2_3) rfl ((if0 _ _).trans (tlt ((lw_lt _ _).mpr hc3_1)).1) (by decide) (by decide) ?_
      show Steps p.tables e below (s₁.setTop (mkF m 10 #[.val (.long x), .second, .val (.long y), .second] [])) τ
      refine XS.lloadN X0.here hx rfl (hb hby d2_10) rfl ?_
      show Steps p.tables e below (s₁.setTop (mkF m 11 #[.val (.long x), .second, .val (.long y), .second] [(.long y)])) τ
      exact κ)
    obtain ⟨fs, hr, hrun, hended, hW, hsame⟩ := X0.leave (v := some (.long y)) (fun h => by rw [Bd.returns] at h; cases h)
    refine hGL ⟨_, _, hG _ (pre _ ?_), hrun, hended, _, _, rfl, ?_, ⟨_, rfl⟩, hW, hsame.mono (by decide) (by decide)⟩
    · exact retOut X0 hx Bd.returns rfl (Or.inr (Or.inl ⟨rfl, rfl, _, rfl⟩)) (hb hby d2_11) hr
    · show Q2 Z x y h0 n0 _ s₁.heap _
      rw [e0]
      refine ⟨?_, N0, rfl⟩
      simp [own_max, hc3_1]
  ·
    have pre : ∀ τ, Steps p.tables e below (s₁.setTop (mkF m 11 #[.val (.long x), .second, .val (.long y), .second] [(.long x)])) τ → G τ := fun τ κ => pre τ (by
      refine XS.ifNo X0.here hx rfl (hb hby d2_3) rfl ((if0 _ _).trans (flt (fun q => hc3_1 ((lw_lt _ _).mp q))).1) ?_
      show Steps p.tables e below (s₁.setTop (mkF m 6 #[.val (.long x), .second, .val (.long y), .second] [])) τ
      refine XS.lloadN X0.here hx rfl (hb hby d2_6) rfl ?_
      show Steps p.tables e below (s₁.setTop (mkF m 7 #[.val (.long x), .second, .val (.long y), .second] [(.long x)])) τ
      refine XS.goto X0.here hx rfl (pc0 := 7) (pc' := 11) rfl (hb hby d2_7) (by decide) (by decide) ?_
      show Steps p.tables e below (s₁.setTop (mkF m 11 #[.val (.long x), .second, .val (.long y), .second] [(.long x)])) τ
      exact κ)
    obtain ⟨fs, hr, hrun, hended, hW, hsame⟩ := X0.leave (v := some (.long x)) (fun h => by rw [Bd.returns] at h; cases h)
    refine hGL ⟨_, _, hG _ (pre _ ?_), hrun, hended, _, _, rfl, ?_, ⟨_, rfl⟩, hW, hsame.mono (by decide) (by decide)⟩
    · exact retOut X0 hx Bd.returns rfl (Or.inr (Or.inl ⟨rfl, rfl, _, rfl⟩)) (hb hby d2_11) hr
    · show Q2 Z x y h0 n0 _ s₁.heap _
      rw [e0]
      refine ⟨?_, N0, rfl⟩
      simp [own_max, hc3_1]
theorem pn_1 : plainName "com/example/switchpoint/switchpoint/core/exec/OrdinalSet" = true := by first | (simp [plainName, overriddenIn]; done) | decide +kernel
theorem d3_0 : decode prog_54_method_1_code 0 = .ok (.aload_n 0, 1) := by decide +kernel
theorem d3_1 : decode prog_54_method_1_code 1 = .ok (.invokespecial 1, 3) := by decide +kernel
theorem pd_0 : parseMethodDescriptor "()V" = some ⟨[], none⟩ := by decide +kernel
theorem d3_4 : decode prog_54_method_1_code 4 = .ok (.aload_n 0, 1) := by decide +kernel
theorem d3_5 : decode prog_54_method_1_code 5 = .ok (.lload_n 1, 1) := by decide +kernel
theorem d3_6 : decode prog_54_method_1_code 6 = .ok (.putfield 7, 3) := by decide +kernel
theorem d3_9 : decode prog_54_method_1_code 9 = .ok (.aload_n 0, 1) := by decide +kernel
theorem d3_10 : decode prog_54_method_1_code 10 = .ok (.lload_n 3, 1) := by decide +kernel
theorem d3_11 : decode prog_54_method_1_code 11 = .ok (.putfield 13, 3) := by decide +kernel
theorem d3_14 : decode prog_54_method_1_code 14 = .ok (.aload_n 0, 1) := by decide +kernel
theorem d3_15 : decode prog_54_method_1_code 15 = .ok (.aload 5, 2) := by decide +kernel
theorem d3_17 : decode prog_54_method_1_code 17 = .ok (.putfield 16, 3) := by decide +kernel
theorem d3_20 : decode prog_54_method_1_code 20 = .ok (.aload_n 0, 1) := by decide +kernel
theorem d3_21 : decode prog_54_method_1_code 21 = .ok (.aload 6, 2) := by decide +kernel
theorem d3_23 : decode prog_54_method_1_code 23 = .ok (.putfield 20, 3) := by decide +kernel
theorem d3_26 : decode prog_54_method_1_code 26 = .ok (.return_, 1) := by decide +kernel
theorem ef_3 (m : MethodId) (x0 : Addr) (x1 : Int64) (x2 : Int64) (x3 : Addr) (x4 : Addr) : entryFrame m #[(.ref x0), (.long x1), (.long x2), (.ref x3), (.ref x4)] 7 = mkF m 0 #[.val (.ref x0), .val (.long x1), .second, .val (.long x2), .second, .val (.ref x3), .val (.ref x4)] [] := by first | (simp [entryFrame, mkF, argsToLocals, Value.category]; done) | rfl
def Q3 (Z : State) (o : Addr) (le : Int64) (gr : Int64) (lo : Addr) (hi : Addr) (u_least : Value) (u_greatest : Value) (u_lows : Value) (u_highs : Value) (h0 : Heap) (n0 : Nat) (vα : Option Value) (hα : Heap) (Lα : List Loc) : Prop := vα = none ∧ Fr n0 Lα ∧ Keep h0 hα [o] ∧ Exa Z hα o "com/example/switchpoint/switchpoint/core/exec/OrdinalSet" ∧ Fld Z hα o "com/example/switchpoint/switchpoint/core/exec/OrdinalSet" "least" "J" (.long le) ∧ Fld Z hα o "com/example/switchpoint/switchpoint/core/exec/OrdinalSet" "greatest" "J" (.long gr) ∧ Fld Z hα o "com/example/switchpoint/switchpoint/core/exec/OrdinalSet" "lows" "[J" (.ref lo) ∧ Fld Z hα o "com/example/switchpoint/switchpoint/core/exec/OrdinalSet" "highs" "[J" (.ref hi)
set_option maxRecDepth 65536 in
set_option maxHeartbeats 40000000 in
theorem rm3 (l : Launch) (Z : State) (a0 : Array Value) (hw : ∀ d ∈ tables_1, d.before a0 Z = true) (ws : List Jvm.Cond) (o : Addr) (le : Int64) (gr : Int64) (lo : Addr) (hi : Addr) (u_least : Value) (u_greatest : Value) (u_lows : Value) (u_highs : Value) (h0 : Heap) (n0 : Nat) (Z0 : n0 ≤ h0.size) (g_o : n0 ≤ o) (E_o : Exa Z h0 o "com/example/switchpoint/switchpoint/core/exec/OrdinalSet") (F_least : Fld Z h0 o "com/example/switchpoint/switchpoint/core/exec/OrdinalSet" "least" "J" u_least) (F_greatest : Fld Z h0 o "com/example/switchpoint/switchpoint/core/exec/OrdinalSet" "greatest" "J" u_greatest) (F_lows : Fld Z h0 o "com/example/switchpoint/switchpoint/core/exec/OrdinalSet" "lows" "[J" u_lows) (F_highs : Fld Z h0 o "com/example/switchpoint/switchpoint/core/exec/OrdinalSet" "highs" "[J" u_highs) :
    MetFree l (⟨"com/example/switchpoint/switchpoint/core/exec/OrdinalSet", "<init>", "(JJ[J[J)V"⟩ : MethodName) (head1 (Jvm.Cond.code (⟨"com/example/switchpoint/switchpoint/core/exec/OrdinalSet", "<init>", "(JJ[J[J)V"⟩ : MethodName) prog_54_method_1_code 7 none :: ws) ({ frames := 2, cells := 0, slots := 0, locals := 24 } : Room)) (fun aα U => aα = #[(.ref o), (.long le), (.long gr), (.ref lo), (.ref hi)] ∧ Z.Warmed39 U.vm ∧ U.heap = h0) (fun _ _ _ _ _ => True) (fun _ U oα U' => ∃ vα Lα, oα = .returned vα ∧ Q3 Z o le gr lo hi u_least u_greatest u_lows u_highs h0 n0 vα U'.heap Lα ∧ FrameEnd U oα U' Lα ({ frames := 2, cells := 0, slots := 0, locals := 24 } : Room).cells ({ frames := 2, cells := 0, slots := 0, locals := 24 } : Room).slots) := by
  refine MetFree.of_bodySF (plainFor_of_name pn_1) hisR ?_
  intro p e s m args below meth c s₁ Bd hml0 hP hK
  refine own_wrap ?_
  intro GL hGL
  obtain ⟨rfl, hZ, hh⟩ := hP
  have hx := Bd.exec
  have hby := Bd.bytes
  have hml : c.maxLocals = 7 := hml0
  have hown : s.vm.findClass "com/example/switchpoint/switchpoint/core/exec/OrdinalSet" = some m.cls := findClass_of_methodNamed Bd.named
  have hnm := (name_of_methodNamed Bd.named Bd.method).1
  have X0 : Stand p l e ({ frames := 2, cells := 0, slots := 0, locals := 24 } : Room) s m #[(.ref o), (.long le), (.long gr), (.ref lo), (.ref hi)] below meth c s₁ [] 0 0 := Stand.of_body Bd
  have e0 : s₁.heap = h0 := by rw [← hh, Bd.state]; rfl
  have N0 := Fr.nil n0
  have pre0 : ∀ τ, Steps p.tables e below (s₁.setTop (mkF m 0 #[.val (.ref o), .val (.long le), .second, .val (.long gr), .second, .val (.ref lo), .val (.ref hi)] [])) τ → Steps p.tables e below (s₁.setTop (entryFrame m #[(.ref o), (.long le), (.long gr), (.ref lo), (.ref hi)] 7)) τ := fun τ κ => castTop (ef_3 m o le gr lo hi) κ
  obtain ⟨G, hG, pre⟩ : ∃ G : State → Prop, (∀ τ, G τ → Steps p.tables e below (s₁.setTop (entryFrame m #[(.ref o), (.long le), (.long gr), (.ref lo), (.ref hi)] 7)) τ) ∧ ∀ τ, Steps p.tables e below (s₁.setTop (mkF m 0 #[.val (.ref o), .val (.long le), .second, .val (.long gr), .second, .val (.ref lo), .val (.ref hi)] [])) τ → G τ := ⟨_, pre0, fun _ k => k⟩
  have K : Keep h0 h0 [o] := Keep.refl h0 _
  have Zn := Z0
  have pre : ∀ τ, Steps p.tables e below (s₁.setTop (mkF m 1 #[.val (.ref o), .val (.long le), .second, .val (.long gr), .second, .val (.ref lo), .val (.ref hi)] [(.ref o)])) τ → G τ := fun τ κ => pre τ (by
    refine XS.aloadN X0.here hx rfl (hb hby d3_0) rfl rfl ?_
    show Steps p.tables e below (s₁.setTop (mkF m 1 #[.val (.ref o), .val (.long le), .second, .val (.long gr), .second, .val (.ref lo), .val (.ref hi)] [(.ref o)])) τ
    exact κ)
  obtain ⟨_, _, ⟨T1, Lx1, kx1, nx1⟩, -, X1, ⟨Lc1, hQ1, l1, y1, z1⟩, st1⟩ := X0.specialBack hx (y := (⟨"java/lang/Record", "<init>", "()V"⟩ : MethodName)) rfl hown (mvT hZ (hw _ (List.mem_of_getElem? (i := 14) rfl))) (mvT hZ (hw _ (List.mem_of_getElem? (i := 15) rfl))) (mvT hZ (hw _ (List.mem_of_getElem? (i := 18) rfl))) (by decide) (backOf (W := 0) (rm4 l Z a0 hw [] o h0 n0 Zn) hZ (hw _ (List.mem_of_getElem? (i := 18) rfl)) (hw _ (List.mem_of_getElem? (i := 17) rfl)) (by decide) (by decide)) (g := (mkF m 1 #[.val (.ref o), .val (.long le), .second, .val (.long gr), .second, .val (.ref lo), .val (.ref hi)] [(.ref o)])) rfl (by rw [hml]; rfl) (Steps.refl _) (a := o) (argsL := []) (rest := []) (lenOf pd_0 rfl) rfl (by show 2 * 0 + _ ≤ _; exact Nat.le_of_eq rfl) (hb hby d3_1) (fun _ _ => ⟨rfl, e0, (by decide : 0 + 0 ≤ _), (by decide : 0 + 0 ≤ _)⟩)
  dsimp only [Pt.U, Pt.locs, Pt.cells, Pt.slots] at X1 l1 y1 z1 st1 hQ1
  subst l1 y1 z1
  obtain ⟨rfl, Nq1, hs1⟩ := hQ1
  have NN := Fr.app N0 Nq1
  have pre : ∀ τ, Steps p.tables e below (T1.setTop (mkF m 4 #[.val (.ref o), .val (.long le), .second, .val (.long gr), .second, .val (.ref lo), .val (.ref hi)] [])) τ → G τ := fun τ κ => pre τ (st1.trans κ)
  have pre : ∀ τ, Steps p.tables e below (T1.setTop (mkF m 6 #[.val (.ref o), .val (.long le), .second, .val (.long gr), .second, .val (.ref lo), .val (.ref hi)] [(.long le), (.ref o)])) τ → G τ := fun τ κ => pre τ (by
    refine XS.aloadN X1.here hx rfl (hb hby d3_4) rfl rfl ?_
    show Steps p.tables e below (T1.setTop (mkF m 5 #[.val (.ref o), .val (.long le), .second, .val (.long gr), .second, .val (.ref lo), .val (.ref hi)] [(.ref o)])) τ
    refine XS.lloadN X1.here hx rfl (hb hby d3_5) rfl ?_
    show Steps p.tables e below (T1.setTop (mkF m 6 #[.val (.ref o), .val (.long le), .second, .val (.long gr), .second, .val (.ref lo), .val (.ref hi)] [(.long le), (.ref o)])) τ
    exact κ)
  obtain ⟨T2, h2, X2, e2, W2, st2⟩ := putF X1 hx hZ hown (host := "") (Or.inl (hw _ (List.mem_of_getElem? (i := 22) rfl))) Via.refl hs1 F_least E_o (Or.inr ⟨(hw _ (List.mem_of_getElem? (i := 23) rfl)), rfl, hnm⟩) (hw _ (List.mem_of_getElem? (i := 8) rfl)) (ty := .long) (by decide) rfl rfl (g := (mkF m 6 #[.val (.ref o), .val (.long le), .second, .val (.long gr), .second, .val (.ref lo), .val (.ref hi)] [(.long le), (.ref o)])) rfl rfl (hb hby d3_6)
  have F_least : Fld Z h2 o "com/example/switchpoint/switchpoint/core/exec/OrdinalSet" "least" "J" (.long le) := F_least.same W2
  have E_o : Exa Z h2 o "com/example/switchpoint/switchpoint/core/exec/OrdinalSet" := E_o.wr W2
  have F_greatest : Fld Z h2 o "com/example/switchpoint/switchpoint/core/exec/OrdinalSet" "greatest" "J" u_greatest := F_greatest.other W2 (Or.inr (slot_ne (Or.inr (hw _ (List.mem_of_getElem? (i := 25) rfl))) (Or.inr (hw _ (List.mem_of_getElem? (i := 23) rfl))) (by decide) (t := .long) (t' := .long) (by decide) (by decide)))
  have F_lows : Fld Z h2 o "com/example/switchpoint/switchpoint/core/exec/OrdinalSet" "lows" "[J" u_lows := F_lows.other W2 (Or.inr (slot_ne (Or.inr (hw _ (List.mem_of_getElem? (i := 27) rfl))) (Or.inr (hw _ (List.mem_of_getElem? (i := 23) rfl))) (by decide) (t := (.array .long)) (t' := .long) (by decide) (by decide)))
  have F_highs : Fld Z h2 o "com/example/switchpoint/switchpoint/core/exec/OrdinalSet" "highs" "[J" u_highs := F_highs.other W2 (Or.inr (slot_ne (Or.inr (hw _ (List.mem_of_getElem? (i := 29) rfl))) (Or.inr (hw _ (List.mem_of_getElem? (i := 23) rfl))) (by decide) (t := (.array .long)) (t' := .long) (by decide) (by decide)))
  have Zn : n0 ≤ h2.size := Nat.le_trans Zn (Keep.of_wr W2).1
  have K : Keep h0 h2 [o] := K.wr W2 (Or.inl (List.mem_of_getElem? (i := 0) rfl))
  have NN := Fr.snoc X2 NN g_o
  have pre : ∀ τ, Steps p.tables e below (T2.setTop (mkF m 9 #[.val (.ref o), .val (.long le), .second, .val (.long gr), .second, .val (.ref lo), .val (.ref hi)] [])) τ → G τ := fun τ κ => pre τ (st2 τ κ)
  have pre : ∀ τ, Steps p.tables e below (T2.setTop (mkF m 11 #[.val (.ref o), .val (.long le), .second, .val (.long gr), .second, .val (.ref lo), .val (.ref hi)] [(.long gr), (.ref o)])) τ → G τ := fun τ κ => pre τ (by
    refine XS.aloadN X2.here hx rfl (hb hby d3_9) rfl rfl ?_
    show Steps p.tables e below (T2.setTop (mkF m 10 #[.val (.ref o), .val (.long le), .second, .val (.long gr), .second, .val (.ref lo), .val (.ref hi)] [(.ref o)])) τ
    refine XS.lloadN X2.here hx rfl (hb hby d3_10) rfl ?_
    show Steps p.tables e below (T2.setTop (mkF m 11 #[.val (.ref o), .val (.long le), .second, .val (.long gr), .second, .val (.ref lo), .val (.ref hi)] [(.long gr), (.ref o)])) τ
    exact κ)
  obtain ⟨T3, h3, X3, e3, W3, st3⟩ := putF X2 hx hZ hown (host := "") (Or.inl (hw _ (List.mem_of_getElem? (i := 24) rfl))) Via.refl e2 F_greatest E_o (Or.inr ⟨(hw _ (List.mem_of_getElem? (i := 25) rfl)), rfl, hnm⟩) (hw _ (List.mem_of_getElem? (i := 8) rfl)) (ty := .long) (by decide) rfl rfl (g := (mkF m 11 #[.val (.ref o), .val (.long le), .second, .val (.long gr), .second, .val (.ref lo), .val (.ref hi)] [(.long gr), (.ref o)])) rfl rfl (hb hby d3_11)
  have F_greatest : Fld Z h3 o "com/example/switchpoint/switchpoint/core/exec/OrdinalSet" "greatest" "J" (.long gr) := F_greatest.same W3
  have E_o : Exa Z h3 o "com/example/switchpoint/switchpoint/core/exec/OrdinalSet" := E_o.wr W3
  have F_least : Fld Z h3 o "com/example/switchpoint/switchpoint/core/exec/OrdinalSet" "least" "J" (.long le) := F_least.other W3 (Or.inr (slot_ne (Or.inr (hw _ (List.mem_of_getElem? (i := 23) rfl))) (Or.inr (hw _ (List.mem_of_getElem? (i := 25) rfl))) (by decide) (t := .long) (t' := .long) (by decide) (by decide)))
  have F_lows : Fld Z h3 o "com/example/switchpoint/switchpoint/core/exec/OrdinalSet" "lows" "[J" u_lows := F_lows.other W3 (Or.inr (slot_ne (Or.inr (hw _ (List.mem_of_getElem? (i := 27) rfl))) (Or.inr (hw _ (List.mem_of_getElem? (i := 25) rfl))) (by decide) (t := (.array .long)) (t' := .long) (by decide) (by decide)))
  have F_highs : Fld Z h3 o "com/example/switchpoint/switchpoint/core/exec/OrdinalSet" "highs" "[J" u_highs := F_highs.other W3 (Or.inr (slot_ne (Or.inr (hw _ (List.mem_of_getElem? (i := 29) rfl))) (Or.inr (hw _ (List.mem_of_getElem? (i := 25) rfl))) (by decide) (t := (.array .long)) (t' := .long) (by decide) (by decide)))
  have Zn : n0 ≤ h3.size := Nat.le_trans Zn (Keep.of_wr W3).1
  have K : Keep h0 h3 [o] := K.wr W3 (Or.inl (List.mem_of_getElem? (i := 0) rfl))
  have NN := Fr.snoc X3 NN g_o
  have pre : ∀ τ, Steps p.tables e below (T3.setTop (mkF m 14 #[.val (.ref o), .val (.long le), .second, .val (.long gr), .second, .val (.ref lo), .val (.ref hi)] [])) τ → G τ := fun τ κ => pre τ (st3 τ κ)
  have pre : ∀ τ, Steps p.tables e below (T3.setTop (mkF m 17 #[.val (.ref o), .val (.long le), .second, .val (.long gr), .second, .val (.ref lo), .val (.ref hi)] [(.ref lo), (.ref o)])) τ → G τ := fun τ κ => pre τ (by
    refine XS.aloadN X3.here hx rfl (hb hby d3_14) rfl rfl ?_
    show Steps p.tables e below (T3.setTop (mkF m 15 #[.val (.ref o), .val (.long le), .second, .val (.long gr), .second, .val (.ref lo), .val (.ref hi)] [(.ref o)])) τ
    refine XS.aload X3.here hx rfl (hb hby d3_15) rfl rfl ?_
    show Steps p.tables e below (T3.setTop (mkF m 17 #[.val (.ref o), .val (.long le), .second, .val (.long gr), .second, .val (.ref lo), .val (.ref hi)] [(.ref lo), (.ref o)])) τ
    exact κ)
  obtain ⟨T4, h4, X4, e4, W4, st4⟩ := putF X3 hx hZ hown (host := "") (Or.inl (hw _ (List.mem_of_getElem? (i := 26) rfl))) Via.refl e3 F_lows E_o (Or.inr ⟨(hw _ (List.mem_of_getElem? (i := 27) rfl)), rfl, hnm⟩) (hw _ (List.mem_of_getElem? (i := 8) rfl)) (ty := (.array .long)) (by decide) rfl rfl (g := (mkF m 17 #[.val (.ref o), .val (.long le), .second, .val (.long gr), .second, .val (.ref lo), .val (.ref hi)] [(.ref lo), (.ref o)])) rfl rfl (hb hby d3_17)
  have F_lows : Fld Z h4 o "com/example/switchpoint/switchpoint/core/exec/OrdinalSet" "lows" "[J" (.ref lo) := F_lows.same W4
  have E_o : Exa Z h4 o "com/example/switchpoint/switchpoint/core/exec/OrdinalSet" := E_o.wr W4
  have F_least : Fld Z h4 o "com/example/switchpoint/switchpoint/core/exec/OrdinalSet" "least" "J" (.long le) := F_least.other W4 (Or.inr (slot_ne (Or.inr (hw _ (List.mem_of_getElem? (i := 23) rfl))) (Or.inr (hw _ (List.mem_of_getElem? (i := 27) rfl))) (by decide) (t := .long) (t' := (.array .long)) (by decide) (by decide)))
  have F_greatest : Fld Z h4 o "com/example/switchpoint/switchpoint/core/exec/OrdinalSet" "greatest" "J" (.long gr) := F_greatest.other W4 (Or.inr (slot_ne (Or.inr (hw _ (List.mem_of_getElem? (i := 25) rfl))) (Or.inr (hw _ (List.mem_of_getElem? (i := 27) rfl))) (by decide) (t := .long) (t' := (.array .long)) (by decide) (by decide)))
  have F_highs : Fld Z h4 o "com/example/switchpoint/switchpoint/core/exec/OrdinalSet" "highs" "[J" u_highs := F_highs.other W4 (Or.inr (slot_ne (Or.inr (hw _ (List.mem_of_getElem? (i := 29) rfl))) (Or.inr (hw _ (List.mem_of_getElem? (i := 27) rfl))) (by decide) (t := (.array .long)) (t' := (.array .long)) (by decide) (by decide)))
  have Zn : n0 ≤ h4.size := Nat.le_trans Zn (Keep.of_wr W4).1
  have K : Keep h0 h4 [o] := K.wr W4 (Or.inl (List.mem_of_getElem? (i := 0) rfl))
  have NN := Fr.snoc X4 NN g_o
  have pre : ∀ τ, Steps p.tables e below (T4.setTop (mkF m 20 #[.val (.ref o), .val (.long le), .second, .val (.long gr), .second, .val (.ref lo), .val (.ref hi)] [])) τ → G τ := fun τ κ => pre τ (st4 τ κ)
  have pre : ∀ τ, Steps p.tables e below (T4.setTop (mkF m 23 #[.val (.ref o), .val (.long le), .second, .val (.long gr), .second, .val (.ref lo), .val (.ref hi)] [(.ref hi), (.ref o)])) τ → G τ := fun τ κ => pre τ (by
    refine XS.aloadN X4.here hx rfl (hb hby d3_20) rfl rfl ?_
    show Steps p.tables e below (T4.setTop (mkF m 21 #[.val (.ref o), .val (.long le), .second, .val (.long gr), .second, .val (.ref lo), .val (.ref hi)] [(.ref o)])) τ
    refine XS.aload X4.here hx rfl (hb hby d3_21) rfl rfl ?_
    show Steps p.tables e below (T4.setTop (mkF m 23 #[.val (.ref o), .val (.long le), .second, .val (.long gr), .second, .val (.ref lo), .val (.ref hi)] [(.ref hi), (.ref o)])) τ
    exact κ)
  obtain ⟨T5, h5, X5, e5, W5, st5⟩ := putF X4 hx hZ hown (host := "") (Or.inl (hw _ (List.mem_of_getElem? (i := 28) rfl))) Via.refl e4 F_highs E_o (Or.inr ⟨(hw _ (List.mem_of_getElem? (i := 29) rfl)), rfl, hnm⟩) (hw _ (List.mem_of_getElem? (i := 8) rfl)) (ty := (.array .long)) (by decide) rfl rfl (g := (mkF m 23 #[.val (.ref o), .val (.long le), .second, .val (.long gr), .second, .val (.ref lo), .val (.ref hi)] [(.ref hi), (.ref o)])) rfl rfl (hb hby d3_23)
  have F_highs : Fld Z h5 o "com/example/switchpoint/switchpoint/core/exec/OrdinalSet" "highs" "[J" (.ref hi) := F_highs.same W5
  have E_o : Exa Z h5 o "com/example/switchpoint/switchpoint/core/exec/OrdinalSet" := E_o.wr W5
  have F_least : Fld Z h5 o "com/example/switchpoint/switchpoint/core/exec/OrdinalSet" "least" "J" (.long le) := F_least.other W5 (Or.inr (slot_ne (Or.inr (hw _ (List.mem_of_getElem? (i := 23) rfl))) (Or.inr (hw _ (List.mem_of_getElem? (i := 29) rfl))) (by decide) (t := .long) (t' := (.array .long)) (by decide) (by decide)))
  have F_greatest : Fld Z h5 o "com/example/switchpoint/switchpoint/core/exec/OrdinalSet" "greatest" "J" (.long gr) := F_greatest.other W5 (Or.inr (slot_ne (Or.inr (hw _ (List.mem_of_getElem? (i := 25) rfl))) (Or.inr (hw _ (List.mem_of_getElem? (i := 29) rfl))) (by decide) (t := .long) (t' := (.array .long)) (by decide) (by decide)))
  have F_lows : Fld Z h5 o "com/example/switchpoint/switchpoint/core/exec/OrdinalSet" "lows" "[J" (.ref lo) := F_lows.other W5 (Or.inr (slot_ne (Or.inr (hw _ (List.mem_of_getElem? (i := 27) rfl))) (Or.inr (hw _ (List.mem_of_getElem? (i := 29) rfl))) (by decide) (t := (.array .long)) (t' := (.array .long)) (by decide) (by decide)))
  have Zn : n0 ≤ h5.size := Nat.le_trans Zn (Keep.of_wr W5).1
  have K : Keep h0 h5 [o] := K.wr W5 (Or.inl (List.mem_of_getElem? (i := 0) rfl))
  have NN := Fr.snoc X5 NN g_o
  have pre : ∀ τ, Steps p.tables e below (T5.setTop (mkF m 26 #[.val (.ref o), .val (.long le), .second, .val (.long gr), .second, .val (.ref lo), .val (.ref hi)] [])) τ → G τ := fun τ κ => pre τ (st5 τ κ)
  obtain ⟨fs, hr, hrun, hended, hW, hsame⟩ := X5.leave (v := none) (fun _ => rfl)
  refine hGL ⟨_, _, hG _ (pre _ ?_), hrun, hended, _, _, rfl, ?_, ⟨_, rfl⟩, hW, hsame.mono (by decide) (by decide)⟩
  · exact X5.returnOut hx Bd.returns (hb hby d3_26) hr
  · show Q3 Z o le gr lo hi u_least u_greatest u_lows u_highs h0 n0 _ T5.heap _
    rw [e5]
    exact ⟨rfl, NN, K, E_o, F_least, F_greatest, F_lows, F_highs⟩
theorem d6_0 : decode prog_54_method_7_code 0 = .ok (.aload_n 0, 1) := by decide +kernel
theorem d6_1 : decode prog_54_method_7_code 1 = .ok (.getfield 7, 3) := by decide +kernel
theorem d6_4 : decode prog_54_method_7_code 4 = .ok (.ldc2_w 51, 3) := by decide +kernel
theorem d6_7 : decode prog_54_method_7_code 7 = .ok (.lcmp, 1) := by decide +kernel
theorem d6_8 : decode prog_54_method_7_code 8 = .ok (.ifCond .ne 27, 3) := by decide +kernel
theorem d6_11 : decode prog_54_method_7_code 11 = .ok (.aload_n 0, 1) := by decide +kernel
theorem d6_12 : decode prog_54_method_7_code 12 = .ok (.getfield 13, 3) := by decide +kernel
theorem d6_15 : decode prog_54_method_7_code 15 = .ok (.ldc2_w 61, 3) := by decide +kernel
theorem d6_18 : decode prog_54_method_7_code 18 = .ok (.lcmp, 1) := by decide +kernel
theorem d6_19 : decode prog_54_method_7_code 19 = .ok (.ifCond .ne 16, 3) := by decide +kernel
theorem d6_22 : decode prog_54_method_7_code 22 = .ok (.aload_n 0, 1) := by decide +kernel
theorem d6_23 : decode prog_54_method_7_code 23 = .ok (.getfield 16, 3) := by decide +kernel
theorem d6_26 : decode prog_54_method_7_code 26 = .ok (.arraylength, 1) := by decide +kernel
theorem d6_27 : decode prog_54_method_7_code 27 = .ok (.iconst 1, 1) := by decide +kernel
theorem d6_28 : decode prog_54_method_7_code 28 = .ok (.if_icmp .ne 7, 3) := by decide +kernel
theorem d6_31 : decode prog_54_method_7_code 31 = .ok (.iconst 1, 1) := by decide +kernel
theorem d6_32 : decode prog_54_method_7_code 32 = .ok (.goto 4, 3) := by decide +kernel
theorem d6_36 : decode prog_54_method_7_code 36 = .ok (.ireturn, 1) := by decide +kernel
theorem d6_35 : decode prog_54_method_7_code 35 = .ok (.iconst 0, 1) := by decide +kernel
theorem ef_6 (m : MethodId) (x0 : Addr) : entryFrame m #[(.ref x0)] 1 = mkF m 0 #[.val (.ref x0)] [] := by first | (simp [entryFrame, mkF, argsToLocals, Value.category]; done) | rfl
def Q6 (Z : State) (o : Addr) (le : Int64) (gr : Int64) (lo : Addr) (kc : ClassId) (z : Int32) (vs : List Value) (dv : Value) (h0 : Heap) (n0 : Nat) (vα : Option Value) (hα : Heap) (Lα : List Loc) : Prop := vα = some (.int (own_all le gr z)) ∧ Fr n0 Lα ∧ hα = h0
set_option maxRecDepth 65536 in
set_option maxHeartbeats 40000000 in
theorem rm6 (l : Launch) (Z : State) (a0 : Array Value) (hw : ∀ d ∈ tables_1, d.before a0 Z = true) (ws : List Jvm.Cond) (o : Addr) (le : Int64) (gr : Int64) (lo : Addr) (kc : ClassId) (z : Int32) (vs : List Value) (dv : Value) (h0 : Heap) (n0 : Nat) (Z0 : n0 ≤ h0.size) (F_least : Fld Z h0 o "com/example/switchpoint/switchpoint/core/exec/OrdinalSet" "least" "J" (.long le)) (F_greatest : Fld Z h0 o "com/example/switchpoint/switchpoint/core/exec/OrdinalSet" "greatest" "J" (.long gr)) (F_lows : Fld Z h0 o "com/example/switchpoint/switchpoint/core/exec/OrdinalSet" "lows" "[J" (.ref lo)) (V_lo : Arv Z h0 lo kc .long z vs dv) :
    MetFree l (⟨"com/example/switchpoint/switchpoint/core/exec/OrdinalSet", "isAll", "()Z"⟩ : MethodName) (head1 (Jvm.Cond.code (⟨"com/example/switchpoint/switchpoint/core/exec/OrdinalSet", "isAll", "()Z"⟩ : MethodName) prog_54_method_7_code 1 (some .boolean) :: ws) ({ frames := 0, cells := 0, slots := 0, locals := 0 } : Room)) (fun aα U => aα = #[(.ref o)] ∧ Z.Warmed39 U.vm ∧ U.heap = h0) (fun _ _ _ _ _ => True) (fun _ U oα U' => ∃ vα Lα, oα = .returned vα ∧ Q6 Z o le gr lo kc z vs dv h0 n0 vα U'.heap Lα ∧ FrameEnd U oα U' Lα ({ frames := 0, cells := 0, slots := 0, locals := 0 } : Room).cells ({ frames := 0, cells := 0, slots := 0, locals := 0 } : Room).slots) := by
  refine MetFree.of_bodySF (plainFor_of_name pn_1) hisR ?_
  intro p e s m args below meth c s₁ Bd hml0 hP hK
  refine own_wrap ?_
  intro GL hGL
  obtain ⟨rfl, hZ, hh⟩ := hP
  have hx := Bd.exec
  have hby := Bd.bytes
  have hml : c.maxLocals = 1 := hml0
  have hown : s.vm.findClass "com/example/switchpoint/switchpoint/core/exec/OrdinalSet" = some m.cls := findClass_of_methodNamed Bd.named
  have hnm := (name_of_methodNamed Bd.named Bd.method).1
  have X0 : Stand p l e ({ frames := 0, cells := 0, slots := 0, locals := 0 } : Room) s m #[(.ref o)] below meth c s₁ [] 0 0 := Stand.of_body Bd
  have e0 : s₁.heap = h0 := by rw [← hh, Bd.state]; rfl
  have N0 := Fr.nil n0
  have pre0 : ∀ τ, Steps p.tables e below (s₁.setTop (mkF m 0 #[.val (.ref o)] [])) τ → Steps p.tables e below (s₁.setTop (entryFrame m #[(.ref o)] 1)) τ := fun τ κ => castTop (ef_6 m o) κ
  obtain ⟨G, hG, pre⟩ : ∃ G : State → Prop, (∀ τ, G τ → Steps p.tables e below (s₁.setTop (entryFrame m #[(.ref o)] 1)) τ) ∧ ∀ τ, Steps p.tables e below (s₁.setTop (mkF m 0 #[.val (.ref o)] [])) τ → G τ := ⟨_, pre0, fun _ k => k⟩
  have K : Keep h0 h0 [] := Keep.refl h0 _
  have Zn := Z0
  have pre : ∀ τ, Steps p.tables e below (s₁.setTop (mkF m 1 #[.val (.ref o)] [(.ref o)])) τ → G τ := fun τ κ => pre τ (by
    refine XS.aloadN X0.here hx rfl (hb hby d6_0) rfl rfl ?_
    show Steps p.tables e below (s₁.setTop (mkF m 1 #[.val (.ref o)] [(.ref o)])) τ
    exact κ)
  obtain ⟨T1, X1, e1, st1⟩ := getF X0 hx hZ hown (host := "") (Or.inl (hw _ (List.mem_of_getElem? (i := 22) rfl))) Via.refl e0 F_least (g := (mkF m 1 #[.val (.ref o)] [(.ref o)])) rfl rfl (hb hby d6_1)
  have pre : ∀ τ, Steps p.tables e below (T1.setTop (mkF m 4 #[.val (.ref o)] [(.long le)])) τ → G τ := fun τ κ => pre τ (st1 τ κ)
  have pre : ∀ τ, Steps p.tables e below (T1.setTop (mkF m 8 #[.val (.ref o)] [(.int (lcmpW le (-9223372036854775808 : Int64)))])) τ → G τ := fun τ κ => pre τ (by
    refine X1.ldc2Long hx hown (mvT hZ (hw _ (List.mem_of_getElem? (i := 35) rfl))) (g := (mkF m 4 #[.val (.ref o)] [(.long le)])) rfl (hb hby d6_4) _ ?_
    show Steps p.tables e below (T1.setTop (mkF m 7 #[.val (.ref o)] [(.long (-9223372036854775808 : Int64)), (.long le)])) τ
    refine XS.lcmp X1.here hx rfl (hb hby d6_7) rfl ?_
    show Steps p.tables e below (T1.setTop (mkF m 8 #[.val (.ref o)] [(.int (lcmpW le (-9223372036854775808 : Int64)))])) τ
    exact κ)
  rcases Classical.em (le = (-9223372036854775808 : Int64)) with hc8_2 | hc8_2
  ·
    have pre : ∀ τ, Steps p.tables e below (T1.setTop (mkF m 12 #[.val (.ref o)] [(.ref o)])) τ → G τ := fun τ κ => pre τ (by
      refine XS.ifNo X1.here hx rfl (hb hby d6_8) rfl ((if0 _ _).trans (teq ((lw_eq _ _).mpr hc8_2)).2) ?_
      show Steps p.tables e below (T1.setTop (mkF m 11 #[.val (.ref o)] [])) τ
      refine XS.aloadN X1.here hx rfl (hb hby d6_11) rfl rfl ?_
      show Steps p.tables e below (T1.setTop (mkF m 12 #[.val (.ref o)] [(.ref o)])) τ
      exact κ)
    obtain ⟨T3, X3, e3, st3⟩ := getF X1 hx hZ hown (host := "") (Or.inl (hw _ (List.mem_of_getElem? (i := 24) rfl))) Via.refl e1 F_greatest (g := (mkF m 12 #[.val (.ref o)] [(.ref o)])) rfl rfl (hb hby d6_12)
    have pre : ∀ τ, Steps p.tables e below (T3.setTop (mkF m 15 #[.val (.ref o)] [(.long gr)])) τ → G τ := fun τ κ => pre τ (st3 τ κ)
    have pre : ∀ τ, Steps p.tables e below (T3.setTop (mkF m 19 #[.val (.ref o)] [(.int (lcmpW gr (9223372036854775807 : Int64)))])) τ → G τ := fun τ κ => pre τ (by
      refine X3.ldc2Long hx hown (mvT hZ (hw _ (List.mem_of_getElem? (i := 41) rfl))) (g := (mkF m 15 #[.val (.ref o)] [(.long gr)])) rfl (hb hby d6_15) _ ?_
      show Steps p.tables e below (T3.setTop (mkF m 18 #[.val (.ref o)] [(.long (9223372036854775807 : Int64)), (.long gr)])) τ
      refine XS.lcmp X3.here hx rfl (hb hby d6_18) rfl ?_
      show Steps p.tables e below (T3.setTop (mkF m 19 #[.val (.ref o)] [(.int (lcmpW gr (9223372036854775807 : Int64)))])) τ
      exact κ)
    rcases Classical.em (gr = (9223372036854775807 : Int64)) with hc19_4 | hc19_4
    ·
      have pre : ∀ τ, Steps p.tables e below (T3.setTop (mkF m 23 #[.val (.ref o)] [(.ref o)])) τ → G τ := fun τ κ => pre τ (by
        refine XS.ifNo X3.here hx rfl (hb hby d6_19) rfl ((if0 _ _).trans (teq ((lw_eq _ _).mpr hc19_4)).2) ?_
        show Steps p.tables e below (T3.setTop (mkF m 22 #[.val (.ref o)] [])) τ
        refine XS.aloadN X3.here hx rfl (hb hby d6_22) rfl rfl ?_
        show Steps p.tables e below (T3.setTop (mkF m 23 #[.val (.ref o)] [(.ref o)])) τ
        exact κ)
      obtain ⟨T5, X5, e5, st5⟩ := getF X3 hx hZ hown (host := "") (Or.inl (hw _ (List.mem_of_getElem? (i := 26) rfl))) Via.refl e3 F_lows (g := (mkF m 23 #[.val (.ref o)] [(.ref o)])) rfl rfl (hb hby d6_23)
      have pre : ∀ τ, Steps p.tables e below (T5.setTop (mkF m 26 #[.val (.ref o)] [(.ref lo)])) τ → G τ := fun τ κ => pre τ (st5 τ κ)
      obtain ⟨c6, Ar6, -, S6, N6, -, -⟩ := V_lo
      have pre : ∀ τ, Steps p.tables e below (T5.setTop (mkF m 27 #[.val (.ref o)] [(.int z)])) τ → G τ := fun τ κ => pre τ (by
        refine X5.arraylength hx (by rw [e5]; exact Ar6.1) (State.isArrayOf_alike hZ.alike Ar6.2.1) (g := (mkF m 26 #[.val (.ref o)] [(.ref lo)])) rfl rfl (hb hby d6_26) _ ?_
        rw [len_of S6 N6]
        exact κ)
      have pre : ∀ τ, Steps p.tables e below (T5.setTop (mkF m 28 #[.val (.ref o)] [(.int (1 : Int32)), (.int z)])) τ → G τ := fun τ κ => pre τ (by
        refine XS.iconst X5.here hx rfl (hb hby d6_27) ?_
        show Steps p.tables e below (T5.setTop (mkF m 28 #[.val (.ref o)] [(.int (1 : Int32)), (.int z)])) τ
        exact κ)
      rcases Classical.em (z = (1 : Int32)) with hc28_7 | hc28_7
      ·
        have pre : ∀ τ, Steps p.tables e below (T5.setTop (mkF m 36 #[.val (.ref o)] [(.int (1 : Int32))])) τ → G τ := fun τ κ => pre τ (by
          refine XS.icmpNo X5.here hx rfl (hb hby d6_28) rfl (teq hc28_7).2 ?_
          show Steps p.tables e below (T5.setTop (mkF m 31 #[.val (.ref o)] [])) τ
          refine XS.iconst X5.here hx rfl (hb hby d6_31) ?_
          show Steps p.tables e below (T5.setTop (mkF m 32 #[.val (.ref o)] [(.int (1 : Int32))])) τ
          refine XS.goto X5.here hx rfl (pc0 := 32) (pc' := 36) rfl (hb hby d6_32) (by decide) (by decide) ?_
          show Steps p.tables e below (T5.setTop (mkF m 36 #[.val (.ref o)] [(.int (1 : Int32))])) τ
          exact κ)
        obtain ⟨fs, hr, hrun, hended, hW, hsame⟩ := X5.leave (v := some (.int (1 : Int32))) (fun h => by rw [Bd.returns] at h; cases h)
        refine hGL ⟨_, _, hG _ (pre _ ?_), hrun, hended, _, _, rfl, ?_, ⟨_, rfl⟩, hW, hsame.mono (by decide) (by decide)⟩
        · exact retN X5 hx (t := .boolean) Bd.returns (by simp) (hb hby d6_36) hr
        · show Q6 Z o le gr lo kc z vs dv h0 n0 _ T5.heap _
          rw [e5]
          refine ⟨?_, N0, rfl⟩
          simp [own_all, hc8_2, hc19_4, hc28_7]
      ·
        have pre : ∀ τ, Steps p.tables e below (T5.setTop (mkF m 36 #[.val (.ref o)] [(.int (0 : Int32))])) τ → G τ := fun τ κ => pre τ (by
          refine XS.icmpYes X5.here hx rfl (pc0 := 28) (pc' := 35) rfl (hb hby d6_28) rfl (feq hc28_7).2 (by decide) (by decide) ?_
          show Steps p.tables e below (T5.setTop (mkF m 35 #[.val (.ref o)] [])) τ
          refine XS.iconst X5.here hx rfl (hb hby d6_35) ?_
          show Steps p.tables e below (T5.setTop (mkF m 36 #[.val (.ref o)] [(.int (0 : Int32))])) τ
          exact κ)
        obtain ⟨fs, hr, hrun, hended, hW, hsame⟩ := X5.leave (v := some (.int (0 : Int32))) (fun h => by rw [Bd.returns] at h; cases h)
        refine hGL ⟨_, _, hG _ (pre _ ?_), hrun, hended, _, _, rfl, ?_, ⟨_, rfl⟩, hW, hsame.mono (by decide) (by decide)⟩
        · exact retN X5 hx (t := .boolean) Bd.returns (by simp) (hb hby d6_36) hr
        · show Q6 Z o le gr lo kc z vs dv h0 n0 _ T5.heap _
          rw [e5]
          refine ⟨?_, N0, rfl⟩
          simp [own_all, hc8_2, hc19_4, hc28_7]
    ·
      have pre : ∀ τ, Steps p.tables e below (T3.setTop (mkF m 36 #[.val (.ref o)] [(.int (0 : Int32))])) τ → G τ := fun τ κ => pre τ (by
        refine XS.ifYes X3.here hx rfl (pc0 := 19) (pc' := 35) rfl (hb hby d6_19) rfl ((if0 _ _).trans (feq (fun q => hc19_4 ((lw_eq _ _).mp q))).2) (by decide) (by decide) ?_
        show Steps p.tables e below (T3.setTop (mkF m 35 #[.val (.ref o)] [])) τ
        refine XS.iconst X3.here hx rfl (hb hby d6_35) ?_
        show Steps p.tables e below (T3.setTop (mkF m 36 #[.val (.ref o)] [(.int (0 : Int32))])) τ
        exact κ)
      obtain ⟨fs, hr, hrun, hended, hW, hsame⟩ := X3.leave (v := some (.int (0 : Int32))) (fun h => by rw [Bd.returns] at h; cases h)
      refine hGL ⟨_, _, hG _ (pre _ ?_), hrun, hended, _, _, rfl, ?_, ⟨_, rfl⟩, hW, hsame.mono (by decide) (by decide)⟩
      · exact retN X3 hx (t := .boolean) Bd.returns (by simp) (hb hby d6_36) hr
      · show Q6 Z o le gr lo kc z vs dv h0 n0 _ T3.heap _
        rw [e3]
        refine ⟨?_, N0, rfl⟩
        simp [own_all, hc8_2, hc19_4]
  ·
    have pre : ∀ τ, Steps p.tables e below (T1.setTop (mkF m 36 #[.val (.ref o)] [(.int (0 : Int32))])) τ → G τ := fun τ κ => pre τ (by
      refine XS.ifYes X1.here hx rfl (pc0 := 8) (pc' := 35) rfl (hb hby d6_8) rfl ((if0 _ _).trans (feq (fun q => hc8_2 ((lw_eq _ _).mp q))).2) (by decide) (by decide) ?_
      show Steps p.tables e below (T1.setTop (mkF m 35 #[.val (.ref o)] [])) τ
      refine XS.iconst X1.here hx rfl (hb hby d6_35) ?_
      show Steps p.tables e below (T1.setTop (mkF m 36 #[.val (.ref o)] [(.int (0 : Int32))])) τ
      exact κ)
    obtain ⟨fs, hr, hrun, hended, hW, hsame⟩ := X1.leave (v := some (.int (0 : Int32))) (fun h => by rw [Bd.returns] at h; cases h)
    refine hGL ⟨_, _, hG _ (pre _ ?_), hrun, hended, _, _, rfl, ?_, ⟨_, rfl⟩, hW, hsame.mono (by decide) (by decide)⟩
    · exact retN X1 hx (t := .boolean) Bd.returns (by simp) (hb hby d6_36) hr
    · show Q6 Z o le gr lo kc z vs dv h0 n0 _ T1.heap _
      rw [e1]
      refine ⟨?_, N0, rfl⟩
      simp [own_all, hc8_2]
theorem d7_0 : decode prog_54_method_8_code 0 = .ok (.lload_n 1, 1) := by decide +kernel
theorem d7_1 : decode prog_54_method_8_code 1 = .ok (.aload_n 0, 1) := by decide +kernel
theorem d7_2 : decode prog_54_method_8_code 2 = .ok (.getfield 7, 3) := by decide +kernel
theorem d7_5 : decode prog_54_method_8_code 5 = .ok (.lcmp, 1) := by decide +kernel
theorem d7_6 : decode prog_54_method_8_code 6 = .ok (.ifCond .lt 33, 3) := by decide +kernel
theorem d7_39 : decode prog_54_method_8_code 39 = .ok (.iconst 0, 1) := by decide +kernel
theorem d7_40 : decode prog_54_method_8_code 40 = .ok (.ireturn, 1) := by decide +kernel
theorem d7_9 : decode prog_54_method_8_code 9 = .ok (.lload_n 1, 1) := by decide +kernel
theorem d7_10 : decode prog_54_method_8_code 10 = .ok (.aload_n 0, 1) := by decide +kernel
theorem d7_11 : decode prog_54_method_8_code 11 = .ok (.getfield 13, 3) := by decide +kernel
theorem d7_14 : decode prog_54_method_8_code 14 = .ok (.lcmp, 1) := by decide +kernel
theorem d7_15 : decode prog_54_method_8_code 15 = .ok (.ifCond .gt 24, 3) := by decide +kernel
theorem d7_18 : decode prog_54_method_8_code 18 = .ok (.aload_n 0, 1) := by decide +kernel
theorem d7_19 : decode prog_54_method_8_code 19 = .ok (.getfield 16, 3) := by decide +kernel
theorem d7_22 : decode prog_54_method_8_code 22 = .ok (.arraylength, 1) := by decide +kernel
theorem d7_23 : decode prog_54_method_8_code 23 = .ok (.iconst 1, 1) := by decide +kernel
theorem d7_24 : decode prog_54_method_8_code 24 = .ok (.if_icmp .eq 11, 3) := by decide +kernel
theorem d7_35 : decode prog_54_method_8_code 35 = .ok (.iconst 1, 1) := by decide +kernel
theorem d7_36 : decode prog_54_method_8_code 36 = .ok (.goto 4, 3) := by decide +kernel
theorem ef_7 (m : MethodId) (x0 : Addr) (x1 : Int64) : entryFrame m #[(.ref x0), (.long x1)] 3 = mkF m 0 #[.val (.ref x0), .val (.long x1), .second] [] := by first | (simp [entryFrame, mkF, argsToLocals, Value.category]; done) | rfl
def Q7 (Z : State) (o : Addr) (r : Int64) (le : Int64) (gr : Int64) (lo : Addr) (kc : ClassId) (z : Int32) (vs : List Value) (dv : Value) (h0 : Heap) (n0 : Nat) (vα : Option Value) (hα : Heap) (Lα : List Loc) : Prop := vα = some (.int (own_con le gr r)) ∧ Fr n0 Lα ∧ hα = h0
set_option maxRecDepth 65536 in
set_option maxHeartbeats 40000000 in
theorem rm7 (l : Launch) (Z : State) (a0 : Array Value) (hw : ∀ d ∈ tables_1, d.before a0 Z = true) (ws : List Jvm.Cond) (o : Addr) (r : Int64) (le : Int64) (gr : Int64) (lo : Addr) (kc : ClassId) (z : Int32) (vs : List Value) (dv : Value) (h0 : Heap) (n0 : Nat) (Z0 : n0 ≤ h0.size) (F_least : Fld Z h0 o "com/example/switchpoint/switchpoint/core/exec/OrdinalSet" "least" "J" (.long le)) (F_greatest : Fld Z h0 o "com/example/switchpoint/switchpoint/core/exec/OrdinalSet" "greatest" "J" (.long gr)) (F_lows : Fld Z h0 o "com/example/switchpoint/switchpoint/core/exec/OrdinalSet" "lows" "[J" (.ref lo)) (V_lo : Arv Z h0 lo kc .long z vs dv) (hz : z = (1 : Int32)) :
    MetFree l (⟨"com/example/switchpoint/switchpoint/core/exec/OrdinalSet", "contains", "(J)Z"⟩ : MethodName) (head1 (Jvm.Cond.code (⟨"com/example/switchpoint/switchpoint/core/exec/OrdinalSet", "contains", "(J)Z"⟩ : MethodName) prog_54_method_8_code 3 (some .boolean) :: ws) ({ frames := 0, cells := 0, slots := 0, locals := 0 } : Room)) (fun aα U => aα = #[(.ref o), (.long r)] ∧ Z.Warmed39 U.vm ∧ U.heap = h0) (fun _ _ _ _ _ => True) (fun _ U oα U' => ∃ vα Lα, oα = .returned vα ∧ Q7 Z o r le gr lo kc z vs dv h0 n0 vα U'.heap Lα ∧ FrameEnd U oα U' Lα ({ frames := 0, cells := 0, slots := 0, locals := 0 } : Room).cells ({ frames := 0, cells := 0, slots := 0, locals := 0 } : Room).slots) := by
  refine MetFree.of_bodySF (plainFor_of_name pn_1) hisR ?_
  intro p e s m args below meth c s₁ Bd hml0 hP hK
  refine own_wrap ?_
  intro GL hGL
  obtain ⟨rfl, hZ, hh⟩ := hP
  have hx := Bd.exec
  have hby := Bd.bytes
  have hml : c.maxLocals = 3 := hml0
  have hown : s.vm.findClass "com/example/switchpoint/switchpoint/core/exec/OrdinalSet" = some m.cls := findClass_of_methodNamed Bd.named
  have hnm := (name_of_methodNamed Bd.named Bd.method).1
  have X0 : Stand p l e ({ frames := 0, cells := 0, slots := 0, locals := 0 } : Room) s m #[(.ref o), (.long r)] below meth c s₁ [] 0 0 := Stand.of_body Bd
  have e0 : s₁.heap = h0 := by rw [← hh, Bd.state]; rfl
  have N0 := Fr.nil n0
  have pre0 : ∀ τ, Steps p.tables e below (s₁.setTop (mkF m 0 #[.val (.ref o), .val (.long r), .second] [])) τ → Steps p.tables e below (s₁.setTop (entryFrame m #[(.ref o), (.long r)] 3)) τ := fun τ κ => castTop (ef_7 m o r) κ
  obtain ⟨G, hG, pre⟩ : ∃ G : State → Prop, (∀ τ, G τ → Steps p.tables e below (s₁.setTop (entryFrame m #[(.ref o), (.long r)] 3)) τ) ∧ ∀ τ, Steps p.tables e below (s₁.setTop (mkF m 0 #[.val (.ref o), .val (.long r), .second] [])) τ → G τ := ⟨_, pre0, fun _ k => k⟩
  have K : Keep h0 h0 [] := Keep.refl h0 _
  have Zn := Z0
  have pre : ∀ τ, Steps p.tables e below (s₁.setTop (mkF m 2 #[.val (.ref o), .val (.long r), .second] [(.ref o), (.long r)])) τ → G τ := fun τ κ => pre τ (by
    refine XS.lloadN X0.here hx rfl (hb hby d7_0) rfl ?_
    show Steps p.tables e below (s₁.setTop (mkF m 1 #[.val (.ref o), .val (.long r), .second] [(.long r)])) τ
    refine XS.aloadN X0.here hx rfl (hb hby d7_1) rfl rfl ?_
    show Steps p.tables e below (s₁.setTop (mkF m 2 #[.val (.ref o), .val (.long r), .second] [(.ref o), (.long r)])) τ
    exact κ)
  obtain ⟨T1, X1, e1, st1⟩ := getF X0 hx hZ hown (host := "") (Or.inl (hw _ (List.mem_of_getElem? (i := 22) rfl))) Via.refl e0 F_least (g := (mkF m 2 #[.val (.ref o), .val (.long r), .second] [(.ref o), (.long r)])) rfl rfl (hb hby d7_2)
  have pre : ∀ τ, Steps p.tables e below (T1.setTop (mkF m 5 #[.val (.ref o), .val (.long r), .second] [(.long le), (.long r)])) τ → G τ := fun τ κ => pre τ (st1 τ κ)
  have pre : ∀ τ, Steps p.tables e below (T1.setTop (mkF m 6 #[.val (.ref o), .val (.long r), .second] [(.int (lcmpW r le))])) τ → G τ := fun τ κ => pre τ (by
    refine XS.lcmp X1.here hx rfl (hb hby d7_5) rfl ?_
    show Steps p.tables e below (T1.setTop (mkF m 6 #[.val (.ref o), .val (.long r), .second] [(.int (lcmpW r le))])) τ
    exact κ)
  rcases Classical.em (r < le) with hc6_2 | hc6_2
  ·
    have pre : ∀ τ, Steps p.tables e below (T1.setTop (mkF m 40 #[.val (.ref o), .val (.long r), .second] [(.int (0 : Int32))])) τ → G τ := fun τ κ => pre τ (by
      refine XS.ifYes X1.here hx rfl (pc0 := 6) (pc' := 39) rfl (hb hby d7_6) rfl ((if0 _ _).trans (tlt ((lw_lt _ _).mpr hc6_2)).1) (by decide) (by decide) ?_
      show Steps p.tables e below (T1.setTop (mkF m 39 #[.val (.ref o), .val (.long r), .second] [])) τ
      refine XS.iconst X1.here hx rfl (hb hby d7_39) ?_
      show Steps p.tables e below (T1.setTop (mkF m 40 #[.val (.ref o), .val (.long r), .second] [(.int (0 : Int32))])) τ
      exact κ)
    obtain ⟨fs, hr, hrun, hended, hW, hsame⟩ := X1.leave (v := some (.int (0 : Int32))) (fun h => by rw [Bd.returns] at h; cases h)
    refine hGL ⟨_, _, hG _ (pre _ ?_), hrun, hended, _, _, rfl, ?_, ⟨_, rfl⟩, hW, hsame.mono (by decide) (by decide)⟩
    · exact retN X1 hx (t := .boolean) Bd.returns (by simp) (hb hby d7_40) hr
    · show Q7 Z o r le gr lo kc z vs dv h0 n0 _ T1.heap _
      rw [e1]
      refine ⟨?_, N0, rfl⟩
      simp [own_con, hc6_2]
  ·
    have pre : ∀ τ, Steps p.tables e below (T1.setTop (mkF m 11 #[.val (.ref o), .val (.long r), .second] [(.ref o), (.long r)])) τ → G τ := fun τ κ => pre τ (by
      refine XS.ifNo X1.here hx rfl (hb hby d7_6) rfl ((if0 _ _).trans (flt (fun q => hc6_2 ((lw_lt _ _).mp q))).1) ?_
      show Steps p.tables e below (T1.setTop (mkF m 9 #[.val (.ref o), .val (.long r), .second] [])) τ
      refine XS.lloadN X1.here hx rfl (hb hby d7_9) rfl ?_
      show Steps p.tables e below (T1.setTop (mkF m 10 #[.val (.ref o), .val (.long r), .second] [(.long r)])) τ
      refine XS.aloadN X1.here hx rfl (hb hby d7_10) rfl rfl ?_
      show Steps p.tables e below (T1.setTop (mkF m 11 #[.val (.ref o), .val (.long r), .second] [(.ref o), (.long r)])) τ
      exact κ)
    obtain ⟨T3, X3, e3, st3⟩ := getF X1 hx hZ hown (host := "") (Or.inl (hw _ (List.mem_of_getElem? (i := 24) rfl))) Via.refl e1 F_greatest (g := (mkF m 11 #[.val (.ref o), .val (.long r), .second] [(.ref o), (.long r)])) rfl rfl (hb hby d7_11)
    have pre : ∀ τ, Steps p.tables e below (T3.setTop (mkF m 14 #[.val (.ref o), .val (.long r), .second] [(.long gr), (.long r)])) τ → G τ := fun τ κ => pre τ (st3 τ κ)
    have pre : ∀ τ, Steps p.tables e below (T3.setTop (mkF m 15 #[.val (.ref o), .val (.long r), .second] [(.int (lcmpW r gr))])) τ → G τ := fun τ κ => pre τ (by
      refine XS.lcmp X3.here hx rfl (hb hby d7_14) rfl ?_
      show Steps p.tables e below (T3.setTop (mkF m 15 #[.val (.ref o), .val (.long r), .second] [(.int (lcmpW r gr))])) τ
      exact κ)
    rcases Classical.em (gr < r) with hc15_4 | hc15_4
    ·
      have pre : ∀ τ, Steps p.tables e below (T3.setTop (mkF m 40 #[.val (.ref o), .val (.long r), .second] [(.int (0 : Int32))])) τ → G τ := fun τ κ => pre τ (by
        refine XS.ifYes X3.here hx rfl (pc0 := 15) (pc' := 39) rfl (hb hby d7_15) rfl ((if0 _ _).trans (tlt ((lw_gt _ _).mpr hc15_4)).2.2.1) (by decide) (by decide) ?_
        show Steps p.tables e below (T3.setTop (mkF m 39 #[.val (.ref o), .val (.long r), .second] [])) τ
        refine XS.iconst X3.here hx rfl (hb hby d7_39) ?_
        show Steps p.tables e below (T3.setTop (mkF m 40 #[.val (.ref o), .val (.long r), .second] [(.int (0 : Int32))])) τ
        exact κ)
      obtain ⟨fs, hr, hrun, hended, hW, hsame⟩ := X3.leave (v := some (.int (0 : Int32))) (fun h => by rw [Bd.returns] at h; cases h)
      refine hGL ⟨_, _, hG _ (pre _ ?_), hrun, hended, _, _, rfl, ?_, ⟨_, rfl⟩, hW, hsame.mono (by decide) (by decide)⟩
      · exact retN X3 hx (t := .boolean) Bd.returns (by simp) (hb hby d7_40) hr
      · show Q7 Z o r le gr lo kc z vs dv h0 n0 _ T3.heap _
        rw [e3]
        refine ⟨?_, N0, rfl⟩
        simp [own_con, hc6_2, hc15_4]
    ·
      have pre : ∀ τ, Steps p.tables e below (T3.setTop (mkF m 19 #[.val (.ref o), .val (.long r), .second] [(.ref o)])) τ → G τ := fun τ κ => pre τ (by
        refine XS.ifNo X3.here hx rfl (hb hby d7_15) rfl ((if0 _ _).trans (flt (fun q => hc15_4 ((lw_gt _ _).mp q))).2.2.1) ?_
        show Steps p.tables e below (T3.setTop (mkF m 18 #[.val (.ref o), .val (.long r), .second] [])) τ
        refine XS.aloadN X3.here hx rfl (hb hby d7_18) rfl rfl ?_
        show Steps p.tables e below (T3.setTop (mkF m 19 #[.val (.ref o), .val (.long r), .second] [(.ref o)])) τ
        exact κ)
      obtain ⟨T5, X5, e5, st5⟩ := getF X3 hx hZ hown (host := "") (Or.inl (hw _ (List.mem_of_getElem? (i := 26) rfl))) Via.refl e3 F_lows (g := (mkF m 19 #[.val (.ref o), .val (.long r), .second] [(.ref o)])) rfl rfl (hb hby d7_19)
      have pre : ∀ τ, Steps p.tables e below (T5.setTop (mkF m 22 #[.val (.ref o), .val (.long r), .second] [(.ref lo)])) τ → G τ := fun τ κ => pre τ (st5 τ κ)
      obtain ⟨c6, Ar6, -, S6, N6, -, -⟩ := V_lo
      have pre : ∀ τ, Steps p.tables e below (T5.setTop (mkF m 23 #[.val (.ref o), .val (.long r), .second] [(.int z)])) τ → G τ := fun τ κ => pre τ (by
        refine X5.arraylength hx (by rw [e5]; exact Ar6.1) (State.isArrayOf_alike hZ.alike Ar6.2.1) (g := (mkF m 22 #[.val (.ref o), .val (.long r), .second] [(.ref lo)])) rfl rfl (hb hby d7_22) _ ?_
        rw [len_of S6 N6]
        exact κ)
      have pre : ∀ τ, Steps p.tables e below (T5.setTop (mkF m 24 #[.val (.ref o), .val (.long r), .second] [(.int (1 : Int32)), (.int z)])) τ → G τ := fun τ κ => pre τ (by
        refine XS.iconst X5.here hx rfl (hb hby d7_23) ?_
        show Steps p.tables e below (T5.setTop (mkF m 24 #[.val (.ref o), .val (.long r), .second] [(.int (1 : Int32)), (.int z)])) τ
        exact κ)
      have hc7 : z = (1 : Int32) := hz
      have pre : ∀ τ, Steps p.tables e below (T5.setTop (mkF m 40 #[.val (.ref o), .val (.long r), .second] [(.int (1 : Int32))])) τ → G τ := fun τ κ => pre τ (by
        refine XS.icmpYes X5.here hx rfl (pc0 := 24) (pc' := 35) rfl (hb hby d7_24) rfl (teq hc7).1 (by decide) (by decide) ?_
        show Steps p.tables e below (T5.setTop (mkF m 35 #[.val (.ref o), .val (.long r), .second] [])) τ
        refine XS.iconst X5.here hx rfl (hb hby d7_35) ?_
        show Steps p.tables e below (T5.setTop (mkF m 36 #[.val (.ref o), .val (.long r), .second] [(.int (1 : Int32))])) τ
        refine XS.goto X5.here hx rfl (pc0 := 36) (pc' := 40) rfl (hb hby d7_36) (by decide) (by decide) ?_
        show Steps p.tables e below (T5.setTop (mkF m 40 #[.val (.ref o), .val (.long r), .second] [(.int (1 : Int32))])) τ
        exact κ)
      obtain ⟨fs, hr, hrun, hended, hW, hsame⟩ := X5.leave (v := some (.int (1 : Int32))) (fun h => by rw [Bd.returns] at h; cases h)
      refine hGL ⟨_, _, hG _ (pre _ ?_), hrun, hended, _, _, rfl, ?_, ⟨_, rfl⟩, hW, hsame.mono (by decide) (by decide)⟩
      · exact retN X5 hx (t := .boolean) Bd.returns (by simp) (hb hby d7_40) hr
      · show Q7 Z o r le gr lo kc z vs dv h0 n0 _ T5.heap _
        rw [e5]
        refine ⟨?_, N0, rfl⟩
        simp [own_con, hc6_2, hc15_4, hc7]
theorem pn_2 : plainName "com/example/switchpoint/switchpoint/core/exec/OrdinalSetIsAllPinLaw" = true := by first | (simp [plainName, overriddenIn]; done) | decide +kernel
theorem pd_1 : parseMethodDescriptor "(JJ)J" = some ⟨[.long, .long], some .long⟩ := by decide +kernel
theorem pd_2 : parseMethodDescriptor "(JJ[J[J)V" = some ⟨[.long, .long, (.array .long), (.array .long)], none⟩ := by decide +kernel
theorem pd_3 : parseMethodDescriptor "()Z" = some ⟨[], some .boolean⟩ := by decide +kernel
theorem pd_4 : parseMethodDescriptor "(J)Z" = some ⟨[.long], some .boolean⟩ := by decide +kernel
theorem ef_0 (m : MethodId) (x0 : Int64) (x1 : Int64) (x2 : Int64) (x3 : Int32) : entryFrame m #[(.long x0), (.long x1), (.long x2), (.int x3)] maxLocals = mkF m 0 #[.val (.long x0), .second, .val (.long x1), .second, .val (.long x2), .second, .val (.int x3), .unset, .unset, .unset, .unset, .unset, .unset, .unset, .unset] [] := by first | (simp [entryFrame, mkF, argsToLocals, Value.category, maxLocals]; done) | rfl
def Q0 (Z : State) (q1 : Int64) (q2 : Int64) (q3 : Int64) (p4 : Int32) (h0 : Heap) (n0 : Nat) (vα : Option Value) (hα : Heap) (Lα : List Loc) : Prop := vα = some (.int (1 : Int32)) ∧ Fr n0 Lα
set_option maxRecDepth 65536 in
set_option maxHeartbeats 40000000 in
theorem rm0 (l : Launch) (Z : State) (a0 : Array Value) (hw : ∀ d ∈ tables_1, d.before a0 Z = true) (ws : List Jvm.Cond) (q1 : Int64) (q2 : Int64) (q3 : Int64) (p4 : Int32) (h0 : Heap) (n0 : Nat) (Z0 : n0 ≤ h0.size) :
    MetFree l x (head1 (Jvm.Cond.code x code maxLocals ret :: ws) room_1) (fun aα U => aα = #[(.long q1), (.long q2), (.long q3), (.int p4)] ∧ Z.Warmed39 U.vm ∧ U.heap = h0) (fun _ _ _ _ _ => True) (fun _ U oα U' => ∃ vα Lα, oα = .returned vα ∧ Q0 Z q1 q2 q3 p4 h0 n0 vα U'.heap Lα ∧ FrameEnd U oα U' Lα room_1.cells room_1.slots) := by
  refine MetFree.of_bodySF (plainFor_of_name pn_2) hisR ?_
  intro p e s m args below meth c s₁ Bd hml0 hP hK
  refine own_wrap ?_
  intro GL hGL
  obtain ⟨rfl, hZ, hh⟩ := hP
  have hx := Bd.exec
  have hby := Bd.bytes
  have hml : c.maxLocals = 15 := hml0
  have hown : s.vm.findClass "com/example/switchpoint/switchpoint/core/exec/OrdinalSetIsAllPinLaw" = some m.cls := findClass_of_methodNamed Bd.named
  have hnm := (name_of_methodNamed Bd.named Bd.method).1
  have X0 : Stand p l e room_1 s m #[(.long q1), (.long q2), (.long q3), (.int p4)] below meth c s₁ [] 0 0 := Stand.of_body Bd
  have e0 : s₁.heap = h0 := by rw [← hh, Bd.state]; rfl
  have N0 := Fr.nil n0
  have pre0 : ∀ τ, Steps p.tables e below (s₁.setTop (mkF m 0 #[.val (.long q1), .second, .val (.long q2), .second, .val (.long q3), .second, .val (.int p4), .unset, .unset, .unset, .unset, .unset, .unset, .unset, .unset] [])) τ → Steps p.tables e below (s₁.setTop (entryFrame m #[(.long q1), (.long q2), (.long q3), (.int p4)] maxLocals)) τ := fun τ κ => castTop (ef_0 m q1 q2 q3 p4) κ
  obtain ⟨G, hG, pre⟩ : ∃ G : State → Prop, (∀ τ, G τ → Steps p.tables e below (s₁.setTop (entryFrame m #[(.long q1), (.long q2), (.long q3), (.int p4)] maxLocals)) τ) ∧ ∀ τ, Steps p.tables e below (s₁.setTop (mkF m 0 #[.val (.long q1), .second, .val (.long q2), .second, .val (.long q3), .second, .val (.int p4), .unset, .unset, .unset, .unset, .unset, .unset, .unset, .unset] [])) τ → G τ := ⟨_, pre0, fun _ k => k⟩
  have Zn := Z0
  have pre : ∀ τ, Steps p.tables e below (s₁.setTop (mkF m 2 #[.val (.long q1), .second, .val (.long q2), .second, .val (.long q3), .second, .val (.int p4), .unset, .unset, .unset, .unset, .unset, .unset, .unset, .unset] [(.long q2), (.long q1)])) τ → G τ := fun τ κ => pre τ (by
    refine XS.lloadN X0.here hx rfl (hb hby at_0) rfl ?_
    show Steps p.tables e below (s₁.setTop (mkF m 1 #[.val (.long q1), .second, .val (.long q2), .second, .val (.long q3), .second, .val (.int p4), .unset, .unset, .unset, .unset, .unset, .unset, .unset, .unset] [(.long q1)])) τ
    refine XS.lloadN X0.here hx rfl (hb hby at_1) rfl ?_
    show Steps p.tables e below (s₁.setTop (mkF m 2 #[.val (.long q1), .second, .val (.long q2), .second, .val (.long q3), .second, .val (.int p4), .unset, .unset, .unset, .unset, .unset, .unset, .unset, .unset] [(.long q2), (.long q1)])) τ
    exact κ)
  obtain ⟨_, _, ⟨T1, Lx1, kx1, nx1⟩, -, X1, ⟨Lc1, hQ1, l1, y1, z1⟩, st1⟩ := Jvm.LawKit.callS X0 hx (y := (⟨"java/lang/Math", "min", "(JJ)J"⟩ : MethodName)) hown (mvT hZ (hw _ (List.mem_of_getElem? (i := 0) rfl))) (mvT hZ (hw _ (List.mem_of_getElem? (i := 1) rfl))) (mvT hZ (hw _ (List.mem_of_getElem? (i := 2) rfl))) (mvT hZ (hw _ (List.mem_of_getElem? (i := 3) rfl))) (by decide) (backOf (W := 0) (rm1 l Z a0 hw [] q1 q2 h0 n0 Zn) hZ (hw _ (List.mem_of_getElem? (i := 3) rfl)) (hw _ (List.mem_of_getElem? (i := 2) rfl)) (by decide) (by decide)) (g := (mkF m 2 #[.val (.long q1), .second, .val (.long q2), .second, .val (.long q3), .second, .val (.int p4), .unset, .unset, .unset, .unset, .unset, .unset, .unset, .unset] [(.long q2), (.long q1)])) rfl (by rw [hml]; rfl) (argsL := [(.long q1), (.long q2)]) (rest := []) (lenOf pd_1 rfl) rfl (by show 2 * 0 + _ ≤ _; exact Nat.le_of_eq rfl) (hb hby at_2) (fun _ _ => ⟨rfl, e0, (by decide : 0 + 0 ≤ _), (by decide : 0 + 0 ≤ _)⟩)
  dsimp only [Pt.U, Pt.locs, Pt.cells, Pt.slots] at X1 l1 y1 z1 st1 hQ1
  subst l1 y1 z1
  obtain ⟨rfl, Nq1, hs1⟩ := hQ1
  have NN := Fr.app N0 Nq1
  have pre : ∀ τ, Steps p.tables e below (T1.setTop (mkF m 5 #[.val (.long q1), .second, .val (.long q2), .second, .val (.long q3), .second, .val (.int p4), .unset, .unset, .unset, .unset, .unset, .unset, .unset, .unset] [(.long (own_min q1 q2))])) τ → G τ := fun τ κ => pre τ (st1 τ κ)
  have pre : ∀ τ, Steps p.tables e below (T1.setTop (mkF m 9 #[.val (.long q1), .second, .val (.long q2), .second, .val (.long q3), .second, .val (.int p4), .val (.long (own_min q1 q2)), .second, .unset, .unset, .unset, .unset, .unset, .unset] [(.long q2), (.long q1)])) τ → G τ := fun τ κ => pre τ (by
    refine XS.lstore X1.here hx rfl (hb hby at_5) rfl (l' := #[.val (.long q1), .second, .val (.long q2), .second, .val (.long q3), .second, .val (.int p4), .val (.long (own_min q1 q2)), .second, .unset, .unset, .unset, .unset, .unset, .unset]) rfl ?_
    show Steps p.tables e below (T1.setTop (mkF m 7 #[.val (.long q1), .second, .val (.long q2), .second, .val (.long q3), .second, .val (.int p4), .val (.long (own_min q1 q2)), .second, .unset, .unset, .unset, .unset, .unset, .unset] [])) τ
    refine XS.lloadN X1.here hx rfl (hb hby at_7) rfl ?_
    show Steps p.tables e below (T1.setTop (mkF m 8 #[.val (.long q1), .second, .val (.long q2), .second, .val (.long q3), .second, .val (.int p4), .val (.long (own_min q1 q2)), .second, .unset, .unset, .unset, .unset, .unset, .unset] [(.long q1)])) τ
    refine XS.lloadN X1.here hx rfl (hb hby at_8) rfl ?_
    show Steps p.tables e below (T1.setTop (mkF m 9 #[.val (.long q1), .second, .val (.long q2), .second, .val (.long q3), .second, .val (.int p4), .val (.long (own_min q1 q2)), .second, .unset, .unset, .unset, .unset, .unset, .unset] [(.long q2), (.long q1)])) τ
    exact κ)
  obtain ⟨_, _, ⟨T2, Lx2, kx2, nx2⟩, -, X2, ⟨Lc2, hQ2, l2, y2, z2⟩, st2⟩ := Jvm.LawKit.callS X1 hx (y := (⟨"java/lang/Math", "max", "(JJ)J"⟩ : MethodName)) hown (mvT hZ (hw _ (List.mem_of_getElem? (i := 4) rfl))) (mvT hZ (hw _ (List.mem_of_getElem? (i := 5) rfl))) (mvT hZ (hw _ (List.mem_of_getElem? (i := 2) rfl))) (mvT hZ (hw _ (List.mem_of_getElem? (i := 6) rfl))) (by decide) (backOf (W := 0) (rm2 l Z a0 hw [] q1 q2 h0 n0 Zn) hZ (hw _ (List.mem_of_getElem? (i := 6) rfl)) (hw _ (List.mem_of_getElem? (i := 2) rfl)) (by decide) (by decide)) (g := (mkF m 9 #[.val (.long q1), .second, .val (.long q2), .second, .val (.long q3), .second, .val (.int p4), .val (.long (own_min q1 q2)), .second, .unset, .unset, .unset, .unset, .unset, .unset] [(.long q2), (.long q1)])) rfl (by rw [hml]; rfl) (argsL := [(.long q1), (.long q2)]) (rest := []) (lenOf pd_1 rfl) rfl (by show 2 * 0 + _ ≤ _; exact Nat.le_of_eq rfl) (hb hby at_9) (fun _ _ => ⟨rfl, hs1, (by decide : 0 + 0 ≤ _), (by decide : 0 + 0 ≤ _)⟩)
  dsimp only [Pt.U, Pt.locs, Pt.cells, Pt.slots] at X2 l2 y2 z2 st2 hQ2
  subst l2 y2 z2
  obtain ⟨rfl, Nq2, hs2⟩ := hQ2
  have NN := Fr.app NN Nq2
  have pre : ∀ τ, Steps p.tables e below (T2.setTop (mkF m 12 #[.val (.long q1), .second, .val (.long q2), .second, .val (.long q3), .second, .val (.int p4), .val (.long (own_min q1 q2)), .second, .unset, .unset, .unset, .unset, .unset, .unset] [(.long (own_max q1 q2))])) τ → G τ := fun τ κ => pre τ (st2 τ κ)
  have pre : ∀ τ, Steps p.tables e below (T2.setTop (mkF m 14 #[.val (.long q1), .second, .val (.long q2), .second, .val (.long q3), .second, .val (.int p4), .val (.long (own_min q1 q2)), .second, .val (.long (own_max q1 q2)), .second, .unset, .unset, .unset, .unset] [])) τ → G τ := fun τ κ => pre τ (by
    refine XS.lstore X2.here hx rfl (hb hby at_12) rfl (l' := #[.val (.long q1), .second, .val (.long q2), .second, .val (.long q3), .second, .val (.int p4), .val (.long (own_min q1 q2)), .second, .val (.long (own_max q1 q2)), .second, .unset, .unset, .unset, .unset]) rfl ?_
    show Steps p.tables e below (T2.setTop (mkF m 14 #[.val (.long q1), .second, .val (.long q2), .second, .val (.long q3), .second, .val (.int p4), .val (.long (own_min q1 q2)), .second, .val (.long (own_max q1 q2)), .second, .unset, .unset, .unset, .unset] [])) τ
    exact κ)
  obtain ⟨aa, dd, pre⟩ : ∃ (aa : Int64) (dd : Int64), ∀ τ, Steps p.tables e below (T2.setTop (mkF m 39 #[.val (.long q1), .second, .val (.long q2), .second, .val (.long q3), .second, .val (.int p4), .val (.long aa), .second, .val (.long dd), .second, .unset, .unset, .unset, .unset] [])) τ → G τ := by
    have pre : ∀ τ, Steps p.tables e below (T2.setTop (mkF m 18 #[.val (.long q1), .second, .val (.long q2), .second, .val (.long q3), .second, .val (.int p4), .val (.long (own_min q1 q2)), .second, .val (.long (own_max q1 q2)), .second, .unset, .unset, .unset, .unset] [(.int (p4 &&& (4 : Int32)))])) τ → G τ := fun τ κ => pre τ (by
      refine XS.iload X2.here hx rfl (hb hby at_14) rfl ?_
      show Steps p.tables e below (T2.setTop (mkF m 16 #[.val (.long q1), .second, .val (.long q2), .second, .val (.long q3), .second, .val (.int p4), .val (.long (own_min q1 q2)), .second, .val (.long (own_max q1 q2)), .second, .unset, .unset, .unset, .unset] [(.int p4)])) τ
      refine XS.iconst X2.here hx rfl (hb hby at_16) ?_
      show Steps p.tables e below (T2.setTop (mkF m 17 #[.val (.long q1), .second, .val (.long q2), .second, .val (.long q3), .second, .val (.int p4), .val (.long (own_min q1 q2)), .second, .val (.long (own_max q1 q2)), .second, .unset, .unset, .unset, .unset] [(.int (4 : Int32)), (.int p4)])) τ
      refine XS.iand X2.here hx rfl (hb hby at_17) rfl ?_
      show Steps p.tables e below (T2.setTop (mkF m 18 #[.val (.long q1), .second, .val (.long q2), .second, .val (.long q3), .second, .val (.int p4), .val (.long (own_min q1 q2)), .second, .val (.long (own_max q1 q2)), .second, .unset, .unset, .unset, .unset] [(.int (p4 &&& (4 : Int32)))])) τ
      exact κ)
    rcases Classical.em ((p4 &&& (4 : Int32)) = (0 : Int32)) with hc18_3 | hc18_3
    ·
      have pre : ∀ τ, Steps p.tables e below (T2.setTop (mkF m 31 #[.val (.long q1), .second, .val (.long q2), .second, .val (.long q3), .second, .val (.int p4), .val (.long (own_min q1 q2)), .second, .val (.long (own_max q1 q2)), .second, .unset, .unset, .unset, .unset] [(.int (p4 &&& (8 : Int32)))])) τ → G τ := fun τ κ => pre τ (by
        refine XS.ifYes X2.here hx rfl (pc0 := 18) (pc' := 26) rfl (hb hby at_18) rfl ((if0 _ _).trans (teq hc18_3).1) (by decide) (by decide) ?_
        show Steps p.tables e below (T2.setTop (mkF m 26 #[.val (.long q1), .second, .val (.long q2), .second, .val (.long q3), .second, .val (.int p4), .val (.long (own_min q1 q2)), .second, .val (.long (own_max q1 q2)), .second, .unset, .unset, .unset, .unset] [])) τ
        refine XS.iload X2.here hx rfl (hb hby at_26) rfl ?_
        show Steps p.tables e below (T2.setTop (mkF m 28 #[.val (.long q1), .second, .val (.long q2), .second, .val (.long q3), .second, .val (.int p4), .val (.long (own_min q1 q2)), .second, .val (.long (own_max q1 q2)), .second, .unset, .unset, .unset, .unset] [(.int p4)])) τ
        refine XS.bipush X2.here hx rfl (hb hby at_28) ?_
        show Steps p.tables e below (T2.setTop (mkF m 30 #[.val (.long q1), .second, .val (.long q2), .second, .val (.long q3), .second, .val (.int p4), .val (.long (own_min q1 q2)), .second, .val (.long (own_max q1 q2)), .second, .unset, .unset, .unset, .unset] [(.int (8 : Int32)), (.int p4)])) τ
        refine XS.iand X2.here hx rfl (hb hby at_30) rfl ?_
        show Steps p.tables e below (T2.setTop (mkF m 31 #[.val (.long q1), .second, .val (.long q2), .second, .val (.long q3), .second, .val (.int p4), .val (.long (own_min q1 q2)), .second, .val (.long (own_max q1 q2)), .second, .unset, .unset, .unset, .unset] [(.int (p4 &&& (8 : Int32)))])) τ
        exact κ)
      rcases Classical.em ((p4 &&& (8 : Int32)) = (0 : Int32)) with hc31_4 | hc31_4
      ·
        have pre : ∀ τ, Steps p.tables e below (T2.setTop (mkF m 39 #[.val (.long q1), .second, .val (.long q2), .second, .val (.long q3), .second, .val (.int p4), .val (.long (own_min q1 q2)), .second, .val (.long (own_max q1 q2)), .second, .unset, .unset, .unset, .unset] [])) τ → G τ := fun τ κ => pre τ (by
          refine XS.ifYes X2.here hx rfl (pc0 := 31) (pc' := 39) rfl (hb hby at_31) rfl ((if0 _ _).trans (teq hc31_4).1) (by decide) (by decide) ?_
          show Steps p.tables e below (T2.setTop (mkF m 39 #[.val (.long q1), .second, .val (.long q2), .second, .val (.long q3), .second, .val (.int p4), .val (.long (own_min q1 q2)), .second, .val (.long (own_max q1 q2)), .second, .unset, .unset, .unset, .unset] [])) τ
          exact κ)
        exact ⟨(own_min q1 q2), (own_max q1 q2), pre⟩
      ·
        have pre : ∀ τ, Steps p.tables e below (T2.setTop (mkF m 39 #[.val (.long q1), .second, .val (.long q2), .second, .val (.long q3), .second, .val (.int p4), .val (.long (own_min q1 q2)), .second, .val (.long (9223372036854775807 : Int64)), .second, .unset, .unset, .unset, .unset] [])) τ → G τ := fun τ κ => pre τ (by
          refine XS.ifNo X2.here hx rfl (hb hby at_31) rfl ((if0 _ _).trans (feq hc31_4).1) ?_
          show Steps p.tables e below (T2.setTop (mkF m 34 #[.val (.long q1), .second, .val (.long q2), .second, .val (.long q3), .second, .val (.int p4), .val (.long (own_min q1 q2)), .second, .val (.long (own_max q1 q2)), .second, .unset, .unset, .unset, .unset] [])) τ
          refine X2.ldc2Long hx hown (mvT hZ (hw _ (List.mem_of_getElem? (i := 36) rfl))) (g := (mkF m 34 #[.val (.long q1), .second, .val (.long q2), .second, .val (.long q3), .second, .val (.int p4), .val (.long (own_min q1 q2)), .second, .val (.long (own_max q1 q2)), .second, .unset, .unset, .unset, .unset] [])) rfl (hb hby at_34) _ ?_
          show Steps p.tables e below (T2.setTop (mkF m 37 #[.val (.long q1), .second, .val (.long q2), .second, .val (.long q3), .second, .val (.int p4), .val (.long (own_min q1 q2)), .second, .val (.long (own_max q1 q2)), .second, .unset, .unset, .unset, .unset] [(.long (9223372036854775807 : Int64))])) τ
          refine XS.lstore X2.here hx rfl (hb hby at_37) rfl (l' := #[.val (.long q1), .second, .val (.long q2), .second, .val (.long q3), .second, .val (.int p4), .val (.long (own_min q1 q2)), .second, .val (.long (9223372036854775807 : Int64)), .second, .unset, .unset, .unset, .unset]) rfl ?_
          show Steps p.tables e below (T2.setTop (mkF m 39 #[.val (.long q1), .second, .val (.long q2), .second, .val (.long q3), .second, .val (.int p4), .val (.long (own_min q1 q2)), .second, .val (.long (9223372036854775807 : Int64)), .second, .unset, .unset, .unset, .unset] [])) τ
          exact κ)
        exact ⟨(own_min q1 q2), (9223372036854775807 : Int64), pre⟩
    ·
      have pre : ∀ τ, Steps p.tables e below (T2.setTop (mkF m 31 #[.val (.long q1), .second, .val (.long q2), .second, .val (.long q3), .second, .val (.int p4), .val (.long (-9223372036854775808 : Int64)), .second, .val (.long (own_max q1 q2)), .second, .unset, .unset, .unset, .unset] [(.int (p4 &&& (8 : Int32)))])) τ → G τ := fun τ κ => pre τ (by
        refine XS.ifNo X2.here hx rfl (hb hby at_18) rfl ((if0 _ _).trans (feq hc18_3).1) ?_
        show Steps p.tables e below (T2.setTop (mkF m 21 #[.val (.long q1), .second, .val (.long q2), .second, .val (.long q3), .second, .val (.int p4), .val (.long (own_min q1 q2)), .second, .val (.long (own_max q1 q2)), .second, .unset, .unset, .unset, .unset] [])) τ
        refine X2.ldc2Long hx hown (mvT hZ (hw _ (List.mem_of_getElem? (i := 37) rfl))) (g := (mkF m 21 #[.val (.long q1), .second, .val (.long q2), .second, .val (.long q3), .second, .val (.int p4), .val (.long (own_min q1 q2)), .second, .val (.long (own_max q1 q2)), .second, .unset, .unset, .unset, .unset] [])) rfl (hb hby at_21) _ ?_
        show Steps p.tables e below (T2.setTop (mkF m 24 #[.val (.long q1), .second, .val (.long q2), .second, .val (.long q3), .second, .val (.int p4), .val (.long (own_min q1 q2)), .second, .val (.long (own_max q1 q2)), .second, .unset, .unset, .unset, .unset] [(.long (-9223372036854775808 : Int64))])) τ
        refine XS.lstore X2.here hx rfl (hb hby at_24) rfl (l' := #[.val (.long q1), .second, .val (.long q2), .second, .val (.long q3), .second, .val (.int p4), .val (.long (-9223372036854775808 : Int64)), .second, .val (.long (own_max q1 q2)), .second, .unset, .unset, .unset, .unset]) rfl ?_
        show Steps p.tables e below (T2.setTop (mkF m 26 #[.val (.long q1), .second, .val (.long q2), .second, .val (.long q3), .second, .val (.int p4), .val (.long (-9223372036854775808 : Int64)), .second, .val (.long (own_max q1 q2)), .second, .unset, .unset, .unset, .unset] [])) τ
        refine XS.iload X2.here hx rfl (hb hby at_26) rfl ?_
        show Steps p.tables e below (T2.setTop (mkF m 28 #[.val (.long q1), .second, .val (.long q2), .second, .val (.long q3), .second, .val (.int p4), .val (.long (-9223372036854775808 : Int64)), .second, .val (.long (own_max q1 q2)), .second, .unset, .unset, .unset, .unset] [(.int p4)])) τ
        refine XS.bipush X2.here hx rfl (hb hby at_28) ?_
        show Steps p.tables e below (T2.setTop (mkF m 30 #[.val (.long q1), .second, .val (.long q2), .second, .val (.long q3), .second, .val (.int p4), .val (.long (-9223372036854775808 : Int64)), .second, .val (.long (own_max q1 q2)), .second, .unset, .unset, .unset, .unset] [(.int (8 : Int32)), (.int p4)])) τ
        refine XS.iand X2.here hx rfl (hb hby at_30) rfl ?_
        show Steps p.tables e below (T2.setTop (mkF m 31 #[.val (.long q1), .second, .val (.long q2), .second, .val (.long q3), .second, .val (.int p4), .val (.long (-9223372036854775808 : Int64)), .second, .val (.long (own_max q1 q2)), .second, .unset, .unset, .unset, .unset] [(.int (p4 &&& (8 : Int32)))])) τ
        exact κ)
      rcases Classical.em ((p4 &&& (8 : Int32)) = (0 : Int32)) with hc31_5 | hc31_5
      ·
        have pre : ∀ τ, Steps p.tables e below (T2.setTop (mkF m 39 #[.val (.long q1), .second, .val (.long q2), .second, .val (.long q3), .second, .val (.int p4), .val (.long (-9223372036854775808 : Int64)), .second, .val (.long (own_max q1 q2)), .second, .unset, .unset, .unset, .unset] [])) τ → G τ := fun τ κ => pre τ (by
          refine XS.ifYes X2.here hx rfl (pc0 := 31) (pc' := 39) rfl (hb hby at_31) rfl ((if0 _ _).trans (teq hc31_5).1) (by decide) (by decide) ?_
          show Steps p.tables e below (T2.setTop (mkF m 39 #[.val (.long q1), .second, .val (.long q2), .second, .val (.long q3), .second, .val (.int p4), .val (.long (-9223372036854775808 : Int64)), .second, .val (.long (own_max q1 q2)), .second, .unset, .unset, .unset, .unset] [])) τ
          exact κ)
        exact ⟨(-9223372036854775808 : Int64), (own_max q1 q2), pre⟩
      ·
        have pre : ∀ τ, Steps p.tables e below (T2.setTop (mkF m 39 #[.val (.long q1), .second, .val (.long q2), .second, .val (.long q3), .second, .val (.int p4), .val (.long (-9223372036854775808 : Int64)), .second, .val (.long (9223372036854775807 : Int64)), .second, .unset, .unset, .unset, .unset] [])) τ → G τ := fun τ κ => pre τ (by
          refine XS.ifNo X2.here hx rfl (hb hby at_31) rfl ((if0 _ _).trans (feq hc31_5).1) ?_
          show Steps p.tables e below (T2.setTop (mkF m 34 #[.val (.long q1), .second, .val (.long q2), .second, .val (.long q3), .second, .val (.int p4), .val (.long (-9223372036854775808 : Int64)), .second, .val (.long (own_max q1 q2)), .second, .unset, .unset, .unset, .unset] [])) τ
          refine X2.ldc2Long hx hown (mvT hZ (hw _ (List.mem_of_getElem? (i := 36) rfl))) (g := (mkF m 34 #[.val (.long q1), .second, .val (.long q2), .second, .val (.long q3), .second, .val (.int p4), .val (.long (-9223372036854775808 : Int64)), .second, .val (.long (own_max q1 q2)), .second, .unset, .unset, .unset, .unset] [])) rfl (hb hby at_34) _ ?_
          show Steps p.tables e below (T2.setTop (mkF m 37 #[.val (.long q1), .second, .val (.long q2), .second, .val (.long q3), .second, .val (.int p4), .val (.long (-9223372036854775808 : Int64)), .second, .val (.long (own_max q1 q2)), .second, .unset, .unset, .unset, .unset] [(.long (9223372036854775807 : Int64))])) τ
          refine XS.lstore X2.here hx rfl (hb hby at_37) rfl (l' := #[.val (.long q1), .second, .val (.long q2), .second, .val (.long q3), .second, .val (.int p4), .val (.long (-9223372036854775808 : Int64)), .second, .val (.long (9223372036854775807 : Int64)), .second, .unset, .unset, .unset, .unset]) rfl ?_
          show Steps p.tables e below (T2.setTop (mkF m 39 #[.val (.long q1), .second, .val (.long q2), .second, .val (.long q3), .second, .val (.int p4), .val (.long (-9223372036854775808 : Int64)), .second, .val (.long (9223372036854775807 : Int64)), .second, .unset, .unset, .unset, .unset] [])) τ
          exact κ)
        exact ⟨(-9223372036854775808 : Int64), (9223372036854775807 : Int64), pre⟩
  have pre : ∀ τ, Steps p.tables e below (T2.setTop (mkF m 45 #[.val (.long q1), .second, .val (.long q2), .second, .val (.long q3), .second, .val (.int p4), .val (.long aa), .second, .val (.long dd), .second, .val (.int (p4 &&& (3 : Int32))), .unset, .unset, .unset] [])) τ → G τ := fun τ κ => pre τ (by
    refine XS.iload X2.here hx rfl (hb hby at_39) rfl ?_
    show Steps p.tables e below (T2.setTop (mkF m 41 #[.val (.long q1), .second, .val (.long q2), .second, .val (.long q3), .second, .val (.int p4), .val (.long aa), .second, .val (.long dd), .second, .unset, .unset, .unset, .unset] [(.int p4)])) τ
    refine XS.iconst X2.here hx rfl (hb hby at_41) ?_
    show Steps p.tables e below (T2.setTop (mkF m 42 #[.val (.long q1), .second, .val (.long q2), .second, .val (.long q3), .second, .val (.int p4), .val (.long aa), .second, .val (.long dd), .second, .unset, .unset, .unset, .unset] [(.int (3 : Int32)), (.int p4)])) τ
    refine XS.iand X2.here hx rfl (hb hby at_42) rfl ?_
    show Steps p.tables e below (T2.setTop (mkF m 43 #[.val (.long q1), .second, .val (.long q2), .second, .val (.long q3), .second, .val (.int p4), .val (.long aa), .second, .val (.long dd), .second, .unset, .unset, .unset, .unset] [(.int (p4 &&& (3 : Int32)))])) τ
    refine XS.istore X2.here hx rfl (hb hby at_43) rfl (l' := #[.val (.long q1), .second, .val (.long q2), .second, .val (.long q3), .second, .val (.int p4), .val (.long aa), .second, .val (.long dd), .second, .val (.int (p4 &&& (3 : Int32))), .unset, .unset, .unset]) rfl ?_
    show Steps p.tables e below (T2.setTop (mkF m 45 #[.val (.long q1), .second, .val (.long q2), .second, .val (.long q3), .second, .val (.int p4), .val (.long aa), .second, .val (.long dd), .second, .val (.int (p4 &&& (3 : Int32))), .unset, .unset, .unset] [])) τ
    exact κ)
  obtain ⟨sh, pre⟩ : ∃ (sh : Int32), ∀ τ, Steps p.tables e below (T2.setTop (mkF m 102 #[.val (.long q1), .second, .val (.long q2), .second, .val (.long q3), .second, .val (.int p4), .val (.long aa), .second, .val (.long dd), .second, .val (.int sh), .unset, .unset, .unset] [])) τ → G τ := by
    have pre : ∀ τ, Steps p.tables e below (T2.setTop (mkF m 48 #[.val (.long q1), .second, .val (.long q2), .second, .val (.long q3), .second, .val (.int p4), .val (.long aa), .second, .val (.long dd), .second, .val (.int (p4 &&& (3 : Int32))), .unset, .unset, .unset] [(.int (3 : Int32)), (.int (p4 &&& (3 : Int32)))])) τ → G τ := fun τ κ => pre τ (by
      refine XS.iload X2.here hx rfl (hb hby at_45) rfl ?_
      show Steps p.tables e below (T2.setTop (mkF m 47 #[.val (.long q1), .second, .val (.long q2), .second, .val (.long q3), .second, .val (.int p4), .val (.long aa), .second, .val (.long dd), .second, .val (.int (p4 &&& (3 : Int32))), .unset, .unset, .unset] [(.int (p4 &&& (3 : Int32)))])) τ
      refine XS.iconst X2.here hx rfl (hb hby at_47) ?_
      show Steps p.tables e below (T2.setTop (mkF m 48 #[.val (.long q1), .second, .val (.long q2), .second, .val (.long q3), .second, .val (.int p4), .val (.long aa), .second, .val (.long dd), .second, .val (.int (p4 &&& (3 : Int32))), .unset, .unset, .unset] [(.int (3 : Int32)), (.int (p4 &&& (3 : Int32)))])) τ
      exact κ)
    rcases Classical.em ((p4 &&& (3 : Int32)) = (3 : Int32)) with hc48_6 | hc48_6
    ·
      have pre : ∀ τ, Steps p.tables e below (T2.setTop (mkF m 57 #[.val (.long q1), .second, .val (.long q2), .second, .val (.long q3), .second, .val (.int p4), .val (.long aa), .second, .val (.long dd), .second, .val (.int (p4 &&& (3 : Int32))), .unset, .unset, .unset] [(.int (lcmpW dd (-9223372036854775804 : Int64)))])) τ → G τ := fun τ κ => pre τ (by
        refine XS.icmpNo X2.here hx rfl (hb hby at_48) rfl (teq hc48_6).2 ?_
        show Steps p.tables e below (T2.setTop (mkF m 51 #[.val (.long q1), .second, .val (.long q2), .second, .val (.long q3), .second, .val (.int p4), .val (.long aa), .second, .val (.long dd), .second, .val (.int (p4 &&& (3 : Int32))), .unset, .unset, .unset] [])) τ
        refine XS.lload X2.here hx rfl (hb hby at_51) rfl ?_
        show Steps p.tables e below (T2.setTop (mkF m 53 #[.val (.long q1), .second, .val (.long q2), .second, .val (.long q3), .second, .val (.int p4), .val (.long aa), .second, .val (.long dd), .second, .val (.int (p4 &&& (3 : Int32))), .unset, .unset, .unset] [(.long dd)])) τ
        refine X2.ldc2Long hx hown (mvT hZ (hw _ (List.mem_of_getElem? (i := 38) rfl))) (g := (mkF m 53 #[.val (.long q1), .second, .val (.long q2), .second, .val (.long q3), .second, .val (.int p4), .val (.long aa), .second, .val (.long dd), .second, .val (.int (p4 &&& (3 : Int32))), .unset, .unset, .unset] [(.long dd)])) rfl (hb hby at_53) _ ?_
        show Steps p.tables e below (T2.setTop (mkF m 56 #[.val (.long q1), .second, .val (.long q2), .second, .val (.long q3), .second, .val (.int p4), .val (.long aa), .second, .val (.long dd), .second, .val (.int (p4 &&& (3 : Int32))), .unset, .unset, .unset] [(.long (-9223372036854775804 : Int64)), (.long dd)])) τ
        refine XS.lcmp X2.here hx rfl (hb hby at_56) rfl ?_
        show Steps p.tables e below (T2.setTop (mkF m 57 #[.val (.long q1), .second, .val (.long q2), .second, .val (.long q3), .second, .val (.int p4), .val (.long aa), .second, .val (.long dd), .second, .val (.int (p4 &&& (3 : Int32))), .unset, .unset, .unset] [(.int (lcmpW dd (-9223372036854775804 : Int64)))])) τ
        exact κ)
      rcases Classical.em (dd < (-9223372036854775804 : Int64)) with hc57_7 | hc57_7
      ·
        have pre : ∀ τ, Steps p.tables e below (T2.setTop (mkF m 78 #[.val (.long q1), .second, .val (.long q2), .second, .val (.long q3), .second, .val (.int p4), .val (.long aa), .second, .val (.long dd), .second, .val (.int (1 : Int32)), .unset, .unset, .unset] [(.int (2 : Int32)), (.int (1 : Int32))])) τ → G τ := fun τ κ => pre τ (by
          refine XS.ifYes X2.here hx rfl (pc0 := 57) (pc' := 72) rfl (hb hby at_57) rfl ((if0 _ _).trans (tlt ((lw_lt _ _).mpr hc57_7)).1) (by decide) (by decide) ?_
          show Steps p.tables e below (T2.setTop (mkF m 72 #[.val (.long q1), .second, .val (.long q2), .second, .val (.long q3), .second, .val (.int p4), .val (.long aa), .second, .val (.long dd), .second, .val (.int (p4 &&& (3 : Int32))), .unset, .unset, .unset] [])) τ
          refine XS.iconst X2.here hx rfl (hb hby at_72) ?_
          show Steps p.tables e below (T2.setTop (mkF m 73 #[.val (.long q1), .second, .val (.long q2), .second, .val (.long q3), .second, .val (.int p4), .val (.long aa), .second, .val (.long dd), .second, .val (.int (p4 &&& (3 : Int32))), .unset, .unset, .unset] [(.int (1 : Int32))])) τ
          refine XS.istore X2.here hx rfl (hb hby at_73) rfl (l' := #[.val (.long q1), .second, .val (.long q2), .second, .val (.long q3), .second, .val (.int p4), .val (.long aa), .second, .val (.long dd), .second, .val (.int (1 : Int32)), .unset, .unset, .unset]) rfl ?_
          show Steps p.tables e below (T2.setTop (mkF m 75 #[.val (.long q1), .second, .val (.long q2), .second, .val (.long q3), .second, .val (.int p4), .val (.long aa), .second, .val (.long dd), .second, .val (.int (1 : Int32)), .unset, .unset, .unset] [])) τ
          refine XS.iload X2.here hx rfl (hb hby at_75) rfl ?_
          show Steps p.tables e below (T2.setTop (mkF m 77 #[.val (.long q1), .second, .val (.long q2), .second, .val (.long q3), .second, .val (.int p4), .val (.long aa), .second, .val (.long dd), .second, .val (.int (1 : Int32)), .unset, .unset, .unset] [(.int (1 : Int32))])) τ
          refine XS.iconst X2.here hx rfl (hb hby at_77) ?_
          show Steps p.tables e below (T2.setTop (mkF m 78 #[.val (.long q1), .second, .val (.long q2), .second, .val (.long q3), .second, .val (.int p4), .val (.long aa), .second, .val (.long dd), .second, .val (.int (1 : Int32)), .unset, .unset, .unset] [(.int (2 : Int32)), (.int (1 : Int32))])) τ
          exact κ)
        have hc8 : ¬ ((1 : Int32) = (2 : Int32)) := (by decide)
        have pre : ∀ τ, Steps p.tables e below (T2.setTop (mkF m 102 #[.val (.long q1), .second, .val (.long q2), .second, .val (.long q3), .second, .val (.int p4), .val (.long aa), .second, .val (.long dd), .second, .val (.int (1 : Int32)), .unset, .unset, .unset] [])) τ → G τ := fun τ κ => pre τ (by
          refine XS.icmpYes X2.here hx rfl (pc0 := 78) (pc' := 102) rfl (hb hby at_78) rfl (feq hc8).2 (by decide) (by decide) ?_
          show Steps p.tables e below (T2.setTop (mkF m 102 #[.val (.long q1), .second, .val (.long q2), .second, .val (.long q3), .second, .val (.int p4), .val (.long aa), .second, .val (.long dd), .second, .val (.int (1 : Int32)), .unset, .unset, .unset] [])) τ
          exact κ)
        exact ⟨(1 : Int32), pre⟩
      ·
        have pre : ∀ τ, Steps p.tables e below (T2.setTop (mkF m 69 #[.val (.long q1), .second, .val (.long q2), .second, .val (.long q3), .second, .val (.int p4), .val (.long aa), .second, .val (.long dd), .second, .val (.int (p4 &&& (3 : Int32))), .unset, .unset, .unset] [(.int (lcmpW aa (dd - (4 : Int64))))])) τ → G τ := fun τ κ => pre τ (by
          refine XS.ifNo X2.here hx rfl (hb hby at_57) rfl ((if0 _ _).trans (flt (fun q => hc57_7 ((lw_lt _ _).mp q))).1) ?_
          show Steps p.tables e below (T2.setTop (mkF m 60 #[.val (.long q1), .second, .val (.long q2), .second, .val (.long q3), .second, .val (.int p4), .val (.long aa), .second, .val (.long dd), .second, .val (.int (p4 &&& (3 : Int32))), .unset, .unset, .unset] [])) τ
          refine XS.lload X2.here hx rfl (hb hby at_60) rfl ?_
          show Steps p.tables e below (T2.setTop (mkF m 62 #[.val (.long q1), .second, .val (.long q2), .second, .val (.long q3), .second, .val (.int p4), .val (.long aa), .second, .val (.long dd), .second, .val (.int (p4 &&& (3 : Int32))), .unset, .unset, .unset] [(.long aa)])) τ
          refine XS.lload X2.here hx rfl (hb hby at_62) rfl ?_
          show Steps p.tables e below (T2.setTop (mkF m 64 #[.val (.long q1), .second, .val (.long q2), .second, .val (.long q3), .second, .val (.int p4), .val (.long aa), .second, .val (.long dd), .second, .val (.int (p4 &&& (3 : Int32))), .unset, .unset, .unset] [(.long dd), (.long aa)])) τ
          refine X2.ldc2Long hx hown (mvT hZ (hw _ (List.mem_of_getElem? (i := 39) rfl))) (g := (mkF m 64 #[.val (.long q1), .second, .val (.long q2), .second, .val (.long q3), .second, .val (.int p4), .val (.long aa), .second, .val (.long dd), .second, .val (.int (p4 &&& (3 : Int32))), .unset, .unset, .unset] [(.long dd), (.long aa)])) rfl (hb hby at_64) _ ?_
          show Steps p.tables e below (T2.setTop (mkF m 67 #[.val (.long q1), .second, .val (.long q2), .second, .val (.long q3), .second, .val (.int p4), .val (.long aa), .second, .val (.long dd), .second, .val (.int (p4 &&& (3 : Int32))), .unset, .unset, .unset] [(.long (4 : Int64)), (.long dd), (.long aa)])) τ
          refine XS.lsub X2.here hx rfl (hb hby at_67) rfl ?_
          show Steps p.tables e below (T2.setTop (mkF m 68 #[.val (.long q1), .second, .val (.long q2), .second, .val (.long q3), .second, .val (.int p4), .val (.long aa), .second, .val (.long dd), .second, .val (.int (p4 &&& (3 : Int32))), .unset, .unset, .unset] [(.long (dd - (4 : Int64))), (.long aa)])) τ
          refine XS.lcmp X2.here hx rfl (hb hby at_68) rfl ?_
          show Steps p.tables e below (T2.setTop (mkF m 69 #[.val (.long q1), .second, .val (.long q2), .second, .val (.long q3), .second, .val (.int p4), .val (.long aa), .second, .val (.long dd), .second, .val (.int (p4 &&& (3 : Int32))), .unset, .unset, .unset] [(.int (lcmpW aa (dd - (4 : Int64))))])) τ
          exact κ)
        rcases Classical.em ((dd - (4 : Int64)) < aa) with hc69_9 | hc69_9
        ·
          have pre : ∀ τ, Steps p.tables e below (T2.setTop (mkF m 78 #[.val (.long q1), .second, .val (.long q2), .second, .val (.long q3), .second, .val (.int p4), .val (.long aa), .second, .val (.long dd), .second, .val (.int (1 : Int32)), .unset, .unset, .unset] [(.int (2 : Int32)), (.int (1 : Int32))])) τ → G τ := fun τ κ => pre τ (by
            refine XS.ifNo X2.here hx rfl (hb hby at_69) rfl ((if0 _ _).trans (tlt ((lw_gt _ _).mpr hc69_9)).2.2.2) ?_
            show Steps p.tables e below (T2.setTop (mkF m 72 #[.val (.long q1), .second, .val (.long q2), .second, .val (.long q3), .second, .val (.int p4), .val (.long aa), .second, .val (.long dd), .second, .val (.int (p4 &&& (3 : Int32))), .unset, .unset, .unset] [])) τ
            refine XS.iconst X2.here hx rfl (hb hby at_72) ?_
            show Steps p.tables e below (T2.setTop (mkF m 73 #[.val (.long q1), .second, .val (.long q2), .second, .val (.long q3), .second, .val (.int p4), .val (.long aa), .second, .val (.long dd), .second, .val (.int (p4 &&& (3 : Int32))), .unset, .unset, .unset] [(.int (1 : Int32))])) τ
            refine XS.istore X2.here hx rfl (hb hby at_73) rfl (l' := #[.val (.long q1), .second, .val (.long q2), .second, .val (.long q3), .second, .val (.int p4), .val (.long aa), .second, .val (.long dd), .second, .val (.int (1 : Int32)), .unset, .unset, .unset]) rfl ?_
            show Steps p.tables e below (T2.setTop (mkF m 75 #[.val (.long q1), .second, .val (.long q2), .second, .val (.long q3), .second, .val (.int p4), .val (.long aa), .second, .val (.long dd), .second, .val (.int (1 : Int32)), .unset, .unset, .unset] [])) τ
            refine XS.iload X2.here hx rfl (hb hby at_75) rfl ?_
            show Steps p.tables e below (T2.setTop (mkF m 77 #[.val (.long q1), .second, .val (.long q2), .second, .val (.long q3), .second, .val (.int p4), .val (.long aa), .second, .val (.long dd), .second, .val (.int (1 : Int32)), .unset, .unset, .unset] [(.int (1 : Int32))])) τ
            refine XS.iconst X2.here hx rfl (hb hby at_77) ?_
            show Steps p.tables e below (T2.setTop (mkF m 78 #[.val (.long q1), .second, .val (.long q2), .second, .val (.long q3), .second, .val (.int p4), .val (.long aa), .second, .val (.long dd), .second, .val (.int (1 : Int32)), .unset, .unset, .unset] [(.int (2 : Int32)), (.int (1 : Int32))])) τ
            exact κ)
          have hc10 : ¬ ((1 : Int32) = (2 : Int32)) := (by decide)
          have pre : ∀ τ, Steps p.tables e below (T2.setTop (mkF m 102 #[.val (.long q1), .second, .val (.long q2), .second, .val (.long q3), .second, .val (.int p4), .val (.long aa), .second, .val (.long dd), .second, .val (.int (1 : Int32)), .unset, .unset, .unset] [])) τ → G τ := fun τ κ => pre τ (by
            refine XS.icmpYes X2.here hx rfl (pc0 := 78) (pc' := 102) rfl (hb hby at_78) rfl (feq hc10).2 (by decide) (by decide) ?_
            show Steps p.tables e below (T2.setTop (mkF m 102 #[.val (.long q1), .second, .val (.long q2), .second, .val (.long q3), .second, .val (.int p4), .val (.long aa), .second, .val (.long dd), .second, .val (.int (1 : Int32)), .unset, .unset, .unset] [])) τ
            exact κ)
          exact ⟨(1 : Int32), pre⟩
        ·
          have pre : ∀ τ, Steps p.tables e below (T2.setTop (mkF m 78 #[.val (.long q1), .second, .val (.long q2), .second, .val (.long q3), .second, .val (.int p4), .val (.long aa), .second, .val (.long dd), .second, .val (.int (p4 &&& (3 : Int32))), .unset, .unset, .unset] [(.int (2 : Int32)), (.int (p4 &&& (3 : Int32)))])) τ → G τ := fun τ κ => pre τ (by
            refine XS.ifYes X2.here hx rfl (pc0 := 69) (pc' := 75) rfl (hb hby at_69) rfl ((if0 _ _).trans (flt (fun q => hc69_9 ((lw_gt _ _).mp q))).2.2.2) (by decide) (by decide) ?_
            show Steps p.tables e below (T2.setTop (mkF m 75 #[.val (.long q1), .second, .val (.long q2), .second, .val (.long q3), .second, .val (.int p4), .val (.long aa), .second, .val (.long dd), .second, .val (.int (p4 &&& (3 : Int32))), .unset, .unset, .unset] [])) τ
            refine XS.iload X2.here hx rfl (hb hby at_75) rfl ?_
            show Steps p.tables e below (T2.setTop (mkF m 77 #[.val (.long q1), .second, .val (.long q2), .second, .val (.long q3), .second, .val (.int p4), .val (.long aa), .second, .val (.long dd), .second, .val (.int (p4 &&& (3 : Int32))), .unset, .unset, .unset] [(.int (p4 &&& (3 : Int32)))])) τ
            refine XS.iconst X2.here hx rfl (hb hby at_77) ?_
            show Steps p.tables e below (T2.setTop (mkF m 78 #[.val (.long q1), .second, .val (.long q2), .second, .val (.long q3), .second, .val (.int p4), .val (.long aa), .second, .val (.long dd), .second, .val (.int (p4 &&& (3 : Int32))), .unset, .unset, .unset] [(.int (2 : Int32)), (.int (p4 &&& (3 : Int32)))])) τ
            exact κ)
          rcases Classical.em ((p4 &&& (3 : Int32)) = (2 : Int32)) with hc78_11 | hc78_11
          ·
            have pre : ∀ τ, Steps p.tables e below (T2.setTop (mkF m 86 #[.val (.long q1), .second, .val (.long q2), .second, .val (.long q3), .second, .val (.int p4), .val (.long aa), .second, .val (.long dd), .second, .val (.int (p4 &&& (3 : Int32))), .unset, .unset, .unset] [(.int (lcmpW aa dd))])) τ → G τ := fun τ κ => pre τ (by
              refine XS.icmpNo X2.here hx rfl (hb hby at_78) rfl (teq hc78_11).2 ?_
              show Steps p.tables e below (T2.setTop (mkF m 81 #[.val (.long q1), .second, .val (.long q2), .second, .val (.long q3), .second, .val (.int p4), .val (.long aa), .second, .val (.long dd), .second, .val (.int (p4 &&& (3 : Int32))), .unset, .unset, .unset] [])) τ
              refine XS.lload X2.here hx rfl (hb hby at_81) rfl ?_
              show Steps p.tables e below (T2.setTop (mkF m 83 #[.val (.long q1), .second, .val (.long q2), .second, .val (.long q3), .second, .val (.int p4), .val (.long aa), .second, .val (.long dd), .second, .val (.int (p4 &&& (3 : Int32))), .unset, .unset, .unset] [(.long aa)])) τ
              refine XS.lload X2.here hx rfl (hb hby at_83) rfl ?_
              show Steps p.tables e below (T2.setTop (mkF m 85 #[.val (.long q1), .second, .val (.long q2), .second, .val (.long q3), .second, .val (.int p4), .val (.long aa), .second, .val (.long dd), .second, .val (.int (p4 &&& (3 : Int32))), .unset, .unset, .unset] [(.long dd), (.long aa)])) τ
              refine XS.lcmp X2.here hx rfl (hb hby at_85) rfl ?_
              show Steps p.tables e below (T2.setTop (mkF m 86 #[.val (.long q1), .second, .val (.long q2), .second, .val (.long q3), .second, .val (.int p4), .val (.long aa), .second, .val (.long dd), .second, .val (.int (p4 &&& (3 : Int32))), .unset, .unset, .unset] [(.int (lcmpW aa dd))])) τ
              exact κ)
            rcases Classical.em (aa < dd) with hc86_12 | hc86_12
            ·
              have pre : ∀ τ, Steps p.tables e below (T2.setTop (mkF m 96 #[.val (.long q1), .second, .val (.long q2), .second, .val (.long q3), .second, .val (.int p4), .val (.long aa), .second, .val (.long dd), .second, .val (.int (p4 &&& (3 : Int32))), .unset, .unset, .unset] [(.int (lcmpW (aa + (1 : Int64)) dd))])) τ → G τ := fun τ κ => pre τ (by
                refine XS.ifNo X2.here hx rfl (hb hby at_86) rfl ((if0 _ _).trans (tlt ((lw_lt _ _).mpr hc86_12)).2.1) ?_
                show Steps p.tables e below (T2.setTop (mkF m 89 #[.val (.long q1), .second, .val (.long q2), .second, .val (.long q3), .second, .val (.int p4), .val (.long aa), .second, .val (.long dd), .second, .val (.int (p4 &&& (3 : Int32))), .unset, .unset, .unset] [])) τ
                refine XS.lload X2.here hx rfl (hb hby at_89) rfl ?_
                show Steps p.tables e below (T2.setTop (mkF m 91 #[.val (.long q1), .second, .val (.long q2), .second, .val (.long q3), .second, .val (.int p4), .val (.long aa), .second, .val (.long dd), .second, .val (.int (p4 &&& (3 : Int32))), .unset, .unset, .unset] [(.long aa)])) τ
                refine XS.lconst X2.here hx rfl (hb hby at_91) ?_
                show Steps p.tables e below (T2.setTop (mkF m 92 #[.val (.long q1), .second, .val (.long q2), .second, .val (.long q3), .second, .val (.int p4), .val (.long aa), .second, .val (.long dd), .second, .val (.int (p4 &&& (3 : Int32))), .unset, .unset, .unset] [(.long (1 : Int64)), (.long aa)])) τ
                refine XS.ladd X2.here hx rfl (hb hby at_92) rfl ?_
                show Steps p.tables e below (T2.setTop (mkF m 93 #[.val (.long q1), .second, .val (.long q2), .second, .val (.long q3), .second, .val (.int p4), .val (.long aa), .second, .val (.long dd), .second, .val (.int (p4 &&& (3 : Int32))), .unset, .unset, .unset] [(.long (aa + (1 : Int64)))])) τ
                refine XS.lload X2.here hx rfl (hb hby at_93) rfl ?_
                show Steps p.tables e below (T2.setTop (mkF m 95 #[.val (.long q1), .second, .val (.long q2), .second, .val (.long q3), .second, .val (.int p4), .val (.long aa), .second, .val (.long dd), .second, .val (.int (p4 &&& (3 : Int32))), .unset, .unset, .unset] [(.long dd), (.long (aa + (1 : Int64)))])) τ
                refine XS.lcmp X2.here hx rfl (hb hby at_95) rfl ?_
                show Steps p.tables e below (T2.setTop (mkF m 96 #[.val (.long q1), .second, .val (.long q2), .second, .val (.long q3), .second, .val (.int p4), .val (.long aa), .second, .val (.long dd), .second, .val (.int (p4 &&& (3 : Int32))), .unset, .unset, .unset] [(.int (lcmpW (aa + (1 : Int64)) dd))])) τ
                exact κ)
              rcases Classical.em ((aa + (1 : Int64)) < dd) with hc96_13 | hc96_13
              ·
                have pre : ∀ τ, Steps p.tables e below (T2.setTop (mkF m 102 #[.val (.long q1), .second, .val (.long q2), .second, .val (.long q3), .second, .val (.int p4), .val (.long aa), .second, .val (.long dd), .second, .val (.int (p4 &&& (3 : Int32))), .unset, .unset, .unset] [])) τ → G τ := fun τ κ => pre τ (by
                  refine XS.ifYes X2.here hx rfl (pc0 := 96) (pc' := 102) rfl (hb hby at_96) rfl ((if0 _ _).trans (tlt ((lw_lt _ _).mpr hc96_13)).1) (by decide) (by decide) ?_
                  show Steps p.tables e below (T2.setTop (mkF m 102 #[.val (.long q1), .second, .val (.long q2), .second, .val (.long q3), .second, .val (.int p4), .val (.long aa), .second, .val (.long dd), .second, .val (.int (p4 &&& (3 : Int32))), .unset, .unset, .unset] [])) τ
                  exact κ)
                exact ⟨(p4 &&& (3 : Int32)), pre⟩
              ·
                have pre : ∀ τ, Steps p.tables e below (T2.setTop (mkF m 102 #[.val (.long q1), .second, .val (.long q2), .second, .val (.long q3), .second, .val (.int p4), .val (.long aa), .second, .val (.long dd), .second, .val (.int (1 : Int32)), .unset, .unset, .unset] [])) τ → G τ := fun τ κ => pre τ (by
                  refine XS.ifNo X2.here hx rfl (hb hby at_96) rfl ((if0 _ _).trans (flt (fun q => hc96_13 ((lw_lt _ _).mp q))).1) ?_
                  show Steps p.tables e below (T2.setTop (mkF m 99 #[.val (.long q1), .second, .val (.long q2), .second, .val (.long q3), .second, .val (.int p4), .val (.long aa), .second, .val (.long dd), .second, .val (.int (p4 &&& (3 : Int32))), .unset, .unset, .unset] [])) τ
                  refine XS.iconst X2.here hx rfl (hb hby at_99) ?_
                  show Steps p.tables e below (T2.setTop (mkF m 100 #[.val (.long q1), .second, .val (.long q2), .second, .val (.long q3), .second, .val (.int p4), .val (.long aa), .second, .val (.long dd), .second, .val (.int (p4 &&& (3 : Int32))), .unset, .unset, .unset] [(.int (1 : Int32))])) τ
                  refine XS.istore X2.here hx rfl (hb hby at_100) rfl (l' := #[.val (.long q1), .second, .val (.long q2), .second, .val (.long q3), .second, .val (.int p4), .val (.long aa), .second, .val (.long dd), .second, .val (.int (1 : Int32)), .unset, .unset, .unset]) rfl ?_
                  show Steps p.tables e below (T2.setTop (mkF m 102 #[.val (.long q1), .second, .val (.long q2), .second, .val (.long q3), .second, .val (.int p4), .val (.long aa), .second, .val (.long dd), .second, .val (.int (1 : Int32)), .unset, .unset, .unset] [])) τ
                  exact κ)
                exact ⟨(1 : Int32), pre⟩
            ·
              have pre : ∀ τ, Steps p.tables e below (T2.setTop (mkF m 102 #[.val (.long q1), .second, .val (.long q2), .second, .val (.long q3), .second, .val (.int p4), .val (.long aa), .second, .val (.long dd), .second, .val (.int (1 : Int32)), .unset, .unset, .unset] [])) τ → G τ := fun τ κ => pre τ (by
                refine XS.ifYes X2.here hx rfl (pc0 := 86) (pc' := 99) rfl (hb hby at_86) rfl ((if0 _ _).trans (flt (fun q => hc86_12 ((lw_lt _ _).mp q))).2.1) (by decide) (by decide) ?_
                show Steps p.tables e below (T2.setTop (mkF m 99 #[.val (.long q1), .second, .val (.long q2), .second, .val (.long q3), .second, .val (.int p4), .val (.long aa), .second, .val (.long dd), .second, .val (.int (p4 &&& (3 : Int32))), .unset, .unset, .unset] [])) τ
                refine XS.iconst X2.here hx rfl (hb hby at_99) ?_
                show Steps p.tables e below (T2.setTop (mkF m 100 #[.val (.long q1), .second, .val (.long q2), .second, .val (.long q3), .second, .val (.int p4), .val (.long aa), .second, .val (.long dd), .second, .val (.int (p4 &&& (3 : Int32))), .unset, .unset, .unset] [(.int (1 : Int32))])) τ
                refine XS.istore X2.here hx rfl (hb hby at_100) rfl (l' := #[.val (.long q1), .second, .val (.long q2), .second, .val (.long q3), .second, .val (.int p4), .val (.long aa), .second, .val (.long dd), .second, .val (.int (1 : Int32)), .unset, .unset, .unset]) rfl ?_
                show Steps p.tables e below (T2.setTop (mkF m 102 #[.val (.long q1), .second, .val (.long q2), .second, .val (.long q3), .second, .val (.int p4), .val (.long aa), .second, .val (.long dd), .second, .val (.int (1 : Int32)), .unset, .unset, .unset] [])) τ
                exact κ)
              exact ⟨(1 : Int32), pre⟩
          ·
            have pre : ∀ τ, Steps p.tables e below (T2.setTop (mkF m 102 #[.val (.long q1), .second, .val (.long q2), .second, .val (.long q3), .second, .val (.int p4), .val (.long aa), .second, .val (.long dd), .second, .val (.int (p4 &&& (3 : Int32))), .unset, .unset, .unset] [])) τ → G τ := fun τ κ => pre τ (by
              refine XS.icmpYes X2.here hx rfl (pc0 := 78) (pc' := 102) rfl (hb hby at_78) rfl (feq hc78_11).2 (by decide) (by decide) ?_
              show Steps p.tables e below (T2.setTop (mkF m 102 #[.val (.long q1), .second, .val (.long q2), .second, .val (.long q3), .second, .val (.int p4), .val (.long aa), .second, .val (.long dd), .second, .val (.int (p4 &&& (3 : Int32))), .unset, .unset, .unset] [])) τ
              exact κ)
            exact ⟨(p4 &&& (3 : Int32)), pre⟩
    ·
      have pre : ∀ τ, Steps p.tables e below (T2.setTop (mkF m 78 #[.val (.long q1), .second, .val (.long q2), .second, .val (.long q3), .second, .val (.int p4), .val (.long aa), .second, .val (.long dd), .second, .val (.int (p4 &&& (3 : Int32))), .unset, .unset, .unset] [(.int (2 : Int32)), (.int (p4 &&& (3 : Int32)))])) τ → G τ := fun τ κ => pre τ (by
        refine XS.icmpYes X2.here hx rfl (pc0 := 48) (pc' := 75) rfl (hb hby at_48) rfl (feq hc48_6).2 (by decide) (by decide) ?_
        show Steps p.tables e below (T2.setTop (mkF m 75 #[.val (.long q1), .second, .val (.long q2), .second, .val (.long q3), .second, .val (.int p4), .val (.long aa), .second, .val (.long dd), .second, .val (.int (p4 &&& (3 : Int32))), .unset, .unset, .unset] [])) τ
        refine XS.iload X2.here hx rfl (hb hby at_75) rfl ?_
        show Steps p.tables e below (T2.setTop (mkF m 77 #[.val (.long q1), .second, .val (.long q2), .second, .val (.long q3), .second, .val (.int p4), .val (.long aa), .second, .val (.long dd), .second, .val (.int (p4 &&& (3 : Int32))), .unset, .unset, .unset] [(.int (p4 &&& (3 : Int32)))])) τ
        refine XS.iconst X2.here hx rfl (hb hby at_77) ?_
        show Steps p.tables e below (T2.setTop (mkF m 78 #[.val (.long q1), .second, .val (.long q2), .second, .val (.long q3), .second, .val (.int p4), .val (.long aa), .second, .val (.long dd), .second, .val (.int (p4 &&& (3 : Int32))), .unset, .unset, .unset] [(.int (2 : Int32)), (.int (p4 &&& (3 : Int32)))])) τ
        exact κ)
      rcases Classical.em ((p4 &&& (3 : Int32)) = (2 : Int32)) with hc78_14 | hc78_14
      ·
        have pre : ∀ τ, Steps p.tables e below (T2.setTop (mkF m 86 #[.val (.long q1), .second, .val (.long q2), .second, .val (.long q3), .second, .val (.int p4), .val (.long aa), .second, .val (.long dd), .second, .val (.int (p4 &&& (3 : Int32))), .unset, .unset, .unset] [(.int (lcmpW aa dd))])) τ → G τ := fun τ κ => pre τ (by
          refine XS.icmpNo X2.here hx rfl (hb hby at_78) rfl (teq hc78_14).2 ?_
          show Steps p.tables e below (T2.setTop (mkF m 81 #[.val (.long q1), .second, .val (.long q2), .second, .val (.long q3), .second, .val (.int p4), .val (.long aa), .second, .val (.long dd), .second, .val (.int (p4 &&& (3 : Int32))), .unset, .unset, .unset] [])) τ
          refine XS.lload X2.here hx rfl (hb hby at_81) rfl ?_
          show Steps p.tables e below (T2.setTop (mkF m 83 #[.val (.long q1), .second, .val (.long q2), .second, .val (.long q3), .second, .val (.int p4), .val (.long aa), .second, .val (.long dd), .second, .val (.int (p4 &&& (3 : Int32))), .unset, .unset, .unset] [(.long aa)])) τ
          refine XS.lload X2.here hx rfl (hb hby at_83) rfl ?_
          show Steps p.tables e below (T2.setTop (mkF m 85 #[.val (.long q1), .second, .val (.long q2), .second, .val (.long q3), .second, .val (.int p4), .val (.long aa), .second, .val (.long dd), .second, .val (.int (p4 &&& (3 : Int32))), .unset, .unset, .unset] [(.long dd), (.long aa)])) τ
          refine XS.lcmp X2.here hx rfl (hb hby at_85) rfl ?_
          show Steps p.tables e below (T2.setTop (mkF m 86 #[.val (.long q1), .second, .val (.long q2), .second, .val (.long q3), .second, .val (.int p4), .val (.long aa), .second, .val (.long dd), .second, .val (.int (p4 &&& (3 : Int32))), .unset, .unset, .unset] [(.int (lcmpW aa dd))])) τ
          exact κ)
        rcases Classical.em (aa < dd) with hc86_15 | hc86_15
        ·
          have pre : ∀ τ, Steps p.tables e below (T2.setTop (mkF m 96 #[.val (.long q1), .second, .val (.long q2), .second, .val (.long q3), .second, .val (.int p4), .val (.long aa), .second, .val (.long dd), .second, .val (.int (p4 &&& (3 : Int32))), .unset, .unset, .unset] [(.int (lcmpW (aa + (1 : Int64)) dd))])) τ → G τ := fun τ κ => pre τ (by
            refine XS.ifNo X2.here hx rfl (hb hby at_86) rfl ((if0 _ _).trans (tlt ((lw_lt _ _).mpr hc86_15)).2.1) ?_
            show Steps p.tables e below (T2.setTop (mkF m 89 #[.val (.long q1), .second, .val (.long q2), .second, .val (.long q3), .second, .val (.int p4), .val (.long aa), .second, .val (.long dd), .second, .val (.int (p4 &&& (3 : Int32))), .unset, .unset, .unset] [])) τ
            refine XS.lload X2.here hx rfl (hb hby at_89) rfl ?_
            show Steps p.tables e below (T2.setTop (mkF m 91 #[.val (.long q1), .second, .val (.long q2), .second, .val (.long q3), .second, .val (.int p4), .val (.long aa), .second, .val (.long dd), .second, .val (.int (p4 &&& (3 : Int32))), .unset, .unset, .unset] [(.long aa)])) τ
            refine XS.lconst X2.here hx rfl (hb hby at_91) ?_
            show Steps p.tables e below (T2.setTop (mkF m 92 #[.val (.long q1), .second, .val (.long q2), .second, .val (.long q3), .second, .val (.int p4), .val (.long aa), .second, .val (.long dd), .second, .val (.int (p4 &&& (3 : Int32))), .unset, .unset, .unset] [(.long (1 : Int64)), (.long aa)])) τ
            refine XS.ladd X2.here hx rfl (hb hby at_92) rfl ?_
            show Steps p.tables e below (T2.setTop (mkF m 93 #[.val (.long q1), .second, .val (.long q2), .second, .val (.long q3), .second, .val (.int p4), .val (.long aa), .second, .val (.long dd), .second, .val (.int (p4 &&& (3 : Int32))), .unset, .unset, .unset] [(.long (aa + (1 : Int64)))])) τ
            refine XS.lload X2.here hx rfl (hb hby at_93) rfl ?_
            show Steps p.tables e below (T2.setTop (mkF m 95 #[.val (.long q1), .second, .val (.long q2), .second, .val (.long q3), .second, .val (.int p4), .val (.long aa), .second, .val (.long dd), .second, .val (.int (p4 &&& (3 : Int32))), .unset, .unset, .unset] [(.long dd), (.long (aa + (1 : Int64)))])) τ
            refine XS.lcmp X2.here hx rfl (hb hby at_95) rfl ?_
            show Steps p.tables e below (T2.setTop (mkF m 96 #[.val (.long q1), .second, .val (.long q2), .second, .val (.long q3), .second, .val (.int p4), .val (.long aa), .second, .val (.long dd), .second, .val (.int (p4 &&& (3 : Int32))), .unset, .unset, .unset] [(.int (lcmpW (aa + (1 : Int64)) dd))])) τ
            exact κ)
          rcases Classical.em ((aa + (1 : Int64)) < dd) with hc96_16 | hc96_16
          ·
            have pre : ∀ τ, Steps p.tables e below (T2.setTop (mkF m 102 #[.val (.long q1), .second, .val (.long q2), .second, .val (.long q3), .second, .val (.int p4), .val (.long aa), .second, .val (.long dd), .second, .val (.int (p4 &&& (3 : Int32))), .unset, .unset, .unset] [])) τ → G τ := fun τ κ => pre τ (by
              refine XS.ifYes X2.here hx rfl (pc0 := 96) (pc' := 102) rfl (hb hby at_96) rfl ((if0 _ _).trans (tlt ((lw_lt _ _).mpr hc96_16)).1) (by decide) (by decide) ?_
              show Steps p.tables e below (T2.setTop (mkF m 102 #[.val (.long q1), .second, .val (.long q2), .second, .val (.long q3), .second, .val (.int p4), .val (.long aa), .second, .val (.long dd), .second, .val (.int (p4 &&& (3 : Int32))), .unset, .unset, .unset] [])) τ
              exact κ)
            exact ⟨(p4 &&& (3 : Int32)), pre⟩
          ·
            have pre : ∀ τ, Steps p.tables e below (T2.setTop (mkF m 102 #[.val (.long q1), .second, .val (.long q2), .second, .val (.long q3), .second, .val (.int p4), .val (.long aa), .second, .val (.long dd), .second, .val (.int (1 : Int32)), .unset, .unset, .unset] [])) τ → G τ := fun τ κ => pre τ (by
              refine XS.ifNo X2.here hx rfl (hb hby at_96) rfl ((if0 _ _).trans (flt (fun q => hc96_16 ((lw_lt _ _).mp q))).1) ?_
              show Steps p.tables e below (T2.setTop (mkF m 99 #[.val (.long q1), .second, .val (.long q2), .second, .val (.long q3), .second, .val (.int p4), .val (.long aa), .second, .val (.long dd), .second, .val (.int (p4 &&& (3 : Int32))), .unset, .unset, .unset] [])) τ
              refine XS.iconst X2.here hx rfl (hb hby at_99) ?_
              show Steps p.tables e below (T2.setTop (mkF m 100 #[.val (.long q1), .second, .val (.long q2), .second, .val (.long q3), .second, .val (.int p4), .val (.long aa), .second, .val (.long dd), .second, .val (.int (p4 &&& (3 : Int32))), .unset, .unset, .unset] [(.int (1 : Int32))])) τ
              refine XS.istore X2.here hx rfl (hb hby at_100) rfl (l' := #[.val (.long q1), .second, .val (.long q2), .second, .val (.long q3), .second, .val (.int p4), .val (.long aa), .second, .val (.long dd), .second, .val (.int (1 : Int32)), .unset, .unset, .unset]) rfl ?_
              show Steps p.tables e below (T2.setTop (mkF m 102 #[.val (.long q1), .second, .val (.long q2), .second, .val (.long q3), .second, .val (.int p4), .val (.long aa), .second, .val (.long dd), .second, .val (.int (1 : Int32)), .unset, .unset, .unset] [])) τ
              exact κ)
            exact ⟨(1 : Int32), pre⟩
        ·
          have pre : ∀ τ, Steps p.tables e below (T2.setTop (mkF m 102 #[.val (.long q1), .second, .val (.long q2), .second, .val (.long q3), .second, .val (.int p4), .val (.long aa), .second, .val (.long dd), .second, .val (.int (1 : Int32)), .unset, .unset, .unset] [])) τ → G τ := fun τ κ => pre τ (by
            refine XS.ifYes X2.here hx rfl (pc0 := 86) (pc' := 99) rfl (hb hby at_86) rfl ((if0 _ _).trans (flt (fun q => hc86_15 ((lw_lt _ _).mp q))).2.1) (by decide) (by decide) ?_
            show Steps p.tables e below (T2.setTop (mkF m 99 #[.val (.long q1), .second, .val (.long q2), .second, .val (.long q3), .second, .val (.int p4), .val (.long aa), .second, .val (.long dd), .second, .val (.int (p4 &&& (3 : Int32))), .unset, .unset, .unset] [])) τ
            refine XS.iconst X2.here hx rfl (hb hby at_99) ?_
            show Steps p.tables e below (T2.setTop (mkF m 100 #[.val (.long q1), .second, .val (.long q2), .second, .val (.long q3), .second, .val (.int p4), .val (.long aa), .second, .val (.long dd), .second, .val (.int (p4 &&& (3 : Int32))), .unset, .unset, .unset] [(.int (1 : Int32))])) τ
            refine XS.istore X2.here hx rfl (hb hby at_100) rfl (l' := #[.val (.long q1), .second, .val (.long q2), .second, .val (.long q3), .second, .val (.int p4), .val (.long aa), .second, .val (.long dd), .second, .val (.int (1 : Int32)), .unset, .unset, .unset]) rfl ?_
            show Steps p.tables e below (T2.setTop (mkF m 102 #[.val (.long q1), .second, .val (.long q2), .second, .val (.long q3), .second, .val (.int p4), .val (.long aa), .second, .val (.long dd), .second, .val (.int (1 : Int32)), .unset, .unset, .unset] [])) τ
            exact κ)
          exact ⟨(1 : Int32), pre⟩
      ·
        have pre : ∀ τ, Steps p.tables e below (T2.setTop (mkF m 102 #[.val (.long q1), .second, .val (.long q2), .second, .val (.long q3), .second, .val (.int p4), .val (.long aa), .second, .val (.long dd), .second, .val (.int (p4 &&& (3 : Int32))), .unset, .unset, .unset] [])) τ → G τ := fun τ κ => pre τ (by
          refine XS.icmpYes X2.here hx rfl (pc0 := 78) (pc' := 102) rfl (hb hby at_78) rfl (feq hc78_14).2 (by decide) (by decide) ?_
          show Steps p.tables e below (T2.setTop (mkF m 102 #[.val (.long q1), .second, .val (.long q2), .second, .val (.long q3), .second, .val (.int p4), .val (.long aa), .second, .val (.long dd), .second, .val (.int (p4 &&& (3 : Int32))), .unset, .unset, .unset] [])) τ
          exact κ)
        exact ⟨(p4 &&& (3 : Int32)), pre⟩
  have pre : ∀ τ, Steps p.tables e below (T2.setTop (mkF m 104 #[.val (.long q1), .second, .val (.long q2), .second, .val (.long q3), .second, .val (.int p4), .val (.long aa), .second, .val (.long dd), .second, .val (.int sh), .unset, .unset, .unset] [(.int sh)])) τ → G τ := fun τ κ => pre τ (by
    refine XS.iload X2.here hx rfl (hb hby at_102) rfl ?_
    show Steps p.tables e below (T2.setTop (mkF m 104 #[.val (.long q1), .second, .val (.long q2), .second, .val (.long q3), .second, .val (.int p4), .val (.long aa), .second, .val (.long dd), .second, .val (.int sh), .unset, .unset, .unset] [(.int sh)])) τ
    exact κ)
  rcases Classical.em (sh = (0 : Int32)) with hc104_17 | hc104_17
  ·
    have pre : ∀ τ, Steps p.tables e below (T2.setTop (mkF m 107 #[.val (.long q1), .second, .val (.long q2), .second, .val (.long q3), .second, .val (.int p4), .val (.long aa), .second, .val (.long dd), .second, .val (.int sh), .unset, .unset, .unset] [])) τ → G τ := fun τ κ => pre τ (by
      refine XS.ifNo X2.here hx rfl (hb hby at_104) rfl ((if0 _ _).trans (teq hc104_17).2) ?_
      show Steps p.tables e below (T2.setTop (mkF m 107 #[.val (.long q1), .second, .val (.long q2), .second, .val (.long q3), .second, .val (.int p4), .val (.long aa), .second, .val (.long dd), .second, .val (.int sh), .unset, .unset, .unset] [])) τ
      exact κ)
    obtain ⟨T18, h18, X18, e18, E18, A18, D18, -, st18⟩ := newO X2 hx hZ hown (hw _ (List.mem_of_getElem? (i := 7) rfl)) (hw _ (List.mem_of_getElem? (i := 8) rfl)) (hw _ (List.mem_of_getElem? (i := 9) rfl)) hs2 (g := (mkF m 107 #[.val (.long q1), .second, .val (.long q2), .second, .val (.long q3), .second, .val (.int p4), .val (.long aa), .second, .val (.long dd), .second, .val (.int sh), .unset, .unset, .unset] [])) rfl (hb hby at_107) (by decide) (by decide)
    obtain ⟨b18, gg18⟩ : ∃ z, z = h0.size := ⟨_, rfl⟩
    rw [← gg18] at A18 D18 st18
    have g_b18 : n0 ≤ b18 := Nat.le_trans Zn (Nat.le_of_eq gg18.symm)
    have Zn : n0 ≤ h18.size := Nat.le_trans Zn E18.1
    have F_least_b18 : Fld Z h18 b18 "com/example/switchpoint/switchpoint/core/exec/OrdinalSet" "least" "J" (.long (0 : Int64)) := D18 (Or.inr (hw _ (List.mem_of_getElem? (i := 23) rfl))) (ty := .long) (by decide)
    have F_greatest_b18 : Fld Z h18 b18 "com/example/switchpoint/switchpoint/core/exec/OrdinalSet" "greatest" "J" (.long (0 : Int64)) := D18 (Or.inr (hw _ (List.mem_of_getElem? (i := 25) rfl))) (ty := .long) (by decide)
    have F_lows_b18 : Fld Z h18 b18 "com/example/switchpoint/switchpoint/core/exec/OrdinalSet" "lows" "[J" .null := D18 (Or.inr (hw _ (List.mem_of_getElem? (i := 27) rfl))) (ty := (.array .long)) (by decide)
    have F_highs_b18 : Fld Z h18 b18 "com/example/switchpoint/switchpoint/core/exec/OrdinalSet" "highs" "[J" .null := D18 (Or.inr (hw _ (List.mem_of_getElem? (i := 29) rfl))) (ty := (.array .long)) (by decide)
    have E_b18 := A18
    have pre : ∀ τ, Steps p.tables e below (T18.setTop (mkF m 110 #[.val (.long q1), .second, .val (.long q2), .second, .val (.long q3), .second, .val (.int p4), .val (.long aa), .second, .val (.long dd), .second, .val (.int sh), .unset, .unset, .unset] [(.ref b18)])) τ → G τ := fun τ κ => pre τ (st18 τ κ)
    have pre : ∀ τ, Steps p.tables e below (T18.setTop (mkF m 118 #[.val (.long q1), .second, .val (.long q2), .second, .val (.long q3), .second, .val (.int p4), .val (.long aa), .second, .val (.long dd), .second, .val (.int sh), .unset, .unset, .unset] [(.int (0 : Int32)), (.long (-9223372036854775808 : Int64)), (.long (9223372036854775807 : Int64)), (.ref b18), (.ref b18)])) τ → G τ := fun τ κ => pre τ (by
      refine XS.dup X18.here hx rfl (hb hby at_110) rfl rfl ?_
      show Steps p.tables e below (T18.setTop (mkF m 111 #[.val (.long q1), .second, .val (.long q2), .second, .val (.long q3), .second, .val (.int p4), .val (.long aa), .second, .val (.long dd), .second, .val (.int sh), .unset, .unset, .unset] [(.ref b18), (.ref b18)])) τ
      refine X18.ldc2Long hx hown (mvT hZ (hw _ (List.mem_of_getElem? (i := 36) rfl))) (g := (mkF m 111 #[.val (.long q1), .second, .val (.long q2), .second, .val (.long q3), .second, .val (.int p4), .val (.long aa), .second, .val (.long dd), .second, .val (.int sh), .unset, .unset, .unset] [(.ref b18), (.ref b18)])) rfl (hb hby at_111) _ ?_
      show Steps p.tables e below (T18.setTop (mkF m 114 #[.val (.long q1), .second, .val (.long q2), .second, .val (.long q3), .second, .val (.int p4), .val (.long aa), .second, .val (.long dd), .second, .val (.int sh), .unset, .unset, .unset] [(.long (9223372036854775807 : Int64)), (.ref b18), (.ref b18)])) τ
      refine X18.ldc2Long hx hown (mvT hZ (hw _ (List.mem_of_getElem? (i := 37) rfl))) (g := (mkF m 114 #[.val (.long q1), .second, .val (.long q2), .second, .val (.long q3), .second, .val (.int p4), .val (.long aa), .second, .val (.long dd), .second, .val (.int sh), .unset, .unset, .unset] [(.long (9223372036854775807 : Int64)), (.ref b18), (.ref b18)])) rfl (hb hby at_114) _ ?_
      show Steps p.tables e below (T18.setTop (mkF m 117 #[.val (.long q1), .second, .val (.long q2), .second, .val (.long q3), .second, .val (.int p4), .val (.long aa), .second, .val (.long dd), .second, .val (.int sh), .unset, .unset, .unset] [(.long (-9223372036854775808 : Int64)), (.long (9223372036854775807 : Int64)), (.ref b18), (.ref b18)])) τ
      refine XS.iconst X18.here hx rfl (hb hby at_117) ?_
      show Steps p.tables e below (T18.setTop (mkF m 118 #[.val (.long q1), .second, .val (.long q2), .second, .val (.long q3), .second, .val (.int p4), .val (.long aa), .second, .val (.long dd), .second, .val (.int sh), .unset, .unset, .unset] [(.int (0 : Int32)), (.long (-9223372036854775808 : Int64)), (.long (9223372036854775807 : Int64)), (.ref b18), (.ref b18)])) τ
      exact κ)
    obtain ⟨T19, h19, k19, X19, e19, E19, A19, st19⟩ := newP X18 hx hZ (hw _ (List.mem_of_getElem? (i := 10) rfl)) e18 (g := (mkF m 118 #[.val (.long q1), .second, .val (.long q2), .second, .val (.long q3), .second, .val (.int p4), .val (.long aa), .second, .val (.long dd), .second, .val (.int sh), .unset, .unset, .unset] [(.int (0 : Int32)), (.long (-9223372036854775808 : Int64)), (.long (9223372036854775807 : Int64)), (.ref b18), (.ref b18)])) rfl (hb hby at_118) rfl (by decide) (cap := 0) (by decide) (by decide) (by decide) (by decide)
    obtain ⟨b19, gg19⟩ : ∃ z, z = h18.size := ⟨_, rfl⟩
    rw [← gg19] at A19 st19
    have ne_b18_b19 : b18 ≠ b19 := Nat.ne_of_lt (Nat.lt_of_lt_of_le F_least_b18.lt (Nat.le_of_eq gg19.symm))
    have g_b19 : n0 ≤ b19 := Nat.le_trans Zn (Nat.le_of_eq gg19.symm)
    have F_least_b18 : Fld Z h19 b18 "com/example/switchpoint/switchpoint/core/exec/OrdinalSet" "least" "J" (.long (0 : Int64)) := F_least_b18.ext E19
    have F_greatest_b18 : Fld Z h19 b18 "com/example/switchpoint/switchpoint/core/exec/OrdinalSet" "greatest" "J" (.long (0 : Int64)) := F_greatest_b18.ext E19
    have F_lows_b18 : Fld Z h19 b18 "com/example/switchpoint/switchpoint/core/exec/OrdinalSet" "lows" "[J" .null := F_lows_b18.ext E19
    have F_highs_b18 : Fld Z h19 b18 "com/example/switchpoint/switchpoint/core/exec/OrdinalSet" "highs" "[J" .null := F_highs_b18.ext E19
    have E_b18 : Exa Z h19 b18 "com/example/switchpoint/switchpoint/core/exec/OrdinalSet" := E_b18.ext E19
    have Zn : n0 ≤ h19.size := Nat.le_trans Zn E19.1
    have V_b19 : Arv Z h19 b19 k19 .long (0 : Int32) [] (.long (0 : Int64)) := (Arv.new A19 (by decide)).pad (pad_rep [] (.long (0 : Int64)) 0)
    have pre : ∀ τ, Steps p.tables e below (T19.setTop (mkF m 120 #[.val (.long q1), .second, .val (.long q2), .second, .val (.long q3), .second, .val (.int p4), .val (.long aa), .second, .val (.long dd), .second, .val (.int sh), .unset, .unset, .unset] [(.ref b19), (.long (-9223372036854775808 : Int64)), (.long (9223372036854775807 : Int64)), (.ref b18), (.ref b18)])) τ → G τ := fun τ κ => pre τ (st19 τ κ)
    have pre : ∀ τ, Steps p.tables e below (T19.setTop (mkF m 121 #[.val (.long q1), .second, .val (.long q2), .second, .val (.long q3), .second, .val (.int p4), .val (.long aa), .second, .val (.long dd), .second, .val (.int sh), .unset, .unset, .unset] [(.int (0 : Int32)), (.ref b19), (.long (-9223372036854775808 : Int64)), (.long (9223372036854775807 : Int64)), (.ref b18), (.ref b18)])) τ → G τ := fun τ κ => pre τ (by
      refine XS.iconst X19.here hx rfl (hb hby at_120) ?_
      show Steps p.tables e below (T19.setTop (mkF m 121 #[.val (.long q1), .second, .val (.long q2), .second, .val (.long q3), .second, .val (.int p4), .val (.long aa), .second, .val (.long dd), .second, .val (.int sh), .unset, .unset, .unset] [(.int (0 : Int32)), (.ref b19), (.long (-9223372036854775808 : Int64)), (.long (9223372036854775807 : Int64)), (.ref b18), (.ref b18)])) τ
      exact κ)
    obtain ⟨T20, h20, k20, X20, e20, E20, A20, st20⟩ := newP X19 hx hZ (hw _ (List.mem_of_getElem? (i := 10) rfl)) e19 (g := (mkF m 121 #[.val (.long q1), .second, .val (.long q2), .second, .val (.long q3), .second, .val (.int p4), .val (.long aa), .second, .val (.long dd), .second, .val (.int sh), .unset, .unset, .unset] [(.int (0 : Int32)), (.ref b19), (.long (-9223372036854775808 : Int64)), (.long (9223372036854775807 : Int64)), (.ref b18), (.ref b18)])) rfl (hb hby at_121) rfl (by decide) (cap := 0) (by decide) (by decide) (by decide) (by decide)
    obtain ⟨b20, gg20⟩ : ∃ z, z = h19.size := ⟨_, rfl⟩
    rw [← gg20] at A20 st20
    have ne_b18_b20 : b18 ≠ b20 := Nat.ne_of_lt (Nat.lt_of_lt_of_le F_least_b18.lt (Nat.le_of_eq gg20.symm))
    have ne_b19_b20 : b19 ≠ b20 := Nat.ne_of_lt (Nat.lt_of_lt_of_le V_b19.lt (Nat.le_of_eq gg20.symm))
    have g_b20 : n0 ≤ b20 := Nat.le_trans Zn (Nat.le_of_eq gg20.symm)
    have F_least_b18 : Fld Z h20 b18 "com/example/switchpoint/switchpoint/core/exec/OrdinalSet" "least" "J" (.long (0 : Int64)) := F_least_b18.ext E20
    have F_greatest_b18 : Fld Z h20 b18 "com/example/switchpoint/switchpoint/core/exec/OrdinalSet" "greatest" "J" (.long (0 : Int64)) := F_greatest_b18.ext E20
    have F_lows_b18 : Fld Z h20 b18 "com/example/switchpoint/switchpoint/core/exec/OrdinalSet" "lows" "[J" .null := F_lows_b18.ext E20
    have F_highs_b18 : Fld Z h20 b18 "com/example/switchpoint/switchpoint/core/exec/OrdinalSet" "highs" "[J" .null := F_highs_b18.ext E20
    have E_b18 : Exa Z h20 b18 "com/example/switchpoint/switchpoint/core/exec/OrdinalSet" := E_b18.ext E20
    have V_b19 : Arv Z h20 b19 k19 .long (0 : Int32) [] (.long (0 : Int64)) := V_b19.ext E20
    have Zn : n0 ≤ h20.size := Nat.le_trans Zn E20.1
    have V_b20 : Arv Z h20 b20 k20 .long (0 : Int32) [] (.long (0 : Int64)) := (Arv.new A20 (by decide)).pad (pad_rep [] (.long (0 : Int64)) 0)
    have pre : ∀ τ, Steps p.tables e below (T20.setTop (mkF m 123 #[.val (.long q1), .second, .val (.long q2), .second, .val (.long q3), .second, .val (.int p4), .val (.long aa), .second, .val (.long dd), .second, .val (.int sh), .unset, .unset, .unset] [(.ref b20), (.ref b19), (.long (-9223372036854775808 : Int64)), (.long (9223372036854775807 : Int64)), (.ref b18), (.ref b18)])) τ → G τ := fun τ κ => pre τ (st20 τ κ)
    obtain ⟨_, _, ⟨T21, Lx21, kx21, nx21⟩, -, X21, ⟨Lc21, hQ21, l21, y21, z21⟩, st21⟩ := X20.specialBack hx (y := (⟨"com/example/switchpoint/switchpoint/core/exec/OrdinalSet", "<init>", "(JJ[J[J)V"⟩ : MethodName)) rfl hown (mvT hZ (hw _ (List.mem_of_getElem? (i := 11) rfl))) (mvT hZ (hw _ (List.mem_of_getElem? (i := 12) rfl))) (mvT hZ (hw _ (List.mem_of_getElem? (i := 13) rfl))) (by decide) (backOf (W := 1) (rm3 l Z a0 hw [] b18 (9223372036854775807 : Int64) (-9223372036854775808 : Int64) b19 b20 (.long (0 : Int64)) (.long (0 : Int64)) .null .null h20 n0 Zn g_b18 E_b18 F_least_b18 F_greatest_b18 F_lows_b18 F_highs_b18) hZ (hw _ (List.mem_of_getElem? (i := 13) rfl)) (hw _ (List.mem_of_getElem? (i := 9) rfl)) (by decide) (by decide)) (g := (mkF m 123 #[.val (.long q1), .second, .val (.long q2), .second, .val (.long q3), .second, .val (.int p4), .val (.long aa), .second, .val (.long dd), .second, .val (.int sh), .unset, .unset, .unset] [(.ref b20), (.ref b19), (.long (-9223372036854775808 : Int64)), (.long (9223372036854775807 : Int64)), (.ref b18), (.ref b18)])) rfl (by rw [hml]; rfl) (Steps.refl _) (a := b18) (argsL := [(.long (9223372036854775807 : Int64)), (.long (-9223372036854775808 : Int64)), (.ref b19), (.ref b20)]) (rest := [(.ref b18)]) (lenOf pd_2 rfl) rfl (by show 2 * 0 + _ ≤ _; exact Nat.le_of_eq rfl) (hb hby at_123) (fun _ _ => ⟨rfl, e20, (by decide : 3 + 0 ≤ _), (by decide : 4 + 0 ≤ _)⟩)
    dsimp only [Pt.U, Pt.locs, Pt.cells, Pt.slots] at X21 l21 y21 z21 st21 hQ21
    subst l21 y21 z21
    obtain ⟨rfl, Nq21, Kc21, E_o_21, F_least_21, F_greatest_21, F_lows_21, F_highs_21⟩ := hQ21
    have NN := Fr.app NN Nq21
    have E_b18 : Exa Z T21.heap b18 "com/example/switchpoint/switchpoint/core/exec/OrdinalSet" := E_b18.keep Kc21
    have V_b19 : Arv Z T21.heap b19 k19 .long (0 : Int32) [] (.long (0 : Int64)) := V_b19.keep Kc21 (ninS (Ne.symm ne_b18_b19) nin0)
    have V_b20 : Arv Z T21.heap b20 k20 .long (0 : Int32) [] (.long (0 : Int64)) := V_b20.keep Kc21 (ninS (Ne.symm ne_b18_b20) nin0)
    have Zn : n0 ≤ T21.heap.size := Nat.le_trans Zn Kc21.1
    have pre : ∀ τ, Steps p.tables e below (T21.setTop (mkF m 126 #[.val (.long q1), .second, .val (.long q2), .second, .val (.long q3), .second, .val (.int p4), .val (.long aa), .second, .val (.long dd), .second, .val (.int sh), .unset, .unset, .unset] [(.ref b18)])) τ → G τ := fun τ κ => pre τ (st21.trans κ)
    have pre : ∀ τ, Steps p.tables e below (T21.setTop (mkF m 310 #[.val (.long q1), .second, .val (.long q2), .second, .val (.long q3), .second, .val (.int p4), .val (.long aa), .second, .val (.long dd), .second, .val (.int sh), .val (.ref b18), .val (.int (0 : Int32)), .unset] [(.ref b18)])) τ → G τ := fun τ κ => pre τ (by
      refine XS.astore X21.here hx rfl (hb hby at_126) rfl rfl (l' := #[.val (.long q1), .second, .val (.long q2), .second, .val (.long q3), .second, .val (.int p4), .val (.long aa), .second, .val (.long dd), .second, .val (.int sh), .val (.ref b18), .unset, .unset]) rfl ?_
      show Steps p.tables e below (T21.setTop (mkF m 128 #[.val (.long q1), .second, .val (.long q2), .second, .val (.long q3), .second, .val (.int p4), .val (.long aa), .second, .val (.long dd), .second, .val (.int sh), .val (.ref b18), .unset, .unset] [])) τ
      refine XS.iconst X21.here hx rfl (hb hby at_128) ?_
      show Steps p.tables e below (T21.setTop (mkF m 129 #[.val (.long q1), .second, .val (.long q2), .second, .val (.long q3), .second, .val (.int p4), .val (.long aa), .second, .val (.long dd), .second, .val (.int sh), .val (.ref b18), .unset, .unset] [(.int (0 : Int32))])) τ
      refine XS.istore X21.here hx rfl (hb hby at_129) rfl (l' := #[.val (.long q1), .second, .val (.long q2), .second, .val (.long q3), .second, .val (.int p4), .val (.long aa), .second, .val (.long dd), .second, .val (.int sh), .val (.ref b18), .val (.int (0 : Int32)), .unset]) rfl ?_
      show Steps p.tables e below (T21.setTop (mkF m 131 #[.val (.long q1), .second, .val (.long q2), .second, .val (.long q3), .second, .val (.int p4), .val (.long aa), .second, .val (.long dd), .second, .val (.int sh), .val (.ref b18), .val (.int (0 : Int32)), .unset] [])) τ
      refine XS.goto X21.here hx rfl (pc0 := 131) (pc' := 308) rfl (hb hby at_131) (by decide) (by decide) ?_
      show Steps p.tables e below (T21.setTop (mkF m 308 #[.val (.long q1), .second, .val (.long q2), .second, .val (.long q3), .second, .val (.int p4), .val (.long aa), .second, .val (.long dd), .second, .val (.int sh), .val (.ref b18), .val (.int (0 : Int32)), .unset] [])) τ
      refine XS.aload X21.here hx rfl (hb hby at_308) rfl rfl ?_
      show Steps p.tables e below (T21.setTop (mkF m 310 #[.val (.long q1), .second, .val (.long q2), .second, .val (.long q3), .second, .val (.int p4), .val (.long aa), .second, .val (.long dd), .second, .val (.int sh), .val (.ref b18), .val (.int (0 : Int32)), .unset] [(.ref b18)])) τ
      exact κ)
    obtain ⟨cq22, kq22, q22a, q22b, q22c⟩ := isOf hZ rfl E_b18
    obtain ⟨_, _, ⟨T22, Lx22, kx22, nx22⟩, -, X22, ⟨Lc22, hQ22, l22, y22, z22⟩, st22⟩ := X21.virtualBack hx (y := (⟨"com/example/switchpoint/switchpoint/core/exec/OrdinalSet", "isAll", "()Z"⟩ : MethodName)) (z := (⟨"com/example/switchpoint/switchpoint/core/exec/OrdinalSet", "isAll", "()Z"⟩ : MethodName)) hown (mvT hZ (hw _ (List.mem_of_getElem? (i := 30) rfl))) (mvT hZ (hw _ (List.mem_of_getElem? (i := 31) rfl))) (notFace_of_selects (args := #[]) (mvT hZ (hw _ (List.mem_of_getElem? (i := 33) rfl)))) (mvT hZ (hw _ (List.mem_of_getElem? (i := 33) rfl))) (mvT hZ (hw _ (List.mem_of_getElem? (i := 32) rfl))) (by decide) (backOf (W := 0) (rm6 l Z a0 hw [] b18 (9223372036854775807 : Int64) (-9223372036854775808 : Int64) b19 k19 (0 : Int32) [] (.long (0 : Int64)) T21.heap n0 Zn F_least_21 F_greatest_21 F_lows_21 V_b19) hZ (hw _ (List.mem_of_getElem? (i := 34) rfl)) (hw _ (List.mem_of_getElem? (i := 9) rfl)) (by decide) (by decide)) q22a q22c (g := (mkF m 310 #[.val (.long q1), .second, .val (.long q2), .second, .val (.long q3), .second, .val (.int p4), .val (.long aa), .second, .val (.long dd), .second, .val (.int sh), .val (.ref b18), .val (.int (0 : Int32)), .unset] [(.ref b18)])) rfl (by rw [hml]; rfl) (Steps.refl _) (argsL := []) (rest := []) (lenOf pd_3 rfl) rfl (by show 2 * 0 + _ ≤ _; exact Nat.le_of_eq rfl) (hb hby at_310) (fun _ _ => ⟨rfl, rfl, (by decide : 3 + 0 ≤ _), (by decide : 4 + 0 ≤ _)⟩)
    dsimp only [Pt.U, Pt.locs, Pt.cells, Pt.slots] at X22 l22 y22 z22 st22 hQ22
    subst l22 y22 z22
    obtain ⟨rfl, Nq22, hs22⟩ := hQ22
    have NN := Fr.app NN Nq22
    have pre : ∀ τ, Steps p.tables e below (T22.setTop (mkF m 313 #[.val (.long q1), .second, .val (.long q2), .second, .val (.long q3), .second, .val (.int p4), .val (.long aa), .second, .val (.long dd), .second, .val (.int sh), .val (.ref b18), .val (.int (0 : Int32)), .unset] [(.int (own_all (9223372036854775807 : Int64) (-9223372036854775808 : Int64) (0 : Int32)))])) τ → G τ := fun τ κ => pre τ (st22.trans κ)
    have pre : ∀ τ, Steps p.tables e below (T22.setTop (mkF m 319 #[.val (.long q1), .second, .val (.long q2), .second, .val (.long q3), .second, .val (.int p4), .val (.long aa), .second, .val (.long dd), .second, .val (.int sh), .val (.ref b18), .val (.int (0 : Int32)), .val (.int (own_all (9223372036854775807 : Int64) (-9223372036854775808 : Int64) (0 : Int32)))] [(.int (0 : Int32)), (.int (own_all (9223372036854775807 : Int64) (-9223372036854775808 : Int64) (0 : Int32)))])) τ → G τ := fun τ κ => pre τ (by
      refine XS.istore X22.here hx rfl (hb hby at_313) rfl (l' := #[.val (.long q1), .second, .val (.long q2), .second, .val (.long q3), .second, .val (.int p4), .val (.long aa), .second, .val (.long dd), .second, .val (.int sh), .val (.ref b18), .val (.int (0 : Int32)), .val (.int (own_all (9223372036854775807 : Int64) (-9223372036854775808 : Int64) (0 : Int32)))]) rfl ?_
      show Steps p.tables e below (T22.setTop (mkF m 315 #[.val (.long q1), .second, .val (.long q2), .second, .val (.long q3), .second, .val (.int p4), .val (.long aa), .second, .val (.long dd), .second, .val (.int sh), .val (.ref b18), .val (.int (0 : Int32)), .val (.int (own_all (9223372036854775807 : Int64) (-9223372036854775808 : Int64) (0 : Int32)))] [])) τ
      refine XS.iload X22.here hx rfl (hb hby at_315) rfl ?_
      show Steps p.tables e below (T22.setTop (mkF m 317 #[.val (.long q1), .second, .val (.long q2), .second, .val (.long q3), .second, .val (.int p4), .val (.long aa), .second, .val (.long dd), .second, .val (.int sh), .val (.ref b18), .val (.int (0 : Int32)), .val (.int (own_all (9223372036854775807 : Int64) (-9223372036854775808 : Int64) (0 : Int32)))] [(.int (own_all (9223372036854775807 : Int64) (-9223372036854775808 : Int64) (0 : Int32)))])) τ
      refine XS.iload X22.here hx rfl (hb hby at_317) rfl ?_
      show Steps p.tables e below (T22.setTop (mkF m 319 #[.val (.long q1), .second, .val (.long q2), .second, .val (.long q3), .second, .val (.int p4), .val (.long aa), .second, .val (.long dd), .second, .val (.int sh), .val (.ref b18), .val (.int (0 : Int32)), .val (.int (own_all (9223372036854775807 : Int64) (-9223372036854775808 : Int64) (0 : Int32)))] [(.int (0 : Int32)), (.int (own_all (9223372036854775807 : Int64) (-9223372036854775808 : Int64) (0 : Int32)))])) τ
      exact κ)
    have hc23 : (own_all (9223372036854775807 : Int64) (-9223372036854775808 : Int64) (0 : Int32)) = (0 : Int32) := (by simp [own_all, hc104_17])
    have pre : ∀ τ, Steps p.tables e below (T22.setTop (mkF m 324 #[.val (.long q1), .second, .val (.long q2), .second, .val (.long q3), .second, .val (.int p4), .val (.long aa), .second, .val (.long dd), .second, .val (.int sh), .val (.ref b18), .val (.int (0 : Int32)), .val (.int (own_all (9223372036854775807 : Int64) (-9223372036854775808 : Int64) (0 : Int32)))] [(.int (own_all (9223372036854775807 : Int64) (-9223372036854775808 : Int64) (0 : Int32)))])) τ → G τ := fun τ κ => pre τ (by
      refine XS.icmpNo X22.here hx rfl (hb hby at_319) rfl (teq hc23).2 ?_
      show Steps p.tables e below (T22.setTop (mkF m 322 #[.val (.long q1), .second, .val (.long q2), .second, .val (.long q3), .second, .val (.int p4), .val (.long aa), .second, .val (.long dd), .second, .val (.int sh), .val (.ref b18), .val (.int (0 : Int32)), .val (.int (own_all (9223372036854775807 : Int64) (-9223372036854775808 : Int64) (0 : Int32)))] [])) τ
      refine XS.iload X22.here hx rfl (hb hby at_322) rfl ?_
      show Steps p.tables e below (T22.setTop (mkF m 324 #[.val (.long q1), .second, .val (.long q2), .second, .val (.long q3), .second, .val (.int p4), .val (.long aa), .second, .val (.long dd), .second, .val (.int sh), .val (.ref b18), .val (.int (0 : Int32)), .val (.int (own_all (9223372036854775807 : Int64) (-9223372036854775808 : Int64) (0 : Int32)))] [(.int (own_all (9223372036854775807 : Int64) (-9223372036854775808 : Int64) (0 : Int32)))])) τ
      exact κ)
    have hc24 : (own_all (9223372036854775807 : Int64) (-9223372036854775808 : Int64) (0 : Int32)) = (0 : Int32) := (by simp [own_all, hc104_17, hc23])
    have pre : ∀ τ, Steps p.tables e below (T22.setTop (mkF m 342 #[.val (.long q1), .second, .val (.long q2), .second, .val (.long q3), .second, .val (.int p4), .val (.long aa), .second, .val (.long dd), .second, .val (.int sh), .val (.ref b18), .val (.int (0 : Int32)), .val (.int (own_all (9223372036854775807 : Int64) (-9223372036854775808 : Int64) (0 : Int32)))] [(.int (1 : Int32))])) τ → G τ := fun τ κ => pre τ (by
      refine XS.ifYes X22.here hx rfl (pc0 := 324) (pc' := 337) rfl (hb hby at_324) rfl ((if0 _ _).trans (teq hc24).1) (by decide) (by decide) ?_
      show Steps p.tables e below (T22.setTop (mkF m 337 #[.val (.long q1), .second, .val (.long q2), .second, .val (.long q3), .second, .val (.int p4), .val (.long aa), .second, .val (.long dd), .second, .val (.int sh), .val (.ref b18), .val (.int (0 : Int32)), .val (.int (own_all (9223372036854775807 : Int64) (-9223372036854775808 : Int64) (0 : Int32)))] [])) τ
      refine XS.iconst X22.here hx rfl (hb hby at_337) ?_
      show Steps p.tables e below (T22.setTop (mkF m 338 #[.val (.long q1), .second, .val (.long q2), .second, .val (.long q3), .second, .val (.int p4), .val (.long aa), .second, .val (.long dd), .second, .val (.int sh), .val (.ref b18), .val (.int (0 : Int32)), .val (.int (own_all (9223372036854775807 : Int64) (-9223372036854775808 : Int64) (0 : Int32)))] [(.int (1 : Int32))])) τ
      refine XS.goto X22.here hx rfl (pc0 := 338) (pc' := 342) rfl (hb hby at_338) (by decide) (by decide) ?_
      show Steps p.tables e below (T22.setTop (mkF m 342 #[.val (.long q1), .second, .val (.long q2), .second, .val (.long q3), .second, .val (.int p4), .val (.long aa), .second, .val (.long dd), .second, .val (.int sh), .val (.ref b18), .val (.int (0 : Int32)), .val (.int (own_all (9223372036854775807 : Int64) (-9223372036854775808 : Int64) (0 : Int32)))] [(.int (1 : Int32))])) τ
      exact κ)
    obtain ⟨fs, hr, hrun, hended, hW, hsame⟩ := X22.leave (v := some (.int (1 : Int32))) (fun h => by rw [Bd.returns] at h; cases h)
    refine hGL ⟨_, _, hG _ (pre _ ?_), hrun, hended, _, _, rfl, ?_, ⟨_, rfl⟩, hW, hsame.mono (by decide) (by decide)⟩
    · exact retN X22 hx (t := .boolean) Bd.returns (by simp) (hb hby at_342) hr
    · show Q0 Z q1 q2 q3 p4 h0 n0 _ T22.heap _
      rw [hs22]
      exact ⟨rfl, NN⟩
  ·
    have pre : ∀ τ, Steps p.tables e below (T2.setTop (mkF m 137 #[.val (.long q1), .second, .val (.long q2), .second, .val (.long q3), .second, .val (.int p4), .val (.long aa), .second, .val (.long dd), .second, .val (.int sh), .unset, .unset, .unset] [(.int (1 : Int32)), (.int sh)])) τ → G τ := fun τ κ => pre τ (by
      refine XS.ifYes X2.here hx rfl (pc0 := 104) (pc' := 134) rfl (hb hby at_104) rfl ((if0 _ _).trans (feq hc104_17).2) (by decide) (by decide) ?_
      show Steps p.tables e below (T2.setTop (mkF m 134 #[.val (.long q1), .second, .val (.long q2), .second, .val (.long q3), .second, .val (.int p4), .val (.long aa), .second, .val (.long dd), .second, .val (.int sh), .unset, .unset, .unset] [])) τ
      refine XS.iload X2.here hx rfl (hb hby at_134) rfl ?_
      show Steps p.tables e below (T2.setTop (mkF m 136 #[.val (.long q1), .second, .val (.long q2), .second, .val (.long q3), .second, .val (.int p4), .val (.long aa), .second, .val (.long dd), .second, .val (.int sh), .unset, .unset, .unset] [(.int sh)])) τ
      refine XS.iconst X2.here hx rfl (hb hby at_136) ?_
      show Steps p.tables e below (T2.setTop (mkF m 137 #[.val (.long q1), .second, .val (.long q2), .second, .val (.long q3), .second, .val (.int p4), .val (.long aa), .second, .val (.long dd), .second, .val (.int sh), .unset, .unset, .unset] [(.int (1 : Int32)), (.int sh)])) τ
      exact κ)
    rcases Classical.em (sh = (1 : Int32)) with hc137_25 | hc137_25
    ·
      have pre : ∀ τ, Steps p.tables e below (T2.setTop (mkF m 140 #[.val (.long q1), .second, .val (.long q2), .second, .val (.long q3), .second, .val (.int p4), .val (.long aa), .second, .val (.long dd), .second, .val (.int sh), .unset, .unset, .unset] [])) τ → G τ := fun τ κ => pre τ (by
        refine XS.icmpNo X2.here hx rfl (hb hby at_137) rfl (teq hc137_25).2 ?_
        show Steps p.tables e below (T2.setTop (mkF m 140 #[.val (.long q1), .second, .val (.long q2), .second, .val (.long q3), .second, .val (.int p4), .val (.long aa), .second, .val (.long dd), .second, .val (.int sh), .unset, .unset, .unset] [])) τ
        exact κ)
      obtain ⟨T26, h26, X26, e26, E26, A26, D26, -, st26⟩ := newO X2 hx hZ hown (hw _ (List.mem_of_getElem? (i := 7) rfl)) (hw _ (List.mem_of_getElem? (i := 8) rfl)) (hw _ (List.mem_of_getElem? (i := 9) rfl)) hs2 (g := (mkF m 140 #[.val (.long q1), .second, .val (.long q2), .second, .val (.long q3), .second, .val (.int p4), .val (.long aa), .second, .val (.long dd), .second, .val (.int sh), .unset, .unset, .unset] [])) rfl (hb hby at_140) (by decide) (by decide)
      obtain ⟨b26, gg26⟩ : ∃ z, z = h0.size := ⟨_, rfl⟩
      rw [← gg26] at A26 D26 st26
      have g_b26 : n0 ≤ b26 := Nat.le_trans Zn (Nat.le_of_eq gg26.symm)
      have Zn : n0 ≤ h26.size := Nat.le_trans Zn E26.1
      have F_least_b26 : Fld Z h26 b26 "com/example/switchpoint/switchpoint/core/exec/OrdinalSet" "least" "J" (.long (0 : Int64)) := D26 (Or.inr (hw _ (List.mem_of_getElem? (i := 23) rfl))) (ty := .long) (by decide)
      have F_greatest_b26 : Fld Z h26 b26 "com/example/switchpoint/switchpoint/core/exec/OrdinalSet" "greatest" "J" (.long (0 : Int64)) := D26 (Or.inr (hw _ (List.mem_of_getElem? (i := 25) rfl))) (ty := .long) (by decide)
      have F_lows_b26 : Fld Z h26 b26 "com/example/switchpoint/switchpoint/core/exec/OrdinalSet" "lows" "[J" .null := D26 (Or.inr (hw _ (List.mem_of_getElem? (i := 27) rfl))) (ty := (.array .long)) (by decide)
      have F_highs_b26 : Fld Z h26 b26 "com/example/switchpoint/switchpoint/core/exec/OrdinalSet" "highs" "[J" .null := D26 (Or.inr (hw _ (List.mem_of_getElem? (i := 29) rfl))) (ty := (.array .long)) (by decide)
      have E_b26 := A26
      have pre : ∀ τ, Steps p.tables e below (T26.setTop (mkF m 143 #[.val (.long q1), .second, .val (.long q2), .second, .val (.long q3), .second, .val (.int p4), .val (.long aa), .second, .val (.long dd), .second, .val (.int sh), .unset, .unset, .unset] [(.ref b26)])) τ → G τ := fun τ κ => pre τ (st26 τ κ)
      have pre : ∀ τ, Steps p.tables e below (T26.setTop (mkF m 149 #[.val (.long q1), .second, .val (.long q2), .second, .val (.long q3), .second, .val (.int p4), .val (.long aa), .second, .val (.long dd), .second, .val (.int sh), .unset, .unset, .unset] [(.int (1 : Int32)), (.long dd), (.long aa), (.ref b26), (.ref b26)])) τ → G τ := fun τ κ => pre τ (by
        refine XS.dup X26.here hx rfl (hb hby at_143) rfl rfl ?_
        show Steps p.tables e below (T26.setTop (mkF m 144 #[.val (.long q1), .second, .val (.long q2), .second, .val (.long q3), .second, .val (.int p4), .val (.long aa), .second, .val (.long dd), .second, .val (.int sh), .unset, .unset, .unset] [(.ref b26), (.ref b26)])) τ
        refine XS.lload X26.here hx rfl (hb hby at_144) rfl ?_
        show Steps p.tables e below (T26.setTop (mkF m 146 #[.val (.long q1), .second, .val (.long q2), .second, .val (.long q3), .second, .val (.int p4), .val (.long aa), .second, .val (.long dd), .second, .val (.int sh), .unset, .unset, .unset] [(.long aa), (.ref b26), (.ref b26)])) τ
        refine XS.lload X26.here hx rfl (hb hby at_146) rfl ?_
        show Steps p.tables e below (T26.setTop (mkF m 148 #[.val (.long q1), .second, .val (.long q2), .second, .val (.long q3), .second, .val (.int p4), .val (.long aa), .second, .val (.long dd), .second, .val (.int sh), .unset, .unset, .unset] [(.long dd), (.long aa), (.ref b26), (.ref b26)])) τ
        refine XS.iconst X26.here hx rfl (hb hby at_148) ?_
        show Steps p.tables e below (T26.setTop (mkF m 149 #[.val (.long q1), .second, .val (.long q2), .second, .val (.long q3), .second, .val (.int p4), .val (.long aa), .second, .val (.long dd), .second, .val (.int sh), .unset, .unset, .unset] [(.int (1 : Int32)), (.long dd), (.long aa), (.ref b26), (.ref b26)])) τ
        exact κ)
      obtain ⟨T27, h27, k27, X27, e27, E27, A27, st27⟩ := newP X26 hx hZ (hw _ (List.mem_of_getElem? (i := 10) rfl)) e26 (g := (mkF m 149 #[.val (.long q1), .second, .val (.long q2), .second, .val (.long q3), .second, .val (.int p4), .val (.long aa), .second, .val (.long dd), .second, .val (.int sh), .unset, .unset, .unset] [(.int (1 : Int32)), (.long dd), (.long aa), (.ref b26), (.ref b26)])) rfl (hb hby at_149) rfl (by decide) (cap := 1) (by decide) (by decide) (by decide) (by decide)
      obtain ⟨b27, gg27⟩ : ∃ z, z = h26.size := ⟨_, rfl⟩
      rw [← gg27] at A27 st27
      have ne_b26_b27 : b26 ≠ b27 := Nat.ne_of_lt (Nat.lt_of_lt_of_le F_least_b26.lt (Nat.le_of_eq gg27.symm))
      have g_b27 : n0 ≤ b27 := Nat.le_trans Zn (Nat.le_of_eq gg27.symm)
      have F_least_b26 : Fld Z h27 b26 "com/example/switchpoint/switchpoint/core/exec/OrdinalSet" "least" "J" (.long (0 : Int64)) := F_least_b26.ext E27
      have F_greatest_b26 : Fld Z h27 b26 "com/example/switchpoint/switchpoint/core/exec/OrdinalSet" "greatest" "J" (.long (0 : Int64)) := F_greatest_b26.ext E27
      have F_lows_b26 : Fld Z h27 b26 "com/example/switchpoint/switchpoint/core/exec/OrdinalSet" "lows" "[J" .null := F_lows_b26.ext E27
      have F_highs_b26 : Fld Z h27 b26 "com/example/switchpoint/switchpoint/core/exec/OrdinalSet" "highs" "[J" .null := F_highs_b26.ext E27
      have E_b26 : Exa Z h27 b26 "com/example/switchpoint/switchpoint/core/exec/OrdinalSet" := E_b26.ext E27
      have Zn : n0 ≤ h27.size := Nat.le_trans Zn E27.1
      have V_b27 : Arv Z h27 b27 k27 .long (1 : Int32) [(.long (0 : Int64))] (.long (0 : Int64)) := (Arv.new A27 (by decide)).pad (pad_rep [] (.long (0 : Int64)) 1)
      have pre : ∀ τ, Steps p.tables e below (T27.setTop (mkF m 151 #[.val (.long q1), .second, .val (.long q2), .second, .val (.long q3), .second, .val (.int p4), .val (.long aa), .second, .val (.long dd), .second, .val (.int sh), .unset, .unset, .unset] [(.ref b27), (.long dd), (.long aa), (.ref b26), (.ref b26)])) τ → G τ := fun τ κ => pre τ (st27 τ κ)
      have pre : ∀ τ, Steps p.tables e below (T27.setTop (mkF m 155 #[.val (.long q1), .second, .val (.long q2), .second, .val (.long q3), .second, .val (.int p4), .val (.long aa), .second, .val (.long dd), .second, .val (.int sh), .unset, .unset, .unset] [(.long aa), (.int (0 : Int32)), (.ref b27), (.ref b27), (.long dd), (.long aa), (.ref b26), (.ref b26)])) τ → G τ := fun τ κ => pre τ (by
        refine XS.dup X27.here hx rfl (hb hby at_151) rfl rfl ?_
        show Steps p.tables e below (T27.setTop (mkF m 152 #[.val (.long q1), .second, .val (.long q2), .second, .val (.long q3), .second, .val (.int p4), .val (.long aa), .second, .val (.long dd), .second, .val (.int sh), .unset, .unset, .unset] [(.ref b27), (.ref b27), (.long dd), (.long aa), (.ref b26), (.ref b26)])) τ
        refine XS.iconst X27.here hx rfl (hb hby at_152) ?_
        show Steps p.tables e below (T27.setTop (mkF m 153 #[.val (.long q1), .second, .val (.long q2), .second, .val (.long q3), .second, .val (.int p4), .val (.long aa), .second, .val (.long dd), .second, .val (.int sh), .unset, .unset, .unset] [(.int (0 : Int32)), (.ref b27), (.ref b27), (.long dd), (.long aa), (.ref b26), (.ref b26)])) τ
        refine XS.lload X27.here hx rfl (hb hby at_153) rfl ?_
        show Steps p.tables e below (T27.setTop (mkF m 155 #[.val (.long q1), .second, .val (.long q2), .second, .val (.long q3), .second, .val (.int p4), .val (.long aa), .second, .val (.long dd), .second, .val (.int sh), .unset, .unset, .unset] [(.long aa), (.int (0 : Int32)), (.ref b27), (.ref b27), (.long dd), (.long aa), (.ref b26), (.ref b26)])) τ
        exact κ)
      obtain ⟨c28, Ar28, q28, S28, Nz28, Hh28, Gg28⟩ := V_b27
      have hin28 : ¬ ((0 : Int32) < 0 ∨ c28.slots.size ≤ ((0 : Int32)).toNatClampNeg) := inb_of S28 ⟨by decide, by decide⟩
      obtain ⟨T28, h28, X28, e28, W28, st28⟩ := stJ X27 hx hZ e27 Ar28 (j := (0 : Int32)) hin28 (g := (mkF m 155 #[.val (.long q1), .second, .val (.long q2), .second, .val (.long q3), .second, .val (.int p4), .val (.long aa), .second, .val (.long dd), .second, .val (.int sh), .unset, .unset, .unset] [(.long aa), (.int (0 : Int32)), (.ref b27), (.ref b27), (.long dd), (.long aa), (.ref b26), (.ref b26)])) rfl rfl (hb hby at_155)
      have V_b27 : Arv Z h28 b27 k27 .long (1 : Int32) [(.long aa)] (.long (0 : Int64)) := Arv.set Ar28 q28 S28 Nz28 Hh28 Gg28 rfl W28 0 rfl (Nat.le_of_ble_eq_true rfl)
      have F_least_b26 : Fld Z h28 b26 "com/example/switchpoint/switchpoint/core/exec/OrdinalSet" "least" "J" (.long (0 : Int64)) := F_least_b26.other W28 (Or.inl ne_b26_b27)
      have F_greatest_b26 : Fld Z h28 b26 "com/example/switchpoint/switchpoint/core/exec/OrdinalSet" "greatest" "J" (.long (0 : Int64)) := F_greatest_b26.other W28 (Or.inl ne_b26_b27)
      have F_lows_b26 : Fld Z h28 b26 "com/example/switchpoint/switchpoint/core/exec/OrdinalSet" "lows" "[J" .null := F_lows_b26.other W28 (Or.inl ne_b26_b27)
      have F_highs_b26 : Fld Z h28 b26 "com/example/switchpoint/switchpoint/core/exec/OrdinalSet" "highs" "[J" .null := F_highs_b26.other W28 (Or.inl ne_b26_b27)
      have E_b26 : Exa Z h28 b26 "com/example/switchpoint/switchpoint/core/exec/OrdinalSet" := E_b26.wr W28
      have Zn : n0 ≤ h28.size := Nat.le_trans Zn (Keep.of_wr W28).1
      have NN := Fr.snoc X28 NN g_b27
      have pre : ∀ τ, Steps p.tables e below (T28.setTop (mkF m 156 #[.val (.long q1), .second, .val (.long q2), .second, .val (.long q3), .second, .val (.int p4), .val (.long aa), .second, .val (.long dd), .second, .val (.int sh), .unset, .unset, .unset] [(.ref b27), (.long dd), (.long aa), (.ref b26), (.ref b26)])) τ → G τ := fun τ κ => pre τ (st28 τ κ)
      have pre : ∀ τ, Steps p.tables e below (T28.setTop (mkF m 157 #[.val (.long q1), .second, .val (.long q2), .second, .val (.long q3), .second, .val (.int p4), .val (.long aa), .second, .val (.long dd), .second, .val (.int sh), .unset, .unset, .unset] [(.int (1 : Int32)), (.ref b27), (.long dd), (.long aa), (.ref b26), (.ref b26)])) τ → G τ := fun τ κ => pre τ (by
        refine XS.iconst X28.here hx rfl (hb hby at_156) ?_
        show Steps p.tables e below (T28.setTop (mkF m 157 #[.val (.long q1), .second, .val (.long q2), .second, .val (.long q3), .second, .val (.int p4), .val (.long aa), .second, .val (.long dd), .second, .val (.int sh), .unset, .unset, .unset] [(.int (1 : Int32)), (.ref b27), (.long dd), (.long aa), (.ref b26), (.ref b26)])) τ
        exact κ)
      obtain ⟨T29, h29, k29, X29, e29, E29, A29, st29⟩ := newP X28 hx hZ (hw _ (List.mem_of_getElem? (i := 10) rfl)) e28 (g := (mkF m 157 #[.val (.long q1), .second, .val (.long q2), .second, .val (.long q3), .second, .val (.int p4), .val (.long aa), .second, .val (.long dd), .second, .val (.int sh), .unset, .unset, .unset] [(.int (1 : Int32)), (.ref b27), (.long dd), (.long aa), (.ref b26), (.ref b26)])) rfl (hb hby at_157) rfl (by decide) (cap := 1) (by decide) (by decide) (by decide) (by decide)
      obtain ⟨b29, gg29⟩ : ∃ z, z = h28.size := ⟨_, rfl⟩
      rw [← gg29] at A29 st29
      have ne_b26_b29 : b26 ≠ b29 := Nat.ne_of_lt (Nat.lt_of_lt_of_le F_least_b26.lt (Nat.le_of_eq gg29.symm))
      have ne_b27_b29 : b27 ≠ b29 := Nat.ne_of_lt (Nat.lt_of_lt_of_le V_b27.lt (Nat.le_of_eq gg29.symm))
      have g_b29 : n0 ≤ b29 := Nat.le_trans Zn (Nat.le_of_eq gg29.symm)
      have F_least_b26 : Fld Z h29 b26 "com/example/switchpoint/switchpoint/core/exec/OrdinalSet" "least" "J" (.long (0 : Int64)) := F_least_b26.ext E29
      have F_greatest_b26 : Fld Z h29 b26 "com/example/switchpoint/switchpoint/core/exec/OrdinalSet" "greatest" "J" (.long (0 : Int64)) := F_greatest_b26.ext E29
      have F_lows_b26 : Fld Z h29 b26 "com/example/switchpoint/switchpoint/core/exec/OrdinalSet" "lows" "[J" .null := F_lows_b26.ext E29
      have F_highs_b26 : Fld Z h29 b26 "com/example/switchpoint/switchpoint/core/exec/OrdinalSet" "highs" "[J" .null := F_highs_b26.ext E29
      have E_b26 : Exa Z h29 b26 "com/example/switchpoint/switchpoint/core/exec/OrdinalSet" := E_b26.ext E29
      have V_b27 : Arv Z h29 b27 k27 .long (1 : Int32) [(.long aa)] (.long (0 : Int64)) := V_b27.ext E29
      have Zn : n0 ≤ h29.size := Nat.le_trans Zn E29.1
      have V_b29 : Arv Z h29 b29 k29 .long (1 : Int32) [(.long (0 : Int64))] (.long (0 : Int64)) := (Arv.new A29 (by decide)).pad (pad_rep [] (.long (0 : Int64)) 1)
      have pre : ∀ τ, Steps p.tables e below (T29.setTop (mkF m 159 #[.val (.long q1), .second, .val (.long q2), .second, .val (.long q3), .second, .val (.int p4), .val (.long aa), .second, .val (.long dd), .second, .val (.int sh), .unset, .unset, .unset] [(.ref b29), (.ref b27), (.long dd), (.long aa), (.ref b26), (.ref b26)])) τ → G τ := fun τ κ => pre τ (st29 τ κ)
      have pre : ∀ τ, Steps p.tables e below (T29.setTop (mkF m 163 #[.val (.long q1), .second, .val (.long q2), .second, .val (.long q3), .second, .val (.int p4), .val (.long aa), .second, .val (.long dd), .second, .val (.int sh), .unset, .unset, .unset] [(.long dd), (.int (0 : Int32)), (.ref b29), (.ref b29), (.ref b27), (.long dd), (.long aa), (.ref b26), (.ref b26)])) τ → G τ := fun τ κ => pre τ (by
        refine XS.dup X29.here hx rfl (hb hby at_159) rfl rfl ?_
        show Steps p.tables e below (T29.setTop (mkF m 160 #[.val (.long q1), .second, .val (.long q2), .second, .val (.long q3), .second, .val (.int p4), .val (.long aa), .second, .val (.long dd), .second, .val (.int sh), .unset, .unset, .unset] [(.ref b29), (.ref b29), (.ref b27), (.long dd), (.long aa), (.ref b26), (.ref b26)])) τ
        refine XS.iconst X29.here hx rfl (hb hby at_160) ?_
        show Steps p.tables e below (T29.setTop (mkF m 161 #[.val (.long q1), .second, .val (.long q2), .second, .val (.long q3), .second, .val (.int p4), .val (.long aa), .second, .val (.long dd), .second, .val (.int sh), .unset, .unset, .unset] [(.int (0 : Int32)), (.ref b29), (.ref b29), (.ref b27), (.long dd), (.long aa), (.ref b26), (.ref b26)])) τ
        refine XS.lload X29.here hx rfl (hb hby at_161) rfl ?_
        show Steps p.tables e below (T29.setTop (mkF m 163 #[.val (.long q1), .second, .val (.long q2), .second, .val (.long q3), .second, .val (.int p4), .val (.long aa), .second, .val (.long dd), .second, .val (.int sh), .unset, .unset, .unset] [(.long dd), (.int (0 : Int32)), (.ref b29), (.ref b29), (.ref b27), (.long dd), (.long aa), (.ref b26), (.ref b26)])) τ
        exact κ)
      obtain ⟨c30, Ar30, q30, S30, Nz30, Hh30, Gg30⟩ := V_b29
      have hin30 : ¬ ((0 : Int32) < 0 ∨ c30.slots.size ≤ ((0 : Int32)).toNatClampNeg) := inb_of S30 ⟨by decide, by decide⟩
      obtain ⟨T30, h30, X30, e30, W30, st30⟩ := stJ X29 hx hZ e29 Ar30 (j := (0 : Int32)) hin30 (g := (mkF m 163 #[.val (.long q1), .second, .val (.long q2), .second, .val (.long q3), .second, .val (.int p4), .val (.long aa), .second, .val (.long dd), .second, .val (.int sh), .unset, .unset, .unset] [(.long dd), (.int (0 : Int32)), (.ref b29), (.ref b29), (.ref b27), (.long dd), (.long aa), (.ref b26), (.ref b26)])) rfl rfl (hb hby at_163)
      have V_b29 : Arv Z h30 b29 k29 .long (1 : Int32) [(.long dd)] (.long (0 : Int64)) := Arv.set Ar30 q30 S30 Nz30 Hh30 Gg30 rfl W30 0 rfl (Nat.le_of_ble_eq_true rfl)
      have F_least_b26 : Fld Z h30 b26 "com/example/switchpoint/switchpoint/core/exec/OrdinalSet" "least" "J" (.long (0 : Int64)) := F_least_b26.other W30 (Or.inl ne_b26_b29)
      have F_greatest_b26 : Fld Z h30 b26 "com/example/switchpoint/switchpoint/core/exec/OrdinalSet" "greatest" "J" (.long (0 : Int64)) := F_greatest_b26.other W30 (Or.inl ne_b26_b29)
      have F_lows_b26 : Fld Z h30 b26 "com/example/switchpoint/switchpoint/core/exec/OrdinalSet" "lows" "[J" .null := F_lows_b26.other W30 (Or.inl ne_b26_b29)
      have F_highs_b26 : Fld Z h30 b26 "com/example/switchpoint/switchpoint/core/exec/OrdinalSet" "highs" "[J" .null := F_highs_b26.other W30 (Or.inl ne_b26_b29)
      have E_b26 : Exa Z h30 b26 "com/example/switchpoint/switchpoint/core/exec/OrdinalSet" := E_b26.wr W30
      have V_b27 : Arv Z h30 b27 k27 .long (1 : Int32) [(.long aa)] (.long (0 : Int64)) := V_b27.other W30 ne_b27_b29
      have Zn : n0 ≤ h30.size := Nat.le_trans Zn (Keep.of_wr W30).1
      have NN := Fr.snoc X30 NN g_b29
      have pre : ∀ τ, Steps p.tables e below (T30.setTop (mkF m 164 #[.val (.long q1), .second, .val (.long q2), .second, .val (.long q3), .second, .val (.int p4), .val (.long aa), .second, .val (.long dd), .second, .val (.int sh), .unset, .unset, .unset] [(.ref b29), (.ref b27), (.long dd), (.long aa), (.ref b26), (.ref b26)])) τ → G τ := fun τ κ => pre τ (st30 τ κ)
      obtain ⟨_, _, ⟨T31, Lx31, kx31, nx31⟩, -, X31, ⟨Lc31, hQ31, l31, y31, z31⟩, st31⟩ := X30.specialBack hx (y := (⟨"com/example/switchpoint/switchpoint/core/exec/OrdinalSet", "<init>", "(JJ[J[J)V"⟩ : MethodName)) rfl hown (mvT hZ (hw _ (List.mem_of_getElem? (i := 11) rfl))) (mvT hZ (hw _ (List.mem_of_getElem? (i := 12) rfl))) (mvT hZ (hw _ (List.mem_of_getElem? (i := 13) rfl))) (by decide) (backOf (W := 1) (rm3 l Z a0 hw [] b26 aa dd b27 b29 (.long (0 : Int64)) (.long (0 : Int64)) .null .null h30 n0 Zn g_b26 E_b26 F_least_b26 F_greatest_b26 F_lows_b26 F_highs_b26) hZ (hw _ (List.mem_of_getElem? (i := 13) rfl)) (hw _ (List.mem_of_getElem? (i := 9) rfl)) (by decide) (by decide)) (g := (mkF m 164 #[.val (.long q1), .second, .val (.long q2), .second, .val (.long q3), .second, .val (.int p4), .val (.long aa), .second, .val (.long dd), .second, .val (.int sh), .unset, .unset, .unset] [(.ref b29), (.ref b27), (.long dd), (.long aa), (.ref b26), (.ref b26)])) rfl (by rw [hml]; rfl) (Steps.refl _) (a := b26) (argsL := [(.long aa), (.long dd), (.ref b27), (.ref b29)]) (rest := [(.ref b26)]) (lenOf pd_2 rfl) rfl (by show 2 * 0 + _ ≤ _; exact Nat.le_of_eq rfl) (hb hby at_164) (fun _ _ => ⟨rfl, e30, (by decide : 3 + 0 ≤ _), (by decide : 6 + 0 ≤ _)⟩)
      dsimp only [Pt.U, Pt.locs, Pt.cells, Pt.slots] at X31 l31 y31 z31 st31 hQ31
      subst l31 y31 z31
      obtain ⟨rfl, Nq31, Kc31, E_o_31, F_least_31, F_greatest_31, F_lows_31, F_highs_31⟩ := hQ31
      have NN := Fr.app NN Nq31
      have E_b26 : Exa Z T31.heap b26 "com/example/switchpoint/switchpoint/core/exec/OrdinalSet" := E_b26.keep Kc31
      have V_b27 : Arv Z T31.heap b27 k27 .long (1 : Int32) [(.long aa)] (.long (0 : Int64)) := V_b27.keep Kc31 (ninS (Ne.symm ne_b26_b27) nin0)
      have V_b29 : Arv Z T31.heap b29 k29 .long (1 : Int32) [(.long dd)] (.long (0 : Int64)) := V_b29.keep Kc31 (ninS (Ne.symm ne_b26_b29) nin0)
      have Zn : n0 ≤ T31.heap.size := Nat.le_trans Zn Kc31.1
      have pre : ∀ τ, Steps p.tables e below (T31.setTop (mkF m 167 #[.val (.long q1), .second, .val (.long q2), .second, .val (.long q3), .second, .val (.int p4), .val (.long aa), .second, .val (.long dd), .second, .val (.int sh), .unset, .unset, .unset] [(.ref b26)])) τ → G τ := fun τ κ => pre τ (st31.trans κ)
      have pre : ∀ τ, Steps p.tables e below (T31.setTop (mkF m 175 #[.val (.long q1), .second, .val (.long q2), .second, .val (.long q3), .second, .val (.int p4), .val (.long aa), .second, .val (.long dd), .second, .val (.int sh), .val (.ref b26), .unset, .unset] [(.int (lcmpW aa (-9223372036854775808 : Int64)))])) τ → G τ := fun τ κ => pre τ (by
        refine XS.astore X31.here hx rfl (hb hby at_167) rfl rfl (l' := #[.val (.long q1), .second, .val (.long q2), .second, .val (.long q3), .second, .val (.int p4), .val (.long aa), .second, .val (.long dd), .second, .val (.int sh), .val (.ref b26), .unset, .unset]) rfl ?_
        show Steps p.tables e below (T31.setTop (mkF m 169 #[.val (.long q1), .second, .val (.long q2), .second, .val (.long q3), .second, .val (.int p4), .val (.long aa), .second, .val (.long dd), .second, .val (.int sh), .val (.ref b26), .unset, .unset] [])) τ
        refine XS.lload X31.here hx rfl (hb hby at_169) rfl ?_
        show Steps p.tables e below (T31.setTop (mkF m 171 #[.val (.long q1), .second, .val (.long q2), .second, .val (.long q3), .second, .val (.int p4), .val (.long aa), .second, .val (.long dd), .second, .val (.int sh), .val (.ref b26), .unset, .unset] [(.long aa)])) τ
        refine X31.ldc2Long hx hown (mvT hZ (hw _ (List.mem_of_getElem? (i := 37) rfl))) (g := (mkF m 171 #[.val (.long q1), .second, .val (.long q2), .second, .val (.long q3), .second, .val (.int p4), .val (.long aa), .second, .val (.long dd), .second, .val (.int sh), .val (.ref b26), .unset, .unset] [(.long aa)])) rfl (hb hby at_171) _ ?_
        show Steps p.tables e below (T31.setTop (mkF m 174 #[.val (.long q1), .second, .val (.long q2), .second, .val (.long q3), .second, .val (.int p4), .val (.long aa), .second, .val (.long dd), .second, .val (.int sh), .val (.ref b26), .unset, .unset] [(.long (-9223372036854775808 : Int64)), (.long aa)])) τ
        refine XS.lcmp X31.here hx rfl (hb hby at_174) rfl ?_
        show Steps p.tables e below (T31.setTop (mkF m 175 #[.val (.long q1), .second, .val (.long q2), .second, .val (.long q3), .second, .val (.int p4), .val (.long aa), .second, .val (.long dd), .second, .val (.int sh), .val (.ref b26), .unset, .unset] [(.int (lcmpW aa (-9223372036854775808 : Int64)))])) τ
        exact κ)
      rcases Classical.em (aa = (-9223372036854775808 : Int64)) with hc175_32 | hc175_32
      ·
        have pre : ∀ τ, Steps p.tables e below (T31.setTop (mkF m 184 #[.val (.long q1), .second, .val (.long q2), .second, .val (.long q3), .second, .val (.int p4), .val (.long aa), .second, .val (.long dd), .second, .val (.int sh), .val (.ref b26), .unset, .unset] [(.int (lcmpW dd (9223372036854775807 : Int64)))])) τ → G τ := fun τ κ => pre τ (by
          refine XS.ifNo X31.here hx rfl (hb hby at_175) rfl ((if0 _ _).trans (teq ((lw_eq _ _).mpr hc175_32)).2) ?_
          show Steps p.tables e below (T31.setTop (mkF m 178 #[.val (.long q1), .second, .val (.long q2), .second, .val (.long q3), .second, .val (.int p4), .val (.long aa), .second, .val (.long dd), .second, .val (.int sh), .val (.ref b26), .unset, .unset] [])) τ
          refine XS.lload X31.here hx rfl (hb hby at_178) rfl ?_
          show Steps p.tables e below (T31.setTop (mkF m 180 #[.val (.long q1), .second, .val (.long q2), .second, .val (.long q3), .second, .val (.int p4), .val (.long aa), .second, .val (.long dd), .second, .val (.int sh), .val (.ref b26), .unset, .unset] [(.long dd)])) τ
          refine X31.ldc2Long hx hown (mvT hZ (hw _ (List.mem_of_getElem? (i := 36) rfl))) (g := (mkF m 180 #[.val (.long q1), .second, .val (.long q2), .second, .val (.long q3), .second, .val (.int p4), .val (.long aa), .second, .val (.long dd), .second, .val (.int sh), .val (.ref b26), .unset, .unset] [(.long dd)])) rfl (hb hby at_180) _ ?_
          show Steps p.tables e below (T31.setTop (mkF m 183 #[.val (.long q1), .second, .val (.long q2), .second, .val (.long q3), .second, .val (.int p4), .val (.long aa), .second, .val (.long dd), .second, .val (.int sh), .val (.ref b26), .unset, .unset] [(.long (9223372036854775807 : Int64)), (.long dd)])) τ
          refine XS.lcmp X31.here hx rfl (hb hby at_183) rfl ?_
          show Steps p.tables e below (T31.setTop (mkF m 184 #[.val (.long q1), .second, .val (.long q2), .second, .val (.long q3), .second, .val (.int p4), .val (.long aa), .second, .val (.long dd), .second, .val (.int sh), .val (.ref b26), .unset, .unset] [(.int (lcmpW dd (9223372036854775807 : Int64)))])) τ
          exact κ)
        rcases Classical.em (dd = (9223372036854775807 : Int64)) with hc184_33 | hc184_33
        ·
          have pre : ∀ τ, Steps p.tables e below (T31.setTop (mkF m 310 #[.val (.long q1), .second, .val (.long q2), .second, .val (.long q3), .second, .val (.int p4), .val (.long aa), .second, .val (.long dd), .second, .val (.int sh), .val (.ref b26), .val (.int (1 : Int32)), .unset] [(.ref b26)])) τ → G τ := fun τ κ => pre τ (by
            refine XS.ifNo X31.here hx rfl (hb hby at_184) rfl ((if0 _ _).trans (teq ((lw_eq _ _).mpr hc184_33)).2) ?_
            show Steps p.tables e below (T31.setTop (mkF m 187 #[.val (.long q1), .second, .val (.long q2), .second, .val (.long q3), .second, .val (.int p4), .val (.long aa), .second, .val (.long dd), .second, .val (.int sh), .val (.ref b26), .unset, .unset] [])) τ
            refine XS.iconst X31.here hx rfl (hb hby at_187) ?_
            show Steps p.tables e below (T31.setTop (mkF m 188 #[.val (.long q1), .second, .val (.long q2), .second, .val (.long q3), .second, .val (.int p4), .val (.long aa), .second, .val (.long dd), .second, .val (.int sh), .val (.ref b26), .unset, .unset] [(.int (1 : Int32))])) τ
            refine XS.goto X31.here hx rfl (pc0 := 188) (pc' := 192) rfl (hb hby at_188) (by decide) (by decide) ?_
            show Steps p.tables e below (T31.setTop (mkF m 192 #[.val (.long q1), .second, .val (.long q2), .second, .val (.long q3), .second, .val (.int p4), .val (.long aa), .second, .val (.long dd), .second, .val (.int sh), .val (.ref b26), .unset, .unset] [(.int (1 : Int32))])) τ
            refine XS.istore X31.here hx rfl (hb hby at_192) rfl (l' := #[.val (.long q1), .second, .val (.long q2), .second, .val (.long q3), .second, .val (.int p4), .val (.long aa), .second, .val (.long dd), .second, .val (.int sh), .val (.ref b26), .val (.int (1 : Int32)), .unset]) rfl ?_
            show Steps p.tables e below (T31.setTop (mkF m 194 #[.val (.long q1), .second, .val (.long q2), .second, .val (.long q3), .second, .val (.int p4), .val (.long aa), .second, .val (.long dd), .second, .val (.int sh), .val (.ref b26), .val (.int (1 : Int32)), .unset] [])) τ
            refine XS.goto X31.here hx rfl (pc0 := 194) (pc' := 308) rfl (hb hby at_194) (by decide) (by decide) ?_
            show Steps p.tables e below (T31.setTop (mkF m 308 #[.val (.long q1), .second, .val (.long q2), .second, .val (.long q3), .second, .val (.int p4), .val (.long aa), .second, .val (.long dd), .second, .val (.int sh), .val (.ref b26), .val (.int (1 : Int32)), .unset] [])) τ
            refine XS.aload X31.here hx rfl (hb hby at_308) rfl rfl ?_
            show Steps p.tables e below (T31.setTop (mkF m 310 #[.val (.long q1), .second, .val (.long q2), .second, .val (.long q3), .second, .val (.int p4), .val (.long aa), .second, .val (.long dd), .second, .val (.int sh), .val (.ref b26), .val (.int (1 : Int32)), .unset] [(.ref b26)])) τ
            exact κ)
          obtain ⟨cq34, kq34, q34a, q34b, q34c⟩ := isOf hZ rfl E_b26
          obtain ⟨_, _, ⟨T34, Lx34, kx34, nx34⟩, -, X34, ⟨Lc34, hQ34, l34, y34, z34⟩, st34⟩ := X31.virtualBack hx (y := (⟨"com/example/switchpoint/switchpoint/core/exec/OrdinalSet", "isAll", "()Z"⟩ : MethodName)) (z := (⟨"com/example/switchpoint/switchpoint/core/exec/OrdinalSet", "isAll", "()Z"⟩ : MethodName)) hown (mvT hZ (hw _ (List.mem_of_getElem? (i := 30) rfl))) (mvT hZ (hw _ (List.mem_of_getElem? (i := 31) rfl))) (notFace_of_selects (args := #[]) (mvT hZ (hw _ (List.mem_of_getElem? (i := 33) rfl)))) (mvT hZ (hw _ (List.mem_of_getElem? (i := 33) rfl))) (mvT hZ (hw _ (List.mem_of_getElem? (i := 32) rfl))) (by decide) (backOf (W := 0) (rm6 l Z a0 hw [] b26 aa dd b27 k27 (1 : Int32) [(.long aa)] (.long (0 : Int64)) T31.heap n0 Zn F_least_31 F_greatest_31 F_lows_31 V_b27) hZ (hw _ (List.mem_of_getElem? (i := 34) rfl)) (hw _ (List.mem_of_getElem? (i := 9) rfl)) (by decide) (by decide)) q34a q34c (g := (mkF m 310 #[.val (.long q1), .second, .val (.long q2), .second, .val (.long q3), .second, .val (.int p4), .val (.long aa), .second, .val (.long dd), .second, .val (.int sh), .val (.ref b26), .val (.int (1 : Int32)), .unset] [(.ref b26)])) rfl (by rw [hml]; rfl) (Steps.refl _) (argsL := []) (rest := []) (lenOf pd_3 rfl) rfl (by show 2 * 0 + _ ≤ _; exact Nat.le_of_eq rfl) (hb hby at_310) (fun _ _ => ⟨rfl, rfl, (by decide : 3 + 0 ≤ _), (by decide : 6 + 0 ≤ _)⟩)
          dsimp only [Pt.U, Pt.locs, Pt.cells, Pt.slots] at X34 l34 y34 z34 st34 hQ34
          subst l34 y34 z34
          obtain ⟨rfl, Nq34, hs34⟩ := hQ34
          have NN := Fr.app NN Nq34
          have pre : ∀ τ, Steps p.tables e below (T34.setTop (mkF m 313 #[.val (.long q1), .second, .val (.long q2), .second, .val (.long q3), .second, .val (.int p4), .val (.long aa), .second, .val (.long dd), .second, .val (.int sh), .val (.ref b26), .val (.int (1 : Int32)), .unset] [(.int (own_all aa dd (1 : Int32)))])) τ → G τ := fun τ κ => pre τ (st34.trans κ)
          have pre : ∀ τ, Steps p.tables e below (T34.setTop (mkF m 319 #[.val (.long q1), .second, .val (.long q2), .second, .val (.long q3), .second, .val (.int p4), .val (.long aa), .second, .val (.long dd), .second, .val (.int sh), .val (.ref b26), .val (.int (1 : Int32)), .val (.int (own_all aa dd (1 : Int32)))] [(.int (1 : Int32)), (.int (own_all aa dd (1 : Int32)))])) τ → G τ := fun τ κ => pre τ (by
            refine XS.istore X34.here hx rfl (hb hby at_313) rfl (l' := #[.val (.long q1), .second, .val (.long q2), .second, .val (.long q3), .second, .val (.int p4), .val (.long aa), .second, .val (.long dd), .second, .val (.int sh), .val (.ref b26), .val (.int (1 : Int32)), .val (.int (own_all aa dd (1 : Int32)))]) rfl ?_
            show Steps p.tables e below (T34.setTop (mkF m 315 #[.val (.long q1), .second, .val (.long q2), .second, .val (.long q3), .second, .val (.int p4), .val (.long aa), .second, .val (.long dd), .second, .val (.int sh), .val (.ref b26), .val (.int (1 : Int32)), .val (.int (own_all aa dd (1 : Int32)))] [])) τ
            refine XS.iload X34.here hx rfl (hb hby at_315) rfl ?_
            show Steps p.tables e below (T34.setTop (mkF m 317 #[.val (.long q1), .second, .val (.long q2), .second, .val (.long q3), .second, .val (.int p4), .val (.long aa), .second, .val (.long dd), .second, .val (.int sh), .val (.ref b26), .val (.int (1 : Int32)), .val (.int (own_all aa dd (1 : Int32)))] [(.int (own_all aa dd (1 : Int32)))])) τ
            refine XS.iload X34.here hx rfl (hb hby at_317) rfl ?_
            show Steps p.tables e below (T34.setTop (mkF m 319 #[.val (.long q1), .second, .val (.long q2), .second, .val (.long q3), .second, .val (.int p4), .val (.long aa), .second, .val (.long dd), .second, .val (.int sh), .val (.ref b26), .val (.int (1 : Int32)), .val (.int (own_all aa dd (1 : Int32)))] [(.int (1 : Int32)), (.int (own_all aa dd (1 : Int32)))])) τ
            exact κ)
          have hc35 : (own_all aa dd (1 : Int32)) = (1 : Int32) := (by simp [own_all, hc104_17, hc137_25, hc175_32, hc184_33])
          have pre : ∀ τ, Steps p.tables e below (T34.setTop (mkF m 324 #[.val (.long q1), .second, .val (.long q2), .second, .val (.long q3), .second, .val (.int p4), .val (.long aa), .second, .val (.long dd), .second, .val (.int sh), .val (.ref b26), .val (.int (1 : Int32)), .val (.int (own_all aa dd (1 : Int32)))] [(.int (own_all aa dd (1 : Int32)))])) τ → G τ := fun τ κ => pre τ (by
            refine XS.icmpNo X34.here hx rfl (hb hby at_319) rfl (teq hc35).2 ?_
            show Steps p.tables e below (T34.setTop (mkF m 322 #[.val (.long q1), .second, .val (.long q2), .second, .val (.long q3), .second, .val (.int p4), .val (.long aa), .second, .val (.long dd), .second, .val (.int sh), .val (.ref b26), .val (.int (1 : Int32)), .val (.int (own_all aa dd (1 : Int32)))] [])) τ
            refine XS.iload X34.here hx rfl (hb hby at_322) rfl ?_
            show Steps p.tables e below (T34.setTop (mkF m 324 #[.val (.long q1), .second, .val (.long q2), .second, .val (.long q3), .second, .val (.int p4), .val (.long aa), .second, .val (.long dd), .second, .val (.int sh), .val (.ref b26), .val (.int (1 : Int32)), .val (.int (own_all aa dd (1 : Int32)))] [(.int (own_all aa dd (1 : Int32)))])) τ
            exact κ)
          have hc36 : ¬ ((own_all aa dd (1 : Int32)) = (0 : Int32)) := (by simp [own_all, hc104_17, hc137_25, hc175_32, hc184_33, hc35])
          have pre : ∀ τ, Steps p.tables e below (T34.setTop (mkF m 331 #[.val (.long q1), .second, .val (.long q2), .second, .val (.long q3), .second, .val (.int p4), .val (.long aa), .second, .val (.long dd), .second, .val (.int sh), .val (.ref b26), .val (.int (1 : Int32)), .val (.int (own_all aa dd (1 : Int32)))] [(.long q3), (.ref b26)])) τ → G τ := fun τ κ => pre τ (by
            refine XS.ifNo X34.here hx rfl (hb hby at_324) rfl ((if0 _ _).trans (feq hc36).1) ?_
            show Steps p.tables e below (T34.setTop (mkF m 327 #[.val (.long q1), .second, .val (.long q2), .second, .val (.long q3), .second, .val (.int p4), .val (.long aa), .second, .val (.long dd), .second, .val (.int sh), .val (.ref b26), .val (.int (1 : Int32)), .val (.int (own_all aa dd (1 : Int32)))] [])) τ
            refine XS.aload X34.here hx rfl (hb hby at_327) rfl rfl ?_
            show Steps p.tables e below (T34.setTop (mkF m 329 #[.val (.long q1), .second, .val (.long q2), .second, .val (.long q3), .second, .val (.int p4), .val (.long aa), .second, .val (.long dd), .second, .val (.int sh), .val (.ref b26), .val (.int (1 : Int32)), .val (.int (own_all aa dd (1 : Int32)))] [(.ref b26)])) τ
            refine XS.lload X34.here hx rfl (hb hby at_329) rfl ?_
            show Steps p.tables e below (T34.setTop (mkF m 331 #[.val (.long q1), .second, .val (.long q2), .second, .val (.long q3), .second, .val (.int p4), .val (.long aa), .second, .val (.long dd), .second, .val (.int sh), .val (.ref b26), .val (.int (1 : Int32)), .val (.int (own_all aa dd (1 : Int32)))] [(.long q3), (.ref b26)])) τ
            exact κ)
          obtain ⟨cq37, kq37, q37a, q37b, q37c⟩ := isOf hZ hs34 E_b26
          obtain ⟨_, _, ⟨T37, Lx37, kx37, nx37⟩, -, X37, ⟨Lc37, hQ37, l37, y37, z37⟩, st37⟩ := X34.virtualBack hx (y := (⟨"com/example/switchpoint/switchpoint/core/exec/OrdinalSet", "contains", "(J)Z"⟩ : MethodName)) (z := (⟨"com/example/switchpoint/switchpoint/core/exec/OrdinalSet", "contains", "(J)Z"⟩ : MethodName)) hown (mvT hZ (hw _ (List.mem_of_getElem? (i := 42) rfl))) (mvT hZ (hw _ (List.mem_of_getElem? (i := 43) rfl))) (notFace_of_selects (args := #[]) (mvT hZ (hw _ (List.mem_of_getElem? (i := 45) rfl)))) (mvT hZ (hw _ (List.mem_of_getElem? (i := 45) rfl))) (mvT hZ (hw _ (List.mem_of_getElem? (i := 44) rfl))) (by decide) (backOf (W := 0) (rm7 l Z a0 hw [] b26 q3 aa dd b27 k27 (1 : Int32) [(.long aa)] (.long (0 : Int64)) T31.heap n0 Zn F_least_31 F_greatest_31 F_lows_31 V_b27 (by decide : (1 : Int32) = (1 : Int32))) hZ (hw _ (List.mem_of_getElem? (i := 46) rfl)) (hw _ (List.mem_of_getElem? (i := 9) rfl)) (by decide) (by decide)) q37a q37c (g := (mkF m 331 #[.val (.long q1), .second, .val (.long q2), .second, .val (.long q3), .second, .val (.int p4), .val (.long aa), .second, .val (.long dd), .second, .val (.int sh), .val (.ref b26), .val (.int (1 : Int32)), .val (.int (own_all aa dd (1 : Int32)))] [(.long q3), (.ref b26)])) rfl (by rw [hml]; rfl) (Steps.refl _) (argsL := [(.long q3)]) (rest := []) (lenOf pd_4 rfl) rfl (by show 2 * 0 + _ ≤ _; exact Nat.le_of_eq rfl) (hb hby at_331) (fun _ _ => ⟨rfl, hs34, (by decide : 3 + 0 ≤ _), (by decide : 6 + 0 ≤ _)⟩)
          dsimp only [Pt.U, Pt.locs, Pt.cells, Pt.slots] at X37 l37 y37 z37 st37 hQ37
          subst l37 y37 z37
          obtain ⟨rfl, Nq37, hs37⟩ := hQ37
          have NN := Fr.app NN Nq37
          have pre : ∀ τ, Steps p.tables e below (T37.setTop (mkF m 334 #[.val (.long q1), .second, .val (.long q2), .second, .val (.long q3), .second, .val (.int p4), .val (.long aa), .second, .val (.long dd), .second, .val (.int sh), .val (.ref b26), .val (.int (1 : Int32)), .val (.int (own_all aa dd (1 : Int32)))] [(.int (own_con aa dd q3))])) τ → G τ := fun τ κ => pre τ (st37.trans κ)
          have hc38 : ¬ ((own_con aa dd q3) = (0 : Int32)) := own_conall _ hc175_32 hc184_33
          have pre : ∀ τ, Steps p.tables e below (T37.setTop (mkF m 342 #[.val (.long q1), .second, .val (.long q2), .second, .val (.long q3), .second, .val (.int p4), .val (.long aa), .second, .val (.long dd), .second, .val (.int sh), .val (.ref b26), .val (.int (1 : Int32)), .val (.int (own_all aa dd (1 : Int32)))] [(.int (1 : Int32))])) τ → G τ := fun τ κ => pre τ (by
            refine XS.ifNo X37.here hx rfl (hb hby at_334) rfl ((if0 _ _).trans (feq hc38).1) ?_
            show Steps p.tables e below (T37.setTop (mkF m 337 #[.val (.long q1), .second, .val (.long q2), .second, .val (.long q3), .second, .val (.int p4), .val (.long aa), .second, .val (.long dd), .second, .val (.int sh), .val (.ref b26), .val (.int (1 : Int32)), .val (.int (own_all aa dd (1 : Int32)))] [])) τ
            refine XS.iconst X37.here hx rfl (hb hby at_337) ?_
            show Steps p.tables e below (T37.setTop (mkF m 338 #[.val (.long q1), .second, .val (.long q2), .second, .val (.long q3), .second, .val (.int p4), .val (.long aa), .second, .val (.long dd), .second, .val (.int sh), .val (.ref b26), .val (.int (1 : Int32)), .val (.int (own_all aa dd (1 : Int32)))] [(.int (1 : Int32))])) τ
            refine XS.goto X37.here hx rfl (pc0 := 338) (pc' := 342) rfl (hb hby at_338) (by decide) (by decide) ?_
            show Steps p.tables e below (T37.setTop (mkF m 342 #[.val (.long q1), .second, .val (.long q2), .second, .val (.long q3), .second, .val (.int p4), .val (.long aa), .second, .val (.long dd), .second, .val (.int sh), .val (.ref b26), .val (.int (1 : Int32)), .val (.int (own_all aa dd (1 : Int32)))] [(.int (1 : Int32))])) τ
            exact κ)
          obtain ⟨fs, hr, hrun, hended, hW, hsame⟩ := X37.leave (v := some (.int (1 : Int32))) (fun h => by rw [Bd.returns] at h; cases h)
          refine hGL ⟨_, _, hG _ (pre _ ?_), hrun, hended, _, _, rfl, ?_, ⟨_, rfl⟩, hW, hsame.mono (by decide) (by decide)⟩
          · exact retN X37 hx (t := .boolean) Bd.returns (by simp) (hb hby at_342) hr
          · show Q0 Z q1 q2 q3 p4 h0 n0 _ T37.heap _
            rw [hs37]
            exact ⟨rfl, NN⟩
        ·
          have pre : ∀ τ, Steps p.tables e below (T31.setTop (mkF m 310 #[.val (.long q1), .second, .val (.long q2), .second, .val (.long q3), .second, .val (.int p4), .val (.long aa), .second, .val (.long dd), .second, .val (.int sh), .val (.ref b26), .val (.int (0 : Int32)), .unset] [(.ref b26)])) τ → G τ := fun τ κ => pre τ (by
            refine XS.ifYes X31.here hx rfl (pc0 := 184) (pc' := 191) rfl (hb hby at_184) rfl ((if0 _ _).trans (feq (fun q => hc184_33 ((lw_eq _ _).mp q))).2) (by decide) (by decide) ?_
            show Steps p.tables e below (T31.setTop (mkF m 191 #[.val (.long q1), .second, .val (.long q2), .second, .val (.long q3), .second, .val (.int p4), .val (.long aa), .second, .val (.long dd), .second, .val (.int sh), .val (.ref b26), .unset, .unset] [])) τ
            refine XS.iconst X31.here hx rfl (hb hby at_191) ?_
            show Steps p.tables e below (T31.setTop (mkF m 192 #[.val (.long q1), .second, .val (.long q2), .second, .val (.long q3), .second, .val (.int p4), .val (.long aa), .second, .val (.long dd), .second, .val (.int sh), .val (.ref b26), .unset, .unset] [(.int (0 : Int32))])) τ
            refine XS.istore X31.here hx rfl (hb hby at_192) rfl (l' := #[.val (.long q1), .second, .val (.long q2), .second, .val (.long q3), .second, .val (.int p4), .val (.long aa), .second, .val (.long dd), .second, .val (.int sh), .val (.ref b26), .val (.int (0 : Int32)), .unset]) rfl ?_
            show Steps p.tables e below (T31.setTop (mkF m 194 #[.val (.long q1), .second, .val (.long q2), .second, .val (.long q3), .second, .val (.int p4), .val (.long aa), .second, .val (.long dd), .second, .val (.int sh), .val (.ref b26), .val (.int (0 : Int32)), .unset] [])) τ
            refine XS.goto X31.here hx rfl (pc0 := 194) (pc' := 308) rfl (hb hby at_194) (by decide) (by decide) ?_
            show Steps p.tables e below (T31.setTop (mkF m 308 #[.val (.long q1), .second, .val (.long q2), .second, .val (.long q3), .second, .val (.int p4), .val (.long aa), .second, .val (.long dd), .second, .val (.int sh), .val (.ref b26), .val (.int (0 : Int32)), .unset] [])) τ
            refine XS.aload X31.here hx rfl (hb hby at_308) rfl rfl ?_
            show Steps p.tables e below (T31.setTop (mkF m 310 #[.val (.long q1), .second, .val (.long q2), .second, .val (.long q3), .second, .val (.int p4), .val (.long aa), .second, .val (.long dd), .second, .val (.int sh), .val (.ref b26), .val (.int (0 : Int32)), .unset] [(.ref b26)])) τ
            exact κ)
          obtain ⟨cq39, kq39, q39a, q39b, q39c⟩ := isOf hZ rfl E_b26
          obtain ⟨_, _, ⟨T39, Lx39, kx39, nx39⟩, -, X39, ⟨Lc39, hQ39, l39, y39, z39⟩, st39⟩ := X31.virtualBack hx (y := (⟨"com/example/switchpoint/switchpoint/core/exec/OrdinalSet", "isAll", "()Z"⟩ : MethodName)) (z := (⟨"com/example/switchpoint/switchpoint/core/exec/OrdinalSet", "isAll", "()Z"⟩ : MethodName)) hown (mvT hZ (hw _ (List.mem_of_getElem? (i := 30) rfl))) (mvT hZ (hw _ (List.mem_of_getElem? (i := 31) rfl))) (notFace_of_selects (args := #[]) (mvT hZ (hw _ (List.mem_of_getElem? (i := 33) rfl)))) (mvT hZ (hw _ (List.mem_of_getElem? (i := 33) rfl))) (mvT hZ (hw _ (List.mem_of_getElem? (i := 32) rfl))) (by decide) (backOf (W := 0) (rm6 l Z a0 hw [] b26 aa dd b27 k27 (1 : Int32) [(.long aa)] (.long (0 : Int64)) T31.heap n0 Zn F_least_31 F_greatest_31 F_lows_31 V_b27) hZ (hw _ (List.mem_of_getElem? (i := 34) rfl)) (hw _ (List.mem_of_getElem? (i := 9) rfl)) (by decide) (by decide)) q39a q39c (g := (mkF m 310 #[.val (.long q1), .second, .val (.long q2), .second, .val (.long q3), .second, .val (.int p4), .val (.long aa), .second, .val (.long dd), .second, .val (.int sh), .val (.ref b26), .val (.int (0 : Int32)), .unset] [(.ref b26)])) rfl (by rw [hml]; rfl) (Steps.refl _) (argsL := []) (rest := []) (lenOf pd_3 rfl) rfl (by show 2 * 0 + _ ≤ _; exact Nat.le_of_eq rfl) (hb hby at_310) (fun _ _ => ⟨rfl, rfl, (by decide : 3 + 0 ≤ _), (by decide : 6 + 0 ≤ _)⟩)
          dsimp only [Pt.U, Pt.locs, Pt.cells, Pt.slots] at X39 l39 y39 z39 st39 hQ39
          subst l39 y39 z39
          obtain ⟨rfl, Nq39, hs39⟩ := hQ39
          have NN := Fr.app NN Nq39
          have pre : ∀ τ, Steps p.tables e below (T39.setTop (mkF m 313 #[.val (.long q1), .second, .val (.long q2), .second, .val (.long q3), .second, .val (.int p4), .val (.long aa), .second, .val (.long dd), .second, .val (.int sh), .val (.ref b26), .val (.int (0 : Int32)), .unset] [(.int (own_all aa dd (1 : Int32)))])) τ → G τ := fun τ κ => pre τ (st39.trans κ)
          have pre : ∀ τ, Steps p.tables e below (T39.setTop (mkF m 319 #[.val (.long q1), .second, .val (.long q2), .second, .val (.long q3), .second, .val (.int p4), .val (.long aa), .second, .val (.long dd), .second, .val (.int sh), .val (.ref b26), .val (.int (0 : Int32)), .val (.int (own_all aa dd (1 : Int32)))] [(.int (0 : Int32)), (.int (own_all aa dd (1 : Int32)))])) τ → G τ := fun τ κ => pre τ (by
            refine XS.istore X39.here hx rfl (hb hby at_313) rfl (l' := #[.val (.long q1), .second, .val (.long q2), .second, .val (.long q3), .second, .val (.int p4), .val (.long aa), .second, .val (.long dd), .second, .val (.int sh), .val (.ref b26), .val (.int (0 : Int32)), .val (.int (own_all aa dd (1 : Int32)))]) rfl ?_
            show Steps p.tables e below (T39.setTop (mkF m 315 #[.val (.long q1), .second, .val (.long q2), .second, .val (.long q3), .second, .val (.int p4), .val (.long aa), .second, .val (.long dd), .second, .val (.int sh), .val (.ref b26), .val (.int (0 : Int32)), .val (.int (own_all aa dd (1 : Int32)))] [])) τ
            refine XS.iload X39.here hx rfl (hb hby at_315) rfl ?_
            show Steps p.tables e below (T39.setTop (mkF m 317 #[.val (.long q1), .second, .val (.long q2), .second, .val (.long q3), .second, .val (.int p4), .val (.long aa), .second, .val (.long dd), .second, .val (.int sh), .val (.ref b26), .val (.int (0 : Int32)), .val (.int (own_all aa dd (1 : Int32)))] [(.int (own_all aa dd (1 : Int32)))])) τ
            refine XS.iload X39.here hx rfl (hb hby at_317) rfl ?_
            show Steps p.tables e below (T39.setTop (mkF m 319 #[.val (.long q1), .second, .val (.long q2), .second, .val (.long q3), .second, .val (.int p4), .val (.long aa), .second, .val (.long dd), .second, .val (.int sh), .val (.ref b26), .val (.int (0 : Int32)), .val (.int (own_all aa dd (1 : Int32)))] [(.int (0 : Int32)), (.int (own_all aa dd (1 : Int32)))])) τ
            exact κ)
          have hc40 : (own_all aa dd (1 : Int32)) = (0 : Int32) := (by simp [own_all, hc104_17, hc137_25, hc175_32, hc184_33])
          have pre : ∀ τ, Steps p.tables e below (T39.setTop (mkF m 324 #[.val (.long q1), .second, .val (.long q2), .second, .val (.long q3), .second, .val (.int p4), .val (.long aa), .second, .val (.long dd), .second, .val (.int sh), .val (.ref b26), .val (.int (0 : Int32)), .val (.int (own_all aa dd (1 : Int32)))] [(.int (own_all aa dd (1 : Int32)))])) τ → G τ := fun τ κ => pre τ (by
            refine XS.icmpNo X39.here hx rfl (hb hby at_319) rfl (teq hc40).2 ?_
            show Steps p.tables e below (T39.setTop (mkF m 322 #[.val (.long q1), .second, .val (.long q2), .second, .val (.long q3), .second, .val (.int p4), .val (.long aa), .second, .val (.long dd), .second, .val (.int sh), .val (.ref b26), .val (.int (0 : Int32)), .val (.int (own_all aa dd (1 : Int32)))] [])) τ
            refine XS.iload X39.here hx rfl (hb hby at_322) rfl ?_
            show Steps p.tables e below (T39.setTop (mkF m 324 #[.val (.long q1), .second, .val (.long q2), .second, .val (.long q3), .second, .val (.int p4), .val (.long aa), .second, .val (.long dd), .second, .val (.int sh), .val (.ref b26), .val (.int (0 : Int32)), .val (.int (own_all aa dd (1 : Int32)))] [(.int (own_all aa dd (1 : Int32)))])) τ
            exact κ)
          have hc41 : (own_all aa dd (1 : Int32)) = (0 : Int32) := (by simp [own_all, hc104_17, hc137_25, hc175_32, hc184_33, hc40])
          have pre : ∀ τ, Steps p.tables e below (T39.setTop (mkF m 342 #[.val (.long q1), .second, .val (.long q2), .second, .val (.long q3), .second, .val (.int p4), .val (.long aa), .second, .val (.long dd), .second, .val (.int sh), .val (.ref b26), .val (.int (0 : Int32)), .val (.int (own_all aa dd (1 : Int32)))] [(.int (1 : Int32))])) τ → G τ := fun τ κ => pre τ (by
            refine XS.ifYes X39.here hx rfl (pc0 := 324) (pc' := 337) rfl (hb hby at_324) rfl ((if0 _ _).trans (teq hc41).1) (by decide) (by decide) ?_
            show Steps p.tables e below (T39.setTop (mkF m 337 #[.val (.long q1), .second, .val (.long q2), .second, .val (.long q3), .second, .val (.int p4), .val (.long aa), .second, .val (.long dd), .second, .val (.int sh), .val (.ref b26), .val (.int (0 : Int32)), .val (.int (own_all aa dd (1 : Int32)))] [])) τ
            refine XS.iconst X39.here hx rfl (hb hby at_337) ?_
            show Steps p.tables e below (T39.setTop (mkF m 338 #[.val (.long q1), .second, .val (.long q2), .second, .val (.long q3), .second, .val (.int p4), .val (.long aa), .second, .val (.long dd), .second, .val (.int sh), .val (.ref b26), .val (.int (0 : Int32)), .val (.int (own_all aa dd (1 : Int32)))] [(.int (1 : Int32))])) τ
            refine XS.goto X39.here hx rfl (pc0 := 338) (pc' := 342) rfl (hb hby at_338) (by decide) (by decide) ?_
            show Steps p.tables e below (T39.setTop (mkF m 342 #[.val (.long q1), .second, .val (.long q2), .second, .val (.long q3), .second, .val (.int p4), .val (.long aa), .second, .val (.long dd), .second, .val (.int sh), .val (.ref b26), .val (.int (0 : Int32)), .val (.int (own_all aa dd (1 : Int32)))] [(.int (1 : Int32))])) τ
            exact κ)
          obtain ⟨fs, hr, hrun, hended, hW, hsame⟩ := X39.leave (v := some (.int (1 : Int32))) (fun h => by rw [Bd.returns] at h; cases h)
          refine hGL ⟨_, _, hG _ (pre _ ?_), hrun, hended, _, _, rfl, ?_, ⟨_, rfl⟩, hW, hsame.mono (by decide) (by decide)⟩
          · exact retN X39 hx (t := .boolean) Bd.returns (by simp) (hb hby at_342) hr
          · show Q0 Z q1 q2 q3 p4 h0 n0 _ T39.heap _
            rw [hs39]
            exact ⟨rfl, NN⟩
      ·
        have pre : ∀ τ, Steps p.tables e below (T31.setTop (mkF m 310 #[.val (.long q1), .second, .val (.long q2), .second, .val (.long q3), .second, .val (.int p4), .val (.long aa), .second, .val (.long dd), .second, .val (.int sh), .val (.ref b26), .val (.int (0 : Int32)), .unset] [(.ref b26)])) τ → G τ := fun τ κ => pre τ (by
          refine XS.ifYes X31.here hx rfl (pc0 := 175) (pc' := 191) rfl (hb hby at_175) rfl ((if0 _ _).trans (feq (fun q => hc175_32 ((lw_eq _ _).mp q))).2) (by decide) (by decide) ?_
          show Steps p.tables e below (T31.setTop (mkF m 191 #[.val (.long q1), .second, .val (.long q2), .second, .val (.long q3), .second, .val (.int p4), .val (.long aa), .second, .val (.long dd), .second, .val (.int sh), .val (.ref b26), .unset, .unset] [])) τ
          refine XS.iconst X31.here hx rfl (hb hby at_191) ?_
          show Steps p.tables e below (T31.setTop (mkF m 192 #[.val (.long q1), .second, .val (.long q2), .second, .val (.long q3), .second, .val (.int p4), .val (.long aa), .second, .val (.long dd), .second, .val (.int sh), .val (.ref b26), .unset, .unset] [(.int (0 : Int32))])) τ
          refine XS.istore X31.here hx rfl (hb hby at_192) rfl (l' := #[.val (.long q1), .second, .val (.long q2), .second, .val (.long q3), .second, .val (.int p4), .val (.long aa), .second, .val (.long dd), .second, .val (.int sh), .val (.ref b26), .val (.int (0 : Int32)), .unset]) rfl ?_
          show Steps p.tables e below (T31.setTop (mkF m 194 #[.val (.long q1), .second, .val (.long q2), .second, .val (.long q3), .second, .val (.int p4), .val (.long aa), .second, .val (.long dd), .second, .val (.int sh), .val (.ref b26), .val (.int (0 : Int32)), .unset] [])) τ
          refine XS.goto X31.here hx rfl (pc0 := 194) (pc' := 308) rfl (hb hby at_194) (by decide) (by decide) ?_
          show Steps p.tables e below (T31.setTop (mkF m 308 #[.val (.long q1), .second, .val (.long q2), .second, .val (.long q3), .second, .val (.int p4), .val (.long aa), .second, .val (.long dd), .second, .val (.int sh), .val (.ref b26), .val (.int (0 : Int32)), .unset] [])) τ
          refine XS.aload X31.here hx rfl (hb hby at_308) rfl rfl ?_
          show Steps p.tables e below (T31.setTop (mkF m 310 #[.val (.long q1), .second, .val (.long q2), .second, .val (.long q3), .second, .val (.int p4), .val (.long aa), .second, .val (.long dd), .second, .val (.int sh), .val (.ref b26), .val (.int (0 : Int32)), .unset] [(.ref b26)])) τ
          exact κ)
        obtain ⟨cq42, kq42, q42a, q42b, q42c⟩ := isOf hZ rfl E_b26
        obtain ⟨_, _, ⟨T42, Lx42, kx42, nx42⟩, -, X42, ⟨Lc42, hQ42, l42, y42, z42⟩, st42⟩ := X31.virtualBack hx (y := (⟨"com/example/switchpoint/switchpoint/core/exec/OrdinalSet", "isAll", "()Z"⟩ : MethodName)) (z := (⟨"com/example/switchpoint/switchpoint/core/exec/OrdinalSet", "isAll", "()Z"⟩ : MethodName)) hown (mvT hZ (hw _ (List.mem_of_getElem? (i := 30) rfl))) (mvT hZ (hw _ (List.mem_of_getElem? (i := 31) rfl))) (notFace_of_selects (args := #[]) (mvT hZ (hw _ (List.mem_of_getElem? (i := 33) rfl)))) (mvT hZ (hw _ (List.mem_of_getElem? (i := 33) rfl))) (mvT hZ (hw _ (List.mem_of_getElem? (i := 32) rfl))) (by decide) (backOf (W := 0) (rm6 l Z a0 hw [] b26 aa dd b27 k27 (1 : Int32) [(.long aa)] (.long (0 : Int64)) T31.heap n0 Zn F_least_31 F_greatest_31 F_lows_31 V_b27) hZ (hw _ (List.mem_of_getElem? (i := 34) rfl)) (hw _ (List.mem_of_getElem? (i := 9) rfl)) (by decide) (by decide)) q42a q42c (g := (mkF m 310 #[.val (.long q1), .second, .val (.long q2), .second, .val (.long q3), .second, .val (.int p4), .val (.long aa), .second, .val (.long dd), .second, .val (.int sh), .val (.ref b26), .val (.int (0 : Int32)), .unset] [(.ref b26)])) rfl (by rw [hml]; rfl) (Steps.refl _) (argsL := []) (rest := []) (lenOf pd_3 rfl) rfl (by show 2 * 0 + _ ≤ _; exact Nat.le_of_eq rfl) (hb hby at_310) (fun _ _ => ⟨rfl, rfl, (by decide : 3 + 0 ≤ _), (by decide : 6 + 0 ≤ _)⟩)
        dsimp only [Pt.U, Pt.locs, Pt.cells, Pt.slots] at X42 l42 y42 z42 st42 hQ42
        subst l42 y42 z42
        obtain ⟨rfl, Nq42, hs42⟩ := hQ42
        have NN := Fr.app NN Nq42
        have pre : ∀ τ, Steps p.tables e below (T42.setTop (mkF m 313 #[.val (.long q1), .second, .val (.long q2), .second, .val (.long q3), .second, .val (.int p4), .val (.long aa), .second, .val (.long dd), .second, .val (.int sh), .val (.ref b26), .val (.int (0 : Int32)), .unset] [(.int (own_all aa dd (1 : Int32)))])) τ → G τ := fun τ κ => pre τ (st42.trans κ)
        have pre : ∀ τ, Steps p.tables e below (T42.setTop (mkF m 319 #[.val (.long q1), .second, .val (.long q2), .second, .val (.long q3), .second, .val (.int p4), .val (.long aa), .second, .val (.long dd), .second, .val (.int sh), .val (.ref b26), .val (.int (0 : Int32)), .val (.int (own_all aa dd (1 : Int32)))] [(.int (0 : Int32)), (.int (own_all aa dd (1 : Int32)))])) τ → G τ := fun τ κ => pre τ (by
          refine XS.istore X42.here hx rfl (hb hby at_313) rfl (l' := #[.val (.long q1), .second, .val (.long q2), .second, .val (.long q3), .second, .val (.int p4), .val (.long aa), .second, .val (.long dd), .second, .val (.int sh), .val (.ref b26), .val (.int (0 : Int32)), .val (.int (own_all aa dd (1 : Int32)))]) rfl ?_
          show Steps p.tables e below (T42.setTop (mkF m 315 #[.val (.long q1), .second, .val (.long q2), .second, .val (.long q3), .second, .val (.int p4), .val (.long aa), .second, .val (.long dd), .second, .val (.int sh), .val (.ref b26), .val (.int (0 : Int32)), .val (.int (own_all aa dd (1 : Int32)))] [])) τ
          refine XS.iload X42.here hx rfl (hb hby at_315) rfl ?_
          show Steps p.tables e below (T42.setTop (mkF m 317 #[.val (.long q1), .second, .val (.long q2), .second, .val (.long q3), .second, .val (.int p4), .val (.long aa), .second, .val (.long dd), .second, .val (.int sh), .val (.ref b26), .val (.int (0 : Int32)), .val (.int (own_all aa dd (1 : Int32)))] [(.int (own_all aa dd (1 : Int32)))])) τ
          refine XS.iload X42.here hx rfl (hb hby at_317) rfl ?_
          show Steps p.tables e below (T42.setTop (mkF m 319 #[.val (.long q1), .second, .val (.long q2), .second, .val (.long q3), .second, .val (.int p4), .val (.long aa), .second, .val (.long dd), .second, .val (.int sh), .val (.ref b26), .val (.int (0 : Int32)), .val (.int (own_all aa dd (1 : Int32)))] [(.int (0 : Int32)), (.int (own_all aa dd (1 : Int32)))])) τ
          exact κ)
        have hc43 : (own_all aa dd (1 : Int32)) = (0 : Int32) := (by simp [own_all, hc104_17, hc137_25, hc175_32])
        have pre : ∀ τ, Steps p.tables e below (T42.setTop (mkF m 324 #[.val (.long q1), .second, .val (.long q2), .second, .val (.long q3), .second, .val (.int p4), .val (.long aa), .second, .val (.long dd), .second, .val (.int sh), .val (.ref b26), .val (.int (0 : Int32)), .val (.int (own_all aa dd (1 : Int32)))] [(.int (own_all aa dd (1 : Int32)))])) τ → G τ := fun τ κ => pre τ (by
          refine XS.icmpNo X42.here hx rfl (hb hby at_319) rfl (teq hc43).2 ?_
          show Steps p.tables e below (T42.setTop (mkF m 322 #[.val (.long q1), .second, .val (.long q2), .second, .val (.long q3), .second, .val (.int p4), .val (.long aa), .second, .val (.long dd), .second, .val (.int sh), .val (.ref b26), .val (.int (0 : Int32)), .val (.int (own_all aa dd (1 : Int32)))] [])) τ
          refine XS.iload X42.here hx rfl (hb hby at_322) rfl ?_
          show Steps p.tables e below (T42.setTop (mkF m 324 #[.val (.long q1), .second, .val (.long q2), .second, .val (.long q3), .second, .val (.int p4), .val (.long aa), .second, .val (.long dd), .second, .val (.int sh), .val (.ref b26), .val (.int (0 : Int32)), .val (.int (own_all aa dd (1 : Int32)))] [(.int (own_all aa dd (1 : Int32)))])) τ
          exact κ)
        have hc44 : (own_all aa dd (1 : Int32)) = (0 : Int32) := (by simp [own_all, hc104_17, hc137_25, hc175_32, hc43])
        have pre : ∀ τ, Steps p.tables e below (T42.setTop (mkF m 342 #[.val (.long q1), .second, .val (.long q2), .second, .val (.long q3), .second, .val (.int p4), .val (.long aa), .second, .val (.long dd), .second, .val (.int sh), .val (.ref b26), .val (.int (0 : Int32)), .val (.int (own_all aa dd (1 : Int32)))] [(.int (1 : Int32))])) τ → G τ := fun τ κ => pre τ (by
          refine XS.ifYes X42.here hx rfl (pc0 := 324) (pc' := 337) rfl (hb hby at_324) rfl ((if0 _ _).trans (teq hc44).1) (by decide) (by decide) ?_
          show Steps p.tables e below (T42.setTop (mkF m 337 #[.val (.long q1), .second, .val (.long q2), .second, .val (.long q3), .second, .val (.int p4), .val (.long aa), .second, .val (.long dd), .second, .val (.int sh), .val (.ref b26), .val (.int (0 : Int32)), .val (.int (own_all aa dd (1 : Int32)))] [])) τ
          refine XS.iconst X42.here hx rfl (hb hby at_337) ?_
          show Steps p.tables e below (T42.setTop (mkF m 338 #[.val (.long q1), .second, .val (.long q2), .second, .val (.long q3), .second, .val (.int p4), .val (.long aa), .second, .val (.long dd), .second, .val (.int sh), .val (.ref b26), .val (.int (0 : Int32)), .val (.int (own_all aa dd (1 : Int32)))] [(.int (1 : Int32))])) τ
          refine XS.goto X42.here hx rfl (pc0 := 338) (pc' := 342) rfl (hb hby at_338) (by decide) (by decide) ?_
          show Steps p.tables e below (T42.setTop (mkF m 342 #[.val (.long q1), .second, .val (.long q2), .second, .val (.long q3), .second, .val (.int p4), .val (.long aa), .second, .val (.long dd), .second, .val (.int sh), .val (.ref b26), .val (.int (0 : Int32)), .val (.int (own_all aa dd (1 : Int32)))] [(.int (1 : Int32))])) τ
          exact κ)
        obtain ⟨fs, hr, hrun, hended, hW, hsame⟩ := X42.leave (v := some (.int (1 : Int32))) (fun h => by rw [Bd.returns] at h; cases h)
        refine hGL ⟨_, _, hG _ (pre _ ?_), hrun, hended, _, _, rfl, ?_, ⟨_, rfl⟩, hW, hsame.mono (by decide) (by decide)⟩
        · exact retN X42 hx (t := .boolean) Bd.returns (by simp) (hb hby at_342) hr
        · show Q0 Z q1 q2 q3 p4 h0 n0 _ T42.heap _
          rw [hs42]
          exact ⟨rfl, NN⟩
    ·
      have pre : ∀ τ, Steps p.tables e below (T2.setTop (mkF m 200 #[.val (.long q1), .second, .val (.long q2), .second, .val (.long q3), .second, .val (.int p4), .val (.long aa), .second, .val (.long dd), .second, .val (.int sh), .unset, .unset, .unset] [(.int (2 : Int32)), (.int sh)])) τ → G τ := fun τ κ => pre τ (by
        refine XS.icmpYes X2.here hx rfl (pc0 := 137) (pc' := 197) rfl (hb hby at_137) rfl (feq hc137_25).2 (by decide) (by decide) ?_
        show Steps p.tables e below (T2.setTop (mkF m 197 #[.val (.long q1), .second, .val (.long q2), .second, .val (.long q3), .second, .val (.int p4), .val (.long aa), .second, .val (.long dd), .second, .val (.int sh), .unset, .unset, .unset] [])) τ
        refine XS.iload X2.here hx rfl (hb hby at_197) rfl ?_
        show Steps p.tables e below (T2.setTop (mkF m 199 #[.val (.long q1), .second, .val (.long q2), .second, .val (.long q3), .second, .val (.int p4), .val (.long aa), .second, .val (.long dd), .second, .val (.int sh), .unset, .unset, .unset] [(.int sh)])) τ
        refine XS.iconst X2.here hx rfl (hb hby at_199) ?_
        show Steps p.tables e below (T2.setTop (mkF m 200 #[.val (.long q1), .second, .val (.long q2), .second, .val (.long q3), .second, .val (.int p4), .val (.long aa), .second, .val (.long dd), .second, .val (.int sh), .unset, .unset, .unset] [(.int (2 : Int32)), (.int sh)])) τ
        exact κ)
      rcases Classical.em (sh = (2 : Int32)) with hc200_45 | hc200_45
      ·
        have pre : ∀ τ, Steps p.tables e below (T2.setTop (mkF m 203 #[.val (.long q1), .second, .val (.long q2), .second, .val (.long q3), .second, .val (.int p4), .val (.long aa), .second, .val (.long dd), .second, .val (.int sh), .unset, .unset, .unset] [])) τ → G τ := fun τ κ => pre τ (by
          refine XS.icmpNo X2.here hx rfl (hb hby at_200) rfl (teq hc200_45).2 ?_
          show Steps p.tables e below (T2.setTop (mkF m 203 #[.val (.long q1), .second, .val (.long q2), .second, .val (.long q3), .second, .val (.int p4), .val (.long aa), .second, .val (.long dd), .second, .val (.int sh), .unset, .unset, .unset] [])) τ
          exact κ)
        obtain ⟨T46, h46, X46, e46, E46, A46, D46, -, st46⟩ := newO X2 hx hZ hown (hw _ (List.mem_of_getElem? (i := 7) rfl)) (hw _ (List.mem_of_getElem? (i := 8) rfl)) (hw _ (List.mem_of_getElem? (i := 9) rfl)) hs2 (g := (mkF m 203 #[.val (.long q1), .second, .val (.long q2), .second, .val (.long q3), .second, .val (.int p4), .val (.long aa), .second, .val (.long dd), .second, .val (.int sh), .unset, .unset, .unset] [])) rfl (hb hby at_203) (by decide) (by decide)
        obtain ⟨b46, gg46⟩ : ∃ z, z = h0.size := ⟨_, rfl⟩
        rw [← gg46] at A46 D46 st46
        have g_b46 : n0 ≤ b46 := Nat.le_trans Zn (Nat.le_of_eq gg46.symm)
        have Zn : n0 ≤ h46.size := Nat.le_trans Zn E46.1
        have F_least_b46 : Fld Z h46 b46 "com/example/switchpoint/switchpoint/core/exec/OrdinalSet" "least" "J" (.long (0 : Int64)) := D46 (Or.inr (hw _ (List.mem_of_getElem? (i := 23) rfl))) (ty := .long) (by decide)
        have F_greatest_b46 : Fld Z h46 b46 "com/example/switchpoint/switchpoint/core/exec/OrdinalSet" "greatest" "J" (.long (0 : Int64)) := D46 (Or.inr (hw _ (List.mem_of_getElem? (i := 25) rfl))) (ty := .long) (by decide)
        have F_lows_b46 : Fld Z h46 b46 "com/example/switchpoint/switchpoint/core/exec/OrdinalSet" "lows" "[J" .null := D46 (Or.inr (hw _ (List.mem_of_getElem? (i := 27) rfl))) (ty := (.array .long)) (by decide)
        have F_highs_b46 : Fld Z h46 b46 "com/example/switchpoint/switchpoint/core/exec/OrdinalSet" "highs" "[J" .null := D46 (Or.inr (hw _ (List.mem_of_getElem? (i := 29) rfl))) (ty := (.array .long)) (by decide)
        have E_b46 := A46
        have pre : ∀ τ, Steps p.tables e below (T46.setTop (mkF m 206 #[.val (.long q1), .second, .val (.long q2), .second, .val (.long q3), .second, .val (.int p4), .val (.long aa), .second, .val (.long dd), .second, .val (.int sh), .unset, .unset, .unset] [(.ref b46)])) τ → G τ := fun τ κ => pre τ (st46 τ κ)
        have pre : ∀ τ, Steps p.tables e below (T46.setTop (mkF m 212 #[.val (.long q1), .second, .val (.long q2), .second, .val (.long q3), .second, .val (.int p4), .val (.long aa), .second, .val (.long dd), .second, .val (.int sh), .unset, .unset, .unset] [(.int (2 : Int32)), (.long dd), (.long aa), (.ref b46), (.ref b46)])) τ → G τ := fun τ κ => pre τ (by
          refine XS.dup X46.here hx rfl (hb hby at_206) rfl rfl ?_
          show Steps p.tables e below (T46.setTop (mkF m 207 #[.val (.long q1), .second, .val (.long q2), .second, .val (.long q3), .second, .val (.int p4), .val (.long aa), .second, .val (.long dd), .second, .val (.int sh), .unset, .unset, .unset] [(.ref b46), (.ref b46)])) τ
          refine XS.lload X46.here hx rfl (hb hby at_207) rfl ?_
          show Steps p.tables e below (T46.setTop (mkF m 209 #[.val (.long q1), .second, .val (.long q2), .second, .val (.long q3), .second, .val (.int p4), .val (.long aa), .second, .val (.long dd), .second, .val (.int sh), .unset, .unset, .unset] [(.long aa), (.ref b46), (.ref b46)])) τ
          refine XS.lload X46.here hx rfl (hb hby at_209) rfl ?_
          show Steps p.tables e below (T46.setTop (mkF m 211 #[.val (.long q1), .second, .val (.long q2), .second, .val (.long q3), .second, .val (.int p4), .val (.long aa), .second, .val (.long dd), .second, .val (.int sh), .unset, .unset, .unset] [(.long dd), (.long aa), (.ref b46), (.ref b46)])) τ
          refine XS.iconst X46.here hx rfl (hb hby at_211) ?_
          show Steps p.tables e below (T46.setTop (mkF m 212 #[.val (.long q1), .second, .val (.long q2), .second, .val (.long q3), .second, .val (.int p4), .val (.long aa), .second, .val (.long dd), .second, .val (.int sh), .unset, .unset, .unset] [(.int (2 : Int32)), (.long dd), (.long aa), (.ref b46), (.ref b46)])) τ
          exact κ)
        obtain ⟨T47, h47, k47, X47, e47, E47, A47, st47⟩ := newP X46 hx hZ (hw _ (List.mem_of_getElem? (i := 10) rfl)) e46 (g := (mkF m 212 #[.val (.long q1), .second, .val (.long q2), .second, .val (.long q3), .second, .val (.int p4), .val (.long aa), .second, .val (.long dd), .second, .val (.int sh), .unset, .unset, .unset] [(.int (2 : Int32)), (.long dd), (.long aa), (.ref b46), (.ref b46)])) rfl (hb hby at_212) rfl (by decide) (cap := 2) (by decide) (by decide) (by decide) (by decide)
        obtain ⟨b47, gg47⟩ : ∃ z, z = h46.size := ⟨_, rfl⟩
        rw [← gg47] at A47 st47
        have ne_b46_b47 : b46 ≠ b47 := Nat.ne_of_lt (Nat.lt_of_lt_of_le F_least_b46.lt (Nat.le_of_eq gg47.symm))
        have g_b47 : n0 ≤ b47 := Nat.le_trans Zn (Nat.le_of_eq gg47.symm)
        have F_least_b46 : Fld Z h47 b46 "com/example/switchpoint/switchpoint/core/exec/OrdinalSet" "least" "J" (.long (0 : Int64)) := F_least_b46.ext E47
        have F_greatest_b46 : Fld Z h47 b46 "com/example/switchpoint/switchpoint/core/exec/OrdinalSet" "greatest" "J" (.long (0 : Int64)) := F_greatest_b46.ext E47
        have F_lows_b46 : Fld Z h47 b46 "com/example/switchpoint/switchpoint/core/exec/OrdinalSet" "lows" "[J" .null := F_lows_b46.ext E47
        have F_highs_b46 : Fld Z h47 b46 "com/example/switchpoint/switchpoint/core/exec/OrdinalSet" "highs" "[J" .null := F_highs_b46.ext E47
        have E_b46 : Exa Z h47 b46 "com/example/switchpoint/switchpoint/core/exec/OrdinalSet" := E_b46.ext E47
        have Zn : n0 ≤ h47.size := Nat.le_trans Zn E47.1
        have V_b47 : Arv Z h47 b47 k47 .long (2 : Int32) [(.long (0 : Int64)), (.long (0 : Int64))] (.long (0 : Int64)) := (Arv.new A47 (by decide)).pad (pad_rep [] (.long (0 : Int64)) 2)
        have pre : ∀ τ, Steps p.tables e below (T47.setTop (mkF m 214 #[.val (.long q1), .second, .val (.long q2), .second, .val (.long q3), .second, .val (.int p4), .val (.long aa), .second, .val (.long dd), .second, .val (.int sh), .unset, .unset, .unset] [(.ref b47), (.long dd), (.long aa), (.ref b46), (.ref b46)])) τ → G τ := fun τ κ => pre τ (st47 τ κ)
        have pre : ∀ τ, Steps p.tables e below (T47.setTop (mkF m 218 #[.val (.long q1), .second, .val (.long q2), .second, .val (.long q3), .second, .val (.int p4), .val (.long aa), .second, .val (.long dd), .second, .val (.int sh), .unset, .unset, .unset] [(.long aa), (.int (0 : Int32)), (.ref b47), (.ref b47), (.long dd), (.long aa), (.ref b46), (.ref b46)])) τ → G τ := fun τ κ => pre τ (by
          refine XS.dup X47.here hx rfl (hb hby at_214) rfl rfl ?_
          show Steps p.tables e below (T47.setTop (mkF m 215 #[.val (.long q1), .second, .val (.long q2), .second, .val (.long q3), .second, .val (.int p4), .val (.long aa), .second, .val (.long dd), .second, .val (.int sh), .unset, .unset, .unset] [(.ref b47), (.ref b47), (.long dd), (.long aa), (.ref b46), (.ref b46)])) τ
          refine XS.iconst X47.here hx rfl (hb hby at_215) ?_
          show Steps p.tables e below (T47.setTop (mkF m 216 #[.val (.long q1), .second, .val (.long q2), .second, .val (.long q3), .second, .val (.int p4), .val (.long aa), .second, .val (.long dd), .second, .val (.int sh), .unset, .unset, .unset] [(.int (0 : Int32)), (.ref b47), (.ref b47), (.long dd), (.long aa), (.ref b46), (.ref b46)])) τ
          refine XS.lload X47.here hx rfl (hb hby at_216) rfl ?_
          show Steps p.tables e below (T47.setTop (mkF m 218 #[.val (.long q1), .second, .val (.long q2), .second, .val (.long q3), .second, .val (.int p4), .val (.long aa), .second, .val (.long dd), .second, .val (.int sh), .unset, .unset, .unset] [(.long aa), (.int (0 : Int32)), (.ref b47), (.ref b47), (.long dd), (.long aa), (.ref b46), (.ref b46)])) τ
          exact κ)
        obtain ⟨c48, Ar48, q48, S48, Nz48, Hh48, Gg48⟩ := V_b47
        have hin48 : ¬ ((0 : Int32) < 0 ∨ c48.slots.size ≤ ((0 : Int32)).toNatClampNeg) := inb_of S48 ⟨by decide, by decide⟩
        obtain ⟨T48, h48, X48, e48, W48, st48⟩ := stJ X47 hx hZ e47 Ar48 (j := (0 : Int32)) hin48 (g := (mkF m 218 #[.val (.long q1), .second, .val (.long q2), .second, .val (.long q3), .second, .val (.int p4), .val (.long aa), .second, .val (.long dd), .second, .val (.int sh), .unset, .unset, .unset] [(.long aa), (.int (0 : Int32)), (.ref b47), (.ref b47), (.long dd), (.long aa), (.ref b46), (.ref b46)])) rfl rfl (hb hby at_218)
        have V_b47 : Arv Z h48 b47 k47 .long (2 : Int32) [(.long aa), (.long (0 : Int64))] (.long (0 : Int64)) := Arv.set Ar48 q48 S48 Nz48 Hh48 Gg48 rfl W48 0 rfl (Nat.le_of_ble_eq_true rfl)
        have F_least_b46 : Fld Z h48 b46 "com/example/switchpoint/switchpoint/core/exec/OrdinalSet" "least" "J" (.long (0 : Int64)) := F_least_b46.other W48 (Or.inl ne_b46_b47)
        have F_greatest_b46 : Fld Z h48 b46 "com/example/switchpoint/switchpoint/core/exec/OrdinalSet" "greatest" "J" (.long (0 : Int64)) := F_greatest_b46.other W48 (Or.inl ne_b46_b47)
        have F_lows_b46 : Fld Z h48 b46 "com/example/switchpoint/switchpoint/core/exec/OrdinalSet" "lows" "[J" .null := F_lows_b46.other W48 (Or.inl ne_b46_b47)
        have F_highs_b46 : Fld Z h48 b46 "com/example/switchpoint/switchpoint/core/exec/OrdinalSet" "highs" "[J" .null := F_highs_b46.other W48 (Or.inl ne_b46_b47)
        have E_b46 : Exa Z h48 b46 "com/example/switchpoint/switchpoint/core/exec/OrdinalSet" := E_b46.wr W48
        have Zn : n0 ≤ h48.size := Nat.le_trans Zn (Keep.of_wr W48).1
        have NN := Fr.snoc X48 NN g_b47
        have pre : ∀ τ, Steps p.tables e below (T48.setTop (mkF m 219 #[.val (.long q1), .second, .val (.long q2), .second, .val (.long q3), .second, .val (.int p4), .val (.long aa), .second, .val (.long dd), .second, .val (.int sh), .unset, .unset, .unset] [(.ref b47), (.long dd), (.long aa), (.ref b46), (.ref b46)])) τ → G τ := fun τ κ => pre τ (st48 τ κ)
        have pre : ∀ τ, Steps p.tables e below (T48.setTop (mkF m 223 #[.val (.long q1), .second, .val (.long q2), .second, .val (.long q3), .second, .val (.int p4), .val (.long aa), .second, .val (.long dd), .second, .val (.int sh), .unset, .unset, .unset] [(.long dd), (.int (1 : Int32)), (.ref b47), (.ref b47), (.long dd), (.long aa), (.ref b46), (.ref b46)])) τ → G τ := fun τ κ => pre τ (by
          refine XS.dup X48.here hx rfl (hb hby at_219) rfl rfl ?_
          show Steps p.tables e below (T48.setTop (mkF m 220 #[.val (.long q1), .second, .val (.long q2), .second, .val (.long q3), .second, .val (.int p4), .val (.long aa), .second, .val (.long dd), .second, .val (.int sh), .unset, .unset, .unset] [(.ref b47), (.ref b47), (.long dd), (.long aa), (.ref b46), (.ref b46)])) τ
          refine XS.iconst X48.here hx rfl (hb hby at_220) ?_
          show Steps p.tables e below (T48.setTop (mkF m 221 #[.val (.long q1), .second, .val (.long q2), .second, .val (.long q3), .second, .val (.int p4), .val (.long aa), .second, .val (.long dd), .second, .val (.int sh), .unset, .unset, .unset] [(.int (1 : Int32)), (.ref b47), (.ref b47), (.long dd), (.long aa), (.ref b46), (.ref b46)])) τ
          refine XS.lload X48.here hx rfl (hb hby at_221) rfl ?_
          show Steps p.tables e below (T48.setTop (mkF m 223 #[.val (.long q1), .second, .val (.long q2), .second, .val (.long q3), .second, .val (.int p4), .val (.long aa), .second, .val (.long dd), .second, .val (.int sh), .unset, .unset, .unset] [(.long dd), (.int (1 : Int32)), (.ref b47), (.ref b47), (.long dd), (.long aa), (.ref b46), (.ref b46)])) τ
          exact κ)
        obtain ⟨c49, Ar49, q49, S49, Nz49, Hh49, Gg49⟩ := V_b47
        have hin49 : ¬ ((1 : Int32) < 0 ∨ c49.slots.size ≤ ((1 : Int32)).toNatClampNeg) := inb_of S49 ⟨by decide, by decide⟩
        obtain ⟨T49, h49, X49, e49, W49, st49⟩ := stJ X48 hx hZ e48 Ar49 (j := (1 : Int32)) hin49 (g := (mkF m 223 #[.val (.long q1), .second, .val (.long q2), .second, .val (.long q3), .second, .val (.int p4), .val (.long aa), .second, .val (.long dd), .second, .val (.int sh), .unset, .unset, .unset] [(.long dd), (.int (1 : Int32)), (.ref b47), (.ref b47), (.long dd), (.long aa), (.ref b46), (.ref b46)])) rfl rfl (hb hby at_223)
        have V_b47 : Arv Z h49 b47 k47 .long (2 : Int32) [(.long aa), (.long dd)] (.long (0 : Int64)) := Arv.set Ar49 q49 S49 Nz49 Hh49 Gg49 rfl W49 1 rfl (Nat.le_of_ble_eq_true rfl)
        have F_least_b46 : Fld Z h49 b46 "com/example/switchpoint/switchpoint/core/exec/OrdinalSet" "least" "J" (.long (0 : Int64)) := F_least_b46.other W49 (Or.inl ne_b46_b47)
        have F_greatest_b46 : Fld Z h49 b46 "com/example/switchpoint/switchpoint/core/exec/OrdinalSet" "greatest" "J" (.long (0 : Int64)) := F_greatest_b46.other W49 (Or.inl ne_b46_b47)
        have F_lows_b46 : Fld Z h49 b46 "com/example/switchpoint/switchpoint/core/exec/OrdinalSet" "lows" "[J" .null := F_lows_b46.other W49 (Or.inl ne_b46_b47)
        have F_highs_b46 : Fld Z h49 b46 "com/example/switchpoint/switchpoint/core/exec/OrdinalSet" "highs" "[J" .null := F_highs_b46.other W49 (Or.inl ne_b46_b47)
        have E_b46 : Exa Z h49 b46 "com/example/switchpoint/switchpoint/core/exec/OrdinalSet" := E_b46.wr W49
        have Zn : n0 ≤ h49.size := Nat.le_trans Zn (Keep.of_wr W49).1
        have NN := Fr.snoc X49 NN g_b47
        have pre : ∀ τ, Steps p.tables e below (T49.setTop (mkF m 224 #[.val (.long q1), .second, .val (.long q2), .second, .val (.long q3), .second, .val (.int p4), .val (.long aa), .second, .val (.long dd), .second, .val (.int sh), .unset, .unset, .unset] [(.ref b47), (.long dd), (.long aa), (.ref b46), (.ref b46)])) τ → G τ := fun τ κ => pre τ (st49 τ κ)
        have pre : ∀ τ, Steps p.tables e below (T49.setTop (mkF m 225 #[.val (.long q1), .second, .val (.long q2), .second, .val (.long q3), .second, .val (.int p4), .val (.long aa), .second, .val (.long dd), .second, .val (.int sh), .unset, .unset, .unset] [(.int (2 : Int32)), (.ref b47), (.long dd), (.long aa), (.ref b46), (.ref b46)])) τ → G τ := fun τ κ => pre τ (by
          refine XS.iconst X49.here hx rfl (hb hby at_224) ?_
          show Steps p.tables e below (T49.setTop (mkF m 225 #[.val (.long q1), .second, .val (.long q2), .second, .val (.long q3), .second, .val (.int p4), .val (.long aa), .second, .val (.long dd), .second, .val (.int sh), .unset, .unset, .unset] [(.int (2 : Int32)), (.ref b47), (.long dd), (.long aa), (.ref b46), (.ref b46)])) τ
          exact κ)
        obtain ⟨T50, h50, k50, X50, e50, E50, A50, st50⟩ := newP X49 hx hZ (hw _ (List.mem_of_getElem? (i := 10) rfl)) e49 (g := (mkF m 225 #[.val (.long q1), .second, .val (.long q2), .second, .val (.long q3), .second, .val (.int p4), .val (.long aa), .second, .val (.long dd), .second, .val (.int sh), .unset, .unset, .unset] [(.int (2 : Int32)), (.ref b47), (.long dd), (.long aa), (.ref b46), (.ref b46)])) rfl (hb hby at_225) rfl (by decide) (cap := 2) (by decide) (by decide) (by decide) (by decide)
        obtain ⟨b50, gg50⟩ : ∃ z, z = h49.size := ⟨_, rfl⟩
        rw [← gg50] at A50 st50
        have ne_b46_b50 : b46 ≠ b50 := Nat.ne_of_lt (Nat.lt_of_lt_of_le F_least_b46.lt (Nat.le_of_eq gg50.symm))
        have ne_b47_b50 : b47 ≠ b50 := Nat.ne_of_lt (Nat.lt_of_lt_of_le V_b47.lt (Nat.le_of_eq gg50.symm))
        have g_b50 : n0 ≤ b50 := Nat.le_trans Zn (Nat.le_of_eq gg50.symm)
        have F_least_b46 : Fld Z h50 b46 "com/example/switchpoint/switchpoint/core/exec/OrdinalSet" "least" "J" (.long (0 : Int64)) := F_least_b46.ext E50
        have F_greatest_b46 : Fld Z h50 b46 "com/example/switchpoint/switchpoint/core/exec/OrdinalSet" "greatest" "J" (.long (0 : Int64)) := F_greatest_b46.ext E50
        have F_lows_b46 : Fld Z h50 b46 "com/example/switchpoint/switchpoint/core/exec/OrdinalSet" "lows" "[J" .null := F_lows_b46.ext E50
        have F_highs_b46 : Fld Z h50 b46 "com/example/switchpoint/switchpoint/core/exec/OrdinalSet" "highs" "[J" .null := F_highs_b46.ext E50
        have E_b46 : Exa Z h50 b46 "com/example/switchpoint/switchpoint/core/exec/OrdinalSet" := E_b46.ext E50
        have V_b47 : Arv Z h50 b47 k47 .long (2 : Int32) [(.long aa), (.long dd)] (.long (0 : Int64)) := V_b47.ext E50
        have Zn : n0 ≤ h50.size := Nat.le_trans Zn E50.1
        have V_b50 : Arv Z h50 b50 k50 .long (2 : Int32) [(.long (0 : Int64)), (.long (0 : Int64))] (.long (0 : Int64)) := (Arv.new A50 (by decide)).pad (pad_rep [] (.long (0 : Int64)) 2)
        have pre : ∀ τ, Steps p.tables e below (T50.setTop (mkF m 227 #[.val (.long q1), .second, .val (.long q2), .second, .val (.long q3), .second, .val (.int p4), .val (.long aa), .second, .val (.long dd), .second, .val (.int sh), .unset, .unset, .unset] [(.ref b50), (.ref b47), (.long dd), (.long aa), (.ref b46), (.ref b46)])) τ → G τ := fun τ κ => pre τ (st50 τ κ)
        have pre : ∀ τ, Steps p.tables e below (T50.setTop (mkF m 231 #[.val (.long q1), .second, .val (.long q2), .second, .val (.long q3), .second, .val (.int p4), .val (.long aa), .second, .val (.long dd), .second, .val (.int sh), .unset, .unset, .unset] [(.long aa), (.int (0 : Int32)), (.ref b50), (.ref b50), (.ref b47), (.long dd), (.long aa), (.ref b46), (.ref b46)])) τ → G τ := fun τ κ => pre τ (by
          refine XS.dup X50.here hx rfl (hb hby at_227) rfl rfl ?_
          show Steps p.tables e below (T50.setTop (mkF m 228 #[.val (.long q1), .second, .val (.long q2), .second, .val (.long q3), .second, .val (.int p4), .val (.long aa), .second, .val (.long dd), .second, .val (.int sh), .unset, .unset, .unset] [(.ref b50), (.ref b50), (.ref b47), (.long dd), (.long aa), (.ref b46), (.ref b46)])) τ
          refine XS.iconst X50.here hx rfl (hb hby at_228) ?_
          show Steps p.tables e below (T50.setTop (mkF m 229 #[.val (.long q1), .second, .val (.long q2), .second, .val (.long q3), .second, .val (.int p4), .val (.long aa), .second, .val (.long dd), .second, .val (.int sh), .unset, .unset, .unset] [(.int (0 : Int32)), (.ref b50), (.ref b50), (.ref b47), (.long dd), (.long aa), (.ref b46), (.ref b46)])) τ
          refine XS.lload X50.here hx rfl (hb hby at_229) rfl ?_
          show Steps p.tables e below (T50.setTop (mkF m 231 #[.val (.long q1), .second, .val (.long q2), .second, .val (.long q3), .second, .val (.int p4), .val (.long aa), .second, .val (.long dd), .second, .val (.int sh), .unset, .unset, .unset] [(.long aa), (.int (0 : Int32)), (.ref b50), (.ref b50), (.ref b47), (.long dd), (.long aa), (.ref b46), (.ref b46)])) τ
          exact κ)
        obtain ⟨c51, Ar51, q51, S51, Nz51, Hh51, Gg51⟩ := V_b50
        have hin51 : ¬ ((0 : Int32) < 0 ∨ c51.slots.size ≤ ((0 : Int32)).toNatClampNeg) := inb_of S51 ⟨by decide, by decide⟩
        obtain ⟨T51, h51, X51, e51, W51, st51⟩ := stJ X50 hx hZ e50 Ar51 (j := (0 : Int32)) hin51 (g := (mkF m 231 #[.val (.long q1), .second, .val (.long q2), .second, .val (.long q3), .second, .val (.int p4), .val (.long aa), .second, .val (.long dd), .second, .val (.int sh), .unset, .unset, .unset] [(.long aa), (.int (0 : Int32)), (.ref b50), (.ref b50), (.ref b47), (.long dd), (.long aa), (.ref b46), (.ref b46)])) rfl rfl (hb hby at_231)
        have V_b50 : Arv Z h51 b50 k50 .long (2 : Int32) [(.long aa), (.long (0 : Int64))] (.long (0 : Int64)) := Arv.set Ar51 q51 S51 Nz51 Hh51 Gg51 rfl W51 0 rfl (Nat.le_of_ble_eq_true rfl)
        have F_least_b46 : Fld Z h51 b46 "com/example/switchpoint/switchpoint/core/exec/OrdinalSet" "least" "J" (.long (0 : Int64)) := F_least_b46.other W51 (Or.inl ne_b46_b50)
        have F_greatest_b46 : Fld Z h51 b46 "com/example/switchpoint/switchpoint/core/exec/OrdinalSet" "greatest" "J" (.long (0 : Int64)) := F_greatest_b46.other W51 (Or.inl ne_b46_b50)
        have F_lows_b46 : Fld Z h51 b46 "com/example/switchpoint/switchpoint/core/exec/OrdinalSet" "lows" "[J" .null := F_lows_b46.other W51 (Or.inl ne_b46_b50)
        have F_highs_b46 : Fld Z h51 b46 "com/example/switchpoint/switchpoint/core/exec/OrdinalSet" "highs" "[J" .null := F_highs_b46.other W51 (Or.inl ne_b46_b50)
        have E_b46 : Exa Z h51 b46 "com/example/switchpoint/switchpoint/core/exec/OrdinalSet" := E_b46.wr W51
        have V_b47 : Arv Z h51 b47 k47 .long (2 : Int32) [(.long aa), (.long dd)] (.long (0 : Int64)) := V_b47.other W51 ne_b47_b50
        have Zn : n0 ≤ h51.size := Nat.le_trans Zn (Keep.of_wr W51).1
        have NN := Fr.snoc X51 NN g_b50
        have pre : ∀ τ, Steps p.tables e below (T51.setTop (mkF m 232 #[.val (.long q1), .second, .val (.long q2), .second, .val (.long q3), .second, .val (.int p4), .val (.long aa), .second, .val (.long dd), .second, .val (.int sh), .unset, .unset, .unset] [(.ref b50), (.ref b47), (.long dd), (.long aa), (.ref b46), (.ref b46)])) τ → G τ := fun τ κ => pre τ (st51 τ κ)
        have pre : ∀ τ, Steps p.tables e below (T51.setTop (mkF m 236 #[.val (.long q1), .second, .val (.long q2), .second, .val (.long q3), .second, .val (.int p4), .val (.long aa), .second, .val (.long dd), .second, .val (.int sh), .unset, .unset, .unset] [(.long dd), (.int (1 : Int32)), (.ref b50), (.ref b50), (.ref b47), (.long dd), (.long aa), (.ref b46), (.ref b46)])) τ → G τ := fun τ κ => pre τ (by
          refine XS.dup X51.here hx rfl (hb hby at_232) rfl rfl ?_
          show Steps p.tables e below (T51.setTop (mkF m 233 #[.val (.long q1), .second, .val (.long q2), .second, .val (.long q3), .second, .val (.int p4), .val (.long aa), .second, .val (.long dd), .second, .val (.int sh), .unset, .unset, .unset] [(.ref b50), (.ref b50), (.ref b47), (.long dd), (.long aa), (.ref b46), (.ref b46)])) τ
          refine XS.iconst X51.here hx rfl (hb hby at_233) ?_
          show Steps p.tables e below (T51.setTop (mkF m 234 #[.val (.long q1), .second, .val (.long q2), .second, .val (.long q3), .second, .val (.int p4), .val (.long aa), .second, .val (.long dd), .second, .val (.int sh), .unset, .unset, .unset] [(.int (1 : Int32)), (.ref b50), (.ref b50), (.ref b47), (.long dd), (.long aa), (.ref b46), (.ref b46)])) τ
          refine XS.lload X51.here hx rfl (hb hby at_234) rfl ?_
          show Steps p.tables e below (T51.setTop (mkF m 236 #[.val (.long q1), .second, .val (.long q2), .second, .val (.long q3), .second, .val (.int p4), .val (.long aa), .second, .val (.long dd), .second, .val (.int sh), .unset, .unset, .unset] [(.long dd), (.int (1 : Int32)), (.ref b50), (.ref b50), (.ref b47), (.long dd), (.long aa), (.ref b46), (.ref b46)])) τ
          exact κ)
        obtain ⟨c52, Ar52, q52, S52, Nz52, Hh52, Gg52⟩ := V_b50
        have hin52 : ¬ ((1 : Int32) < 0 ∨ c52.slots.size ≤ ((1 : Int32)).toNatClampNeg) := inb_of S52 ⟨by decide, by decide⟩
        obtain ⟨T52, h52, X52, e52, W52, st52⟩ := stJ X51 hx hZ e51 Ar52 (j := (1 : Int32)) hin52 (g := (mkF m 236 #[.val (.long q1), .second, .val (.long q2), .second, .val (.long q3), .second, .val (.int p4), .val (.long aa), .second, .val (.long dd), .second, .val (.int sh), .unset, .unset, .unset] [(.long dd), (.int (1 : Int32)), (.ref b50), (.ref b50), (.ref b47), (.long dd), (.long aa), (.ref b46), (.ref b46)])) rfl rfl (hb hby at_236)
        have V_b50 : Arv Z h52 b50 k50 .long (2 : Int32) [(.long aa), (.long dd)] (.long (0 : Int64)) := Arv.set Ar52 q52 S52 Nz52 Hh52 Gg52 rfl W52 1 rfl (Nat.le_of_ble_eq_true rfl)
        have F_least_b46 : Fld Z h52 b46 "com/example/switchpoint/switchpoint/core/exec/OrdinalSet" "least" "J" (.long (0 : Int64)) := F_least_b46.other W52 (Or.inl ne_b46_b50)
        have F_greatest_b46 : Fld Z h52 b46 "com/example/switchpoint/switchpoint/core/exec/OrdinalSet" "greatest" "J" (.long (0 : Int64)) := F_greatest_b46.other W52 (Or.inl ne_b46_b50)
        have F_lows_b46 : Fld Z h52 b46 "com/example/switchpoint/switchpoint/core/exec/OrdinalSet" "lows" "[J" .null := F_lows_b46.other W52 (Or.inl ne_b46_b50)
        have F_highs_b46 : Fld Z h52 b46 "com/example/switchpoint/switchpoint/core/exec/OrdinalSet" "highs" "[J" .null := F_highs_b46.other W52 (Or.inl ne_b46_b50)
        have E_b46 : Exa Z h52 b46 "com/example/switchpoint/switchpoint/core/exec/OrdinalSet" := E_b46.wr W52
        have V_b47 : Arv Z h52 b47 k47 .long (2 : Int32) [(.long aa), (.long dd)] (.long (0 : Int64)) := V_b47.other W52 ne_b47_b50
        have Zn : n0 ≤ h52.size := Nat.le_trans Zn (Keep.of_wr W52).1
        have NN := Fr.snoc X52 NN g_b50
        have pre : ∀ τ, Steps p.tables e below (T52.setTop (mkF m 237 #[.val (.long q1), .second, .val (.long q2), .second, .val (.long q3), .second, .val (.int p4), .val (.long aa), .second, .val (.long dd), .second, .val (.int sh), .unset, .unset, .unset] [(.ref b50), (.ref b47), (.long dd), (.long aa), (.ref b46), (.ref b46)])) τ → G τ := fun τ κ => pre τ (st52 τ κ)
        obtain ⟨_, _, ⟨T53, Lx53, kx53, nx53⟩, -, X53, ⟨Lc53, hQ53, l53, y53, z53⟩, st53⟩ := X52.specialBack hx (y := (⟨"com/example/switchpoint/switchpoint/core/exec/OrdinalSet", "<init>", "(JJ[J[J)V"⟩ : MethodName)) rfl hown (mvT hZ (hw _ (List.mem_of_getElem? (i := 11) rfl))) (mvT hZ (hw _ (List.mem_of_getElem? (i := 12) rfl))) (mvT hZ (hw _ (List.mem_of_getElem? (i := 13) rfl))) (by decide) (backOf (W := 1) (rm3 l Z a0 hw [] b46 aa dd b47 b50 (.long (0 : Int64)) (.long (0 : Int64)) .null .null h52 n0 Zn g_b46 E_b46 F_least_b46 F_greatest_b46 F_lows_b46 F_highs_b46) hZ (hw _ (List.mem_of_getElem? (i := 13) rfl)) (hw _ (List.mem_of_getElem? (i := 9) rfl)) (by decide) (by decide)) (g := (mkF m 237 #[.val (.long q1), .second, .val (.long q2), .second, .val (.long q3), .second, .val (.int p4), .val (.long aa), .second, .val (.long dd), .second, .val (.int sh), .unset, .unset, .unset] [(.ref b50), (.ref b47), (.long dd), (.long aa), (.ref b46), (.ref b46)])) rfl (by rw [hml]; rfl) (Steps.refl _) (a := b46) (argsL := [(.long aa), (.long dd), (.ref b47), (.ref b50)]) (rest := [(.ref b46)]) (lenOf pd_2 rfl) rfl (by show 2 * 0 + _ ≤ _; exact Nat.le_of_eq rfl) (hb hby at_237) (fun _ _ => ⟨rfl, e52, (by decide : 3 + 0 ≤ _), (by decide : 8 + 0 ≤ _)⟩)
        dsimp only [Pt.U, Pt.locs, Pt.cells, Pt.slots] at X53 l53 y53 z53 st53 hQ53
        subst l53 y53 z53
        obtain ⟨rfl, Nq53, Kc53, E_o_53, F_least_53, F_greatest_53, F_lows_53, F_highs_53⟩ := hQ53
        have NN := Fr.app NN Nq53
        have E_b46 : Exa Z T53.heap b46 "com/example/switchpoint/switchpoint/core/exec/OrdinalSet" := E_b46.keep Kc53
        have V_b47 : Arv Z T53.heap b47 k47 .long (2 : Int32) [(.long aa), (.long dd)] (.long (0 : Int64)) := V_b47.keep Kc53 (ninS (Ne.symm ne_b46_b47) nin0)
        have V_b50 : Arv Z T53.heap b50 k50 .long (2 : Int32) [(.long aa), (.long dd)] (.long (0 : Int64)) := V_b50.keep Kc53 (ninS (Ne.symm ne_b46_b50) nin0)
        have Zn : n0 ≤ T53.heap.size := Nat.le_trans Zn Kc53.1
        have pre : ∀ τ, Steps p.tables e below (T53.setTop (mkF m 240 #[.val (.long q1), .second, .val (.long q2), .second, .val (.long q3), .second, .val (.int p4), .val (.long aa), .second, .val (.long dd), .second, .val (.int sh), .unset, .unset, .unset] [(.ref b46)])) τ → G τ := fun τ κ => pre τ (st53.trans κ)
        have pre : ∀ τ, Steps p.tables e below (T53.setTop (mkF m 310 #[.val (.long q1), .second, .val (.long q2), .second, .val (.long q3), .second, .val (.int p4), .val (.long aa), .second, .val (.long dd), .second, .val (.int sh), .val (.ref b46), .val (.int (0 : Int32)), .unset] [(.ref b46)])) τ → G τ := fun τ κ => pre τ (by
          refine XS.astore X53.here hx rfl (hb hby at_240) rfl rfl (l' := #[.val (.long q1), .second, .val (.long q2), .second, .val (.long q3), .second, .val (.int p4), .val (.long aa), .second, .val (.long dd), .second, .val (.int sh), .val (.ref b46), .unset, .unset]) rfl ?_
          show Steps p.tables e below (T53.setTop (mkF m 242 #[.val (.long q1), .second, .val (.long q2), .second, .val (.long q3), .second, .val (.int p4), .val (.long aa), .second, .val (.long dd), .second, .val (.int sh), .val (.ref b46), .unset, .unset] [])) τ
          refine XS.iconst X53.here hx rfl (hb hby at_242) ?_
          show Steps p.tables e below (T53.setTop (mkF m 243 #[.val (.long q1), .second, .val (.long q2), .second, .val (.long q3), .second, .val (.int p4), .val (.long aa), .second, .val (.long dd), .second, .val (.int sh), .val (.ref b46), .unset, .unset] [(.int (0 : Int32))])) τ
          refine XS.istore X53.here hx rfl (hb hby at_243) rfl (l' := #[.val (.long q1), .second, .val (.long q2), .second, .val (.long q3), .second, .val (.int p4), .val (.long aa), .second, .val (.long dd), .second, .val (.int sh), .val (.ref b46), .val (.int (0 : Int32)), .unset]) rfl ?_
          show Steps p.tables e below (T53.setTop (mkF m 245 #[.val (.long q1), .second, .val (.long q2), .second, .val (.long q3), .second, .val (.int p4), .val (.long aa), .second, .val (.long dd), .second, .val (.int sh), .val (.ref b46), .val (.int (0 : Int32)), .unset] [])) τ
          refine XS.goto X53.here hx rfl (pc0 := 245) (pc' := 308) rfl (hb hby at_245) (by decide) (by decide) ?_
          show Steps p.tables e below (T53.setTop (mkF m 308 #[.val (.long q1), .second, .val (.long q2), .second, .val (.long q3), .second, .val (.int p4), .val (.long aa), .second, .val (.long dd), .second, .val (.int sh), .val (.ref b46), .val (.int (0 : Int32)), .unset] [])) τ
          refine XS.aload X53.here hx rfl (hb hby at_308) rfl rfl ?_
          show Steps p.tables e below (T53.setTop (mkF m 310 #[.val (.long q1), .second, .val (.long q2), .second, .val (.long q3), .second, .val (.int p4), .val (.long aa), .second, .val (.long dd), .second, .val (.int sh), .val (.ref b46), .val (.int (0 : Int32)), .unset] [(.ref b46)])) τ
          exact κ)
        obtain ⟨cq54, kq54, q54a, q54b, q54c⟩ := isOf hZ rfl E_b46
        obtain ⟨_, _, ⟨T54, Lx54, kx54, nx54⟩, -, X54, ⟨Lc54, hQ54, l54, y54, z54⟩, st54⟩ := X53.virtualBack hx (y := (⟨"com/example/switchpoint/switchpoint/core/exec/OrdinalSet", "isAll", "()Z"⟩ : MethodName)) (z := (⟨"com/example/switchpoint/switchpoint/core/exec/OrdinalSet", "isAll", "()Z"⟩ : MethodName)) hown (mvT hZ (hw _ (List.mem_of_getElem? (i := 30) rfl))) (mvT hZ (hw _ (List.mem_of_getElem? (i := 31) rfl))) (notFace_of_selects (args := #[]) (mvT hZ (hw _ (List.mem_of_getElem? (i := 33) rfl)))) (mvT hZ (hw _ (List.mem_of_getElem? (i := 33) rfl))) (mvT hZ (hw _ (List.mem_of_getElem? (i := 32) rfl))) (by decide) (backOf (W := 0) (rm6 l Z a0 hw [] b46 aa dd b47 k47 (2 : Int32) [(.long aa), (.long dd)] (.long (0 : Int64)) T53.heap n0 Zn F_least_53 F_greatest_53 F_lows_53 V_b47) hZ (hw _ (List.mem_of_getElem? (i := 34) rfl)) (hw _ (List.mem_of_getElem? (i := 9) rfl)) (by decide) (by decide)) q54a q54c (g := (mkF m 310 #[.val (.long q1), .second, .val (.long q2), .second, .val (.long q3), .second, .val (.int p4), .val (.long aa), .second, .val (.long dd), .second, .val (.int sh), .val (.ref b46), .val (.int (0 : Int32)), .unset] [(.ref b46)])) rfl (by rw [hml]; rfl) (Steps.refl _) (argsL := []) (rest := []) (lenOf pd_3 rfl) rfl (by show 2 * 0 + _ ≤ _; exact Nat.le_of_eq rfl) (hb hby at_310) (fun _ _ => ⟨rfl, rfl, (by decide : 3 + 0 ≤ _), (by decide : 8 + 0 ≤ _)⟩)
        dsimp only [Pt.U, Pt.locs, Pt.cells, Pt.slots] at X54 l54 y54 z54 st54 hQ54
        subst l54 y54 z54
        obtain ⟨rfl, Nq54, hs54⟩ := hQ54
        have NN := Fr.app NN Nq54
        have pre : ∀ τ, Steps p.tables e below (T54.setTop (mkF m 313 #[.val (.long q1), .second, .val (.long q2), .second, .val (.long q3), .second, .val (.int p4), .val (.long aa), .second, .val (.long dd), .second, .val (.int sh), .val (.ref b46), .val (.int (0 : Int32)), .unset] [(.int (own_all aa dd (2 : Int32)))])) τ → G τ := fun τ κ => pre τ (st54.trans κ)
        have pre : ∀ τ, Steps p.tables e below (T54.setTop (mkF m 319 #[.val (.long q1), .second, .val (.long q2), .second, .val (.long q3), .second, .val (.int p4), .val (.long aa), .second, .val (.long dd), .second, .val (.int sh), .val (.ref b46), .val (.int (0 : Int32)), .val (.int (own_all aa dd (2 : Int32)))] [(.int (0 : Int32)), (.int (own_all aa dd (2 : Int32)))])) τ → G τ := fun τ κ => pre τ (by
          refine XS.istore X54.here hx rfl (hb hby at_313) rfl (l' := #[.val (.long q1), .second, .val (.long q2), .second, .val (.long q3), .second, .val (.int p4), .val (.long aa), .second, .val (.long dd), .second, .val (.int sh), .val (.ref b46), .val (.int (0 : Int32)), .val (.int (own_all aa dd (2 : Int32)))]) rfl ?_
          show Steps p.tables e below (T54.setTop (mkF m 315 #[.val (.long q1), .second, .val (.long q2), .second, .val (.long q3), .second, .val (.int p4), .val (.long aa), .second, .val (.long dd), .second, .val (.int sh), .val (.ref b46), .val (.int (0 : Int32)), .val (.int (own_all aa dd (2 : Int32)))] [])) τ
          refine XS.iload X54.here hx rfl (hb hby at_315) rfl ?_
          show Steps p.tables e below (T54.setTop (mkF m 317 #[.val (.long q1), .second, .val (.long q2), .second, .val (.long q3), .second, .val (.int p4), .val (.long aa), .second, .val (.long dd), .second, .val (.int sh), .val (.ref b46), .val (.int (0 : Int32)), .val (.int (own_all aa dd (2 : Int32)))] [(.int (own_all aa dd (2 : Int32)))])) τ
          refine XS.iload X54.here hx rfl (hb hby at_317) rfl ?_
          show Steps p.tables e below (T54.setTop (mkF m 319 #[.val (.long q1), .second, .val (.long q2), .second, .val (.long q3), .second, .val (.int p4), .val (.long aa), .second, .val (.long dd), .second, .val (.int sh), .val (.ref b46), .val (.int (0 : Int32)), .val (.int (own_all aa dd (2 : Int32)))] [(.int (0 : Int32)), (.int (own_all aa dd (2 : Int32)))])) τ
          exact κ)
        have hc55 : (own_all aa dd (2 : Int32)) = (0 : Int32) := (by simp [own_all, hc104_17, hc137_25, hc200_45])
        have pre : ∀ τ, Steps p.tables e below (T54.setTop (mkF m 324 #[.val (.long q1), .second, .val (.long q2), .second, .val (.long q3), .second, .val (.int p4), .val (.long aa), .second, .val (.long dd), .second, .val (.int sh), .val (.ref b46), .val (.int (0 : Int32)), .val (.int (own_all aa dd (2 : Int32)))] [(.int (own_all aa dd (2 : Int32)))])) τ → G τ := fun τ κ => pre τ (by
          refine XS.icmpNo X54.here hx rfl (hb hby at_319) rfl (teq hc55).2 ?_
          show Steps p.tables e below (T54.setTop (mkF m 322 #[.val (.long q1), .second, .val (.long q2), .second, .val (.long q3), .second, .val (.int p4), .val (.long aa), .second, .val (.long dd), .second, .val (.int sh), .val (.ref b46), .val (.int (0 : Int32)), .val (.int (own_all aa dd (2 : Int32)))] [])) τ
          refine XS.iload X54.here hx rfl (hb hby at_322) rfl ?_
          show Steps p.tables e below (T54.setTop (mkF m 324 #[.val (.long q1), .second, .val (.long q2), .second, .val (.long q3), .second, .val (.int p4), .val (.long aa), .second, .val (.long dd), .second, .val (.int sh), .val (.ref b46), .val (.int (0 : Int32)), .val (.int (own_all aa dd (2 : Int32)))] [(.int (own_all aa dd (2 : Int32)))])) τ
          exact κ)
        have hc56 : (own_all aa dd (2 : Int32)) = (0 : Int32) := (by simp [own_all, hc104_17, hc137_25, hc200_45, hc55])
        have pre : ∀ τ, Steps p.tables e below (T54.setTop (mkF m 342 #[.val (.long q1), .second, .val (.long q2), .second, .val (.long q3), .second, .val (.int p4), .val (.long aa), .second, .val (.long dd), .second, .val (.int sh), .val (.ref b46), .val (.int (0 : Int32)), .val (.int (own_all aa dd (2 : Int32)))] [(.int (1 : Int32))])) τ → G τ := fun τ κ => pre τ (by
          refine XS.ifYes X54.here hx rfl (pc0 := 324) (pc' := 337) rfl (hb hby at_324) rfl ((if0 _ _).trans (teq hc56).1) (by decide) (by decide) ?_
          show Steps p.tables e below (T54.setTop (mkF m 337 #[.val (.long q1), .second, .val (.long q2), .second, .val (.long q3), .second, .val (.int p4), .val (.long aa), .second, .val (.long dd), .second, .val (.int sh), .val (.ref b46), .val (.int (0 : Int32)), .val (.int (own_all aa dd (2 : Int32)))] [])) τ
          refine XS.iconst X54.here hx rfl (hb hby at_337) ?_
          show Steps p.tables e below (T54.setTop (mkF m 338 #[.val (.long q1), .second, .val (.long q2), .second, .val (.long q3), .second, .val (.int p4), .val (.long aa), .second, .val (.long dd), .second, .val (.int sh), .val (.ref b46), .val (.int (0 : Int32)), .val (.int (own_all aa dd (2 : Int32)))] [(.int (1 : Int32))])) τ
          refine XS.goto X54.here hx rfl (pc0 := 338) (pc' := 342) rfl (hb hby at_338) (by decide) (by decide) ?_
          show Steps p.tables e below (T54.setTop (mkF m 342 #[.val (.long q1), .second, .val (.long q2), .second, .val (.long q3), .second, .val (.int p4), .val (.long aa), .second, .val (.long dd), .second, .val (.int sh), .val (.ref b46), .val (.int (0 : Int32)), .val (.int (own_all aa dd (2 : Int32)))] [(.int (1 : Int32))])) τ
          exact κ)
        obtain ⟨fs, hr, hrun, hended, hW, hsame⟩ := X54.leave (v := some (.int (1 : Int32))) (fun h => by rw [Bd.returns] at h; cases h)
        refine hGL ⟨_, _, hG _ (pre _ ?_), hrun, hended, _, _, rfl, ?_, ⟨_, rfl⟩, hW, hsame.mono (by decide) (by decide)⟩
        · exact retN X54 hx (t := .boolean) Bd.returns (by simp) (hb hby at_342) hr
        · show Q0 Z q1 q2 q3 p4 h0 n0 _ T54.heap _
          rw [hs54]
          exact ⟨rfl, NN⟩
      ·
        have pre : ∀ τ, Steps p.tables e below (T2.setTop (mkF m 248 #[.val (.long q1), .second, .val (.long q2), .second, .val (.long q3), .second, .val (.int p4), .val (.long aa), .second, .val (.long dd), .second, .val (.int sh), .unset, .unset, .unset] [])) τ → G τ := fun τ κ => pre τ (by
          refine XS.icmpYes X2.here hx rfl (pc0 := 200) (pc' := 248) rfl (hb hby at_200) rfl (feq hc200_45).2 (by decide) (by decide) ?_
          show Steps p.tables e below (T2.setTop (mkF m 248 #[.val (.long q1), .second, .val (.long q2), .second, .val (.long q3), .second, .val (.int p4), .val (.long aa), .second, .val (.long dd), .second, .val (.int sh), .unset, .unset, .unset] [])) τ
          exact κ)
        obtain ⟨T57, h57, X57, e57, E57, A57, D57, -, st57⟩ := newO X2 hx hZ hown (hw _ (List.mem_of_getElem? (i := 7) rfl)) (hw _ (List.mem_of_getElem? (i := 8) rfl)) (hw _ (List.mem_of_getElem? (i := 9) rfl)) hs2 (g := (mkF m 248 #[.val (.long q1), .second, .val (.long q2), .second, .val (.long q3), .second, .val (.int p4), .val (.long aa), .second, .val (.long dd), .second, .val (.int sh), .unset, .unset, .unset] [])) rfl (hb hby at_248) (by decide) (by decide)
        obtain ⟨b57, gg57⟩ : ∃ z, z = h0.size := ⟨_, rfl⟩
        rw [← gg57] at A57 D57 st57
        have g_b57 : n0 ≤ b57 := Nat.le_trans Zn (Nat.le_of_eq gg57.symm)
        have Zn : n0 ≤ h57.size := Nat.le_trans Zn E57.1
        have F_least_b57 : Fld Z h57 b57 "com/example/switchpoint/switchpoint/core/exec/OrdinalSet" "least" "J" (.long (0 : Int64)) := D57 (Or.inr (hw _ (List.mem_of_getElem? (i := 23) rfl))) (ty := .long) (by decide)
        have F_greatest_b57 : Fld Z h57 b57 "com/example/switchpoint/switchpoint/core/exec/OrdinalSet" "greatest" "J" (.long (0 : Int64)) := D57 (Or.inr (hw _ (List.mem_of_getElem? (i := 25) rfl))) (ty := .long) (by decide)
        have F_lows_b57 : Fld Z h57 b57 "com/example/switchpoint/switchpoint/core/exec/OrdinalSet" "lows" "[J" .null := D57 (Or.inr (hw _ (List.mem_of_getElem? (i := 27) rfl))) (ty := (.array .long)) (by decide)
        have F_highs_b57 : Fld Z h57 b57 "com/example/switchpoint/switchpoint/core/exec/OrdinalSet" "highs" "[J" .null := D57 (Or.inr (hw _ (List.mem_of_getElem? (i := 29) rfl))) (ty := (.array .long)) (by decide)
        have E_b57 := A57
        have pre : ∀ τ, Steps p.tables e below (T57.setTop (mkF m 251 #[.val (.long q1), .second, .val (.long q2), .second, .val (.long q3), .second, .val (.int p4), .val (.long aa), .second, .val (.long dd), .second, .val (.int sh), .unset, .unset, .unset] [(.ref b57)])) τ → G τ := fun τ κ => pre τ (st57 τ κ)
        have pre : ∀ τ, Steps p.tables e below (T57.setTop (mkF m 257 #[.val (.long q1), .second, .val (.long q2), .second, .val (.long q3), .second, .val (.int p4), .val (.long aa), .second, .val (.long dd), .second, .val (.int sh), .unset, .unset, .unset] [(.int (3 : Int32)), (.long dd), (.long aa), (.ref b57), (.ref b57)])) τ → G τ := fun τ κ => pre τ (by
          refine XS.dup X57.here hx rfl (hb hby at_251) rfl rfl ?_
          show Steps p.tables e below (T57.setTop (mkF m 252 #[.val (.long q1), .second, .val (.long q2), .second, .val (.long q3), .second, .val (.int p4), .val (.long aa), .second, .val (.long dd), .second, .val (.int sh), .unset, .unset, .unset] [(.ref b57), (.ref b57)])) τ
          refine XS.lload X57.here hx rfl (hb hby at_252) rfl ?_
          show Steps p.tables e below (T57.setTop (mkF m 254 #[.val (.long q1), .second, .val (.long q2), .second, .val (.long q3), .second, .val (.int p4), .val (.long aa), .second, .val (.long dd), .second, .val (.int sh), .unset, .unset, .unset] [(.long aa), (.ref b57), (.ref b57)])) τ
          refine XS.lload X57.here hx rfl (hb hby at_254) rfl ?_
          show Steps p.tables e below (T57.setTop (mkF m 256 #[.val (.long q1), .second, .val (.long q2), .second, .val (.long q3), .second, .val (.int p4), .val (.long aa), .second, .val (.long dd), .second, .val (.int sh), .unset, .unset, .unset] [(.long dd), (.long aa), (.ref b57), (.ref b57)])) τ
          refine XS.iconst X57.here hx rfl (hb hby at_256) ?_
          show Steps p.tables e below (T57.setTop (mkF m 257 #[.val (.long q1), .second, .val (.long q2), .second, .val (.long q3), .second, .val (.int p4), .val (.long aa), .second, .val (.long dd), .second, .val (.int sh), .unset, .unset, .unset] [(.int (3 : Int32)), (.long dd), (.long aa), (.ref b57), (.ref b57)])) τ
          exact κ)
        obtain ⟨T58, h58, k58, X58, e58, E58, A58, st58⟩ := newP X57 hx hZ (hw _ (List.mem_of_getElem? (i := 10) rfl)) e57 (g := (mkF m 257 #[.val (.long q1), .second, .val (.long q2), .second, .val (.long q3), .second, .val (.int p4), .val (.long aa), .second, .val (.long dd), .second, .val (.int sh), .unset, .unset, .unset] [(.int (3 : Int32)), (.long dd), (.long aa), (.ref b57), (.ref b57)])) rfl (hb hby at_257) rfl (by decide) (cap := 3) (by decide) (by decide) (by decide) (by decide)
        obtain ⟨b58, gg58⟩ : ∃ z, z = h57.size := ⟨_, rfl⟩
        rw [← gg58] at A58 st58
        have ne_b57_b58 : b57 ≠ b58 := Nat.ne_of_lt (Nat.lt_of_lt_of_le F_least_b57.lt (Nat.le_of_eq gg58.symm))
        have g_b58 : n0 ≤ b58 := Nat.le_trans Zn (Nat.le_of_eq gg58.symm)
        have F_least_b57 : Fld Z h58 b57 "com/example/switchpoint/switchpoint/core/exec/OrdinalSet" "least" "J" (.long (0 : Int64)) := F_least_b57.ext E58
        have F_greatest_b57 : Fld Z h58 b57 "com/example/switchpoint/switchpoint/core/exec/OrdinalSet" "greatest" "J" (.long (0 : Int64)) := F_greatest_b57.ext E58
        have F_lows_b57 : Fld Z h58 b57 "com/example/switchpoint/switchpoint/core/exec/OrdinalSet" "lows" "[J" .null := F_lows_b57.ext E58
        have F_highs_b57 : Fld Z h58 b57 "com/example/switchpoint/switchpoint/core/exec/OrdinalSet" "highs" "[J" .null := F_highs_b57.ext E58
        have E_b57 : Exa Z h58 b57 "com/example/switchpoint/switchpoint/core/exec/OrdinalSet" := E_b57.ext E58
        have Zn : n0 ≤ h58.size := Nat.le_trans Zn E58.1
        have V_b58 : Arv Z h58 b58 k58 .long (3 : Int32) [(.long (0 : Int64)), (.long (0 : Int64)), (.long (0 : Int64))] (.long (0 : Int64)) := (Arv.new A58 (by decide)).pad (pad_rep [] (.long (0 : Int64)) 3)
        have pre : ∀ τ, Steps p.tables e below (T58.setTop (mkF m 259 #[.val (.long q1), .second, .val (.long q2), .second, .val (.long q3), .second, .val (.int p4), .val (.long aa), .second, .val (.long dd), .second, .val (.int sh), .unset, .unset, .unset] [(.ref b58), (.long dd), (.long aa), (.ref b57), (.ref b57)])) τ → G τ := fun τ κ => pre τ (st58 τ κ)
        have pre : ∀ τ, Steps p.tables e below (T58.setTop (mkF m 263 #[.val (.long q1), .second, .val (.long q2), .second, .val (.long q3), .second, .val (.int p4), .val (.long aa), .second, .val (.long dd), .second, .val (.int sh), .unset, .unset, .unset] [(.long aa), (.int (0 : Int32)), (.ref b58), (.ref b58), (.long dd), (.long aa), (.ref b57), (.ref b57)])) τ → G τ := fun τ κ => pre τ (by
          refine XS.dup X58.here hx rfl (hb hby at_259) rfl rfl ?_
          show Steps p.tables e below (T58.setTop (mkF m 260 #[.val (.long q1), .second, .val (.long q2), .second, .val (.long q3), .second, .val (.int p4), .val (.long aa), .second, .val (.long dd), .second, .val (.int sh), .unset, .unset, .unset] [(.ref b58), (.ref b58), (.long dd), (.long aa), (.ref b57), (.ref b57)])) τ
          refine XS.iconst X58.here hx rfl (hb hby at_260) ?_
          show Steps p.tables e below (T58.setTop (mkF m 261 #[.val (.long q1), .second, .val (.long q2), .second, .val (.long q3), .second, .val (.int p4), .val (.long aa), .second, .val (.long dd), .second, .val (.int sh), .unset, .unset, .unset] [(.int (0 : Int32)), (.ref b58), (.ref b58), (.long dd), (.long aa), (.ref b57), (.ref b57)])) τ
          refine XS.lload X58.here hx rfl (hb hby at_261) rfl ?_
          show Steps p.tables e below (T58.setTop (mkF m 263 #[.val (.long q1), .second, .val (.long q2), .second, .val (.long q3), .second, .val (.int p4), .val (.long aa), .second, .val (.long dd), .second, .val (.int sh), .unset, .unset, .unset] [(.long aa), (.int (0 : Int32)), (.ref b58), (.ref b58), (.long dd), (.long aa), (.ref b57), (.ref b57)])) τ
          exact κ)
        obtain ⟨c59, Ar59, q59, S59, Nz59, Hh59, Gg59⟩ := V_b58
        have hin59 : ¬ ((0 : Int32) < 0 ∨ c59.slots.size ≤ ((0 : Int32)).toNatClampNeg) := inb_of S59 ⟨by decide, by decide⟩
        obtain ⟨T59, h59, X59, e59, W59, st59⟩ := stJ X58 hx hZ e58 Ar59 (j := (0 : Int32)) hin59 (g := (mkF m 263 #[.val (.long q1), .second, .val (.long q2), .second, .val (.long q3), .second, .val (.int p4), .val (.long aa), .second, .val (.long dd), .second, .val (.int sh), .unset, .unset, .unset] [(.long aa), (.int (0 : Int32)), (.ref b58), (.ref b58), (.long dd), (.long aa), (.ref b57), (.ref b57)])) rfl rfl (hb hby at_263)
        have V_b58 : Arv Z h59 b58 k58 .long (3 : Int32) [(.long aa), (.long (0 : Int64)), (.long (0 : Int64))] (.long (0 : Int64)) := Arv.set Ar59 q59 S59 Nz59 Hh59 Gg59 rfl W59 0 rfl (Nat.le_of_ble_eq_true rfl)
        have F_least_b57 : Fld Z h59 b57 "com/example/switchpoint/switchpoint/core/exec/OrdinalSet" "least" "J" (.long (0 : Int64)) := F_least_b57.other W59 (Or.inl ne_b57_b58)
        have F_greatest_b57 : Fld Z h59 b57 "com/example/switchpoint/switchpoint/core/exec/OrdinalSet" "greatest" "J" (.long (0 : Int64)) := F_greatest_b57.other W59 (Or.inl ne_b57_b58)
        have F_lows_b57 : Fld Z h59 b57 "com/example/switchpoint/switchpoint/core/exec/OrdinalSet" "lows" "[J" .null := F_lows_b57.other W59 (Or.inl ne_b57_b58)
        have F_highs_b57 : Fld Z h59 b57 "com/example/switchpoint/switchpoint/core/exec/OrdinalSet" "highs" "[J" .null := F_highs_b57.other W59 (Or.inl ne_b57_b58)
        have E_b57 : Exa Z h59 b57 "com/example/switchpoint/switchpoint/core/exec/OrdinalSet" := E_b57.wr W59
        have Zn : n0 ≤ h59.size := Nat.le_trans Zn (Keep.of_wr W59).1
        have NN := Fr.snoc X59 NN g_b58
        have pre : ∀ τ, Steps p.tables e below (T59.setTop (mkF m 264 #[.val (.long q1), .second, .val (.long q2), .second, .val (.long q3), .second, .val (.int p4), .val (.long aa), .second, .val (.long dd), .second, .val (.int sh), .unset, .unset, .unset] [(.ref b58), (.long dd), (.long aa), (.ref b57), (.ref b57)])) τ → G τ := fun τ κ => pre τ (st59 τ κ)
        have pre : ∀ τ, Steps p.tables e below (T59.setTop (mkF m 272 #[.val (.long q1), .second, .val (.long q2), .second, .val (.long q3), .second, .val (.int p4), .val (.long aa), .second, .val (.long dd), .second, .val (.int sh), .unset, .unset, .unset] [(.long (aa + (2 : Int64))), (.int (1 : Int32)), (.ref b58), (.ref b58), (.long dd), (.long aa), (.ref b57), (.ref b57)])) τ → G τ := fun τ κ => pre τ (by
          refine XS.dup X59.here hx rfl (hb hby at_264) rfl rfl ?_
          show Steps p.tables e below (T59.setTop (mkF m 265 #[.val (.long q1), .second, .val (.long q2), .second, .val (.long q3), .second, .val (.int p4), .val (.long aa), .second, .val (.long dd), .second, .val (.int sh), .unset, .unset, .unset] [(.ref b58), (.ref b58), (.long dd), (.long aa), (.ref b57), (.ref b57)])) τ
          refine XS.iconst X59.here hx rfl (hb hby at_265) ?_
          show Steps p.tables e below (T59.setTop (mkF m 266 #[.val (.long q1), .second, .val (.long q2), .second, .val (.long q3), .second, .val (.int p4), .val (.long aa), .second, .val (.long dd), .second, .val (.int sh), .unset, .unset, .unset] [(.int (1 : Int32)), (.ref b58), (.ref b58), (.long dd), (.long aa), (.ref b57), (.ref b57)])) τ
          refine XS.lload X59.here hx rfl (hb hby at_266) rfl ?_
          show Steps p.tables e below (T59.setTop (mkF m 268 #[.val (.long q1), .second, .val (.long q2), .second, .val (.long q3), .second, .val (.int p4), .val (.long aa), .second, .val (.long dd), .second, .val (.int sh), .unset, .unset, .unset] [(.long aa), (.int (1 : Int32)), (.ref b58), (.ref b58), (.long dd), (.long aa), (.ref b57), (.ref b57)])) τ
          refine X59.ldc2Long hx hown (mvT hZ (hw _ (List.mem_of_getElem? (i := 40) rfl))) (g := (mkF m 268 #[.val (.long q1), .second, .val (.long q2), .second, .val (.long q3), .second, .val (.int p4), .val (.long aa), .second, .val (.long dd), .second, .val (.int sh), .unset, .unset, .unset] [(.long aa), (.int (1 : Int32)), (.ref b58), (.ref b58), (.long dd), (.long aa), (.ref b57), (.ref b57)])) rfl (hb hby at_268) _ ?_
          show Steps p.tables e below (T59.setTop (mkF m 271 #[.val (.long q1), .second, .val (.long q2), .second, .val (.long q3), .second, .val (.int p4), .val (.long aa), .second, .val (.long dd), .second, .val (.int sh), .unset, .unset, .unset] [(.long (2 : Int64)), (.long aa), (.int (1 : Int32)), (.ref b58), (.ref b58), (.long dd), (.long aa), (.ref b57), (.ref b57)])) τ
          refine XS.ladd X59.here hx rfl (hb hby at_271) rfl ?_
          show Steps p.tables e below (T59.setTop (mkF m 272 #[.val (.long q1), .second, .val (.long q2), .second, .val (.long q3), .second, .val (.int p4), .val (.long aa), .second, .val (.long dd), .second, .val (.int sh), .unset, .unset, .unset] [(.long (aa + (2 : Int64))), (.int (1 : Int32)), (.ref b58), (.ref b58), (.long dd), (.long aa), (.ref b57), (.ref b57)])) τ
          exact κ)
        obtain ⟨c60, Ar60, q60, S60, Nz60, Hh60, Gg60⟩ := V_b58
        have hin60 : ¬ ((1 : Int32) < 0 ∨ c60.slots.size ≤ ((1 : Int32)).toNatClampNeg) := inb_of S60 ⟨by decide, by decide⟩
        obtain ⟨T60, h60, X60, e60, W60, st60⟩ := stJ X59 hx hZ e59 Ar60 (j := (1 : Int32)) hin60 (g := (mkF m 272 #[.val (.long q1), .second, .val (.long q2), .second, .val (.long q3), .second, .val (.int p4), .val (.long aa), .second, .val (.long dd), .second, .val (.int sh), .unset, .unset, .unset] [(.long (aa + (2 : Int64))), (.int (1 : Int32)), (.ref b58), (.ref b58), (.long dd), (.long aa), (.ref b57), (.ref b57)])) rfl rfl (hb hby at_272)
        have V_b58 : Arv Z h60 b58 k58 .long (3 : Int32) [(.long aa), (.long (aa + (2 : Int64))), (.long (0 : Int64))] (.long (0 : Int64)) := Arv.set Ar60 q60 S60 Nz60 Hh60 Gg60 rfl W60 1 rfl (Nat.le_of_ble_eq_true rfl)
        have F_least_b57 : Fld Z h60 b57 "com/example/switchpoint/switchpoint/core/exec/OrdinalSet" "least" "J" (.long (0 : Int64)) := F_least_b57.other W60 (Or.inl ne_b57_b58)
        have F_greatest_b57 : Fld Z h60 b57 "com/example/switchpoint/switchpoint/core/exec/OrdinalSet" "greatest" "J" (.long (0 : Int64)) := F_greatest_b57.other W60 (Or.inl ne_b57_b58)
        have F_lows_b57 : Fld Z h60 b57 "com/example/switchpoint/switchpoint/core/exec/OrdinalSet" "lows" "[J" .null := F_lows_b57.other W60 (Or.inl ne_b57_b58)
        have F_highs_b57 : Fld Z h60 b57 "com/example/switchpoint/switchpoint/core/exec/OrdinalSet" "highs" "[J" .null := F_highs_b57.other W60 (Or.inl ne_b57_b58)
        have E_b57 : Exa Z h60 b57 "com/example/switchpoint/switchpoint/core/exec/OrdinalSet" := E_b57.wr W60
        have Zn : n0 ≤ h60.size := Nat.le_trans Zn (Keep.of_wr W60).1
        have NN := Fr.snoc X60 NN g_b58
        have pre : ∀ τ, Steps p.tables e below (T60.setTop (mkF m 273 #[.val (.long q1), .second, .val (.long q2), .second, .val (.long q3), .second, .val (.int p4), .val (.long aa), .second, .val (.long dd), .second, .val (.int sh), .unset, .unset, .unset] [(.ref b58), (.long dd), (.long aa), (.ref b57), (.ref b57)])) τ → G τ := fun τ κ => pre τ (st60 τ κ)
        have pre : ∀ τ, Steps p.tables e below (T60.setTop (mkF m 277 #[.val (.long q1), .second, .val (.long q2), .second, .val (.long q3), .second, .val (.int p4), .val (.long aa), .second, .val (.long dd), .second, .val (.int sh), .unset, .unset, .unset] [(.long dd), (.int (2 : Int32)), (.ref b58), (.ref b58), (.long dd), (.long aa), (.ref b57), (.ref b57)])) τ → G τ := fun τ κ => pre τ (by
          refine XS.dup X60.here hx rfl (hb hby at_273) rfl rfl ?_
          show Steps p.tables e below (T60.setTop (mkF m 274 #[.val (.long q1), .second, .val (.long q2), .second, .val (.long q3), .second, .val (.int p4), .val (.long aa), .second, .val (.long dd), .second, .val (.int sh), .unset, .unset, .unset] [(.ref b58), (.ref b58), (.long dd), (.long aa), (.ref b57), (.ref b57)])) τ
          refine XS.iconst X60.here hx rfl (hb hby at_274) ?_
          show Steps p.tables e below (T60.setTop (mkF m 275 #[.val (.long q1), .second, .val (.long q2), .second, .val (.long q3), .second, .val (.int p4), .val (.long aa), .second, .val (.long dd), .second, .val (.int sh), .unset, .unset, .unset] [(.int (2 : Int32)), (.ref b58), (.ref b58), (.long dd), (.long aa), (.ref b57), (.ref b57)])) τ
          refine XS.lload X60.here hx rfl (hb hby at_275) rfl ?_
          show Steps p.tables e below (T60.setTop (mkF m 277 #[.val (.long q1), .second, .val (.long q2), .second, .val (.long q3), .second, .val (.int p4), .val (.long aa), .second, .val (.long dd), .second, .val (.int sh), .unset, .unset, .unset] [(.long dd), (.int (2 : Int32)), (.ref b58), (.ref b58), (.long dd), (.long aa), (.ref b57), (.ref b57)])) τ
          exact κ)
        obtain ⟨c61, Ar61, q61, S61, Nz61, Hh61, Gg61⟩ := V_b58
        have hin61 : ¬ ((2 : Int32) < 0 ∨ c61.slots.size ≤ ((2 : Int32)).toNatClampNeg) := inb_of S61 ⟨by decide, by decide⟩
        obtain ⟨T61, h61, X61, e61, W61, st61⟩ := stJ X60 hx hZ e60 Ar61 (j := (2 : Int32)) hin61 (g := (mkF m 277 #[.val (.long q1), .second, .val (.long q2), .second, .val (.long q3), .second, .val (.int p4), .val (.long aa), .second, .val (.long dd), .second, .val (.int sh), .unset, .unset, .unset] [(.long dd), (.int (2 : Int32)), (.ref b58), (.ref b58), (.long dd), (.long aa), (.ref b57), (.ref b57)])) rfl rfl (hb hby at_277)
        have V_b58 : Arv Z h61 b58 k58 .long (3 : Int32) [(.long aa), (.long (aa + (2 : Int64))), (.long dd)] (.long (0 : Int64)) := Arv.set Ar61 q61 S61 Nz61 Hh61 Gg61 rfl W61 2 rfl (Nat.le_of_ble_eq_true rfl)
        have F_least_b57 : Fld Z h61 b57 "com/example/switchpoint/switchpoint/core/exec/OrdinalSet" "least" "J" (.long (0 : Int64)) := F_least_b57.other W61 (Or.inl ne_b57_b58)
        have F_greatest_b57 : Fld Z h61 b57 "com/example/switchpoint/switchpoint/core/exec/OrdinalSet" "greatest" "J" (.long (0 : Int64)) := F_greatest_b57.other W61 (Or.inl ne_b57_b58)
        have F_lows_b57 : Fld Z h61 b57 "com/example/switchpoint/switchpoint/core/exec/OrdinalSet" "lows" "[J" .null := F_lows_b57.other W61 (Or.inl ne_b57_b58)
        have F_highs_b57 : Fld Z h61 b57 "com/example/switchpoint/switchpoint/core/exec/OrdinalSet" "highs" "[J" .null := F_highs_b57.other W61 (Or.inl ne_b57_b58)
        have E_b57 : Exa Z h61 b57 "com/example/switchpoint/switchpoint/core/exec/OrdinalSet" := E_b57.wr W61
        have Zn : n0 ≤ h61.size := Nat.le_trans Zn (Keep.of_wr W61).1
        have NN := Fr.snoc X61 NN g_b58
        have pre : ∀ τ, Steps p.tables e below (T61.setTop (mkF m 278 #[.val (.long q1), .second, .val (.long q2), .second, .val (.long q3), .second, .val (.int p4), .val (.long aa), .second, .val (.long dd), .second, .val (.int sh), .unset, .unset, .unset] [(.ref b58), (.long dd), (.long aa), (.ref b57), (.ref b57)])) τ → G τ := fun τ κ => pre τ (st61 τ κ)
        have pre : ∀ τ, Steps p.tables e below (T61.setTop (mkF m 279 #[.val (.long q1), .second, .val (.long q2), .second, .val (.long q3), .second, .val (.int p4), .val (.long aa), .second, .val (.long dd), .second, .val (.int sh), .unset, .unset, .unset] [(.int (3 : Int32)), (.ref b58), (.long dd), (.long aa), (.ref b57), (.ref b57)])) τ → G τ := fun τ κ => pre τ (by
          refine XS.iconst X61.here hx rfl (hb hby at_278) ?_
          show Steps p.tables e below (T61.setTop (mkF m 279 #[.val (.long q1), .second, .val (.long q2), .second, .val (.long q3), .second, .val (.int p4), .val (.long aa), .second, .val (.long dd), .second, .val (.int sh), .unset, .unset, .unset] [(.int (3 : Int32)), (.ref b58), (.long dd), (.long aa), (.ref b57), (.ref b57)])) τ
          exact κ)
        obtain ⟨T62, h62, k62, X62, e62, E62, A62, st62⟩ := newP X61 hx hZ (hw _ (List.mem_of_getElem? (i := 10) rfl)) e61 (g := (mkF m 279 #[.val (.long q1), .second, .val (.long q2), .second, .val (.long q3), .second, .val (.int p4), .val (.long aa), .second, .val (.long dd), .second, .val (.int sh), .unset, .unset, .unset] [(.int (3 : Int32)), (.ref b58), (.long dd), (.long aa), (.ref b57), (.ref b57)])) rfl (hb hby at_279) rfl (by decide) (cap := 3) (by decide) (by decide) (by decide) (by decide)
        obtain ⟨b62, gg62⟩ : ∃ z, z = h61.size := ⟨_, rfl⟩
        rw [← gg62] at A62 st62
        have ne_b57_b62 : b57 ≠ b62 := Nat.ne_of_lt (Nat.lt_of_lt_of_le F_least_b57.lt (Nat.le_of_eq gg62.symm))
        have ne_b58_b62 : b58 ≠ b62 := Nat.ne_of_lt (Nat.lt_of_lt_of_le V_b58.lt (Nat.le_of_eq gg62.symm))
        have g_b62 : n0 ≤ b62 := Nat.le_trans Zn (Nat.le_of_eq gg62.symm)
        have F_least_b57 : Fld Z h62 b57 "com/example/switchpoint/switchpoint/core/exec/OrdinalSet" "least" "J" (.long (0 : Int64)) := F_least_b57.ext E62
        have F_greatest_b57 : Fld Z h62 b57 "com/example/switchpoint/switchpoint/core/exec/OrdinalSet" "greatest" "J" (.long (0 : Int64)) := F_greatest_b57.ext E62
        have F_lows_b57 : Fld Z h62 b57 "com/example/switchpoint/switchpoint/core/exec/OrdinalSet" "lows" "[J" .null := F_lows_b57.ext E62
        have F_highs_b57 : Fld Z h62 b57 "com/example/switchpoint/switchpoint/core/exec/OrdinalSet" "highs" "[J" .null := F_highs_b57.ext E62
        have E_b57 : Exa Z h62 b57 "com/example/switchpoint/switchpoint/core/exec/OrdinalSet" := E_b57.ext E62
        have V_b58 : Arv Z h62 b58 k58 .long (3 : Int32) [(.long aa), (.long (aa + (2 : Int64))), (.long dd)] (.long (0 : Int64)) := V_b58.ext E62
        have Zn : n0 ≤ h62.size := Nat.le_trans Zn E62.1
        have V_b62 : Arv Z h62 b62 k62 .long (3 : Int32) [(.long (0 : Int64)), (.long (0 : Int64)), (.long (0 : Int64))] (.long (0 : Int64)) := (Arv.new A62 (by decide)).pad (pad_rep [] (.long (0 : Int64)) 3)
        have pre : ∀ τ, Steps p.tables e below (T62.setTop (mkF m 281 #[.val (.long q1), .second, .val (.long q2), .second, .val (.long q3), .second, .val (.int p4), .val (.long aa), .second, .val (.long dd), .second, .val (.int sh), .unset, .unset, .unset] [(.ref b62), (.ref b58), (.long dd), (.long aa), (.ref b57), (.ref b57)])) τ → G τ := fun τ κ => pre τ (st62 τ κ)
        have pre : ∀ τ, Steps p.tables e below (T62.setTop (mkF m 285 #[.val (.long q1), .second, .val (.long q2), .second, .val (.long q3), .second, .val (.int p4), .val (.long aa), .second, .val (.long dd), .second, .val (.int sh), .unset, .unset, .unset] [(.long aa), (.int (0 : Int32)), (.ref b62), (.ref b62), (.ref b58), (.long dd), (.long aa), (.ref b57), (.ref b57)])) τ → G τ := fun τ κ => pre τ (by
          refine XS.dup X62.here hx rfl (hb hby at_281) rfl rfl ?_
          show Steps p.tables e below (T62.setTop (mkF m 282 #[.val (.long q1), .second, .val (.long q2), .second, .val (.long q3), .second, .val (.int p4), .val (.long aa), .second, .val (.long dd), .second, .val (.int sh), .unset, .unset, .unset] [(.ref b62), (.ref b62), (.ref b58), (.long dd), (.long aa), (.ref b57), (.ref b57)])) τ
          refine XS.iconst X62.here hx rfl (hb hby at_282) ?_
          show Steps p.tables e below (T62.setTop (mkF m 283 #[.val (.long q1), .second, .val (.long q2), .second, .val (.long q3), .second, .val (.int p4), .val (.long aa), .second, .val (.long dd), .second, .val (.int sh), .unset, .unset, .unset] [(.int (0 : Int32)), (.ref b62), (.ref b62), (.ref b58), (.long dd), (.long aa), (.ref b57), (.ref b57)])) τ
          refine XS.lload X62.here hx rfl (hb hby at_283) rfl ?_
          show Steps p.tables e below (T62.setTop (mkF m 285 #[.val (.long q1), .second, .val (.long q2), .second, .val (.long q3), .second, .val (.int p4), .val (.long aa), .second, .val (.long dd), .second, .val (.int sh), .unset, .unset, .unset] [(.long aa), (.int (0 : Int32)), (.ref b62), (.ref b62), (.ref b58), (.long dd), (.long aa), (.ref b57), (.ref b57)])) τ
          exact κ)
        obtain ⟨c63, Ar63, q63, S63, Nz63, Hh63, Gg63⟩ := V_b62
        have hin63 : ¬ ((0 : Int32) < 0 ∨ c63.slots.size ≤ ((0 : Int32)).toNatClampNeg) := inb_of S63 ⟨by decide, by decide⟩
        obtain ⟨T63, h63, X63, e63, W63, st63⟩ := stJ X62 hx hZ e62 Ar63 (j := (0 : Int32)) hin63 (g := (mkF m 285 #[.val (.long q1), .second, .val (.long q2), .second, .val (.long q3), .second, .val (.int p4), .val (.long aa), .second, .val (.long dd), .second, .val (.int sh), .unset, .unset, .unset] [(.long aa), (.int (0 : Int32)), (.ref b62), (.ref b62), (.ref b58), (.long dd), (.long aa), (.ref b57), (.ref b57)])) rfl rfl (hb hby at_285)
        have V_b62 : Arv Z h63 b62 k62 .long (3 : Int32) [(.long aa), (.long (0 : Int64)), (.long (0 : Int64))] (.long (0 : Int64)) := Arv.set Ar63 q63 S63 Nz63 Hh63 Gg63 rfl W63 0 rfl (Nat.le_of_ble_eq_true rfl)
        have F_least_b57 : Fld Z h63 b57 "com/example/switchpoint/switchpoint/core/exec/OrdinalSet" "least" "J" (.long (0 : Int64)) := F_least_b57.other W63 (Or.inl ne_b57_b62)
        have F_greatest_b57 : Fld Z h63 b57 "com/example/switchpoint/switchpoint/core/exec/OrdinalSet" "greatest" "J" (.long (0 : Int64)) := F_greatest_b57.other W63 (Or.inl ne_b57_b62)
        have F_lows_b57 : Fld Z h63 b57 "com/example/switchpoint/switchpoint/core/exec/OrdinalSet" "lows" "[J" .null := F_lows_b57.other W63 (Or.inl ne_b57_b62)
        have F_highs_b57 : Fld Z h63 b57 "com/example/switchpoint/switchpoint/core/exec/OrdinalSet" "highs" "[J" .null := F_highs_b57.other W63 (Or.inl ne_b57_b62)
        have E_b57 : Exa Z h63 b57 "com/example/switchpoint/switchpoint/core/exec/OrdinalSet" := E_b57.wr W63
        have V_b58 : Arv Z h63 b58 k58 .long (3 : Int32) [(.long aa), (.long (aa + (2 : Int64))), (.long dd)] (.long (0 : Int64)) := V_b58.other W63 ne_b58_b62
        have Zn : n0 ≤ h63.size := Nat.le_trans Zn (Keep.of_wr W63).1
        have NN := Fr.snoc X63 NN g_b62
        have pre : ∀ τ, Steps p.tables e below (T63.setTop (mkF m 286 #[.val (.long q1), .second, .val (.long q2), .second, .val (.long q3), .second, .val (.int p4), .val (.long aa), .second, .val (.long dd), .second, .val (.int sh), .unset, .unset, .unset] [(.ref b62), (.ref b58), (.long dd), (.long aa), (.ref b57), (.ref b57)])) τ → G τ := fun τ κ => pre τ (st63 τ κ)
        have pre : ∀ τ, Steps p.tables e below (T63.setTop (mkF m 294 #[.val (.long q1), .second, .val (.long q2), .second, .val (.long q3), .second, .val (.int p4), .val (.long aa), .second, .val (.long dd), .second, .val (.int sh), .unset, .unset, .unset] [(.long (aa + (2 : Int64))), (.int (1 : Int32)), (.ref b62), (.ref b62), (.ref b58), (.long dd), (.long aa), (.ref b57), (.ref b57)])) τ → G τ := fun τ κ => pre τ (by
          refine XS.dup X63.here hx rfl (hb hby at_286) rfl rfl ?_
          show Steps p.tables e below (T63.setTop (mkF m 287 #[.val (.long q1), .second, .val (.long q2), .second, .val (.long q3), .second, .val (.int p4), .val (.long aa), .second, .val (.long dd), .second, .val (.int sh), .unset, .unset, .unset] [(.ref b62), (.ref b62), (.ref b58), (.long dd), (.long aa), (.ref b57), (.ref b57)])) τ
          refine XS.iconst X63.here hx rfl (hb hby at_287) ?_
          show Steps p.tables e below (T63.setTop (mkF m 288 #[.val (.long q1), .second, .val (.long q2), .second, .val (.long q3), .second, .val (.int p4), .val (.long aa), .second, .val (.long dd), .second, .val (.int sh), .unset, .unset, .unset] [(.int (1 : Int32)), (.ref b62), (.ref b62), (.ref b58), (.long dd), (.long aa), (.ref b57), (.ref b57)])) τ
          refine XS.lload X63.here hx rfl (hb hby at_288) rfl ?_
          show Steps p.tables e below (T63.setTop (mkF m 290 #[.val (.long q1), .second, .val (.long q2), .second, .val (.long q3), .second, .val (.int p4), .val (.long aa), .second, .val (.long dd), .second, .val (.int sh), .unset, .unset, .unset] [(.long aa), (.int (1 : Int32)), (.ref b62), (.ref b62), (.ref b58), (.long dd), (.long aa), (.ref b57), (.ref b57)])) τ
          refine X63.ldc2Long hx hown (mvT hZ (hw _ (List.mem_of_getElem? (i := 40) rfl))) (g := (mkF m 290 #[.val (.long q1), .second, .val (.long q2), .second, .val (.long q3), .second, .val (.int p4), .val (.long aa), .second, .val (.long dd), .second, .val (.int sh), .unset, .unset, .unset] [(.long aa), (.int (1 : Int32)), (.ref b62), (.ref b62), (.ref b58), (.long dd), (.long aa), (.ref b57), (.ref b57)])) rfl (hb hby at_290) _ ?_
          show Steps p.tables e below (T63.setTop (mkF m 293 #[.val (.long q1), .second, .val (.long q2), .second, .val (.long q3), .second, .val (.int p4), .val (.long aa), .second, .val (.long dd), .second, .val (.int sh), .unset, .unset, .unset] [(.long (2 : Int64)), (.long aa), (.int (1 : Int32)), (.ref b62), (.ref b62), (.ref b58), (.long dd), (.long aa), (.ref b57), (.ref b57)])) τ
          refine XS.ladd X63.here hx rfl (hb hby at_293) rfl ?_
          show Steps p.tables e below (T63.setTop (mkF m 294 #[.val (.long q1), .second, .val (.long q2), .second, .val (.long q3), .second, .val (.int p4), .val (.long aa), .second, .val (.long dd), .second, .val (.int sh), .unset, .unset, .unset] [(.long (aa + (2 : Int64))), (.int (1 : Int32)), (.ref b62), (.ref b62), (.ref b58), (.long dd), (.long aa), (.ref b57), (.ref b57)])) τ
          exact κ)
        obtain ⟨c64, Ar64, q64, S64, Nz64, Hh64, Gg64⟩ := V_b62
        have hin64 : ¬ ((1 : Int32) < 0 ∨ c64.slots.size ≤ ((1 : Int32)).toNatClampNeg) := inb_of S64 ⟨by decide, by decide⟩
        obtain ⟨T64, h64, X64, e64, W64, st64⟩ := stJ X63 hx hZ e63 Ar64 (j := (1 : Int32)) hin64 (g := (mkF m 294 #[.val (.long q1), .second, .val (.long q2), .second, .val (.long q3), .second, .val (.int p4), .val (.long aa), .second, .val (.long dd), .second, .val (.int sh), .unset, .unset, .unset] [(.long (aa + (2 : Int64))), (.int (1 : Int32)), (.ref b62), (.ref b62), (.ref b58), (.long dd), (.long aa), (.ref b57), (.ref b57)])) rfl rfl (hb hby at_294)
        have V_b62 : Arv Z h64 b62 k62 .long (3 : Int32) [(.long aa), (.long (aa + (2 : Int64))), (.long (0 : Int64))] (.long (0 : Int64)) := Arv.set Ar64 q64 S64 Nz64 Hh64 Gg64 rfl W64 1 rfl (Nat.le_of_ble_eq_true rfl)
        have F_least_b57 : Fld Z h64 b57 "com/example/switchpoint/switchpoint/core/exec/OrdinalSet" "least" "J" (.long (0 : Int64)) := F_least_b57.other W64 (Or.inl ne_b57_b62)
        have F_greatest_b57 : Fld Z h64 b57 "com/example/switchpoint/switchpoint/core/exec/OrdinalSet" "greatest" "J" (.long (0 : Int64)) := F_greatest_b57.other W64 (Or.inl ne_b57_b62)
        have F_lows_b57 : Fld Z h64 b57 "com/example/switchpoint/switchpoint/core/exec/OrdinalSet" "lows" "[J" .null := F_lows_b57.other W64 (Or.inl ne_b57_b62)
        have F_highs_b57 : Fld Z h64 b57 "com/example/switchpoint/switchpoint/core/exec/OrdinalSet" "highs" "[J" .null := F_highs_b57.other W64 (Or.inl ne_b57_b62)
        have E_b57 : Exa Z h64 b57 "com/example/switchpoint/switchpoint/core/exec/OrdinalSet" := E_b57.wr W64
        have V_b58 : Arv Z h64 b58 k58 .long (3 : Int32) [(.long aa), (.long (aa + (2 : Int64))), (.long dd)] (.long (0 : Int64)) := V_b58.other W64 ne_b58_b62
        have Zn : n0 ≤ h64.size := Nat.le_trans Zn (Keep.of_wr W64).1
        have NN := Fr.snoc X64 NN g_b62
        have pre : ∀ τ, Steps p.tables e below (T64.setTop (mkF m 295 #[.val (.long q1), .second, .val (.long q2), .second, .val (.long q3), .second, .val (.int p4), .val (.long aa), .second, .val (.long dd), .second, .val (.int sh), .unset, .unset, .unset] [(.ref b62), (.ref b58), (.long dd), (.long aa), (.ref b57), (.ref b57)])) τ → G τ := fun τ κ => pre τ (st64 τ κ)
        have pre : ∀ τ, Steps p.tables e below (T64.setTop (mkF m 299 #[.val (.long q1), .second, .val (.long q2), .second, .val (.long q3), .second, .val (.int p4), .val (.long aa), .second, .val (.long dd), .second, .val (.int sh), .unset, .unset, .unset] [(.long dd), (.int (2 : Int32)), (.ref b62), (.ref b62), (.ref b58), (.long dd), (.long aa), (.ref b57), (.ref b57)])) τ → G τ := fun τ κ => pre τ (by
          refine XS.dup X64.here hx rfl (hb hby at_295) rfl rfl ?_
          show Steps p.tables e below (T64.setTop (mkF m 296 #[.val (.long q1), .second, .val (.long q2), .second, .val (.long q3), .second, .val (.int p4), .val (.long aa), .second, .val (.long dd), .second, .val (.int sh), .unset, .unset, .unset] [(.ref b62), (.ref b62), (.ref b58), (.long dd), (.long aa), (.ref b57), (.ref b57)])) τ
          refine XS.iconst X64.here hx rfl (hb hby at_296) ?_
          show Steps p.tables e below (T64.setTop (mkF m 297 #[.val (.long q1), .second, .val (.long q2), .second, .val (.long q3), .second, .val (.int p4), .val (.long aa), .second, .val (.long dd), .second, .val (.int sh), .unset, .unset, .unset] [(.int (2 : Int32)), (.ref b62), (.ref b62), (.ref b58), (.long dd), (.long aa), (.ref b57), (.ref b57)])) τ
          refine XS.lload X64.here hx rfl (hb hby at_297) rfl ?_
          show Steps p.tables e below (T64.setTop (mkF m 299 #[.val (.long q1), .second, .val (.long q2), .second, .val (.long q3), .second, .val (.int p4), .val (.long aa), .second, .val (.long dd), .second, .val (.int sh), .unset, .unset, .unset] [(.long dd), (.int (2 : Int32)), (.ref b62), (.ref b62), (.ref b58), (.long dd), (.long aa), (.ref b57), (.ref b57)])) τ
          exact κ)
        obtain ⟨c65, Ar65, q65, S65, Nz65, Hh65, Gg65⟩ := V_b62
        have hin65 : ¬ ((2 : Int32) < 0 ∨ c65.slots.size ≤ ((2 : Int32)).toNatClampNeg) := inb_of S65 ⟨by decide, by decide⟩
        obtain ⟨T65, h65, X65, e65, W65, st65⟩ := stJ X64 hx hZ e64 Ar65 (j := (2 : Int32)) hin65 (g := (mkF m 299 #[.val (.long q1), .second, .val (.long q2), .second, .val (.long q3), .second, .val (.int p4), .val (.long aa), .second, .val (.long dd), .second, .val (.int sh), .unset, .unset, .unset] [(.long dd), (.int (2 : Int32)), (.ref b62), (.ref b62), (.ref b58), (.long dd), (.long aa), (.ref b57), (.ref b57)])) rfl rfl (hb hby at_299)
        have V_b62 : Arv Z h65 b62 k62 .long (3 : Int32) [(.long aa), (.long (aa + (2 : Int64))), (.long dd)] (.long (0 : Int64)) := Arv.set Ar65 q65 S65 Nz65 Hh65 Gg65 rfl W65 2 rfl (Nat.le_of_ble_eq_true rfl)
        have F_least_b57 : Fld Z h65 b57 "com/example/switchpoint/switchpoint/core/exec/OrdinalSet" "least" "J" (.long (0 : Int64)) := F_least_b57.other W65 (Or.inl ne_b57_b62)
        have F_greatest_b57 : Fld Z h65 b57 "com/example/switchpoint/switchpoint/core/exec/OrdinalSet" "greatest" "J" (.long (0 : Int64)) := F_greatest_b57.other W65 (Or.inl ne_b57_b62)
        have F_lows_b57 : Fld Z h65 b57 "com/example/switchpoint/switchpoint/core/exec/OrdinalSet" "lows" "[J" .null := F_lows_b57.other W65 (Or.inl ne_b57_b62)
        have F_highs_b57 : Fld Z h65 b57 "com/example/switchpoint/switchpoint/core/exec/OrdinalSet" "highs" "[J" .null := F_highs_b57.other W65 (Or.inl ne_b57_b62)
        have E_b57 : Exa Z h65 b57 "com/example/switchpoint/switchpoint/core/exec/OrdinalSet" := E_b57.wr W65
        have V_b58 : Arv Z h65 b58 k58 .long (3 : Int32) [(.long aa), (.long (aa + (2 : Int64))), (.long dd)] (.long (0 : Int64)) := V_b58.other W65 ne_b58_b62
        have Zn : n0 ≤ h65.size := Nat.le_trans Zn (Keep.of_wr W65).1
        have NN := Fr.snoc X65 NN g_b62
        have pre : ∀ τ, Steps p.tables e below (T65.setTop (mkF m 300 #[.val (.long q1), .second, .val (.long q2), .second, .val (.long q3), .second, .val (.int p4), .val (.long aa), .second, .val (.long dd), .second, .val (.int sh), .unset, .unset, .unset] [(.ref b62), (.ref b58), (.long dd), (.long aa), (.ref b57), (.ref b57)])) τ → G τ := fun τ κ => pre τ (st65 τ κ)
        obtain ⟨_, _, ⟨T66, Lx66, kx66, nx66⟩, -, X66, ⟨Lc66, hQ66, l66, y66, z66⟩, st66⟩ := X65.specialBack hx (y := (⟨"com/example/switchpoint/switchpoint/core/exec/OrdinalSet", "<init>", "(JJ[J[J)V"⟩ : MethodName)) rfl hown (mvT hZ (hw _ (List.mem_of_getElem? (i := 11) rfl))) (mvT hZ (hw _ (List.mem_of_getElem? (i := 12) rfl))) (mvT hZ (hw _ (List.mem_of_getElem? (i := 13) rfl))) (by decide) (backOf (W := 1) (rm3 l Z a0 hw [] b57 aa dd b58 b62 (.long (0 : Int64)) (.long (0 : Int64)) .null .null h65 n0 Zn g_b57 E_b57 F_least_b57 F_greatest_b57 F_lows_b57 F_highs_b57) hZ (hw _ (List.mem_of_getElem? (i := 13) rfl)) (hw _ (List.mem_of_getElem? (i := 9) rfl)) (by decide) (by decide)) (g := (mkF m 300 #[.val (.long q1), .second, .val (.long q2), .second, .val (.long q3), .second, .val (.int p4), .val (.long aa), .second, .val (.long dd), .second, .val (.int sh), .unset, .unset, .unset] [(.ref b62), (.ref b58), (.long dd), (.long aa), (.ref b57), (.ref b57)])) rfl (by rw [hml]; rfl) (Steps.refl _) (a := b57) (argsL := [(.long aa), (.long dd), (.ref b58), (.ref b62)]) (rest := [(.ref b57)]) (lenOf pd_2 rfl) rfl (by show 2 * 0 + _ ≤ _; exact Nat.le_of_eq rfl) (hb hby at_300) (fun _ _ => ⟨rfl, e65, (by decide : 3 + 0 ≤ _), (by decide : 10 + 0 ≤ _)⟩)
        dsimp only [Pt.U, Pt.locs, Pt.cells, Pt.slots] at X66 l66 y66 z66 st66 hQ66
        subst l66 y66 z66
        obtain ⟨rfl, Nq66, Kc66, E_o_66, F_least_66, F_greatest_66, F_lows_66, F_highs_66⟩ := hQ66
        have NN := Fr.app NN Nq66
        have E_b57 : Exa Z T66.heap b57 "com/example/switchpoint/switchpoint/core/exec/OrdinalSet" := E_b57.keep Kc66
        have V_b58 : Arv Z T66.heap b58 k58 .long (3 : Int32) [(.long aa), (.long (aa + (2 : Int64))), (.long dd)] (.long (0 : Int64)) := V_b58.keep Kc66 (ninS (Ne.symm ne_b57_b58) nin0)
        have V_b62 : Arv Z T66.heap b62 k62 .long (3 : Int32) [(.long aa), (.long (aa + (2 : Int64))), (.long dd)] (.long (0 : Int64)) := V_b62.keep Kc66 (ninS (Ne.symm ne_b57_b62) nin0)
        have Zn : n0 ≤ T66.heap.size := Nat.le_trans Zn Kc66.1
        have pre : ∀ τ, Steps p.tables e below (T66.setTop (mkF m 303 #[.val (.long q1), .second, .val (.long q2), .second, .val (.long q3), .second, .val (.int p4), .val (.long aa), .second, .val (.long dd), .second, .val (.int sh), .unset, .unset, .unset] [(.ref b57)])) τ → G τ := fun τ κ => pre τ (st66.trans κ)
        have pre : ∀ τ, Steps p.tables e below (T66.setTop (mkF m 310 #[.val (.long q1), .second, .val (.long q2), .second, .val (.long q3), .second, .val (.int p4), .val (.long aa), .second, .val (.long dd), .second, .val (.int sh), .val (.ref b57), .val (.int (0 : Int32)), .unset] [(.ref b57)])) τ → G τ := fun τ κ => pre τ (by
          refine XS.astore X66.here hx rfl (hb hby at_303) rfl rfl (l' := #[.val (.long q1), .second, .val (.long q2), .second, .val (.long q3), .second, .val (.int p4), .val (.long aa), .second, .val (.long dd), .second, .val (.int sh), .val (.ref b57), .unset, .unset]) rfl ?_
          show Steps p.tables e below (T66.setTop (mkF m 305 #[.val (.long q1), .second, .val (.long q2), .second, .val (.long q3), .second, .val (.int p4), .val (.long aa), .second, .val (.long dd), .second, .val (.int sh), .val (.ref b57), .unset, .unset] [])) τ
          refine XS.iconst X66.here hx rfl (hb hby at_305) ?_
          show Steps p.tables e below (T66.setTop (mkF m 306 #[.val (.long q1), .second, .val (.long q2), .second, .val (.long q3), .second, .val (.int p4), .val (.long aa), .second, .val (.long dd), .second, .val (.int sh), .val (.ref b57), .unset, .unset] [(.int (0 : Int32))])) τ
          refine XS.istore X66.here hx rfl (hb hby at_306) rfl (l' := #[.val (.long q1), .second, .val (.long q2), .second, .val (.long q3), .second, .val (.int p4), .val (.long aa), .second, .val (.long dd), .second, .val (.int sh), .val (.ref b57), .val (.int (0 : Int32)), .unset]) rfl ?_
          show Steps p.tables e below (T66.setTop (mkF m 308 #[.val (.long q1), .second, .val (.long q2), .second, .val (.long q3), .second, .val (.int p4), .val (.long aa), .second, .val (.long dd), .second, .val (.int sh), .val (.ref b57), .val (.int (0 : Int32)), .unset] [])) τ
          refine XS.aload X66.here hx rfl (hb hby at_308) rfl rfl ?_
          show Steps p.tables e below (T66.setTop (mkF m 310 #[.val (.long q1), .second, .val (.long q2), .second, .val (.long q3), .second, .val (.int p4), .val (.long aa), .second, .val (.long dd), .second, .val (.int sh), .val (.ref b57), .val (.int (0 : Int32)), .unset] [(.ref b57)])) τ
          exact κ)
        obtain ⟨cq67, kq67, q67a, q67b, q67c⟩ := isOf hZ rfl E_b57
        obtain ⟨_, _, ⟨T67, Lx67, kx67, nx67⟩, -, X67, ⟨Lc67, hQ67, l67, y67, z67⟩, st67⟩ := X66.virtualBack hx (y := (⟨"com/example/switchpoint/switchpoint/core/exec/OrdinalSet", "isAll", "()Z"⟩ : MethodName)) (z := (⟨"com/example/switchpoint/switchpoint/core/exec/OrdinalSet", "isAll", "()Z"⟩ : MethodName)) hown (mvT hZ (hw _ (List.mem_of_getElem? (i := 30) rfl))) (mvT hZ (hw _ (List.mem_of_getElem? (i := 31) rfl))) (notFace_of_selects (args := #[]) (mvT hZ (hw _ (List.mem_of_getElem? (i := 33) rfl)))) (mvT hZ (hw _ (List.mem_of_getElem? (i := 33) rfl))) (mvT hZ (hw _ (List.mem_of_getElem? (i := 32) rfl))) (by decide) (backOf (W := 0) (rm6 l Z a0 hw [] b57 aa dd b58 k58 (3 : Int32) [(.long aa), (.long (aa + (2 : Int64))), (.long dd)] (.long (0 : Int64)) T66.heap n0 Zn F_least_66 F_greatest_66 F_lows_66 V_b58) hZ (hw _ (List.mem_of_getElem? (i := 34) rfl)) (hw _ (List.mem_of_getElem? (i := 9) rfl)) (by decide) (by decide)) q67a q67c (g := (mkF m 310 #[.val (.long q1), .second, .val (.long q2), .second, .val (.long q3), .second, .val (.int p4), .val (.long aa), .second, .val (.long dd), .second, .val (.int sh), .val (.ref b57), .val (.int (0 : Int32)), .unset] [(.ref b57)])) rfl (by rw [hml]; rfl) (Steps.refl _) (argsL := []) (rest := []) (lenOf pd_3 rfl) rfl (by show 2 * 0 + _ ≤ _; exact Nat.le_of_eq rfl) (hb hby at_310) (fun _ _ => ⟨rfl, rfl, (by decide : 3 + 0 ≤ _), (by decide : 10 + 0 ≤ _)⟩)
        dsimp only [Pt.U, Pt.locs, Pt.cells, Pt.slots] at X67 l67 y67 z67 st67 hQ67
        subst l67 y67 z67
        obtain ⟨rfl, Nq67, hs67⟩ := hQ67
        have NN := Fr.app NN Nq67
        have pre : ∀ τ, Steps p.tables e below (T67.setTop (mkF m 313 #[.val (.long q1), .second, .val (.long q2), .second, .val (.long q3), .second, .val (.int p4), .val (.long aa), .second, .val (.long dd), .second, .val (.int sh), .val (.ref b57), .val (.int (0 : Int32)), .unset] [(.int (own_all aa dd (3 : Int32)))])) τ → G τ := fun τ κ => pre τ (st67.trans κ)
        have pre : ∀ τ, Steps p.tables e below (T67.setTop (mkF m 319 #[.val (.long q1), .second, .val (.long q2), .second, .val (.long q3), .second, .val (.int p4), .val (.long aa), .second, .val (.long dd), .second, .val (.int sh), .val (.ref b57), .val (.int (0 : Int32)), .val (.int (own_all aa dd (3 : Int32)))] [(.int (0 : Int32)), (.int (own_all aa dd (3 : Int32)))])) τ → G τ := fun τ κ => pre τ (by
          refine XS.istore X67.here hx rfl (hb hby at_313) rfl (l' := #[.val (.long q1), .second, .val (.long q2), .second, .val (.long q3), .second, .val (.int p4), .val (.long aa), .second, .val (.long dd), .second, .val (.int sh), .val (.ref b57), .val (.int (0 : Int32)), .val (.int (own_all aa dd (3 : Int32)))]) rfl ?_
          show Steps p.tables e below (T67.setTop (mkF m 315 #[.val (.long q1), .second, .val (.long q2), .second, .val (.long q3), .second, .val (.int p4), .val (.long aa), .second, .val (.long dd), .second, .val (.int sh), .val (.ref b57), .val (.int (0 : Int32)), .val (.int (own_all aa dd (3 : Int32)))] [])) τ
          refine XS.iload X67.here hx rfl (hb hby at_315) rfl ?_
          show Steps p.tables e below (T67.setTop (mkF m 317 #[.val (.long q1), .second, .val (.long q2), .second, .val (.long q3), .second, .val (.int p4), .val (.long aa), .second, .val (.long dd), .second, .val (.int sh), .val (.ref b57), .val (.int (0 : Int32)), .val (.int (own_all aa dd (3 : Int32)))] [(.int (own_all aa dd (3 : Int32)))])) τ
          refine XS.iload X67.here hx rfl (hb hby at_317) rfl ?_
          show Steps p.tables e below (T67.setTop (mkF m 319 #[.val (.long q1), .second, .val (.long q2), .second, .val (.long q3), .second, .val (.int p4), .val (.long aa), .second, .val (.long dd), .second, .val (.int sh), .val (.ref b57), .val (.int (0 : Int32)), .val (.int (own_all aa dd (3 : Int32)))] [(.int (0 : Int32)), (.int (own_all aa dd (3 : Int32)))])) τ
          exact κ)
        have hc68 : (own_all aa dd (3 : Int32)) = (0 : Int32) := (by simp [own_all, hc104_17, hc137_25, hc200_45])
        have pre : ∀ τ, Steps p.tables e below (T67.setTop (mkF m 324 #[.val (.long q1), .second, .val (.long q2), .second, .val (.long q3), .second, .val (.int p4), .val (.long aa), .second, .val (.long dd), .second, .val (.int sh), .val (.ref b57), .val (.int (0 : Int32)), .val (.int (own_all aa dd (3 : Int32)))] [(.int (own_all aa dd (3 : Int32)))])) τ → G τ := fun τ κ => pre τ (by
          refine XS.icmpNo X67.here hx rfl (hb hby at_319) rfl (teq hc68).2 ?_
          show Steps p.tables e below (T67.setTop (mkF m 322 #[.val (.long q1), .second, .val (.long q2), .second, .val (.long q3), .second, .val (.int p4), .val (.long aa), .second, .val (.long dd), .second, .val (.int sh), .val (.ref b57), .val (.int (0 : Int32)), .val (.int (own_all aa dd (3 : Int32)))] [])) τ
          refine XS.iload X67.here hx rfl (hb hby at_322) rfl ?_
          show Steps p.tables e below (T67.setTop (mkF m 324 #[.val (.long q1), .second, .val (.long q2), .second, .val (.long q3), .second, .val (.int p4), .val (.long aa), .second, .val (.long dd), .second, .val (.int sh), .val (.ref b57), .val (.int (0 : Int32)), .val (.int (own_all aa dd (3 : Int32)))] [(.int (own_all aa dd (3 : Int32)))])) τ
          exact κ)
        have hc69 : (own_all aa dd (3 : Int32)) = (0 : Int32) := (by simp [own_all, hc104_17, hc137_25, hc200_45, hc68])
        have pre : ∀ τ, Steps p.tables e below (T67.setTop (mkF m 342 #[.val (.long q1), .second, .val (.long q2), .second, .val (.long q3), .second, .val (.int p4), .val (.long aa), .second, .val (.long dd), .second, .val (.int sh), .val (.ref b57), .val (.int (0 : Int32)), .val (.int (own_all aa dd (3 : Int32)))] [(.int (1 : Int32))])) τ → G τ := fun τ κ => pre τ (by
          refine XS.ifYes X67.here hx rfl (pc0 := 324) (pc' := 337) rfl (hb hby at_324) rfl ((if0 _ _).trans (teq hc69).1) (by decide) (by decide) ?_
          show Steps p.tables e below (T67.setTop (mkF m 337 #[.val (.long q1), .second, .val (.long q2), .second, .val (.long q3), .second, .val (.int p4), .val (.long aa), .second, .val (.long dd), .second, .val (.int sh), .val (.ref b57), .val (.int (0 : Int32)), .val (.int (own_all aa dd (3 : Int32)))] [])) τ
          refine XS.iconst X67.here hx rfl (hb hby at_337) ?_
          show Steps p.tables e below (T67.setTop (mkF m 338 #[.val (.long q1), .second, .val (.long q2), .second, .val (.long q3), .second, .val (.int p4), .val (.long aa), .second, .val (.long dd), .second, .val (.int sh), .val (.ref b57), .val (.int (0 : Int32)), .val (.int (own_all aa dd (3 : Int32)))] [(.int (1 : Int32))])) τ
          refine XS.goto X67.here hx rfl (pc0 := 338) (pc' := 342) rfl (hb hby at_338) (by decide) (by decide) ?_
          show Steps p.tables e below (T67.setTop (mkF m 342 #[.val (.long q1), .second, .val (.long q2), .second, .val (.long q3), .second, .val (.int p4), .val (.long aa), .second, .val (.long dd), .second, .val (.int sh), .val (.ref b57), .val (.int (0 : Int32)), .val (.int (own_all aa dd (3 : Int32)))] [(.int (1 : Int32))])) τ
          exact κ)
        obtain ⟨fs, hr, hrun, hended, hW, hsame⟩ := X67.leave (v := some (.int (1 : Int32))) (fun h => by rw [Bd.returns] at h; cases h)
        refine hGL ⟨_, _, hG _ (pre _ ?_), hrun, hended, _, _, rfl, ?_, ⟨_, rfl⟩, hW, hsame.mono (by decide) (by decide)⟩
        · exact retN X67 hx (t := .boolean) Bd.returns (by simp) (hb hby at_342) hr
        · show Q0 Z q1 q2 q3 p4 h0 n0 _ T67.heap _
          rw [hs67]
          exact ⟨rfl, NN⟩
set_option maxRecDepth 65536 in
set_option maxHeartbeats 40000000 in
theorem comes_1 {Post : Tables → Env → Array Value → State → Outcome → State → Prop} (hpost : ∀ tb e args s v u, (limb_1_1.after args s (.returned v) u = true ∧ limb_1_2.after args s (.returned v) u = true ∧ True) → FrameEnd s (.returned v) u (Jvm.fieldLocs frame_1_writes args s ++ Jvm.arrayLocs frame_1_arrays args s ++ Jvm.staticLocs frame_1_statics s) 16 128 → Post tb e args s (.returned v) u) :
    ArmFor flags0 classFile x code maxLocals ret World_1 tables_1 room_1 Calls_1 rest_1 Pre_1 Post := by
  intro l hfl _ _ p e ha hc hk s m args below hf hA hF happ hP
  obtain ⟨hcalls, hrest, hpre⟩ := hP
  obtain ⟨-, -, -, hnamed, -, -, -, hat⟩ := (Spec.applies_iff hf).mp happ
  obtain ⟨hg, hn⟩ := and_e (Cond.before_iff.mp (show (Jvm.Cond.and given_1 narrow_1).before args s = true from hpre))
  obtain ⟨gv1, gv2⟩ := and_e hg
  obtain ⟨gv3, gv4⟩ := and_e gv2
  obtain ⟨gv5, gv6⟩ := and_e gv4
  obtain ⟨gv7, gv8⟩ := and_e gv6
  obtain ⟨w0, w1, w2, w3, rfl⟩ : ∃ w0 w1 w2 w3 : Value, args = #[w0, w1, w2, w3] := by
    have hs : args.size = 4 := by simpa [Cond.value, given_1] using gv1
    obtain ⟨L⟩ := args
    match L, hs with
    | [w0, w1, w2, w3], _ => exact ⟨w0, w1, w2, w3, rfl⟩
  have hw := fun d (hd : d ∈ tables_1) => atoms_spec (ws := Jvm.Cond.code x code maxLocals ret :: tables_1) hat d (List.mem_cons_of_mem _ hd)
  have hfit : Fit s := fun {y c} hc i hi => by
    obtain ⟨ha, rfl⟩ := Array.getElem?_eq_some_iff.mp hc
    have q := List.all_eq_true.mp ((Array.all_eq_true_iff_forall_mem.mp hF) _ (Array.getElem_mem ha)) i (List.mem_range.mpr hi)
    simpa [Array.getElem?_eq_getElem hi] using q
  obtain ⟨i0, ei0⟩ := isL_v gv3
  obtain rfl : w0 = (.long i0) := Option.some.inj ei0
  obtain ⟨i1, ei1⟩ := isL_v gv5
  obtain rfl : w1 = (.long i1) := Option.some.inj ei1
  obtain ⟨i2, ei2⟩ := isL_v gv7
  obtain rfl : w2 = (.long i2) := Option.some.inj ei2
  obtain ⟨i3, ei3⟩ := is_v gv8
  obtain rfl : w3 = (.int i3) := Option.some.inj ei3
  obtain ⟨n, o, h1, h2, h3, _, L, rfl, ⟨rfl, N⟩, hq⟩ := rm0 l s _ hw tables_1 i0 i1 i2 i3  s.heap s.heap.size (Nat.le_refl _)  p e ha hc hk s m _ below hf ((Spec.applies_iff_loose hf).mp happ).1 ⟨rfl, State.Warmed39.refl s, rfl⟩ trivial
  refine ⟨n, _, h1, h2, h3, hpost _ _ _ _ _ _ ⟨Cond.after_iff.mpr rfl, Cond.after_iff.mpr (eq_i res_at (Term.int_eval (1)) rfl), trivial⟩ ⟨hq.1, hq.2.1, (hq.2.2.sift fun y hy => Or.inr (N y hy)).mono (by decide) (by decide)⟩⟩
theorem main_1_1 : Claimed_1_1 := comes_1 fun _ _ _ _ _ _ h hF => ⟨h.1, hF⟩
theorem main_1_2 : Claimed_1_2 := comes_1 fun _ _ _ _ _ _ h hF => ⟨h.2.1, hF⟩
end Jvm.Pilot.@@N@@
namespace Jvm.Pilot.@@N@@
open Jvm Jvm.ClassFile Sem Op Lib Jvm.Free Jvm.Stand Jvm.Pilot.@@N@@.Jvm.D
/-! MADE BY PROGRAM (witnessworld.py) out of the Statement's table words and the real class files: 13 classes; the members and pool entries that the words name. The judged class is class 1, her method 1. -/
namespace start1
open Jvm.ClassFile
def u (s : String) : CpInfo := .utf8 (stringToUtf16 s)
/-- a pool by its gaps: so many unusable entries, then the entry; so many at the end -/
def gap : Nat → List CpInfo → List CpInfo
  | 0, r => r
  | n + 1, r => .unusable :: gap n r
def poolList (es : List (Nat × CpInfo)) (last : Nat) : List CpInfo := es.foldr (fun e r => gap e.1 (e.2 :: r)) (gap last [])
def pool (es : List (Nat × CpInfo)) (last : Nat) : Array CpInfo := ⟨poolList es last⟩
def fileOf (pool : Array CpInfo) (this : Nat) (attrs : Array Attribute := #[]) (ms : Array MethodInfo := #[]) (fl : Nat := 33) (sup : Nat := 0) (ifs : Array Nat := #[]) (fds : Array FieldInfo := #[]) : ClassFile where
  minorVersion := 0
  majorVersion := 65
  constantPool := pool
  accessFlags := fl
  thisClass := this
  superClass := sup
  interfaces := ifs
  fields := fds
  methods := ms
  attributes := attrs
def plain (name : String) (sup : Option ClassId) : Class where
  name := name
  kind := .ordinary
  loader := none
  accessFlags := 33
  super := sup
  interfaces := #[]
  cf := none
  fields := #[]
  methods := #[]
  instanceTypes := #[]
  staticTypes := #[]
  resolved := #[]
  callSites := []
  init := .initialized
  statics := none
  mirror := none

def pool0 : Array CpInfo := pool [(5, u "<init>"), (0, u "()V"), (1, .class_ 10), (1, u "java/lang/Object")] 113

def k0c0 : Code := { maxStack := 0, maxLocals := 1, code := object_method_1_code, exceptionTable := #[], attributes := #[] }
def k0m0 : Method := { name := "<init>", desc := "()V", sig := { parameters := [], returnType := none }, accessFlags := 1, code := some k0c0 }
/-- java/lang/Object -/
def k0 : Class := { plain "java/lang/Object" none with
  accessFlags := 33
  interfaces := #[]
  cf := some (fileOf pool0 8 #[] #[{ accessFlags := 1, nameIndex := 5, descriptorIndex := 6, attributes := #[] }] 33 0 #[] #[])
  fields := #[]
  methods := #[k0m0]
  instanceTypes := #[]
  staticTypes := #[]
  resolved := Array.replicate 124 none
  statics := none }

def pool1 : Array CpInfo := pool [(2, .class_ 4), (1, u "java/lang/Object"), (0, u "<init>"), (0, u "()V"), (0, .methodref 8 9), (0, .class_ 10), (0, .nameAndType 11 12), (0, u "java/lang/Math"), (0, u "min"), (0, u "(JJ)J"), (0, .methodref 8 14), (0, .nameAndType 15 12), (0, u "max"), (2, .long 9223372036854775808), (1, .long 9223372036854775807), (1, .long 9223372036854775812), (1, .long 4), (1, .class_ 27), (0, u "com/example/switchpoint/switchpoint/core/exec/OrdinalSet"), (0, .methodref 26 29), (0, .nameAndType 5 30), (0, u "(JJ[J[J)V"), (0, .long 2), (1, .methodref 26 34), (0, .nameAndType 35 36), (0, u "isAll"), (0, u "()Z"), (0, .methodref 26 38), (0, .nameAndType 39 40), (0, u "contains"), (0, u "(J)Z"), (0, .class_ 42), (0, u "com/example/switchpoint/switchpoint/core/exec/OrdinalSetIsAllPinLaw"), (2, u "law"), (0, u "(JJJI)Z")] 3

def k1m0 : Method := { name := "<init>", desc := "()V", sig := { parameters := [], returnType := none }, accessFlags := 1, code := none }
def k1c1 : Code := { maxStack := 14, maxLocals := 15, code := code, exceptionTable := #[], attributes := #[] }
def k1m1 : Method := { name := "law", desc := "(JJJI)Z", sig := { parameters := [.long, .long, .long, .int], returnType := some .boolean }, accessFlags := 9, code := some k1c1 }
/-- com/example/switchpoint/switchpoint/core/exec/OrdinalSetIsAllPinLaw -/
def k1 : Class := { plain "com/example/switchpoint/switchpoint/core/exec/OrdinalSetIsAllPinLaw" (some 0) with
  accessFlags := 49
  interfaces := #[]
  cf := some (fileOf pool1 41 #[] #[{ accessFlags := 1, nameIndex := 5, descriptorIndex := 6, attributes := #[] }, { accessFlags := 9, nameIndex := 45, descriptorIndex := 46, attributes := #[] }] 49 2 #[] #[])
  fields := #[]
  methods := #[k1m0, k1m1]
  instanceTypes := #[]
  staticTypes := #[]
  resolved := Array.replicate 50 none
  statics := none }

def pool2 : Array CpInfo := pool [(1, .class_ 2), (0, u "java/lang/Math"), (1, .class_ 6), (1, u "java/lang/Object"), (0, u "<init>"), (0, u "()V"), (89, .class_ 100), (1, u "java/lang/Math$RandomNumberGeneratorHolder"), (20, u "(JJ)J"), (50, u "negativeZeroFloatBits"), (0, u "J"), (2, u "negativeZeroDoubleBits"), (21, u "max"), (2, u "min"), (43, u "$assertionsDisabled"), (0, u "Z"), (91, u "twoToTheDoubleScaleDown"), (0, u "D"), (4, u "twoToTheDoubleScaleUp"), (9, u "E"), (3, u "PI"), (2, u "TAU"), (2, u "DEGREES_TO_RADIANS"), (0, u "RADIANS_TO_DEGREES")] 94

def k2m0 : Method := { name := "<init>", desc := "()V", sig := { parameters := [], returnType := none }, accessFlags := 2, code := none }
def k2c1 : Code := { maxStack := 4, maxLocals := 4, code := jdk_29_method_66_code, exceptionTable := #[], attributes := #[] }
def k2m1 : Method := { name := "max", desc := "(JJ)J", sig := { parameters := [.long, .long], returnType := some .long }, accessFlags := 9, code := some k2c1 }
def k2c2 : Code := { maxStack := 4, maxLocals := 4, code := jdk_29_method_70_code, exceptionTable := #[], attributes := #[] }
def k2m2 : Method := { name := "min", desc := "(JJ)J", sig := { parameters := [.long, .long], returnType := some .long }, accessFlags := 9, code := some k2c2 }
/-- java/lang/Math -/
def k2 : Class := { plain "java/lang/Math" (some 0) with
  accessFlags := 49
  interfaces := #[]
  cf := some (fileOf pool2 1 #[.nestMembers #[98]] #[{ accessFlags := 2, nameIndex := 7, descriptorIndex := 8, attributes := #[] }, { accessFlags := 9, nameIndex := 198, descriptorIndex := 121, attributes := #[] }, { accessFlags := 9, nameIndex := 201, descriptorIndex := 121, attributes := #[] }] 49 4 #[] #[{ accessFlags := 25, nameIndex := 354, descriptorIndex := 339, attributes := #[] }, { accessFlags := 25, nameIndex := 358, descriptorIndex := 339, attributes := #[] }, { accessFlags := 25, nameIndex := 361, descriptorIndex := 339, attributes := #[] }, { accessFlags := 26, nameIndex := 364, descriptorIndex := 339, attributes := #[] }, { accessFlags := 26, nameIndex := 365, descriptorIndex := 339, attributes := #[] }, { accessFlags := 26, nameIndex := 172, descriptorIndex := 173, attributes := #[] }, { accessFlags := 26, nameIndex := 176, descriptorIndex := 173, attributes := #[] }, { accessFlags := 8, nameIndex := 344, descriptorIndex := 339, attributes := #[] }, { accessFlags := 8, nameIndex := 338, descriptorIndex := 339, attributes := #[] }, { accessFlags := 4120, nameIndex := 245, descriptorIndex := 246, attributes := #[] }])
  fields := #[{ name := "E", type := .double, accessFlags := 25, slot := 0, constantValue := 0 }, { name := "PI", type := .double, accessFlags := 25, slot := 1, constantValue := 0 }, { name := "TAU", type := .double, accessFlags := 25, slot := 2, constantValue := 0 }, { name := "DEGREES_TO_RADIANS", type := .double, accessFlags := 26, slot := 3, constantValue := 0 }, { name := "RADIANS_TO_DEGREES", type := .double, accessFlags := 26, slot := 4, constantValue := 0 }, { name := "negativeZeroFloatBits", type := .long, accessFlags := 26, slot := 5, constantValue := 0 }, { name := "negativeZeroDoubleBits", type := .long, accessFlags := 26, slot := 6, constantValue := 0 }, { name := "twoToTheDoubleScaleUp", type := .double, accessFlags := 8, slot := 7, constantValue := 0 }, { name := "twoToTheDoubleScaleDown", type := .double, accessFlags := 8, slot := 8, constantValue := 0 }, { name := "$assertionsDisabled", type := .boolean, accessFlags := 4120, slot := 9, constantValue := 0 }]
  methods := #[k2m0, k2m1, k2m2]
  instanceTypes := #[]
  staticTypes := #[.double, .double, .double, .double, .double, .long, .long, .double, .double, .boolean]
  resolved := Array.replicate 460 none
  statics := none }

def pool3 : Array CpInfo := pool [(1, .methodref 2 3), (0, .class_ 4), (0, .nameAndType 5 6), (0, u "java/lang/Object"), (0, u "<init>"), (0, u "()V"), (0, .class_ 8), (0, u "java/lang/Record")] 13

def k3c0 : Code := { maxStack := 1, maxLocals := 1, code := jdk_30_method_1_code, exceptionTable := #[], attributes := #[] }
def k3m0 : Method := { name := "<init>", desc := "()V", sig := { parameters := [], returnType := none }, accessFlags := 4, code := some k3c0 }
/-- java/lang/Record -/
def k3 : Class := { plain "java/lang/Record" (some 0) with
  accessFlags := 1057
  interfaces := #[]
  cf := some (fileOf pool3 7 #[] #[{ accessFlags := 4, nameIndex := 5, descriptorIndex := 6, attributes := #[] }] 1057 2 #[] #[])
  fields := #[]
  methods := #[k3m0]
  instanceTypes := #[]
  staticTypes := #[]
  resolved := Array.replicate 22 none
  statics := none }

def pool4 : Array CpInfo := pool [(1, .methodref 2 3), (0, .class_ 4), (0, .nameAndType 5 6), (0, u "java/lang/Record"), (0, u "<init>"), (0, u "()V"), (0, .fieldref 8 9), (0, .class_ 10), (0, .nameAndType 11 12), (0, u "com/example/switchpoint/switchpoint/core/exec/OrdinalSet"), (0, u "least"), (0, u "J"), (0, .fieldref 8 14), (0, .nameAndType 15 12), (0, u "greatest"), (0, .fieldref 8 17), (0, .nameAndType 18 19), (0, u "lows"), (0, u "[J"), (0, .fieldref 8 21), (0, .nameAndType 22 19), (0, u "highs"), (2, u "NONE"), (0, u "Lcom/example/switchpoint/switchpoint/core/exec/OrdinalSet;"), (8, u "(JJ[J[J)V"), (2, u "GREATEST"), (0, u "Ljava/math/BigDecimal;"), (8, u "LEAST"), (2, .long 9223372036854775808), (9, .long 9223372036854775807), (22, u "()Z"), (22, .class_ 108), (0, u "com/example/switchpoint/switchpoint/core/exec/OrdinalSet$Builder"), (24, u "ALL"), (3, u "(J)Z"), (33, u "isAll"), (0, u "contains")] 43

def k4c0 : Code := { maxStack := 3, maxLocals := 7, code := prog_54_method_1_code, exceptionTable := #[], attributes := #[] }
def k4m0 : Method := { name := "<init>", desc := "(JJ[J[J)V", sig := { parameters := [.long, .long, (.array .long), (.array .long)], returnType := none }, accessFlags := 0, code := some k4c0 }
def k4c1 : Code := { maxStack := 4, maxLocals := 1, code := prog_54_method_7_code, exceptionTable := #[], attributes := #[] }
def k4m1 : Method := { name := "isAll", desc := "()Z", sig := { parameters := [], returnType := some .boolean }, accessFlags := 0, code := some k4c1 }
def k4c2 : Code := { maxStack := 4, maxLocals := 3, code := prog_54_method_8_code, exceptionTable := #[], attributes := #[] }
def k4m2 : Method := { name := "contains", desc := "(J)Z", sig := { parameters := [.long], returnType := some .boolean }, accessFlags := 0, code := some k4c2 }
/-- com/example/switchpoint/switchpoint/core/exec/OrdinalSet -/
def k4 : Class := { plain "com/example/switchpoint/switchpoint/core/exec/OrdinalSet" (some 3) with
  accessFlags := 48
  interfaces := #[]
  cf := some (fileOf pool4 8 #[.nestMembers #[107]] #[{ accessFlags := 0, nameIndex := 5, descriptorIndex := 35, attributes := #[] }, { accessFlags := 0, nameIndex := 171, descriptorIndex := 84, attributes := #[] }, { accessFlags := 0, nameIndex := 172, descriptorIndex := 137, attributes := #[] }] 48 2 #[] #[{ accessFlags := 18, nameIndex := 11, descriptorIndex := 12, attributes := #[] }, { accessFlags := 18, nameIndex := 15, descriptorIndex := 12, attributes := #[] }, { accessFlags := 18, nameIndex := 18, descriptorIndex := 19, attributes := #[] }, { accessFlags := 18, nameIndex := 22, descriptorIndex := 19, attributes := #[] }, { accessFlags := 24, nameIndex := 25, descriptorIndex := 26, attributes := #[] }, { accessFlags := 24, nameIndex := 133, descriptorIndex := 26, attributes := #[] }, { accessFlags := 26, nameIndex := 48, descriptorIndex := 39, attributes := #[] }, { accessFlags := 26, nameIndex := 38, descriptorIndex := 39, attributes := #[] }])
  fields := #[{ name := "least", type := .long, accessFlags := 18, slot := 0, constantValue := 0 }, { name := "greatest", type := .long, accessFlags := 18, slot := 1, constantValue := 0 }, { name := "lows", type := (.array .long), accessFlags := 18, slot := 2, constantValue := 0 }, { name := "highs", type := (.array .long), accessFlags := 18, slot := 3, constantValue := 0 }, { name := "NONE", type := (.object "com/example/switchpoint/switchpoint/core/exec/OrdinalSet"), accessFlags := 24, slot := 0, constantValue := 0 }, { name := "ALL", type := (.object "com/example/switchpoint/switchpoint/core/exec/OrdinalSet"), accessFlags := 24, slot := 1, constantValue := 0 }, { name := "LEAST", type := (.object "java/math/BigDecimal"), accessFlags := 26, slot := 2, constantValue := 0 }, { name := "GREATEST", type := (.object "java/math/BigDecimal"), accessFlags := 26, slot := 3, constantValue := 0 }]
  methods := #[k4m0, k4m1, k4m2]
  instanceTypes := #[.long, .long, (.array .long), (.array .long)]
  staticTypes := #[(.object "com/example/switchpoint/switchpoint/core/exec/OrdinalSet"), (.object "com/example/switchpoint/switchpoint/core/exec/OrdinalSet"), (.object "java/math/BigDecimal"), (.object "java/math/BigDecimal")]
  resolved := Array.replicate 216 none
  statics := none }

def pool5 : Array CpInfo := pool [(1, u "java/lang/Cloneable"), (0, .class_ 1), (0, u "java/lang/Object"), (0, .class_ 3)] 3

/-- java/lang/Cloneable -/
def k5 : Class := { plain "java/lang/Cloneable" (some 0) with
  accessFlags := 1537
  interfaces := #[]
  cf := some (fileOf pool5 2 #[] #[] 1537 4 #[] #[])
  fields := #[]
  methods := #[]
  instanceTypes := #[]
  staticTypes := #[]
  resolved := Array.replicate 8 none
  statics := none }

def pool6 : Array CpInfo := pool [(1, u "java/io/Serializable"), (0, .class_ 1), (0, u "java/lang/Object"), (0, .class_ 3)] 3

/-- java/io/Serializable -/
def k6 : Class := { plain "java/io/Serializable" (some 0) with
  accessFlags := 1537
  interfaces := #[]
  cf := some (fileOf pool6 2 #[] #[] 1537 4 #[] #[])
  fields := #[]
  methods := #[]
  instanceTypes := #[]
  staticTypes := #[]
  resolved := Array.replicate 8 none
  statics := none }

/-- the primitive byte -/
def k7 : Class := { plain "byte" none with kind := .primitive 'B', accessFlags := 0x411 }
/-- [B -/
def k8 : Class := { plain "[B" (some 0) with kind := .array 7 .byte, interfaces := #[5, 6], accessFlags := 1041 }

/-- the primitive int -/
def k9 : Class := { plain "int" none with kind := .primitive 'I', accessFlags := 0x411 }
/-- [I -/
def k10 : Class := { plain "[I" (some 0) with kind := .array 9 .int, interfaces := #[5, 6], accessFlags := 1041 }

/-- the primitive long -/
def k11 : Class := { plain "long" none with kind := .primitive 'J', accessFlags := 0x411 }
/-- [J -/
def k12 : Class := { plain "[J" (some 0) with kind := .array 11 .long, interfaces := #[5, 6], accessFlags := 1041 }

def heap : Heap := #[]
def classes : Array Class := #[k0, k1, k2, k3, k4, k5, k6, k7, k8, k9, k10, k11, k12]
def interned : List (Array UInt16 × Addr) := []
def slotsUsed : Nat := 0
def theMethod : MethodId := ⟨1, 1⟩
def args0 : Array Value := #[.long 1, .long 5, .long 9, .int 3]
def aboutOver (below : List Frame) : State where
  vm := { classes := classes, interned := interned.toArray }
  heap := heap
  slotsUsed := slotsUsed
  threads := #[{ frames := .invoking theMethod args0 :: below }]
def below0 : List Frame := [.native { method := ⟨0, 0⟩, args := #[] }]
def about1 : State := aboutOver below0
def p0 : Program := .bare "" "" ""
def e0 : Env := launch0.env 0 0 0
theorem w_frames : about1.frames = Frame.invoking theMethod args0 :: below0 := rfl
set_option maxRecDepth 65536 in
theorem w_args : argsFit about1.vm theMethod args0 = true := by decide +kernel
set_option maxRecDepth 65536 in
theorem w_heap : heapFits about1 = true := by decide +kernel
set_option maxRecDepth 65536 in
theorem w_runnable : about1.curStatus? = some .runnable := by decide +kernel
set_option maxRecDepth 65536 in
theorem w_alone : about1.alone = true := by decide +kernel
set_option maxRecDepth 65536 in
theorem w_named : about1.methodNamed? x = some theMethod := by decide +kernel
set_option maxRecDepth 65536 in
theorem w_hears : about1.hears theMethod below0 = true := by decide +kernel
set_option maxRecDepth 65536 in
theorem w_ripe : about1.ripe theMethod args0 below0 = true := by decide +kernel
theorem w_running : about1.status = .running := rfl
set_option maxRecDepth 65536 in
theorem w_room : about1.hasRoom e0.platform room_1 = true :=
  launch0.hasRoom_least _ room_1 (by decide +kernel) (by decide +kernel) (by decide +kernel) (by decide +kernel) (by decide +kernel) (by decide +kernel)
theorem allAtoms_all (ts : List Jvm.Cond) (a : Array Jvm.Value) (st : Jvm.State) : (allAtoms ts).before a st = ts.all (fun c => c.before a st) := by
  induction ts with
  | nil => rfl
  | cons c t ih =>
    show (Jvm.Cond.and c (allAtoms t)).before a st = _
    rw [Jvm.Cond.before_and, ih, List.all_cons]
def words1 : List Jvm.Cond := Jvm.Cond.code x code maxLocals ret :: tables_1
/-- a 'code' word, met by the world's own term for the bytes: nothing is compared byte by byte -/
theorem code_word {y : MethodName} {bytes : ByteArray} {mx : Nat} {rt : Option FieldType} {a : Array Value} {s : State} {m : MethodId} {meth : Method} {c : Code} (h1 : s.methodNamed? y = some m) (h2 : s.vm.method? m = some meth) (h3 : meth.code = some c) (h4 : c.code = bytes)
    (h5 : (c.maxLocals == mx && c.exceptionTable.isEmpty && decide (c.maxStack ≤ mostOperands) && decide (meth.sig.returnType = rt) && !meth.locks && decide (parseMethodDescriptor y.desc = some meth.sig)) = true) : (Jvm.Cond.code y bytes mx rt).before a s = true := by
  simp only [Bool.and_eq_true, beq_iff_eq, Bool.not_eq_true', decide_eq_true_eq] at h5
  obtain ⟨⟨⟨⟨⟨g1, g2⟩, g3⟩, g4⟩, g5⟩, g6⟩ := h5
  simp [Cond.before, Cond.holds, Cond.value, h1, h2, h3, h4, g1, g2, g3, g4, g5, g6]
def isCode : Jvm.Cond → Bool
  | .code _ _ _ _ => true
  | _ => false
theorem all_split {L : List Jvm.Cond} {P : Jvm.Cond → Bool} (h1 : L.all (fun c => isCode c || P c) = true) (h2 : ∀ c ∈ L.filter isCode, P c = true) : L.all P = true := by
  refine List.all_eq_true.mpr fun c hc => ?_
  have h := List.all_eq_true.mp h1 c hc
  rcases Bool.eq_false_or_eq_true (isCode c) with hi | hi
  · exact h2 c (List.mem_filter.mpr ⟨hc, hi⟩)
  · simpa [hi] using h
set_option maxRecDepth 65536 in
theorem w_c0 : (Jvm.Cond.code x code maxLocals ret).before args0 about1 = true := code_word (m := ⟨1, 1⟩) (meth := k1m1) (c := k1c1) (by decide +kernel) rfl rfl rfl (by decide +kernel)
set_option maxRecDepth 65536 in
theorem w_c1 : (Jvm.Cond.code ({ cls := "java/lang/Math", name := "min", desc := "(JJ)J" } : Jvm.MethodName) jdk_29_method_70_code (4 : Nat) (Option.some Jvm.ClassFile.FieldType.long)).before args0 about1 = true := code_word (m := ⟨2, 2⟩) (meth := k2m2) (c := k2c2) (by decide +kernel) rfl rfl rfl (by decide +kernel)
set_option maxRecDepth 65536 in
theorem w_c2 : (Jvm.Cond.code ({ cls := "java/lang/Math", name := "max", desc := "(JJ)J" } : Jvm.MethodName) jdk_29_method_66_code (4 : Nat) (Option.some Jvm.ClassFile.FieldType.long)).before args0 about1 = true := code_word (m := ⟨2, 1⟩) (meth := k2m1) (c := k2c1) (by decide +kernel) rfl rfl rfl (by decide +kernel)
set_option maxRecDepth 65536 in
theorem w_c3 : (Jvm.Cond.code ({ cls := "com/example/switchpoint/switchpoint/core/exec/OrdinalSet", name := "<init>", desc := "(JJ[J[J)V" } : Jvm.MethodName) prog_54_method_1_code (7 : Nat) (Option.none : Option Jvm.ClassFile.FieldType)).before args0 about1 = true := code_word (m := ⟨4, 0⟩) (meth := k4m0) (c := k4c0) (by decide +kernel) rfl rfl rfl (by decide +kernel)
set_option maxRecDepth 65536 in
theorem w_c4 : (Jvm.Cond.code ({ cls := "java/lang/Record", name := "<init>", desc := "()V" } : Jvm.MethodName) jdk_30_method_1_code (1 : Nat) (Option.none : Option Jvm.ClassFile.FieldType)).before args0 about1 = true := code_word (m := ⟨3, 0⟩) (meth := k3m0) (c := k3c0) (by decide +kernel) rfl rfl rfl (by decide +kernel)
set_option maxRecDepth 65536 in
theorem w_c5 : (Jvm.Cond.code ({ cls := "java/lang/Object", name := "<init>", desc := "()V" } : Jvm.MethodName) object_method_1_code (1 : Nat) (Option.none : Option Jvm.ClassFile.FieldType)).before args0 about1 = true := code_word (m := ⟨0, 0⟩) (meth := k0m0) (c := k0c0) (by decide +kernel) rfl rfl rfl (by decide +kernel)
set_option maxRecDepth 65536 in
theorem w_c6 : (Jvm.Cond.code ({ cls := "com/example/switchpoint/switchpoint/core/exec/OrdinalSet", name := "isAll", desc := "()Z" } : Jvm.MethodName) prog_54_method_7_code (1 : Nat) (Option.some Jvm.ClassFile.FieldType.boolean)).before args0 about1 = true := code_word (m := ⟨4, 1⟩) (meth := k4m1) (c := k4c1) (by decide +kernel) rfl rfl rfl (by decide +kernel)
set_option maxRecDepth 65536 in
theorem w_c7 : (Jvm.Cond.code ({ cls := "com/example/switchpoint/switchpoint/core/exec/OrdinalSet", name := "contains", desc := "(J)Z" } : Jvm.MethodName) prog_54_method_8_code (3 : Nat) (Option.some Jvm.ClassFile.FieldType.boolean)).before args0 about1 = true := code_word (m := ⟨4, 2⟩) (meth := k4m2) (c := k4c2) (by decide +kernel) rfl rfl rfl (by decide +kernel)
def codes1 : List Jvm.Cond := [Jvm.Cond.code x code maxLocals ret, Jvm.Cond.code ({ cls := "java/lang/Math", name := "min", desc := "(JJ)J" } : Jvm.MethodName) jdk_29_method_70_code (4 : Nat) (Option.some Jvm.ClassFile.FieldType.long), Jvm.Cond.code ({ cls := "java/lang/Math", name := "max", desc := "(JJ)J" } : Jvm.MethodName) jdk_29_method_66_code (4 : Nat) (Option.some Jvm.ClassFile.FieldType.long), Jvm.Cond.code ({ cls := "com/example/switchpoint/switchpoint/core/exec/OrdinalSet", name := "<init>", desc := "(JJ[J[J)V" } : Jvm.MethodName) prog_54_method_1_code (7 : Nat) (Option.none : Option Jvm.ClassFile.FieldType), Jvm.Cond.code ({ cls := "java/lang/Record", name := "<init>", desc := "()V" } : Jvm.MethodName) jdk_30_method_1_code (1 : Nat) (Option.none : Option Jvm.ClassFile.FieldType), Jvm.Cond.code ({ cls := "java/lang/Object", name := "<init>", desc := "()V" } : Jvm.MethodName) object_method_1_code (1 : Nat) (Option.none : Option Jvm.ClassFile.FieldType), Jvm.Cond.code ({ cls := "com/example/switchpoint/switchpoint/core/exec/OrdinalSet", name := "isAll", desc := "()Z" } : Jvm.MethodName) prog_54_method_7_code (1 : Nat) (Option.some Jvm.ClassFile.FieldType.boolean), Jvm.Cond.code ({ cls := "com/example/switchpoint/switchpoint/core/exec/OrdinalSet", name := "contains", desc := "(J)Z" } : Jvm.MethodName) prog_54_method_8_code (3 : Nat) (Option.some Jvm.ClassFile.FieldType.boolean)]
set_option maxRecDepth 65536 in
theorem codes_eq : words1.filter isCode = codes1 := rfl
theorem w_codes : ∀ c ∈ words1.filter isCode, c.before args0 about1 = true := by
  rw [codes_eq]
  intro c hc
  simp only [codes1, List.mem_cons, List.not_mem_nil, or_false] at hc
  rcases hc with rfl | rfl | rfl | rfl | rfl | rfl | rfl | rfl
  · exact w_c0
  · exact w_c1
  · exact w_c2
  · exact w_c3
  · exact w_c4
  · exact w_c5
  · exact w_c6
  · exact w_c7
set_option maxRecDepth 65536 in
theorem w_t1 : (words1.take 24).all (fun c => isCode c || c.before args0 about1) = true := by decide +kernel
set_option maxRecDepth 65536 in
theorem w_t2 : (words1.drop 24).all (fun c => isCode c || c.before args0 about1) = true := by decide +kernel
theorem w_tables : (allAtoms (Jvm.Cond.code x code maxLocals ret :: tables_1)).before args0 about1 = true := by
  rw [allAtoms_all]
  show words1.all (fun c => c.before args0 about1) = true
  refine all_split ?_ w_codes
  rw [← List.take_append_drop 24 words1, List.all_append, w_t1, w_t2]
  rfl
set_option maxRecDepth 65536 in
theorem w_case : (Jvm.Cond.and given_1 narrow_1).before args0 about1 = true := by decide +kernel
theorem w_applies : (headSpec (Jvm.Cond.code x code maxLocals ret :: tables_1) room_1).applies x e0.platform about1 = true :=
  (Spec.applies_iff w_frames).mpr ⟨w_running, w_runnable, w_alone, w_named, w_hears, w_ripe, w_room, w_tables⟩
theorem atStart : AtStart classFile x code maxLocals ret World_1 tables_1 room_1 Calls_1 rest_1 Pre_1 launch0 p0 e0 about1 theMethod args0 below0 :=
  ⟨lists_1, trivial, launch0.admits_env _ _ _, launch0.least_env, fairChoices_fair.cas, fairChoices_fair.clock, w_frames, w_args, w_heap, w_applies, trivial, trivial, w_case⟩
end start1
theorem witness_1 : WitnessClaimed_1 := ⟨start1.p0, start1.e0, start1.about1, start1.theMethod, start1.args0, start1.below0, start1.atStart⟩
end Jvm.Pilot.@@N@@
