import JvmDerived
import JvmDerived.Pilot.@@N@@Statement
import JvmDerived.Pilot.@@N@@Code
set_option linter.unusedVariables false
set_option linter.unusedSimpArgs false
namespace Jvm.Pilot.@@N@@
open Jvm Jvm.ClassFile Sem Op Lib Jvm.Free Jvm.Stand Jvm.LawKit Jvm.RoadKit Bundle Jvm.Pilot.@@N@@.Jvm.D
theorem own_wrap {A : Prop} (h : ∀ GL : Prop, (A → GL) → GL) : A := h A id
theorem own_sta_keep {Z : State} {h h' : Heap} {C n d : String} {v : Value} (F : Sta Z h C n d v) (K : Keep h h' []) : Sta Z h' C n d v := by
  obtain ⟨cf, i, k, f, st, cell, h1, h2, h3, h4, h5, h6⟩ := F
  exact ⟨cf, i, k, f, st, cell, h1, h2, h3, h4, K.2.1 st cell h5 nin0, h6⟩
theorem own_eqI {args : Array Value} {Z : State} {t : Term} {k : Int32} (h : (Jvm.Cond.eq t (.int k)).value args Z none Z [] = some true) : t.eval args Z none [] Z = some (.int k) := by
  obtain ⟨x, y, e1, e2, -, q⟩ := cmp_v (Or.inl h)
  have e2' : (Term.int k).eval args Z none [] Z = some (.int k) := Term.int_eval k
  rw [e2'] at e2
  cases e2
  obtain ⟨z, rfl⟩ : ∃ z, x = .int z := q
  have := gotT (Cond.eq_ints e1 e2') h
  rw [e1, this]
theorem own_eqJ {args : Array Value} {Z : State} {t : Term} {k : Int64} (h : (Jvm.Cond.eq t (.long k)).value args Z none Z [] = some true) : t.eval args Z none [] Z = some (.long k) := by
  obtain ⟨x, y, e1, e2, -, q⟩ := cmp_v (Or.inl h)
  have e2' : (Term.long k).eval args Z none [] Z = some (.long k) := long_at k
  rw [e2'] at e2
  cases e2
  obtain ⟨z, rfl⟩ : ∃ z, x = .long z := q
  have := gotT (eq_L e1 e2') h
  rw [e1, this]
theorem own_eqR {args : Array Value} {Z : State} {t u : Term} {a : Addr} (h : (Jvm.Cond.eq t u).value args Z none Z [] = some true) (hu : u.eval args Z none [] Z = some (.ref a)) : t.eval args Z none [] Z = some (.ref a) := by
  obtain ⟨x, y, e1, e2, -, q⟩ := cmp_v (Or.inl h)
  rw [hu] at e2
  cases e2
  have hr : x.isRef = true := q.2
  have := gotT (eq_R e1 hu hr rfl) h
  rw [e1, this]
theorem own_len {args : Array Value} {Z : State} {t : Term} {a : Addr} {cl : Cell} {ty : FieldType} {k : Int32} (ev : t.eval args Z none [] Z = some (.ref a)) (A : Arr Z Z.heap a cl ty) (h : (Jvm.Cond.eq (.length t) (.int k)).value args Z none Z [] = some true) : cl.slots.size < 2 ^ 31 ∧ cl.slots.size.toInt32 = k := by
  have e := own_eqI h
  have e' : (Term.length t).eval args Z none [] Z = if cl.slots.size < 2 ^ 31 then some (.int cl.slots.size.toInt32) else none := by
    simp only [Term.eval, ev, Arr.fin (Vm.Alike.refl _) A, Option.bind_eq_bind, Option.bind_some, Option.pure_def]
  rw [e'] at e
  split at e
  · rename_i q
    exact ⟨q, by injection e with e; injection e⟩
  · cases e
theorem own_el {args : Array Value} {Z : State} {t : Term} {a : Addr} {cl : Cell} {ty : FieldType} {v : Value} {j : Int32} (ev : t.eval args Z none [] Z = some (.ref a)) (A : Arr Z Z.heap a cl ty) (h : (Term.elem t (.int j)).eval args Z none [] Z = some v) : cl.slots[j.toNatClampNeg]? = some v :=
  (elem_in h ev (Term.int_eval j) A.1).2
theorem own_fl {args : Array Value} {Z : State} {t : Term} {a : Addr} {C n d : String} {k : Int32} (ev : t.eval args Z none [] Z = some (.ref a)) (h : (Jvm.Cond.eq (.field t C n d) (.int k)).value args Z none Z [] = some true) : Fld Z Z.heap a C n d (.int k) := by
  have e := own_eqI h
  rw [fld_at ev] at e
  exact Fld.start e

theorem own_three (x : Int32) : (1 : Int32) = x ∨ (¬ (1 : Int32) = x ∧ (2 : Int32) = x) ∨ (¬ (1 : Int32) = x ∧ ¬ (2 : Int32) = x) := by
  by_cases h : (1 : Int32) = x
  · exact Or.inl h
  · by_cases h2 : (2 : Int32) = x
    · exact Or.inr (Or.inl ⟨h, h2⟩)
    · exact Or.inr (Or.inr ⟨h, h2⟩)
theorem pn_0 : plainName "com/example/cairn/cairn/graph/ChangedPathsVersion" = true := by first | (simp [plainName, overriddenIn]; done) | decide +kernel
theorem d3_0 : decode prog_7_method_1_code 0 = .ok (.getstatic 10, 3) := by decide +kernel
theorem d3_3 : decode prog_7_method_1_code 3 = .ok (.invokevirtual 14, 3) := by decide +kernel
theorem d3_6 : decode prog_7_method_1_code 6 = .ok (.checkcast 15, 3) := by decide +kernel
theorem d3_9 : decode prog_7_method_1_code 9 = .ok (.areturn, 1) := by decide +kernel
theorem ef_3 (m : MethodId)  : entryFrame m #[] 0 = mkF m 0 #[] [] := by first | (simp [entryFrame, mkF, argsToLocals, Value.category]; done) | rfl
def Q3 (Z : State) (va : Addr) (kc : ClassId) (v1 : Addr) (v2 : Addr) (h0 : Heap) (n0 : Nat) (vα : Option Value) (hα : Heap) (Lα : List Loc) : Prop := ∃ (r : Addr), vα = some (.ref r) ∧ Fr n0 Lα ∧ Keep h0 hα [] ∧ n0 ≤ r ∧ h0.size ≤ r ∧ Exa Z hα r "[Lcom/example/cairn/cairn/graph/ChangedPathsVersion;" ∧ Arv Z hα r kc (.object "com/example/cairn/cairn/graph/ChangedPathsVersion") (2 : Int32) [(.ref v1), (.ref v2)] .null
set_option maxRecDepth 65536 in
set_option maxHeartbeats 40000000 in
theorem rm3 (l : Launch) (Z : State) (a0 : Array Value) (hw : ∀ d ∈ tables_1, d.before a0 Z = true) (ws : List Jvm.Cond) (va : Addr) (kc : ClassId) (v1 : Addr) (v2 : Addr) (h0 : Heap) (n0 : Nat) (Z0 : n0 ≤ h0.size) (S_va : Sta Z h0 "com/example/cairn/cairn/graph/ChangedPathsVersion" "$VALUES" "[Lcom/example/cairn/cairn/graph/ChangedPathsVersion;" (.ref va)) (V_va : Arv Z h0 va kc (.object "com/example/cairn/cairn/graph/ChangedPathsVersion") (2 : Int32) [(.ref v1), (.ref v2)] .null) (E_va : Exa Z h0 va "[Lcom/example/cairn/cairn/graph/ChangedPathsVersion;") :
    MetFree l (⟨"com/example/cairn/cairn/graph/ChangedPathsVersion", "values", "()[Lcom/example/cairn/cairn/graph/ChangedPathsVersion;"⟩ : MethodName) (head1 (Jvm.Cond.code (⟨"com/example/cairn/cairn/graph/ChangedPathsVersion", "values", "()[Lcom/example/cairn/cairn/graph/ChangedPathsVersion;"⟩ : MethodName) prog_7_method_1_code 0 (some (.array (.object "com/example/cairn/cairn/graph/ChangedPathsVersion"))) :: ws) ({ frames := 1, cells := 1, slots := 2, locals := 14 } : Room)) (fun aα U => aα = #[] ∧ Z.Warmed39 U.vm ∧ U.heap = h0) (fun _ _ _ _ _ => True) (fun _ U oα U' => ∃ vα Lα, oα = .returned vα ∧ Q3 Z va kc v1 v2 h0 n0 vα U'.heap Lα ∧ FrameEnd U oα U' Lα ({ frames := 1, cells := 1, slots := 2, locals := 14 } : Room).cells ({ frames := 1, cells := 1, slots := 2, locals := 14 } : Room).slots) := by
  refine MetFree.of_bodySF (plainFor_of_name pn_0) hisR ?_
  intro p e s m args below meth c s₁ Bd hml0 hP hK
  refine own_wrap ?_
  intro GL hGL
  obtain ⟨rfl, hZ, hh⟩ := hP
  have hx := Bd.exec
  have hby := Bd.bytes
  have hml : c.maxLocals = 0 := hml0
  have hown : s.vm.findClass "com/example/cairn/cairn/graph/ChangedPathsVersion" = some m.cls := findClass_of_methodNamed Bd.named
  have hnm := (name_of_methodNamed Bd.named Bd.method).1
  have X0 : Stand p l e ({ frames := 1, cells := 1, slots := 2, locals := 14 } : Room) s m #[] below meth c s₁ [] 0 0 := Stand.of_body Bd
  have e0 : s₁.heap = h0 := by rw [← hh, Bd.state]; rfl
  have N0 := Fr.nil n0
  have pre0 : ∀ τ, Steps p.tables e below (s₁.setTop (mkF m 0 #[] [])) τ → Steps p.tables e below (s₁.setTop (entryFrame m #[] 0)) τ := fun τ κ => castTop (ef_3 m ) κ
  obtain ⟨G, hG, pre⟩ : ∃ G : State → Prop, (∀ τ, G τ → Steps p.tables e below (s₁.setTop (entryFrame m #[] 0)) τ) ∧ ∀ τ, Steps p.tables e below (s₁.setTop (mkF m 0 #[] [])) τ → G τ := ⟨_, pre0, fun _ k => k⟩
  have K : Keep h0 h0 [] := Keep.refl h0 _
  have Zn := Z0
  obtain ⟨T1, X1, e1, st1⟩ := getS2 X0 hx hZ hown (host := "") (Or.inl (hw _ (List.mem_of_getElem? (i := 11) rfl))) Via.refl e0 S_va (g := (mkF m 0 #[] [])) rfl (hb hby d3_0)
  have pre : ∀ τ, Steps p.tables e below (T1.setTop (mkF m 3 #[] [(.ref va)])) τ → G τ := fun τ κ => pre τ (st1 τ κ)
  obtain ⟨c2, Ar2, q2, S2, Nz2, Hh2, Gg2⟩ := id V_va
  have FC2 := fitC_of Ar2 (fun i hi v hv => by have q := Hh2 i hi; rw [q] at hv; cases hv; exact Gg2 i hi)
  obtain ⟨T2, h2, X2, e2, E2, A2, B2, st2⟩ := cloneA X1 hx hZ hown (hw _ (List.mem_of_getElem? (i := 13) rfl)) (hw _ (List.mem_of_getElem? (i := 14) rfl)) (hw _ (List.mem_of_getElem? (i := 18) rfl)) (hw _ (List.mem_of_getElem? (i := 16) rfl)) (hw _ (List.mem_of_getElem? (i := 17) rfl)) (hw _ (List.mem_of_getElem? (i := 19) rfl)) e1 Ar2 E_va FC2 (g := (mkF m 3 #[] [(.ref va)])) rfl (by rw [hml]; rfl) rfl (hb hby d3_3) (by decide) (W := 0) (cap := 2) (by show 2 * 0 + _ ≤ _; exact Nat.le_of_eq rfl) (by decide) (by rw [S2]; exact (by decide)) (by decide) (by decide)
  obtain ⟨b2, gg2⟩ : ∃ z, z = h0.size := ⟨_, rfl⟩
  rw [← gg2] at A2 B2 st2
  have ne_va_b2 : va ≠ b2 := Nat.ne_of_lt (Nat.lt_of_lt_of_le V_va.lt (Nat.le_of_eq gg2.symm))
  have g_b2 : n0 ≤ b2 := Nat.le_trans Zn (Nat.le_of_eq gg2.symm)
  have sz_b2 : h0.size ≤ b2 := Nat.le_trans K.1 (Nat.le_of_eq gg2.symm)
  have S_va : Sta Z h2 "com/example/cairn/cairn/graph/ChangedPathsVersion" "$VALUES" "[Lcom/example/cairn/cairn/graph/ChangedPathsVersion;" (.ref va) := S_va.ext E2
  have V_va : Arv Z h2 va kc (.object "com/example/cairn/cairn/graph/ChangedPathsVersion") (2 : Int32) [(.ref v1), (.ref v2)] .null := V_va.ext E2
  have E_va : Exa Z h2 va "[Lcom/example/cairn/cairn/graph/ChangedPathsVersion;" := E_va.ext E2
  have Zn : n0 ≤ h2.size := Nat.le_trans Zn E2.1
  have K : Keep h0 h2 [] := K.ext E2
  have V_b2 : Arv Z h2 b2 kc (.object "com/example/cairn/cairn/graph/ChangedPathsVersion") (2 : Int32) [(.ref v1), (.ref v2)] .null := ⟨_, A2, q2, S2, Nz2, Hh2, Gg2⟩
  have E_b2 := B2
  have pre : ∀ τ, Steps p.tables e below (T2.setTop (mkF m 6 #[] [(.ref b2)])) τ → G τ := fun τ κ => pre τ (st2 τ κ)
  obtain ⟨T3, X3, e3, st3⟩ := castY X2 hx hZ hown (hw _ (List.mem_of_getElem? (i := 23) rfl)) e2 (Ins.self E_b2) (g := (mkF m 6 #[] [(.ref b2)])) rfl rfl (hb hby d3_6)
  have pre : ∀ τ, Steps p.tables e below (T3.setTop (mkF m 9 #[] [(.ref b2)])) τ → G τ := fun τ κ => pre τ (st3 τ κ)
  obtain ⟨fsα, hr, hrun, hended, hW, hsame⟩ := X3.leave (v := some (.ref b2)) (fun h => by rw [Bd.returns] at h; cases h)
  refine hGL ⟨_, _, hG _ (pre _ ?_), hrun, hended, _, _, rfl, ?_, ⟨_, rfl⟩, hW, hsame.mono (by decide) (by decide)⟩
  · exact retOut X3 hx Bd.returns rfl (Or.inr (Or.inr (Or.inr (Or.inr ⟨rfl, rfl, rfl⟩)))) (hb hby d3_9) hr
  · show Q3 Z va kc v1 v2 h0 n0 _ T3.heap _
    rw [e3]
    exact ⟨b2, rfl, N0, K, g_b2, sz_b2, E_b2, V_b2⟩
theorem d2_0 : decode prog_7_method_5_code 0 = .ok (.invokestatic 33, 3) := by decide +kernel
theorem pd_0 : parseMethodDescriptor "()[Lcom/example/cairn/cairn/graph/ChangedPathsVersion;" = some ⟨[], some (.array (.object "com/example/cairn/cairn/graph/ChangedPathsVersion"))⟩ := by decide +kernel
theorem d2_3 : decode prog_7_method_5_code 3 = .ok (.astore_n 1, 1) := by decide +kernel
theorem d2_4 : decode prog_7_method_5_code 4 = .ok (.aload_n 1, 1) := by decide +kernel
theorem d2_5 : decode prog_7_method_5_code 5 = .ok (.arraylength, 1) := by decide +kernel
theorem d2_6 : decode prog_7_method_5_code 6 = .ok (.istore_n 2, 1) := by decide +kernel
theorem d2_7 : decode prog_7_method_5_code 7 = .ok (.iconst 0, 1) := by decide +kernel
theorem d2_8 : decode prog_7_method_5_code 8 = .ok (.istore_n 3, 1) := by decide +kernel
theorem d2_9 : decode prog_7_method_5_code 9 = .ok (.iload_n 3, 1) := by decide +kernel
theorem d2_10 : decode prog_7_method_5_code 10 = .ok (.iload_n 2, 1) := by decide +kernel
theorem d2_11 : decode prog_7_method_5_code 11 = .ok (.if_icmp .ge 26, 3) := by decide +kernel
theorem d2_14 : decode prog_7_method_5_code 14 = .ok (.aload_n 1, 1) := by decide +kernel
theorem d2_15 : decode prog_7_method_5_code 15 = .ok (.iload_n 3, 1) := by decide +kernel
theorem d2_16 : decode prog_7_method_5_code 16 = .ok (.aaload, 1) := by decide +kernel
theorem d2_17 : decode prog_7_method_5_code 17 = .ok (.astore 4, 2) := by decide +kernel
theorem d2_19 : decode prog_7_method_5_code 19 = .ok (.aload 4, 2) := by decide +kernel
theorem d2_21 : decode prog_7_method_5_code 21 = .ok (.getfield 29, 3) := by decide +kernel
theorem d2_24 : decode prog_7_method_5_code 24 = .ok (.iload_n 0, 1) := by decide +kernel
theorem d2_25 : decode prog_7_method_5_code 25 = .ok (.if_icmp .ne 6, 3) := by decide +kernel
theorem d2_28 : decode prog_7_method_5_code 28 = .ok (.aload 4, 2) := by decide +kernel
theorem d2_30 : decode prog_7_method_5_code 30 = .ok (.areturn, 1) := by decide +kernel
theorem ef_2a (m : MethodId) (x0 : Int32) : entryFrame m #[(.int x0)] 5 = mkF m 0 #[.val (.int x0), .unset, .unset, .unset, .unset] [] := by first | (simp [entryFrame, mkF, argsToLocals, Value.category]; done) | rfl
def Q2a (Z : State) (xx : Int32) (va : Addr) (kc : ClassId) (v1 : Addr) (v2 : Addr) (h0 : Heap) (n0 : Nat) (vα : Option Value) (hα : Heap) (Lα : List Loc) : Prop := vα = some (.ref v1) ∧ Fr n0 Lα ∧ Keep h0 hα []
set_option maxRecDepth 65536 in
set_option maxHeartbeats 40000000 in
theorem rm2a (l : Launch) (Z : State) (a0 : Array Value) (hw : ∀ d ∈ tables_1, d.before a0 Z = true) (ws : List Jvm.Cond) (xx : Int32) (va : Addr) (kc : ClassId) (v1 : Addr) (v2 : Addr) (h0 : Heap) (n0 : Nat) (Z0 : n0 ≤ h0.size) (S_va : Sta Z h0 "com/example/cairn/cairn/graph/ChangedPathsVersion" "$VALUES" "[Lcom/example/cairn/cairn/graph/ChangedPathsVersion;" (.ref va)) (V_va : Arv Z h0 va kc (.object "com/example/cairn/cairn/graph/ChangedPathsVersion") (2 : Int32) [(.ref v1), (.ref v2)] .null) (E_va : Exa Z h0 va "[Lcom/example/cairn/cairn/graph/ChangedPathsVersion;") (F_n1 : Fld Z h0 v1 "com/example/cairn/cairn/graph/ChangedPathsVersion" "number" "I" (.int (1 : Int32))) (F_n2 : Fld Z h0 v2 "com/example/cairn/cairn/graph/ChangedPathsVersion" "number" "I" (.int (2 : Int32))) (h1 : (1 : Int32) = xx) :
    MetFree l (⟨"com/example/cairn/cairn/graph/ChangedPathsVersion", "of", "(I)Lcom/example/cairn/cairn/graph/ChangedPathsVersion;"⟩ : MethodName) (head1 (Jvm.Cond.code (⟨"com/example/cairn/cairn/graph/ChangedPathsVersion", "of", "(I)Lcom/example/cairn/cairn/graph/ChangedPathsVersion;"⟩ : MethodName) prog_7_method_5_code 5 (some (.object "com/example/cairn/cairn/graph/ChangedPathsVersion")) :: ws) ({ frames := 2, cells := 1, slots := 2, locals := 25 } : Room)) (fun aα U => aα = #[(.int xx)] ∧ Z.Warmed39 U.vm ∧ U.heap = h0) (fun _ _ _ _ _ => True) (fun _ U oα U' => ∃ vα Lα, oα = .returned vα ∧ Q2a Z xx va kc v1 v2 h0 n0 vα U'.heap Lα ∧ FrameEnd U oα U' Lα ({ frames := 2, cells := 1, slots := 2, locals := 25 } : Room).cells ({ frames := 2, cells := 1, slots := 2, locals := 25 } : Room).slots) := by
  refine MetFree.of_bodySF (plainFor_of_name pn_0) hisR ?_
  intro p e s m args below meth c s₁ Bd hml0 hP hK
  refine own_wrap ?_
  intro GL hGL
  obtain ⟨rfl, hZ, hh⟩ := hP
  have hx := Bd.exec
  have hby := Bd.bytes
  have hml : c.maxLocals = 5 := hml0
  have hown : s.vm.findClass "com/example/cairn/cairn/graph/ChangedPathsVersion" = some m.cls := findClass_of_methodNamed Bd.named
  have hnm := (name_of_methodNamed Bd.named Bd.method).1
  have X0 : Stand p l e ({ frames := 2, cells := 1, slots := 2, locals := 25 } : Room) s m #[(.int xx)] below meth c s₁ [] 0 0 := Stand.of_body Bd
  have e0 : s₁.heap = h0 := by rw [← hh, Bd.state]; rfl
  have N0 := Fr.nil n0
  have pre0 : ∀ τ, Steps p.tables e below (s₁.setTop (mkF m 0 #[.val (.int xx), .unset, .unset, .unset, .unset] [])) τ → Steps p.tables e below (s₁.setTop (entryFrame m #[(.int xx)] 5)) τ := fun τ κ => castTop (ef_2a m xx) κ
  obtain ⟨G, hG, pre⟩ : ∃ G : State → Prop, (∀ τ, G τ → Steps p.tables e below (s₁.setTop (entryFrame m #[(.int xx)] 5)) τ) ∧ ∀ τ, Steps p.tables e below (s₁.setTop (mkF m 0 #[.val (.int xx), .unset, .unset, .unset, .unset] [])) τ → G τ := ⟨_, pre0, fun _ k => k⟩
  have K : Keep h0 h0 [] := Keep.refl h0 _
  have Zn := Z0
  obtain ⟨_, _, ⟨T1, Lx1, kx1, nx1⟩, -, X1, ⟨Lc1, hQ1, l1, y1, z1⟩, st1⟩ := Jvm.LawKit.callS X0 hx (y := (⟨"com/example/cairn/cairn/graph/ChangedPathsVersion", "values", "()[Lcom/example/cairn/cairn/graph/ChangedPathsVersion;"⟩ : MethodName)) hown (mvT hZ (hw _ (List.mem_of_getElem? (i := 8) rfl))) (mvT hZ (hw _ (List.mem_of_getElem? (i := 9) rfl))) (mvT hZ (hw _ (List.mem_of_getElem? (i := 6) rfl))) (mvT hZ (hw _ (List.mem_of_getElem? (i := 10) rfl))) (by decide) (backOf (W := 0) (rm3 l Z a0 hw [] va kc v1 v2 h0 n0 Zn S_va V_va E_va) hZ (hw _ (List.mem_of_getElem? (i := 10) rfl)) (hw _ (List.mem_of_getElem? (i := 6) rfl)) (by decide) (by decide)) (g := (mkF m 0 #[.val (.int xx), .unset, .unset, .unset, .unset] [])) rfl (by rw [hml]; rfl) (argsL := []) (rest := []) (lenOf pd_0 rfl) rfl (by show 2 * 0 + _ ≤ _; exact Nat.le_of_eq rfl) (hb hby d2_0) (fun _ _ => ⟨rfl, e0, (by decide : 0 + 1 ≤ _), (by decide : 0 + 2 ≤ _)⟩)
  dsimp only [Pt.U, Pt.locs, Pt.cells, Pt.slots] at X1 l1 y1 z1 st1 hQ1
  replace y1 : kx1 = 1 := y1
  replace z1 : nx1 = 2 := z1
  subst y1 z1
  obtain ⟨r_1, rfl, Nq1, Kc1, gn_r_1, gz_r_1, E_r_1, V_r_1⟩ := hQ1
  have NN : Fr n0 Lx1 := by rw [l1]; exact Fr.app N0 Nq1
  have g_r_1 := gn_r_1
  have sz_r_1 : h0.size ≤ r_1 := Nat.le_trans K.1 gz_r_1
  have ne_va_r_1 : va ≠ r_1 := Nat.ne_of_lt (Nat.lt_of_lt_of_le V_va.lt gz_r_1)
  have ne_v1_r_1 : v1 ≠ r_1 := Nat.ne_of_lt (Nat.lt_of_lt_of_le F_n1.lt gz_r_1)
  have ne_v2_r_1 : v2 ≠ r_1 := Nat.ne_of_lt (Nat.lt_of_lt_of_le F_n2.lt gz_r_1)
  have S_va : Sta Z T1.heap "com/example/cairn/cairn/graph/ChangedPathsVersion" "$VALUES" "[Lcom/example/cairn/cairn/graph/ChangedPathsVersion;" (.ref va) := own_sta_keep S_va Kc1
  have V_va : Arv Z T1.heap va kc (.object "com/example/cairn/cairn/graph/ChangedPathsVersion") (2 : Int32) [(.ref v1), (.ref v2)] .null := V_va.keep Kc1 nin0
  have E_va : Exa Z T1.heap va "[Lcom/example/cairn/cairn/graph/ChangedPathsVersion;" := E_va.keep Kc1
  have F_n1 : Fld Z T1.heap v1 "com/example/cairn/cairn/graph/ChangedPathsVersion" "number" "I" (.int (1 : Int32)) := F_n1.keep Kc1 nin0
  have F_n2 : Fld Z T1.heap v2 "com/example/cairn/cairn/graph/ChangedPathsVersion" "number" "I" (.int (2 : Int32)) := F_n2.keep Kc1 nin0
  have Zn : n0 ≤ T1.heap.size := Nat.le_trans Zn Kc1.1
  have K : Keep h0 T1.heap [] := K.trans Kc1 all0
  have pre : ∀ τ, Steps p.tables e below (T1.setTop (mkF m 3 #[.val (.int xx), .unset, .unset, .unset, .unset] [(.ref r_1)])) τ → G τ := fun τ κ => pre τ (st1 τ κ)
  have pre : ∀ τ, Steps p.tables e below (T1.setTop (mkF m 5 #[.val (.int xx), .val (.ref r_1), .unset, .unset, .unset] [(.ref r_1)])) τ → G τ := fun τ κ => pre τ (by
    refine XS.astoreN X1.here hx rfl (hb hby d2_3) rfl rfl (l' := #[.val (.int xx), .val (.ref r_1), .unset, .unset, .unset]) rfl ?_
    show Steps p.tables e below (T1.setTop (mkF m 4 #[.val (.int xx), .val (.ref r_1), .unset, .unset, .unset] [])) τ
    refine XS.aloadN X1.here hx rfl (hb hby d2_4) rfl rfl ?_
    show Steps p.tables e below (T1.setTop (mkF m 5 #[.val (.int xx), .val (.ref r_1), .unset, .unset, .unset] [(.ref r_1)])) τ
    exact κ)
  obtain ⟨c2, Ar2, -, S2, N2, -, -⟩ := id V_r_1
  have pre : ∀ τ, Steps p.tables e below (T1.setTop (mkF m 6 #[.val (.int xx), .val (.ref r_1), .unset, .unset, .unset] [(.int (2 : Int32))])) τ → G τ := fun τ κ => pre τ (by
    refine X1.arraylength hx Ar2.1 (State.isArrayOf_alike hZ.alike Ar2.2.1) (g := (mkF m 5 #[.val (.int xx), .val (.ref r_1), .unset, .unset, .unset] [(.ref r_1)])) rfl rfl (hb hby d2_5) _ ?_
    rw [len_of S2 N2]
    exact κ)
  have pre : ∀ τ, Steps p.tables e below (T1.setTop (mkF m 11 #[.val (.int xx), .val (.ref r_1), .val (.int (2 : Int32)), .val (.int (0 : Int32)), .unset] [(.int (2 : Int32)), (.int (0 : Int32))])) τ → G τ := fun τ κ => pre τ (by
    refine XS.istoreN X1.here hx rfl (hb hby d2_6) rfl (l' := #[.val (.int xx), .val (.ref r_1), .val (.int (2 : Int32)), .unset, .unset]) rfl ?_
    show Steps p.tables e below (T1.setTop (mkF m 7 #[.val (.int xx), .val (.ref r_1), .val (.int (2 : Int32)), .unset, .unset] [])) τ
    refine XS.iconst X1.here hx rfl (hb hby d2_7) ?_
    show Steps p.tables e below (T1.setTop (mkF m 8 #[.val (.int xx), .val (.ref r_1), .val (.int (2 : Int32)), .unset, .unset] [(.int (0 : Int32))])) τ
    refine XS.istoreN X1.here hx rfl (hb hby d2_8) rfl (l' := #[.val (.int xx), .val (.ref r_1), .val (.int (2 : Int32)), .val (.int (0 : Int32)), .unset]) rfl ?_
    show Steps p.tables e below (T1.setTop (mkF m 9 #[.val (.int xx), .val (.ref r_1), .val (.int (2 : Int32)), .val (.int (0 : Int32)), .unset] [])) τ
    refine XS.iloadN X1.here hx rfl (hb hby d2_9) rfl ?_
    show Steps p.tables e below (T1.setTop (mkF m 10 #[.val (.int xx), .val (.ref r_1), .val (.int (2 : Int32)), .val (.int (0 : Int32)), .unset] [(.int (0 : Int32))])) τ
    refine XS.iloadN X1.here hx rfl (hb hby d2_10) rfl ?_
    show Steps p.tables e below (T1.setTop (mkF m 11 #[.val (.int xx), .val (.ref r_1), .val (.int (2 : Int32)), .val (.int (0 : Int32)), .unset] [(.int (2 : Int32)), (.int (0 : Int32))])) τ
    exact κ)
  have hc3 : (0 : Int32) < (2 : Int32) := (by decide)
  have pre : ∀ τ, Steps p.tables e below (T1.setTop (mkF m 16 #[.val (.int xx), .val (.ref r_1), .val (.int (2 : Int32)), .val (.int (0 : Int32)), .unset] [(.int (0 : Int32)), (.ref r_1)])) τ → G τ := fun τ κ => pre τ (by
    refine XS.icmpNo X1.here hx rfl (hb hby d2_11) rfl (tlt hc3).2.1 ?_
    show Steps p.tables e below (T1.setTop (mkF m 14 #[.val (.int xx), .val (.ref r_1), .val (.int (2 : Int32)), .val (.int (0 : Int32)), .unset] [])) τ
    refine XS.aloadN X1.here hx rfl (hb hby d2_14) rfl rfl ?_
    show Steps p.tables e below (T1.setTop (mkF m 15 #[.val (.int xx), .val (.ref r_1), .val (.int (2 : Int32)), .val (.int (0 : Int32)), .unset] [(.ref r_1)])) τ
    refine XS.iloadN X1.here hx rfl (hb hby d2_15) rfl ?_
    show Steps p.tables e below (T1.setTop (mkF m 16 #[.val (.int xx), .val (.ref r_1), .val (.int (2 : Int32)), .val (.int (0 : Int32)), .unset] [(.int (0 : Int32)), (.ref r_1)])) τ
    exact κ)
  obtain ⟨c4, Ar4, q4, S4, Nz4, Hh4, Gg4⟩ := id V_r_1
  have hin4 : ¬ ((0 : Int32) < 0 ∨ c4.slots.size ≤ ((0 : Int32)).toNatClampNeg) := inb_of S4 ⟨by decide, by decide⟩
  have hat4 : c4.slots[((0 : Int32)).toNatClampNeg]? = some (.ref v1) := Hh4.at hin4 rfl
  have pre : ∀ τ, Steps p.tables e below (T1.setTop (mkF m 17 #[.val (.int xx), .val (.ref r_1), .val (.int (2 : Int32)), .val (.int (0 : Int32)), .unset] [(.ref v1)])) τ → G τ := fun τ κ => pre τ (X1.aaload hx (j := (0 : Int32)) (v := (.ref v1)) Ar4.1 (State.isArrayOf_alike hZ.alike Ar4.2.1) rfl Ar4.2.2 hin4 hat4 (g := (mkF m 16 #[.val (.int xx), .val (.ref r_1), .val (.int (2 : Int32)), .val (.int (0 : Int32)), .unset] [(.int (0 : Int32)), (.ref r_1)])) rfl rfl (hb hby d2_16) _ κ)
  have pre : ∀ τ, Steps p.tables e below (T1.setTop (mkF m 21 #[.val (.int xx), .val (.ref r_1), .val (.int (2 : Int32)), .val (.int (0 : Int32)), .val (.ref v1)] [(.ref v1)])) τ → G τ := fun τ κ => pre τ (by
    refine XS.astore X1.here hx rfl (hb hby d2_17) rfl rfl (l' := #[.val (.int xx), .val (.ref r_1), .val (.int (2 : Int32)), .val (.int (0 : Int32)), .val (.ref v1)]) rfl ?_
    show Steps p.tables e below (T1.setTop (mkF m 19 #[.val (.int xx), .val (.ref r_1), .val (.int (2 : Int32)), .val (.int (0 : Int32)), .val (.ref v1)] [])) τ
    refine XS.aload X1.here hx rfl (hb hby d2_19) rfl rfl ?_
    show Steps p.tables e below (T1.setTop (mkF m 21 #[.val (.int xx), .val (.ref r_1), .val (.int (2 : Int32)), .val (.int (0 : Int32)), .val (.ref v1)] [(.ref v1)])) τ
    exact κ)
  obtain ⟨T5, X5, e5, st5⟩ := getF X1 hx hZ hown (host := "") (Or.inl (hw _ (List.mem_of_getElem? (i := 25) rfl))) Via.refl rfl F_n1 (g := (mkF m 21 #[.val (.int xx), .val (.ref r_1), .val (.int (2 : Int32)), .val (.int (0 : Int32)), .val (.ref v1)] [(.ref v1)])) rfl rfl (hb hby d2_21)
  have pre : ∀ τ, Steps p.tables e below (T5.setTop (mkF m 24 #[.val (.int xx), .val (.ref r_1), .val (.int (2 : Int32)), .val (.int (0 : Int32)), .val (.ref v1)] [(.int (1 : Int32))])) τ → G τ := fun τ κ => pre τ (st5 τ κ)
  have pre : ∀ τ, Steps p.tables e below (T5.setTop (mkF m 25 #[.val (.int xx), .val (.ref r_1), .val (.int (2 : Int32)), .val (.int (0 : Int32)), .val (.ref v1)] [(.int xx), (.int (1 : Int32))])) τ → G τ := fun τ κ => pre τ (by
    refine XS.iloadN X5.here hx rfl (hb hby d2_24) rfl ?_
    show Steps p.tables e below (T5.setTop (mkF m 25 #[.val (.int xx), .val (.ref r_1), .val (.int (2 : Int32)), .val (.int (0 : Int32)), .val (.ref v1)] [(.int xx), (.int (1 : Int32))])) τ
    exact κ)
  have hc6 : (1 : Int32) = xx := h1
  have pre : ∀ τ, Steps p.tables e below (T5.setTop (mkF m 30 #[.val (.int xx), .val (.ref r_1), .val (.int (2 : Int32)), .val (.int (0 : Int32)), .val (.ref v1)] [(.ref v1)])) τ → G τ := fun τ κ => pre τ (by
    refine XS.icmpNo X5.here hx rfl (hb hby d2_25) rfl (teq hc6).2 ?_
    show Steps p.tables e below (T5.setTop (mkF m 28 #[.val (.int xx), .val (.ref r_1), .val (.int (2 : Int32)), .val (.int (0 : Int32)), .val (.ref v1)] [])) τ
    refine XS.aload X5.here hx rfl (hb hby d2_28) rfl rfl ?_
    show Steps p.tables e below (T5.setTop (mkF m 30 #[.val (.int xx), .val (.ref r_1), .val (.int (2 : Int32)), .val (.int (0 : Int32)), .val (.ref v1)] [(.ref v1)])) τ
    exact κ)
  obtain ⟨fsα, hr, hrun, hended, hW, hsame⟩ := X5.leave (v := some (.ref v1)) (fun h => by rw [Bd.returns] at h; cases h)
  refine hGL ⟨_, _, hG _ (pre _ ?_), hrun, hended, _, _, rfl, ?_, ⟨_, rfl⟩, hW, hsame.mono (by decide) (by decide)⟩
  · exact retOut X5 hx Bd.returns rfl (Or.inr (Or.inr (Or.inr (Or.inr ⟨rfl, rfl, rfl⟩)))) (hb hby d2_30) hr
  · show Q2a Z xx va kc v1 v2 h0 n0 _ T5.heap _
    rw [e5]
    exact ⟨rfl, NN, K⟩
theorem d2_31 : decode prog_7_method_5_code 31 = .ok (.iinc 3 1, 3) := by decide +kernel
theorem d2_34 : decode prog_7_method_5_code 34 = .ok (.goto (-25), 3) := by decide +kernel
theorem ef_2b (m : MethodId) (x0 : Int32) : entryFrame m #[(.int x0)] 5 = mkF m 0 #[.val (.int x0), .unset, .unset, .unset, .unset] [] := by first | (simp [entryFrame, mkF, argsToLocals, Value.category]; done) | rfl
def Q2b (Z : State) (xx : Int32) (va : Addr) (kc : ClassId) (v1 : Addr) (v2 : Addr) (h0 : Heap) (n0 : Nat) (vα : Option Value) (hα : Heap) (Lα : List Loc) : Prop := vα = some (.ref v2) ∧ Fr n0 Lα ∧ Keep h0 hα []
set_option maxRecDepth 65536 in
set_option maxHeartbeats 40000000 in
theorem rm2b (l : Launch) (Z : State) (a0 : Array Value) (hw : ∀ d ∈ tables_1, d.before a0 Z = true) (ws : List Jvm.Cond) (xx : Int32) (va : Addr) (kc : ClassId) (v1 : Addr) (v2 : Addr) (h0 : Heap) (n0 : Nat) (Z0 : n0 ≤ h0.size) (S_va : Sta Z h0 "com/example/cairn/cairn/graph/ChangedPathsVersion" "$VALUES" "[Lcom/example/cairn/cairn/graph/ChangedPathsVersion;" (.ref va)) (V_va : Arv Z h0 va kc (.object "com/example/cairn/cairn/graph/ChangedPathsVersion") (2 : Int32) [(.ref v1), (.ref v2)] .null) (E_va : Exa Z h0 va "[Lcom/example/cairn/cairn/graph/ChangedPathsVersion;") (F_n1 : Fld Z h0 v1 "com/example/cairn/cairn/graph/ChangedPathsVersion" "number" "I" (.int (1 : Int32))) (F_n2 : Fld Z h0 v2 "com/example/cairn/cairn/graph/ChangedPathsVersion" "number" "I" (.int (2 : Int32))) (h1 : ¬ (1 : Int32) = xx) (h2 : (2 : Int32) = xx) :
    MetFree l (⟨"com/example/cairn/cairn/graph/ChangedPathsVersion", "of", "(I)Lcom/example/cairn/cairn/graph/ChangedPathsVersion;"⟩ : MethodName) (head1 (Jvm.Cond.code (⟨"com/example/cairn/cairn/graph/ChangedPathsVersion", "of", "(I)Lcom/example/cairn/cairn/graph/ChangedPathsVersion;"⟩ : MethodName) prog_7_method_5_code 5 (some (.object "com/example/cairn/cairn/graph/ChangedPathsVersion")) :: ws) ({ frames := 2, cells := 1, slots := 2, locals := 25 } : Room)) (fun aα U => aα = #[(.int xx)] ∧ Z.Warmed39 U.vm ∧ U.heap = h0) (fun _ _ _ _ _ => True) (fun _ U oα U' => ∃ vα Lα, oα = .returned vα ∧ Q2b Z xx va kc v1 v2 h0 n0 vα U'.heap Lα ∧ FrameEnd U oα U' Lα ({ frames := 2, cells := 1, slots := 2, locals := 25 } : Room).cells ({ frames := 2, cells := 1, slots := 2, locals := 25 } : Room).slots) := by
  refine MetFree.of_bodySF (plainFor_of_name pn_0) hisR ?_
  intro p e s m args below meth c s₁ Bd hml0 hP hK
  refine own_wrap ?_
  intro GL hGL
  obtain ⟨rfl, hZ, hh⟩ := hP
  have hx := Bd.exec
  have hby := Bd.bytes
  have hml : c.maxLocals = 5 := hml0
  have hown : s.vm.findClass "com/example/cairn/cairn/graph/ChangedPathsVersion" = some m.cls := findClass_of_methodNamed Bd.named
  have hnm := (name_of_methodNamed Bd.named Bd.method).1
  have X0 : Stand p l e ({ frames := 2, cells := 1, slots := 2, locals := 25 } : Room) s m #[(.int xx)] below meth c s₁ [] 0 0 := Stand.of_body Bd
  have e0 : s₁.heap = h0 := by rw [← hh, Bd.state]; rfl
  have N0 := Fr.nil n0
  have pre0 : ∀ τ, Steps p.tables e below (s₁.setTop (mkF m 0 #[.val (.int xx), .unset, .unset, .unset, .unset] [])) τ → Steps p.tables e below (s₁.setTop (entryFrame m #[(.int xx)] 5)) τ := fun τ κ => castTop (ef_2b m xx) κ
  obtain ⟨G, hG, pre⟩ : ∃ G : State → Prop, (∀ τ, G τ → Steps p.tables e below (s₁.setTop (entryFrame m #[(.int xx)] 5)) τ) ∧ ∀ τ, Steps p.tables e below (s₁.setTop (mkF m 0 #[.val (.int xx), .unset, .unset, .unset, .unset] [])) τ → G τ := ⟨_, pre0, fun _ k => k⟩
  have K : Keep h0 h0 [] := Keep.refl h0 _
  have Zn := Z0
  obtain ⟨_, _, ⟨T1, Lx1, kx1, nx1⟩, -, X1, ⟨Lc1, hQ1, l1, y1, z1⟩, st1⟩ := Jvm.LawKit.callS X0 hx (y := (⟨"com/example/cairn/cairn/graph/ChangedPathsVersion", "values", "()[Lcom/example/cairn/cairn/graph/ChangedPathsVersion;"⟩ : MethodName)) hown (mvT hZ (hw _ (List.mem_of_getElem? (i := 8) rfl))) (mvT hZ (hw _ (List.mem_of_getElem? (i := 9) rfl))) (mvT hZ (hw _ (List.mem_of_getElem? (i := 6) rfl))) (mvT hZ (hw _ (List.mem_of_getElem? (i := 10) rfl))) (by decide) (backOf (W := 0) (rm3 l Z a0 hw [] va kc v1 v2 h0 n0 Zn S_va V_va E_va) hZ (hw _ (List.mem_of_getElem? (i := 10) rfl)) (hw _ (List.mem_of_getElem? (i := 6) rfl)) (by decide) (by decide)) (g := (mkF m 0 #[.val (.int xx), .unset, .unset, .unset, .unset] [])) rfl (by rw [hml]; rfl) (argsL := []) (rest := []) (lenOf pd_0 rfl) rfl (by show 2 * 0 + _ ≤ _; exact Nat.le_of_eq rfl) (hb hby d2_0) (fun _ _ => ⟨rfl, e0, (by decide : 0 + 1 ≤ _), (by decide : 0 + 2 ≤ _)⟩)
  dsimp only [Pt.U, Pt.locs, Pt.cells, Pt.slots] at X1 l1 y1 z1 st1 hQ1
  replace y1 : kx1 = 1 := y1
  replace z1 : nx1 = 2 := z1
  subst y1 z1
  obtain ⟨r_1, rfl, Nq1, Kc1, gn_r_1, gz_r_1, E_r_1, V_r_1⟩ := hQ1
  have NN : Fr n0 Lx1 := by rw [l1]; exact Fr.app N0 Nq1
  have g_r_1 := gn_r_1
  have sz_r_1 : h0.size ≤ r_1 := Nat.le_trans K.1 gz_r_1
  have ne_va_r_1 : va ≠ r_1 := Nat.ne_of_lt (Nat.lt_of_lt_of_le V_va.lt gz_r_1)
  have ne_v1_r_1 : v1 ≠ r_1 := Nat.ne_of_lt (Nat.lt_of_lt_of_le F_n1.lt gz_r_1)
  have ne_v2_r_1 : v2 ≠ r_1 := Nat.ne_of_lt (Nat.lt_of_lt_of_le F_n2.lt gz_r_1)
  have S_va : Sta Z T1.heap "com/example/cairn/cairn/graph/ChangedPathsVersion" "$VALUES" "[Lcom/example/cairn/cairn/graph/ChangedPathsVersion;" (.ref va) := own_sta_keep S_va Kc1
  have V_va : Arv Z T1.heap va kc (.object "com/example/cairn/cairn/graph/ChangedPathsVersion") (2 : Int32) [(.ref v1), (.ref v2)] .null := V_va.keep Kc1 nin0
  have E_va : Exa Z T1.heap va "[Lcom/example/cairn/cairn/graph/ChangedPathsVersion;" := E_va.keep Kc1
  have F_n1 : Fld Z T1.heap v1 "com/example/cairn/cairn/graph/ChangedPathsVersion" "number" "I" (.int (1 : Int32)) := F_n1.keep Kc1 nin0
  have F_n2 : Fld Z T1.heap v2 "com/example/cairn/cairn/graph/ChangedPathsVersion" "number" "I" (.int (2 : Int32)) := F_n2.keep Kc1 nin0
  have Zn : n0 ≤ T1.heap.size := Nat.le_trans Zn Kc1.1
  have K : Keep h0 T1.heap [] := K.trans Kc1 all0
  have pre : ∀ τ, Steps p.tables e below (T1.setTop (mkF m 3 #[.val (.int xx), .unset, .unset, .unset, .unset] [(.ref r_1)])) τ → G τ := fun τ κ => pre τ (st1 τ κ)
  have pre : ∀ τ, Steps p.tables e below (T1.setTop (mkF m 5 #[.val (.int xx), .val (.ref r_1), .unset, .unset, .unset] [(.ref r_1)])) τ → G τ := fun τ κ => pre τ (by
    refine XS.astoreN X1.here hx rfl (hb hby d2_3) rfl rfl (l' := #[.val (.int xx), .val (.ref r_1), .unset, .unset, .unset]) rfl ?_
    show Steps p.tables e below (T1.setTop (mkF m 4 #[.val (.int xx), .val (.ref r_1), .unset, .unset, .unset] [])) τ
    refine XS.aloadN X1.here hx rfl (hb hby d2_4) rfl rfl ?_
    show Steps p.tables e below (T1.setTop (mkF m 5 #[.val (.int xx), .val (.ref r_1), .unset, .unset, .unset] [(.ref r_1)])) τ
    exact κ)
  obtain ⟨c2, Ar2, -, S2, N2, -, -⟩ := id V_r_1
  have pre : ∀ τ, Steps p.tables e below (T1.setTop (mkF m 6 #[.val (.int xx), .val (.ref r_1), .unset, .unset, .unset] [(.int (2 : Int32))])) τ → G τ := fun τ κ => pre τ (by
    refine X1.arraylength hx Ar2.1 (State.isArrayOf_alike hZ.alike Ar2.2.1) (g := (mkF m 5 #[.val (.int xx), .val (.ref r_1), .unset, .unset, .unset] [(.ref r_1)])) rfl rfl (hb hby d2_5) _ ?_
    rw [len_of S2 N2]
    exact κ)
  have pre : ∀ τ, Steps p.tables e below (T1.setTop (mkF m 11 #[.val (.int xx), .val (.ref r_1), .val (.int (2 : Int32)), .val (.int (0 : Int32)), .unset] [(.int (2 : Int32)), (.int (0 : Int32))])) τ → G τ := fun τ κ => pre τ (by
    refine XS.istoreN X1.here hx rfl (hb hby d2_6) rfl (l' := #[.val (.int xx), .val (.ref r_1), .val (.int (2 : Int32)), .unset, .unset]) rfl ?_
    show Steps p.tables e below (T1.setTop (mkF m 7 #[.val (.int xx), .val (.ref r_1), .val (.int (2 : Int32)), .unset, .unset] [])) τ
    refine XS.iconst X1.here hx rfl (hb hby d2_7) ?_
    show Steps p.tables e below (T1.setTop (mkF m 8 #[.val (.int xx), .val (.ref r_1), .val (.int (2 : Int32)), .unset, .unset] [(.int (0 : Int32))])) τ
    refine XS.istoreN X1.here hx rfl (hb hby d2_8) rfl (l' := #[.val (.int xx), .val (.ref r_1), .val (.int (2 : Int32)), .val (.int (0 : Int32)), .unset]) rfl ?_
    show Steps p.tables e below (T1.setTop (mkF m 9 #[.val (.int xx), .val (.ref r_1), .val (.int (2 : Int32)), .val (.int (0 : Int32)), .unset] [])) τ
    refine XS.iloadN X1.here hx rfl (hb hby d2_9) rfl ?_
    show Steps p.tables e below (T1.setTop (mkF m 10 #[.val (.int xx), .val (.ref r_1), .val (.int (2 : Int32)), .val (.int (0 : Int32)), .unset] [(.int (0 : Int32))])) τ
    refine XS.iloadN X1.here hx rfl (hb hby d2_10) rfl ?_
    show Steps p.tables e below (T1.setTop (mkF m 11 #[.val (.int xx), .val (.ref r_1), .val (.int (2 : Int32)), .val (.int (0 : Int32)), .unset] [(.int (2 : Int32)), (.int (0 : Int32))])) τ
    exact κ)
  have hc3 : (0 : Int32) < (2 : Int32) := (by decide)
  have pre : ∀ τ, Steps p.tables e below (T1.setTop (mkF m 16 #[.val (.int xx), .val (.ref r_1), .val (.int (2 : Int32)), .val (.int (0 : Int32)), .unset] [(.int (0 : Int32)), (.ref r_1)])) τ → G τ := fun τ κ => pre τ (by
    refine XS.icmpNo X1.here hx rfl (hb hby d2_11) rfl (tlt hc3).2.1 ?_
    show Steps p.tables e below (T1.setTop (mkF m 14 #[.val (.int xx), .val (.ref r_1), .val (.int (2 : Int32)), .val (.int (0 : Int32)), .unset] [])) τ
    refine XS.aloadN X1.here hx rfl (hb hby d2_14) rfl rfl ?_
    show Steps p.tables e below (T1.setTop (mkF m 15 #[.val (.int xx), .val (.ref r_1), .val (.int (2 : Int32)), .val (.int (0 : Int32)), .unset] [(.ref r_1)])) τ
    refine XS.iloadN X1.here hx rfl (hb hby d2_15) rfl ?_
    show Steps p.tables e below (T1.setTop (mkF m 16 #[.val (.int xx), .val (.ref r_1), .val (.int (2 : Int32)), .val (.int (0 : Int32)), .unset] [(.int (0 : Int32)), (.ref r_1)])) τ
    exact κ)
  obtain ⟨c4, Ar4, q4, S4, Nz4, Hh4, Gg4⟩ := id V_r_1
  have hin4 : ¬ ((0 : Int32) < 0 ∨ c4.slots.size ≤ ((0 : Int32)).toNatClampNeg) := inb_of S4 ⟨by decide, by decide⟩
  have hat4 : c4.slots[((0 : Int32)).toNatClampNeg]? = some (.ref v1) := Hh4.at hin4 rfl
  have pre : ∀ τ, Steps p.tables e below (T1.setTop (mkF m 17 #[.val (.int xx), .val (.ref r_1), .val (.int (2 : Int32)), .val (.int (0 : Int32)), .unset] [(.ref v1)])) τ → G τ := fun τ κ => pre τ (X1.aaload hx (j := (0 : Int32)) (v := (.ref v1)) Ar4.1 (State.isArrayOf_alike hZ.alike Ar4.2.1) rfl Ar4.2.2 hin4 hat4 (g := (mkF m 16 #[.val (.int xx), .val (.ref r_1), .val (.int (2 : Int32)), .val (.int (0 : Int32)), .unset] [(.int (0 : Int32)), (.ref r_1)])) rfl rfl (hb hby d2_16) _ κ)
  have pre : ∀ τ, Steps p.tables e below (T1.setTop (mkF m 21 #[.val (.int xx), .val (.ref r_1), .val (.int (2 : Int32)), .val (.int (0 : Int32)), .val (.ref v1)] [(.ref v1)])) τ → G τ := fun τ κ => pre τ (by
    refine XS.astore X1.here hx rfl (hb hby d2_17) rfl rfl (l' := #[.val (.int xx), .val (.ref r_1), .val (.int (2 : Int32)), .val (.int (0 : Int32)), .val (.ref v1)]) rfl ?_
    show Steps p.tables e below (T1.setTop (mkF m 19 #[.val (.int xx), .val (.ref r_1), .val (.int (2 : Int32)), .val (.int (0 : Int32)), .val (.ref v1)] [])) τ
    refine XS.aload X1.here hx rfl (hb hby d2_19) rfl rfl ?_
    show Steps p.tables e below (T1.setTop (mkF m 21 #[.val (.int xx), .val (.ref r_1), .val (.int (2 : Int32)), .val (.int (0 : Int32)), .val (.ref v1)] [(.ref v1)])) τ
    exact κ)
  obtain ⟨T5, X5, e5, st5⟩ := getF X1 hx hZ hown (host := "") (Or.inl (hw _ (List.mem_of_getElem? (i := 25) rfl))) Via.refl rfl F_n1 (g := (mkF m 21 #[.val (.int xx), .val (.ref r_1), .val (.int (2 : Int32)), .val (.int (0 : Int32)), .val (.ref v1)] [(.ref v1)])) rfl rfl (hb hby d2_21)
  have pre : ∀ τ, Steps p.tables e below (T5.setTop (mkF m 24 #[.val (.int xx), .val (.ref r_1), .val (.int (2 : Int32)), .val (.int (0 : Int32)), .val (.ref v1)] [(.int (1 : Int32))])) τ → G τ := fun τ κ => pre τ (st5 τ κ)
  have pre : ∀ τ, Steps p.tables e below (T5.setTop (mkF m 25 #[.val (.int xx), .val (.ref r_1), .val (.int (2 : Int32)), .val (.int (0 : Int32)), .val (.ref v1)] [(.int xx), (.int (1 : Int32))])) τ → G τ := fun τ κ => pre τ (by
    refine XS.iloadN X5.here hx rfl (hb hby d2_24) rfl ?_
    show Steps p.tables e below (T5.setTop (mkF m 25 #[.val (.int xx), .val (.ref r_1), .val (.int (2 : Int32)), .val (.int (0 : Int32)), .val (.ref v1)] [(.int xx), (.int (1 : Int32))])) τ
    exact κ)
  have hc6 : ¬ ((1 : Int32) = xx) := h1
  have pre : ∀ τ, Steps p.tables e below (T5.setTop (mkF m 11 #[.val (.int xx), .val (.ref r_1), .val (.int (2 : Int32)), .val (.int (1 : Int32)), .val (.ref v1)] [(.int (2 : Int32)), (.int (1 : Int32))])) τ → G τ := fun τ κ => pre τ (by
    refine XS.icmpYes X5.here hx rfl (pc0 := 25) (pc' := 31) rfl (hb hby d2_25) rfl (feq hc6).2 (by decide) (by decide) ?_
    show Steps p.tables e below (T5.setTop (mkF m 31 #[.val (.int xx), .val (.ref r_1), .val (.int (2 : Int32)), .val (.int (0 : Int32)), .val (.ref v1)] [])) τ
    refine XS.iinc X5.here hx rfl (hb hby d2_31) rfl (l' := #[.val (.int xx), .val (.ref r_1), .val (.int (2 : Int32)), .val (.int (1 : Int32)), .val (.ref v1)]) rfl ?_
    show Steps p.tables e below (T5.setTop (mkF m 34 #[.val (.int xx), .val (.ref r_1), .val (.int (2 : Int32)), .val (.int (1 : Int32)), .val (.ref v1)] [])) τ
    refine XS.goto X5.here hx rfl (pc0 := 34) (pc' := 9) rfl (hb hby d2_34) (by decide) (by decide) ?_
    show Steps p.tables e below (T5.setTop (mkF m 9 #[.val (.int xx), .val (.ref r_1), .val (.int (2 : Int32)), .val (.int (1 : Int32)), .val (.ref v1)] [])) τ
    refine XS.iloadN X5.here hx rfl (hb hby d2_9) rfl ?_
    show Steps p.tables e below (T5.setTop (mkF m 10 #[.val (.int xx), .val (.ref r_1), .val (.int (2 : Int32)), .val (.int (1 : Int32)), .val (.ref v1)] [(.int (1 : Int32))])) τ
    refine XS.iloadN X5.here hx rfl (hb hby d2_10) rfl ?_
    show Steps p.tables e below (T5.setTop (mkF m 11 #[.val (.int xx), .val (.ref r_1), .val (.int (2 : Int32)), .val (.int (1 : Int32)), .val (.ref v1)] [(.int (2 : Int32)), (.int (1 : Int32))])) τ
    exact κ)
  have hc7 : (1 : Int32) < (2 : Int32) := (by decide)
  have pre : ∀ τ, Steps p.tables e below (T5.setTop (mkF m 16 #[.val (.int xx), .val (.ref r_1), .val (.int (2 : Int32)), .val (.int (1 : Int32)), .val (.ref v1)] [(.int (1 : Int32)), (.ref r_1)])) τ → G τ := fun τ κ => pre τ (by
    refine XS.icmpNo X5.here hx rfl (hb hby d2_11) rfl (tlt hc7).2.1 ?_
    show Steps p.tables e below (T5.setTop (mkF m 14 #[.val (.int xx), .val (.ref r_1), .val (.int (2 : Int32)), .val (.int (1 : Int32)), .val (.ref v1)] [])) τ
    refine XS.aloadN X5.here hx rfl (hb hby d2_14) rfl rfl ?_
    show Steps p.tables e below (T5.setTop (mkF m 15 #[.val (.int xx), .val (.ref r_1), .val (.int (2 : Int32)), .val (.int (1 : Int32)), .val (.ref v1)] [(.ref r_1)])) τ
    refine XS.iloadN X5.here hx rfl (hb hby d2_15) rfl ?_
    show Steps p.tables e below (T5.setTop (mkF m 16 #[.val (.int xx), .val (.ref r_1), .val (.int (2 : Int32)), .val (.int (1 : Int32)), .val (.ref v1)] [(.int (1 : Int32)), (.ref r_1)])) τ
    exact κ)
  obtain ⟨c8, Ar8, q8, S8, Nz8, Hh8, Gg8⟩ := id V_r_1
  have hin8 : ¬ ((1 : Int32) < 0 ∨ c8.slots.size ≤ ((1 : Int32)).toNatClampNeg) := inb_of S8 ⟨by decide, by decide⟩
  have hat8 : c8.slots[((1 : Int32)).toNatClampNeg]? = some (.ref v2) := Hh8.at hin8 rfl
  have pre : ∀ τ, Steps p.tables e below (T5.setTop (mkF m 17 #[.val (.int xx), .val (.ref r_1), .val (.int (2 : Int32)), .val (.int (1 : Int32)), .val (.ref v1)] [(.ref v2)])) τ → G τ := fun τ κ => pre τ (X5.aaload hx (j := (1 : Int32)) (v := (.ref v2)) (by rw [e5]; exact Ar8.1) (State.isArrayOf_alike hZ.alike Ar8.2.1) rfl Ar8.2.2 hin8 hat8 (g := (mkF m 16 #[.val (.int xx), .val (.ref r_1), .val (.int (2 : Int32)), .val (.int (1 : Int32)), .val (.ref v1)] [(.int (1 : Int32)), (.ref r_1)])) rfl rfl (hb hby d2_16) _ κ)
  have pre : ∀ τ, Steps p.tables e below (T5.setTop (mkF m 21 #[.val (.int xx), .val (.ref r_1), .val (.int (2 : Int32)), .val (.int (1 : Int32)), .val (.ref v2)] [(.ref v2)])) τ → G τ := fun τ κ => pre τ (by
    refine XS.astore X5.here hx rfl (hb hby d2_17) rfl rfl (l' := #[.val (.int xx), .val (.ref r_1), .val (.int (2 : Int32)), .val (.int (1 : Int32)), .val (.ref v2)]) rfl ?_
    show Steps p.tables e below (T5.setTop (mkF m 19 #[.val (.int xx), .val (.ref r_1), .val (.int (2 : Int32)), .val (.int (1 : Int32)), .val (.ref v2)] [])) τ
    refine XS.aload X5.here hx rfl (hb hby d2_19) rfl rfl ?_
    show Steps p.tables e below (T5.setTop (mkF m 21 #[.val (.int xx), .val (.ref r_1), .val (.int (2 : Int32)), .val (.int (1 : Int32)), .val (.ref v2)] [(.ref v2)])) τ
    exact κ)
  obtain ⟨T9, X9, e9, st9⟩ := getF X5 hx hZ hown (host := "") (Or.inl (hw _ (List.mem_of_getElem? (i := 25) rfl))) Via.refl e5 F_n2 (g := (mkF m 21 #[.val (.int xx), .val (.ref r_1), .val (.int (2 : Int32)), .val (.int (1 : Int32)), .val (.ref v2)] [(.ref v2)])) rfl rfl (hb hby d2_21)
  have pre : ∀ τ, Steps p.tables e below (T9.setTop (mkF m 24 #[.val (.int xx), .val (.ref r_1), .val (.int (2 : Int32)), .val (.int (1 : Int32)), .val (.ref v2)] [(.int (2 : Int32))])) τ → G τ := fun τ κ => pre τ (st9 τ κ)
  have pre : ∀ τ, Steps p.tables e below (T9.setTop (mkF m 25 #[.val (.int xx), .val (.ref r_1), .val (.int (2 : Int32)), .val (.int (1 : Int32)), .val (.ref v2)] [(.int xx), (.int (2 : Int32))])) τ → G τ := fun τ κ => pre τ (by
    refine XS.iloadN X9.here hx rfl (hb hby d2_24) rfl ?_
    show Steps p.tables e below (T9.setTop (mkF m 25 #[.val (.int xx), .val (.ref r_1), .val (.int (2 : Int32)), .val (.int (1 : Int32)), .val (.ref v2)] [(.int xx), (.int (2 : Int32))])) τ
    exact κ)
  have hc10 : (2 : Int32) = xx := h2
  have pre : ∀ τ, Steps p.tables e below (T9.setTop (mkF m 30 #[.val (.int xx), .val (.ref r_1), .val (.int (2 : Int32)), .val (.int (1 : Int32)), .val (.ref v2)] [(.ref v2)])) τ → G τ := fun τ κ => pre τ (by
    refine XS.icmpNo X9.here hx rfl (hb hby d2_25) rfl (teq hc10).2 ?_
    show Steps p.tables e below (T9.setTop (mkF m 28 #[.val (.int xx), .val (.ref r_1), .val (.int (2 : Int32)), .val (.int (1 : Int32)), .val (.ref v2)] [])) τ
    refine XS.aload X9.here hx rfl (hb hby d2_28) rfl rfl ?_
    show Steps p.tables e below (T9.setTop (mkF m 30 #[.val (.int xx), .val (.ref r_1), .val (.int (2 : Int32)), .val (.int (1 : Int32)), .val (.ref v2)] [(.ref v2)])) τ
    exact κ)
  obtain ⟨fsα, hr, hrun, hended, hW, hsame⟩ := X9.leave (v := some (.ref v2)) (fun h => by rw [Bd.returns] at h; cases h)
  refine hGL ⟨_, _, hG _ (pre _ ?_), hrun, hended, _, _, rfl, ?_, ⟨_, rfl⟩, hW, hsame.mono (by decide) (by decide)⟩
  · exact retOut X9 hx Bd.returns rfl (Or.inr (Or.inr (Or.inr (Or.inr ⟨rfl, rfl, rfl⟩)))) (hb hby d2_30) hr
  · show Q2b Z xx va kc v1 v2 h0 n0 _ T9.heap _
    rw [e9]
    exact ⟨rfl, NN, K⟩
theorem d2_37 : decode prog_7_method_5_code 37 = .ok (.aconst_null, 1) := by decide +kernel
theorem d2_38 : decode prog_7_method_5_code 38 = .ok (.areturn, 1) := by decide +kernel
theorem ef_2n (m : MethodId) (x0 : Int32) : entryFrame m #[(.int x0)] 5 = mkF m 0 #[.val (.int x0), .unset, .unset, .unset, .unset] [] := by first | (simp [entryFrame, mkF, argsToLocals, Value.category]; done) | rfl
def Q2n (Z : State) (xx : Int32) (va : Addr) (kc : ClassId) (v1 : Addr) (v2 : Addr) (h0 : Heap) (n0 : Nat) (vα : Option Value) (hα : Heap) (Lα : List Loc) : Prop := vα = some .null ∧ Fr n0 Lα ∧ Keep h0 hα []
set_option maxRecDepth 65536 in
set_option maxHeartbeats 40000000 in
theorem rm2n (l : Launch) (Z : State) (a0 : Array Value) (hw : ∀ d ∈ tables_1, d.before a0 Z = true) (ws : List Jvm.Cond) (xx : Int32) (va : Addr) (kc : ClassId) (v1 : Addr) (v2 : Addr) (h0 : Heap) (n0 : Nat) (Z0 : n0 ≤ h0.size) (S_va : Sta Z h0 "com/example/cairn/cairn/graph/ChangedPathsVersion" "$VALUES" "[Lcom/example/cairn/cairn/graph/ChangedPathsVersion;" (.ref va)) (V_va : Arv Z h0 va kc (.object "com/example/cairn/cairn/graph/ChangedPathsVersion") (2 : Int32) [(.ref v1), (.ref v2)] .null) (E_va : Exa Z h0 va "[Lcom/example/cairn/cairn/graph/ChangedPathsVersion;") (F_n1 : Fld Z h0 v1 "com/example/cairn/cairn/graph/ChangedPathsVersion" "number" "I" (.int (1 : Int32))) (F_n2 : Fld Z h0 v2 "com/example/cairn/cairn/graph/ChangedPathsVersion" "number" "I" (.int (2 : Int32))) (h1 : ¬ (1 : Int32) = xx) (h2 : ¬ (2 : Int32) = xx) :
    MetFree l (⟨"com/example/cairn/cairn/graph/ChangedPathsVersion", "of", "(I)Lcom/example/cairn/cairn/graph/ChangedPathsVersion;"⟩ : MethodName) (head1 (Jvm.Cond.code (⟨"com/example/cairn/cairn/graph/ChangedPathsVersion", "of", "(I)Lcom/example/cairn/cairn/graph/ChangedPathsVersion;"⟩ : MethodName) prog_7_method_5_code 5 (some (.object "com/example/cairn/cairn/graph/ChangedPathsVersion")) :: ws) ({ frames := 2, cells := 1, slots := 2, locals := 25 } : Room)) (fun aα U => aα = #[(.int xx)] ∧ Z.Warmed39 U.vm ∧ U.heap = h0) (fun _ _ _ _ _ => True) (fun _ U oα U' => ∃ vα Lα, oα = .returned vα ∧ Q2n Z xx va kc v1 v2 h0 n0 vα U'.heap Lα ∧ FrameEnd U oα U' Lα ({ frames := 2, cells := 1, slots := 2, locals := 25 } : Room).cells ({ frames := 2, cells := 1, slots := 2, locals := 25 } : Room).slots) := by
  refine MetFree.of_bodySF (plainFor_of_name pn_0) hisR ?_
  intro p e s m args below meth c s₁ Bd hml0 hP hK
  refine own_wrap ?_
  intro GL hGL
  obtain ⟨rfl, hZ, hh⟩ := hP
  have hx := Bd.exec
  have hby := Bd.bytes
  have hml : c.maxLocals = 5 := hml0
  have hown : s.vm.findClass "com/example/cairn/cairn/graph/ChangedPathsVersion" = some m.cls := findClass_of_methodNamed Bd.named
  have hnm := (name_of_methodNamed Bd.named Bd.method).1
  have X0 : Stand p l e ({ frames := 2, cells := 1, slots := 2, locals := 25 } : Room) s m #[(.int xx)] below meth c s₁ [] 0 0 := Stand.of_body Bd
  have e0 : s₁.heap = h0 := by rw [← hh, Bd.state]; rfl
  have N0 := Fr.nil n0
  have pre0 : ∀ τ, Steps p.tables e below (s₁.setTop (mkF m 0 #[.val (.int xx), .unset, .unset, .unset, .unset] [])) τ → Steps p.tables e below (s₁.setTop (entryFrame m #[(.int xx)] 5)) τ := fun τ κ => castTop (ef_2n m xx) κ
  obtain ⟨G, hG, pre⟩ : ∃ G : State → Prop, (∀ τ, G τ → Steps p.tables e below (s₁.setTop (entryFrame m #[(.int xx)] 5)) τ) ∧ ∀ τ, Steps p.tables e below (s₁.setTop (mkF m 0 #[.val (.int xx), .unset, .unset, .unset, .unset] [])) τ → G τ := ⟨_, pre0, fun _ k => k⟩
  have K : Keep h0 h0 [] := Keep.refl h0 _
  have Zn := Z0
  obtain ⟨_, _, ⟨T1, Lx1, kx1, nx1⟩, -, X1, ⟨Lc1, hQ1, l1, y1, z1⟩, st1⟩ := Jvm.LawKit.callS X0 hx (y := (⟨"com/example/cairn/cairn/graph/ChangedPathsVersion", "values", "()[Lcom/example/cairn/cairn/graph/ChangedPathsVersion;"⟩ : MethodName)) hown (mvT hZ (hw _ (List.mem_of_getElem? (i := 8) rfl))) (mvT hZ (hw _ (List.mem_of_getElem? (i := 9) rfl))) (mvT hZ (hw _ (List.mem_of_getElem? (i := 6) rfl))) (mvT hZ (hw _ (List.mem_of_getElem? (i := 10) rfl))) (by decide) (backOf (W := 0) (rm3 l Z a0 hw [] va kc v1 v2 h0 n0 Zn S_va V_va E_va) hZ (hw _ (List.mem_of_getElem? (i := 10) rfl)) (hw _ (List.mem_of_getElem? (i := 6) rfl)) (by decide) (by decide)) (g := (mkF m 0 #[.val (.int xx), .unset, .unset, .unset, .unset] [])) rfl (by rw [hml]; rfl) (argsL := []) (rest := []) (lenOf pd_0 rfl) rfl (by show 2 * 0 + _ ≤ _; exact Nat.le_of_eq rfl) (hb hby d2_0) (fun _ _ => ⟨rfl, e0, (by decide : 0 + 1 ≤ _), (by decide : 0 + 2 ≤ _)⟩)
  dsimp only [Pt.U, Pt.locs, Pt.cells, Pt.slots] at X1 l1 y1 z1 st1 hQ1
  replace y1 : kx1 = 1 := y1
  replace z1 : nx1 = 2 := z1
  subst y1 z1
  obtain ⟨r_1, rfl, Nq1, Kc1, gn_r_1, gz_r_1, E_r_1, V_r_1⟩ := hQ1
  have NN : Fr n0 Lx1 := by rw [l1]; exact Fr.app N0 Nq1
  have g_r_1 := gn_r_1
  have sz_r_1 : h0.size ≤ r_1 := Nat.le_trans K.1 gz_r_1
  have ne_va_r_1 : va ≠ r_1 := Nat.ne_of_lt (Nat.lt_of_lt_of_le V_va.lt gz_r_1)
  have ne_v1_r_1 : v1 ≠ r_1 := Nat.ne_of_lt (Nat.lt_of_lt_of_le F_n1.lt gz_r_1)
  have ne_v2_r_1 : v2 ≠ r_1 := Nat.ne_of_lt (Nat.lt_of_lt_of_le F_n2.lt gz_r_1)
  have S_va : Sta Z T1.heap "com/example/cairn/cairn/graph/ChangedPathsVersion" "$VALUES" "[Lcom/example/cairn/cairn/graph/ChangedPathsVersion;" (.ref va) := own_sta_keep S_va Kc1
  have V_va : Arv Z T1.heap va kc (.object "com/example/cairn/cairn/graph/ChangedPathsVersion") (2 : Int32) [(.ref v1), (.ref v2)] .null := V_va.keep Kc1 nin0
  have E_va : Exa Z T1.heap va "[Lcom/example/cairn/cairn/graph/ChangedPathsVersion;" := E_va.keep Kc1
  have F_n1 : Fld Z T1.heap v1 "com/example/cairn/cairn/graph/ChangedPathsVersion" "number" "I" (.int (1 : Int32)) := F_n1.keep Kc1 nin0
  have F_n2 : Fld Z T1.heap v2 "com/example/cairn/cairn/graph/ChangedPathsVersion" "number" "I" (.int (2 : Int32)) := F_n2.keep Kc1 nin0
  have Zn : n0 ≤ T1.heap.size := Nat.le_trans Zn Kc1.1
  have K : Keep h0 T1.heap [] := K.trans Kc1 all0
  have pre : ∀ τ, Steps p.tables e below (T1.setTop (mkF m 3 #[.val (.int xx), .unset, .unset, .unset, .unset] [(.ref r_1)])) τ → G τ := fun τ κ => pre τ (st1 τ κ)
  have pre : ∀ τ, Steps p.tables e below (T1.setTop (mkF m 5 #[.val (.int xx), .val (.ref r_1), .unset, .unset, .unset] [(.ref r_1)])) τ → G τ := fun τ κ => pre τ (by
    refine XS.astoreN X1.here hx rfl (hb hby d2_3) rfl rfl (l' := #[.val (.int xx), .val (.ref r_1), .unset, .unset, .unset]) rfl ?_
    show Steps p.tables e below (T1.setTop (mkF m 4 #[.val (.int xx), .val (.ref r_1), .unset, .unset, .unset] [])) τ
    refine XS.aloadN X1.here hx rfl (hb hby d2_4) rfl rfl ?_
    show Steps p.tables e below (T1.setTop (mkF m 5 #[.val (.int xx), .val (.ref r_1), .unset, .unset, .unset] [(.ref r_1)])) τ
    exact κ)
  obtain ⟨c2, Ar2, -, S2, N2, -, -⟩ := id V_r_1
  have pre : ∀ τ, Steps p.tables e below (T1.setTop (mkF m 6 #[.val (.int xx), .val (.ref r_1), .unset, .unset, .unset] [(.int (2 : Int32))])) τ → G τ := fun τ κ => pre τ (by
    refine X1.arraylength hx Ar2.1 (State.isArrayOf_alike hZ.alike Ar2.2.1) (g := (mkF m 5 #[.val (.int xx), .val (.ref r_1), .unset, .unset, .unset] [(.ref r_1)])) rfl rfl (hb hby d2_5) _ ?_
    rw [len_of S2 N2]
    exact κ)
  have pre : ∀ τ, Steps p.tables e below (T1.setTop (mkF m 11 #[.val (.int xx), .val (.ref r_1), .val (.int (2 : Int32)), .val (.int (0 : Int32)), .unset] [(.int (2 : Int32)), (.int (0 : Int32))])) τ → G τ := fun τ κ => pre τ (by
    refine XS.istoreN X1.here hx rfl (hb hby d2_6) rfl (l' := #[.val (.int xx), .val (.ref r_1), .val (.int (2 : Int32)), .unset, .unset]) rfl ?_
    show Steps p.tables e below (T1.setTop (mkF m 7 #[.val (.int xx), .val (.ref r_1), .val (.int (2 : Int32)), .unset, .unset] [])) τ
    refine XS.iconst X1.here hx rfl (hb hby d2_7) ?_
    show Steps p.tables e below (T1.setTop (mkF m 8 #[.val (.int xx), .val (.ref r_1), .val (.int (2 : Int32)), .unset, .unset] [(.int (0 : Int32))])) τ
    refine XS.istoreN X1.here hx rfl (hb hby d2_8) rfl (l' := #[.val (.int xx), .val (.ref r_1), .val (.int (2 : Int32)), .val (.int (0 : Int32)), .unset]) rfl ?_
    show Steps p.tables e below (T1.setTop (mkF m 9 #[.val (.int xx), .val (.ref r_1), .val (.int (2 : Int32)), .val (.int (0 : Int32)), .unset] [])) τ
    refine XS.iloadN X1.here hx rfl (hb hby d2_9) rfl ?_
    show Steps p.tables e below (T1.setTop (mkF m 10 #[.val (.int xx), .val (.ref r_1), .val (.int (2 : Int32)), .val (.int (0 : Int32)), .unset] [(.int (0 : Int32))])) τ
    refine XS.iloadN X1.here hx rfl (hb hby d2_10) rfl ?_
    show Steps p.tables e below (T1.setTop (mkF m 11 #[.val (.int xx), .val (.ref r_1), .val (.int (2 : Int32)), .val (.int (0 : Int32)), .unset] [(.int (2 : Int32)), (.int (0 : Int32))])) τ
    exact κ)
  have hc3 : (0 : Int32) < (2 : Int32) := (by decide)
  have pre : ∀ τ, Steps p.tables e below (T1.setTop (mkF m 16 #[.val (.int xx), .val (.ref r_1), .val (.int (2 : Int32)), .val (.int (0 : Int32)), .unset] [(.int (0 : Int32)), (.ref r_1)])) τ → G τ := fun τ κ => pre τ (by
    refine XS.icmpNo X1.here hx rfl (hb hby d2_11) rfl (tlt hc3).2.1 ?_
    show Steps p.tables e below (T1.setTop (mkF m 14 #[.val (.int xx), .val (.ref r_1), .val (.int (2 : Int32)), .val (.int (0 : Int32)), .unset] [])) τ
    refine XS.aloadN X1.here hx rfl (hb hby d2_14) rfl rfl ?_
    show Steps p.tables e below (T1.setTop (mkF m 15 #[.val (.int xx), .val (.ref r_1), .val (.int (2 : Int32)), .val (.int (0 : Int32)), .unset] [(.ref r_1)])) τ
    refine XS.iloadN X1.here hx rfl (hb hby d2_15) rfl ?_
    show Steps p.tables e below (T1.setTop (mkF m 16 #[.val (.int xx), .val (.ref r_1), .val (.int (2 : Int32)), .val (.int (0 : Int32)), .unset] [(.int (0 : Int32)), (.ref r_1)])) τ
    exact κ)
  obtain ⟨c4, Ar4, q4, S4, Nz4, Hh4, Gg4⟩ := id V_r_1
  have hin4 : ¬ ((0 : Int32) < 0 ∨ c4.slots.size ≤ ((0 : Int32)).toNatClampNeg) := inb_of S4 ⟨by decide, by decide⟩
  have hat4 : c4.slots[((0 : Int32)).toNatClampNeg]? = some (.ref v1) := Hh4.at hin4 rfl
  have pre : ∀ τ, Steps p.tables e below (T1.setTop (mkF m 17 #[.val (.int xx), .val (.ref r_1), .val (.int (2 : Int32)), .val (.int (0 : Int32)), .unset] [(.ref v1)])) τ → G τ := fun τ κ => pre τ (X1.aaload hx (j := (0 : Int32)) (v := (.ref v1)) Ar4.1 (State.isArrayOf_alike hZ.alike Ar4.2.1) rfl Ar4.2.2 hin4 hat4 (g := (mkF m 16 #[.val (.int xx), .val (.ref r_1), .val (.int (2 : Int32)), .val (.int (0 : Int32)), .unset] [(.int (0 : Int32)), (.ref r_1)])) rfl rfl (hb hby d2_16) _ κ)
  have pre : ∀ τ, Steps p.tables e below (T1.setTop (mkF m 21 #[.val (.int xx), .val (.ref r_1), .val (.int (2 : Int32)), .val (.int (0 : Int32)), .val (.ref v1)] [(.ref v1)])) τ → G τ := fun τ κ => pre τ (by
    refine XS.astore X1.here hx rfl (hb hby d2_17) rfl rfl (l' := #[.val (.int xx), .val (.ref r_1), .val (.int (2 : Int32)), .val (.int (0 : Int32)), .val (.ref v1)]) rfl ?_
    show Steps p.tables e below (T1.setTop (mkF m 19 #[.val (.int xx), .val (.ref r_1), .val (.int (2 : Int32)), .val (.int (0 : Int32)), .val (.ref v1)] [])) τ
    refine XS.aload X1.here hx rfl (hb hby d2_19) rfl rfl ?_
    show Steps p.tables e below (T1.setTop (mkF m 21 #[.val (.int xx), .val (.ref r_1), .val (.int (2 : Int32)), .val (.int (0 : Int32)), .val (.ref v1)] [(.ref v1)])) τ
    exact κ)
  obtain ⟨T5, X5, e5, st5⟩ := getF X1 hx hZ hown (host := "") (Or.inl (hw _ (List.mem_of_getElem? (i := 25) rfl))) Via.refl rfl F_n1 (g := (mkF m 21 #[.val (.int xx), .val (.ref r_1), .val (.int (2 : Int32)), .val (.int (0 : Int32)), .val (.ref v1)] [(.ref v1)])) rfl rfl (hb hby d2_21)
  have pre : ∀ τ, Steps p.tables e below (T5.setTop (mkF m 24 #[.val (.int xx), .val (.ref r_1), .val (.int (2 : Int32)), .val (.int (0 : Int32)), .val (.ref v1)] [(.int (1 : Int32))])) τ → G τ := fun τ κ => pre τ (st5 τ κ)
  have pre : ∀ τ, Steps p.tables e below (T5.setTop (mkF m 25 #[.val (.int xx), .val (.ref r_1), .val (.int (2 : Int32)), .val (.int (0 : Int32)), .val (.ref v1)] [(.int xx), (.int (1 : Int32))])) τ → G τ := fun τ κ => pre τ (by
    refine XS.iloadN X5.here hx rfl (hb hby d2_24) rfl ?_
    show Steps p.tables e below (T5.setTop (mkF m 25 #[.val (.int xx), .val (.ref r_1), .val (.int (2 : Int32)), .val (.int (0 : Int32)), .val (.ref v1)] [(.int xx), (.int (1 : Int32))])) τ
    exact κ)
  have hc6 : ¬ ((1 : Int32) = xx) := h1
  have pre : ∀ τ, Steps p.tables e below (T5.setTop (mkF m 11 #[.val (.int xx), .val (.ref r_1), .val (.int (2 : Int32)), .val (.int (1 : Int32)), .val (.ref v1)] [(.int (2 : Int32)), (.int (1 : Int32))])) τ → G τ := fun τ κ => pre τ (by
    refine XS.icmpYes X5.here hx rfl (pc0 := 25) (pc' := 31) rfl (hb hby d2_25) rfl (feq hc6).2 (by decide) (by decide) ?_
    show Steps p.tables e below (T5.setTop (mkF m 31 #[.val (.int xx), .val (.ref r_1), .val (.int (2 : Int32)), .val (.int (0 : Int32)), .val (.ref v1)] [])) τ
    refine XS.iinc X5.here hx rfl (hb hby d2_31) rfl (l' := #[.val (.int xx), .val (.ref r_1), .val (.int (2 : Int32)), .val (.int (1 : Int32)), .val (.ref v1)]) rfl ?_
    show Steps p.tables e below (T5.setTop (mkF m 34 #[.val (.int xx), .val (.ref r_1), .val (.int (2 : Int32)), .val (.int (1 : Int32)), .val (.ref v1)] [])) τ
    refine XS.goto X5.here hx rfl (pc0 := 34) (pc' := 9) rfl (hb hby d2_34) (by decide) (by decide) ?_
    show Steps p.tables e below (T5.setTop (mkF m 9 #[.val (.int xx), .val (.ref r_1), .val (.int (2 : Int32)), .val (.int (1 : Int32)), .val (.ref v1)] [])) τ
    refine XS.iloadN X5.here hx rfl (hb hby d2_9) rfl ?_
    show Steps p.tables e below (T5.setTop (mkF m 10 #[.val (.int xx), .val (.ref r_1), .val (.int (2 : Int32)), .val (.int (1 : Int32)), .val (.ref v1)] [(.int (1 : Int32))])) τ
    refine XS.iloadN X5.here hx rfl (hb hby d2_10) rfl ?_
    show Steps p.tables e below (T5.setTop (mkF m 11 #[.val (.int xx), .val (.ref r_1), .val (.int (2 : Int32)), .val (.int (1 : Int32)), .val (.ref v1)] [(.int (2 : Int32)), (.int (1 : Int32))])) τ
    exact κ)
  have hc7 : (1 : Int32) < (2 : Int32) := (by decide)
  have pre : ∀ τ, Steps p.tables e below (T5.setTop (mkF m 16 #[.val (.int xx), .val (.ref r_1), .val (.int (2 : Int32)), .val (.int (1 : Int32)), .val (.ref v1)] [(.int (1 : Int32)), (.ref r_1)])) τ → G τ := fun τ κ => pre τ (by
    refine XS.icmpNo X5.here hx rfl (hb hby d2_11) rfl (tlt hc7).2.1 ?_
    show Steps p.tables e below (T5.setTop (mkF m 14 #[.val (.int xx), .val (.ref r_1), .val (.int (2 : Int32)), .val (.int (1 : Int32)), .val (.ref v1)] [])) τ
    refine XS.aloadN X5.here hx rfl (hb hby d2_14) rfl rfl ?_
    show Steps p.tables e below (T5.setTop (mkF m 15 #[.val (.int xx), .val (.ref r_1), .val (.int (2 : Int32)), .val (.int (1 : Int32)), .val (.ref v1)] [(.ref r_1)])) τ
    refine XS.iloadN X5.here hx rfl (hb hby d2_15) rfl ?_
    show Steps p.tables e below (T5.setTop (mkF m 16 #[.val (.int xx), .val (.ref r_1), .val (.int (2 : Int32)), .val (.int (1 : Int32)), .val (.ref v1)] [(.int (1 : Int32)), (.ref r_1)])) τ
    exact κ)
  obtain ⟨c8, Ar8, q8, S8, Nz8, Hh8, Gg8⟩ := id V_r_1
  have hin8 : ¬ ((1 : Int32) < 0 ∨ c8.slots.size ≤ ((1 : Int32)).toNatClampNeg) := inb_of S8 ⟨by decide, by decide⟩
  have hat8 : c8.slots[((1 : Int32)).toNatClampNeg]? = some (.ref v2) := Hh8.at hin8 rfl
  have pre : ∀ τ, Steps p.tables e below (T5.setTop (mkF m 17 #[.val (.int xx), .val (.ref r_1), .val (.int (2 : Int32)), .val (.int (1 : Int32)), .val (.ref v1)] [(.ref v2)])) τ → G τ := fun τ κ => pre τ (X5.aaload hx (j := (1 : Int32)) (v := (.ref v2)) (by rw [e5]; exact Ar8.1) (State.isArrayOf_alike hZ.alike Ar8.2.1) rfl Ar8.2.2 hin8 hat8 (g := (mkF m 16 #[.val (.int xx), .val (.ref r_1), .val (.int (2 : Int32)), .val (.int (1 : Int32)), .val (.ref v1)] [(.int (1 : Int32)), (.ref r_1)])) rfl rfl (hb hby d2_16) _ κ)
  have pre : ∀ τ, Steps p.tables e below (T5.setTop (mkF m 21 #[.val (.int xx), .val (.ref r_1), .val (.int (2 : Int32)), .val (.int (1 : Int32)), .val (.ref v2)] [(.ref v2)])) τ → G τ := fun τ κ => pre τ (by
    refine XS.astore X5.here hx rfl (hb hby d2_17) rfl rfl (l' := #[.val (.int xx), .val (.ref r_1), .val (.int (2 : Int32)), .val (.int (1 : Int32)), .val (.ref v2)]) rfl ?_
    show Steps p.tables e below (T5.setTop (mkF m 19 #[.val (.int xx), .val (.ref r_1), .val (.int (2 : Int32)), .val (.int (1 : Int32)), .val (.ref v2)] [])) τ
    refine XS.aload X5.here hx rfl (hb hby d2_19) rfl rfl ?_
    show Steps p.tables e below (T5.setTop (mkF m 21 #[.val (.int xx), .val (.ref r_1), .val (.int (2 : Int32)), .val (.int (1 : Int32)), .val (.ref v2)] [(.ref v2)])) τ
    exact κ)
  obtain ⟨T9, X9, e9, st9⟩ := getF X5 hx hZ hown (host := "") (Or.inl (hw _ (List.mem_of_getElem? (i := 25) rfl))) Via.refl e5 F_n2 (g := (mkF m 21 #[.val (.int xx), .val (.ref r_1), .val (.int (2 : Int32)), .val (.int (1 : Int32)), .val (.ref v2)] [(.ref v2)])) rfl rfl (hb hby d2_21)
  have pre : ∀ τ, Steps p.tables e below (T9.setTop (mkF m 24 #[.val (.int xx), .val (.ref r_1), .val (.int (2 : Int32)), .val (.int (1 : Int32)), .val (.ref v2)] [(.int (2 : Int32))])) τ → G τ := fun τ κ => pre τ (st9 τ κ)
  have pre : ∀ τ, Steps p.tables e below (T9.setTop (mkF m 25 #[.val (.int xx), .val (.ref r_1), .val (.int (2 : Int32)), .val (.int (1 : Int32)), .val (.ref v2)] [(.int xx), (.int (2 : Int32))])) τ → G τ := fun τ κ => pre τ (by
    refine XS.iloadN X9.here hx rfl (hb hby d2_24) rfl ?_
    show Steps p.tables e below (T9.setTop (mkF m 25 #[.val (.int xx), .val (.ref r_1), .val (.int (2 : Int32)), .val (.int (1 : Int32)), .val (.ref v2)] [(.int xx), (.int (2 : Int32))])) τ
    exact κ)
  have hc10 : ¬ ((2 : Int32) = xx) := h2
  have pre : ∀ τ, Steps p.tables e below (T9.setTop (mkF m 11 #[.val (.int xx), .val (.ref r_1), .val (.int (2 : Int32)), .val (.int (2 : Int32)), .val (.ref v2)] [(.int (2 : Int32)), (.int (2 : Int32))])) τ → G τ := fun τ κ => pre τ (by
    refine XS.icmpYes X9.here hx rfl (pc0 := 25) (pc' := 31) rfl (hb hby d2_25) rfl (feq hc10).2 (by decide) (by decide) ?_
    show Steps p.tables e below (T9.setTop (mkF m 31 #[.val (.int xx), .val (.ref r_1), .val (.int (2 : Int32)), .val (.int (1 : Int32)), .val (.ref v2)] [])) τ
    refine XS.iinc X9.here hx rfl (hb hby d2_31) rfl (l' := #[.val (.int xx), .val (.ref r_1), .val (.int (2 : Int32)), .val (.int (2 : Int32)), .val (.ref v2)]) rfl ?_
    show Steps p.tables e below (T9.setTop (mkF m 34 #[.val (.int xx), .val (.ref r_1), .val (.int (2 : Int32)), .val (.int (2 : Int32)), .val (.ref v2)] [])) τ
    refine XS.goto X9.here hx rfl (pc0 := 34) (pc' := 9) rfl (hb hby d2_34) (by decide) (by decide) ?_
    show Steps p.tables e below (T9.setTop (mkF m 9 #[.val (.int xx), .val (.ref r_1), .val (.int (2 : Int32)), .val (.int (2 : Int32)), .val (.ref v2)] [])) τ
    refine XS.iloadN X9.here hx rfl (hb hby d2_9) rfl ?_
    show Steps p.tables e below (T9.setTop (mkF m 10 #[.val (.int xx), .val (.ref r_1), .val (.int (2 : Int32)), .val (.int (2 : Int32)), .val (.ref v2)] [(.int (2 : Int32))])) τ
    refine XS.iloadN X9.here hx rfl (hb hby d2_10) rfl ?_
    show Steps p.tables e below (T9.setTop (mkF m 11 #[.val (.int xx), .val (.ref r_1), .val (.int (2 : Int32)), .val (.int (2 : Int32)), .val (.ref v2)] [(.int (2 : Int32)), (.int (2 : Int32))])) τ
    exact κ)
  have hc11 : ¬ ((2 : Int32) < (2 : Int32)) := (by decide)
  have pre : ∀ τ, Steps p.tables e below (T9.setTop (mkF m 38 #[.val (.int xx), .val (.ref r_1), .val (.int (2 : Int32)), .val (.int (2 : Int32)), .val (.ref v2)] [.null])) τ → G τ := fun τ κ => pre τ (by
    refine XS.icmpYes X9.here hx rfl (pc0 := 11) (pc' := 37) rfl (hb hby d2_11) rfl (flt hc11).2.1 (by decide) (by decide) ?_
    show Steps p.tables e below (T9.setTop (mkF m 37 #[.val (.int xx), .val (.ref r_1), .val (.int (2 : Int32)), .val (.int (2 : Int32)), .val (.ref v2)] [])) τ
    refine XS.aconstNull X9.here hx rfl (hb hby d2_37) ?_
    show Steps p.tables e below (T9.setTop (mkF m 38 #[.val (.int xx), .val (.ref r_1), .val (.int (2 : Int32)), .val (.int (2 : Int32)), .val (.ref v2)] [.null])) τ
    exact κ)
  obtain ⟨fsα, hr, hrun, hended, hW, hsame⟩ := X9.leave (v := some .null) (fun h => by rw [Bd.returns] at h; cases h)
  refine hGL ⟨_, _, hG _ (pre _ ?_), hrun, hended, _, _, rfl, ?_, ⟨_, rfl⟩, hW, hsame.mono (by decide) (by decide)⟩
  · exact retOut X9 hx Bd.returns rfl (Or.inr (Or.inr (Or.inr (Or.inr ⟨rfl, rfl, rfl⟩)))) (hb hby d2_38) hr
  · show Q2n Z xx va kc v1 v2 h0 n0 _ T9.heap _
    rw [e9]
    exact ⟨rfl, NN, K⟩
theorem pn_1 : plainName "com/example/cairn/cairn/graph/ChangedPathsVersionOfPinLaw" = true := by first | (simp [plainName, overriddenIn]; done) | decide +kernel
theorem d1_0 : decode method_3_code 0 = .ok (.iload_n 0, 1) := by decide +kernel
theorem d1_1 : decode method_3_code 1 = .ok (.invokestatic 23, 3) := by decide +kernel
theorem pd_1 : parseMethodDescriptor "(I)Lcom/example/cairn/cairn/graph/ChangedPathsVersion;" = some ⟨[.int], some (.object "com/example/cairn/cairn/graph/ChangedPathsVersion")⟩ := by decide +kernel
theorem d1_4 : decode method_3_code 4 = .ok (.astore_n 1, 1) := by decide +kernel
theorem d1_5 : decode method_3_code 5 = .ok (.iload_n 0, 1) := by decide +kernel
theorem d1_6 : decode method_3_code 6 = .ok (.iconst 1, 1) := by decide +kernel
theorem d1_7 : decode method_3_code 7 = .ok (.if_icmp .ne 16, 3) := by decide +kernel
theorem d1_10 : decode method_3_code 10 = .ok (.aload_n 1, 1) := by decide +kernel
theorem d1_11 : decode method_3_code 11 = .ok (.getstatic 13, 3) := by decide +kernel
theorem d1_14 : decode method_3_code 14 = .ok (.if_acmp .ne 7, 3) := by decide +kernel
theorem d1_17 : decode method_3_code 17 = .ok (.iconst 1, 1) := by decide +kernel
theorem d1_18 : decode method_3_code 18 = .ok (.goto 4, 3) := by decide +kernel
theorem d1_22 : decode method_3_code 22 = .ok (.ireturn, 1) := by decide +kernel
theorem d1_23 : decode method_3_code 23 = .ok (.iload_n 0, 1) := by decide +kernel
theorem d1_24 : decode method_3_code 24 = .ok (.iconst 2, 1) := by decide +kernel
theorem d1_25 : decode method_3_code 25 = .ok (.if_icmp .ne 16, 3) := by decide +kernel
theorem d1_28 : decode method_3_code 28 = .ok (.aload_n 1, 1) := by decide +kernel
theorem d1_29 : decode method_3_code 29 = .ok (.getstatic 27, 3) := by decide +kernel
theorem d1_32 : decode method_3_code 32 = .ok (.if_acmp .ne 7, 3) := by decide +kernel
theorem d1_35 : decode method_3_code 35 = .ok (.iconst 1, 1) := by decide +kernel
theorem d1_36 : decode method_3_code 36 = .ok (.goto 4, 3) := by decide +kernel
theorem d1_40 : decode method_3_code 40 = .ok (.ireturn, 1) := by decide +kernel
theorem d1_41 : decode method_3_code 41 = .ok (.aload_n 1, 1) := by decide +kernel
theorem d1_42 : decode method_3_code 42 = .ok (.ifnonnull 7, 3) := by decide +kernel
theorem d1_45 : decode method_3_code 45 = .ok (.iconst 1, 1) := by decide +kernel
theorem d1_46 : decode method_3_code 46 = .ok (.goto 4, 3) := by decide +kernel
theorem d1_50 : decode method_3_code 50 = .ok (.ireturn, 1) := by decide +kernel
theorem ef_1 (m : MethodId) (x0 : Int32) : entryFrame m #[(.int x0)] 2 = mkF m 0 #[.val (.int x0), .unset] [] := by first | (simp [entryFrame, mkF, argsToLocals, Value.category]; done) | rfl
def Q1 (Z : State) (xx : Int32) (va : Addr) (kc : ClassId) (v1 : Addr) (v2 : Addr) (h0 : Heap) (n0 : Nat) (vα : Option Value) (hα : Heap) (Lα : List Loc) : Prop := vα = some (.int (1 : Int32)) ∧ Fr n0 Lα ∧ Keep h0 hα []
set_option maxRecDepth 65536 in
set_option maxHeartbeats 40000000 in
theorem rm1 (l : Launch) (Z : State) (a0 : Array Value) (hw : ∀ d ∈ tables_1, d.before a0 Z = true) (ws : List Jvm.Cond) (xx : Int32) (va : Addr) (kc : ClassId) (v1 : Addr) (v2 : Addr) (h0 : Heap) (n0 : Nat) (Z0 : n0 ≤ h0.size) (S_va : Sta Z h0 "com/example/cairn/cairn/graph/ChangedPathsVersion" "$VALUES" "[Lcom/example/cairn/cairn/graph/ChangedPathsVersion;" (.ref va)) (V_va : Arv Z h0 va kc (.object "com/example/cairn/cairn/graph/ChangedPathsVersion") (2 : Int32) [(.ref v1), (.ref v2)] .null) (E_va : Exa Z h0 va "[Lcom/example/cairn/cairn/graph/ChangedPathsVersion;") (F_n1 : Fld Z h0 v1 "com/example/cairn/cairn/graph/ChangedPathsVersion" "number" "I" (.int (1 : Int32))) (F_n2 : Fld Z h0 v2 "com/example/cairn/cairn/graph/ChangedPathsVersion" "number" "I" (.int (2 : Int32))) (S_v1 : Sta Z h0 "com/example/cairn/cairn/graph/ChangedPathsVersion" "V1" "Lcom/example/cairn/cairn/graph/ChangedPathsVersion;" (.ref v1)) (S_v2 : Sta Z h0 "com/example/cairn/cairn/graph/ChangedPathsVersion" "V2" "Lcom/example/cairn/cairn/graph/ChangedPathsVersion;" (.ref v2)) :
    MetFree l (⟨"com/example/cairn/cairn/graph/ChangedPathsVersionOfPinLaw", "check", "(I)Z"⟩ : MethodName) (head1 (Jvm.Cond.code (⟨"com/example/cairn/cairn/graph/ChangedPathsVersionOfPinLaw", "check", "(I)Z"⟩ : MethodName) method_3_code 2 (some .boolean) :: ws) ({ frames := 3, cells := 1, slots := 2, locals := 41 } : Room)) (fun aα U => aα = #[(.int xx)] ∧ Z.Warmed39 U.vm ∧ U.heap = h0) (fun _ _ _ _ _ => True) (fun _ U oα U' => ∃ vα Lα, oα = .returned vα ∧ Q1 Z xx va kc v1 v2 h0 n0 vα U'.heap Lα ∧ FrameEnd U oα U' Lα ({ frames := 3, cells := 1, slots := 2, locals := 41 } : Room).cells ({ frames := 3, cells := 1, slots := 2, locals := 41 } : Room).slots) := by
  refine MetFree.of_bodySF (plainFor_of_name pn_1) hisR ?_
  intro p e s m args below meth c s₁ Bd hml0 hP hK
  refine own_wrap ?_
  intro GL hGL
  obtain ⟨rfl, hZ, hh⟩ := hP
  have hx := Bd.exec
  have hby := Bd.bytes
  have hml : c.maxLocals = 2 := hml0
  have hown : s.vm.findClass "com/example/cairn/cairn/graph/ChangedPathsVersionOfPinLaw" = some m.cls := findClass_of_methodNamed Bd.named
  have hnm := (name_of_methodNamed Bd.named Bd.method).1
  have X0 : Stand p l e ({ frames := 3, cells := 1, slots := 2, locals := 41 } : Room) s m #[(.int xx)] below meth c s₁ [] 0 0 := Stand.of_body Bd
  have e0 : s₁.heap = h0 := by rw [← hh, Bd.state]; rfl
  have N0 := Fr.nil n0
  have pre0 : ∀ τ, Steps p.tables e below (s₁.setTop (mkF m 0 #[.val (.int xx), .unset] [])) τ → Steps p.tables e below (s₁.setTop (entryFrame m #[(.int xx)] 2)) τ := fun τ κ => castTop (ef_1 m xx) κ
  obtain ⟨G, hG, pre⟩ : ∃ G : State → Prop, (∀ τ, G τ → Steps p.tables e below (s₁.setTop (entryFrame m #[(.int xx)] 2)) τ) ∧ ∀ τ, Steps p.tables e below (s₁.setTop (mkF m 0 #[.val (.int xx), .unset] [])) τ → G τ := ⟨_, pre0, fun _ k => k⟩
  have K : Keep h0 h0 [] := Keep.refl h0 _
  have Zn := Z0
  rcases own_three xx with h1 | ⟨h1, h2⟩ | ⟨h1, h2⟩
  ·
    have pre : ∀ τ, Steps p.tables e below (s₁.setTop (mkF m 1 #[.val (.int xx), .unset] [(.int xx)])) τ → G τ := fun τ κ => pre τ (by
      refine XS.iloadN X0.here hx rfl (hb hby d1_0) rfl ?_
      show Steps p.tables e below (s₁.setTop (mkF m 1 #[.val (.int xx), .unset] [(.int xx)])) τ
      exact κ)
    obtain ⟨_, _, ⟨T1, Lx1, kx1, nx1⟩, -, X1, ⟨Lc1, hQ1, l1, y1, z1⟩, st1⟩ := Jvm.LawKit.callS X0 hx (y := (⟨"com/example/cairn/cairn/graph/ChangedPathsVersion", "of", "(I)Lcom/example/cairn/cairn/graph/ChangedPathsVersion;"⟩ : MethodName)) hown (mvT hZ (hw _ (List.mem_of_getElem? (i := 4) rfl))) (mvT hZ (hw _ (List.mem_of_getElem? (i := 5) rfl))) (mvT hZ (hw _ (List.mem_of_getElem? (i := 6) rfl))) (mvT hZ (hw _ (List.mem_of_getElem? (i := 7) rfl))) (by decide) (backOf (W := 0) (rm2a l Z a0 hw [] xx va kc v1 v2 h0 n0 Zn S_va V_va E_va F_n1 F_n2 h1) hZ (hw _ (List.mem_of_getElem? (i := 7) rfl)) (hw _ (List.mem_of_getElem? (i := 6) rfl)) (by decide) (by decide)) (g := (mkF m 1 #[.val (.int xx), .unset] [(.int xx)])) rfl (by rw [hml]; rfl) (argsL := [(.int xx)]) (rest := []) (lenOf pd_1 rfl) rfl (by show 2 * 0 + _ ≤ _; exact Nat.le_of_eq rfl) (hb hby d1_1) (fun _ _ => ⟨rfl, e0, (by decide : 0 + 1 ≤ _), (by decide : 0 + 2 ≤ _)⟩)
    dsimp only [Pt.U, Pt.locs, Pt.cells, Pt.slots] at X1 l1 y1 z1 st1 hQ1
    replace y1 : kx1 = 1 := y1
    replace z1 : nx1 = 2 := z1
    subst y1 z1
    obtain ⟨rfl, Nq1, Kc1⟩ := hQ1
    have NN : Fr n0 Lx1 := by rw [l1]; exact Fr.app N0 Nq1
    have S_va : Sta Z T1.heap "com/example/cairn/cairn/graph/ChangedPathsVersion" "$VALUES" "[Lcom/example/cairn/cairn/graph/ChangedPathsVersion;" (.ref va) := own_sta_keep S_va Kc1
    have V_va : Arv Z T1.heap va kc (.object "com/example/cairn/cairn/graph/ChangedPathsVersion") (2 : Int32) [(.ref v1), (.ref v2)] .null := V_va.keep Kc1 nin0
    have E_va : Exa Z T1.heap va "[Lcom/example/cairn/cairn/graph/ChangedPathsVersion;" := E_va.keep Kc1
    have F_n1 : Fld Z T1.heap v1 "com/example/cairn/cairn/graph/ChangedPathsVersion" "number" "I" (.int (1 : Int32)) := F_n1.keep Kc1 nin0
    have F_n2 : Fld Z T1.heap v2 "com/example/cairn/cairn/graph/ChangedPathsVersion" "number" "I" (.int (2 : Int32)) := F_n2.keep Kc1 nin0
    have S_v1 : Sta Z T1.heap "com/example/cairn/cairn/graph/ChangedPathsVersion" "V1" "Lcom/example/cairn/cairn/graph/ChangedPathsVersion;" (.ref v1) := own_sta_keep S_v1 Kc1
    have S_v2 : Sta Z T1.heap "com/example/cairn/cairn/graph/ChangedPathsVersion" "V2" "Lcom/example/cairn/cairn/graph/ChangedPathsVersion;" (.ref v2) := own_sta_keep S_v2 Kc1
    have Zn : n0 ≤ T1.heap.size := Nat.le_trans Zn Kc1.1
    have K : Keep h0 T1.heap [] := K.trans Kc1 all0
    have pre : ∀ τ, Steps p.tables e below (T1.setTop (mkF m 4 #[.val (.int xx), .unset] [(.ref v1)])) τ → G τ := fun τ κ => pre τ (st1 τ κ)
    have pre : ∀ τ, Steps p.tables e below (T1.setTop (mkF m 7 #[.val (.int xx), .val (.ref v1)] [(.int (1 : Int32)), (.int xx)])) τ → G τ := fun τ κ => pre τ (by
      refine XS.astoreN X1.here hx rfl (hb hby d1_4) rfl rfl (l' := #[.val (.int xx), .val (.ref v1)]) rfl ?_
      show Steps p.tables e below (T1.setTop (mkF m 5 #[.val (.int xx), .val (.ref v1)] [])) τ
      refine XS.iloadN X1.here hx rfl (hb hby d1_5) rfl ?_
      show Steps p.tables e below (T1.setTop (mkF m 6 #[.val (.int xx), .val (.ref v1)] [(.int xx)])) τ
      refine XS.iconst X1.here hx rfl (hb hby d1_6) ?_
      show Steps p.tables e below (T1.setTop (mkF m 7 #[.val (.int xx), .val (.ref v1)] [(.int (1 : Int32)), (.int xx)])) τ
      exact κ)
    have hc2 : xx = (1 : Int32) := h1.symm
    have pre : ∀ τ, Steps p.tables e below (T1.setTop (mkF m 11 #[.val (.int xx), .val (.ref v1)] [(.ref v1)])) τ → G τ := fun τ κ => pre τ (by
      refine XS.icmpNo X1.here hx rfl (hb hby d1_7) rfl (teq hc2).2 ?_
      show Steps p.tables e below (T1.setTop (mkF m 10 #[.val (.int xx), .val (.ref v1)] [])) τ
      refine XS.aloadN X1.here hx rfl (hb hby d1_10) rfl rfl ?_
      show Steps p.tables e below (T1.setTop (mkF m 11 #[.val (.int xx), .val (.ref v1)] [(.ref v1)])) τ
      exact κ)
    obtain ⟨T3, X3, e3, st3⟩ := getS2 X1 hx hZ hown (host := "") (Or.inl (hw _ (List.mem_of_getElem? (i := 27) rfl))) Via.refl rfl S_v1 (g := (mkF m 11 #[.val (.int xx), .val (.ref v1)] [(.ref v1)])) rfl (hb hby d1_11)
    have pre : ∀ τ, Steps p.tables e below (T3.setTop (mkF m 14 #[.val (.int xx), .val (.ref v1)] [(.ref v1), (.ref v1)])) τ → G τ := fun τ κ => pre τ (st3 τ κ)
    have pre : ∀ τ, Steps p.tables e below (T3.setTop (mkF m 22 #[.val (.int xx), .val (.ref v1)] [(.int (1 : Int32))])) τ → G τ := fun τ κ => pre τ (by
      refine Jvm.RoadKit.acmp (g := (mkF m 14 #[.val (.int xx), .val (.ref v1)] [(.ref v1), (.ref v1)])) X3 hx rfl rfl rfl (pc0 := 14) (pc' := 17) (same := true) rfl (hb hby d1_14) rfl (decide_eq_true (congrArg Value.ref rfl)) (by decide) (by decide) ?_
      show Steps p.tables e below (T3.setTop (mkF m 17 #[.val (.int xx), .val (.ref v1)] [])) τ
      refine XS.iconst X3.here hx rfl (hb hby d1_17) ?_
      show Steps p.tables e below (T3.setTop (mkF m 18 #[.val (.int xx), .val (.ref v1)] [(.int (1 : Int32))])) τ
      refine XS.goto X3.here hx rfl (pc0 := 18) (pc' := 22) rfl (hb hby d1_18) (by decide) (by decide) ?_
      show Steps p.tables e below (T3.setTop (mkF m 22 #[.val (.int xx), .val (.ref v1)] [(.int (1 : Int32))])) τ
      exact κ)
    obtain ⟨fsα, hr, hrun, hended, hW, hsame⟩ := X3.leave (v := some (.int (1 : Int32))) (fun h => by rw [Bd.returns] at h; cases h)
    refine hGL ⟨_, _, hG _ (pre _ ?_), hrun, hended, _, _, rfl, ?_, ⟨_, rfl⟩, hW, hsame.mono (by decide) (by decide)⟩
    · exact retN X3 hx (t := .boolean) Bd.returns (by simp) (hb hby d1_22) hr
    · show Q1 Z xx va kc v1 v2 h0 n0 _ T3.heap _
      rw [e3]
      exact ⟨rfl, NN, K⟩
  ·
    have pre : ∀ τ, Steps p.tables e below (s₁.setTop (mkF m 1 #[.val (.int xx), .unset] [(.int xx)])) τ → G τ := fun τ κ => pre τ (by
      refine XS.iloadN X0.here hx rfl (hb hby d1_0) rfl ?_
      show Steps p.tables e below (s₁.setTop (mkF m 1 #[.val (.int xx), .unset] [(.int xx)])) τ
      exact κ)
    obtain ⟨_, _, ⟨T4, Lx4, kx4, nx4⟩, -, X4, ⟨Lc4, hQ4, l4, y4, z4⟩, st4⟩ := Jvm.LawKit.callS X0 hx (y := (⟨"com/example/cairn/cairn/graph/ChangedPathsVersion", "of", "(I)Lcom/example/cairn/cairn/graph/ChangedPathsVersion;"⟩ : MethodName)) hown (mvT hZ (hw _ (List.mem_of_getElem? (i := 4) rfl))) (mvT hZ (hw _ (List.mem_of_getElem? (i := 5) rfl))) (mvT hZ (hw _ (List.mem_of_getElem? (i := 6) rfl))) (mvT hZ (hw _ (List.mem_of_getElem? (i := 7) rfl))) (by decide) (backOf (W := 0) (rm2b l Z a0 hw [] xx va kc v1 v2 h0 n0 Zn S_va V_va E_va F_n1 F_n2 h1 h2) hZ (hw _ (List.mem_of_getElem? (i := 7) rfl)) (hw _ (List.mem_of_getElem? (i := 6) rfl)) (by decide) (by decide)) (g := (mkF m 1 #[.val (.int xx), .unset] [(.int xx)])) rfl (by rw [hml]; rfl) (argsL := [(.int xx)]) (rest := []) (lenOf pd_1 rfl) rfl (by show 2 * 0 + _ ≤ _; exact Nat.le_of_eq rfl) (hb hby d1_1) (fun _ _ => ⟨rfl, e0, (by decide : 0 + 1 ≤ _), (by decide : 0 + 2 ≤ _)⟩)
    dsimp only [Pt.U, Pt.locs, Pt.cells, Pt.slots] at X4 l4 y4 z4 st4 hQ4
    replace y4 : kx4 = 1 := y4
    replace z4 : nx4 = 2 := z4
    subst y4 z4
    obtain ⟨rfl, Nq4, Kc4⟩ := hQ4
    have NN : Fr n0 Lx4 := by rw [l4]; exact Fr.app N0 Nq4
    have S_va : Sta Z T4.heap "com/example/cairn/cairn/graph/ChangedPathsVersion" "$VALUES" "[Lcom/example/cairn/cairn/graph/ChangedPathsVersion;" (.ref va) := own_sta_keep S_va Kc4
    have V_va : Arv Z T4.heap va kc (.object "com/example/cairn/cairn/graph/ChangedPathsVersion") (2 : Int32) [(.ref v1), (.ref v2)] .null := V_va.keep Kc4 nin0
    have E_va : Exa Z T4.heap va "[Lcom/example/cairn/cairn/graph/ChangedPathsVersion;" := E_va.keep Kc4
    have F_n1 : Fld Z T4.heap v1 "com/example/cairn/cairn/graph/ChangedPathsVersion" "number" "I" (.int (1 : Int32)) := F_n1.keep Kc4 nin0
    have F_n2 : Fld Z T4.heap v2 "com/example/cairn/cairn/graph/ChangedPathsVersion" "number" "I" (.int (2 : Int32)) := F_n2.keep Kc4 nin0
    have S_v1 : Sta Z T4.heap "com/example/cairn/cairn/graph/ChangedPathsVersion" "V1" "Lcom/example/cairn/cairn/graph/ChangedPathsVersion;" (.ref v1) := own_sta_keep S_v1 Kc4
    have S_v2 : Sta Z T4.heap "com/example/cairn/cairn/graph/ChangedPathsVersion" "V2" "Lcom/example/cairn/cairn/graph/ChangedPathsVersion;" (.ref v2) := own_sta_keep S_v2 Kc4
    have Zn : n0 ≤ T4.heap.size := Nat.le_trans Zn Kc4.1
    have K : Keep h0 T4.heap [] := K.trans Kc4 all0
    have pre : ∀ τ, Steps p.tables e below (T4.setTop (mkF m 4 #[.val (.int xx), .unset] [(.ref v2)])) τ → G τ := fun τ κ => pre τ (st4 τ κ)
    have pre : ∀ τ, Steps p.tables e below (T4.setTop (mkF m 7 #[.val (.int xx), .val (.ref v2)] [(.int (1 : Int32)), (.int xx)])) τ → G τ := fun τ κ => pre τ (by
      refine XS.astoreN X4.here hx rfl (hb hby d1_4) rfl rfl (l' := #[.val (.int xx), .val (.ref v2)]) rfl ?_
      show Steps p.tables e below (T4.setTop (mkF m 5 #[.val (.int xx), .val (.ref v2)] [])) τ
      refine XS.iloadN X4.here hx rfl (hb hby d1_5) rfl ?_
      show Steps p.tables e below (T4.setTop (mkF m 6 #[.val (.int xx), .val (.ref v2)] [(.int xx)])) τ
      refine XS.iconst X4.here hx rfl (hb hby d1_6) ?_
      show Steps p.tables e below (T4.setTop (mkF m 7 #[.val (.int xx), .val (.ref v2)] [(.int (1 : Int32)), (.int xx)])) τ
      exact κ)
    have hc5 : ¬ (xx = (1 : Int32)) := (fun q => h1 q.symm)
    have pre : ∀ τ, Steps p.tables e below (T4.setTop (mkF m 25 #[.val (.int xx), .val (.ref v2)] [(.int (2 : Int32)), (.int xx)])) τ → G τ := fun τ κ => pre τ (by
      refine XS.icmpYes X4.here hx rfl (pc0 := 7) (pc' := 23) rfl (hb hby d1_7) rfl (feq hc5).2 (by decide) (by decide) ?_
      show Steps p.tables e below (T4.setTop (mkF m 23 #[.val (.int xx), .val (.ref v2)] [])) τ
      refine XS.iloadN X4.here hx rfl (hb hby d1_23) rfl ?_
      show Steps p.tables e below (T4.setTop (mkF m 24 #[.val (.int xx), .val (.ref v2)] [(.int xx)])) τ
      refine XS.iconst X4.here hx rfl (hb hby d1_24) ?_
      show Steps p.tables e below (T4.setTop (mkF m 25 #[.val (.int xx), .val (.ref v2)] [(.int (2 : Int32)), (.int xx)])) τ
      exact κ)
    have hc6 : xx = (2 : Int32) := h2.symm
    have pre : ∀ τ, Steps p.tables e below (T4.setTop (mkF m 29 #[.val (.int xx), .val (.ref v2)] [(.ref v2)])) τ → G τ := fun τ κ => pre τ (by
      refine XS.icmpNo X4.here hx rfl (hb hby d1_25) rfl (teq hc6).2 ?_
      show Steps p.tables e below (T4.setTop (mkF m 28 #[.val (.int xx), .val (.ref v2)] [])) τ
      refine XS.aloadN X4.here hx rfl (hb hby d1_28) rfl rfl ?_
      show Steps p.tables e below (T4.setTop (mkF m 29 #[.val (.int xx), .val (.ref v2)] [(.ref v2)])) τ
      exact κ)
    obtain ⟨T7, X7, e7, st7⟩ := getS2 X4 hx hZ hown (host := "") (Or.inl (hw _ (List.mem_of_getElem? (i := 33) rfl))) Via.refl rfl S_v2 (g := (mkF m 29 #[.val (.int xx), .val (.ref v2)] [(.ref v2)])) rfl (hb hby d1_29)
    have pre : ∀ τ, Steps p.tables e below (T7.setTop (mkF m 32 #[.val (.int xx), .val (.ref v2)] [(.ref v2), (.ref v2)])) τ → G τ := fun τ κ => pre τ (st7 τ κ)
    have pre : ∀ τ, Steps p.tables e below (T7.setTop (mkF m 40 #[.val (.int xx), .val (.ref v2)] [(.int (1 : Int32))])) τ → G τ := fun τ κ => pre τ (by
      refine Jvm.RoadKit.acmp (g := (mkF m 32 #[.val (.int xx), .val (.ref v2)] [(.ref v2), (.ref v2)])) X7 hx rfl rfl rfl (pc0 := 32) (pc' := 35) (same := true) rfl (hb hby d1_32) rfl (decide_eq_true (congrArg Value.ref rfl)) (by decide) (by decide) ?_
      show Steps p.tables e below (T7.setTop (mkF m 35 #[.val (.int xx), .val (.ref v2)] [])) τ
      refine XS.iconst X7.here hx rfl (hb hby d1_35) ?_
      show Steps p.tables e below (T7.setTop (mkF m 36 #[.val (.int xx), .val (.ref v2)] [(.int (1 : Int32))])) τ
      refine XS.goto X7.here hx rfl (pc0 := 36) (pc' := 40) rfl (hb hby d1_36) (by decide) (by decide) ?_
      show Steps p.tables e below (T7.setTop (mkF m 40 #[.val (.int xx), .val (.ref v2)] [(.int (1 : Int32))])) τ
      exact κ)
    obtain ⟨fsα, hr, hrun, hended, hW, hsame⟩ := X7.leave (v := some (.int (1 : Int32))) (fun h => by rw [Bd.returns] at h; cases h)
    refine hGL ⟨_, _, hG _ (pre _ ?_), hrun, hended, _, _, rfl, ?_, ⟨_, rfl⟩, hW, hsame.mono (by decide) (by decide)⟩
    · exact retN X7 hx (t := .boolean) Bd.returns (by simp) (hb hby d1_40) hr
    · show Q1 Z xx va kc v1 v2 h0 n0 _ T7.heap _
      rw [e7]
      exact ⟨rfl, NN, K⟩
  ·
    have pre : ∀ τ, Steps p.tables e below (s₁.setTop (mkF m 1 #[.val (.int xx), .unset] [(.int xx)])) τ → G τ := fun τ κ => pre τ (by
      refine XS.iloadN X0.here hx rfl (hb hby d1_0) rfl ?_
      show Steps p.tables e below (s₁.setTop (mkF m 1 #[.val (.int xx), .unset] [(.int xx)])) τ
      exact κ)
    obtain ⟨_, _, ⟨T8, Lx8, kx8, nx8⟩, -, X8, ⟨Lc8, hQ8, l8, y8, z8⟩, st8⟩ := Jvm.LawKit.callS X0 hx (y := (⟨"com/example/cairn/cairn/graph/ChangedPathsVersion", "of", "(I)Lcom/example/cairn/cairn/graph/ChangedPathsVersion;"⟩ : MethodName)) hown (mvT hZ (hw _ (List.mem_of_getElem? (i := 4) rfl))) (mvT hZ (hw _ (List.mem_of_getElem? (i := 5) rfl))) (mvT hZ (hw _ (List.mem_of_getElem? (i := 6) rfl))) (mvT hZ (hw _ (List.mem_of_getElem? (i := 7) rfl))) (by decide) (backOf (W := 0) (rm2n l Z a0 hw [] xx va kc v1 v2 h0 n0 Zn S_va V_va E_va F_n1 F_n2 h1 h2) hZ (hw _ (List.mem_of_getElem? (i := 7) rfl)) (hw _ (List.mem_of_getElem? (i := 6) rfl)) (by decide) (by decide)) (g := (mkF m 1 #[.val (.int xx), .unset] [(.int xx)])) rfl (by rw [hml]; rfl) (argsL := [(.int xx)]) (rest := []) (lenOf pd_1 rfl) rfl (by show 2 * 0 + _ ≤ _; exact Nat.le_of_eq rfl) (hb hby d1_1) (fun _ _ => ⟨rfl, e0, (by decide : 0 + 1 ≤ _), (by decide : 0 + 2 ≤ _)⟩)
    dsimp only [Pt.U, Pt.locs, Pt.cells, Pt.slots] at X8 l8 y8 z8 st8 hQ8
    replace y8 : kx8 = 1 := y8
    replace z8 : nx8 = 2 := z8
    subst y8 z8
    obtain ⟨rfl, Nq8, Kc8⟩ := hQ8
    have NN : Fr n0 Lx8 := by rw [l8]; exact Fr.app N0 Nq8
    have S_va : Sta Z T8.heap "com/example/cairn/cairn/graph/ChangedPathsVersion" "$VALUES" "[Lcom/example/cairn/cairn/graph/ChangedPathsVersion;" (.ref va) := own_sta_keep S_va Kc8
    have V_va : Arv Z T8.heap va kc (.object "com/example/cairn/cairn/graph/ChangedPathsVersion") (2 : Int32) [(.ref v1), (.ref v2)] .null := V_va.keep Kc8 nin0
    have E_va : Exa Z T8.heap va "[Lcom/example/cairn/cairn/graph/ChangedPathsVersion;" := E_va.keep Kc8
    have F_n1 : Fld Z T8.heap v1 "com/example/cairn/cairn/graph/ChangedPathsVersion" "number" "I" (.int (1 : Int32)) := F_n1.keep Kc8 nin0
    have F_n2 : Fld Z T8.heap v2 "com/example/cairn/cairn/graph/ChangedPathsVersion" "number" "I" (.int (2 : Int32)) := F_n2.keep Kc8 nin0
    have S_v1 : Sta Z T8.heap "com/example/cairn/cairn/graph/ChangedPathsVersion" "V1" "Lcom/example/cairn/cairn/graph/ChangedPathsVersion;" (.ref v1) := own_sta_keep S_v1 Kc8
    have S_v2 : Sta Z T8.heap "com/example/cairn/cairn/graph/ChangedPathsVersion" "V2" "Lcom/example/cairn/cairn/graph/ChangedPathsVersion;" (.ref v2) := own_sta_keep S_v2 Kc8
    have Zn : n0 ≤ T8.heap.size := Nat.le_trans Zn Kc8.1
    have K : Keep h0 T8.heap [] := K.trans Kc8 all0
    have pre : ∀ τ, Steps p.tables e below (T8.setTop (mkF m 4 #[.val (.int xx), .unset] [.null])) τ → G τ := fun τ κ => pre τ (st8 τ κ)
    have pre : ∀ τ, Steps p.tables e below (T8.setTop (mkF m 7 #[.val (.int xx), .val .null] [(.int (1 : Int32)), (.int xx)])) τ → G τ := fun τ κ => pre τ (by
      refine XS.astoreN X8.here hx rfl (hb hby d1_4) rfl rfl (l' := #[.val (.int xx), .val .null]) rfl ?_
      show Steps p.tables e below (T8.setTop (mkF m 5 #[.val (.int xx), .val .null] [])) τ
      refine XS.iloadN X8.here hx rfl (hb hby d1_5) rfl ?_
      show Steps p.tables e below (T8.setTop (mkF m 6 #[.val (.int xx), .val .null] [(.int xx)])) τ
      refine XS.iconst X8.here hx rfl (hb hby d1_6) ?_
      show Steps p.tables e below (T8.setTop (mkF m 7 #[.val (.int xx), .val .null] [(.int (1 : Int32)), (.int xx)])) τ
      exact κ)
    have hc9 : ¬ (xx = (1 : Int32)) := (fun q => h1 q.symm)
    have pre : ∀ τ, Steps p.tables e below (T8.setTop (mkF m 25 #[.val (.int xx), .val .null] [(.int (2 : Int32)), (.int xx)])) τ → G τ := fun τ κ => pre τ (by
      refine XS.icmpYes X8.here hx rfl (pc0 := 7) (pc' := 23) rfl (hb hby d1_7) rfl (feq hc9).2 (by decide) (by decide) ?_
      show Steps p.tables e below (T8.setTop (mkF m 23 #[.val (.int xx), .val .null] [])) τ
      refine XS.iloadN X8.here hx rfl (hb hby d1_23) rfl ?_
      show Steps p.tables e below (T8.setTop (mkF m 24 #[.val (.int xx), .val .null] [(.int xx)])) τ
      refine XS.iconst X8.here hx rfl (hb hby d1_24) ?_
      show Steps p.tables e below (T8.setTop (mkF m 25 #[.val (.int xx), .val .null] [(.int (2 : Int32)), (.int xx)])) τ
      exact κ)
    have hc10 : ¬ (xx = (2 : Int32)) := (fun q => h2 q.symm)
    have pre : ∀ τ, Steps p.tables e below (T8.setTop (mkF m 42 #[.val (.int xx), .val .null] [.null])) τ → G τ := fun τ κ => pre τ (by
      refine XS.icmpYes X8.here hx rfl (pc0 := 25) (pc' := 41) rfl (hb hby d1_25) rfl (feq hc10).2 (by decide) (by decide) ?_
      show Steps p.tables e below (T8.setTop (mkF m 41 #[.val (.int xx), .val .null] [])) τ
      refine XS.aloadN X8.here hx rfl (hb hby d1_41) rfl rfl ?_
      show Steps p.tables e below (T8.setTop (mkF m 42 #[.val (.int xx), .val .null] [.null])) τ
      exact κ)
    have pre : ∀ τ, Steps p.tables e below (T8.setTop (mkF m 50 #[.val (.int xx), .val .null] [(.int (1 : Int32))])) τ → G τ := fun τ κ => pre τ (by
      refine XS.ifnonnullNo X8.here hx rfl (hb hby d1_42) rfl ?_
      show Steps p.tables e below (T8.setTop (mkF m 45 #[.val (.int xx), .val .null] [])) τ
      refine XS.iconst X8.here hx rfl (hb hby d1_45) ?_
      show Steps p.tables e below (T8.setTop (mkF m 46 #[.val (.int xx), .val .null] [(.int (1 : Int32))])) τ
      refine XS.goto X8.here hx rfl (pc0 := 46) (pc' := 50) rfl (hb hby d1_46) (by decide) (by decide) ?_
      show Steps p.tables e below (T8.setTop (mkF m 50 #[.val (.int xx), .val .null] [(.int (1 : Int32))])) τ
      exact κ)
    obtain ⟨fsα, hr, hrun, hended, hW, hsame⟩ := X8.leave (v := some (.int (1 : Int32))) (fun h => by rw [Bd.returns] at h; cases h)
    refine hGL ⟨_, _, hG _ (pre _ ?_), hrun, hended, _, _, rfl, ?_, ⟨_, rfl⟩, hW, hsame.mono (by decide) (by decide)⟩
    · exact retN X8 hx (t := .boolean) Bd.returns (by simp) (hb hby d1_50) hr
    · show Q1 Z xx va kc v1 v2 h0 n0 _ T8.heap _
      exact ⟨rfl, NN, K⟩
theorem d4_0 : decode prog_7_method_4_code 0 = .ok (.aload_n 0, 1) := by decide +kernel
theorem d4_1 : decode prog_7_method_4_code 1 = .ok (.getfield 29, 3) := by decide +kernel
theorem d4_4 : decode prog_7_method_4_code 4 = .ok (.ireturn, 1) := by decide +kernel
theorem ef_4 (m : MethodId) (x0 : Addr) : entryFrame m #[(.ref x0)] 1 = mkF m 0 #[.val (.ref x0)] [] := by first | (simp [entryFrame, mkF, argsToLocals, Value.category]; done) | rfl
def Q4 (Z : State) (o : Addr) (u : Int32) (h0 : Heap) (n0 : Nat) (vα : Option Value) (hα : Heap) (Lα : List Loc) : Prop := vα = some (.int u) ∧ Fr n0 Lα ∧ hα = h0
set_option maxRecDepth 65536 in
set_option maxHeartbeats 40000000 in
theorem rm4 (l : Launch) (Z : State) (a0 : Array Value) (hw : ∀ d ∈ tables_1, d.before a0 Z = true) (ws : List Jvm.Cond) (o : Addr) (u : Int32) (h0 : Heap) (n0 : Nat) (Z0 : n0 ≤ h0.size) (F_u : Fld Z h0 o "com/example/cairn/cairn/graph/ChangedPathsVersion" "number" "I" (.int u)) :
    MetFree l (⟨"com/example/cairn/cairn/graph/ChangedPathsVersion", "number", "()I"⟩ : MethodName) (head1 (Jvm.Cond.code (⟨"com/example/cairn/cairn/graph/ChangedPathsVersion", "number", "()I"⟩ : MethodName) prog_7_method_4_code 1 (some .int) :: ws) ({ frames := 0, cells := 0, slots := 0, locals := 0 } : Room)) (fun aα U => aα = #[(.ref o)] ∧ Z.Warmed39 U.vm ∧ U.heap = h0) (fun _ _ _ _ _ => True) (fun _ U oα U' => ∃ vα Lα, oα = .returned vα ∧ Q4 Z o u h0 n0 vα U'.heap Lα ∧ FrameEnd U oα U' Lα ({ frames := 0, cells := 0, slots := 0, locals := 0 } : Room).cells ({ frames := 0, cells := 0, slots := 0, locals := 0 } : Room).slots) := by
  refine MetFree.of_bodySF (plainFor_of_name pn_0) hisR ?_
  intro p e s m args below meth c s₁ Bd hml0 hP hK
  refine own_wrap ?_
  intro GL hGL
  obtain ⟨rfl, hZ, hh⟩ := hP
  have hx := Bd.exec
  have hby := Bd.bytes
  have hml : c.maxLocals = 1 := hml0
  have hown : s.vm.findClass "com/example/cairn/cairn/graph/ChangedPathsVersion" = some m.cls := findClass_of_methodNamed Bd.named
  have hnm := (name_of_methodNamed Bd.named Bd.method).1
  have X0 : Stand p l e ({ frames := 0, cells := 0, slots := 0, locals := 0 } : Room) s m #[(.ref o)] below meth c s₁ [] 0 0 := Stand.of_body Bd
  have e0 : s₁.heap = h0 := by rw [← hh, Bd.state]; rfl
  have N0 := Fr.nil n0
  have pre0 : ∀ τ, Steps p.tables e below (s₁.setTop (mkF m 0 #[.val (.ref o)] [])) τ → Steps p.tables e below (s₁.setTop (entryFrame m #[(.ref o)] 1)) τ := fun τ κ => castTop (ef_4 m o) κ
  obtain ⟨G, hG, pre⟩ : ∃ G : State → Prop, (∀ τ, G τ → Steps p.tables e below (s₁.setTop (entryFrame m #[(.ref o)] 1)) τ) ∧ ∀ τ, Steps p.tables e below (s₁.setTop (mkF m 0 #[.val (.ref o)] [])) τ → G τ := ⟨_, pre0, fun _ k => k⟩
  have K : Keep h0 h0 [] := Keep.refl h0 _
  have Zn := Z0
  have pre : ∀ τ, Steps p.tables e below (s₁.setTop (mkF m 1 #[.val (.ref o)] [(.ref o)])) τ → G τ := fun τ κ => pre τ (by
    refine XS.aloadN X0.here hx rfl (hb hby d4_0) rfl rfl ?_
    show Steps p.tables e below (s₁.setTop (mkF m 1 #[.val (.ref o)] [(.ref o)])) τ
    exact κ)
  obtain ⟨T1, X1, e1, st1⟩ := getF X0 hx hZ hown (host := "") (Or.inl (hw _ (List.mem_of_getElem? (i := 25) rfl))) Via.refl e0 F_u (g := (mkF m 1 #[.val (.ref o)] [(.ref o)])) rfl rfl (hb hby d4_1)
  have pre : ∀ τ, Steps p.tables e below (T1.setTop (mkF m 4 #[.val (.ref o)] [(.int u)])) τ → G τ := fun τ κ => pre τ (st1 τ κ)
  obtain ⟨fsα, hr, hrun, hended, hW, hsame⟩ := X1.leave (v := some (.int u)) (fun h => by rw [Bd.returns] at h; cases h)
  refine hGL ⟨_, _, hG _ (pre _ ?_), hrun, hended, _, _, rfl, ?_, ⟨_, rfl⟩, hW, hsame.mono (by decide) (by decide)⟩
  · exact retOut X1 hx Bd.returns rfl (Or.inl ⟨rfl, Or.inl rfl, _, rfl⟩) (hb hby d4_4) hr
  · show Q4 Z o u h0 n0 _ T1.heap _
    rw [e1]
    exact ⟨rfl, N0, rfl⟩
theorem pd_2 : parseMethodDescriptor "(I)Z" = some ⟨[.int], some .boolean⟩ := by decide +kernel
theorem pd_3 : parseMethodDescriptor "()I" = some ⟨[], some .int⟩ := by decide +kernel
theorem ef_0 (m : MethodId) (x0 : Int32) (x1 : Int32) : entryFrame m #[(.int x0), (.int x1)] maxLocals = mkF m 0 #[.val (.int x0), .val (.int x1), .unset, .unset, .unset, .unset, .unset] [] := by first | (simp [entryFrame, mkF, argsToLocals, Value.category, maxLocals]; done) | rfl
def Q0 (Z : State) (p1 : Int32) (p2 : Int32) (va : Addr) (kc : ClassId) (v1 : Addr) (v2 : Addr) (h0 : Heap) (n0 : Nat) (vα : Option Value) (hα : Heap) (Lα : List Loc) : Prop := vα = some (.int (1 : Int32)) ∧ Fr n0 Lα
set_option maxRecDepth 65536 in
set_option maxHeartbeats 40000000 in
theorem rm0 (l : Launch) (Z : State) (a0 : Array Value) (hw : ∀ d ∈ tables_1, d.before a0 Z = true) (ws : List Jvm.Cond) (p1 : Int32) (p2 : Int32) (va : Addr) (kc : ClassId) (v1 : Addr) (v2 : Addr) (h0 : Heap) (n0 : Nat) (Z0 : n0 ≤ h0.size) (S_va : Sta Z h0 "com/example/cairn/cairn/graph/ChangedPathsVersion" "$VALUES" "[Lcom/example/cairn/cairn/graph/ChangedPathsVersion;" (.ref va)) (V_va : Arv Z h0 va kc (.object "com/example/cairn/cairn/graph/ChangedPathsVersion") (2 : Int32) [(.ref v1), (.ref v2)] .null) (E_va : Exa Z h0 va "[Lcom/example/cairn/cairn/graph/ChangedPathsVersion;") (F_n1 : Fld Z h0 v1 "com/example/cairn/cairn/graph/ChangedPathsVersion" "number" "I" (.int (1 : Int32))) (F_n2 : Fld Z h0 v2 "com/example/cairn/cairn/graph/ChangedPathsVersion" "number" "I" (.int (2 : Int32))) (S_v1 : Sta Z h0 "com/example/cairn/cairn/graph/ChangedPathsVersion" "V1" "Lcom/example/cairn/cairn/graph/ChangedPathsVersion;" (.ref v1)) (S_v2 : Sta Z h0 "com/example/cairn/cairn/graph/ChangedPathsVersion" "V2" "Lcom/example/cairn/cairn/graph/ChangedPathsVersion;" (.ref v2)) (E_v1 : Exa Z h0 v1 "com/example/cairn/cairn/graph/ChangedPathsVersion") (E_v2 : Exa Z h0 v2 "com/example/cairn/cairn/graph/ChangedPathsVersion") :
    MetFree l x (head1 (Jvm.Cond.code x code maxLocals ret :: ws) room_1) (fun aα U => aα = #[(.int p1), (.int p2)] ∧ Z.Warmed39 U.vm ∧ U.heap = h0) (fun _ _ _ _ _ => True) (fun _ U oα U' => ∃ vα Lα, oα = .returned vα ∧ Q0 Z p1 p2 va kc v1 v2 h0 n0 vα U'.heap Lα ∧ FrameEnd U oα U' Lα room_1.cells room_1.slots) := by
  refine MetFree.of_bodySF (plainFor_of_name pn_1) hisR ?_
  intro p e s m args below meth c s₁ Bd hml0 hP hK
  refine own_wrap ?_
  intro GL hGL
  obtain ⟨rfl, hZ, hh⟩ := hP
  have hx := Bd.exec
  have hby := Bd.bytes
  have hml : c.maxLocals = 7 := hml0
  have hown : s.vm.findClass "com/example/cairn/cairn/graph/ChangedPathsVersionOfPinLaw" = some m.cls := findClass_of_methodNamed Bd.named
  have hnm := (name_of_methodNamed Bd.named Bd.method).1
  have X0 : Stand p l e room_1 s m #[(.int p1), (.int p2)] below meth c s₁ [] 0 0 := Stand.of_body Bd
  have e0 : s₁.heap = h0 := by rw [← hh, Bd.state]; rfl
  have N0 := Fr.nil n0
  have pre0 : ∀ τ, Steps p.tables e below (s₁.setTop (mkF m 0 #[.val (.int p1), .val (.int p2), .unset, .unset, .unset, .unset, .unset] [])) τ → Steps p.tables e below (s₁.setTop (entryFrame m #[(.int p1), (.int p2)] maxLocals)) τ := fun τ κ => castTop (ef_0 m p1 p2) κ
  obtain ⟨G, hG, pre⟩ : ∃ G : State → Prop, (∀ τ, G τ → Steps p.tables e below (s₁.setTop (entryFrame m #[(.int p1), (.int p2)] maxLocals)) τ) ∧ ∀ τ, Steps p.tables e below (s₁.setTop (mkF m 0 #[.val (.int p1), .val (.int p2), .unset, .unset, .unset, .unset, .unset] [])) τ → G τ := ⟨_, pre0, fun _ k => k⟩
  have Zn := Z0
  have pre : ∀ τ, Steps p.tables e below (s₁.setTop (mkF m 8 #[.val (.int p1), .val (.int p2), .val (.int ((p2 &&& (7 : Int32)) - (2 : Int32))), .unset, .unset, .unset, .unset] [(.int p1)])) τ → G τ := fun τ κ => pre τ (by
    refine XS.iloadN X0.here hx rfl (hb hby at_0) rfl ?_
    show Steps p.tables e below (s₁.setTop (mkF m 1 #[.val (.int p1), .val (.int p2), .unset, .unset, .unset, .unset, .unset] [(.int p2)])) τ
    refine XS.bipush X0.here hx rfl (hb hby at_1) ?_
    show Steps p.tables e below (s₁.setTop (mkF m 3 #[.val (.int p1), .val (.int p2), .unset, .unset, .unset, .unset, .unset] [(.int (7 : Int32)), (.int p2)])) τ
    refine XS.iand X0.here hx rfl (hb hby at_3) rfl ?_
    show Steps p.tables e below (s₁.setTop (mkF m 4 #[.val (.int p1), .val (.int p2), .unset, .unset, .unset, .unset, .unset] [(.int (p2 &&& (7 : Int32)))])) τ
    refine XS.iconst X0.here hx rfl (hb hby at_4) ?_
    show Steps p.tables e below (s₁.setTop (mkF m 5 #[.val (.int p1), .val (.int p2), .unset, .unset, .unset, .unset, .unset] [(.int (2 : Int32)), (.int (p2 &&& (7 : Int32)))])) τ
    refine XS.isub X0.here hx rfl (hb hby at_5) rfl ?_
    show Steps p.tables e below (s₁.setTop (mkF m 6 #[.val (.int p1), .val (.int p2), .unset, .unset, .unset, .unset, .unset] [(.int ((p2 &&& (7 : Int32)) - (2 : Int32)))])) τ
    refine XS.istoreN X0.here hx rfl (hb hby at_6) rfl (l' := #[.val (.int p1), .val (.int p2), .val (.int ((p2 &&& (7 : Int32)) - (2 : Int32))), .unset, .unset, .unset, .unset]) rfl ?_
    show Steps p.tables e below (s₁.setTop (mkF m 7 #[.val (.int p1), .val (.int p2), .val (.int ((p2 &&& (7 : Int32)) - (2 : Int32))), .unset, .unset, .unset, .unset] [])) τ
    refine XS.iloadN X0.here hx rfl (hb hby at_7) rfl ?_
    show Steps p.tables e below (s₁.setTop (mkF m 8 #[.val (.int p1), .val (.int p2), .val (.int ((p2 &&& (7 : Int32)) - (2 : Int32))), .unset, .unset, .unset, .unset] [(.int p1)])) τ
    exact κ)
  obtain ⟨_, _, ⟨T1, Lx1, kx1, nx1⟩, -, X1, ⟨Lc1, hQ1, l1, y1, z1⟩, st1⟩ := Jvm.LawKit.callS X0 hx (y := (⟨"com/example/cairn/cairn/graph/ChangedPathsVersionOfPinLaw", "check", "(I)Z"⟩ : MethodName)) hown (mvT hZ (hw _ (List.mem_of_getElem? (i := 0) rfl))) (mvT hZ (hw _ (List.mem_of_getElem? (i := 1) rfl))) (mvT hZ (hw _ (List.mem_of_getElem? (i := 2) rfl))) (mvT hZ (hw _ (List.mem_of_getElem? (i := 3) rfl))) (by decide) (backOf (W := 0) (rm1 l Z a0 hw [] p1 va kc v1 v2 h0 n0 Zn S_va V_va E_va F_n1 F_n2 S_v1 S_v2) hZ (hw _ (List.mem_of_getElem? (i := 3) rfl)) (hw _ (List.mem_of_getElem? (i := 2) rfl)) (by decide) (by decide)) (g := (mkF m 8 #[.val (.int p1), .val (.int p2), .val (.int ((p2 &&& (7 : Int32)) - (2 : Int32))), .unset, .unset, .unset, .unset] [(.int p1)])) rfl (by rw [hml]; rfl) (argsL := [(.int p1)]) (rest := []) (lenOf pd_2 rfl) rfl (by show 2 * 0 + _ ≤ _; exact Nat.le_of_eq rfl) (hb hby at_8) (fun _ _ => ⟨rfl, e0, (by decide : 0 + 1 ≤ _), (by decide : 0 + 2 ≤ _)⟩)
  dsimp only [Pt.U, Pt.locs, Pt.cells, Pt.slots] at X1 l1 y1 z1 st1 hQ1
  replace y1 : kx1 = 1 := y1
  replace z1 : nx1 = 2 := z1
  subst y1 z1
  obtain ⟨rfl, Nq1, Kc1⟩ := hQ1
  have NN : Fr n0 Lx1 := by rw [l1]; exact Fr.app N0 Nq1
  have S_va : Sta Z T1.heap "com/example/cairn/cairn/graph/ChangedPathsVersion" "$VALUES" "[Lcom/example/cairn/cairn/graph/ChangedPathsVersion;" (.ref va) := own_sta_keep S_va Kc1
  have V_va : Arv Z T1.heap va kc (.object "com/example/cairn/cairn/graph/ChangedPathsVersion") (2 : Int32) [(.ref v1), (.ref v2)] .null := V_va.keep Kc1 nin0
  have E_va : Exa Z T1.heap va "[Lcom/example/cairn/cairn/graph/ChangedPathsVersion;" := E_va.keep Kc1
  have F_n1 : Fld Z T1.heap v1 "com/example/cairn/cairn/graph/ChangedPathsVersion" "number" "I" (.int (1 : Int32)) := F_n1.keep Kc1 nin0
  have F_n2 : Fld Z T1.heap v2 "com/example/cairn/cairn/graph/ChangedPathsVersion" "number" "I" (.int (2 : Int32)) := F_n2.keep Kc1 nin0
  have S_v1 : Sta Z T1.heap "com/example/cairn/cairn/graph/ChangedPathsVersion" "V1" "Lcom/example/cairn/cairn/graph/ChangedPathsVersion;" (.ref v1) := own_sta_keep S_v1 Kc1
  have S_v2 : Sta Z T1.heap "com/example/cairn/cairn/graph/ChangedPathsVersion" "V2" "Lcom/example/cairn/cairn/graph/ChangedPathsVersion;" (.ref v2) := own_sta_keep S_v2 Kc1
  have E_v1 : Exa Z T1.heap v1 "com/example/cairn/cairn/graph/ChangedPathsVersion" := E_v1.keep Kc1
  have E_v2 : Exa Z T1.heap v2 "com/example/cairn/cairn/graph/ChangedPathsVersion" := E_v2.keep Kc1
  have Zn : n0 ≤ T1.heap.size := Nat.le_trans Zn Kc1.1
  have pre : ∀ τ, Steps p.tables e below (T1.setTop (mkF m 11 #[.val (.int p1), .val (.int p2), .val (.int ((p2 &&& (7 : Int32)) - (2 : Int32))), .unset, .unset, .unset, .unset] [(.int (1 : Int32))])) τ → G τ := fun τ κ => pre τ (st1 τ κ)
  have pre : ∀ τ, Steps p.tables e below (T1.setTop (mkF m 13 #[.val (.int p1), .val (.int p2), .val (.int ((p2 &&& (7 : Int32)) - (2 : Int32))), .val (.int (1 : Int32)), .unset, .unset, .unset] [(.int ((p2 &&& (7 : Int32)) - (2 : Int32)))])) τ → G τ := fun τ κ => pre τ (by
    refine XS.istoreN X1.here hx rfl (hb hby at_11) rfl (l' := #[.val (.int p1), .val (.int p2), .val (.int ((p2 &&& (7 : Int32)) - (2 : Int32))), .val (.int (1 : Int32)), .unset, .unset, .unset]) rfl ?_
    show Steps p.tables e below (T1.setTop (mkF m 12 #[.val (.int p1), .val (.int p2), .val (.int ((p2 &&& (7 : Int32)) - (2 : Int32))), .val (.int (1 : Int32)), .unset, .unset, .unset] [])) τ
    refine XS.iloadN X1.here hx rfl (hb hby at_12) rfl ?_
    show Steps p.tables e below (T1.setTop (mkF m 13 #[.val (.int p1), .val (.int p2), .val (.int ((p2 &&& (7 : Int32)) - (2 : Int32))), .val (.int (1 : Int32)), .unset, .unset, .unset] [(.int ((p2 &&& (7 : Int32)) - (2 : Int32)))])) τ
    exact κ)
  obtain ⟨_, _, ⟨T2, Lx2, kx2, nx2⟩, -, X2, ⟨Lc2, hQ2, l2, y2, z2⟩, st2⟩ := Jvm.LawKit.callS X1 hx (y := (⟨"com/example/cairn/cairn/graph/ChangedPathsVersionOfPinLaw", "check", "(I)Z"⟩ : MethodName)) hown (mvT hZ (hw _ (List.mem_of_getElem? (i := 0) rfl))) (mvT hZ (hw _ (List.mem_of_getElem? (i := 1) rfl))) (mvT hZ (hw _ (List.mem_of_getElem? (i := 2) rfl))) (mvT hZ (hw _ (List.mem_of_getElem? (i := 3) rfl))) (by decide) (backOf (W := 0) (rm1 l Z a0 hw [] ((p2 &&& (7 : Int32)) - (2 : Int32)) va kc v1 v2 T1.heap n0 Zn S_va V_va E_va F_n1 F_n2 S_v1 S_v2) hZ (hw _ (List.mem_of_getElem? (i := 3) rfl)) (hw _ (List.mem_of_getElem? (i := 2) rfl)) (by decide) (by decide)) (g := (mkF m 13 #[.val (.int p1), .val (.int p2), .val (.int ((p2 &&& (7 : Int32)) - (2 : Int32))), .val (.int (1 : Int32)), .unset, .unset, .unset] [(.int ((p2 &&& (7 : Int32)) - (2 : Int32)))])) rfl (by rw [hml]; rfl) (argsL := [(.int ((p2 &&& (7 : Int32)) - (2 : Int32)))]) (rest := []) (lenOf pd_2 rfl) rfl (by show 2 * 0 + _ ≤ _; exact Nat.le_of_eq rfl) (hb hby at_13) (fun _ _ => ⟨rfl, rfl, (by decide : 1 + 1 ≤ _), (by decide : 2 + 2 ≤ _)⟩)
  dsimp only [Pt.U, Pt.locs, Pt.cells, Pt.slots] at X2 l2 y2 z2 st2 hQ2
  replace y2 : kx2 = 2 := y2
  replace z2 : nx2 = 4 := z2
  subst y2 z2
  obtain ⟨rfl, Nq2, Kc2⟩ := hQ2
  have NN : Fr n0 Lx2 := by rw [l2]; exact Fr.app NN Nq2
  have S_va : Sta Z T2.heap "com/example/cairn/cairn/graph/ChangedPathsVersion" "$VALUES" "[Lcom/example/cairn/cairn/graph/ChangedPathsVersion;" (.ref va) := own_sta_keep S_va Kc2
  have V_va : Arv Z T2.heap va kc (.object "com/example/cairn/cairn/graph/ChangedPathsVersion") (2 : Int32) [(.ref v1), (.ref v2)] .null := V_va.keep Kc2 nin0
  have E_va : Exa Z T2.heap va "[Lcom/example/cairn/cairn/graph/ChangedPathsVersion;" := E_va.keep Kc2
  have F_n1 : Fld Z T2.heap v1 "com/example/cairn/cairn/graph/ChangedPathsVersion" "number" "I" (.int (1 : Int32)) := F_n1.keep Kc2 nin0
  have F_n2 : Fld Z T2.heap v2 "com/example/cairn/cairn/graph/ChangedPathsVersion" "number" "I" (.int (2 : Int32)) := F_n2.keep Kc2 nin0
  have S_v1 : Sta Z T2.heap "com/example/cairn/cairn/graph/ChangedPathsVersion" "V1" "Lcom/example/cairn/cairn/graph/ChangedPathsVersion;" (.ref v1) := own_sta_keep S_v1 Kc2
  have S_v2 : Sta Z T2.heap "com/example/cairn/cairn/graph/ChangedPathsVersion" "V2" "Lcom/example/cairn/cairn/graph/ChangedPathsVersion;" (.ref v2) := own_sta_keep S_v2 Kc2
  have E_v1 : Exa Z T2.heap v1 "com/example/cairn/cairn/graph/ChangedPathsVersion" := E_v1.keep Kc2
  have E_v2 : Exa Z T2.heap v2 "com/example/cairn/cairn/graph/ChangedPathsVersion" := E_v2.keep Kc2
  have Zn : n0 ≤ T2.heap.size := Nat.le_trans Zn Kc2.1
  have pre : ∀ τ, Steps p.tables e below (T2.setTop (mkF m 16 #[.val (.int p1), .val (.int p2), .val (.int ((p2 &&& (7 : Int32)) - (2 : Int32))), .val (.int (1 : Int32)), .unset, .unset, .unset] [(.int (1 : Int32))])) τ → G τ := fun τ κ => pre τ (st2 τ κ)
  have pre : ∀ τ, Steps p.tables e below (T2.setTop (mkF m 18 #[.val (.int p1), .val (.int p2), .val (.int ((p2 &&& (7 : Int32)) - (2 : Int32))), .val (.int (1 : Int32)), .val (.int (1 : Int32)), .unset, .unset] [])) τ → G τ := fun τ κ => pre τ (by
    refine XS.istore X2.here hx rfl (hb hby at_16) rfl (l' := #[.val (.int p1), .val (.int p2), .val (.int ((p2 &&& (7 : Int32)) - (2 : Int32))), .val (.int (1 : Int32)), .val (.int (1 : Int32)), .unset, .unset]) rfl ?_
    show Steps p.tables e below (T2.setTop (mkF m 18 #[.val (.int p1), .val (.int p2), .val (.int ((p2 &&& (7 : Int32)) - (2 : Int32))), .val (.int (1 : Int32)), .val (.int (1 : Int32)), .unset, .unset] [])) τ
    exact κ)
  obtain ⟨T3, X3, e3, st3⟩ := getS2 X2 hx hZ hown (host := "") (Or.inl (hw _ (List.mem_of_getElem? (i := 27) rfl))) Via.refl rfl S_v1 (g := (mkF m 18 #[.val (.int p1), .val (.int p2), .val (.int ((p2 &&& (7 : Int32)) - (2 : Int32))), .val (.int (1 : Int32)), .val (.int (1 : Int32)), .unset, .unset] [])) rfl (hb hby at_18)
  have pre : ∀ τ, Steps p.tables e below (T3.setTop (mkF m 21 #[.val (.int p1), .val (.int p2), .val (.int ((p2 &&& (7 : Int32)) - (2 : Int32))), .val (.int (1 : Int32)), .val (.int (1 : Int32)), .unset, .unset] [(.ref v1)])) τ → G τ := fun τ κ => pre τ (st3 τ κ)
  obtain ⟨cq4, kq4, q4a, q4b, q4c⟩ := isOf hZ e3 E_v1
  obtain ⟨_, _, ⟨T4, Lx4, kx4, nx4⟩, -, X4, ⟨Lc4, hQ4, l4, y4, z4⟩, st4⟩ := X3.virtualBack hx (y := (⟨"com/example/cairn/cairn/graph/ChangedPathsVersion", "number", "()I"⟩ : MethodName)) (z := (⟨"com/example/cairn/cairn/graph/ChangedPathsVersion", "number", "()I"⟩ : MethodName)) hown (mvT hZ (hw _ (List.mem_of_getElem? (i := 28) rfl))) (mvT hZ (hw _ (List.mem_of_getElem? (i := 29) rfl))) (notFace_of_selects (args := #[]) (mvT hZ (hw _ (List.mem_of_getElem? (i := 31) rfl)))) (mvT hZ (hw _ (List.mem_of_getElem? (i := 31) rfl))) (mvT hZ (hw _ (List.mem_of_getElem? (i := 30) rfl))) (by decide) (backOf (W := 0) (rm4 l Z a0 hw [] v1 (1 : Int32) T2.heap n0 Zn F_n1) hZ (hw _ (List.mem_of_getElem? (i := 32) rfl)) (hw _ (List.mem_of_getElem? (i := 6) rfl)) (by decide) (by decide)) q4a q4c (g := (mkF m 21 #[.val (.int p1), .val (.int p2), .val (.int ((p2 &&& (7 : Int32)) - (2 : Int32))), .val (.int (1 : Int32)), .val (.int (1 : Int32)), .unset, .unset] [(.ref v1)])) rfl (by rw [hml]; rfl) (Steps.refl _) (argsL := []) (rest := []) (lenOf pd_3 rfl) rfl (by show 2 * 0 + _ ≤ _; exact Nat.le_of_eq rfl) (hb hby at_21) (fun _ _ => ⟨rfl, e3, (by decide : 2 + 0 ≤ _), (by decide : 4 + 0 ≤ _)⟩)
  dsimp only [Pt.U, Pt.locs, Pt.cells, Pt.slots] at X4 l4 y4 z4 st4 hQ4
  replace y4 : kx4 = 2 := y4
  replace z4 : nx4 = 4 := z4
  subst y4 z4
  obtain ⟨rfl, Nq4, hs4⟩ := hQ4
  have NN : Fr n0 Lx4 := by rw [l4]; exact Fr.app NN Nq4
  have pre : ∀ τ, Steps p.tables e below (T4.setTop (mkF m 24 #[.val (.int p1), .val (.int p2), .val (.int ((p2 &&& (7 : Int32)) - (2 : Int32))), .val (.int (1 : Int32)), .val (.int (1 : Int32)), .unset, .unset] [(.int (1 : Int32))])) τ → G τ := fun τ κ => pre τ (st4.trans κ)
  obtain ⟨_, _, ⟨T5, Lx5, kx5, nx5⟩, -, X5, ⟨Lc5, hQ5, l5, y5, z5⟩, st5⟩ := Jvm.LawKit.callS X4 hx (y := (⟨"com/example/cairn/cairn/graph/ChangedPathsVersion", "of", "(I)Lcom/example/cairn/cairn/graph/ChangedPathsVersion;"⟩ : MethodName)) hown (mvT hZ (hw _ (List.mem_of_getElem? (i := 4) rfl))) (mvT hZ (hw _ (List.mem_of_getElem? (i := 5) rfl))) (mvT hZ (hw _ (List.mem_of_getElem? (i := 6) rfl))) (mvT hZ (hw _ (List.mem_of_getElem? (i := 7) rfl))) (by decide) (backOf (W := 0) (rm2a l Z a0 hw [] (1 : Int32) va kc v1 v2 T2.heap n0 Zn S_va V_va E_va F_n1 F_n2 rfl) hZ (hw _ (List.mem_of_getElem? (i := 7) rfl)) (hw _ (List.mem_of_getElem? (i := 6) rfl)) (by decide) (by decide)) (g := (mkF m 24 #[.val (.int p1), .val (.int p2), .val (.int ((p2 &&& (7 : Int32)) - (2 : Int32))), .val (.int (1 : Int32)), .val (.int (1 : Int32)), .unset, .unset] [(.int (1 : Int32))])) rfl (by rw [hml]; rfl) (argsL := [(.int (1 : Int32))]) (rest := []) (lenOf pd_1 rfl) rfl (by show 2 * 0 + _ ≤ _; exact Nat.le_of_eq rfl) (hb hby at_24) (fun _ _ => ⟨rfl, hs4, (by decide : 2 + 1 ≤ _), (by decide : 4 + 2 ≤ _)⟩)
  dsimp only [Pt.U, Pt.locs, Pt.cells, Pt.slots] at X5 l5 y5 z5 st5 hQ5
  replace y5 : kx5 = 3 := y5
  replace z5 : nx5 = 6 := z5
  subst y5 z5
  obtain ⟨rfl, Nq5, Kc5⟩ := hQ5
  have NN : Fr n0 Lx5 := by rw [l5]; exact Fr.app NN Nq5
  have S_va : Sta Z T5.heap "com/example/cairn/cairn/graph/ChangedPathsVersion" "$VALUES" "[Lcom/example/cairn/cairn/graph/ChangedPathsVersion;" (.ref va) := own_sta_keep S_va Kc5
  have V_va : Arv Z T5.heap va kc (.object "com/example/cairn/cairn/graph/ChangedPathsVersion") (2 : Int32) [(.ref v1), (.ref v2)] .null := V_va.keep Kc5 nin0
  have E_va : Exa Z T5.heap va "[Lcom/example/cairn/cairn/graph/ChangedPathsVersion;" := E_va.keep Kc5
  have F_n1 : Fld Z T5.heap v1 "com/example/cairn/cairn/graph/ChangedPathsVersion" "number" "I" (.int (1 : Int32)) := F_n1.keep Kc5 nin0
  have F_n2 : Fld Z T5.heap v2 "com/example/cairn/cairn/graph/ChangedPathsVersion" "number" "I" (.int (2 : Int32)) := F_n2.keep Kc5 nin0
  have S_v1 : Sta Z T5.heap "com/example/cairn/cairn/graph/ChangedPathsVersion" "V1" "Lcom/example/cairn/cairn/graph/ChangedPathsVersion;" (.ref v1) := own_sta_keep S_v1 Kc5
  have S_v2 : Sta Z T5.heap "com/example/cairn/cairn/graph/ChangedPathsVersion" "V2" "Lcom/example/cairn/cairn/graph/ChangedPathsVersion;" (.ref v2) := own_sta_keep S_v2 Kc5
  have E_v1 : Exa Z T5.heap v1 "com/example/cairn/cairn/graph/ChangedPathsVersion" := E_v1.keep Kc5
  have E_v2 : Exa Z T5.heap v2 "com/example/cairn/cairn/graph/ChangedPathsVersion" := E_v2.keep Kc5
  have Zn : n0 ≤ T5.heap.size := Nat.le_trans Zn Kc5.1
  have pre : ∀ τ, Steps p.tables e below (T5.setTop (mkF m 27 #[.val (.int p1), .val (.int p2), .val (.int ((p2 &&& (7 : Int32)) - (2 : Int32))), .val (.int (1 : Int32)), .val (.int (1 : Int32)), .unset, .unset] [(.ref v1)])) τ → G τ := fun τ κ => pre τ (st5 τ κ)
  obtain ⟨T6, X6, e6, st6⟩ := getS2 X5 hx hZ hown (host := "") (Or.inl (hw _ (List.mem_of_getElem? (i := 27) rfl))) Via.refl rfl S_v1 (g := (mkF m 27 #[.val (.int p1), .val (.int p2), .val (.int ((p2 &&& (7 : Int32)) - (2 : Int32))), .val (.int (1 : Int32)), .val (.int (1 : Int32)), .unset, .unset] [(.ref v1)])) rfl (hb hby at_27)
  have pre : ∀ τ, Steps p.tables e below (T6.setTop (mkF m 30 #[.val (.int p1), .val (.int p2), .val (.int ((p2 &&& (7 : Int32)) - (2 : Int32))), .val (.int (1 : Int32)), .val (.int (1 : Int32)), .unset, .unset] [(.ref v1), (.ref v1)])) τ → G τ := fun τ κ => pre τ (st6 τ κ)
  have pre : ∀ τ, Steps p.tables e below (T6.setTop (mkF m 40 #[.val (.int p1), .val (.int p2), .val (.int ((p2 &&& (7 : Int32)) - (2 : Int32))), .val (.int (1 : Int32)), .val (.int (1 : Int32)), .val (.int (1 : Int32)), .unset] [])) τ → G τ := fun τ κ => pre τ (by
    refine Jvm.RoadKit.acmp (g := (mkF m 30 #[.val (.int p1), .val (.int p2), .val (.int ((p2 &&& (7 : Int32)) - (2 : Int32))), .val (.int (1 : Int32)), .val (.int (1 : Int32)), .unset, .unset] [(.ref v1), (.ref v1)])) X6 hx rfl rfl rfl (pc0 := 30) (pc' := 33) (same := true) rfl (hb hby at_30) rfl (decide_eq_true (congrArg Value.ref rfl)) (by decide) (by decide) ?_
    show Steps p.tables e below (T6.setTop (mkF m 33 #[.val (.int p1), .val (.int p2), .val (.int ((p2 &&& (7 : Int32)) - (2 : Int32))), .val (.int (1 : Int32)), .val (.int (1 : Int32)), .unset, .unset] [])) τ
    refine XS.iconst X6.here hx rfl (hb hby at_33) ?_
    show Steps p.tables e below (T6.setTop (mkF m 34 #[.val (.int p1), .val (.int p2), .val (.int ((p2 &&& (7 : Int32)) - (2 : Int32))), .val (.int (1 : Int32)), .val (.int (1 : Int32)), .unset, .unset] [(.int (1 : Int32))])) τ
    refine XS.goto X6.here hx rfl (pc0 := 34) (pc' := 38) rfl (hb hby at_34) (by decide) (by decide) ?_
    show Steps p.tables e below (T6.setTop (mkF m 38 #[.val (.int p1), .val (.int p2), .val (.int ((p2 &&& (7 : Int32)) - (2 : Int32))), .val (.int (1 : Int32)), .val (.int (1 : Int32)), .unset, .unset] [(.int (1 : Int32))])) τ
    refine XS.istore X6.here hx rfl (hb hby at_38) rfl (l' := #[.val (.int p1), .val (.int p2), .val (.int ((p2 &&& (7 : Int32)) - (2 : Int32))), .val (.int (1 : Int32)), .val (.int (1 : Int32)), .val (.int (1 : Int32)), .unset]) rfl ?_
    show Steps p.tables e below (T6.setTop (mkF m 40 #[.val (.int p1), .val (.int p2), .val (.int ((p2 &&& (7 : Int32)) - (2 : Int32))), .val (.int (1 : Int32)), .val (.int (1 : Int32)), .val (.int (1 : Int32)), .unset] [])) τ
    exact κ)
  obtain ⟨T7, X7, e7, st7⟩ := getS2 X6 hx hZ hown (host := "") (Or.inl (hw _ (List.mem_of_getElem? (i := 33) rfl))) Via.refl e6 S_v2 (g := (mkF m 40 #[.val (.int p1), .val (.int p2), .val (.int ((p2 &&& (7 : Int32)) - (2 : Int32))), .val (.int (1 : Int32)), .val (.int (1 : Int32)), .val (.int (1 : Int32)), .unset] [])) rfl (hb hby at_40)
  have pre : ∀ τ, Steps p.tables e below (T7.setTop (mkF m 43 #[.val (.int p1), .val (.int p2), .val (.int ((p2 &&& (7 : Int32)) - (2 : Int32))), .val (.int (1 : Int32)), .val (.int (1 : Int32)), .val (.int (1 : Int32)), .unset] [(.ref v2)])) τ → G τ := fun τ κ => pre τ (st7 τ κ)
  obtain ⟨cq8, kq8, q8a, q8b, q8c⟩ := isOf hZ e7 E_v2
  obtain ⟨_, _, ⟨T8, Lx8, kx8, nx8⟩, -, X8, ⟨Lc8, hQ8, l8, y8, z8⟩, st8⟩ := X7.virtualBack hx (y := (⟨"com/example/cairn/cairn/graph/ChangedPathsVersion", "number", "()I"⟩ : MethodName)) (z := (⟨"com/example/cairn/cairn/graph/ChangedPathsVersion", "number", "()I"⟩ : MethodName)) hown (mvT hZ (hw _ (List.mem_of_getElem? (i := 28) rfl))) (mvT hZ (hw _ (List.mem_of_getElem? (i := 29) rfl))) (notFace_of_selects (args := #[]) (mvT hZ (hw _ (List.mem_of_getElem? (i := 31) rfl)))) (mvT hZ (hw _ (List.mem_of_getElem? (i := 31) rfl))) (mvT hZ (hw _ (List.mem_of_getElem? (i := 30) rfl))) (by decide) (backOf (W := 0) (rm4 l Z a0 hw [] v2 (2 : Int32) T5.heap n0 Zn F_n2) hZ (hw _ (List.mem_of_getElem? (i := 32) rfl)) (hw _ (List.mem_of_getElem? (i := 6) rfl)) (by decide) (by decide)) q8a q8c (g := (mkF m 43 #[.val (.int p1), .val (.int p2), .val (.int ((p2 &&& (7 : Int32)) - (2 : Int32))), .val (.int (1 : Int32)), .val (.int (1 : Int32)), .val (.int (1 : Int32)), .unset] [(.ref v2)])) rfl (by rw [hml]; rfl) (Steps.refl _) (argsL := []) (rest := []) (lenOf pd_3 rfl) rfl (by show 2 * 0 + _ ≤ _; exact Nat.le_of_eq rfl) (hb hby at_43) (fun _ _ => ⟨rfl, e7, (by decide : 3 + 0 ≤ _), (by decide : 6 + 0 ≤ _)⟩)
  dsimp only [Pt.U, Pt.locs, Pt.cells, Pt.slots] at X8 l8 y8 z8 st8 hQ8
  replace y8 : kx8 = 3 := y8
  replace z8 : nx8 = 6 := z8
  subst y8 z8
  obtain ⟨rfl, Nq8, hs8⟩ := hQ8
  have NN : Fr n0 Lx8 := by rw [l8]; exact Fr.app NN Nq8
  have pre : ∀ τ, Steps p.tables e below (T8.setTop (mkF m 46 #[.val (.int p1), .val (.int p2), .val (.int ((p2 &&& (7 : Int32)) - (2 : Int32))), .val (.int (1 : Int32)), .val (.int (1 : Int32)), .val (.int (1 : Int32)), .unset] [(.int (2 : Int32))])) τ → G τ := fun τ κ => pre τ (st8.trans κ)
  obtain ⟨_, _, ⟨T9, Lx9, kx9, nx9⟩, -, X9, ⟨Lc9, hQ9, l9, y9, z9⟩, st9⟩ := Jvm.LawKit.callS X8 hx (y := (⟨"com/example/cairn/cairn/graph/ChangedPathsVersion", "of", "(I)Lcom/example/cairn/cairn/graph/ChangedPathsVersion;"⟩ : MethodName)) hown (mvT hZ (hw _ (List.mem_of_getElem? (i := 4) rfl))) (mvT hZ (hw _ (List.mem_of_getElem? (i := 5) rfl))) (mvT hZ (hw _ (List.mem_of_getElem? (i := 6) rfl))) (mvT hZ (hw _ (List.mem_of_getElem? (i := 7) rfl))) (by decide) (backOf (W := 0) (rm2b l Z a0 hw [] (2 : Int32) va kc v1 v2 T5.heap n0 Zn S_va V_va E_va F_n1 F_n2 (by decide) rfl) hZ (hw _ (List.mem_of_getElem? (i := 7) rfl)) (hw _ (List.mem_of_getElem? (i := 6) rfl)) (by decide) (by decide)) (g := (mkF m 46 #[.val (.int p1), .val (.int p2), .val (.int ((p2 &&& (7 : Int32)) - (2 : Int32))), .val (.int (1 : Int32)), .val (.int (1 : Int32)), .val (.int (1 : Int32)), .unset] [(.int (2 : Int32))])) rfl (by rw [hml]; rfl) (argsL := [(.int (2 : Int32))]) (rest := []) (lenOf pd_1 rfl) rfl (by show 2 * 0 + _ ≤ _; exact Nat.le_of_eq rfl) (hb hby at_46) (fun _ _ => ⟨rfl, hs8, (by decide : 3 + 1 ≤ _), (by decide : 6 + 2 ≤ _)⟩)
  dsimp only [Pt.U, Pt.locs, Pt.cells, Pt.slots] at X9 l9 y9 z9 st9 hQ9
  replace y9 : kx9 = 4 := y9
  replace z9 : nx9 = 8 := z9
  subst y9 z9
  obtain ⟨rfl, Nq9, Kc9⟩ := hQ9
  have NN : Fr n0 Lx9 := by rw [l9]; exact Fr.app NN Nq9
  have S_va : Sta Z T9.heap "com/example/cairn/cairn/graph/ChangedPathsVersion" "$VALUES" "[Lcom/example/cairn/cairn/graph/ChangedPathsVersion;" (.ref va) := own_sta_keep S_va Kc9
  have V_va : Arv Z T9.heap va kc (.object "com/example/cairn/cairn/graph/ChangedPathsVersion") (2 : Int32) [(.ref v1), (.ref v2)] .null := V_va.keep Kc9 nin0
  have E_va : Exa Z T9.heap va "[Lcom/example/cairn/cairn/graph/ChangedPathsVersion;" := E_va.keep Kc9
  have F_n1 : Fld Z T9.heap v1 "com/example/cairn/cairn/graph/ChangedPathsVersion" "number" "I" (.int (1 : Int32)) := F_n1.keep Kc9 nin0
  have F_n2 : Fld Z T9.heap v2 "com/example/cairn/cairn/graph/ChangedPathsVersion" "number" "I" (.int (2 : Int32)) := F_n2.keep Kc9 nin0
  have S_v1 : Sta Z T9.heap "com/example/cairn/cairn/graph/ChangedPathsVersion" "V1" "Lcom/example/cairn/cairn/graph/ChangedPathsVersion;" (.ref v1) := own_sta_keep S_v1 Kc9
  have S_v2 : Sta Z T9.heap "com/example/cairn/cairn/graph/ChangedPathsVersion" "V2" "Lcom/example/cairn/cairn/graph/ChangedPathsVersion;" (.ref v2) := own_sta_keep S_v2 Kc9
  have E_v1 : Exa Z T9.heap v1 "com/example/cairn/cairn/graph/ChangedPathsVersion" := E_v1.keep Kc9
  have E_v2 : Exa Z T9.heap v2 "com/example/cairn/cairn/graph/ChangedPathsVersion" := E_v2.keep Kc9
  have Zn : n0 ≤ T9.heap.size := Nat.le_trans Zn Kc9.1
  have pre : ∀ τ, Steps p.tables e below (T9.setTop (mkF m 49 #[.val (.int p1), .val (.int p2), .val (.int ((p2 &&& (7 : Int32)) - (2 : Int32))), .val (.int (1 : Int32)), .val (.int (1 : Int32)), .val (.int (1 : Int32)), .unset] [(.ref v2)])) τ → G τ := fun τ κ => pre τ (st9 τ κ)
  obtain ⟨T10, X10, e10, st10⟩ := getS2 X9 hx hZ hown (host := "") (Or.inl (hw _ (List.mem_of_getElem? (i := 33) rfl))) Via.refl rfl S_v2 (g := (mkF m 49 #[.val (.int p1), .val (.int p2), .val (.int ((p2 &&& (7 : Int32)) - (2 : Int32))), .val (.int (1 : Int32)), .val (.int (1 : Int32)), .val (.int (1 : Int32)), .unset] [(.ref v2)])) rfl (hb hby at_49)
  have pre : ∀ τ, Steps p.tables e below (T10.setTop (mkF m 52 #[.val (.int p1), .val (.int p2), .val (.int ((p2 &&& (7 : Int32)) - (2 : Int32))), .val (.int (1 : Int32)), .val (.int (1 : Int32)), .val (.int (1 : Int32)), .unset] [(.ref v2), (.ref v2)])) τ → G τ := fun τ κ => pre τ (st10 τ κ)
  have pre : ∀ τ, Steps p.tables e below (T10.setTop (mkF m 63 #[.val (.int p1), .val (.int p2), .val (.int ((p2 &&& (7 : Int32)) - (2 : Int32))), .val (.int (1 : Int32)), .val (.int (1 : Int32)), .val (.int (1 : Int32)), .val (.int (1 : Int32))] [(.int (1 : Int32))])) τ → G τ := fun τ κ => pre τ (by
    refine Jvm.RoadKit.acmp (g := (mkF m 52 #[.val (.int p1), .val (.int p2), .val (.int ((p2 &&& (7 : Int32)) - (2 : Int32))), .val (.int (1 : Int32)), .val (.int (1 : Int32)), .val (.int (1 : Int32)), .unset] [(.ref v2), (.ref v2)])) X10 hx rfl rfl rfl (pc0 := 52) (pc' := 55) (same := true) rfl (hb hby at_52) rfl (decide_eq_true (congrArg Value.ref rfl)) (by decide) (by decide) ?_
    show Steps p.tables e below (T10.setTop (mkF m 55 #[.val (.int p1), .val (.int p2), .val (.int ((p2 &&& (7 : Int32)) - (2 : Int32))), .val (.int (1 : Int32)), .val (.int (1 : Int32)), .val (.int (1 : Int32)), .unset] [])) τ
    refine XS.iconst X10.here hx rfl (hb hby at_55) ?_
    show Steps p.tables e below (T10.setTop (mkF m 56 #[.val (.int p1), .val (.int p2), .val (.int ((p2 &&& (7 : Int32)) - (2 : Int32))), .val (.int (1 : Int32)), .val (.int (1 : Int32)), .val (.int (1 : Int32)), .unset] [(.int (1 : Int32))])) τ
    refine XS.goto X10.here hx rfl (pc0 := 56) (pc' := 60) rfl (hb hby at_56) (by decide) (by decide) ?_
    show Steps p.tables e below (T10.setTop (mkF m 60 #[.val (.int p1), .val (.int p2), .val (.int ((p2 &&& (7 : Int32)) - (2 : Int32))), .val (.int (1 : Int32)), .val (.int (1 : Int32)), .val (.int (1 : Int32)), .unset] [(.int (1 : Int32))])) τ
    refine XS.istore X10.here hx rfl (hb hby at_60) rfl (l' := #[.val (.int p1), .val (.int p2), .val (.int ((p2 &&& (7 : Int32)) - (2 : Int32))), .val (.int (1 : Int32)), .val (.int (1 : Int32)), .val (.int (1 : Int32)), .val (.int (1 : Int32))]) rfl ?_
    show Steps p.tables e below (T10.setTop (mkF m 62 #[.val (.int p1), .val (.int p2), .val (.int ((p2 &&& (7 : Int32)) - (2 : Int32))), .val (.int (1 : Int32)), .val (.int (1 : Int32)), .val (.int (1 : Int32)), .val (.int (1 : Int32))] [])) τ
    refine XS.iloadN X10.here hx rfl (hb hby at_62) rfl ?_
    show Steps p.tables e below (T10.setTop (mkF m 63 #[.val (.int p1), .val (.int p2), .val (.int ((p2 &&& (7 : Int32)) - (2 : Int32))), .val (.int (1 : Int32)), .val (.int (1 : Int32)), .val (.int (1 : Int32)), .val (.int (1 : Int32))] [(.int (1 : Int32))])) τ
    exact κ)
  have hc11 : ¬ ((1 : Int32) = (0 : Int32)) := (by decide)
  have pre : ∀ τ, Steps p.tables e below (T10.setTop (mkF m 68 #[.val (.int p1), .val (.int p2), .val (.int ((p2 &&& (7 : Int32)) - (2 : Int32))), .val (.int (1 : Int32)), .val (.int (1 : Int32)), .val (.int (1 : Int32)), .val (.int (1 : Int32))] [(.int (1 : Int32))])) τ → G τ := fun τ κ => pre τ (by
    refine XS.ifNo X10.here hx rfl (hb hby at_63) rfl ((if0 _ _).trans (feq hc11).1) ?_
    show Steps p.tables e below (T10.setTop (mkF m 66 #[.val (.int p1), .val (.int p2), .val (.int ((p2 &&& (7 : Int32)) - (2 : Int32))), .val (.int (1 : Int32)), .val (.int (1 : Int32)), .val (.int (1 : Int32)), .val (.int (1 : Int32))] [])) τ
    refine XS.iload X10.here hx rfl (hb hby at_66) rfl ?_
    show Steps p.tables e below (T10.setTop (mkF m 68 #[.val (.int p1), .val (.int p2), .val (.int ((p2 &&& (7 : Int32)) - (2 : Int32))), .val (.int (1 : Int32)), .val (.int (1 : Int32)), .val (.int (1 : Int32)), .val (.int (1 : Int32))] [(.int (1 : Int32))])) τ
    exact κ)
  have hc12 : ¬ ((1 : Int32) = (0 : Int32)) := (by decide)
  have pre : ∀ τ, Steps p.tables e below (T10.setTop (mkF m 73 #[.val (.int p1), .val (.int p2), .val (.int ((p2 &&& (7 : Int32)) - (2 : Int32))), .val (.int (1 : Int32)), .val (.int (1 : Int32)), .val (.int (1 : Int32)), .val (.int (1 : Int32))] [(.int (1 : Int32))])) τ → G τ := fun τ κ => pre τ (by
    refine XS.ifNo X10.here hx rfl (hb hby at_68) rfl ((if0 _ _).trans (feq hc12).1) ?_
    show Steps p.tables e below (T10.setTop (mkF m 71 #[.val (.int p1), .val (.int p2), .val (.int ((p2 &&& (7 : Int32)) - (2 : Int32))), .val (.int (1 : Int32)), .val (.int (1 : Int32)), .val (.int (1 : Int32)), .val (.int (1 : Int32))] [])) τ
    refine XS.iload X10.here hx rfl (hb hby at_71) rfl ?_
    show Steps p.tables e below (T10.setTop (mkF m 73 #[.val (.int p1), .val (.int p2), .val (.int ((p2 &&& (7 : Int32)) - (2 : Int32))), .val (.int (1 : Int32)), .val (.int (1 : Int32)), .val (.int (1 : Int32)), .val (.int (1 : Int32))] [(.int (1 : Int32))])) τ
    exact κ)
  have hc13 : ¬ ((1 : Int32) = (0 : Int32)) := (by decide)
  have pre : ∀ τ, Steps p.tables e below (T10.setTop (mkF m 78 #[.val (.int p1), .val (.int p2), .val (.int ((p2 &&& (7 : Int32)) - (2 : Int32))), .val (.int (1 : Int32)), .val (.int (1 : Int32)), .val (.int (1 : Int32)), .val (.int (1 : Int32))] [(.int (1 : Int32))])) τ → G τ := fun τ κ => pre τ (by
    refine XS.ifNo X10.here hx rfl (hb hby at_73) rfl ((if0 _ _).trans (feq hc13).1) ?_
    show Steps p.tables e below (T10.setTop (mkF m 76 #[.val (.int p1), .val (.int p2), .val (.int ((p2 &&& (7 : Int32)) - (2 : Int32))), .val (.int (1 : Int32)), .val (.int (1 : Int32)), .val (.int (1 : Int32)), .val (.int (1 : Int32))] [])) τ
    refine XS.iload X10.here hx rfl (hb hby at_76) rfl ?_
    show Steps p.tables e below (T10.setTop (mkF m 78 #[.val (.int p1), .val (.int p2), .val (.int ((p2 &&& (7 : Int32)) - (2 : Int32))), .val (.int (1 : Int32)), .val (.int (1 : Int32)), .val (.int (1 : Int32)), .val (.int (1 : Int32))] [(.int (1 : Int32))])) τ
    exact κ)
  have hc14 : ¬ ((1 : Int32) = (0 : Int32)) := (by decide)
  have pre : ∀ τ, Steps p.tables e below (T10.setTop (mkF m 86 #[.val (.int p1), .val (.int p2), .val (.int ((p2 &&& (7 : Int32)) - (2 : Int32))), .val (.int (1 : Int32)), .val (.int (1 : Int32)), .val (.int (1 : Int32)), .val (.int (1 : Int32))] [(.int (1 : Int32))])) τ → G τ := fun τ κ => pre τ (by
    refine XS.ifNo X10.here hx rfl (hb hby at_78) rfl ((if0 _ _).trans (feq hc14).1) ?_
    show Steps p.tables e below (T10.setTop (mkF m 81 #[.val (.int p1), .val (.int p2), .val (.int ((p2 &&& (7 : Int32)) - (2 : Int32))), .val (.int (1 : Int32)), .val (.int (1 : Int32)), .val (.int (1 : Int32)), .val (.int (1 : Int32))] [])) τ
    refine XS.iconst X10.here hx rfl (hb hby at_81) ?_
    show Steps p.tables e below (T10.setTop (mkF m 82 #[.val (.int p1), .val (.int p2), .val (.int ((p2 &&& (7 : Int32)) - (2 : Int32))), .val (.int (1 : Int32)), .val (.int (1 : Int32)), .val (.int (1 : Int32)), .val (.int (1 : Int32))] [(.int (1 : Int32))])) τ
    refine XS.goto X10.here hx rfl (pc0 := 82) (pc' := 86) rfl (hb hby at_82) (by decide) (by decide) ?_
    show Steps p.tables e below (T10.setTop (mkF m 86 #[.val (.int p1), .val (.int p2), .val (.int ((p2 &&& (7 : Int32)) - (2 : Int32))), .val (.int (1 : Int32)), .val (.int (1 : Int32)), .val (.int (1 : Int32)), .val (.int (1 : Int32))] [(.int (1 : Int32))])) τ
    exact κ)
  obtain ⟨fsα, hr, hrun, hended, hW, hsame⟩ := X10.leave (v := some (.int (1 : Int32))) (fun h => by rw [Bd.returns] at h; cases h)
  refine hGL ⟨_, _, hG _ (pre _ ?_), hrun, hended, _, _, rfl, ?_, ⟨_, rfl⟩, hW, hsame.mono (by decide) (by decide)⟩
  · exact retN X10 hx (t := .boolean) Bd.returns (by simp) (hb hby at_86) hr
  · show Q0 Z p1 p2 va kc v1 v2 h0 n0 _ T10.heap _
    rw [e10]
    exact ⟨rfl, NN⟩
set_option maxRecDepth 65536 in
set_option maxHeartbeats 40000000 in
theorem comes_1 {Post : Tables → Env → Array Value → State → Outcome → State → Prop} (hpost : ∀ tb e args s v u, (limb_1_1.after args s (.returned v) u = true ∧ limb_1_2.after args s (.returned v) u = true ∧ True) → FrameEnd s (.returned v) u (Jvm.fieldLocs frame_1_writes args s ++ Jvm.arrayLocs frame_1_arrays args s ++ Jvm.staticLocs frame_1_statics s) 16 128 → Post tb e args s (.returned v) u) :
    ArmFor flags0 classFile x code maxLocals ret World_1 tables_1 room_1 Calls_1 rest_1 Pre_1 Post := by
  intro l hfl _ _ p e ha hc hk s m args below hf hA hF happ hP
  obtain ⟨hcalls, hrest, hpre⟩ := hP
  obtain ⟨-, -, -, hnamed, -, -, -, hat⟩ := (Spec.applies_iff hf).mp happ
  obtain ⟨hg, hn⟩ := and_e (Cond.before_iff.mp (show (Jvm.Cond.and given_1 narrow_1).before args s = true from hpre))
  obtain ⟨gv1, gv2⟩ := and_e hg
  obtain ⟨gv3, gv4⟩ := and_e gv2
  obtain ⟨w0, w1, rfl⟩ : ∃ w0 w1 : Value, args = #[w0, w1] := by
    have hs : args.size = 2 := by simpa [Cond.value, given_1] using gv1
    obtain ⟨L⟩ := args
    match L, hs with
    | [w0, w1], _ => exact ⟨w0, w1, rfl⟩
  have hw := fun d (hd : d ∈ tables_1) => atoms_spec (ws := Jvm.Cond.code x code maxLocals ret :: tables_1) hat d (List.mem_cons_of_mem _ hd)
  have hfit : Fit s := fun {y c} hc i hi => by
    obtain ⟨ha, rfl⟩ := Array.getElem?_eq_some_iff.mp hc
    have q := List.all_eq_true.mp ((Array.all_eq_true_iff_forall_mem.mp hF) _ (Array.getElem_mem ha)) i (List.mem_range.mpr hi)
    simpa [Array.getElem?_eq_getElem hi] using q
  obtain ⟨i0, ei0⟩ := is_v gv3
  obtain rfl : w0 = (.int i0) := Option.some.inj ei0
  obtain ⟨i1, ei1⟩ := is_v gv4
  obtain rfl : w1 = (.int i1) := Option.some.inj ei1
  have hn' : narrow_1.value _ s none s [] = some true := hn
  unfold narrow_1 at hn'
  obtain ⟨nA, nr0⟩ := and_e hn'
  obtain ⟨nE, nr1⟩ := and_e nr0
  obtain ⟨nL, nr2⟩ := and_e nr1
  obtain ⟨nX1, nr3⟩ := and_e nr2
  obtain ⟨n0e, nr4⟩ := and_e nr3
  obtain ⟨nX2, nr5⟩ := and_e nr4
  obtain ⟨n1e, nr6⟩ := and_e nr5
  obtain ⟨nF1, nF2⟩ := and_e nr6
  obtain ⟨va, eva⟩ := arr_v nA
  have S_va := Sta.start eva (Or.inl (hw _ (List.mem_of_getElem? (i := 22) rfl)))
  obtain ⟨cl, A⟩ := Arr.start eva nA
  have E_va := Exa.start eva nE
  obtain ⟨v1, ev1⟩ := exa_v nX1
  obtain ⟨v2, ev2⟩ := exa_v nX2
  have S_v1 := Sta.start ev1 (Or.inr ⟨(hw _ (List.mem_of_getElem? (i := 6) rfl)), (hw _ (List.mem_of_getElem? (i := 20) rfl))⟩)
  have S_v2 := Sta.start ev2 (Or.inr ⟨(hw _ (List.mem_of_getElem? (i := 6) rfl)), (hw _ (List.mem_of_getElem? (i := 21) rfl))⟩)
  have E_v1 := Exa.start ev1 nX1
  have E_v2 := Exa.start ev2 nX2
  have F_n1 := own_fl ev1 nF1
  have F_n2 := own_fl ev2 nF2
  obtain ⟨lz, le⟩ := own_len eva A nL
  have V_va : Arv s s.heap va cl.cls (.object "com/example/cairn/cairn/graph/ChangedPathsVersion") (2 : Int32) [(.ref v1), (.ref v2)] .null := Arv.start hfit A lz le (by decide) rfl ⟨own_el eva A (own_eqR n0e ev1), own_el eva A (own_eqR n1e ev2), trivial⟩
  obtain ⟨n, o, h1, h2, h3, _, L, rfl, ⟨rfl, N⟩, hq⟩ := rm0 l s _ hw tables_1 i0 i1 va cl.cls v1 v2 s.heap s.heap.size (Nat.le_refl _) S_va V_va E_va F_n1 F_n2 S_v1 S_v2 E_v1 E_v2 p e ha hc hk s m _ below hf ((Spec.applies_iff_loose hf).mp happ).1 ⟨rfl, State.Warmed39.refl s, rfl⟩ trivial
  refine ⟨n, _, h1, h2, h3, hpost _ _ _ _ _ _ ⟨Cond.after_iff.mpr rfl, Cond.after_iff.mpr (eq_i res_at (Term.int_eval (1)) rfl), trivial⟩ ⟨hq.1, hq.2.1, (hq.2.2.sift fun y hy => Or.inr (N y hy)).mono (by decide) (by decide)⟩⟩
theorem main_1_1 : Claimed_1_1 := comes_1 fun _ _ _ _ _ _ h hF => ⟨h.1, hF⟩
theorem main_1_2 : Claimed_1_2 := comes_1 fun _ _ _ _ _ _ h hF => ⟨h.2.1, hF⟩
end Jvm.Pilot.@@N@@
namespace Jvm.Pilot.@@N@@
open Jvm Jvm.ClassFile Sem Op Lib Jvm.Free Jvm.Stand Jvm.Pilot.@@N@@.Jvm.D
/-! MADE BY PROGRAM (witnessworld.py) out of the Statement's table words and the real class files: 13 classes; the members and pool entries that the words name. The judged class is class 1, her method 1. -/
namespace start1
open Jvm.ClassFile
def u (s : String) : CpInfo := .utf8 (stringToUtf16 s)
/-- a pool by its gaps: so many unusable entries, then the entry; so many at the end -/
def gap : Nat → List CpInfo → List CpInfo
  | 0, r => r
  | n + 1, r => .unusable :: gap n r
def poolList (es : List (Nat × CpInfo)) (last : Nat) : List CpInfo := es.foldr (fun e r => gap e.1 (e.2 :: r)) (gap last [])
def pool (es : List (Nat × CpInfo)) (last : Nat) : Array CpInfo := ⟨poolList es last⟩
def fileOf (pool : Array CpInfo) (this : Nat) (attrs : Array Attribute := #[]) (ms : Array MethodInfo := #[]) (fl : Nat := 33) (sup : Nat := 0) (ifs : Array Nat := #[]) (fds : Array FieldInfo := #[]) : ClassFile where
  minorVersion := 0
  majorVersion := 65
  constantPool := pool
  accessFlags := fl
  thisClass := this
  superClass := sup
  interfaces := ifs
  fields := fds
  methods := ms
  attributes := attrs
def plain (name : String) (sup : Option ClassId) : Class where
  name := name
  kind := .ordinary
  loader := none
  accessFlags := 33
  super := sup
  interfaces := #[]
  cf := none
  fields := #[]
  methods := #[]
  instanceTypes := #[]
  staticTypes := #[]
  resolved := #[]
  callSites := []
  init := .initialized
  statics := none
  mirror := none

def pool0 : Array CpInfo := pool [(5, u "<init>"), (0, u "()V"), (1, .class_ 10), (1, u "java/lang/Object"), (85, u "clone"), (0, u "()Ljava/lang/Object;")] 26

def k0m0 : Method := { name := "<init>", desc := "()V", sig := { parameters := [], returnType := none }, accessFlags := 1, code := none }
def k0m1 : Method := { name := "clone", desc := "()Ljava/lang/Object;", sig := { parameters := [], returnType := some (.object "java/lang/Object") }, accessFlags := 260, code := none }
/-- java/lang/Object -/
def k0 : Class := { plain "java/lang/Object" none with
  accessFlags := 33
  interfaces := #[]
  cf := some (fileOf pool0 8 #[] #[{ accessFlags := 1, nameIndex := 5, descriptorIndex := 6, attributes := #[] }, { accessFlags := 260, nameIndex := 96, descriptorIndex := 97, attributes := #[] }] 33 0 #[] #[])
  fields := #[]
  methods := #[k0m0, k0m1]
  instanceTypes := #[]
  staticTypes := #[]
  resolved := Array.replicate 124 none
  statics := none }

def pool1 : Array CpInfo := pool [(2, .class_ 4), (1, u "java/lang/Object"), (0, u "<init>"), (0, u "()V"), (0, .methodref 8 9), (0, .class_ 10), (0, .nameAndType 11 12), (0, u "com/example/cairn/cairn/graph/ChangedPathsVersionOfPinLaw"), (0, u "check"), (0, u "(I)Z"), (0, .fieldref 14 15), (0, .class_ 16), (0, .nameAndType 17 18), (0, u "com/example/cairn/cairn/graph/ChangedPathsVersion"), (0, u "V1"), (0, u "Lcom/example/cairn/cairn/graph/ChangedPathsVersion;"), (0, .methodref 14 20), (0, .nameAndType 21 22), (0, u "number"), (0, u "()I"), (0, .methodref 14 24), (0, .nameAndType 25 26), (0, u "of"), (0, u "(I)Lcom/example/cairn/cairn/graph/ChangedPathsVersion;"), (0, .fieldref 14 28), (0, .nameAndType 29 18), (0, u "V2"), (2, u "law"), (0, u "(II)Z")] 3

def k1m0 : Method := { name := "<init>", desc := "()V", sig := { parameters := [], returnType := none }, accessFlags := 2, code := none }
def k1c1 : Code := { maxStack := 2, maxLocals := 7, code := code, exceptionTable := #[], attributes := #[] }
def k1m1 : Method := { name := "law", desc := "(II)Z", sig := { parameters := [.int, .int], returnType := some .boolean }, accessFlags := 9, code := some k1c1 }
def k1c2 : Code := { maxStack := 2, maxLocals := 2, code := method_3_code, exceptionTable := #[], attributes := #[] }
def k1m2 : Method := { name := "check", desc := "(I)Z", sig := { parameters := [.int], returnType := some .boolean }, accessFlags := 10, code := some k1c2 }
/-- com/example/cairn/cairn/graph/ChangedPathsVersionOfPinLaw -/
def k1 : Class := { plain "com/example/cairn/cairn/graph/ChangedPathsVersionOfPinLaw" (some 0) with
  accessFlags := 49
  interfaces := #[]
  cf := some (fileOf pool1 8 #[] #[{ accessFlags := 2, nameIndex := 5, descriptorIndex := 6, attributes := #[] }, { accessFlags := 9, nameIndex := 32, descriptorIndex := 33, attributes := #[] }, { accessFlags := 10, nameIndex := 11, descriptorIndex := 12, attributes := #[] }] 49 2 #[] #[])
  fields := #[]
  methods := #[k1m0, k1m1, k1m2]
  instanceTypes := #[]
  staticTypes := #[]
  resolved := Array.replicate 37 none
  statics := none }

def pool2 : Array CpInfo := pool [(1, .class_ 2), (0, u "java/lang/constant/Constable"), (0, .class_ 4), (0, u "java/lang/Object")] 6

/-- java/lang/constant/Constable -/
def k2 : Class := { plain "java/lang/constant/Constable" (some 0) with
  accessFlags := 1537
  interfaces := #[]
  cf := some (fileOf pool2 1 #[] #[] 1537 3 #[] #[])
  fields := #[]
  methods := #[]
  instanceTypes := #[]
  staticTypes := #[]
  resolved := Array.replicate 11 none
  statics := none }

def pool3 : Array CpInfo := pool [(1, .class_ 2), (0, u "java/lang/Comparable"), (0, .class_ 4), (0, u "java/lang/Object")] 7

/-- java/lang/Comparable -/
def k3 : Class := { plain "java/lang/Comparable" (some 0) with
  accessFlags := 1537
  interfaces := #[]
  cf := some (fileOf pool3 1 #[] #[] 1537 3 #[] #[])
  fields := #[]
  methods := #[]
  instanceTypes := #[]
  staticTypes := #[]
  resolved := Array.replicate 12 none
  statics := none }

def pool4 : Array CpInfo := pool [(1, .class_ 2), (0, u "java/io/Serializable"), (0, .class_ 4), (0, u "java/lang/Object")] 2

/-- java/io/Serializable -/
def k4 : Class := { plain "java/io/Serializable" (some 0) with
  accessFlags := 1537
  interfaces := #[]
  cf := some (fileOf pool4 1 #[] #[] 1537 3 #[] #[])
  fields := #[]
  methods := #[]
  instanceTypes := #[]
  staticTypes := #[]
  resolved := Array.replicate 7 none
  statics := none }

def pool5 : Array CpInfo := pool [(2, .class_ 4), (1, u "java/lang/Enum"), (0, u "name"), (0, u "Ljava/lang/String;"), (2, u "ordinal"), (0, u "I"), (1, .class_ 14), (1, u "java/lang/Object"), (4, u "hash"), (86, .class_ 108), (1, u "java/lang/Enum$EnumDesc"), (2, .class_ 112), (0, u "java/lang/constant/Constable"), (0, .class_ 114), (0, u "java/lang/Comparable"), (0, .class_ 116), (0, u "java/io/Serializable")] 87

/-- java/lang/Enum -/
def k5 : Class := { plain "java/lang/Enum" (some 0) with
  accessFlags := 1057
  interfaces := #[2, 3, 4]
  cf := some (fileOf pool5 2 #[.nestMembers #[106]] #[] 1057 12 #[111, 113, 115] #[{ accessFlags := 18, nameIndex := 5, descriptorIndex := 6, attributes := #[] }, { accessFlags := 18, nameIndex := 9, descriptorIndex := 10, attributes := #[] }, { accessFlags := 2, nameIndex := 19, descriptorIndex := 10, attributes := #[] }])
  fields := #[{ name := "name", type := (.object "java/lang/String"), accessFlags := 18, slot := 0, constantValue := 0 }, { name := "ordinal", type := .int, accessFlags := 18, slot := 1, constantValue := 0 }, { name := "hash", type := .int, accessFlags := 2, slot := 2, constantValue := 0 }]
  methods := #[]
  instanceTypes := #[(.object "java/lang/String"), .int, .int]
  staticTypes := #[]
  resolved := Array.replicate 204 none
  statics := none }

def pool6 : Array CpInfo := pool [(1, .class_ 2), (0, u "com/example/cairn/cairn/graph/ChangedPathsVersion"), (2, u "V1"), (0, u "Lcom/example/cairn/cairn/graph/ChangedPathsVersion;"), (2, u "V2"), (0, .fieldref 1 11), (0, .nameAndType 12 13), (0, u "$VALUES"), (0, u "[Lcom/example/cairn/cairn/graph/ChangedPathsVersion;"), (0, .methodref 15 16), (0, .class_ 13), (0, .nameAndType 17 18), (0, u "clone"), (0, u "()Ljava/lang/Object;"), (1, .class_ 22), (1, u "java/lang/Enum"), (6, .fieldref 1 30), (0, .nameAndType 31 32), (0, u "number"), (0, u "I"), (0, .methodref 1 34), (0, .nameAndType 35 36), (0, u "values"), (0, u "()[Lcom/example/cairn/cairn/graph/ChangedPathsVersion;"), (14, u "()I"), (0, u "of"), (0, u "(I)Lcom/example/cairn/cairn/graph/ChangedPathsVersion;")] 6

def k6c0 : Code := { maxStack := 1, maxLocals := 0, code := prog_7_method_1_code, exceptionTable := #[], attributes := #[] }
def k6m0 : Method := { name := "values", desc := "()[Lcom/example/cairn/cairn/graph/ChangedPathsVersion;", sig := { parameters := [], returnType := some (.array (.object "com/example/cairn/cairn/graph/ChangedPathsVersion")) }, accessFlags := 9, code := some k6c0 }
def k6c1 : Code := { maxStack := 1, maxLocals := 1, code := prog_7_method_4_code, exceptionTable := #[], attributes := #[] }
def k6m1 : Method := { name := "number", desc := "()I", sig := { parameters := [], returnType := some .int }, accessFlags := 1, code := some k6c1 }
def k6c2 : Code := { maxStack := 2, maxLocals := 5, code := prog_7_method_5_code, exceptionTable := #[], attributes := #[] }
def k6m2 : Method := { name := "of", desc := "(I)Lcom/example/cairn/cairn/graph/ChangedPathsVersion;", sig := { parameters := [.int], returnType := some (.object "com/example/cairn/cairn/graph/ChangedPathsVersion") }, accessFlags := 9, code := some k6c2 }
/-- com/example/cairn/cairn/graph/ChangedPathsVersion -/
def k6 : Class := { plain "com/example/cairn/cairn/graph/ChangedPathsVersion" (some 5) with
  accessFlags := 16433
  interfaces := #[]
  cf := some (fileOf pool6 1 #[] #[{ accessFlags := 9, nameIndex := 35, descriptorIndex := 36, attributes := #[] }, { accessFlags := 1, nameIndex := 31, descriptorIndex := 51, attributes := #[] }, { accessFlags := 9, nameIndex := 52, descriptorIndex := 53, attributes := #[] }] 16433 20 #[] #[{ accessFlags := 16409, nameIndex := 5, descriptorIndex := 6, attributes := #[] }, { accessFlags := 16409, nameIndex := 9, descriptorIndex := 6, attributes := #[] }, { accessFlags := 18, nameIndex := 31, descriptorIndex := 32, attributes := #[] }, { accessFlags := 4122, nameIndex := 12, descriptorIndex := 13, attributes := #[] }])
  fields := #[{ name := "V1", type := (.object "com/example/cairn/cairn/graph/ChangedPathsVersion"), accessFlags := 16409, slot := 0, constantValue := 0 }, { name := "V2", type := (.object "com/example/cairn/cairn/graph/ChangedPathsVersion"), accessFlags := 16409, slot := 1, constantValue := 0 }, { name := "number", type := .int, accessFlags := 18, slot := 3, constantValue := 0 }, { name := "$VALUES", type := (.array (.object "com/example/cairn/cairn/graph/ChangedPathsVersion")), accessFlags := 4122, slot := 2, constantValue := 0 }]
  methods := #[k6m0, k6m1, k6m2]
  instanceTypes := #[(.object "java/lang/String"), .int, .int, .int]
  staticTypes := #[(.object "com/example/cairn/cairn/graph/ChangedPathsVersion"), (.object "com/example/cairn/cairn/graph/ChangedPathsVersion"), (.array (.object "com/example/cairn/cairn/graph/ChangedPathsVersion"))]
  resolved := Array.replicate 60 none
  statics := some 0 }

def pool7 : Array CpInfo := pool [(1, .class_ 2), (0, u "java/lang/Cloneable"), (0, .class_ 4), (0, u "java/lang/Object")] 2

/-- java/lang/Cloneable -/
def k7 : Class := { plain "java/lang/Cloneable" (some 0) with
  accessFlags := 1537
  interfaces := #[]
  cf := some (fileOf pool7 1 #[] #[] 1537 3 #[] #[])
  fields := #[]
  methods := #[]
  instanceTypes := #[]
  staticTypes := #[]
  resolved := Array.replicate 7 none
  statics := none }

/-- the primitive byte -/
def k8 : Class := { plain "byte" none with kind := .primitive 'B', accessFlags := 0x411 }
/-- [B -/
def k9 : Class := { plain "[B" (some 0) with kind := .array 8 .byte, interfaces := #[7, 4], accessFlags := 1041 }

/-- the primitive int -/
def k10 : Class := { plain "int" none with kind := .primitive 'I', accessFlags := 0x411 }
/-- [I -/
def k11 : Class := { plain "[I" (some 0) with kind := .array 10 .int, interfaces := #[7, 4], accessFlags := 1041 }

/-- [Lcom/example/cairn/cairn/graph/ChangedPathsVersion; -/
def k12 : Class := { plain "[Lcom/example/cairn/cairn/graph/ChangedPathsVersion;" (some 0) with kind := .array 6 (.object "com/example/cairn/cairn/graph/ChangedPathsVersion"), interfaces := #[7, 4], accessFlags := 1041 }

def heap : Heap := #[{ cls := 6, slots := #[.ref 2, .ref 3, .ref 1], vm := .statics 6 },
  { cls := 12, slots := #[.ref 2, .ref 3], vm := .none },
  { cls := 6, slots := #[.null, .int 0, .int 0, .int 1], vm := .none },
  { cls := 6, slots := #[.null, .int 1, .int 0, .int 2], vm := .none }]
def classes : Array Class := #[k0, k1, k2, k3, k4, k5, k6, k7, k8, k9, k10, k11, k12]
def interned : List (Array UInt16 × Addr) := []
def slotsUsed : Nat := 13
def theMethod : MethodId := ⟨1, 1⟩
def args0 : Array Value := #[.int 1, .int 5]
def aboutOver (below : List Frame) : State where
  vm := { classes := classes, interned := interned.toArray }
  heap := heap
  slotsUsed := slotsUsed
  threads := #[{ frames := .invoking theMethod args0 :: below }]
def below0 : List Frame := [.native { method := ⟨0, 0⟩, args := #[] }]
def about1 : State := aboutOver below0
def p0 : Program := .bare "" "" ""
def e0 : Env := launch0.env 0 0 0
theorem w_frames : about1.frames = Frame.invoking theMethod args0 :: below0 := rfl
set_option maxRecDepth 65536 in
theorem w_args : argsFit about1.vm theMethod args0 = true := by decide +kernel
set_option maxRecDepth 65536 in
theorem w_heap : heapFits about1 = true := by decide +kernel
set_option maxRecDepth 65536 in
theorem w_runnable : about1.curStatus? = some .runnable := by decide +kernel
set_option maxRecDepth 65536 in
theorem w_alone : about1.alone = true := by decide +kernel
set_option maxRecDepth 65536 in
theorem w_named : about1.methodNamed? x = some theMethod := by decide +kernel
set_option maxRecDepth 65536 in
theorem w_hears : about1.hears theMethod below0 = true := by decide +kernel
set_option maxRecDepth 65536 in
theorem w_ripe : about1.ripe theMethod args0 below0 = true := by decide +kernel
theorem w_running : about1.status = .running := rfl
set_option maxRecDepth 65536 in
theorem w_room : about1.hasRoom e0.platform room_1 = true :=
  launch0.hasRoom_least _ room_1 (by decide +kernel) (by decide +kernel) (by decide +kernel) (by decide +kernel) (by decide +kernel) (by decide +kernel)
theorem allAtoms_all (ts : List Jvm.Cond) (a : Array Jvm.Value) (st : Jvm.State) : (allAtoms ts).before a st = ts.all (fun c => c.before a st) := by
  induction ts with
  | nil => rfl
  | cons c t ih =>
    show (Jvm.Cond.and c (allAtoms t)).before a st = _
    rw [Jvm.Cond.before_and, ih, List.all_cons]
def words1 : List Jvm.Cond := Jvm.Cond.code x code maxLocals ret :: tables_1
/-- a 'code' word, met by the world's own term for the bytes: nothing is compared byte by byte -/
theorem code_word {y : MethodName} {bytes : ByteArray} {mx : Nat} {rt : Option FieldType} {a : Array Value} {s : State} {m : MethodId} {meth : Method} {c : Code} (h1 : s.methodNamed? y = some m) (h2 : s.vm.method? m = some meth) (h3 : meth.code = some c) (h4 : c.code = bytes)
    (h5 : (c.maxLocals == mx && c.exceptionTable.isEmpty && decide (c.maxStack ≤ mostOperands) && decide (meth.sig.returnType = rt) && !meth.locks && decide (parseMethodDescriptor y.desc = some meth.sig)) = true) : (Jvm.Cond.code y bytes mx rt).before a s = true := by
  simp only [Bool.and_eq_true, beq_iff_eq, Bool.not_eq_true', decide_eq_true_eq] at h5
  obtain ⟨⟨⟨⟨⟨g1, g2⟩, g3⟩, g4⟩, g5⟩, g6⟩ := h5
  simp [Cond.before, Cond.holds, Cond.value, h1, h2, h3, h4, g1, g2, g3, g4, g5, g6]
def isCode : Jvm.Cond → Bool
  | .code _ _ _ _ => true
  | _ => false
theorem all_split {L : List Jvm.Cond} {P : Jvm.Cond → Bool} (h1 : L.all (fun c => isCode c || P c) = true) (h2 : ∀ c ∈ L.filter isCode, P c = true) : L.all P = true := by
  refine List.all_eq_true.mpr fun c hc => ?_
  have h := List.all_eq_true.mp h1 c hc
  rcases Bool.eq_false_or_eq_true (isCode c) with hi | hi
  · exact h2 c (List.mem_filter.mpr ⟨hc, hi⟩)
  · simpa [hi] using h
set_option maxRecDepth 65536 in
theorem w_c0 : (Jvm.Cond.code x code maxLocals ret).before args0 about1 = true := code_word (m := ⟨1, 1⟩) (meth := k1m1) (c := k1c1) (by decide +kernel) rfl rfl rfl (by decide +kernel)
set_option maxRecDepth 65536 in
theorem w_c1 : (Jvm.Cond.code ({ cls := "com/example/cairn/cairn/graph/ChangedPathsVersionOfPinLaw", name := "check", desc := "(I)Z" } : Jvm.MethodName) method_3_code (2 : Nat) (Option.some Jvm.ClassFile.FieldType.boolean)).before args0 about1 = true := code_word (m := ⟨1, 2⟩) (meth := k1m2) (c := k1c2) (by decide +kernel) rfl rfl rfl (by decide +kernel)
set_option maxRecDepth 65536 in
theorem w_c2 : (Jvm.Cond.code ({ cls := "com/example/cairn/cairn/graph/ChangedPathsVersion", name := "of", desc := "(I)Lcom/example/cairn/cairn/graph/ChangedPathsVersion;" } : Jvm.MethodName) prog_7_method_5_code (5 : Nat) (Option.some (Jvm.ClassFile.FieldType.object "com/example/cairn/cairn/graph/ChangedPathsVersion"))).before args0 about1 = true := code_word (m := ⟨6, 2⟩) (meth := k6m2) (c := k6c2) (by decide +kernel) rfl rfl rfl (by decide +kernel)
set_option maxRecDepth 65536 in
theorem w_c3 : (Jvm.Cond.code ({ cls := "com/example/cairn/cairn/graph/ChangedPathsVersion", name := "values", desc := "()[Lcom/example/cairn/cairn/graph/ChangedPathsVersion;" } : Jvm.MethodName) prog_7_method_1_code (0 : Nat) (Option.some (Jvm.ClassFile.FieldType.array (Jvm.ClassFile.FieldType.object "com/example/cairn/cairn/graph/ChangedPathsVersion")))).before args0 about1 = true := code_word (m := ⟨6, 0⟩) (meth := k6m0) (c := k6c0) (by decide +kernel) rfl rfl rfl (by decide +kernel)
set_option maxRecDepth 65536 in
theorem w_c4 : (Jvm.Cond.code ({ cls := "com/example/cairn/cairn/graph/ChangedPathsVersion", name := "number", desc := "()I" } : Jvm.MethodName) prog_7_method_4_code (1 : Nat) (Option.some Jvm.ClassFile.FieldType.int)).before args0 about1 = true := code_word (m := ⟨6, 1⟩) (meth := k6m1) (c := k6c1) (by decide +kernel) rfl rfl rfl (by decide +kernel)
def codes1 : List Jvm.Cond := [Jvm.Cond.code x code maxLocals ret, Jvm.Cond.code ({ cls := "com/example/cairn/cairn/graph/ChangedPathsVersionOfPinLaw", name := "check", desc := "(I)Z" } : Jvm.MethodName) method_3_code (2 : Nat) (Option.some Jvm.ClassFile.FieldType.boolean), Jvm.Cond.code ({ cls := "com/example/cairn/cairn/graph/ChangedPathsVersion", name := "of", desc := "(I)Lcom/example/cairn/cairn/graph/ChangedPathsVersion;" } : Jvm.MethodName) prog_7_method_5_code (5 : Nat) (Option.some (Jvm.ClassFile.FieldType.object "com/example/cairn/cairn/graph/ChangedPathsVersion")), Jvm.Cond.code ({ cls := "com/example/cairn/cairn/graph/ChangedPathsVersion", name := "values", desc := "()[Lcom/example/cairn/cairn/graph/ChangedPathsVersion;" } : Jvm.MethodName) prog_7_method_1_code (0 : Nat) (Option.some (Jvm.ClassFile.FieldType.array (Jvm.ClassFile.FieldType.object "com/example/cairn/cairn/graph/ChangedPathsVersion"))), Jvm.Cond.code ({ cls := "com/example/cairn/cairn/graph/ChangedPathsVersion", name := "number", desc := "()I" } : Jvm.MethodName) prog_7_method_4_code (1 : Nat) (Option.some Jvm.ClassFile.FieldType.int)]
set_option maxRecDepth 65536 in
theorem codes_eq : words1.filter isCode = codes1 := rfl
theorem w_codes : ∀ c ∈ words1.filter isCode, c.before args0 about1 = true := by
  rw [codes_eq]
  intro c hc
  simp only [codes1, List.mem_cons, List.not_mem_nil, or_false] at hc
  rcases hc with rfl | rfl | rfl | rfl | rfl
  · exact w_c0
  · exact w_c1
  · exact w_c2
  · exact w_c3
  · exact w_c4
set_option maxRecDepth 65536 in
theorem w_t1 : (words1.take 24).all (fun c => isCode c || c.before args0 about1) = true := by decide +kernel
set_option maxRecDepth 65536 in
theorem w_t2 : (words1.drop 24).all (fun c => isCode c || c.before args0 about1) = true := by decide +kernel
theorem w_tables : (allAtoms (Jvm.Cond.code x code maxLocals ret :: tables_1)).before args0 about1 = true := by
  rw [allAtoms_all]
  show words1.all (fun c => c.before args0 about1) = true
  refine all_split ?_ w_codes
  rw [← List.take_append_drop 24 words1, List.all_append, w_t1, w_t2]
  rfl
set_option maxRecDepth 65536 in
theorem w_case : (Jvm.Cond.and given_1 narrow_1).before args0 about1 = true := by decide +kernel
theorem w_applies : (headSpec (Jvm.Cond.code x code maxLocals ret :: tables_1) room_1).applies x e0.platform about1 = true :=
  (Spec.applies_iff w_frames).mpr ⟨w_running, w_runnable, w_alone, w_named, w_hears, w_ripe, w_room, w_tables⟩
theorem atStart : AtStart classFile x code maxLocals ret World_1 tables_1 room_1 Calls_1 rest_1 Pre_1 launch0 p0 e0 about1 theMethod args0 below0 :=
  ⟨lists_1, trivial, launch0.admits_env _ _ _, launch0.least_env, fairChoices_fair.cas, fairChoices_fair.clock, w_frames, w_args, w_heap, w_applies, trivial, trivial, w_case⟩
end start1
theorem witness_1 : WitnessClaimed_1 := ⟨start1.p0, start1.e0, start1.about1, start1.theMethod, start1.args0, start1.below0, start1.atStart⟩
end Jvm.Pilot.@@N@@
