import JvmDerived
import JvmDerived.Pilot.@@N@@Statement
import JvmDerived.Pilot.@@N@@Code
set_option linter.unusedVariables false
set_option linter.unusedSimpArgs false
namespace Jvm.Pilot.@@N@@
open Jvm Jvm.ClassFile Sem Op Lib Jvm.Free Jvm.Stand Jvm.LawKit Jvm.RoadKit Bundle Jvm.Pilot.@@N@@.Jvm.D
/-- what a return of the int z asks of the frames below -/
abbrev own_Rt (e : Env) (T : State) (m : MethodId) (fs : List Frame) (w : Value) : Prop := ∀ (f : JFrame) (acts : List Action), f.method = m → f.locked = none → f.entered = [] → (doReturn e (T.setTop f) acts (some w)).1 = T.setFrames fs
abbrev own_AX : String := "com/example/homespun_functions/homespunfunctions/xpath/Axis"
abbrev own_D : String := "Lcom/example/homespun_functions/homespunfunctions/xpath/Axis;"
theorem d1_0 : decode prog_84_method_7_code 0 = .ok (.aload_n 0, 1) := by decide +kernel
theorem d1_1 : decode prog_84_method_7_code 1 = .ok (.getstatic 13, 3) := by decide +kernel
theorem d1_4 : decode prog_84_method_7_code 4 = .ok (.if_acmp .eq 17, 3) := by decide +kernel
theorem d1_7 : decode prog_84_method_7_code 7 = .ok (.aload_n 0, 1) := by decide +kernel
theorem d1_8 : decode prog_84_method_7_code 8 = .ok (.getstatic 10, 3) := by decide +kernel
theorem d1_11 : decode prog_84_method_7_code 11 = .ok (.if_acmp .eq 10, 3) := by decide +kernel
theorem d1_14 : decode prog_84_method_7_code 14 = .ok (.aload_n 0, 1) := by decide +kernel
theorem d1_15 : decode prog_84_method_7_code 15 = .ok (.getstatic 28, 3) := by decide +kernel
theorem d1_18 : decode prog_84_method_7_code 18 = .ok (.if_acmp .ne 7, 3) := by decide +kernel
theorem d1_21 : decode prog_84_method_7_code 21 = .ok (.iconst 1, 1) := by decide +kernel
theorem d1_22 : decode prog_84_method_7_code 22 = .ok (.goto 4, 3) := by decide +kernel
theorem d1_25 : decode prog_84_method_7_code 25 = .ok (.iconst 0, 1) := by decide +kernel
theorem d1_26 : decode prog_84_method_7_code 26 = .ok (.ireturn, 1) := by decide +kernel
theorem pn_1 : plainName "com/example/homespun_functions/homespunfunctions/xpath/Axis" = true := by first | (simp [plainName, overriddenIn]; done) | decide +kernel
theorem ef_1 (m : MethodId) (x0 : Addr) : entryFrame m #[(.ref x0)] 1 = (mkF m 0 #[.val (.ref x0)] []) := by first | (simp [entryFrame, mkF, argsToLocals, Value.category]; done) | rfl
theorem pd_1 : parseMethodDescriptor "()Z" = some ⟨[], some .boolean⟩ := by decide +kernel
theorem d2_0 : decode prog_84_method_5_code 0 = .ok (.aload_n 0, 1) := by decide +kernel
theorem d2_1 : decode prog_84_method_5_code 1 = .ok (.getfield 66, 3) := by decide +kernel
theorem d2_4 : decode prog_84_method_5_code 4 = .ok (.ireturn, 1) := by decide +kernel
theorem pn_2 : plainName "com/example/homespun_functions/homespunfunctions/xpath/Axis" = true := by first | (simp [plainName, overriddenIn]; done) | decide +kernel
theorem ef_2 (m : MethodId) (x0 : Addr) : entryFrame m #[(.ref x0)] 1 = (mkF m 0 #[.val (.ref x0)] []) := by first | (simp [entryFrame, mkF, argsToLocals, Value.category]; done) | rfl
theorem pd_2 : parseMethodDescriptor "()Z" = some ⟨[], some .boolean⟩ := by decide +kernel
def own_k (a c t n : Addr) : Int32 := if a = c then 1 else if a = t then 1 else if a = n then 1 else 0
def Q1 (a1 c1 t1 n1 : Addr) (h0 : Heap) (n0 : Nat) (v : Option Value) (h : Heap) (L : List Loc) : Prop := v = some (.int (own_k a1 c1 t1 n1)) ∧ Fr n0 L ∧ h = h0
set_option maxRecDepth 65536 in
set_option maxHeartbeats 40000000 in
theorem rm1 (l : Launch) (Z : State) (a0 : Array Value) (hw : ∀ d ∈ tables_1, d.before a0 Z = true) (ws : List Jvm.Cond) (a1 c1 t1 n1 : Addr) (h0 : Heap) (n0 : Nat) (Z0 : n0 ≤ h0.size) (SC : Sta Z h0 "com/example/homespun_functions/homespunfunctions/xpath/Axis" "CHILD" "Lcom/example/homespun_functions/homespunfunctions/xpath/Axis;" (.ref c1)) (ST : Sta Z h0 "com/example/homespun_functions/homespunfunctions/xpath/Axis" "ATTRIBUTE" "Lcom/example/homespun_functions/homespunfunctions/xpath/Axis;" (.ref t1)) (SN : Sta Z h0 "com/example/homespun_functions/homespunfunctions/xpath/Axis" "NAMESPACE" "Lcom/example/homespun_functions/homespunfunctions/xpath/Axis;" (.ref n1)) :
    MetFree l (⟨"com/example/homespun_functions/homespunfunctions/xpath/Axis", "isKept", "()Z"⟩ : MethodName) (head1 (Jvm.Cond.code (⟨"com/example/homespun_functions/homespunfunctions/xpath/Axis", "isKept", "()Z"⟩ : MethodName) prog_84_method_7_code 1 (some .boolean) :: ws) ({ frames := 0, cells := 0, slots := 0, locals := 0 } : Room)) (fun a U => a = #[(.ref a1)] ∧ Z.Warmed39 U.vm ∧ U.heap = h0) (fun _ _ _ _ _ => True) (fun _ U o U' => ∃ v L, o = .returned v ∧ Q1 a1 c1 t1 n1 h0 n0 v U'.heap L ∧ FrameEnd U o U' L ({ frames := 0, cells := 0, slots := 0, locals := 0 } : Room).cells ({ frames := 0, cells := 0, slots := 0, locals := 0 } : Room).slots) := by
  refine MetFree.of_bodySF (plainFor_of_name pn_1) hisR ?_
  intro p e s m args below meth c s₁ Bd hml0 hP hK
  obtain ⟨rfl, hZ, hh⟩ := hP
  have hx := Bd.exec
  have hby := Bd.bytes
  have hret := Bd.returns
  have hml : c.maxLocals = 1 := hml0
  have hown : s.vm.findClass "com/example/homespun_functions/homespunfunctions/xpath/Axis" = some m.cls := findClass_of_methodNamed Bd.named
  have X0 : Stand p l e ({ frames := 0, cells := 0, slots := 0, locals := 0 } : Room) s m #[(.ref a1)] below meth c s₁ [] 0 0 := Stand.of_body Bd
  have e0 : s₁.heap = h0 := by rw [← hh, Bd.state]; rfl
  have N0 := Fr.nil n0
  have pre0 : ∀ t, Steps p.tables e below (s₁.setTop (mkF m 0 #[.val (.ref a1)] [])) t → Steps p.tables e below (s₁.setTop (entryFrame m #[(.ref a1)] 1)) t := fun t k => castTop (ef_1 m a1) k
  have sg1 : ∀ t, Steps p.tables e below (s₁.setTop (mkF m 1 #[.val (.ref a1)] [(.ref a1)])) t → Steps p.tables e below (s₁.setTop (mkF m 0 #[.val (.ref a1)] [])) t := by
    intro t k
    show Steps p.tables e below (s₁.setTop (mkF m 0 #[.val (.ref a1)] [])) _
    refine XS.aloadN X0.here hx rfl (hb hby d1_0) rfl rfl ?_
    show Steps p.tables e below (s₁.setTop (mkF m 1 #[.val (.ref a1)] [(.ref a1)])) _
    exact k
  obtain ⟨T2, X2, e2, st2⟩ := getS (host := "") X0 hx hZ hown (hw _ (List.mem_of_getElem? (i := 9) rfl)) Via.refl e0 SC (g := (mkF m 1 #[.val (.ref a1)] [(.ref a1)])) rfl (hb hby d1_1)
  by_cases q1 : a1 = c1
  · skip
    have sg3 : ∀ t, Steps p.tables e below (T2.setTop (mkF m 26 #[.val (.ref a1)] [(.int (1 : Int32))])) t → Steps p.tables e below (T2.setTop (mkF m 21 #[.val (.ref a1)] [])) t := by
      intro t k
      show Steps p.tables e below (T2.setTop (mkF m 21 #[.val (.ref a1)] [])) _
      refine XS.iconst X2.here hx rfl (hb hby d1_21) ?_
      show Steps p.tables e below (T2.setTop (mkF m 22 #[.val (.ref a1)] [(.int (1 : Int32))])) _
      refine XS.goto X2.here hx rfl (pc0 := 22) (pc' := 26) rfl (hb hby d1_22) (by decide) (by decide) ?_
      show Steps p.tables e below (T2.setTop (mkF m 26 #[.val (.ref a1)] [(.int (1 : Int32))])) _
      exact k
    have hv : own_k a1 c1 t1 n1 = 1 := by simp [own_k, q1]
    obtain ⟨fs, hr, hrun, hended, hW, hsame⟩ := X2.leave (v := some (.int (own_k a1 c1 t1 n1))) (fun h => by rw [hret] at h; cases h)
    refine ⟨_, _, pre0 _ ?_, hrun, hended, _, _, rfl, ?_, ⟨_, rfl⟩, hW, hsame.mono (by decide) (by decide)⟩
    · refine sg1 _ ?_
      refine st2 _ ?_
      show Steps p.tables e below (T2.setTop (mkF m 4 #[.val (.ref a1)] [(.ref c1), (.ref a1)])) _
      refine XT.acmpYes X2.here hx rfl (pc0 := 4) (pc' := 21) rfl (hb hby d1_4) rfl rfl rfl (by simp [XT.acmp, q1]) (by decide) (by decide) ?_
      refine sg3 _ ?_
      show Steps p.tables e below (T2.setTop (mkF m 26 #[.val (.ref a1)] [(.int (1 : Int32))])) _
      exact retN X2 hx (t := .boolean) hret (by simp) (hb hby d1_26) (by rw [hv] at hr; exact hr)
    · exact ⟨rfl, N0, e2⟩
  have sg3 : ∀ t, Steps p.tables e below (T2.setTop (mkF m 8 #[.val (.ref a1)] [(.ref a1)])) t → Steps p.tables e below (T2.setTop (mkF m 7 #[.val (.ref a1)] [])) t := by
    intro t k
    show Steps p.tables e below (T2.setTop (mkF m 7 #[.val (.ref a1)] [])) _
    refine XS.aloadN X2.here hx rfl (hb hby d1_7) rfl rfl ?_
    show Steps p.tables e below (T2.setTop (mkF m 8 #[.val (.ref a1)] [(.ref a1)])) _
    exact k
  obtain ⟨T4, X4, e4, st4⟩ := getS (host := "") X2 hx hZ hown (hw _ (List.mem_of_getElem? (i := 11) rfl)) Via.refl e2 ST (g := (mkF m 8 #[.val (.ref a1)] [(.ref a1)])) rfl (hb hby d1_8)
  by_cases q2 : a1 = t1
  · skip
    have sg5 : ∀ t, Steps p.tables e below (T4.setTop (mkF m 26 #[.val (.ref a1)] [(.int (1 : Int32))])) t → Steps p.tables e below (T4.setTop (mkF m 21 #[.val (.ref a1)] [])) t := by
      intro t k
      show Steps p.tables e below (T4.setTop (mkF m 21 #[.val (.ref a1)] [])) _
      refine XS.iconst X4.here hx rfl (hb hby d1_21) ?_
      show Steps p.tables e below (T4.setTop (mkF m 22 #[.val (.ref a1)] [(.int (1 : Int32))])) _
      refine XS.goto X4.here hx rfl (pc0 := 22) (pc' := 26) rfl (hb hby d1_22) (by decide) (by decide) ?_
      show Steps p.tables e below (T4.setTop (mkF m 26 #[.val (.ref a1)] [(.int (1 : Int32))])) _
      exact k
    have hv : own_k a1 c1 t1 n1 = 1 := by simp [own_k, q2]
    obtain ⟨fs, hr, hrun, hended, hW, hsame⟩ := X4.leave (v := some (.int (own_k a1 c1 t1 n1))) (fun h => by rw [hret] at h; cases h)
    refine ⟨_, _, pre0 _ ?_, hrun, hended, _, _, rfl, ?_, ⟨_, rfl⟩, hW, hsame.mono (by decide) (by decide)⟩
    · refine sg1 _ ?_
      refine st2 _ ?_
      show Steps p.tables e below (T2.setTop (mkF m 4 #[.val (.ref a1)] [(.ref c1), (.ref a1)])) _
      refine XT.acmpNo X2.here hx rfl (hb hby d1_4) rfl rfl rfl (by simp [XT.acmp, q1]) ?_
      refine sg3 _ ?_
      refine st4 _ ?_
      show Steps p.tables e below (T4.setTop (mkF m 11 #[.val (.ref a1)] [(.ref t1), (.ref a1)])) _
      refine XT.acmpYes X4.here hx rfl (pc0 := 11) (pc' := 21) rfl (hb hby d1_11) rfl rfl rfl (by simp [XT.acmp, q2]) (by decide) (by decide) ?_
      refine sg5 _ ?_
      show Steps p.tables e below (T4.setTop (mkF m 26 #[.val (.ref a1)] [(.int (1 : Int32))])) _
      exact retN X4 hx (t := .boolean) hret (by simp) (hb hby d1_26) (by rw [hv] at hr; exact hr)
    · exact ⟨rfl, N0, e4⟩
  have sg5 : ∀ t, Steps p.tables e below (T4.setTop (mkF m 15 #[.val (.ref a1)] [(.ref a1)])) t → Steps p.tables e below (T4.setTop (mkF m 14 #[.val (.ref a1)] [])) t := by
    intro t k
    show Steps p.tables e below (T4.setTop (mkF m 14 #[.val (.ref a1)] [])) _
    refine XS.aloadN X4.here hx rfl (hb hby d1_14) rfl rfl ?_
    show Steps p.tables e below (T4.setTop (mkF m 15 #[.val (.ref a1)] [(.ref a1)])) _
    exact k
  obtain ⟨T6, X6, e6, st6⟩ := getS (host := "") X4 hx hZ hown (hw _ (List.mem_of_getElem? (i := 13) rfl)) Via.refl e4 SN (g := (mkF m 15 #[.val (.ref a1)] [(.ref a1)])) rfl (hb hby d1_15)
  by_cases q3 : a1 = n1
  · skip
    have sg7 : ∀ t, Steps p.tables e below (T6.setTop (mkF m 26 #[.val (.ref a1)] [(.int (1 : Int32))])) t → Steps p.tables e below (T6.setTop (mkF m 21 #[.val (.ref a1)] [])) t := by
      intro t k
      show Steps p.tables e below (T6.setTop (mkF m 21 #[.val (.ref a1)] [])) _
      refine XS.iconst X6.here hx rfl (hb hby d1_21) ?_
      show Steps p.tables e below (T6.setTop (mkF m 22 #[.val (.ref a1)] [(.int (1 : Int32))])) _
      refine XS.goto X6.here hx rfl (pc0 := 22) (pc' := 26) rfl (hb hby d1_22) (by decide) (by decide) ?_
      show Steps p.tables e below (T6.setTop (mkF m 26 #[.val (.ref a1)] [(.int (1 : Int32))])) _
      exact k
    have hv : own_k a1 c1 t1 n1 = 1 := by simp [own_k, q3]
    obtain ⟨fs, hr, hrun, hended, hW, hsame⟩ := X6.leave (v := some (.int (own_k a1 c1 t1 n1))) (fun h => by rw [hret] at h; cases h)
    refine ⟨_, _, pre0 _ ?_, hrun, hended, _, _, rfl, ?_, ⟨_, rfl⟩, hW, hsame.mono (by decide) (by decide)⟩
    · refine sg1 _ ?_
      refine st2 _ ?_
      show Steps p.tables e below (T2.setTop (mkF m 4 #[.val (.ref a1)] [(.ref c1), (.ref a1)])) _
      refine XT.acmpNo X2.here hx rfl (hb hby d1_4) rfl rfl rfl (by simp [XT.acmp, q1]) ?_
      refine sg3 _ ?_
      refine st4 _ ?_
      show Steps p.tables e below (T4.setTop (mkF m 11 #[.val (.ref a1)] [(.ref t1), (.ref a1)])) _
      refine XT.acmpNo X4.here hx rfl (hb hby d1_11) rfl rfl rfl (by simp [XT.acmp, q2]) ?_
      refine sg5 _ ?_
      refine st6 _ ?_
      show Steps p.tables e below (T6.setTop (mkF m 18 #[.val (.ref a1)] [(.ref n1), (.ref a1)])) _
      refine XT.acmpNo X6.here hx rfl (hb hby d1_18) rfl rfl rfl (by simp [XT.acmp, q3]) ?_
      refine sg7 _ ?_
      show Steps p.tables e below (T6.setTop (mkF m 26 #[.val (.ref a1)] [(.int (1 : Int32))])) _
      exact retN X6 hx (t := .boolean) hret (by simp) (hb hby d1_26) (by rw [hv] at hr; exact hr)
    · exact ⟨rfl, N0, e6⟩
  · skip
    have sg7 : ∀ t, Steps p.tables e below (T6.setTop (mkF m 26 #[.val (.ref a1)] [(.int (0 : Int32))])) t → Steps p.tables e below (T6.setTop (mkF m 25 #[.val (.ref a1)] [])) t := by
      intro t k
      show Steps p.tables e below (T6.setTop (mkF m 25 #[.val (.ref a1)] [])) _
      refine XS.iconst X6.here hx rfl (hb hby d1_25) ?_
      show Steps p.tables e below (T6.setTop (mkF m 26 #[.val (.ref a1)] [(.int (0 : Int32))])) _
      exact k
    have hv : own_k a1 c1 t1 n1 = 0 := by simp [own_k, q1, q2, q3]
    obtain ⟨fs, hr, hrun, hended, hW, hsame⟩ := X6.leave (v := some (.int (own_k a1 c1 t1 n1))) (fun h => by rw [hret] at h; cases h)
    refine ⟨_, _, pre0 _ ?_, hrun, hended, _, _, rfl, ?_, ⟨_, rfl⟩, hW, hsame.mono (by decide) (by decide)⟩
    · refine sg1 _ ?_
      refine st2 _ ?_
      show Steps p.tables e below (T2.setTop (mkF m 4 #[.val (.ref a1)] [(.ref c1), (.ref a1)])) _
      refine XT.acmpNo X2.here hx rfl (hb hby d1_4) rfl rfl rfl (by simp [XT.acmp, q1]) ?_
      refine sg3 _ ?_
      refine st4 _ ?_
      show Steps p.tables e below (T4.setTop (mkF m 11 #[.val (.ref a1)] [(.ref t1), (.ref a1)])) _
      refine XT.acmpNo X4.here hx rfl (hb hby d1_11) rfl rfl rfl (by simp [XT.acmp, q2]) ?_
      refine sg5 _ ?_
      refine st6 _ ?_
      show Steps p.tables e below (T6.setTop (mkF m 18 #[.val (.ref a1)] [(.ref n1), (.ref a1)])) _
      refine XT.acmpYes X6.here hx rfl (pc0 := 18) (pc' := 25) rfl (hb hby d1_18) rfl rfl rfl (by simp [XT.acmp, q3]) (by decide) (by decide) ?_
      refine sg7 _ ?_
      show Steps p.tables e below (T6.setTop (mkF m 26 #[.val (.ref a1)] [(.int (0 : Int32))])) _
      exact retN X6 hx (t := .boolean) hret (by simp) (hb hby d1_26) (by rw [hv] at hr; exact hr)
    · exact ⟨rfl, N0, e6⟩
def Q2 (a1 : Addr) (h0 : Heap) (n0 : Nat) (v : Option Value) (h : Heap) (L : List Loc) : Prop := v = some (.int (0 : Int32)) ∧ Fr n0 L ∧ h = h0
set_option maxRecDepth 65536 in
set_option maxHeartbeats 40000000 in
theorem rm2 (l : Launch) (Z : State) (a0 : Array Value) (hw : ∀ d ∈ tables_1, d.before a0 Z = true) (ws : List Jvm.Cond) (a1 : Addr) (h0 : Heap) (n0 : Nat) (Z0 : n0 ≤ h0.size) (FR : Fld Z h0 a1 "com/example/homespun_functions/homespunfunctions/xpath/Axis" "isReverse" "Z" (.int (0 : Int32))) :
    MetFree l (⟨"com/example/homespun_functions/homespunfunctions/xpath/Axis", "isReverse", "()Z"⟩ : MethodName) (head1 (Jvm.Cond.code (⟨"com/example/homespun_functions/homespunfunctions/xpath/Axis", "isReverse", "()Z"⟩ : MethodName) prog_84_method_5_code 1 (some .boolean) :: ws) ({ frames := 0, cells := 0, slots := 0, locals := 0 } : Room)) (fun a U => a = #[(.ref a1)] ∧ Z.Warmed39 U.vm ∧ U.heap = h0) (fun _ _ _ _ _ => True) (fun _ U o U' => ∃ v L, o = .returned v ∧ Q2 a1 h0 n0 v U'.heap L ∧ FrameEnd U o U' L ({ frames := 0, cells := 0, slots := 0, locals := 0 } : Room).cells ({ frames := 0, cells := 0, slots := 0, locals := 0 } : Room).slots) := by
  refine MetFree.of_bodySF (plainFor_of_name pn_2) hisR ?_
  intro p e s m args below meth c s₁ Bd hml0 hP hK
  obtain ⟨rfl, hZ, hh⟩ := hP
  have hx := Bd.exec
  have hby := Bd.bytes
  have hret := Bd.returns
  have hml : c.maxLocals = 1 := hml0
  have hown : s.vm.findClass "com/example/homespun_functions/homespunfunctions/xpath/Axis" = some m.cls := findClass_of_methodNamed Bd.named
  have X0 : Stand p l e ({ frames := 0, cells := 0, slots := 0, locals := 0 } : Room) s m #[(.ref a1)] below meth c s₁ [] 0 0 := Stand.of_body Bd
  have e0 : s₁.heap = h0 := by rw [← hh, Bd.state]; rfl
  have N0 := Fr.nil n0
  have pre0 : ∀ t, Steps p.tables e below (s₁.setTop (mkF m 0 #[.val (.ref a1)] [])) t → Steps p.tables e below (s₁.setTop (entryFrame m #[(.ref a1)] 1)) t := fun t k => castTop (ef_2 m a1) k
  have sg1 : ∀ t, Steps p.tables e below (s₁.setTop (mkF m 1 #[.val (.ref a1)] [(.ref a1)])) t → Steps p.tables e below (s₁.setTop (mkF m 0 #[.val (.ref a1)] [])) t := by
    intro t k
    show Steps p.tables e below (s₁.setTop (mkF m 0 #[.val (.ref a1)] [])) _
    refine XS.aloadN X0.here hx rfl (hb hby d2_0) rfl rfl ?_
    show Steps p.tables e below (s₁.setTop (mkF m 1 #[.val (.ref a1)] [(.ref a1)])) _
    exact k
  obtain ⟨T2, X2, e2, st2⟩ := getF X0 hx hZ hown (host := "") (Or.inl (hw _ (List.mem_of_getElem? (i := 22) rfl))) Via.refl e0 FR (g := (mkF m 1 #[.val (.ref a1)] [(.ref a1)])) rfl rfl (hb hby d2_1)
  obtain ⟨fs, hr, hrun, hended, hW, hsame⟩ := X2.leave (v := some (.int (0 : Int32))) (fun h => by rw [hret] at h; cases h)
  refine ⟨_, _, pre0 _ ?_, hrun, hended, _, _, rfl, ?_, ⟨_, rfl⟩, hW, hsame.mono (by decide) (by decide)⟩
  · refine sg1 _ ?_
    refine st2 _ ?_
    show Steps p.tables e below (T2.setTop (mkF m 4 #[.val (.ref a1)] [(.int (0 : Int32))])) _
    exact retN X2 hx (t := .boolean) hret (by simp) (hb hby d2_4) hr
  · exact ⟨rfl, N0, e2⟩
theorem pn_0 : plainName "com/example/homespun_functions/homespunfunctions/xpath/AxisIsKeptPinLaw" = true := by first | (simp [plainName, overriddenIn]; done) | decide +kernel
theorem ef_0 (m : MethodId) (x0 : Int32) : entryFrame m #[(.int x0)] maxLocals = (mkF m 0 #[.val (.int x0), .unset, .unset, .unset, .unset] []) := by first | (simp [entryFrame, mkF, argsToLocals, Value.category, maxLocals]; done) | rfl
def Q0 (n0 : Nat) (v : Option Value) (L : List Loc) : Prop := v = some (.int (1 : Int32)) ∧ Fr n0 L
set_option maxRecDepth 65536 in
set_option maxHeartbeats 40000000 in
theorem tailN {p : Program} {l : Launch} {e : Env} {s : State} {m : MethodId} {args : Array Value} {below : List Frame} {meth : Method} {c : Code} {T : State} {locs : List Loc} {Z : State} {a0 : Array Value} (X0 : Stand p l e room_1 s m args below meth c T locs 0 0) (hx : p.tables.exec = Jvm.exec) (hby : c.code = code) (hret : meth.sig.returnType = some .boolean) (hlk : meth.locks = false) (hml : c.maxLocals = 5) (hZ : Z.Warmed39 s.vm) (hown : s.vm.findClass "com/example/homespun_functions/homespunfunctions/xpath/AxisIsKeptPinLaw" = some m.cls) (hw : ∀ d ∈ tables_1, d.before a0 Z = true) {h0 : Heap} {n0 : Nat} (e0 : T.heap = h0) (N0 : Fr n0 locs) (Z0 : n0 ≤ h0.size) (v0 i1 : Int32) {a1 c1 t1 n1 : Addr} (SC : Sta Z h0 "com/example/homespun_functions/homespunfunctions/xpath/Axis" "CHILD" "Lcom/example/homespun_functions/homespunfunctions/xpath/Axis;" (.ref c1)) (ST : Sta Z h0 "com/example/homespun_functions/homespunfunctions/xpath/Axis" "ATTRIBUTE" "Lcom/example/homespun_functions/homespunfunctions/xpath/Axis;" (.ref t1)) (SN : Sta Z h0 "com/example/homespun_functions/homespunfunctions/xpath/Axis" "NAMESPACE" "Lcom/example/homespun_functions/homespunfunctions/xpath/Axis;" (.ref n1)) {K : String} (E : Exa Z h0 a1 K) (hsk : (Jvm.Cond.selects K (⟨"com/example/homespun_functions/homespunfunctions/xpath/Axis", "isKept", "()Z"⟩ : MethodName) (⟨"com/example/homespun_functions/homespunfunctions/xpath/Axis", "isKept", "()Z"⟩ : MethodName)).before a0 Z = true) (hk : own_k a1 c1 t1 n1 = 0) :
    ∃ s₂ o, Steps p.tables e below (T.setTop (mkF m 187 #[.val (.int v0), .val (.int i1), .val (.ref a1), .val (.int (0 : Int32)), .unset] [])) s₂ ∧ s₂.status = .running ∧ Ended s₂ below o ∧ ∃ v L, o = .returned v ∧ Q0 n0 v L ∧ FrameEnd s o s₂ L room_1.cells room_1.slots := by
  have sg1 : ∀ t, Steps p.tables e below (T.setTop (mkF m 188 #[.val (.int v0), .val (.int i1), .val (.ref a1), .val (.int (0 : Int32)), .unset] [(.ref a1)])) t → Steps p.tables e below (T.setTop (mkF m 187 #[.val (.int v0), .val (.int i1), .val (.ref a1), .val (.int (0 : Int32)), .unset] [])) t := by
    intro t k
    show Steps p.tables e below (T.setTop (mkF m 187 #[.val (.int v0), .val (.int i1), .val (.ref a1), .val (.int (0 : Int32)), .unset] [])) _
    refine XS.aloadN X0.here hx rfl (hb hby at_187) rfl rfl ?_
    show Steps p.tables e below (T.setTop (mkF m 188 #[.val (.int v0), .val (.int i1), .val (.ref a1), .val (.int (0 : Int32)), .unset] [(.ref a1)])) _
    exact k
  obtain ⟨cB2, kB2, qa2, -, qc2⟩ := isOf hZ e0 E
  obtain ⟨_, _, ⟨T2, L2, k2, n2⟩, -, X2, ⟨Lc2, hQ2, l2, y2, z2⟩, st2⟩ := X0.virtualBack hx (y := (⟨"com/example/homespun_functions/homespunfunctions/xpath/Axis", "isKept", "()Z"⟩ : MethodName)) (z := (⟨"com/example/homespun_functions/homespunfunctions/xpath/Axis", "isKept", "()Z"⟩ : MethodName)) hown (mvT hZ (hw _ (List.mem_of_getElem? (i := 4) rfl))) (mvT hZ (hw _ (List.mem_of_getElem? (i := 5) rfl))) (notFace_of_selects (args := #[]) (mvT hZ hsk)) (mvT hZ hsk) (mvT hZ (hw _ (List.mem_of_getElem? (i := 6) rfl))) (by decide) (backOf (W := 0) (rm1 l Z a0 hw [] a1 c1 t1 n1 h0 n0 Z0 SC ST SN) hZ (hw _ (List.mem_of_getElem? (i := 8) rfl)) (hw _ (List.mem_of_getElem? (i := 2) rfl)) (by decide) (by decide)) qa2 qc2 (g := (mkF m 188 #[.val (.int v0), .val (.int i1), .val (.ref a1), .val (.int (0 : Int32)), .unset] [(.ref a1)])) rfl (by rw [hml]; rfl) (Steps.refl _) (argsL := []) (rest := []) (lenOf pd_1 rfl) rfl (by show 2 * 0 + _ ≤ _; exact Nat.le_of_eq rfl) (hb hby at_188) (fun _ _ => ⟨rfl, e0, (by decide : 0 + 0 ≤ _), (by decide : 0 + 0 ≤ _)⟩)
  dsimp only [Pt.U, Pt.locs, Pt.cells, Pt.slots] at X2 l2 y2 z2 st2 hQ2
  subst l2 y2 z2
  obtain ⟨rfl, Nc2, e2⟩ := hQ2
  have N2 := Fr.app N0 Nc2
  have sg3 : ∀ t, Steps p.tables e below (T2.setTop (mkF m 216 #[.val (.int v0), .val (.int i1), .val (.ref a1), .val (.int (0 : Int32)), .val (.int (own_k a1 c1 t1 n1))] [(.int (1 : Int32))])) t → Steps p.tables e below (T2.setTop (mkF m 191 #[.val (.int v0), .val (.int i1), .val (.ref a1), .val (.int (0 : Int32)), .unset] [(.int (own_k a1 c1 t1 n1))])) t := by
    intro t k
    show Steps p.tables e below (T2.setTop (mkF m 191 #[.val (.int v0), .val (.int i1), .val (.ref a1), .val (.int (0 : Int32)), .unset] [(.int (own_k a1 c1 t1 n1))])) _
    refine XS.istore X2.here hx rfl (hb hby at_191) rfl (l' := #[.val (.int v0), .val (.int i1), .val (.ref a1), .val (.int (0 : Int32)), .val (.int (own_k a1 c1 t1 n1))]) rfl ?_
    show Steps p.tables e below (T2.setTop (mkF m 193 #[.val (.int v0), .val (.int i1), .val (.ref a1), .val (.int (0 : Int32)), .val (.int (own_k a1 c1 t1 n1))] [])) _
    refine XS.iload X2.here hx rfl (hb hby at_193) rfl ?_
    show Steps p.tables e below (T2.setTop (mkF m 195 #[.val (.int v0), .val (.int i1), .val (.ref a1), .val (.int (0 : Int32)), .val (.int (own_k a1 c1 t1 n1))] [(.int (own_k a1 c1 t1 n1))])) _
    refine XS.iloadN X2.here hx rfl (hb hby at_195) rfl ?_
    show Steps p.tables e below (T2.setTop (mkF m 196 #[.val (.int v0), .val (.int i1), .val (.ref a1), .val (.int (0 : Int32)), .val (.int (own_k a1 c1 t1 n1))] [(.int (0 : Int32)), (.int (own_k a1 c1 t1 n1))])) _
    refine XS.icmpNo X2.here hx rfl (hb hby at_196) rfl (teq hk).2 ?_
    show Steps p.tables e below (T2.setTop (mkF m 199 #[.val (.int v0), .val (.int i1), .val (.ref a1), .val (.int (0 : Int32)), .val (.int (own_k a1 c1 t1 n1))] [])) _
    refine XS.iload X2.here hx rfl (hb hby at_199) rfl ?_
    show Steps p.tables e below (T2.setTop (mkF m 201 #[.val (.int v0), .val (.int i1), .val (.ref a1), .val (.int (0 : Int32)), .val (.int (own_k a1 c1 t1 n1))] [(.int (own_k a1 c1 t1 n1))])) _
    refine XS.ifYes X2.here hx rfl (pc0 := 201) (pc' := 211) rfl (hb hby at_201) rfl ((if0 _ _).trans (teq hk).1) (by decide) (by decide) ?_
    show Steps p.tables e below (T2.setTop (mkF m 211 #[.val (.int v0), .val (.int i1), .val (.ref a1), .val (.int (0 : Int32)), .val (.int (own_k a1 c1 t1 n1))] [])) _
    refine XS.iconst X2.here hx rfl (hb hby at_211) ?_
    show Steps p.tables e below (T2.setTop (mkF m 212 #[.val (.int v0), .val (.int i1), .val (.ref a1), .val (.int (0 : Int32)), .val (.int (own_k a1 c1 t1 n1))] [(.int (1 : Int32))])) _
    refine XS.goto X2.here hx rfl (pc0 := 212) (pc' := 216) rfl (hb hby at_212) (by decide) (by decide) ?_
    show Steps p.tables e below (T2.setTop (mkF m 216 #[.val (.int v0), .val (.int i1), .val (.ref a1), .val (.int (0 : Int32)), .val (.int (own_k a1 c1 t1 n1))] [(.int (1 : Int32))])) _
    exact k
  obtain ⟨fs, hr, hrun, hended, hW, hsame⟩ := X2.leave (v := some (.int (1 : Int32))) (fun h => by rw [hret] at h; cases h)
  refine ⟨_, _, ?_, hrun, hended, _, _, rfl, ?_, ⟨_, rfl⟩, hW, hsame.mono (by decide) (by decide)⟩
  · refine sg1 _ ?_
    refine st2.trans ?_
    refine sg3 _ ?_
    show Steps p.tables e below (T2.setTop (mkF m 216 #[.val (.int v0), .val (.int i1), .val (.ref a1), .val (.int (0 : Int32)), .val (.int (own_k a1 c1 t1 n1))] [(.int (1 : Int32))])) _
    exact retN X2 hx (t := .boolean) hret (by simp) (hb hby at_216) hr
  · exact ⟨rfl, N2⟩
set_option maxRecDepth 65536 in
set_option maxHeartbeats 40000000 in
theorem tailK {p : Program} {l : Launch} {e : Env} {s : State} {m : MethodId} {args : Array Value} {below : List Frame} {meth : Method} {c : Code} {T : State} {locs : List Loc} {Z : State} {a0 : Array Value} (X0 : Stand p l e room_1 s m args below meth c T locs 0 0) (hx : p.tables.exec = Jvm.exec) (hby : c.code = code) (hret : meth.sig.returnType = some .boolean) (hlk : meth.locks = false) (hml : c.maxLocals = 5) (hZ : Z.Warmed39 s.vm) (hown : s.vm.findClass "com/example/homespun_functions/homespunfunctions/xpath/AxisIsKeptPinLaw" = some m.cls) (hw : ∀ d ∈ tables_1, d.before a0 Z = true) {h0 : Heap} {n0 : Nat} (e0 : T.heap = h0) (N0 : Fr n0 locs) (Z0 : n0 ≤ h0.size) (v0 i1 : Int32) {a1 c1 t1 n1 : Addr} (SC : Sta Z h0 "com/example/homespun_functions/homespunfunctions/xpath/Axis" "CHILD" "Lcom/example/homespun_functions/homespunfunctions/xpath/Axis;" (.ref c1)) (ST : Sta Z h0 "com/example/homespun_functions/homespunfunctions/xpath/Axis" "ATTRIBUTE" "Lcom/example/homespun_functions/homespunfunctions/xpath/Axis;" (.ref t1)) (SN : Sta Z h0 "com/example/homespun_functions/homespunfunctions/xpath/Axis" "NAMESPACE" "Lcom/example/homespun_functions/homespunfunctions/xpath/Axis;" (.ref n1)) {K : String} (E : Exa Z h0 a1 K) (hsk : (Jvm.Cond.selects K (⟨"com/example/homespun_functions/homespunfunctions/xpath/Axis", "isKept", "()Z"⟩ : MethodName) (⟨"com/example/homespun_functions/homespunfunctions/xpath/Axis", "isKept", "()Z"⟩ : MethodName)).before a0 Z = true) (hk : own_k a1 c1 t1 n1 = 1) (hsr : (Jvm.Cond.selects K (⟨"com/example/homespun_functions/homespunfunctions/xpath/Axis", "isReverse", "()Z"⟩ : MethodName) (⟨"com/example/homespun_functions/homespunfunctions/xpath/Axis", "isReverse", "()Z"⟩ : MethodName)).before a0 Z = true) (FR : Fld Z h0 a1 "com/example/homespun_functions/homespunfunctions/xpath/Axis" "isReverse" "Z" (.int (0 : Int32))) :
    ∃ s₂ o, Steps p.tables e below (T.setTop (mkF m 187 #[.val (.int v0), .val (.int i1), .val (.ref a1), .val (.int (1 : Int32)), .unset] [])) s₂ ∧ s₂.status = .running ∧ Ended s₂ below o ∧ ∃ v L, o = .returned v ∧ Q0 n0 v L ∧ FrameEnd s o s₂ L room_1.cells room_1.slots := by
  have sg1 : ∀ t, Steps p.tables e below (T.setTop (mkF m 188 #[.val (.int v0), .val (.int i1), .val (.ref a1), .val (.int (1 : Int32)), .unset] [(.ref a1)])) t → Steps p.tables e below (T.setTop (mkF m 187 #[.val (.int v0), .val (.int i1), .val (.ref a1), .val (.int (1 : Int32)), .unset] [])) t := by
    intro t k
    show Steps p.tables e below (T.setTop (mkF m 187 #[.val (.int v0), .val (.int i1), .val (.ref a1), .val (.int (1 : Int32)), .unset] [])) _
    refine XS.aloadN X0.here hx rfl (hb hby at_187) rfl rfl ?_
    show Steps p.tables e below (T.setTop (mkF m 188 #[.val (.int v0), .val (.int i1), .val (.ref a1), .val (.int (1 : Int32)), .unset] [(.ref a1)])) _
    exact k
  obtain ⟨cB2, kB2, qa2, -, qc2⟩ := isOf hZ e0 E
  obtain ⟨_, _, ⟨T2, L2, k2, n2⟩, -, X2, ⟨Lc2, hQ2, l2, y2, z2⟩, st2⟩ := X0.virtualBack hx (y := (⟨"com/example/homespun_functions/homespunfunctions/xpath/Axis", "isKept", "()Z"⟩ : MethodName)) (z := (⟨"com/example/homespun_functions/homespunfunctions/xpath/Axis", "isKept", "()Z"⟩ : MethodName)) hown (mvT hZ (hw _ (List.mem_of_getElem? (i := 4) rfl))) (mvT hZ (hw _ (List.mem_of_getElem? (i := 5) rfl))) (notFace_of_selects (args := #[]) (mvT hZ hsk)) (mvT hZ hsk) (mvT hZ (hw _ (List.mem_of_getElem? (i := 6) rfl))) (by decide) (backOf (W := 0) (rm1 l Z a0 hw [] a1 c1 t1 n1 h0 n0 Z0 SC ST SN) hZ (hw _ (List.mem_of_getElem? (i := 8) rfl)) (hw _ (List.mem_of_getElem? (i := 2) rfl)) (by decide) (by decide)) qa2 qc2 (g := (mkF m 188 #[.val (.int v0), .val (.int i1), .val (.ref a1), .val (.int (1 : Int32)), .unset] [(.ref a1)])) rfl (by rw [hml]; rfl) (Steps.refl _) (argsL := []) (rest := []) (lenOf pd_1 rfl) rfl (by show 2 * 0 + _ ≤ _; exact Nat.le_of_eq rfl) (hb hby at_188) (fun _ _ => ⟨rfl, e0, (by decide : 0 + 0 ≤ _), (by decide : 0 + 0 ≤ _)⟩)
  dsimp only [Pt.U, Pt.locs, Pt.cells, Pt.slots] at X2 l2 y2 z2 st2 hQ2
  subst l2 y2 z2
  obtain ⟨rfl, Nc2, e2⟩ := hQ2
  have N2 := Fr.app N0 Nc2
  have sg3 : ∀ t, Steps p.tables e below (T2.setTop (mkF m 205 #[.val (.int v0), .val (.int i1), .val (.ref a1), .val (.int (1 : Int32)), .val (.int (own_k a1 c1 t1 n1))] [(.ref a1)])) t → Steps p.tables e below (T2.setTop (mkF m 191 #[.val (.int v0), .val (.int i1), .val (.ref a1), .val (.int (1 : Int32)), .unset] [(.int (own_k a1 c1 t1 n1))])) t := by
    intro t k
    show Steps p.tables e below (T2.setTop (mkF m 191 #[.val (.int v0), .val (.int i1), .val (.ref a1), .val (.int (1 : Int32)), .unset] [(.int (own_k a1 c1 t1 n1))])) _
    refine XS.istore X2.here hx rfl (hb hby at_191) rfl (l' := #[.val (.int v0), .val (.int i1), .val (.ref a1), .val (.int (1 : Int32)), .val (.int (own_k a1 c1 t1 n1))]) rfl ?_
    show Steps p.tables e below (T2.setTop (mkF m 193 #[.val (.int v0), .val (.int i1), .val (.ref a1), .val (.int (1 : Int32)), .val (.int (own_k a1 c1 t1 n1))] [])) _
    refine XS.iload X2.here hx rfl (hb hby at_193) rfl ?_
    show Steps p.tables e below (T2.setTop (mkF m 195 #[.val (.int v0), .val (.int i1), .val (.ref a1), .val (.int (1 : Int32)), .val (.int (own_k a1 c1 t1 n1))] [(.int (own_k a1 c1 t1 n1))])) _
    refine XS.iloadN X2.here hx rfl (hb hby at_195) rfl ?_
    show Steps p.tables e below (T2.setTop (mkF m 196 #[.val (.int v0), .val (.int i1), .val (.ref a1), .val (.int (1 : Int32)), .val (.int (own_k a1 c1 t1 n1))] [(.int (1 : Int32)), (.int (own_k a1 c1 t1 n1))])) _
    refine XS.icmpNo X2.here hx rfl (hb hby at_196) rfl (teq hk).2 ?_
    show Steps p.tables e below (T2.setTop (mkF m 199 #[.val (.int v0), .val (.int i1), .val (.ref a1), .val (.int (1 : Int32)), .val (.int (own_k a1 c1 t1 n1))] [])) _
    refine XS.iload X2.here hx rfl (hb hby at_199) rfl ?_
    show Steps p.tables e below (T2.setTop (mkF m 201 #[.val (.int v0), .val (.int i1), .val (.ref a1), .val (.int (1 : Int32)), .val (.int (own_k a1 c1 t1 n1))] [(.int (own_k a1 c1 t1 n1))])) _
    refine XS.ifNo X2.here hx rfl (hb hby at_201) rfl ((if0 _ _).trans (feq (by rw [hk]; decide)).1) ?_
    show Steps p.tables e below (T2.setTop (mkF m 204 #[.val (.int v0), .val (.int i1), .val (.ref a1), .val (.int (1 : Int32)), .val (.int (own_k a1 c1 t1 n1))] [])) _
    refine XS.aloadN X2.here hx rfl (hb hby at_204) rfl rfl ?_
    show Steps p.tables e below (T2.setTop (mkF m 205 #[.val (.int v0), .val (.int i1), .val (.ref a1), .val (.int (1 : Int32)), .val (.int (own_k a1 c1 t1 n1))] [(.ref a1)])) _
    exact k
  obtain ⟨cB4, kB4, qa4, -, qc4⟩ := isOf hZ e2 E
  obtain ⟨_, _, ⟨T4, L4, k4, n4⟩, -, X4, ⟨Lc4, hQ4, l4, y4, z4⟩, st4⟩ := X2.virtualBack hx (y := (⟨"com/example/homespun_functions/homespunfunctions/xpath/Axis", "isReverse", "()Z"⟩ : MethodName)) (z := (⟨"com/example/homespun_functions/homespunfunctions/xpath/Axis", "isReverse", "()Z"⟩ : MethodName)) hown (mvT hZ (hw _ (List.mem_of_getElem? (i := 17) rfl))) (mvT hZ (hw _ (List.mem_of_getElem? (i := 18) rfl))) (notFace_of_selects (args := #[]) (mvT hZ hsr)) (mvT hZ hsr) (mvT hZ (hw _ (List.mem_of_getElem? (i := 19) rfl))) (by decide) (backOf (W := 0) (rm2 l Z a0 hw [] a1 h0 n0 Z0 FR) hZ (hw _ (List.mem_of_getElem? (i := 21) rfl)) (hw _ (List.mem_of_getElem? (i := 2) rfl)) (by decide) (by decide)) qa4 qc4 (g := (mkF m 205 #[.val (.int v0), .val (.int i1), .val (.ref a1), .val (.int (1 : Int32)), .val (.int (own_k a1 c1 t1 n1))] [(.ref a1)])) rfl (by rw [hml]; rfl) (Steps.refl _) (argsL := []) (rest := []) (lenOf pd_2 rfl) rfl (by show 2 * 0 + _ ≤ _; exact Nat.le_of_eq rfl) (hb hby at_205) (fun _ _ => ⟨rfl, e2, (by decide : 0 + 0 ≤ _), (by decide : 0 + 0 ≤ _)⟩)
  dsimp only [Pt.U, Pt.locs, Pt.cells, Pt.slots] at X4 l4 y4 z4 st4 hQ4
  subst l4 y4 z4
  obtain ⟨rfl, Nc4, e4⟩ := hQ4
  have N4 := Fr.app N2 Nc4
  have sg5 : ∀ t, Steps p.tables e below (T4.setTop (mkF m 216 #[.val (.int v0), .val (.int i1), .val (.ref a1), .val (.int (1 : Int32)), .val (.int (own_k a1 c1 t1 n1))] [(.int (1 : Int32))])) t → Steps p.tables e below (T4.setTop (mkF m 208 #[.val (.int v0), .val (.int i1), .val (.ref a1), .val (.int (1 : Int32)), .val (.int (own_k a1 c1 t1 n1))] [(.int (0 : Int32))])) t := by
    intro t k
    show Steps p.tables e below (T4.setTop (mkF m 208 #[.val (.int v0), .val (.int i1), .val (.ref a1), .val (.int (1 : Int32)), .val (.int (own_k a1 c1 t1 n1))] [(.int (0 : Int32))])) _
    refine XS.ifNo X4.here hx rfl (hb hby at_208) rfl ((if0 _ _).trans (teq rfl).2) ?_
    show Steps p.tables e below (T4.setTop (mkF m 211 #[.val (.int v0), .val (.int i1), .val (.ref a1), .val (.int (1 : Int32)), .val (.int (own_k a1 c1 t1 n1))] [])) _
    refine XS.iconst X4.here hx rfl (hb hby at_211) ?_
    show Steps p.tables e below (T4.setTop (mkF m 212 #[.val (.int v0), .val (.int i1), .val (.ref a1), .val (.int (1 : Int32)), .val (.int (own_k a1 c1 t1 n1))] [(.int (1 : Int32))])) _
    refine XS.goto X4.here hx rfl (pc0 := 212) (pc' := 216) rfl (hb hby at_212) (by decide) (by decide) ?_
    show Steps p.tables e below (T4.setTop (mkF m 216 #[.val (.int v0), .val (.int i1), .val (.ref a1), .val (.int (1 : Int32)), .val (.int (own_k a1 c1 t1 n1))] [(.int (1 : Int32))])) _
    exact k
  obtain ⟨fs, hr, hrun, hended, hW, hsame⟩ := X4.leave (v := some (.int (1 : Int32))) (fun h => by rw [hret] at h; cases h)
  refine ⟨_, _, ?_, hrun, hended, _, _, rfl, ?_, ⟨_, rfl⟩, hW, hsame.mono (by decide) (by decide)⟩
  · refine sg1 _ ?_
    refine st2.trans ?_
    refine sg3 _ ?_
    refine st4.trans ?_
    refine sg5 _ ?_
    show Steps p.tables e below (T4.setTop (mkF m 216 #[.val (.int v0), .val (.int i1), .val (.ref a1), .val (.int (1 : Int32)), .val (.int (own_k a1 c1 t1 n1))] [(.int (1 : Int32))])) _
    exact retN X4 hx (t := .boolean) hret (by simp) (hb hby at_216) hr
  · exact ⟨rfl, N4⟩
set_option maxRecDepth 65536 in
set_option maxHeartbeats 40000000 in
theorem rm0 (l : Launch) (Z : State) (a0 : Array Value) (hw : ∀ d ∈ tables_1, d.before a0 Z = true) (ws : List Jvm.Cond) (v0 : Int32) (h0 : Heap) (n0 : Nat) (Z0 : n0 ≤ h0.size) {x0 : Addr} (S0 : Sta Z h0 "com/example/homespun_functions/homespunfunctions/xpath/Axis" "ANCESTOR" "Lcom/example/homespun_functions/homespunfunctions/xpath/Axis;" (.ref x0)) (E0 : Exa Z h0 x0 "com/example/homespun_functions/homespunfunctions/xpath/Axis$1") {x1 : Addr} (S1 : Sta Z h0 "com/example/homespun_functions/homespunfunctions/xpath/Axis" "ANCESTOR_OR_SELF" "Lcom/example/homespun_functions/homespunfunctions/xpath/Axis;" (.ref x1)) (E1 : Exa Z h0 x1 "com/example/homespun_functions/homespunfunctions/xpath/Axis$2") {x2 : Addr} (S2 : Sta Z h0 "com/example/homespun_functions/homespunfunctions/xpath/Axis" "ATTRIBUTE" "Lcom/example/homespun_functions/homespunfunctions/xpath/Axis;" (.ref x2)) (E2 : Exa Z h0 x2 "com/example/homespun_functions/homespunfunctions/xpath/Axis$3") {x3 : Addr} (S3 : Sta Z h0 "com/example/homespun_functions/homespunfunctions/xpath/Axis" "CHILD" "Lcom/example/homespun_functions/homespunfunctions/xpath/Axis;" (.ref x3)) (E3 : Exa Z h0 x3 "com/example/homespun_functions/homespunfunctions/xpath/Axis$4") {x4 : Addr} (S4 : Sta Z h0 "com/example/homespun_functions/homespunfunctions/xpath/Axis" "DESCENDANT" "Lcom/example/homespun_functions/homespunfunctions/xpath/Axis;" (.ref x4)) (E4 : Exa Z h0 x4 "com/example/homespun_functions/homespunfunctions/xpath/Axis$5") {x5 : Addr} (S5 : Sta Z h0 "com/example/homespun_functions/homespunfunctions/xpath/Axis" "DESCENDANT_OR_SELF" "Lcom/example/homespun_functions/homespunfunctions/xpath/Axis;" (.ref x5)) (E5 : Exa Z h0 x5 "com/example/homespun_functions/homespunfunctions/xpath/Axis$6") {x6 : Addr} (S6 : Sta Z h0 "com/example/homespun_functions/homespunfunctions/xpath/Axis" "FOLLOWING" "Lcom/example/homespun_functions/homespunfunctions/xpath/Axis;" (.ref x6)) (E6 : Exa Z h0 x6 "com/example/homespun_functions/homespunfunctions/xpath/Axis$7") {x7 : Addr} (S7 : Sta Z h0 "com/example/homespun_functions/homespunfunctions/xpath/Axis" "FOLLOWING_SIBLING" "Lcom/example/homespun_functions/homespunfunctions/xpath/Axis;" (.ref x7)) (E7 : Exa Z h0 x7 "com/example/homespun_functions/homespunfunctions/xpath/Axis$8") {x8 : Addr} (S8 : Sta Z h0 "com/example/homespun_functions/homespunfunctions/xpath/Axis" "NAMESPACE" "Lcom/example/homespun_functions/homespunfunctions/xpath/Axis;" (.ref x8)) (E8 : Exa Z h0 x8 "com/example/homespun_functions/homespunfunctions/xpath/Axis$9") {x9 : Addr} (S9 : Sta Z h0 "com/example/homespun_functions/homespunfunctions/xpath/Axis" "PARENT" "Lcom/example/homespun_functions/homespunfunctions/xpath/Axis;" (.ref x9)) (E9 : Exa Z h0 x9 "com/example/homespun_functions/homespunfunctions/xpath/Axis$10") {x10 : Addr} (S10 : Sta Z h0 "com/example/homespun_functions/homespunfunctions/xpath/Axis" "PRECEDING" "Lcom/example/homespun_functions/homespunfunctions/xpath/Axis;" (.ref x10)) (E10 : Exa Z h0 x10 "com/example/homespun_functions/homespunfunctions/xpath/Axis$11") {x11 : Addr} (S11 : Sta Z h0 "com/example/homespun_functions/homespunfunctions/xpath/Axis" "PRECEDING_SIBLING" "Lcom/example/homespun_functions/homespunfunctions/xpath/Axis;" (.ref x11)) (E11 : Exa Z h0 x11 "com/example/homespun_functions/homespunfunctions/xpath/Axis$12") {x12 : Addr} (S12 : Sta Z h0 "com/example/homespun_functions/homespunfunctions/xpath/Axis" "SELF" "Lcom/example/homespun_functions/homespunfunctions/xpath/Axis;" (.ref x12)) (E12 : Exa Z h0 x12 "com/example/homespun_functions/homespunfunctions/xpath/Axis$13") (F3 : Fld Z h0 x3 "com/example/homespun_functions/homespunfunctions/xpath/Axis" "isReverse" "Z" (.int (0 : Int32))) (F2 : Fld Z h0 x2 "com/example/homespun_functions/homespunfunctions/xpath/Axis" "isReverse" "Z" (.int (0 : Int32))) (F8 : Fld Z h0 x8 "com/example/homespun_functions/homespunfunctions/xpath/Axis" "isReverse" "Z" (.int (0 : Int32))) :
    MetFree l x (head1 (Jvm.Cond.code x code maxLocals ret :: ws) room_1) (fun a U => a = #[(.int v0)] ∧ Z.Warmed39 U.vm ∧ U.heap = h0) (fun _ _ _ _ _ => True) (fun _ U o U' => ∃ v L, o = .returned v ∧ Q0 n0 v L ∧ FrameEnd U o U' L room_1.cells room_1.slots) := by
  refine MetFree.of_bodySF (plainFor_of_name pn_0) hisR ?_
  intro p e s m args below meth c s₁ Bd hml0 hP hK
  obtain ⟨rfl, hZ, hh⟩ := hP
  have hx := Bd.exec
  have hby := Bd.bytes
  have hlk : meth.locks = false := BodyLoose.notSynchronized Bd
  have hml : c.maxLocals = 5 := hml0
  have hown : s.vm.findClass "com/example/homespun_functions/homespunfunctions/xpath/AxisIsKeptPinLaw" = some m.cls := findClass_of_methodNamed Bd.named
  have X0 : Stand p l e room_1 s m #[(.int v0)] below meth c s₁ [] 0 0 := Stand.of_body Bd
  have e0 : s₁.heap = h0 := by rw [← hh, Bd.state]; rfl
  have N0 := Fr.nil n0
  have pre0 : ∀ t, Steps p.tables e below (s₁.setTop (mkF m 0 #[.val (.int v0), .unset, .unset, .unset, .unset] [])) t → Steps p.tables e below (s₁.setTop (entryFrame m #[(.int v0)] maxLocals)) t := fun t k => castTop (ef_0 m v0) k
  have sg1 : ∀ t, Steps p.tables e below (s₁.setTop (mkF m 8 #[.val (.int v0), .val (.int ((v0 &&& (2147483647 : Int32)) - ((v0 &&& (2147483647 : Int32)) / (13 : Int32)) * (13 : Int32))), .unset, .unset, .unset] [])) t → Steps p.tables e below (s₁.setTop (mkF m 0 #[.val (.int v0), .unset, .unset, .unset, .unset] [])) t := by
    intro t k
    show Steps p.tables e below (s₁.setTop (mkF m 0 #[.val (.int v0), .unset, .unset, .unset, .unset] [])) _
    refine XS.iloadN X0.here hx rfl (hb hby at_0) rfl ?_
    show Steps p.tables e below (s₁.setTop (mkF m 1 #[.val (.int v0), .unset, .unset, .unset, .unset] [(.int v0)])) _
    refine X0.ldcI hx hown (mv hZ (hw _ (List.mem_of_getElem? (i := 0) rfl))) rfl (hb hby at_1) ?_
    show Steps p.tables e below (s₁.setTop (mkF m 3 #[.val (.int v0), .unset, .unset, .unset, .unset] [(.int (2147483647 : Int32)), (.int v0)])) _
    refine XS.iand X0.here hx rfl (hb hby at_3) rfl ?_
    show Steps p.tables e below (s₁.setTop (mkF m 4 #[.val (.int v0), .unset, .unset, .unset, .unset] [(.int (v0 &&& (2147483647 : Int32)))])) _
    refine XS.bipush X0.here hx rfl (hb hby at_4) ?_
    show Steps p.tables e below (s₁.setTop (mkF m 6 #[.val (.int v0), .unset, .unset, .unset, .unset] [(.int (13 : Int32)), (.int (v0 &&& (2147483647 : Int32)))])) _
    refine XS.irem X0.here hx rfl (hb hby at_6) rfl (by decide) ?_
    show Steps p.tables e below (s₁.setTop (mkF m 7 #[.val (.int v0), .unset, .unset, .unset, .unset] [(.int ((v0 &&& (2147483647 : Int32)) - ((v0 &&& (2147483647 : Int32)) / (13 : Int32)) * (13 : Int32)))])) _
    refine XS.istoreN X0.here hx rfl (hb hby at_7) rfl (l' := #[.val (.int v0), .val (.int ((v0 &&& (2147483647 : Int32)) - ((v0 &&& (2147483647 : Int32)) / (13 : Int32)) * (13 : Int32))), .unset, .unset, .unset]) rfl ?_
    show Steps p.tables e below (s₁.setTop (mkF m 8 #[.val (.int v0), .val (.int ((v0 &&& (2147483647 : Int32)) - ((v0 &&& (2147483647 : Int32)) / (13 : Int32)) * (13 : Int32))), .unset, .unset, .unset] [])) _
    exact k
  generalize ((v0 &&& (2147483647 : Int32)) - ((v0 &&& (2147483647 : Int32)) / (13 : Int32)) * (13 : Int32)) = i1 at *
  by_cases c0 : i1 = (0 : Int32)
  · skip
    have sg2 : ∀ t, Steps p.tables e below (s₁.setTop (mkF m 12 #[.val (.int v0), .val (.int i1), .unset, .unset, .unset] [])) t → Steps p.tables e below (s₁.setTop (mkF m 8 #[.val (.int v0), .val (.int i1), .unset, .unset, .unset] [])) t := by
      intro t k
      show Steps p.tables e below (s₁.setTop (mkF m 8 #[.val (.int v0), .val (.int i1), .unset, .unset, .unset] [])) _
      refine XS.iloadN X0.here hx rfl (hb hby at_8) rfl ?_
      show Steps p.tables e below (s₁.setTop (mkF m 9 #[.val (.int v0), .val (.int i1), .unset, .unset, .unset] [(.int i1)])) _
      refine XS.ifNo X0.here hx rfl (hb hby at_9) rfl ((if0 _ _).trans (teq c0).2) ?_
      show Steps p.tables e below (s₁.setTop (mkF m 12 #[.val (.int v0), .val (.int i1), .unset, .unset, .unset] [])) _
      exact k
    obtain ⟨T3, X3, e3, st3⟩ := getS (host := "") X0 hx hZ hown (hw _ (List.mem_of_getElem? (i := 1) rfl)) Via.refl e0 S0 (g := (mkF m 12 #[.val (.int v0), .val (.int i1), .unset, .unset, .unset] [])) rfl (hb hby at_12)
    have sg4 : ∀ t, Steps p.tables e below (T3.setTop (mkF m 187 #[.val (.int v0), .val (.int i1), .val (.ref x0), .val (.int (0 : Int32)), .unset] [])) t → Steps p.tables e below (T3.setTop (mkF m 15 #[.val (.int v0), .val (.int i1), .unset, .unset, .unset] [(.ref x0)])) t := by
      intro t k
      show Steps p.tables e below (T3.setTop (mkF m 15 #[.val (.int v0), .val (.int i1), .unset, .unset, .unset] [(.ref x0)])) _
      refine XS.astoreN X3.here hx rfl (hb hby at_15) rfl rfl (l' := #[.val (.int v0), .val (.int i1), .val (.ref x0), .unset, .unset]) rfl ?_
      show Steps p.tables e below (T3.setTop (mkF m 16 #[.val (.int v0), .val (.int i1), .val (.ref x0), .unset, .unset] [])) _
      refine XS.iconst X3.here hx rfl (hb hby at_16) ?_
      show Steps p.tables e below (T3.setTop (mkF m 17 #[.val (.int v0), .val (.int i1), .val (.ref x0), .unset, .unset] [(.int (0 : Int32))])) _
      refine XS.istoreN X3.here hx rfl (hb hby at_17) rfl (l' := #[.val (.int v0), .val (.int i1), .val (.ref x0), .val (.int (0 : Int32)), .unset]) rfl ?_
      show Steps p.tables e below (T3.setTop (mkF m 18 #[.val (.int v0), .val (.int i1), .val (.ref x0), .val (.int (0 : Int32)), .unset] [])) _
      refine XS.goto X3.here hx rfl (pc0 := 18) (pc' := 187) rfl (hb hby at_18) (by decide) (by decide) ?_
      show Steps p.tables e below (T3.setTop (mkF m 187 #[.val (.int v0), .val (.int i1), .val (.ref x0), .val (.int (0 : Int32)), .unset] [])) _
      exact k
    obtain ⟨s₂, o, k, r⟩ := tailN X3 hx hby Bd.returns hlk hml hZ hown hw e3 N0 Z0 v0 i1 S3 S2 S8 E0 (hw _ (List.mem_of_getElem? (i := 7) rfl)) (by simp [own_k, ne_exa E0 E3 (by decide), ne_exa E0 E2 (by decide), ne_exa E0 E8 (by decide)])
    refine ⟨s₂, o, pre0 _ ?_, r⟩
    refine sg1 _ ?_
    refine sg2 _ ?_
    refine st3 _ ?_
    refine sg4 _ ?_
    exact k
  by_cases c1 : i1 = (1 : Int32)
  · skip
    have sg2 : ∀ t, Steps p.tables e below (s₁.setTop (mkF m 26 #[.val (.int v0), .val (.int i1), .unset, .unset, .unset] [])) t → Steps p.tables e below (s₁.setTop (mkF m 8 #[.val (.int v0), .val (.int i1), .unset, .unset, .unset] [])) t := by
      intro t k
      show Steps p.tables e below (s₁.setTop (mkF m 8 #[.val (.int v0), .val (.int i1), .unset, .unset, .unset] [])) _
      refine XS.iloadN X0.here hx rfl (hb hby at_8) rfl ?_
      show Steps p.tables e below (s₁.setTop (mkF m 9 #[.val (.int v0), .val (.int i1), .unset, .unset, .unset] [(.int i1)])) _
      refine XS.ifYes X0.here hx rfl (pc0 := 9) (pc' := 21) rfl (hb hby at_9) rfl ((if0 _ _).trans (feq c0).2) (by decide) (by decide) ?_
      show Steps p.tables e below (s₁.setTop (mkF m 21 #[.val (.int v0), .val (.int i1), .unset, .unset, .unset] [])) _
      refine XS.iloadN X0.here hx rfl (hb hby at_21) rfl ?_
      show Steps p.tables e below (s₁.setTop (mkF m 22 #[.val (.int v0), .val (.int i1), .unset, .unset, .unset] [(.int i1)])) _
      refine XS.iconst X0.here hx rfl (hb hby at_22) ?_
      show Steps p.tables e below (s₁.setTop (mkF m 23 #[.val (.int v0), .val (.int i1), .unset, .unset, .unset] [(.int (1 : Int32)), (.int i1)])) _
      refine XS.icmpNo X0.here hx rfl (hb hby at_23) rfl (teq c1).2 ?_
      show Steps p.tables e below (s₁.setTop (mkF m 26 #[.val (.int v0), .val (.int i1), .unset, .unset, .unset] [])) _
      exact k
    obtain ⟨T3, X3, e3, st3⟩ := getS (host := "") X0 hx hZ hown (hw _ (List.mem_of_getElem? (i := 43) rfl)) Via.refl e0 S1 (g := (mkF m 26 #[.val (.int v0), .val (.int i1), .unset, .unset, .unset] [])) rfl (hb hby at_26)
    have sg4 : ∀ t, Steps p.tables e below (T3.setTop (mkF m 187 #[.val (.int v0), .val (.int i1), .val (.ref x1), .val (.int (0 : Int32)), .unset] [])) t → Steps p.tables e below (T3.setTop (mkF m 29 #[.val (.int v0), .val (.int i1), .unset, .unset, .unset] [(.ref x1)])) t := by
      intro t k
      show Steps p.tables e below (T3.setTop (mkF m 29 #[.val (.int v0), .val (.int i1), .unset, .unset, .unset] [(.ref x1)])) _
      refine XS.astoreN X3.here hx rfl (hb hby at_29) rfl rfl (l' := #[.val (.int v0), .val (.int i1), .val (.ref x1), .unset, .unset]) rfl ?_
      show Steps p.tables e below (T3.setTop (mkF m 30 #[.val (.int v0), .val (.int i1), .val (.ref x1), .unset, .unset] [])) _
      refine XS.iconst X3.here hx rfl (hb hby at_30) ?_
      show Steps p.tables e below (T3.setTop (mkF m 31 #[.val (.int v0), .val (.int i1), .val (.ref x1), .unset, .unset] [(.int (0 : Int32))])) _
      refine XS.istoreN X3.here hx rfl (hb hby at_31) rfl (l' := #[.val (.int v0), .val (.int i1), .val (.ref x1), .val (.int (0 : Int32)), .unset]) rfl ?_
      show Steps p.tables e below (T3.setTop (mkF m 32 #[.val (.int v0), .val (.int i1), .val (.ref x1), .val (.int (0 : Int32)), .unset] [])) _
      refine XS.goto X3.here hx rfl (pc0 := 32) (pc' := 187) rfl (hb hby at_32) (by decide) (by decide) ?_
      show Steps p.tables e below (T3.setTop (mkF m 187 #[.val (.int v0), .val (.int i1), .val (.ref x1), .val (.int (0 : Int32)), .unset] [])) _
      exact k
    obtain ⟨s₂, o, k, r⟩ := tailN X3 hx hby Bd.returns hlk hml hZ hown hw e3 N0 Z0 v0 i1 S3 S2 S8 E1 (hw _ (List.mem_of_getElem? (i := 45) rfl)) (by simp [own_k, ne_exa E1 E3 (by decide), ne_exa E1 E2 (by decide), ne_exa E1 E8 (by decide)])
    refine ⟨s₂, o, pre0 _ ?_, r⟩
    refine sg1 _ ?_
    refine sg2 _ ?_
    refine st3 _ ?_
    refine sg4 _ ?_
    exact k
  by_cases c2 : i1 = (2 : Int32)
  · skip
    have sg2 : ∀ t, Steps p.tables e below (s₁.setTop (mkF m 40 #[.val (.int v0), .val (.int i1), .unset, .unset, .unset] [])) t → Steps p.tables e below (s₁.setTop (mkF m 8 #[.val (.int v0), .val (.int i1), .unset, .unset, .unset] [])) t := by
      intro t k
      show Steps p.tables e below (s₁.setTop (mkF m 8 #[.val (.int v0), .val (.int i1), .unset, .unset, .unset] [])) _
      refine XS.iloadN X0.here hx rfl (hb hby at_8) rfl ?_
      show Steps p.tables e below (s₁.setTop (mkF m 9 #[.val (.int v0), .val (.int i1), .unset, .unset, .unset] [(.int i1)])) _
      refine XS.ifYes X0.here hx rfl (pc0 := 9) (pc' := 21) rfl (hb hby at_9) rfl ((if0 _ _).trans (feq c0).2) (by decide) (by decide) ?_
      show Steps p.tables e below (s₁.setTop (mkF m 21 #[.val (.int v0), .val (.int i1), .unset, .unset, .unset] [])) _
      refine XS.iloadN X0.here hx rfl (hb hby at_21) rfl ?_
      show Steps p.tables e below (s₁.setTop (mkF m 22 #[.val (.int v0), .val (.int i1), .unset, .unset, .unset] [(.int i1)])) _
      refine XS.iconst X0.here hx rfl (hb hby at_22) ?_
      show Steps p.tables e below (s₁.setTop (mkF m 23 #[.val (.int v0), .val (.int i1), .unset, .unset, .unset] [(.int (1 : Int32)), (.int i1)])) _
      refine XS.icmpYes X0.here hx rfl (pc0 := 23) (pc' := 35) rfl (hb hby at_23) rfl (feq c1).2 (by decide) (by decide) ?_
      show Steps p.tables e below (s₁.setTop (mkF m 35 #[.val (.int v0), .val (.int i1), .unset, .unset, .unset] [])) _
      refine XS.iloadN X0.here hx rfl (hb hby at_35) rfl ?_
      show Steps p.tables e below (s₁.setTop (mkF m 36 #[.val (.int v0), .val (.int i1), .unset, .unset, .unset] [(.int i1)])) _
      refine XS.iconst X0.here hx rfl (hb hby at_36) ?_
      show Steps p.tables e below (s₁.setTop (mkF m 37 #[.val (.int v0), .val (.int i1), .unset, .unset, .unset] [(.int (2 : Int32)), (.int i1)])) _
      refine XS.icmpNo X0.here hx rfl (hb hby at_37) rfl (teq c2).2 ?_
      show Steps p.tables e below (s₁.setTop (mkF m 40 #[.val (.int v0), .val (.int i1), .unset, .unset, .unset] [])) _
      exact k
    obtain ⟨T3, X3, e3, st3⟩ := getS (host := "") X0 hx hZ hown (hw _ (List.mem_of_getElem? (i := 36) rfl)) Via.refl e0 S2 (g := (mkF m 40 #[.val (.int v0), .val (.int i1), .unset, .unset, .unset] [])) rfl (hb hby at_40)
    have sg4 : ∀ t, Steps p.tables e below (T3.setTop (mkF m 187 #[.val (.int v0), .val (.int i1), .val (.ref x2), .val (.int (1 : Int32)), .unset] [])) t → Steps p.tables e below (T3.setTop (mkF m 43 #[.val (.int v0), .val (.int i1), .unset, .unset, .unset] [(.ref x2)])) t := by
      intro t k
      show Steps p.tables e below (T3.setTop (mkF m 43 #[.val (.int v0), .val (.int i1), .unset, .unset, .unset] [(.ref x2)])) _
      refine XS.astoreN X3.here hx rfl (hb hby at_43) rfl rfl (l' := #[.val (.int v0), .val (.int i1), .val (.ref x2), .unset, .unset]) rfl ?_
      show Steps p.tables e below (T3.setTop (mkF m 44 #[.val (.int v0), .val (.int i1), .val (.ref x2), .unset, .unset] [])) _
      refine XS.iconst X3.here hx rfl (hb hby at_44) ?_
      show Steps p.tables e below (T3.setTop (mkF m 45 #[.val (.int v0), .val (.int i1), .val (.ref x2), .unset, .unset] [(.int (1 : Int32))])) _
      refine XS.istoreN X3.here hx rfl (hb hby at_45) rfl (l' := #[.val (.int v0), .val (.int i1), .val (.ref x2), .val (.int (1 : Int32)), .unset]) rfl ?_
      show Steps p.tables e below (T3.setTop (mkF m 46 #[.val (.int v0), .val (.int i1), .val (.ref x2), .val (.int (1 : Int32)), .unset] [])) _
      refine XS.goto X3.here hx rfl (pc0 := 46) (pc' := 187) rfl (hb hby at_46) (by decide) (by decide) ?_
      show Steps p.tables e below (T3.setTop (mkF m 187 #[.val (.int v0), .val (.int i1), .val (.ref x2), .val (.int (1 : Int32)), .unset] [])) _
      exact k
    obtain ⟨s₂, o, k, r⟩ := tailK X3 hx hby Bd.returns hlk hml hZ hown hw e3 N0 Z0 v0 i1 S3 S2 S8 E2 (hw _ (List.mem_of_getElem? (i := 37) rfl)) (by simp [own_k]) (hw _ (List.mem_of_getElem? (i := 38) rfl)) F2
    refine ⟨s₂, o, pre0 _ ?_, r⟩
    refine sg1 _ ?_
    refine sg2 _ ?_
    refine st3 _ ?_
    refine sg4 _ ?_
    exact k
  by_cases c3 : i1 = (3 : Int32)
  · skip
    have sg2 : ∀ t, Steps p.tables e below (s₁.setTop (mkF m 54 #[.val (.int v0), .val (.int i1), .unset, .unset, .unset] [])) t → Steps p.tables e below (s₁.setTop (mkF m 8 #[.val (.int v0), .val (.int i1), .unset, .unset, .unset] [])) t := by
      intro t k
      show Steps p.tables e below (s₁.setTop (mkF m 8 #[.val (.int v0), .val (.int i1), .unset, .unset, .unset] [])) _
      refine XS.iloadN X0.here hx rfl (hb hby at_8) rfl ?_
      show Steps p.tables e below (s₁.setTop (mkF m 9 #[.val (.int v0), .val (.int i1), .unset, .unset, .unset] [(.int i1)])) _
      refine XS.ifYes X0.here hx rfl (pc0 := 9) (pc' := 21) rfl (hb hby at_9) rfl ((if0 _ _).trans (feq c0).2) (by decide) (by decide) ?_
      show Steps p.tables e below (s₁.setTop (mkF m 21 #[.val (.int v0), .val (.int i1), .unset, .unset, .unset] [])) _
      refine XS.iloadN X0.here hx rfl (hb hby at_21) rfl ?_
      show Steps p.tables e below (s₁.setTop (mkF m 22 #[.val (.int v0), .val (.int i1), .unset, .unset, .unset] [(.int i1)])) _
      refine XS.iconst X0.here hx rfl (hb hby at_22) ?_
      show Steps p.tables e below (s₁.setTop (mkF m 23 #[.val (.int v0), .val (.int i1), .unset, .unset, .unset] [(.int (1 : Int32)), (.int i1)])) _
      refine XS.icmpYes X0.here hx rfl (pc0 := 23) (pc' := 35) rfl (hb hby at_23) rfl (feq c1).2 (by decide) (by decide) ?_
      show Steps p.tables e below (s₁.setTop (mkF m 35 #[.val (.int v0), .val (.int i1), .unset, .unset, .unset] [])) _
      refine XS.iloadN X0.here hx rfl (hb hby at_35) rfl ?_
      show Steps p.tables e below (s₁.setTop (mkF m 36 #[.val (.int v0), .val (.int i1), .unset, .unset, .unset] [(.int i1)])) _
      refine XS.iconst X0.here hx rfl (hb hby at_36) ?_
      show Steps p.tables e below (s₁.setTop (mkF m 37 #[.val (.int v0), .val (.int i1), .unset, .unset, .unset] [(.int (2 : Int32)), (.int i1)])) _
      refine XS.icmpYes X0.here hx rfl (pc0 := 37) (pc' := 49) rfl (hb hby at_37) rfl (feq c2).2 (by decide) (by decide) ?_
      show Steps p.tables e below (s₁.setTop (mkF m 49 #[.val (.int v0), .val (.int i1), .unset, .unset, .unset] [])) _
      refine XS.iloadN X0.here hx rfl (hb hby at_49) rfl ?_
      show Steps p.tables e below (s₁.setTop (mkF m 50 #[.val (.int v0), .val (.int i1), .unset, .unset, .unset] [(.int i1)])) _
      refine XS.iconst X0.here hx rfl (hb hby at_50) ?_
      show Steps p.tables e below (s₁.setTop (mkF m 51 #[.val (.int v0), .val (.int i1), .unset, .unset, .unset] [(.int (3 : Int32)), (.int i1)])) _
      refine XS.icmpNo X0.here hx rfl (hb hby at_51) rfl (teq c3).2 ?_
      show Steps p.tables e below (s₁.setTop (mkF m 54 #[.val (.int v0), .val (.int i1), .unset, .unset, .unset] [])) _
      exact k
    obtain ⟨T3, X3, e3, st3⟩ := getS (host := "") X0 hx hZ hown (hw _ (List.mem_of_getElem? (i := 15) rfl)) Via.refl e0 S3 (g := (mkF m 54 #[.val (.int v0), .val (.int i1), .unset, .unset, .unset] [])) rfl (hb hby at_54)
    have sg4 : ∀ t, Steps p.tables e below (T3.setTop (mkF m 187 #[.val (.int v0), .val (.int i1), .val (.ref x3), .val (.int (1 : Int32)), .unset] [])) t → Steps p.tables e below (T3.setTop (mkF m 57 #[.val (.int v0), .val (.int i1), .unset, .unset, .unset] [(.ref x3)])) t := by
      intro t k
      show Steps p.tables e below (T3.setTop (mkF m 57 #[.val (.int v0), .val (.int i1), .unset, .unset, .unset] [(.ref x3)])) _
      refine XS.astoreN X3.here hx rfl (hb hby at_57) rfl rfl (l' := #[.val (.int v0), .val (.int i1), .val (.ref x3), .unset, .unset]) rfl ?_
      show Steps p.tables e below (T3.setTop (mkF m 58 #[.val (.int v0), .val (.int i1), .val (.ref x3), .unset, .unset] [])) _
      refine XS.iconst X3.here hx rfl (hb hby at_58) ?_
      show Steps p.tables e below (T3.setTop (mkF m 59 #[.val (.int v0), .val (.int i1), .val (.ref x3), .unset, .unset] [(.int (1 : Int32))])) _
      refine XS.istoreN X3.here hx rfl (hb hby at_59) rfl (l' := #[.val (.int v0), .val (.int i1), .val (.ref x3), .val (.int (1 : Int32)), .unset]) rfl ?_
      show Steps p.tables e below (T3.setTop (mkF m 60 #[.val (.int v0), .val (.int i1), .val (.ref x3), .val (.int (1 : Int32)), .unset] [])) _
      refine XS.goto X3.here hx rfl (pc0 := 60) (pc' := 187) rfl (hb hby at_60) (by decide) (by decide) ?_
      show Steps p.tables e below (T3.setTop (mkF m 187 #[.val (.int v0), .val (.int i1), .val (.ref x3), .val (.int (1 : Int32)), .unset] [])) _
      exact k
    obtain ⟨s₂, o, k, r⟩ := tailK X3 hx hby Bd.returns hlk hml hZ hown hw e3 N0 Z0 v0 i1 S3 S2 S8 E3 (hw _ (List.mem_of_getElem? (i := 16) rfl)) (by simp [own_k]) (hw _ (List.mem_of_getElem? (i := 20) rfl)) F3
    refine ⟨s₂, o, pre0 _ ?_, r⟩
    refine sg1 _ ?_
    refine sg2 _ ?_
    refine st3 _ ?_
    refine sg4 _ ?_
    exact k
  by_cases c4 : i1 = (4 : Int32)
  · skip
    have sg2 : ∀ t, Steps p.tables e below (s₁.setTop (mkF m 68 #[.val (.int v0), .val (.int i1), .unset, .unset, .unset] [])) t → Steps p.tables e below (s₁.setTop (mkF m 8 #[.val (.int v0), .val (.int i1), .unset, .unset, .unset] [])) t := by
      intro t k
      show Steps p.tables e below (s₁.setTop (mkF m 8 #[.val (.int v0), .val (.int i1), .unset, .unset, .unset] [])) _
      refine XS.iloadN X0.here hx rfl (hb hby at_8) rfl ?_
      show Steps p.tables e below (s₁.setTop (mkF m 9 #[.val (.int v0), .val (.int i1), .unset, .unset, .unset] [(.int i1)])) _
      refine XS.ifYes X0.here hx rfl (pc0 := 9) (pc' := 21) rfl (hb hby at_9) rfl ((if0 _ _).trans (feq c0).2) (by decide) (by decide) ?_
      show Steps p.tables e below (s₁.setTop (mkF m 21 #[.val (.int v0), .val (.int i1), .unset, .unset, .unset] [])) _
      refine XS.iloadN X0.here hx rfl (hb hby at_21) rfl ?_
      show Steps p.tables e below (s₁.setTop (mkF m 22 #[.val (.int v0), .val (.int i1), .unset, .unset, .unset] [(.int i1)])) _
      refine XS.iconst X0.here hx rfl (hb hby at_22) ?_
      show Steps p.tables e below (s₁.setTop (mkF m 23 #[.val (.int v0), .val (.int i1), .unset, .unset, .unset] [(.int (1 : Int32)), (.int i1)])) _
      refine XS.icmpYes X0.here hx rfl (pc0 := 23) (pc' := 35) rfl (hb hby at_23) rfl (feq c1).2 (by decide) (by decide) ?_
      show Steps p.tables e below (s₁.setTop (mkF m 35 #[.val (.int v0), .val (.int i1), .unset, .unset, .unset] [])) _
      refine XS.iloadN X0.here hx rfl (hb hby at_35) rfl ?_
      show Steps p.tables e below (s₁.setTop (mkF m 36 #[.val (.int v0), .val (.int i1), .unset, .unset, .unset] [(.int i1)])) _
      refine XS.iconst X0.here hx rfl (hb hby at_36) ?_
      show Steps p.tables e below (s₁.setTop (mkF m 37 #[.val (.int v0), .val (.int i1), .unset, .unset, .unset] [(.int (2 : Int32)), (.int i1)])) _
      refine XS.icmpYes X0.here hx rfl (pc0 := 37) (pc' := 49) rfl (hb hby at_37) rfl (feq c2).2 (by decide) (by decide) ?_
      show Steps p.tables e below (s₁.setTop (mkF m 49 #[.val (.int v0), .val (.int i1), .unset, .unset, .unset] [])) _
      refine XS.iloadN X0.here hx rfl (hb hby at_49) rfl ?_
      show Steps p.tables e below (s₁.setTop (mkF m 50 #[.val (.int v0), .val (.int i1), .unset, .unset, .unset] [(.int i1)])) _
      refine XS.iconst X0.here hx rfl (hb hby at_50) ?_
      show Steps p.tables e below (s₁.setTop (mkF m 51 #[.val (.int v0), .val (.int i1), .unset, .unset, .unset] [(.int (3 : Int32)), (.int i1)])) _
      refine XS.icmpYes X0.here hx rfl (pc0 := 51) (pc' := 63) rfl (hb hby at_51) rfl (feq c3).2 (by decide) (by decide) ?_
      show Steps p.tables e below (s₁.setTop (mkF m 63 #[.val (.int v0), .val (.int i1), .unset, .unset, .unset] [])) _
      refine XS.iloadN X0.here hx rfl (hb hby at_63) rfl ?_
      show Steps p.tables e below (s₁.setTop (mkF m 64 #[.val (.int v0), .val (.int i1), .unset, .unset, .unset] [(.int i1)])) _
      refine XS.iconst X0.here hx rfl (hb hby at_64) ?_
      show Steps p.tables e below (s₁.setTop (mkF m 65 #[.val (.int v0), .val (.int i1), .unset, .unset, .unset] [(.int (4 : Int32)), (.int i1)])) _
      refine XS.icmpNo X0.here hx rfl (hb hby at_65) rfl (teq c4).2 ?_
      show Steps p.tables e below (s₁.setTop (mkF m 68 #[.val (.int v0), .val (.int i1), .unset, .unset, .unset] [])) _
      exact k
    obtain ⟨T3, X3, e3, st3⟩ := getS (host := "") X0 hx hZ hown (hw _ (List.mem_of_getElem? (i := 56) rfl)) Via.refl e0 S4 (g := (mkF m 68 #[.val (.int v0), .val (.int i1), .unset, .unset, .unset] [])) rfl (hb hby at_68)
    have sg4 : ∀ t, Steps p.tables e below (T3.setTop (mkF m 187 #[.val (.int v0), .val (.int i1), .val (.ref x4), .val (.int (0 : Int32)), .unset] [])) t → Steps p.tables e below (T3.setTop (mkF m 71 #[.val (.int v0), .val (.int i1), .unset, .unset, .unset] [(.ref x4)])) t := by
      intro t k
      show Steps p.tables e below (T3.setTop (mkF m 71 #[.val (.int v0), .val (.int i1), .unset, .unset, .unset] [(.ref x4)])) _
      refine XS.astoreN X3.here hx rfl (hb hby at_71) rfl rfl (l' := #[.val (.int v0), .val (.int i1), .val (.ref x4), .unset, .unset]) rfl ?_
      show Steps p.tables e below (T3.setTop (mkF m 72 #[.val (.int v0), .val (.int i1), .val (.ref x4), .unset, .unset] [])) _
      refine XS.iconst X3.here hx rfl (hb hby at_72) ?_
      show Steps p.tables e below (T3.setTop (mkF m 73 #[.val (.int v0), .val (.int i1), .val (.ref x4), .unset, .unset] [(.int (0 : Int32))])) _
      refine XS.istoreN X3.here hx rfl (hb hby at_73) rfl (l' := #[.val (.int v0), .val (.int i1), .val (.ref x4), .val (.int (0 : Int32)), .unset]) rfl ?_
      show Steps p.tables e below (T3.setTop (mkF m 74 #[.val (.int v0), .val (.int i1), .val (.ref x4), .val (.int (0 : Int32)), .unset] [])) _
      refine XS.goto X3.here hx rfl (pc0 := 74) (pc' := 187) rfl (hb hby at_74) (by decide) (by decide) ?_
      show Steps p.tables e below (T3.setTop (mkF m 187 #[.val (.int v0), .val (.int i1), .val (.ref x4), .val (.int (0 : Int32)), .unset] [])) _
      exact k
    obtain ⟨s₂, o, k, r⟩ := tailN X3 hx hby Bd.returns hlk hml hZ hown hw e3 N0 Z0 v0 i1 S3 S2 S8 E4 (hw _ (List.mem_of_getElem? (i := 58) rfl)) (by simp [own_k, ne_exa E4 E3 (by decide), ne_exa E4 E2 (by decide), ne_exa E4 E8 (by decide)])
    refine ⟨s₂, o, pre0 _ ?_, r⟩
    refine sg1 _ ?_
    refine sg2 _ ?_
    refine st3 _ ?_
    refine sg4 _ ?_
    exact k
  by_cases c5 : i1 = (5 : Int32)
  · skip
    have sg2 : ∀ t, Steps p.tables e below (s₁.setTop (mkF m 82 #[.val (.int v0), .val (.int i1), .unset, .unset, .unset] [])) t → Steps p.tables e below (s₁.setTop (mkF m 8 #[.val (.int v0), .val (.int i1), .unset, .unset, .unset] [])) t := by
      intro t k
      show Steps p.tables e below (s₁.setTop (mkF m 8 #[.val (.int v0), .val (.int i1), .unset, .unset, .unset] [])) _
      refine XS.iloadN X0.here hx rfl (hb hby at_8) rfl ?_
      show Steps p.tables e below (s₁.setTop (mkF m 9 #[.val (.int v0), .val (.int i1), .unset, .unset, .unset] [(.int i1)])) _
      refine XS.ifYes X0.here hx rfl (pc0 := 9) (pc' := 21) rfl (hb hby at_9) rfl ((if0 _ _).trans (feq c0).2) (by decide) (by decide) ?_
      show Steps p.tables e below (s₁.setTop (mkF m 21 #[.val (.int v0), .val (.int i1), .unset, .unset, .unset] [])) _
      refine XS.iloadN X0.here hx rfl (hb hby at_21) rfl ?_
      show Steps p.tables e below (s₁.setTop (mkF m 22 #[.val (.int v0), .val (.int i1), .unset, .unset, .unset] [(.int i1)])) _
      refine XS.iconst X0.here hx rfl (hb hby at_22) ?_
      show Steps p.tables e below (s₁.setTop (mkF m 23 #[.val (.int v0), .val (.int i1), .unset, .unset, .unset] [(.int (1 : Int32)), (.int i1)])) _
      refine XS.icmpYes X0.here hx rfl (pc0 := 23) (pc' := 35) rfl (hb hby at_23) rfl (feq c1).2 (by decide) (by decide) ?_
      show Steps p.tables e below (s₁.setTop (mkF m 35 #[.val (.int v0), .val (.int i1), .unset, .unset, .unset] [])) _
      refine XS.iloadN X0.here hx rfl (hb hby at_35) rfl ?_
      show Steps p.tables e below (s₁.setTop (mkF m 36 #[.val (.int v0), .val (.int i1), .unset, .unset, .unset] [(.int i1)])) _
      refine XS.iconst X0.here hx rfl (hb hby at_36) ?_
      show Steps p.tables e below (s₁.setTop (mkF m 37 #[.val (.int v0), .val (.int i1), .unset, .unset, .unset] [(.int (2 : Int32)), (.int i1)])) _
      refine XS.icmpYes X0.here hx rfl (pc0 := 37) (pc' := 49) rfl (hb hby at_37) rfl (feq c2).2 (by decide) (by decide) ?_
      show Steps p.tables e below (s₁.setTop (mkF m 49 #[.val (.int v0), .val (.int i1), .unset, .unset, .unset] [])) _
      refine XS.iloadN X0.here hx rfl (hb hby at_49) rfl ?_
      show Steps p.tables e below (s₁.setTop (mkF m 50 #[.val (.int v0), .val (.int i1), .unset, .unset, .unset] [(.int i1)])) _
      refine XS.iconst X0.here hx rfl (hb hby at_50) ?_
      show Steps p.tables e below (s₁.setTop (mkF m 51 #[.val (.int v0), .val (.int i1), .unset, .unset, .unset] [(.int (3 : Int32)), (.int i1)])) _
      refine XS.icmpYes X0.here hx rfl (pc0 := 51) (pc' := 63) rfl (hb hby at_51) rfl (feq c3).2 (by decide) (by decide) ?_
      show Steps p.tables e below (s₁.setTop (mkF m 63 #[.val (.int v0), .val (.int i1), .unset, .unset, .unset] [])) _
      refine XS.iloadN X0.here hx rfl (hb hby at_63) rfl ?_
      show Steps p.tables e below (s₁.setTop (mkF m 64 #[.val (.int v0), .val (.int i1), .unset, .unset, .unset] [(.int i1)])) _
      refine XS.iconst X0.here hx rfl (hb hby at_64) ?_
      show Steps p.tables e below (s₁.setTop (mkF m 65 #[.val (.int v0), .val (.int i1), .unset, .unset, .unset] [(.int (4 : Int32)), (.int i1)])) _
      refine XS.icmpYes X0.here hx rfl (pc0 := 65) (pc' := 77) rfl (hb hby at_65) rfl (feq c4).2 (by decide) (by decide) ?_
      show Steps p.tables e below (s₁.setTop (mkF m 77 #[.val (.int v0), .val (.int i1), .unset, .unset, .unset] [])) _
      refine XS.iloadN X0.here hx rfl (hb hby at_77) rfl ?_
      show Steps p.tables e below (s₁.setTop (mkF m 78 #[.val (.int v0), .val (.int i1), .unset, .unset, .unset] [(.int i1)])) _
      refine XS.iconst X0.here hx rfl (hb hby at_78) ?_
      show Steps p.tables e below (s₁.setTop (mkF m 79 #[.val (.int v0), .val (.int i1), .unset, .unset, .unset] [(.int (5 : Int32)), (.int i1)])) _
      refine XS.icmpNo X0.here hx rfl (hb hby at_79) rfl (teq c5).2 ?_
      show Steps p.tables e below (s₁.setTop (mkF m 82 #[.val (.int v0), .val (.int i1), .unset, .unset, .unset] [])) _
      exact k
    obtain ⟨T3, X3, e3, st3⟩ := getS (host := "") X0 hx hZ hown (hw _ (List.mem_of_getElem? (i := 27) rfl)) Via.refl e0 S5 (g := (mkF m 82 #[.val (.int v0), .val (.int i1), .unset, .unset, .unset] [])) rfl (hb hby at_82)
    have sg4 : ∀ t, Steps p.tables e below (T3.setTop (mkF m 187 #[.val (.int v0), .val (.int i1), .val (.ref x5), .val (.int (0 : Int32)), .unset] [])) t → Steps p.tables e below (T3.setTop (mkF m 85 #[.val (.int v0), .val (.int i1), .unset, .unset, .unset] [(.ref x5)])) t := by
      intro t k
      show Steps p.tables e below (T3.setTop (mkF m 85 #[.val (.int v0), .val (.int i1), .unset, .unset, .unset] [(.ref x5)])) _
      refine XS.astoreN X3.here hx rfl (hb hby at_85) rfl rfl (l' := #[.val (.int v0), .val (.int i1), .val (.ref x5), .unset, .unset]) rfl ?_
      show Steps p.tables e below (T3.setTop (mkF m 86 #[.val (.int v0), .val (.int i1), .val (.ref x5), .unset, .unset] [])) _
      refine XS.iconst X3.here hx rfl (hb hby at_86) ?_
      show Steps p.tables e below (T3.setTop (mkF m 87 #[.val (.int v0), .val (.int i1), .val (.ref x5), .unset, .unset] [(.int (0 : Int32))])) _
      refine XS.istoreN X3.here hx rfl (hb hby at_87) rfl (l' := #[.val (.int v0), .val (.int i1), .val (.ref x5), .val (.int (0 : Int32)), .unset]) rfl ?_
      show Steps p.tables e below (T3.setTop (mkF m 88 #[.val (.int v0), .val (.int i1), .val (.ref x5), .val (.int (0 : Int32)), .unset] [])) _
      refine XS.goto X3.here hx rfl (pc0 := 88) (pc' := 187) rfl (hb hby at_88) (by decide) (by decide) ?_
      show Steps p.tables e below (T3.setTop (mkF m 187 #[.val (.int v0), .val (.int i1), .val (.ref x5), .val (.int (0 : Int32)), .unset] [])) _
      exact k
    obtain ⟨s₂, o, k, r⟩ := tailN X3 hx hby Bd.returns hlk hml hZ hown hw e3 N0 Z0 v0 i1 S3 S2 S8 E5 (hw _ (List.mem_of_getElem? (i := 29) rfl)) (by simp [own_k, ne_exa E5 E3 (by decide), ne_exa E5 E2 (by decide), ne_exa E5 E8 (by decide)])
    refine ⟨s₂, o, pre0 _ ?_, r⟩
    refine sg1 _ ?_
    refine sg2 _ ?_
    refine st3 _ ?_
    refine sg4 _ ?_
    exact k
  by_cases c6 : i1 = (6 : Int32)
  · skip
    have sg2 : ∀ t, Steps p.tables e below (s₁.setTop (mkF m 97 #[.val (.int v0), .val (.int i1), .unset, .unset, .unset] [])) t → Steps p.tables e below (s₁.setTop (mkF m 8 #[.val (.int v0), .val (.int i1), .unset, .unset, .unset] [])) t := by
      intro t k
      show Steps p.tables e below (s₁.setTop (mkF m 8 #[.val (.int v0), .val (.int i1), .unset, .unset, .unset] [])) _
      refine XS.iloadN X0.here hx rfl (hb hby at_8) rfl ?_
      show Steps p.tables e below (s₁.setTop (mkF m 9 #[.val (.int v0), .val (.int i1), .unset, .unset, .unset] [(.int i1)])) _
      refine XS.ifYes X0.here hx rfl (pc0 := 9) (pc' := 21) rfl (hb hby at_9) rfl ((if0 _ _).trans (feq c0).2) (by decide) (by decide) ?_
      show Steps p.tables e below (s₁.setTop (mkF m 21 #[.val (.int v0), .val (.int i1), .unset, .unset, .unset] [])) _
      refine XS.iloadN X0.here hx rfl (hb hby at_21) rfl ?_
      show Steps p.tables e below (s₁.setTop (mkF m 22 #[.val (.int v0), .val (.int i1), .unset, .unset, .unset] [(.int i1)])) _
      refine XS.iconst X0.here hx rfl (hb hby at_22) ?_
      show Steps p.tables e below (s₁.setTop (mkF m 23 #[.val (.int v0), .val (.int i1), .unset, .unset, .unset] [(.int (1 : Int32)), (.int i1)])) _
      refine XS.icmpYes X0.here hx rfl (pc0 := 23) (pc' := 35) rfl (hb hby at_23) rfl (feq c1).2 (by decide) (by decide) ?_
      show Steps p.tables e below (s₁.setTop (mkF m 35 #[.val (.int v0), .val (.int i1), .unset, .unset, .unset] [])) _
      refine XS.iloadN X0.here hx rfl (hb hby at_35) rfl ?_
      show Steps p.tables e below (s₁.setTop (mkF m 36 #[.val (.int v0), .val (.int i1), .unset, .unset, .unset] [(.int i1)])) _
      refine XS.iconst X0.here hx rfl (hb hby at_36) ?_
      show Steps p.tables e below (s₁.setTop (mkF m 37 #[.val (.int v0), .val (.int i1), .unset, .unset, .unset] [(.int (2 : Int32)), (.int i1)])) _
      refine XS.icmpYes X0.here hx rfl (pc0 := 37) (pc' := 49) rfl (hb hby at_37) rfl (feq c2).2 (by decide) (by decide) ?_
      show Steps p.tables e below (s₁.setTop (mkF m 49 #[.val (.int v0), .val (.int i1), .unset, .unset, .unset] [])) _
      refine XS.iloadN X0.here hx rfl (hb hby at_49) rfl ?_
      show Steps p.tables e below (s₁.setTop (mkF m 50 #[.val (.int v0), .val (.int i1), .unset, .unset, .unset] [(.int i1)])) _
      refine XS.iconst X0.here hx rfl (hb hby at_50) ?_
      show Steps p.tables e below (s₁.setTop (mkF m 51 #[.val (.int v0), .val (.int i1), .unset, .unset, .unset] [(.int (3 : Int32)), (.int i1)])) _
      refine XS.icmpYes X0.here hx rfl (pc0 := 51) (pc' := 63) rfl (hb hby at_51) rfl (feq c3).2 (by decide) (by decide) ?_
      show Steps p.tables e below (s₁.setTop (mkF m 63 #[.val (.int v0), .val (.int i1), .unset, .unset, .unset] [])) _
      refine XS.iloadN X0.here hx rfl (hb hby at_63) rfl ?_
      show Steps p.tables e below (s₁.setTop (mkF m 64 #[.val (.int v0), .val (.int i1), .unset, .unset, .unset] [(.int i1)])) _
      refine XS.iconst X0.here hx rfl (hb hby at_64) ?_
      show Steps p.tables e below (s₁.setTop (mkF m 65 #[.val (.int v0), .val (.int i1), .unset, .unset, .unset] [(.int (4 : Int32)), (.int i1)])) _
      refine XS.icmpYes X0.here hx rfl (pc0 := 65) (pc' := 77) rfl (hb hby at_65) rfl (feq c4).2 (by decide) (by decide) ?_
      show Steps p.tables e below (s₁.setTop (mkF m 77 #[.val (.int v0), .val (.int i1), .unset, .unset, .unset] [])) _
      refine XS.iloadN X0.here hx rfl (hb hby at_77) rfl ?_
      show Steps p.tables e below (s₁.setTop (mkF m 78 #[.val (.int v0), .val (.int i1), .unset, .unset, .unset] [(.int i1)])) _
      refine XS.iconst X0.here hx rfl (hb hby at_78) ?_
      show Steps p.tables e below (s₁.setTop (mkF m 79 #[.val (.int v0), .val (.int i1), .unset, .unset, .unset] [(.int (5 : Int32)), (.int i1)])) _
      refine XS.icmpYes X0.here hx rfl (pc0 := 79) (pc' := 91) rfl (hb hby at_79) rfl (feq c5).2 (by decide) (by decide) ?_
      show Steps p.tables e below (s₁.setTop (mkF m 91 #[.val (.int v0), .val (.int i1), .unset, .unset, .unset] [])) _
      refine XS.iloadN X0.here hx rfl (hb hby at_91) rfl ?_
      show Steps p.tables e below (s₁.setTop (mkF m 92 #[.val (.int v0), .val (.int i1), .unset, .unset, .unset] [(.int i1)])) _
      refine XS.bipush X0.here hx rfl (hb hby at_92) ?_
      show Steps p.tables e below (s₁.setTop (mkF m 94 #[.val (.int v0), .val (.int i1), .unset, .unset, .unset] [(.int (6 : Int32)), (.int i1)])) _
      refine XS.icmpNo X0.here hx rfl (hb hby at_94) rfl (teq c6).2 ?_
      show Steps p.tables e below (s₁.setTop (mkF m 97 #[.val (.int v0), .val (.int i1), .unset, .unset, .unset] [])) _
      exact k
    obtain ⟨T3, X3, e3, st3⟩ := getS (host := "") X0 hx hZ hown (hw _ (List.mem_of_getElem? (i := 24) rfl)) Via.refl e0 S6 (g := (mkF m 97 #[.val (.int v0), .val (.int i1), .unset, .unset, .unset] [])) rfl (hb hby at_97)
    have sg4 : ∀ t, Steps p.tables e below (T3.setTop (mkF m 187 #[.val (.int v0), .val (.int i1), .val (.ref x6), .val (.int (0 : Int32)), .unset] [])) t → Steps p.tables e below (T3.setTop (mkF m 100 #[.val (.int v0), .val (.int i1), .unset, .unset, .unset] [(.ref x6)])) t := by
      intro t k
      show Steps p.tables e below (T3.setTop (mkF m 100 #[.val (.int v0), .val (.int i1), .unset, .unset, .unset] [(.ref x6)])) _
      refine XS.astoreN X3.here hx rfl (hb hby at_100) rfl rfl (l' := #[.val (.int v0), .val (.int i1), .val (.ref x6), .unset, .unset]) rfl ?_
      show Steps p.tables e below (T3.setTop (mkF m 101 #[.val (.int v0), .val (.int i1), .val (.ref x6), .unset, .unset] [])) _
      refine XS.iconst X3.here hx rfl (hb hby at_101) ?_
      show Steps p.tables e below (T3.setTop (mkF m 102 #[.val (.int v0), .val (.int i1), .val (.ref x6), .unset, .unset] [(.int (0 : Int32))])) _
      refine XS.istoreN X3.here hx rfl (hb hby at_102) rfl (l' := #[.val (.int v0), .val (.int i1), .val (.ref x6), .val (.int (0 : Int32)), .unset]) rfl ?_
      show Steps p.tables e below (T3.setTop (mkF m 103 #[.val (.int v0), .val (.int i1), .val (.ref x6), .val (.int (0 : Int32)), .unset] [])) _
      refine XS.goto X3.here hx rfl (pc0 := 103) (pc' := 187) rfl (hb hby at_103) (by decide) (by decide) ?_
      show Steps p.tables e below (T3.setTop (mkF m 187 #[.val (.int v0), .val (.int i1), .val (.ref x6), .val (.int (0 : Int32)), .unset] [])) _
      exact k
    obtain ⟨s₂, o, k, r⟩ := tailN X3 hx hby Bd.returns hlk hml hZ hown hw e3 N0 Z0 v0 i1 S3 S2 S8 E6 (hw _ (List.mem_of_getElem? (i := 26) rfl)) (by simp [own_k, ne_exa E6 E3 (by decide), ne_exa E6 E2 (by decide), ne_exa E6 E8 (by decide)])
    refine ⟨s₂, o, pre0 _ ?_, r⟩
    refine sg1 _ ?_
    refine sg2 _ ?_
    refine st3 _ ?_
    refine sg4 _ ?_
    exact k
  by_cases c7 : i1 = (7 : Int32)
  · skip
    have sg2 : ∀ t, Steps p.tables e below (s₁.setTop (mkF m 112 #[.val (.int v0), .val (.int i1), .unset, .unset, .unset] [])) t → Steps p.tables e below (s₁.setTop (mkF m 8 #[.val (.int v0), .val (.int i1), .unset, .unset, .unset] [])) t := by
      intro t k
      show Steps p.tables e below (s₁.setTop (mkF m 8 #[.val (.int v0), .val (.int i1), .unset, .unset, .unset] [])) _
      refine XS.iloadN X0.here hx rfl (hb hby at_8) rfl ?_
      show Steps p.tables e below (s₁.setTop (mkF m 9 #[.val (.int v0), .val (.int i1), .unset, .unset, .unset] [(.int i1)])) _
      refine XS.ifYes X0.here hx rfl (pc0 := 9) (pc' := 21) rfl (hb hby at_9) rfl ((if0 _ _).trans (feq c0).2) (by decide) (by decide) ?_
      show Steps p.tables e below (s₁.setTop (mkF m 21 #[.val (.int v0), .val (.int i1), .unset, .unset, .unset] [])) _
      refine XS.iloadN X0.here hx rfl (hb hby at_21) rfl ?_
      show Steps p.tables e below (s₁.setTop (mkF m 22 #[.val (.int v0), .val (.int i1), .unset, .unset, .unset] [(.int i1)])) _
      refine XS.iconst X0.here hx rfl (hb hby at_22) ?_
      show Steps p.tables e below (s₁.setTop (mkF m 23 #[.val (.int v0), .val (.int i1), .unset, .unset, .unset] [(.int (1 : Int32)), (.int i1)])) _
      refine XS.icmpYes X0.here hx rfl (pc0 := 23) (pc' := 35) rfl (hb hby at_23) rfl (feq c1).2 (by decide) (by decide) ?_
      show Steps p.tables e below (s₁.setTop (mkF m 35 #[.val (.int v0), .val (.int i1), .unset, .unset, .unset] [])) _
      refine XS.iloadN X0.here hx rfl (hb hby at_35) rfl ?_
      show Steps p.tables e below (s₁.setTop (mkF m 36 #[.val (.int v0), .val (.int i1), .unset, .unset, .unset] [(.int i1)])) _
      refine XS.iconst X0.here hx rfl (hb hby at_36) ?_
      show Steps p.tables e below (s₁.setTop (mkF m 37 #[.val (.int v0), .val (.int i1), .unset, .unset, .unset] [(.int (2 : Int32)), (.int i1)])) _
      refine XS.icmpYes X0.here hx rfl (pc0 := 37) (pc' := 49) rfl (hb hby at_37) rfl (feq c2).2 (by decide) (by decide) ?_
      show Steps p.tables e below (s₁.setTop (mkF m 49 #[.val (.int v0), .val (.int i1), .unset, .unset, .unset] [])) _
      refine XS.iloadN X0.here hx rfl (hb hby at_49) rfl ?_
      show Steps p.tables e below (s₁.setTop (mkF m 50 #[.val (.int v0), .val (.int i1), .unset, .unset, .unset] [(.int i1)])) _
      refine XS.iconst X0.here hx rfl (hb hby at_50) ?_
      show Steps p.tables e below (s₁.setTop (mkF m 51 #[.val (.int v0), .val (.int i1), .unset, .unset, .unset] [(.int (3 : Int32)), (.int i1)])) _
      refine XS.icmpYes X0.here hx rfl (pc0 := 51) (pc' := 63) rfl (hb hby at_51) rfl (feq c3).2 (by decide) (by decide) ?_
      show Steps p.tables e below (s₁.setTop (mkF m 63 #[.val (.int v0), .val (.int i1), .unset, .unset, .unset] [])) _
      refine XS.iloadN X0.here hx rfl (hb hby at_63) rfl ?_
      show Steps p.tables e below (s₁.setTop (mkF m 64 #[.val (.int v0), .val (.int i1), .unset, .unset, .unset] [(.int i1)])) _
      refine XS.iconst X0.here hx rfl (hb hby at_64) ?_
      show Steps p.tables e below (s₁.setTop (mkF m 65 #[.val (.int v0), .val (.int i1), .unset, .unset, .unset] [(.int (4 : Int32)), (.int i1)])) _
      refine XS.icmpYes X0.here hx rfl (pc0 := 65) (pc' := 77) rfl (hb hby at_65) rfl (feq c4).2 (by decide) (by decide) ?_
      show Steps p.tables e below (s₁.setTop (mkF m 77 #[.val (.int v0), .val (.int i1), .unset, .unset, .unset] [])) _
      refine XS.iloadN X0.here hx rfl (hb hby at_77) rfl ?_
      show Steps p.tables e below (s₁.setTop (mkF m 78 #[.val (.int v0), .val (.int i1), .unset, .unset, .unset] [(.int i1)])) _
      refine XS.iconst X0.here hx rfl (hb hby at_78) ?_
      show Steps p.tables e below (s₁.setTop (mkF m 79 #[.val (.int v0), .val (.int i1), .unset, .unset, .unset] [(.int (5 : Int32)), (.int i1)])) _
      refine XS.icmpYes X0.here hx rfl (pc0 := 79) (pc' := 91) rfl (hb hby at_79) rfl (feq c5).2 (by decide) (by decide) ?_
      show Steps p.tables e below (s₁.setTop (mkF m 91 #[.val (.int v0), .val (.int i1), .unset, .unset, .unset] [])) _
      refine XS.iloadN X0.here hx rfl (hb hby at_91) rfl ?_
      show Steps p.tables e below (s₁.setTop (mkF m 92 #[.val (.int v0), .val (.int i1), .unset, .unset, .unset] [(.int i1)])) _
      refine XS.bipush X0.here hx rfl (hb hby at_92) ?_
      show Steps p.tables e below (s₁.setTop (mkF m 94 #[.val (.int v0), .val (.int i1), .unset, .unset, .unset] [(.int (6 : Int32)), (.int i1)])) _
      refine XS.icmpYes X0.here hx rfl (pc0 := 94) (pc' := 106) rfl (hb hby at_94) rfl (feq c6).2 (by decide) (by decide) ?_
      show Steps p.tables e below (s₁.setTop (mkF m 106 #[.val (.int v0), .val (.int i1), .unset, .unset, .unset] [])) _
      refine XS.iloadN X0.here hx rfl (hb hby at_106) rfl ?_
      show Steps p.tables e below (s₁.setTop (mkF m 107 #[.val (.int v0), .val (.int i1), .unset, .unset, .unset] [(.int i1)])) _
      refine XS.bipush X0.here hx rfl (hb hby at_107) ?_
      show Steps p.tables e below (s₁.setTop (mkF m 109 #[.val (.int v0), .val (.int i1), .unset, .unset, .unset] [(.int (7 : Int32)), (.int i1)])) _
      refine XS.icmpNo X0.here hx rfl (hb hby at_109) rfl (teq c7).2 ?_
      show Steps p.tables e below (s₁.setTop (mkF m 112 #[.val (.int v0), .val (.int i1), .unset, .unset, .unset] [])) _
      exact k
    obtain ⟨T3, X3, e3, st3⟩ := getS (host := "") X0 hx hZ hown (hw _ (List.mem_of_getElem? (i := 30) rfl)) Via.refl e0 S7 (g := (mkF m 112 #[.val (.int v0), .val (.int i1), .unset, .unset, .unset] [])) rfl (hb hby at_112)
    have sg4 : ∀ t, Steps p.tables e below (T3.setTop (mkF m 187 #[.val (.int v0), .val (.int i1), .val (.ref x7), .val (.int (0 : Int32)), .unset] [])) t → Steps p.tables e below (T3.setTop (mkF m 115 #[.val (.int v0), .val (.int i1), .unset, .unset, .unset] [(.ref x7)])) t := by
      intro t k
      show Steps p.tables e below (T3.setTop (mkF m 115 #[.val (.int v0), .val (.int i1), .unset, .unset, .unset] [(.ref x7)])) _
      refine XS.astoreN X3.here hx rfl (hb hby at_115) rfl rfl (l' := #[.val (.int v0), .val (.int i1), .val (.ref x7), .unset, .unset]) rfl ?_
      show Steps p.tables e below (T3.setTop (mkF m 116 #[.val (.int v0), .val (.int i1), .val (.ref x7), .unset, .unset] [])) _
      refine XS.iconst X3.here hx rfl (hb hby at_116) ?_
      show Steps p.tables e below (T3.setTop (mkF m 117 #[.val (.int v0), .val (.int i1), .val (.ref x7), .unset, .unset] [(.int (0 : Int32))])) _
      refine XS.istoreN X3.here hx rfl (hb hby at_117) rfl (l' := #[.val (.int v0), .val (.int i1), .val (.ref x7), .val (.int (0 : Int32)), .unset]) rfl ?_
      show Steps p.tables e below (T3.setTop (mkF m 118 #[.val (.int v0), .val (.int i1), .val (.ref x7), .val (.int (0 : Int32)), .unset] [])) _
      refine XS.goto X3.here hx rfl (pc0 := 118) (pc' := 187) rfl (hb hby at_118) (by decide) (by decide) ?_
      show Steps p.tables e below (T3.setTop (mkF m 187 #[.val (.int v0), .val (.int i1), .val (.ref x7), .val (.int (0 : Int32)), .unset] [])) _
      exact k
    obtain ⟨s₂, o, k, r⟩ := tailN X3 hx hby Bd.returns hlk hml hZ hown hw e3 N0 Z0 v0 i1 S3 S2 S8 E7 (hw _ (List.mem_of_getElem? (i := 32) rfl)) (by simp [own_k, ne_exa E7 E3 (by decide), ne_exa E7 E2 (by decide), ne_exa E7 E8 (by decide)])
    refine ⟨s₂, o, pre0 _ ?_, r⟩
    refine sg1 _ ?_
    refine sg2 _ ?_
    refine st3 _ ?_
    refine sg4 _ ?_
    exact k
  by_cases c8 : i1 = (8 : Int32)
  · skip
    have sg2 : ∀ t, Steps p.tables e below (s₁.setTop (mkF m 127 #[.val (.int v0), .val (.int i1), .unset, .unset, .unset] [])) t → Steps p.tables e below (s₁.setTop (mkF m 8 #[.val (.int v0), .val (.int i1), .unset, .unset, .unset] [])) t := by
      intro t k
      show Steps p.tables e below (s₁.setTop (mkF m 8 #[.val (.int v0), .val (.int i1), .unset, .unset, .unset] [])) _
      refine XS.iloadN X0.here hx rfl (hb hby at_8) rfl ?_
      show Steps p.tables e below (s₁.setTop (mkF m 9 #[.val (.int v0), .val (.int i1), .unset, .unset, .unset] [(.int i1)])) _
      refine XS.ifYes X0.here hx rfl (pc0 := 9) (pc' := 21) rfl (hb hby at_9) rfl ((if0 _ _).trans (feq c0).2) (by decide) (by decide) ?_
      show Steps p.tables e below (s₁.setTop (mkF m 21 #[.val (.int v0), .val (.int i1), .unset, .unset, .unset] [])) _
      refine XS.iloadN X0.here hx rfl (hb hby at_21) rfl ?_
      show Steps p.tables e below (s₁.setTop (mkF m 22 #[.val (.int v0), .val (.int i1), .unset, .unset, .unset] [(.int i1)])) _
      refine XS.iconst X0.here hx rfl (hb hby at_22) ?_
      show Steps p.tables e below (s₁.setTop (mkF m 23 #[.val (.int v0), .val (.int i1), .unset, .unset, .unset] [(.int (1 : Int32)), (.int i1)])) _
      refine XS.icmpYes X0.here hx rfl (pc0 := 23) (pc' := 35) rfl (hb hby at_23) rfl (feq c1).2 (by decide) (by decide) ?_
      show Steps p.tables e below (s₁.setTop (mkF m 35 #[.val (.int v0), .val (.int i1), .unset, .unset, .unset] [])) _
      refine XS.iloadN X0.here hx rfl (hb hby at_35) rfl ?_
      show Steps p.tables e below (s₁.setTop (mkF m 36 #[.val (.int v0), .val (.int i1), .unset, .unset, .unset] [(.int i1)])) _
      refine XS.iconst X0.here hx rfl (hb hby at_36) ?_
      show Steps p.tables e below (s₁.setTop (mkF m 37 #[.val (.int v0), .val (.int i1), .unset, .unset, .unset] [(.int (2 : Int32)), (.int i1)])) _
      refine XS.icmpYes X0.here hx rfl (pc0 := 37) (pc' := 49) rfl (hb hby at_37) rfl (feq c2).2 (by decide) (by decide) ?_
      show Steps p.tables e below (s₁.setTop (mkF m 49 #[.val (.int v0), .val (.int i1), .unset, .unset, .unset] [])) _
      refine XS.iloadN X0.here hx rfl (hb hby at_49) rfl ?_
      show Steps p.tables e below (s₁.setTop (mkF m 50 #[.val (.int v0), .val (.int i1), .unset, .unset, .unset] [(.int i1)])) _
      refine XS.iconst X0.here hx rfl (hb hby at_50) ?_
      show Steps p.tables e below (s₁.setTop (mkF m 51 #[.val (.int v0), .val (.int i1), .unset, .unset, .unset] [(.int (3 : Int32)), (.int i1)])) _
      refine XS.icmpYes X0.here hx rfl (pc0 := 51) (pc' := 63) rfl (hb hby at_51) rfl (feq c3).2 (by decide) (by decide) ?_
      show Steps p.tables e below (s₁.setTop (mkF m 63 #[.val (.int v0), .val (.int i1), .unset, .unset, .unset] [])) _
      refine XS.iloadN X0.here hx rfl (hb hby at_63) rfl ?_
      show Steps p.tables e below (s₁.setTop (mkF m 64 #[.val (.int v0), .val (.int i1), .unset, .unset, .unset] [(.int i1)])) _
      refine XS.iconst X0.here hx rfl (hb hby at_64) ?_
      show Steps p.tables e below (s₁.setTop (mkF m 65 #[.val (.int v0), .val (.int i1), .unset, .unset, .unset] [(.int (4 : Int32)), (.int i1)])) _
      refine XS.icmpYes X0.here hx rfl (pc0 := 65) (pc' := 77) rfl (hb hby at_65) rfl (feq c4).2 (by decide) (by decide) ?_
      show Steps p.tables e below (s₁.setTop (mkF m 77 #[.val (.int v0), .val (.int i1), .unset, .unset, .unset] [])) _
      refine XS.iloadN X0.here hx rfl (hb hby at_77) rfl ?_
      show Steps p.tables e below (s₁.setTop (mkF m 78 #[.val (.int v0), .val (.int i1), .unset, .unset, .unset] [(.int i1)])) _
      refine XS.iconst X0.here hx rfl (hb hby at_78) ?_
      show Steps p.tables e below (s₁.setTop (mkF m 79 #[.val (.int v0), .val (.int i1), .unset, .unset, .unset] [(.int (5 : Int32)), (.int i1)])) _
      refine XS.icmpYes X0.here hx rfl (pc0 := 79) (pc' := 91) rfl (hb hby at_79) rfl (feq c5).2 (by decide) (by decide) ?_
      show Steps p.tables e below (s₁.setTop (mkF m 91 #[.val (.int v0), .val (.int i1), .unset, .unset, .unset] [])) _
      refine XS.iloadN X0.here hx rfl (hb hby at_91) rfl ?_
      show Steps p.tables e below (s₁.setTop (mkF m 92 #[.val (.int v0), .val (.int i1), .unset, .unset, .unset] [(.int i1)])) _
      refine XS.bipush X0.here hx rfl (hb hby at_92) ?_
      show Steps p.tables e below (s₁.setTop (mkF m 94 #[.val (.int v0), .val (.int i1), .unset, .unset, .unset] [(.int (6 : Int32)), (.int i1)])) _
      refine XS.icmpYes X0.here hx rfl (pc0 := 94) (pc' := 106) rfl (hb hby at_94) rfl (feq c6).2 (by decide) (by decide) ?_
      show Steps p.tables e below (s₁.setTop (mkF m 106 #[.val (.int v0), .val (.int i1), .unset, .unset, .unset] [])) _
      refine XS.iloadN X0.here hx rfl (hb hby at_106) rfl ?_
      show Steps p.tables e below (s₁.setTop (mkF m 107 #[.val (.int v0), .val (.int i1), .unset, .unset, .unset] [(.int i1)])) _
      refine XS.bipush X0.here hx rfl (hb hby at_107) ?_
      show Steps p.tables e below (s₁.setTop (mkF m 109 #[.val (.int v0), .val (.int i1), .unset, .unset, .unset] [(.int (7 : Int32)), (.int i1)])) _
      refine XS.icmpYes X0.here hx rfl (pc0 := 109) (pc' := 121) rfl (hb hby at_109) rfl (feq c7).2 (by decide) (by decide) ?_
      show Steps p.tables e below (s₁.setTop (mkF m 121 #[.val (.int v0), .val (.int i1), .unset, .unset, .unset] [])) _
      refine XS.iloadN X0.here hx rfl (hb hby at_121) rfl ?_
      show Steps p.tables e below (s₁.setTop (mkF m 122 #[.val (.int v0), .val (.int i1), .unset, .unset, .unset] [(.int i1)])) _
      refine XS.bipush X0.here hx rfl (hb hby at_122) ?_
      show Steps p.tables e below (s₁.setTop (mkF m 124 #[.val (.int v0), .val (.int i1), .unset, .unset, .unset] [(.int (8 : Int32)), (.int i1)])) _
      refine XS.icmpNo X0.here hx rfl (hb hby at_124) rfl (teq c8).2 ?_
      show Steps p.tables e below (s₁.setTop (mkF m 127 #[.val (.int v0), .val (.int i1), .unset, .unset, .unset] [])) _
      exact k
    obtain ⟨T3, X3, e3, st3⟩ := getS (host := "") X0 hx hZ hown (hw _ (List.mem_of_getElem? (i := 46) rfl)) Via.refl e0 S8 (g := (mkF m 127 #[.val (.int v0), .val (.int i1), .unset, .unset, .unset] [])) rfl (hb hby at_127)
    have sg4 : ∀ t, Steps p.tables e below (T3.setTop (mkF m 187 #[.val (.int v0), .val (.int i1), .val (.ref x8), .val (.int (1 : Int32)), .unset] [])) t → Steps p.tables e below (T3.setTop (mkF m 130 #[.val (.int v0), .val (.int i1), .unset, .unset, .unset] [(.ref x8)])) t := by
      intro t k
      show Steps p.tables e below (T3.setTop (mkF m 130 #[.val (.int v0), .val (.int i1), .unset, .unset, .unset] [(.ref x8)])) _
      refine XS.astoreN X3.here hx rfl (hb hby at_130) rfl rfl (l' := #[.val (.int v0), .val (.int i1), .val (.ref x8), .unset, .unset]) rfl ?_
      show Steps p.tables e below (T3.setTop (mkF m 131 #[.val (.int v0), .val (.int i1), .val (.ref x8), .unset, .unset] [])) _
      refine XS.iconst X3.here hx rfl (hb hby at_131) ?_
      show Steps p.tables e below (T3.setTop (mkF m 132 #[.val (.int v0), .val (.int i1), .val (.ref x8), .unset, .unset] [(.int (1 : Int32))])) _
      refine XS.istoreN X3.here hx rfl (hb hby at_132) rfl (l' := #[.val (.int v0), .val (.int i1), .val (.ref x8), .val (.int (1 : Int32)), .unset]) rfl ?_
      show Steps p.tables e below (T3.setTop (mkF m 133 #[.val (.int v0), .val (.int i1), .val (.ref x8), .val (.int (1 : Int32)), .unset] [])) _
      refine XS.goto X3.here hx rfl (pc0 := 133) (pc' := 187) rfl (hb hby at_133) (by decide) (by decide) ?_
      show Steps p.tables e below (T3.setTop (mkF m 187 #[.val (.int v0), .val (.int i1), .val (.ref x8), .val (.int (1 : Int32)), .unset] [])) _
      exact k
    obtain ⟨s₂, o, k, r⟩ := tailK X3 hx hby Bd.returns hlk hml hZ hown hw e3 N0 Z0 v0 i1 S3 S2 S8 E8 (hw _ (List.mem_of_getElem? (i := 47) rfl)) (by simp [own_k]) (hw _ (List.mem_of_getElem? (i := 48) rfl)) F8
    refine ⟨s₂, o, pre0 _ ?_, r⟩
    refine sg1 _ ?_
    refine sg2 _ ?_
    refine st3 _ ?_
    refine sg4 _ ?_
    exact k
  by_cases c9 : i1 = (9 : Int32)
  · skip
    have sg2 : ∀ t, Steps p.tables e below (s₁.setTop (mkF m 142 #[.val (.int v0), .val (.int i1), .unset, .unset, .unset] [])) t → Steps p.tables e below (s₁.setTop (mkF m 8 #[.val (.int v0), .val (.int i1), .unset, .unset, .unset] [])) t := by
      intro t k
      show Steps p.tables e below (s₁.setTop (mkF m 8 #[.val (.int v0), .val (.int i1), .unset, .unset, .unset] [])) _
      refine XS.iloadN X0.here hx rfl (hb hby at_8) rfl ?_
      show Steps p.tables e below (s₁.setTop (mkF m 9 #[.val (.int v0), .val (.int i1), .unset, .unset, .unset] [(.int i1)])) _
      refine XS.ifYes X0.here hx rfl (pc0 := 9) (pc' := 21) rfl (hb hby at_9) rfl ((if0 _ _).trans (feq c0).2) (by decide) (by decide) ?_
      show Steps p.tables e below (s₁.setTop (mkF m 21 #[.val (.int v0), .val (.int i1), .unset, .unset, .unset] [])) _
      refine XS.iloadN X0.here hx rfl (hb hby at_21) rfl ?_
      show Steps p.tables e below (s₁.setTop (mkF m 22 #[.val (.int v0), .val (.int i1), .unset, .unset, .unset] [(.int i1)])) _
      refine XS.iconst X0.here hx rfl (hb hby at_22) ?_
      show Steps p.tables e below (s₁.setTop (mkF m 23 #[.val (.int v0), .val (.int i1), .unset, .unset, .unset] [(.int (1 : Int32)), (.int i1)])) _
      refine XS.icmpYes X0.here hx rfl (pc0 := 23) (pc' := 35) rfl (hb hby at_23) rfl (feq c1).2 (by decide) (by decide) ?_
      show Steps p.tables e below (s₁.setTop (mkF m 35 #[.val (.int v0), .val (.int i1), .unset, .unset, .unset] [])) _
      refine XS.iloadN X0.here hx rfl (hb hby at_35) rfl ?_
      show Steps p.tables e below (s₁.setTop (mkF m 36 #[.val (.int v0), .val (.int i1), .unset, .unset, .unset] [(.int i1)])) _
      refine XS.iconst X0.here hx rfl (hb hby at_36) ?_
      show Steps p.tables e below (s₁.setTop (mkF m 37 #[.val (.int v0), .val (.int i1), .unset, .unset, .unset] [(.int (2 : Int32)), (.int i1)])) _
      refine XS.icmpYes X0.here hx rfl (pc0 := 37) (pc' := 49) rfl (hb hby at_37) rfl (feq c2).2 (by decide) (by decide) ?_
      show Steps p.tables e below (s₁.setTop (mkF m 49 #[.val (.int v0), .val (.int i1), .unset, .unset, .unset] [])) _
      refine XS.iloadN X0.here hx rfl (hb hby at_49) rfl ?_
      show Steps p.tables e below (s₁.setTop (mkF m 50 #[.val (.int v0), .val (.int i1), .unset, .unset, .unset] [(.int i1)])) _
      refine XS.iconst X0.here hx rfl (hb hby at_50) ?_
      show Steps p.tables e below (s₁.setTop (mkF m 51 #[.val (.int v0), .val (.int i1), .unset, .unset, .unset] [(.int (3 : Int32)), (.int i1)])) _
      refine XS.icmpYes X0.here hx rfl (pc0 := 51) (pc' := 63) rfl (hb hby at_51) rfl (feq c3).2 (by decide) (by decide) ?_
      show Steps p.tables e below (s₁.setTop (mkF m 63 #[.val (.int v0), .val (.int i1), .unset, .unset, .unset] [])) _
      refine XS.iloadN X0.here hx rfl (hb hby at_63) rfl ?_
      show Steps p.tables e below (s₁.setTop (mkF m 64 #[.val (.int v0), .val (.int i1), .unset, .unset, .unset] [(.int i1)])) _
      refine XS.iconst X0.here hx rfl (hb hby at_64) ?_
      show Steps p.tables e below (s₁.setTop (mkF m 65 #[.val (.int v0), .val (.int i1), .unset, .unset, .unset] [(.int (4 : Int32)), (.int i1)])) _
      refine XS.icmpYes X0.here hx rfl (pc0 := 65) (pc' := 77) rfl (hb hby at_65) rfl (feq c4).2 (by decide) (by decide) ?_
      show Steps p.tables e below (s₁.setTop (mkF m 77 #[.val (.int v0), .val (.int i1), .unset, .unset, .unset] [])) _
      refine XS.iloadN X0.here hx rfl (hb hby at_77) rfl ?_
      show Steps p.tables e below (s₁.setTop (mkF m 78 #[.val (.int v0), .val (.int i1), .unset, .unset, .unset] [(.int i1)])) _
      refine XS.iconst X0.here hx rfl (hb hby at_78) ?_
      show Steps p.tables e below (s₁.setTop (mkF m 79 #[.val (.int v0), .val (.int i1), .unset, .unset, .unset] [(.int (5 : Int32)), (.int i1)])) _
      refine XS.icmpYes X0.here hx rfl (pc0 := 79) (pc' := 91) rfl (hb hby at_79) rfl (feq c5).2 (by decide) (by decide) ?_
      show Steps p.tables e below (s₁.setTop (mkF m 91 #[.val (.int v0), .val (.int i1), .unset, .unset, .unset] [])) _
      refine XS.iloadN X0.here hx rfl (hb hby at_91) rfl ?_
      show Steps p.tables e below (s₁.setTop (mkF m 92 #[.val (.int v0), .val (.int i1), .unset, .unset, .unset] [(.int i1)])) _
      refine XS.bipush X0.here hx rfl (hb hby at_92) ?_
      show Steps p.tables e below (s₁.setTop (mkF m 94 #[.val (.int v0), .val (.int i1), .unset, .unset, .unset] [(.int (6 : Int32)), (.int i1)])) _
      refine XS.icmpYes X0.here hx rfl (pc0 := 94) (pc' := 106) rfl (hb hby at_94) rfl (feq c6).2 (by decide) (by decide) ?_
      show Steps p.tables e below (s₁.setTop (mkF m 106 #[.val (.int v0), .val (.int i1), .unset, .unset, .unset] [])) _
      refine XS.iloadN X0.here hx rfl (hb hby at_106) rfl ?_
      show Steps p.tables e below (s₁.setTop (mkF m 107 #[.val (.int v0), .val (.int i1), .unset, .unset, .unset] [(.int i1)])) _
      refine XS.bipush X0.here hx rfl (hb hby at_107) ?_
      show Steps p.tables e below (s₁.setTop (mkF m 109 #[.val (.int v0), .val (.int i1), .unset, .unset, .unset] [(.int (7 : Int32)), (.int i1)])) _
      refine XS.icmpYes X0.here hx rfl (pc0 := 109) (pc' := 121) rfl (hb hby at_109) rfl (feq c7).2 (by decide) (by decide) ?_
      show Steps p.tables e below (s₁.setTop (mkF m 121 #[.val (.int v0), .val (.int i1), .unset, .unset, .unset] [])) _
      refine XS.iloadN X0.here hx rfl (hb hby at_121) rfl ?_
      show Steps p.tables e below (s₁.setTop (mkF m 122 #[.val (.int v0), .val (.int i1), .unset, .unset, .unset] [(.int i1)])) _
      refine XS.bipush X0.here hx rfl (hb hby at_122) ?_
      show Steps p.tables e below (s₁.setTop (mkF m 124 #[.val (.int v0), .val (.int i1), .unset, .unset, .unset] [(.int (8 : Int32)), (.int i1)])) _
      refine XS.icmpYes X0.here hx rfl (pc0 := 124) (pc' := 136) rfl (hb hby at_124) rfl (feq c8).2 (by decide) (by decide) ?_
      show Steps p.tables e below (s₁.setTop (mkF m 136 #[.val (.int v0), .val (.int i1), .unset, .unset, .unset] [])) _
      refine XS.iloadN X0.here hx rfl (hb hby at_136) rfl ?_
      show Steps p.tables e below (s₁.setTop (mkF m 137 #[.val (.int v0), .val (.int i1), .unset, .unset, .unset] [(.int i1)])) _
      refine XS.bipush X0.here hx rfl (hb hby at_137) ?_
      show Steps p.tables e below (s₁.setTop (mkF m 139 #[.val (.int v0), .val (.int i1), .unset, .unset, .unset] [(.int (9 : Int32)), (.int i1)])) _
      refine XS.icmpNo X0.here hx rfl (hb hby at_139) rfl (teq c9).2 ?_
      show Steps p.tables e below (s₁.setTop (mkF m 142 #[.val (.int v0), .val (.int i1), .unset, .unset, .unset] [])) _
      exact k
    obtain ⟨T3, X3, e3, st3⟩ := getS (host := "") X0 hx hZ hown (hw _ (List.mem_of_getElem? (i := 33) rfl)) Via.refl e0 S9 (g := (mkF m 142 #[.val (.int v0), .val (.int i1), .unset, .unset, .unset] [])) rfl (hb hby at_142)
    have sg4 : ∀ t, Steps p.tables e below (T3.setTop (mkF m 187 #[.val (.int v0), .val (.int i1), .val (.ref x9), .val (.int (0 : Int32)), .unset] [])) t → Steps p.tables e below (T3.setTop (mkF m 145 #[.val (.int v0), .val (.int i1), .unset, .unset, .unset] [(.ref x9)])) t := by
      intro t k
      show Steps p.tables e below (T3.setTop (mkF m 145 #[.val (.int v0), .val (.int i1), .unset, .unset, .unset] [(.ref x9)])) _
      refine XS.astoreN X3.here hx rfl (hb hby at_145) rfl rfl (l' := #[.val (.int v0), .val (.int i1), .val (.ref x9), .unset, .unset]) rfl ?_
      show Steps p.tables e below (T3.setTop (mkF m 146 #[.val (.int v0), .val (.int i1), .val (.ref x9), .unset, .unset] [])) _
      refine XS.iconst X3.here hx rfl (hb hby at_146) ?_
      show Steps p.tables e below (T3.setTop (mkF m 147 #[.val (.int v0), .val (.int i1), .val (.ref x9), .unset, .unset] [(.int (0 : Int32))])) _
      refine XS.istoreN X3.here hx rfl (hb hby at_147) rfl (l' := #[.val (.int v0), .val (.int i1), .val (.ref x9), .val (.int (0 : Int32)), .unset]) rfl ?_
      show Steps p.tables e below (T3.setTop (mkF m 148 #[.val (.int v0), .val (.int i1), .val (.ref x9), .val (.int (0 : Int32)), .unset] [])) _
      refine XS.goto X3.here hx rfl (pc0 := 148) (pc' := 187) rfl (hb hby at_148) (by decide) (by decide) ?_
      show Steps p.tables e below (T3.setTop (mkF m 187 #[.val (.int v0), .val (.int i1), .val (.ref x9), .val (.int (0 : Int32)), .unset] [])) _
      exact k
    obtain ⟨s₂, o, k, r⟩ := tailN X3 hx hby Bd.returns hlk hml hZ hown hw e3 N0 Z0 v0 i1 S3 S2 S8 E9 (hw _ (List.mem_of_getElem? (i := 35) rfl)) (by simp [own_k, ne_exa E9 E3 (by decide), ne_exa E9 E2 (by decide), ne_exa E9 E8 (by decide)])
    refine ⟨s₂, o, pre0 _ ?_, r⟩
    refine sg1 _ ?_
    refine sg2 _ ?_
    refine st3 _ ?_
    refine sg4 _ ?_
    exact k
  by_cases c10 : i1 = (10 : Int32)
  · skip
    have sg2 : ∀ t, Steps p.tables e below (s₁.setTop (mkF m 157 #[.val (.int v0), .val (.int i1), .unset, .unset, .unset] [])) t → Steps p.tables e below (s₁.setTop (mkF m 8 #[.val (.int v0), .val (.int i1), .unset, .unset, .unset] [])) t := by
      intro t k
      show Steps p.tables e below (s₁.setTop (mkF m 8 #[.val (.int v0), .val (.int i1), .unset, .unset, .unset] [])) _
      refine XS.iloadN X0.here hx rfl (hb hby at_8) rfl ?_
      show Steps p.tables e below (s₁.setTop (mkF m 9 #[.val (.int v0), .val (.int i1), .unset, .unset, .unset] [(.int i1)])) _
      refine XS.ifYes X0.here hx rfl (pc0 := 9) (pc' := 21) rfl (hb hby at_9) rfl ((if0 _ _).trans (feq c0).2) (by decide) (by decide) ?_
      show Steps p.tables e below (s₁.setTop (mkF m 21 #[.val (.int v0), .val (.int i1), .unset, .unset, .unset] [])) _
      refine XS.iloadN X0.here hx rfl (hb hby at_21) rfl ?_
      show Steps p.tables e below (s₁.setTop (mkF m 22 #[.val (.int v0), .val (.int i1), .unset, .unset, .unset] [(.int i1)])) _
      refine XS.iconst X0.here hx rfl (hb hby at_22) ?_
      show Steps p.tables e below (s₁.setTop (mkF m 23 #[.val (.int v0), .val (.int i1), .unset, .unset, .unset] [(.int (1 : Int32)), (.int i1)])) _
      refine XS.icmpYes X0.here hx rfl (pc0 := 23) (pc' := 35) rfl (hb hby at_23) rfl (feq c1).2 (by decide) (by decide) ?_
      show Steps p.tables e below (s₁.setTop (mkF m 35 #[.val (.int v0), .val (.int i1), .unset, .unset, .unset] [])) _
      refine XS.iloadN X0.here hx rfl (hb hby at_35) rfl ?_
      show Steps p.tables e below (s₁.setTop (mkF m 36 #[.val (.int v0), .val (.int i1), .unset, .unset, .unset] [(.int i1)])) _
      refine XS.iconst X0.here hx rfl (hb hby at_36) ?_
      show Steps p.tables e below (s₁.setTop (mkF m 37 #[.val (.int v0), .val (.int i1), .unset, .unset, .unset] [(.int (2 : Int32)), (.int i1)])) _
      refine XS.icmpYes X0.here hx rfl (pc0 := 37) (pc' := 49) rfl (hb hby at_37) rfl (feq c2).2 (by decide) (by decide) ?_
      show Steps p.tables e below (s₁.setTop (mkF m 49 #[.val (.int v0), .val (.int i1), .unset, .unset, .unset] [])) _
      refine XS.iloadN X0.here hx rfl (hb hby at_49) rfl ?_
      show Steps p.tables e below (s₁.setTop (mkF m 50 #[.val (.int v0), .val (.int i1), .unset, .unset, .unset] [(.int i1)])) _
      refine XS.iconst X0.here hx rfl (hb hby at_50) ?_
      show Steps p.tables e below (s₁.setTop (mkF m 51 #[.val (.int v0), .val (.int i1), .unset, .unset, .unset] [(.int (3 : Int32)), (.int i1)])) _
      refine XS.icmpYes X0.here hx rfl (pc0 := 51) (pc' := 63) rfl (hb hby at_51) rfl (feq c3).2 (by decide) (by decide) ?_
      show Steps p.tables e below (s₁.setTop (mkF m 63 #[.val (.int v0), .val (.int i1), .unset, .unset, .unset] [])) _
      refine XS.iloadN X0.here hx rfl (hb hby at_63) rfl ?_
      show Steps p.tables e below (s₁.setTop (mkF m 64 #[.val (.int v0), .val (.int i1), .unset, .unset, .unset] [(.int i1)])) _
      refine XS.iconst X0.here hx rfl (hb hby at_64) ?_
      show Steps p.tables e below (s₁.setTop (mkF m 65 #[.val (.int v0), .val (.int i1), .unset, .unset, .unset] [(.int (4 : Int32)), (.int i1)])) _
      refine XS.icmpYes X0.here hx rfl (pc0 := 65) (pc' := 77) rfl (hb hby at_65) rfl (feq c4).2 (by decide) (by decide) ?_
      show Steps p.tables e below (s₁.setTop (mkF m 77 #[.val (.int v0), .val (.int i1), .unset, .unset, .unset] [])) _
      refine XS.iloadN X0.here hx rfl (hb hby at_77) rfl ?_
      show Steps p.tables e below (s₁.setTop (mkF m 78 #[.val (.int v0), .val (.int i1), .unset, .unset, .unset] [(.int i1)])) _
      refine XS.iconst X0.here hx rfl (hb hby at_78) ?_
      show Steps p.tables e below (s₁.setTop (mkF m 79 #[.val (.int v0), .val (.int i1), .unset, .unset, .unset] [(.int (5 : Int32)), (.int i1)])) _
      refine XS.icmpYes X0.here hx rfl (pc0 := 79) (pc' := 91) rfl (hb hby at_79) rfl (feq c5).2 (by decide) (by decide) ?_
      show Steps p.tables e below (s₁.setTop (mkF m 91 #[.val (.int v0), .val (.int i1), .unset, .unset, .unset] [])) _
      refine XS.iloadN X0.here hx rfl (hb hby at_91) rfl ?_
      show Steps p.tables e below (s₁.setTop (mkF m 92 #[.val (.int v0), .val (.int i1), .unset, .unset, .unset] [(.int i1)])) _
      refine XS.bipush X0.here hx rfl (hb hby at_92) ?_
      show Steps p.tables e below (s₁.setTop (mkF m 94 #[.val (.int v0), .val (.int i1), .unset, .unset, .unset] [(.int (6 : Int32)), (.int i1)])) _
      refine XS.icmpYes X0.here hx rfl (pc0 := 94) (pc' := 106) rfl (hb hby at_94) rfl (feq c6).2 (by decide) (by decide) ?_
      show Steps p.tables e below (s₁.setTop (mkF m 106 #[.val (.int v0), .val (.int i1), .unset, .unset, .unset] [])) _
      refine XS.iloadN X0.here hx rfl (hb hby at_106) rfl ?_
      show Steps p.tables e below (s₁.setTop (mkF m 107 #[.val (.int v0), .val (.int i1), .unset, .unset, .unset] [(.int i1)])) _
      refine XS.bipush X0.here hx rfl (hb hby at_107) ?_
      show Steps p.tables e below (s₁.setTop (mkF m 109 #[.val (.int v0), .val (.int i1), .unset, .unset, .unset] [(.int (7 : Int32)), (.int i1)])) _
      refine XS.icmpYes X0.here hx rfl (pc0 := 109) (pc' := 121) rfl (hb hby at_109) rfl (feq c7).2 (by decide) (by decide) ?_
      show Steps p.tables e below (s₁.setTop (mkF m 121 #[.val (.int v0), .val (.int i1), .unset, .unset, .unset] [])) _
      refine XS.iloadN X0.here hx rfl (hb hby at_121) rfl ?_
      show Steps p.tables e below (s₁.setTop (mkF m 122 #[.val (.int v0), .val (.int i1), .unset, .unset, .unset] [(.int i1)])) _
      refine XS.bipush X0.here hx rfl (hb hby at_122) ?_
      show Steps p.tables e below (s₁.setTop (mkF m 124 #[.val (.int v0), .val (.int i1), .unset, .unset, .unset] [(.int (8 : Int32)), (.int i1)])) _
      refine XS.icmpYes X0.here hx rfl (pc0 := 124) (pc' := 136) rfl (hb hby at_124) rfl (feq c8).2 (by decide) (by decide) ?_
      show Steps p.tables e below (s₁.setTop (mkF m 136 #[.val (.int v0), .val (.int i1), .unset, .unset, .unset] [])) _
      refine XS.iloadN X0.here hx rfl (hb hby at_136) rfl ?_
      show Steps p.tables e below (s₁.setTop (mkF m 137 #[.val (.int v0), .val (.int i1), .unset, .unset, .unset] [(.int i1)])) _
      refine XS.bipush X0.here hx rfl (hb hby at_137) ?_
      show Steps p.tables e below (s₁.setTop (mkF m 139 #[.val (.int v0), .val (.int i1), .unset, .unset, .unset] [(.int (9 : Int32)), (.int i1)])) _
      refine XS.icmpYes X0.here hx rfl (pc0 := 139) (pc' := 151) rfl (hb hby at_139) rfl (feq c9).2 (by decide) (by decide) ?_
      show Steps p.tables e below (s₁.setTop (mkF m 151 #[.val (.int v0), .val (.int i1), .unset, .unset, .unset] [])) _
      refine XS.iloadN X0.here hx rfl (hb hby at_151) rfl ?_
      show Steps p.tables e below (s₁.setTop (mkF m 152 #[.val (.int v0), .val (.int i1), .unset, .unset, .unset] [(.int i1)])) _
      refine XS.bipush X0.here hx rfl (hb hby at_152) ?_
      show Steps p.tables e below (s₁.setTop (mkF m 154 #[.val (.int v0), .val (.int i1), .unset, .unset, .unset] [(.int (10 : Int32)), (.int i1)])) _
      refine XS.icmpNo X0.here hx rfl (hb hby at_154) rfl (teq c10).2 ?_
      show Steps p.tables e below (s₁.setTop (mkF m 157 #[.val (.int v0), .val (.int i1), .unset, .unset, .unset] [])) _
      exact k
    obtain ⟨T3, X3, e3, st3⟩ := getS (host := "") X0 hx hZ hown (hw _ (List.mem_of_getElem? (i := 50) rfl)) Via.refl e0 S10 (g := (mkF m 157 #[.val (.int v0), .val (.int i1), .unset, .unset, .unset] [])) rfl (hb hby at_157)
    have sg4 : ∀ t, Steps p.tables e below (T3.setTop (mkF m 187 #[.val (.int v0), .val (.int i1), .val (.ref x10), .val (.int (0 : Int32)), .unset] [])) t → Steps p.tables e below (T3.setTop (mkF m 160 #[.val (.int v0), .val (.int i1), .unset, .unset, .unset] [(.ref x10)])) t := by
      intro t k
      show Steps p.tables e below (T3.setTop (mkF m 160 #[.val (.int v0), .val (.int i1), .unset, .unset, .unset] [(.ref x10)])) _
      refine XS.astoreN X3.here hx rfl (hb hby at_160) rfl rfl (l' := #[.val (.int v0), .val (.int i1), .val (.ref x10), .unset, .unset]) rfl ?_
      show Steps p.tables e below (T3.setTop (mkF m 161 #[.val (.int v0), .val (.int i1), .val (.ref x10), .unset, .unset] [])) _
      refine XS.iconst X3.here hx rfl (hb hby at_161) ?_
      show Steps p.tables e below (T3.setTop (mkF m 162 #[.val (.int v0), .val (.int i1), .val (.ref x10), .unset, .unset] [(.int (0 : Int32))])) _
      refine XS.istoreN X3.here hx rfl (hb hby at_162) rfl (l' := #[.val (.int v0), .val (.int i1), .val (.ref x10), .val (.int (0 : Int32)), .unset]) rfl ?_
      show Steps p.tables e below (T3.setTop (mkF m 163 #[.val (.int v0), .val (.int i1), .val (.ref x10), .val (.int (0 : Int32)), .unset] [])) _
      refine XS.goto X3.here hx rfl (pc0 := 163) (pc' := 187) rfl (hb hby at_163) (by decide) (by decide) ?_
      show Steps p.tables e below (T3.setTop (mkF m 187 #[.val (.int v0), .val (.int i1), .val (.ref x10), .val (.int (0 : Int32)), .unset] [])) _
      exact k
    obtain ⟨s₂, o, k, r⟩ := tailN X3 hx hby Bd.returns hlk hml hZ hown hw e3 N0 Z0 v0 i1 S3 S2 S8 E10 (hw _ (List.mem_of_getElem? (i := 52) rfl)) (by simp [own_k, ne_exa E10 E3 (by decide), ne_exa E10 E2 (by decide), ne_exa E10 E8 (by decide)])
    refine ⟨s₂, o, pre0 _ ?_, r⟩
    refine sg1 _ ?_
    refine sg2 _ ?_
    refine st3 _ ?_
    refine sg4 _ ?_
    exact k
  by_cases c11 : i1 = (11 : Int32)
  · skip
    have sg2 : ∀ t, Steps p.tables e below (s₁.setTop (mkF m 172 #[.val (.int v0), .val (.int i1), .unset, .unset, .unset] [])) t → Steps p.tables e below (s₁.setTop (mkF m 8 #[.val (.int v0), .val (.int i1), .unset, .unset, .unset] [])) t := by
      intro t k
      show Steps p.tables e below (s₁.setTop (mkF m 8 #[.val (.int v0), .val (.int i1), .unset, .unset, .unset] [])) _
      refine XS.iloadN X0.here hx rfl (hb hby at_8) rfl ?_
      show Steps p.tables e below (s₁.setTop (mkF m 9 #[.val (.int v0), .val (.int i1), .unset, .unset, .unset] [(.int i1)])) _
      refine XS.ifYes X0.here hx rfl (pc0 := 9) (pc' := 21) rfl (hb hby at_9) rfl ((if0 _ _).trans (feq c0).2) (by decide) (by decide) ?_
      show Steps p.tables e below (s₁.setTop (mkF m 21 #[.val (.int v0), .val (.int i1), .unset, .unset, .unset] [])) _
      refine XS.iloadN X0.here hx rfl (hb hby at_21) rfl ?_
      show Steps p.tables e below (s₁.setTop (mkF m 22 #[.val (.int v0), .val (.int i1), .unset, .unset, .unset] [(.int i1)])) _
      refine XS.iconst X0.here hx rfl (hb hby at_22) ?_
      show Steps p.tables e below (s₁.setTop (mkF m 23 #[.val (.int v0), .val (.int i1), .unset, .unset, .unset] [(.int (1 : Int32)), (.int i1)])) _
      refine XS.icmpYes X0.here hx rfl (pc0 := 23) (pc' := 35) rfl (hb hby at_23) rfl (feq c1).2 (by decide) (by decide) ?_
      show Steps p.tables e below (s₁.setTop (mkF m 35 #[.val (.int v0), .val (.int i1), .unset, .unset, .unset] [])) _
      refine XS.iloadN X0.here hx rfl (hb hby at_35) rfl ?_
      show Steps p.tables e below (s₁.setTop (mkF m 36 #[.val (.int v0), .val (.int i1), .unset, .unset, .unset] [(.int i1)])) _
      refine XS.iconst X0.here hx rfl (hb hby at_36) ?_
      show Steps p.tables e below (s₁.setTop (mkF m 37 #[.val (.int v0), .val (.int i1), .unset, .unset, .unset] [(.int (2 : Int32)), (.int i1)])) _
      refine XS.icmpYes X0.here hx rfl (pc0 := 37) (pc' := 49) rfl (hb hby at_37) rfl (feq c2).2 (by decide) (by decide) ?_
      show Steps p.tables e below (s₁.setTop (mkF m 49 #[.val (.int v0), .val (.int i1), .unset, .unset, .unset] [])) _
      refine XS.iloadN X0.here hx rfl (hb hby at_49) rfl ?_
      show Steps p.tables e below (s₁.setTop (mkF m 50 #[.val (.int v0), .val (.int i1), .unset, .unset, .unset] [(.int i1)])) _
      refine XS.iconst X0.here hx rfl (hb hby at_50) ?_
      show Steps p.tables e below (s₁.setTop (mkF m 51 #[.val (.int v0), .val (.int i1), .unset, .unset, .unset] [(.int (3 : Int32)), (.int i1)])) _
      refine XS.icmpYes X0.here hx rfl (pc0 := 51) (pc' := 63) rfl (hb hby at_51) rfl (feq c3).2 (by decide) (by decide) ?_
      show Steps p.tables e below (s₁.setTop (mkF m 63 #[.val (.int v0), .val (.int i1), .unset, .unset, .unset] [])) _
      refine XS.iloadN X0.here hx rfl (hb hby at_63) rfl ?_
      show Steps p.tables e below (s₁.setTop (mkF m 64 #[.val (.int v0), .val (.int i1), .unset, .unset, .unset] [(.int i1)])) _
      refine XS.iconst X0.here hx rfl (hb hby at_64) ?_
      show Steps p.tables e below (s₁.setTop (mkF m 65 #[.val (.int v0), .val (.int i1), .unset, .unset, .unset] [(.int (4 : Int32)), (.int i1)])) _
      refine XS.icmpYes X0.here hx rfl (pc0 := 65) (pc' := 77) rfl (hb hby at_65) rfl (feq c4).2 (by decide) (by decide) ?_
      show Steps p.tables e below (s₁.setTop (mkF m 77 #[.val (.int v0), .val (.int i1), .unset, .unset, .unset] [])) _
      refine XS.iloadN X0.here hx rfl (hb hby at_77) rfl ?_
      show Steps p.tables e below (s₁.setTop (mkF m 78 #[.val (.int v0), .val (.int i1), .unset, .unset, .unset] [(.int i1)])) _
      refine XS.iconst X0.here hx rfl (hb hby at_78) ?_
      show Steps p.tables e below (s₁.setTop (mkF m 79 #[.val (.int v0), .val (.int i1), .unset, .unset, .unset] [(.int (5 : Int32)), (.int i1)])) _
      refine XS.icmpYes X0.here hx rfl (pc0 := 79) (pc' := 91) rfl (hb hby at_79) rfl (feq c5).2 (by decide) (by decide) ?_
      show Steps p.tables e below (s₁.setTop (mkF m 91 #[.val (.int v0), .val (.int i1), .unset, .unset, .unset] [])) _
      refine XS.iloadN X0.here hx rfl (hb hby at_91) rfl ?_
      show Steps p.tables e below (s₁.setTop (mkF m 92 #[.val (.int v0), .val (.int i1), .unset, .unset, .unset] [(.int i1)])) _
      refine XS.bipush X0.here hx rfl (hb hby at_92) ?_
      show Steps p.tables e below (s₁.setTop (mkF m 94 #[.val (.int v0), .val (.int i1), .unset, .unset, .unset] [(.int (6 : Int32)), (.int i1)])) _
      refine XS.icmpYes X0.here hx rfl (pc0 := 94) (pc' := 106) rfl (hb hby at_94) rfl (feq c6).2 (by decide) (by decide) ?_
      show Steps p.tables e below (s₁.setTop (mkF m 106 #[.val (.int v0), .val (.int i1), .unset, .unset, .unset] [])) _
      refine XS.iloadN X0.here hx rfl (hb hby at_106) rfl ?_
      show Steps p.tables e below (s₁.setTop (mkF m 107 #[.val (.int v0), .val (.int i1), .unset, .unset, .unset] [(.int i1)])) _
      refine XS.bipush X0.here hx rfl (hb hby at_107) ?_
      show Steps p.tables e below (s₁.setTop (mkF m 109 #[.val (.int v0), .val (.int i1), .unset, .unset, .unset] [(.int (7 : Int32)), (.int i1)])) _
      refine XS.icmpYes X0.here hx rfl (pc0 := 109) (pc' := 121) rfl (hb hby at_109) rfl (feq c7).2 (by decide) (by decide) ?_
      show Steps p.tables e below (s₁.setTop (mkF m 121 #[.val (.int v0), .val (.int i1), .unset, .unset, .unset] [])) _
      refine XS.iloadN X0.here hx rfl (hb hby at_121) rfl ?_
      show Steps p.tables e below (s₁.setTop (mkF m 122 #[.val (.int v0), .val (.int i1), .unset, .unset, .unset] [(.int i1)])) _
      refine XS.bipush X0.here hx rfl (hb hby at_122) ?_
      show Steps p.tables e below (s₁.setTop (mkF m 124 #[.val (.int v0), .val (.int i1), .unset, .unset, .unset] [(.int (8 : Int32)), (.int i1)])) _
      refine XS.icmpYes X0.here hx rfl (pc0 := 124) (pc' := 136) rfl (hb hby at_124) rfl (feq c8).2 (by decide) (by decide) ?_
      show Steps p.tables e below (s₁.setTop (mkF m 136 #[.val (.int v0), .val (.int i1), .unset, .unset, .unset] [])) _
      refine XS.iloadN X0.here hx rfl (hb hby at_136) rfl ?_
      show Steps p.tables e below (s₁.setTop (mkF m 137 #[.val (.int v0), .val (.int i1), .unset, .unset, .unset] [(.int i1)])) _
      refine XS.bipush X0.here hx rfl (hb hby at_137) ?_
      show Steps p.tables e below (s₁.setTop (mkF m 139 #[.val (.int v0), .val (.int i1), .unset, .unset, .unset] [(.int (9 : Int32)), (.int i1)])) _
      refine XS.icmpYes X0.here hx rfl (pc0 := 139) (pc' := 151) rfl (hb hby at_139) rfl (feq c9).2 (by decide) (by decide) ?_
      show Steps p.tables e below (s₁.setTop (mkF m 151 #[.val (.int v0), .val (.int i1), .unset, .unset, .unset] [])) _
      refine XS.iloadN X0.here hx rfl (hb hby at_151) rfl ?_
      show Steps p.tables e below (s₁.setTop (mkF m 152 #[.val (.int v0), .val (.int i1), .unset, .unset, .unset] [(.int i1)])) _
      refine XS.bipush X0.here hx rfl (hb hby at_152) ?_
      show Steps p.tables e below (s₁.setTop (mkF m 154 #[.val (.int v0), .val (.int i1), .unset, .unset, .unset] [(.int (10 : Int32)), (.int i1)])) _
      refine XS.icmpYes X0.here hx rfl (pc0 := 154) (pc' := 166) rfl (hb hby at_154) rfl (feq c10).2 (by decide) (by decide) ?_
      show Steps p.tables e below (s₁.setTop (mkF m 166 #[.val (.int v0), .val (.int i1), .unset, .unset, .unset] [])) _
      refine XS.iloadN X0.here hx rfl (hb hby at_166) rfl ?_
      show Steps p.tables e below (s₁.setTop (mkF m 167 #[.val (.int v0), .val (.int i1), .unset, .unset, .unset] [(.int i1)])) _
      refine XS.bipush X0.here hx rfl (hb hby at_167) ?_
      show Steps p.tables e below (s₁.setTop (mkF m 169 #[.val (.int v0), .val (.int i1), .unset, .unset, .unset] [(.int (11 : Int32)), (.int i1)])) _
      refine XS.icmpNo X0.here hx rfl (hb hby at_169) rfl (teq c11).2 ?_
      show Steps p.tables e below (s₁.setTop (mkF m 172 #[.val (.int v0), .val (.int i1), .unset, .unset, .unset] [])) _
      exact k
    obtain ⟨T3, X3, e3, st3⟩ := getS (host := "") X0 hx hZ hown (hw _ (List.mem_of_getElem? (i := 40) rfl)) Via.refl e0 S11 (g := (mkF m 172 #[.val (.int v0), .val (.int i1), .unset, .unset, .unset] [])) rfl (hb hby at_172)
    have sg4 : ∀ t, Steps p.tables e below (T3.setTop (mkF m 187 #[.val (.int v0), .val (.int i1), .val (.ref x11), .val (.int (0 : Int32)), .unset] [])) t → Steps p.tables e below (T3.setTop (mkF m 175 #[.val (.int v0), .val (.int i1), .unset, .unset, .unset] [(.ref x11)])) t := by
      intro t k
      show Steps p.tables e below (T3.setTop (mkF m 175 #[.val (.int v0), .val (.int i1), .unset, .unset, .unset] [(.ref x11)])) _
      refine XS.astoreN X3.here hx rfl (hb hby at_175) rfl rfl (l' := #[.val (.int v0), .val (.int i1), .val (.ref x11), .unset, .unset]) rfl ?_
      show Steps p.tables e below (T3.setTop (mkF m 176 #[.val (.int v0), .val (.int i1), .val (.ref x11), .unset, .unset] [])) _
      refine XS.iconst X3.here hx rfl (hb hby at_176) ?_
      show Steps p.tables e below (T3.setTop (mkF m 177 #[.val (.int v0), .val (.int i1), .val (.ref x11), .unset, .unset] [(.int (0 : Int32))])) _
      refine XS.istoreN X3.here hx rfl (hb hby at_177) rfl (l' := #[.val (.int v0), .val (.int i1), .val (.ref x11), .val (.int (0 : Int32)), .unset]) rfl ?_
      show Steps p.tables e below (T3.setTop (mkF m 178 #[.val (.int v0), .val (.int i1), .val (.ref x11), .val (.int (0 : Int32)), .unset] [])) _
      refine XS.goto X3.here hx rfl (pc0 := 178) (pc' := 187) rfl (hb hby at_178) (by decide) (by decide) ?_
      show Steps p.tables e below (T3.setTop (mkF m 187 #[.val (.int v0), .val (.int i1), .val (.ref x11), .val (.int (0 : Int32)), .unset] [])) _
      exact k
    obtain ⟨s₂, o, k, r⟩ := tailN X3 hx hby Bd.returns hlk hml hZ hown hw e3 N0 Z0 v0 i1 S3 S2 S8 E11 (hw _ (List.mem_of_getElem? (i := 42) rfl)) (by simp [own_k, ne_exa E11 E3 (by decide), ne_exa E11 E2 (by decide), ne_exa E11 E8 (by decide)])
    refine ⟨s₂, o, pre0 _ ?_, r⟩
    refine sg1 _ ?_
    refine sg2 _ ?_
    refine st3 _ ?_
    refine sg4 _ ?_
    exact k
  have sg2 : ∀ t, Steps p.tables e below (s₁.setTop (mkF m 181 #[.val (.int v0), .val (.int i1), .unset, .unset, .unset] [])) t → Steps p.tables e below (s₁.setTop (mkF m 8 #[.val (.int v0), .val (.int i1), .unset, .unset, .unset] [])) t := by
    intro t k
    show Steps p.tables e below (s₁.setTop (mkF m 8 #[.val (.int v0), .val (.int i1), .unset, .unset, .unset] [])) _
    refine XS.iloadN X0.here hx rfl (hb hby at_8) rfl ?_
    show Steps p.tables e below (s₁.setTop (mkF m 9 #[.val (.int v0), .val (.int i1), .unset, .unset, .unset] [(.int i1)])) _
    refine XS.ifYes X0.here hx rfl (pc0 := 9) (pc' := 21) rfl (hb hby at_9) rfl ((if0 _ _).trans (feq c0).2) (by decide) (by decide) ?_
    show Steps p.tables e below (s₁.setTop (mkF m 21 #[.val (.int v0), .val (.int i1), .unset, .unset, .unset] [])) _
    refine XS.iloadN X0.here hx rfl (hb hby at_21) rfl ?_
    show Steps p.tables e below (s₁.setTop (mkF m 22 #[.val (.int v0), .val (.int i1), .unset, .unset, .unset] [(.int i1)])) _
    refine XS.iconst X0.here hx rfl (hb hby at_22) ?_
    show Steps p.tables e below (s₁.setTop (mkF m 23 #[.val (.int v0), .val (.int i1), .unset, .unset, .unset] [(.int (1 : Int32)), (.int i1)])) _
    refine XS.icmpYes X0.here hx rfl (pc0 := 23) (pc' := 35) rfl (hb hby at_23) rfl (feq c1).2 (by decide) (by decide) ?_
    show Steps p.tables e below (s₁.setTop (mkF m 35 #[.val (.int v0), .val (.int i1), .unset, .unset, .unset] [])) _
    refine XS.iloadN X0.here hx rfl (hb hby at_35) rfl ?_
    show Steps p.tables e below (s₁.setTop (mkF m 36 #[.val (.int v0), .val (.int i1), .unset, .unset, .unset] [(.int i1)])) _
    refine XS.iconst X0.here hx rfl (hb hby at_36) ?_
    show Steps p.tables e below (s₁.setTop (mkF m 37 #[.val (.int v0), .val (.int i1), .unset, .unset, .unset] [(.int (2 : Int32)), (.int i1)])) _
    refine XS.icmpYes X0.here hx rfl (pc0 := 37) (pc' := 49) rfl (hb hby at_37) rfl (feq c2).2 (by decide) (by decide) ?_
    show Steps p.tables e below (s₁.setTop (mkF m 49 #[.val (.int v0), .val (.int i1), .unset, .unset, .unset] [])) _
    refine XS.iloadN X0.here hx rfl (hb hby at_49) rfl ?_
    show Steps p.tables e below (s₁.setTop (mkF m 50 #[.val (.int v0), .val (.int i1), .unset, .unset, .unset] [(.int i1)])) _
    refine XS.iconst X0.here hx rfl (hb hby at_50) ?_
    show Steps p.tables e below (s₁.setTop (mkF m 51 #[.val (.int v0), .val (.int i1), .unset, .unset, .unset] [(.int (3 : Int32)), (.int i1)])) _
    refine XS.icmpYes X0.here hx rfl (pc0 := 51) (pc' := 63) rfl (hb hby at_51) rfl (feq c3).2 (by decide) (by decide) ?_
    show Steps p.tables e below (s₁.setTop (mkF m 63 #[.val (.int v0), .val (.int i1), .unset, .unset, .unset] [])) _
    refine XS.iloadN X0.here hx rfl (hb hby at_63) rfl ?_
    show Steps p.tables e below (s₁.setTop (mkF m 64 #[.val (.int v0), .val (.int i1), .unset, .unset, .unset] [(.int i1)])) _
    refine XS.iconst X0.here hx rfl (hb hby at_64) ?_
    show Steps p.tables e below (s₁.setTop (mkF m 65 #[.val (.int v0), .val (.int i1), .unset, .unset, .unset] [(.int (4 : Int32)), (.int i1)])) _
    refine XS.icmpYes X0.here hx rfl (pc0 := 65) (pc' := 77) rfl (hb hby at_65) rfl (feq c4).2 (by decide) (by decide) ?_
    show Steps p.tables e below (s₁.setTop (mkF m 77 #[.val (.int v0), .val (.int i1), .unset, .unset, .unset] [])) _
    refine XS.iloadN X0.here hx rfl (hb hby at_77) rfl ?_
    show Steps p.tables e below (s₁.setTop (mkF m 78 #[.val (.int v0), .val (.int i1), .unset, .unset, .unset] [(.int i1)])) _
    refine XS.iconst X0.here hx rfl (hb hby at_78) ?_
    show Steps p.tables e below (s₁.setTop (mkF m 79 #[.val (.int v0), .val (.int i1), .unset, .unset, .unset] [(.int (5 : Int32)), (.int i1)])) _
    refine XS.icmpYes X0.here hx rfl (pc0 := 79) (pc' := 91) rfl (hb hby at_79) rfl (feq c5).2 (by decide) (by decide) ?_
    show Steps p.tables e below (s₁.setTop (mkF m 91 #[.val (.int v0), .val (.int i1), .unset, .unset, .unset] [])) _
    refine XS.iloadN X0.here hx rfl (hb hby at_91) rfl ?_
    show Steps p.tables e below (s₁.setTop (mkF m 92 #[.val (.int v0), .val (.int i1), .unset, .unset, .unset] [(.int i1)])) _
    refine XS.bipush X0.here hx rfl (hb hby at_92) ?_
    show Steps p.tables e below (s₁.setTop (mkF m 94 #[.val (.int v0), .val (.int i1), .unset, .unset, .unset] [(.int (6 : Int32)), (.int i1)])) _
    refine XS.icmpYes X0.here hx rfl (pc0 := 94) (pc' := 106) rfl (hb hby at_94) rfl (feq c6).2 (by decide) (by decide) ?_
    show Steps p.tables e below (s₁.setTop (mkF m 106 #[.val (.int v0), .val (.int i1), .unset, .unset, .unset] [])) _
    refine XS.iloadN X0.here hx rfl (hb hby at_106) rfl ?_
    show Steps p.tables e below (s₁.setTop (mkF m 107 #[.val (.int v0), .val (.int i1), .unset, .unset, .unset] [(.int i1)])) _
    refine XS.bipush X0.here hx rfl (hb hby at_107) ?_
    show Steps p.tables e below (s₁.setTop (mkF m 109 #[.val (.int v0), .val (.int i1), .unset, .unset, .unset] [(.int (7 : Int32)), (.int i1)])) _
    refine XS.icmpYes X0.here hx rfl (pc0 := 109) (pc' := 121) rfl (hb hby at_109) rfl (feq c7).2 (by decide) (by decide) ?_
    show Steps p.tables e below (s₁.setTop (mkF m 121 #[.val (.int v0), .val (.int i1), .unset, .unset, .unset] [])) _
    refine XS.iloadN X0.here hx rfl (hb hby at_121) rfl ?_
    show Steps p.tables e below (s₁.setTop (mkF m 122 #[.val (.int v0), .val (.int i1), .unset, .unset, .unset] [(.int i1)])) _
    refine XS.bipush X0.here hx rfl (hb hby at_122) ?_
    show Steps p.tables e below (s₁.setTop (mkF m 124 #[.val (.int v0), .val (.int i1), .unset, .unset, .unset] [(.int (8 : Int32)), (.int i1)])) _
    refine XS.icmpYes X0.here hx rfl (pc0 := 124) (pc' := 136) rfl (hb hby at_124) rfl (feq c8).2 (by decide) (by decide) ?_
    show Steps p.tables e below (s₁.setTop (mkF m 136 #[.val (.int v0), .val (.int i1), .unset, .unset, .unset] [])) _
    refine XS.iloadN X0.here hx rfl (hb hby at_136) rfl ?_
    show Steps p.tables e below (s₁.setTop (mkF m 137 #[.val (.int v0), .val (.int i1), .unset, .unset, .unset] [(.int i1)])) _
    refine XS.bipush X0.here hx rfl (hb hby at_137) ?_
    show Steps p.tables e below (s₁.setTop (mkF m 139 #[.val (.int v0), .val (.int i1), .unset, .unset, .unset] [(.int (9 : Int32)), (.int i1)])) _
    refine XS.icmpYes X0.here hx rfl (pc0 := 139) (pc' := 151) rfl (hb hby at_139) rfl (feq c9).2 (by decide) (by decide) ?_
    show Steps p.tables e below (s₁.setTop (mkF m 151 #[.val (.int v0), .val (.int i1), .unset, .unset, .unset] [])) _
    refine XS.iloadN X0.here hx rfl (hb hby at_151) rfl ?_
    show Steps p.tables e below (s₁.setTop (mkF m 152 #[.val (.int v0), .val (.int i1), .unset, .unset, .unset] [(.int i1)])) _
    refine XS.bipush X0.here hx rfl (hb hby at_152) ?_
    show Steps p.tables e below (s₁.setTop (mkF m 154 #[.val (.int v0), .val (.int i1), .unset, .unset, .unset] [(.int (10 : Int32)), (.int i1)])) _
    refine XS.icmpYes X0.here hx rfl (pc0 := 154) (pc' := 166) rfl (hb hby at_154) rfl (feq c10).2 (by decide) (by decide) ?_
    show Steps p.tables e below (s₁.setTop (mkF m 166 #[.val (.int v0), .val (.int i1), .unset, .unset, .unset] [])) _
    refine XS.iloadN X0.here hx rfl (hb hby at_166) rfl ?_
    show Steps p.tables e below (s₁.setTop (mkF m 167 #[.val (.int v0), .val (.int i1), .unset, .unset, .unset] [(.int i1)])) _
    refine XS.bipush X0.here hx rfl (hb hby at_167) ?_
    show Steps p.tables e below (s₁.setTop (mkF m 169 #[.val (.int v0), .val (.int i1), .unset, .unset, .unset] [(.int (11 : Int32)), (.int i1)])) _
    refine XS.icmpYes X0.here hx rfl (pc0 := 169) (pc' := 181) rfl (hb hby at_169) rfl (feq c11).2 (by decide) (by decide) ?_
    show Steps p.tables e below (s₁.setTop (mkF m 181 #[.val (.int v0), .val (.int i1), .unset, .unset, .unset] [])) _
    exact k
  obtain ⟨T3, X3, e3, st3⟩ := getS (host := "") X0 hx hZ hown (hw _ (List.mem_of_getElem? (i := 53) rfl)) Via.refl e0 S12 (g := (mkF m 181 #[.val (.int v0), .val (.int i1), .unset, .unset, .unset] [])) rfl (hb hby at_181)
  have sg4 : ∀ t, Steps p.tables e below (T3.setTop (mkF m 187 #[.val (.int v0), .val (.int i1), .val (.ref x12), .val (.int (0 : Int32)), .unset] [])) t → Steps p.tables e below (T3.setTop (mkF m 184 #[.val (.int v0), .val (.int i1), .unset, .unset, .unset] [(.ref x12)])) t := by
    intro t k
    show Steps p.tables e below (T3.setTop (mkF m 184 #[.val (.int v0), .val (.int i1), .unset, .unset, .unset] [(.ref x12)])) _
    refine XS.astoreN X3.here hx rfl (hb hby at_184) rfl rfl (l' := #[.val (.int v0), .val (.int i1), .val (.ref x12), .unset, .unset]) rfl ?_
    show Steps p.tables e below (T3.setTop (mkF m 185 #[.val (.int v0), .val (.int i1), .val (.ref x12), .unset, .unset] [])) _
    refine XS.iconst X3.here hx rfl (hb hby at_185) ?_
    show Steps p.tables e below (T3.setTop (mkF m 186 #[.val (.int v0), .val (.int i1), .val (.ref x12), .unset, .unset] [(.int (0 : Int32))])) _
    refine XS.istoreN X3.here hx rfl (hb hby at_186) rfl (l' := #[.val (.int v0), .val (.int i1), .val (.ref x12), .val (.int (0 : Int32)), .unset]) rfl ?_
    show Steps p.tables e below (T3.setTop (mkF m 187 #[.val (.int v0), .val (.int i1), .val (.ref x12), .val (.int (0 : Int32)), .unset] [])) _
    exact k
  obtain ⟨s₂, o, k, r⟩ := tailN X3 hx hby Bd.returns hlk hml hZ hown hw e3 N0 Z0 v0 i1 S3 S2 S8 E12 (hw _ (List.mem_of_getElem? (i := 55) rfl)) (by simp [own_k, ne_exa E12 E3 (by decide), ne_exa E12 E2 (by decide), ne_exa E12 E8 (by decide)])
  refine ⟨s₂, o, pre0 _ ?_, r⟩
  refine sg1 _ ?_
  refine sg2 _ ?_
  refine st3 _ ?_
  refine sg4 _ ?_
  exact k
set_option maxRecDepth 65536 in
set_option maxHeartbeats 40000000 in
theorem comes_1 {Post : Tables → Env → Array Value → State → Outcome → State → Prop} (hpost : ∀ tb e args s v u, (limb_1_1.after args s (.returned v) u = true ∧ limb_1_2.after args s (.returned v) u = true ∧ True) → FrameEnd s (.returned v) u (Jvm.fieldLocs frame_1_writes args s ++ Jvm.arrayLocs frame_1_arrays args s ++ Jvm.staticLocs frame_1_statics s) 0 0 → Post tb e args s (.returned v) u) :
    ArmFor flags0 classFile x code maxLocals ret World_1 tables_1 room_1 Calls_1 rest_1 Pre_1 Post := by
  intro l hfl _ _ p e ha hc hk s m args below hf hA hF happ hP
  obtain ⟨hcalls, hrest, hpre⟩ := hP
  obtain ⟨-, -, -, hnamed, -, -, -, hat⟩ := (Spec.applies_iff hf).mp happ
  obtain ⟨hg, hn⟩ := and_e (Cond.before_iff.mp (show (Jvm.Cond.and given_1 narrow_1).before args s = true from hpre))
  obtain ⟨hcount, q0⟩ := and_e hg
  obtain ⟨w0, rfl⟩ : ∃ w0 : Value, args = #[w0] := by
    have hs : args.size = 1 := by simpa [Cond.value, given_1] using hcount
    obtain ⟨L⟩ := args
    match L, hs with
    | [w0], _ => exact ⟨w0, rfl⟩
  have hw := fun d (hd : d ∈ tables_1) => atoms_spec (ws := Jvm.Cond.code x code maxLocals ret :: tables_1) hat d (List.mem_cons_of_mem _ hd)
  obtain ⟨i0, r0⟩ := is_v q0
  obtain rfl : w0 = (.int i0) := Option.some.inj r0
  obtain ⟨n0, hn⟩ := and_e hn
  obtain ⟨n1, hn⟩ := and_e hn
  obtain ⟨n2, hn⟩ := and_e hn
  obtain ⟨n3, hn⟩ := and_e hn
  obtain ⟨n4, hn⟩ := and_e hn
  obtain ⟨n5, hn⟩ := and_e hn
  obtain ⟨n6, hn⟩ := and_e hn
  obtain ⟨n7, hn⟩ := and_e hn
  obtain ⟨n8, hn⟩ := and_e hn
  obtain ⟨n9, hn⟩ := and_e hn
  obtain ⟨n10, hn⟩ := and_e hn
  obtain ⟨n11, hn⟩ := and_e hn
  obtain ⟨n12, hn⟩ := and_e hn
  obtain ⟨n13, hn⟩ := and_e hn
  obtain ⟨n14, hn⟩ := and_e hn
  obtain ⟨n15, hn⟩ := and_e hn
  obtain ⟨n16, hn⟩ := and_e hn
  obtain ⟨n17, hn⟩ := and_e hn
  obtain ⟨n18, hn⟩ := and_e hn
  obtain ⟨n19, hn⟩ := and_e hn
  obtain ⟨n20, hn⟩ := and_e hn
  obtain ⟨n21, hn⟩ := and_e hn
  obtain ⟨n22, hn⟩ := and_e hn
  obtain ⟨n23, hn⟩ := and_e hn
  obtain ⟨n24, hn⟩ := and_e hn
  obtain ⟨x0, ev0⟩ := exa_v n0
  have E0 := Exa.start ev0 n0
  have S0 := Sta.start ev0 (Or.inr ⟨(hw _ (List.mem_of_getElem? (i := 2) rfl)), (hw _ (List.mem_of_getElem? (i := 3) rfl))⟩)
  obtain ⟨x3, ev3⟩ := exa_v n1
  have E3 := Exa.start ev3 n1
  have S3 := Sta.start ev3 (Or.inr ⟨(hw _ (List.mem_of_getElem? (i := 2) rfl)), (hw _ (List.mem_of_getElem? (i := 10) rfl))⟩)
  obtain ⟨x2, ev2⟩ := exa_v n2
  have E2 := Exa.start ev2 n2
  have S2 := Sta.start ev2 (Or.inr ⟨(hw _ (List.mem_of_getElem? (i := 2) rfl)), (hw _ (List.mem_of_getElem? (i := 12) rfl))⟩)
  obtain ⟨x8, ev8⟩ := exa_v n3
  have E8 := Exa.start ev8 n3
  have S8 := Sta.start ev8 (Or.inr ⟨(hw _ (List.mem_of_getElem? (i := 2) rfl)), (hw _ (List.mem_of_getElem? (i := 14) rfl))⟩)
  have F3 := Fld.start ((fld_at ev3).symm.trans (eqv_i (Term.int_eval (0)) n4))
  obtain ⟨x6, ev6⟩ := exa_v n5
  have E6 := Exa.start ev6 n5
  have S6 := Sta.start ev6 (Or.inr ⟨(hw _ (List.mem_of_getElem? (i := 2) rfl)), (hw _ (List.mem_of_getElem? (i := 25) rfl))⟩)
  obtain ⟨x5, ev5⟩ := exa_v n6
  have E5 := Exa.start ev5 n6
  have S5 := Sta.start ev5 (Or.inr ⟨(hw _ (List.mem_of_getElem? (i := 2) rfl)), (hw _ (List.mem_of_getElem? (i := 28) rfl))⟩)
  obtain ⟨x7, ev7⟩ := exa_v n7
  have E7 := Exa.start ev7 n7
  have S7 := Sta.start ev7 (Or.inr ⟨(hw _ (List.mem_of_getElem? (i := 2) rfl)), (hw _ (List.mem_of_getElem? (i := 31) rfl))⟩)
  obtain ⟨x9, ev9⟩ := exa_v n8
  have E9 := Exa.start ev9 n8
  have S9 := Sta.start ev9 (Or.inr ⟨(hw _ (List.mem_of_getElem? (i := 2) rfl)), (hw _ (List.mem_of_getElem? (i := 34) rfl))⟩)
  have F2 := Fld.start ((fld_at ev2).symm.trans (eqv_i (Term.int_eval (0)) n9))
  obtain ⟨x11, ev11⟩ := exa_v n10
  have E11 := Exa.start ev11 n10
  have S11 := Sta.start ev11 (Or.inr ⟨(hw _ (List.mem_of_getElem? (i := 2) rfl)), (hw _ (List.mem_of_getElem? (i := 41) rfl))⟩)
  obtain ⟨x1, ev1⟩ := exa_v n11
  have E1 := Exa.start ev1 n11
  have S1 := Sta.start ev1 (Or.inr ⟨(hw _ (List.mem_of_getElem? (i := 2) rfl)), (hw _ (List.mem_of_getElem? (i := 44) rfl))⟩)
  have F8 := Fld.start ((fld_at ev8).symm.trans (eqv_i (Term.int_eval (0)) n12))
  obtain ⟨x10, ev10⟩ := exa_v n13
  have E10 := Exa.start ev10 n13
  have S10 := Sta.start ev10 (Or.inr ⟨(hw _ (List.mem_of_getElem? (i := 2) rfl)), (hw _ (List.mem_of_getElem? (i := 51) rfl))⟩)
  obtain ⟨x12, ev12⟩ := exa_v n14
  have E12 := Exa.start ev12 n14
  have S12 := Sta.start ev12 (Or.inr ⟨(hw _ (List.mem_of_getElem? (i := 2) rfl)), (hw _ (List.mem_of_getElem? (i := 54) rfl))⟩)
  obtain ⟨x4, ev4⟩ := exa_v n15
  have E4 := Exa.start ev4 n15
  have S4 := Sta.start ev4 (Or.inr ⟨(hw _ (List.mem_of_getElem? (i := 2) rfl)), (hw _ (List.mem_of_getElem? (i := 57) rfl))⟩)
  obtain ⟨n, o, h1, h2, h3, _, L, rfl, ⟨rfl, N⟩, hq⟩ := rm0 l s _ hw tables_1 i0 s.heap s.heap.size (Nat.le_refl _) S0 E0 S1 E1 S2 E2 S3 E3 S4 E4 S5 E5 S6 E6 S7 E7 S8 E8 S9 E9 S10 E10 S11 E11 S12 E12 F3 F2 F8 p e ha hc hk s m _ below hf ((Spec.applies_iff_loose hf).mp happ).1 ⟨rfl, State.Warmed39.refl s, rfl⟩ trivial
  refine ⟨n, _, h1, h2, h3, hpost _ _ _ _ _ _ ⟨Cond.after_iff.mpr rfl, Cond.after_iff.mpr (eq_i res_at (Term.int_eval (1)) rfl), trivial⟩ ⟨hq.1, hq.2.1, (hq.2.2.sift fun y hy => Or.inr (N y hy)).mono (by decide) (by decide)⟩⟩
theorem main_1_1 : Claimed_1_1 := comes_1 fun _ _ _ _ _ _ h hF => ⟨h.1, hF⟩
theorem main_1_2 : Claimed_1_2 := comes_1 fun _ _ _ _ _ _ h hF => ⟨h.2.1, hF⟩
end Jvm.Pilot.@@N@@
namespace Jvm.Pilot.@@N@@
open Jvm Jvm.ClassFile Sem Op Lib Jvm.Free Jvm.Stand Jvm.Pilot.@@N@@.Jvm.D
/-! MADE BY PROGRAM (witnessworld.py) out of the Statement's table words and the real class files: 25 classes; the members and pool entries that the words name. The judged class is class 1, her method 1. -/
namespace start1
open Jvm.ClassFile
def u (s : String) : CpInfo := .utf8 (stringToUtf16 s)
/-- a pool by its gaps: so many unusable entries, then the entry; so many at the end -/
def gap : Nat → List CpInfo → List CpInfo
  | 0, r => r
  | n + 1, r => .unusable :: gap n r
def poolList (es : List (Nat × CpInfo)) (last : Nat) : List CpInfo := es.foldr (fun e r => gap e.1 (e.2 :: r)) (gap last [])
def pool (es : List (Nat × CpInfo)) (last : Nat) : Array CpInfo := ⟨poolList es last⟩
def fileOf (pool : Array CpInfo) (this : Nat) (attrs : Array Attribute := #[]) (ms : Array MethodInfo := #[]) (fl : Nat := 33) (sup : Nat := 0) (ifs : Array Nat := #[]) (fds : Array FieldInfo := #[]) : ClassFile where
  minorVersion := 0
  majorVersion := 65
  constantPool := pool
  accessFlags := fl
  thisClass := this
  superClass := sup
  interfaces := ifs
  fields := fds
  methods := ms
  attributes := attrs
def plain (name : String) (sup : Option ClassId) : Class where
  name := name
  kind := .ordinary
  loader := none
  accessFlags := 33
  super := sup
  interfaces := #[]
  cf := none
  fields := #[]
  methods := #[]
  instanceTypes := #[]
  staticTypes := #[]
  resolved := #[]
  callSites := []
  init := .initialized
  statics := none
  mirror := none

def pool0 : Array CpInfo := pool [(5, u "<init>"), (0, u "()V"), (1, .class_ 10), (1, u "java/lang/Object")] 113

def k0m0 : Method := { name := "<init>", desc := "()V", sig := { parameters := [], returnType := none }, accessFlags := 1, code := none }
/-- java/lang/Object -/
def k0 : Class := { plain "java/lang/Object" none with
  accessFlags := 33
  interfaces := #[]
  cf := some (fileOf pool0 8 #[] #[{ accessFlags := 1, nameIndex := 5, descriptorIndex := 6, attributes := #[] }] 33 0 #[] #[])
  fields := #[]
  methods := #[k0m0]
  instanceTypes := #[]
  staticTypes := #[]
  resolved := Array.replicate 124 none
  statics := none }

def pool1 : Array CpInfo := pool [(2, .class_ 4), (1, u "java/lang/Object"), (0, u "<init>"), (0, u "()V"), (0, .integer 2147483647), (0, .fieldref 9 10), (0, .class_ 11), (0, .nameAndType 12 13), (0, u "com/example/homespun_functions/homespunfunctions/xpath/Axis"), (0, u "ANCESTOR"), (0, u "Lcom/example/homespun_functions/homespunfunctions/xpath/Axis;"), (0, .fieldref 9 15), (0, .nameAndType 16 13), (0, u "ANCESTOR_OR_SELF"), (0, .fieldref 9 18), (0, .nameAndType 19 13), (0, u "ATTRIBUTE"), (0, .fieldref 9 21), (0, .nameAndType 22 13), (0, u "CHILD"), (0, .fieldref 9 24), (0, .nameAndType 25 13), (0, u "DESCENDANT"), (0, .fieldref 9 27), (0, .nameAndType 28 13), (0, u "DESCENDANT_OR_SELF"), (0, .fieldref 9 30), (0, .nameAndType 31 13), (0, u "FOLLOWING"), (0, .fieldref 9 33), (0, .nameAndType 34 13), (0, u "FOLLOWING_SIBLING"), (0, .fieldref 9 36), (0, .nameAndType 37 13), (0, u "NAMESPACE"), (0, .fieldref 9 39), (0, .nameAndType 40 13), (0, u "PARENT"), (0, .fieldref 9 42), (0, .nameAndType 43 13), (0, u "PRECEDING"), (0, .fieldref 9 45), (0, .nameAndType 46 13), (0, u "PRECEDING_SIBLING"), (0, .fieldref 9 48), (0, .nameAndType 49 13), (0, u "SELF"), (0, .methodref 9 51), (0, .nameAndType 52 53), (0, u "isKept"), (0, u "()Z"), (0, .methodref 9 55), (0, .nameAndType 56 53), (0, u "isReverse"), (0, .class_ 58), (0, u "com/example/homespun_functions/homespunfunctions/xpath/AxisIsKeptPinLaw"), (2, u "law"), (0, u "(I)Z")] 3

def k1m0 : Method := { name := "<init>", desc := "()V", sig := { parameters := [], returnType := none }, accessFlags := 2, code := none }
def k1c1 : Code := { maxStack := 2, maxLocals := 5, code := code, exceptionTable := #[], attributes := #[] }
def k1m1 : Method := { name := "law", desc := "(I)Z", sig := { parameters := [.int], returnType := some .boolean }, accessFlags := 9, code := some k1c1 }
/-- com/example/homespun_functions/homespunfunctions/xpath/AxisIsKeptPinLaw -/
def k1 : Class := { plain "com/example/homespun_functions/homespunfunctions/xpath/AxisIsKeptPinLaw" (some 0) with
  accessFlags := 49
  interfaces := #[]
  cf := some (fileOf pool1 57 #[] #[{ accessFlags := 2, nameIndex := 5, descriptorIndex := 6, attributes := #[] }, { accessFlags := 9, nameIndex := 61, descriptorIndex := 62, attributes := #[] }] 49 2 #[] #[])
  fields := #[]
  methods := #[k1m0, k1m1]
  instanceTypes := #[]
  staticTypes := #[]
  resolved := Array.replicate 66 none
  statics := none }

def pool2 : Array CpInfo := pool [(1, .class_ 2), (0, u "java/lang/constant/Constable"), (0, .class_ 4), (0, u "java/lang/Object")] 6

/-- java/lang/constant/Constable -/
def k2 : Class := { plain "java/lang/constant/Constable" (some 0) with
  accessFlags := 1537
  interfaces := #[]
  cf := some (fileOf pool2 1 #[] #[] 1537 3 #[] #[])
  fields := #[]
  methods := #[]
  instanceTypes := #[]
  staticTypes := #[]
  resolved := Array.replicate 11 none
  statics := none }

def pool3 : Array CpInfo := pool [(1, .class_ 2), (0, u "java/lang/Comparable"), (0, .class_ 4), (0, u "java/lang/Object")] 7

/-- java/lang/Comparable -/
def k3 : Class := { plain "java/lang/Comparable" (some 0) with
  accessFlags := 1537
  interfaces := #[]
  cf := some (fileOf pool3 1 #[] #[] 1537 3 #[] #[])
  fields := #[]
  methods := #[]
  instanceTypes := #[]
  staticTypes := #[]
  resolved := Array.replicate 12 none
  statics := none }

def pool4 : Array CpInfo := pool [(1, .class_ 2), (0, u "java/io/Serializable"), (0, .class_ 4), (0, u "java/lang/Object")] 2

/-- java/io/Serializable -/
def k4 : Class := { plain "java/io/Serializable" (some 0) with
  accessFlags := 1537
  interfaces := #[]
  cf := some (fileOf pool4 1 #[] #[] 1537 3 #[] #[])
  fields := #[]
  methods := #[]
  instanceTypes := #[]
  staticTypes := #[]
  resolved := Array.replicate 7 none
  statics := none }

def pool5 : Array CpInfo := pool [(2, .class_ 4), (1, u "java/lang/Enum"), (0, u "name"), (0, u "Ljava/lang/String;"), (2, u "ordinal"), (0, u "I"), (1, .class_ 14), (1, u "java/lang/Object"), (4, u "hash"), (86, .class_ 108), (1, u "java/lang/Enum$EnumDesc"), (2, .class_ 112), (0, u "java/lang/constant/Constable"), (0, .class_ 114), (0, u "java/lang/Comparable"), (0, .class_ 116), (0, u "java/io/Serializable")] 87

/-- java/lang/Enum -/
def k5 : Class := { plain "java/lang/Enum" (some 0) with
  accessFlags := 1057
  interfaces := #[2, 3, 4]
  cf := some (fileOf pool5 2 #[.nestMembers #[106]] #[] 1057 12 #[111, 113, 115] #[{ accessFlags := 18, nameIndex := 5, descriptorIndex := 6, attributes := #[] }, { accessFlags := 18, nameIndex := 9, descriptorIndex := 10, attributes := #[] }, { accessFlags := 2, nameIndex := 19, descriptorIndex := 10, attributes := #[] }])
  fields := #[{ name := "name", type := (.object "java/lang/String"), accessFlags := 18, slot := 0, constantValue := 0 }, { name := "ordinal", type := .int, accessFlags := 18, slot := 1, constantValue := 0 }, { name := "hash", type := .int, accessFlags := 2, slot := 2, constantValue := 0 }]
  methods := #[]
  instanceTypes := #[(.object "java/lang/String"), .int, .int]
  staticTypes := #[]
  resolved := Array.replicate 204 none
  statics := none }

def pool6 : Array CpInfo := pool [(1, .class_ 2), (0, u "com/example/homespun_functions/homespunfunctions/xpath/Axis"), (2, u "ANCESTOR"), (0, u "Lcom/example/homespun_functions/homespunfunctions/xpath/Axis;"), (2, u "ANCESTOR_OR_SELF"), (0, .fieldref 1 11), (0, .nameAndType 12 6), (0, u "ATTRIBUTE"), (0, .fieldref 1 14), (0, .nameAndType 15 6), (0, u "CHILD"), (2, u "DESCENDANT"), (2, u "DESCENDANT_OR_SELF"), (2, u "FOLLOWING"), (2, u "FOLLOWING_SIBLING"), (0, .fieldref 1 29), (0, .nameAndType 30 6), (0, u "NAMESPACE"), (2, u "PARENT"), (2, u "PRECEDING"), (2, u "PRECEDING_SIBLING"), (2, u "SELF"), (2, u "$VALUES"), (0, u "[Lcom/example/homespun_functions/homespunfunctions/xpath/Axis;"), (6, .class_ 55), (1, u "java/lang/Enum"), (8, u "axisName"), (0, u "Ljava/lang/String;"), (0, .fieldref 1 67), (0, .nameAndType 68 69), (0, u "isReverse"), (0, u "Z"), (63, .class_ 134), (0, u "com/example/homespun_functions/homespunfunctions/xpath/Axis$1"), (6, .class_ 142), (0, u "com/example/homespun_functions/homespunfunctions/xpath/Axis$2"), (4, .class_ 148), (0, u "com/example/homespun_functions/homespunfunctions/xpath/Axis$3"), (4, .class_ 154), (0, u "com/example/homespun_functions/homespunfunctions/xpath/Axis$4"), (4, .class_ 160), (0, u "com/example/homespun_functions/homespunfunctions/xpath/Axis$5"), (4, .class_ 166), (0, u "com/example/homespun_functions/homespunfunctions/xpath/Axis$6"), (4, .class_ 172), (0, u "com/example/homespun_functions/homespunfunctions/xpath/Axis$7"), (4, .class_ 178), (0, u "com/example/homespun_functions/homespunfunctions/xpath/Axis$8"), (4, .class_ 184), (0, u "com/example/homespun_functions/homespunfunctions/xpath/Axis$9"), (4, .class_ 190), (0, u "com/example/homespun_functions/homespunfunctions/xpath/Axis$10"), (4, .class_ 196), (0, u "com/example/homespun_functions/homespunfunctions/xpath/Axis$11"), (4, .class_ 202), (0, u "com/example/homespun_functions/homespunfunctions/xpath/Axis$12"), (4, .class_ 208), (0, u "com/example/homespun_functions/homespunfunctions/xpath/Axis$13"), (15, u "()Z"), (3, u "isKept")] 27

def k6c0 : Code := { maxStack := 1, maxLocals := 1, code := prog_84_method_5_code, exceptionTable := #[], attributes := #[] }
def k6m0 : Method := { name := "isReverse", desc := "()Z", sig := { parameters := [], returnType := some .boolean }, accessFlags := 0, code := some k6c0 }
def k6c1 : Code := { maxStack := 2, maxLocals := 1, code := prog_84_method_7_code, exceptionTable := #[], attributes := #[] }
def k6m1 : Method := { name := "isKept", desc := "()Z", sig := { parameters := [], returnType := some .boolean }, accessFlags := 16, code := some k6c1 }
/-- com/example/homespun_functions/homespunfunctions/xpath/Axis -/
def k6 : Class := { plain "com/example/homespun_functions/homespunfunctions/xpath/Axis" (some 5) with
  accessFlags := 17440
  interfaces := #[]
  cf := some (fileOf pool6 1 #[.nestMembers #[207, 201, 195, 189, 183, 177, 171, 165, 159, 153, 147, 141, 133]] #[{ accessFlags := 0, nameIndex := 68, descriptorIndex := 224, attributes := #[] }, { accessFlags := 16, nameIndex := 228, descriptorIndex := 224, attributes := #[] }] 17440 53 #[] #[{ accessFlags := 16409, nameIndex := 5, descriptorIndex := 6, attributes := #[] }, { accessFlags := 16409, nameIndex := 9, descriptorIndex := 6, attributes := #[] }, { accessFlags := 16409, nameIndex := 12, descriptorIndex := 6, attributes := #[] }, { accessFlags := 16409, nameIndex := 15, descriptorIndex := 6, attributes := #[] }, { accessFlags := 16409, nameIndex := 18, descriptorIndex := 6, attributes := #[] }, { accessFlags := 16409, nameIndex := 21, descriptorIndex := 6, attributes := #[] }, { accessFlags := 16409, nameIndex := 24, descriptorIndex := 6, attributes := #[] }, { accessFlags := 16409, nameIndex := 27, descriptorIndex := 6, attributes := #[] }, { accessFlags := 16409, nameIndex := 30, descriptorIndex := 6, attributes := #[] }, { accessFlags := 16409, nameIndex := 33, descriptorIndex := 6, attributes := #[] }, { accessFlags := 16409, nameIndex := 36, descriptorIndex := 6, attributes := #[] }, { accessFlags := 16409, nameIndex := 39, descriptorIndex := 6, attributes := #[] }, { accessFlags := 16409, nameIndex := 42, descriptorIndex := 6, attributes := #[] }, { accessFlags := 18, nameIndex := 64, descriptorIndex := 65, attributes := #[] }, { accessFlags := 18, nameIndex := 68, descriptorIndex := 69, attributes := #[] }, { accessFlags := 4122, nameIndex := 45, descriptorIndex := 46, attributes := #[] }])
  fields := #[{ name := "ANCESTOR", type := (.object "com/example/homespun_functions/homespunfunctions/xpath/Axis"), accessFlags := 16409, slot := 0, constantValue := 0 }, { name := "ANCESTOR_OR_SELF", type := (.object "com/example/homespun_functions/homespunfunctions/xpath/Axis"), accessFlags := 16409, slot := 1, constantValue := 0 }, { name := "ATTRIBUTE", type := (.object "com/example/homespun_functions/homespunfunctions/xpath/Axis"), accessFlags := 16409, slot := 2, constantValue := 0 }, { name := "CHILD", type := (.object "com/example/homespun_functions/homespunfunctions/xpath/Axis"), accessFlags := 16409, slot := 3, constantValue := 0 }, { name := "DESCENDANT", type := (.object "com/example/homespun_functions/homespunfunctions/xpath/Axis"), accessFlags := 16409, slot := 4, constantValue := 0 }, { name := "DESCENDANT_OR_SELF", type := (.object "com/example/homespun_functions/homespunfunctions/xpath/Axis"), accessFlags := 16409, slot := 5, constantValue := 0 }, { name := "FOLLOWING", type := (.object "com/example/homespun_functions/homespunfunctions/xpath/Axis"), accessFlags := 16409, slot := 6, constantValue := 0 }, { name := "FOLLOWING_SIBLING", type := (.object "com/example/homespun_functions/homespunfunctions/xpath/Axis"), accessFlags := 16409, slot := 7, constantValue := 0 }, { name := "NAMESPACE", type := (.object "com/example/homespun_functions/homespunfunctions/xpath/Axis"), accessFlags := 16409, slot := 8, constantValue := 0 }, { name := "PARENT", type := (.object "com/example/homespun_functions/homespunfunctions/xpath/Axis"), accessFlags := 16409, slot := 9, constantValue := 0 }, { name := "PRECEDING", type := (.object "com/example/homespun_functions/homespunfunctions/xpath/Axis"), accessFlags := 16409, slot := 10, constantValue := 0 }, { name := "PRECEDING_SIBLING", type := (.object "com/example/homespun_functions/homespunfunctions/xpath/Axis"), accessFlags := 16409, slot := 11, constantValue := 0 }, { name := "SELF", type := (.object "com/example/homespun_functions/homespunfunctions/xpath/Axis"), accessFlags := 16409, slot := 12, constantValue := 0 }, { name := "axisName", type := (.object "java/lang/String"), accessFlags := 18, slot := 3, constantValue := 0 }, { name := "isReverse", type := .boolean, accessFlags := 18, slot := 4, constantValue := 0 }, { name := "$VALUES", type := (.array (.object "com/example/homespun_functions/homespunfunctions/xpath/Axis")), accessFlags := 4122, slot := 13, constantValue := 0 }]
  methods := #[k6m0, k6m1]
  instanceTypes := #[(.object "java/lang/String"), .int, .int, (.object "java/lang/String"), .boolean]
  staticTypes := #[(.object "com/example/homespun_functions/homespunfunctions/xpath/Axis"), (.object "com/example/homespun_functions/homespunfunctions/xpath/Axis"), (.object "com/example/homespun_functions/homespunfunctions/xpath/Axis"), (.object "com/example/homespun_functions/homespunfunctions/xpath/Axis"), (.object "com/example/homespun_functions/homespunfunctions/xpath/Axis"), (.object "com/example/homespun_functions/homespunfunctions/xpath/Axis"), (.object "com/example/homespun_functions/homespunfunctions/xpath/Axis"), (.object "com/example/homespun_functions/homespunfunctions/xpath/Axis"), (.object "com/example/homespun_functions/homespunfunctions/xpath/Axis"), (.object "com/example/homespun_functions/homespunfunctions/xpath/Axis"), (.object "com/example/homespun_functions/homespunfunctions/xpath/Axis"), (.object "com/example/homespun_functions/homespunfunctions/xpath/Axis"), (.object "com/example/homespun_functions/homespunfunctions/xpath/Axis"), (.array (.object "com/example/homespun_functions/homespunfunctions/xpath/Axis"))]
  resolved := Array.replicate 256 none
  statics := some 0 }

def pool7 : Array CpInfo := pool [(2, .class_ 4), (1, u "com/example/homespun_functions/homespunfunctions/xpath/Axis"), (9, .class_ 16), (1, u "com/example/homespun_functions/homespunfunctions/xpath/Axis$1")] 14

/-- com/example/homespun_functions/homespunfunctions/xpath/Axis$1 -/
def k7 : Class := { plain "com/example/homespun_functions/homespunfunctions/xpath/Axis$1" (some 6) with
  accessFlags := 16432
  interfaces := #[]
  cf := some (fileOf pool7 14 #[.nestHost 2] #[] 16432 2 #[] #[])
  fields := #[]
  methods := #[]
  instanceTypes := #[(.object "java/lang/String"), .int, .int, (.object "java/lang/String"), .boolean]
  staticTypes := #[]
  resolved := Array.replicate 31 none
  statics := none }

def pool8 : Array CpInfo := pool [(2, .class_ 4), (1, u "com/example/homespun_functions/homespunfunctions/xpath/Axis"), (19, .class_ 26), (1, u "com/example/homespun_functions/homespunfunctions/xpath/Axis$4")] 14

/-- com/example/homespun_functions/homespunfunctions/xpath/Axis$4 -/
def k8 : Class := { plain "com/example/homespun_functions/homespunfunctions/xpath/Axis$4" (some 6) with
  accessFlags := 16432
  interfaces := #[]
  cf := some (fileOf pool8 24 #[.nestHost 2] #[] 16432 2 #[] #[])
  fields := #[]
  methods := #[]
  instanceTypes := #[(.object "java/lang/String"), .int, .int, (.object "java/lang/String"), .boolean]
  staticTypes := #[]
  resolved := Array.replicate 41 none
  statics := none }

def pool9 : Array CpInfo := pool [(2, .class_ 4), (1, u "com/example/homespun_functions/homespunfunctions/xpath/Axis"), (24, .class_ 31), (1, u "com/example/homespun_functions/homespunfunctions/xpath/Axis$7")] 14

/-- com/example/homespun_functions/homespunfunctions/xpath/Axis$7 -/
def k9 : Class := { plain "com/example/homespun_functions/homespunfunctions/xpath/Axis$7" (some 6) with
  accessFlags := 16432
  interfaces := #[]
  cf := some (fileOf pool9 29 #[.nestHost 2] #[] 16432 2 #[] #[])
  fields := #[]
  methods := #[]
  instanceTypes := #[(.object "java/lang/String"), .int, .int, (.object "java/lang/String"), .boolean]
  staticTypes := #[]
  resolved := Array.replicate 46 none
  statics := none }

def pool10 : Array CpInfo := pool [(2, .class_ 4), (1, u "com/example/homespun_functions/homespunfunctions/xpath/Axis"), (3, .class_ 10), (1, u "com/example/homespun_functions/homespunfunctions/xpath/Axis$6")] 19

/-- com/example/homespun_functions/homespunfunctions/xpath/Axis$6 -/
def k10 : Class := { plain "com/example/homespun_functions/homespunfunctions/xpath/Axis$6" (some 6) with
  accessFlags := 16432
  interfaces := #[]
  cf := some (fileOf pool10 8 #[.nestHost 2] #[] 16432 2 #[] #[])
  fields := #[]
  methods := #[]
  instanceTypes := #[(.object "java/lang/String"), .int, .int, (.object "java/lang/String"), .boolean]
  staticTypes := #[]
  resolved := Array.replicate 30 none
  statics := none }

def pool11 : Array CpInfo := pool [(2, .class_ 4), (1, u "com/example/homespun_functions/homespunfunctions/xpath/Axis"), (26, .class_ 33), (1, u "com/example/homespun_functions/homespunfunctions/xpath/Axis$8")] 14

/-- com/example/homespun_functions/homespunfunctions/xpath/Axis$8 -/
def k11 : Class := { plain "com/example/homespun_functions/homespunfunctions/xpath/Axis$8" (some 6) with
  accessFlags := 16432
  interfaces := #[]
  cf := some (fileOf pool11 31 #[.nestHost 2] #[] 16432 2 #[] #[])
  fields := #[]
  methods := #[]
  instanceTypes := #[(.object "java/lang/String"), .int, .int, (.object "java/lang/String"), .boolean]
  staticTypes := #[]
  resolved := Array.replicate 48 none
  statics := none }

def pool12 : Array CpInfo := pool [(2, .class_ 4), (1, u "com/example/homespun_functions/homespunfunctions/xpath/Axis"), (9, .class_ 16), (1, u "com/example/homespun_functions/homespunfunctions/xpath/Axis$10")] 14

/-- com/example/homespun_functions/homespunfunctions/xpath/Axis$10 -/
def k12 : Class := { plain "com/example/homespun_functions/homespunfunctions/xpath/Axis$10" (some 6) with
  accessFlags := 16432
  interfaces := #[]
  cf := some (fileOf pool12 14 #[.nestHost 2] #[] 16432 2 #[] #[])
  fields := #[]
  methods := #[]
  instanceTypes := #[(.object "java/lang/String"), .int, .int, (.object "java/lang/String"), .boolean]
  staticTypes := #[]
  resolved := Array.replicate 31 none
  statics := none }

def pool13 : Array CpInfo := pool [(2, .class_ 4), (1, u "com/example/homespun_functions/homespunfunctions/xpath/Axis"), (25, .class_ 32), (1, u "com/example/homespun_functions/homespunfunctions/xpath/Axis$3")] 28

/-- com/example/homespun_functions/homespunfunctions/xpath/Axis$3 -/
def k13 : Class := { plain "com/example/homespun_functions/homespunfunctions/xpath/Axis$3" (some 6) with
  accessFlags := 16432
  interfaces := #[]
  cf := some (fileOf pool13 30 #[.nestHost 2] #[] 16432 2 #[] #[])
  fields := #[]
  methods := #[]
  instanceTypes := #[(.object "java/lang/String"), .int, .int, (.object "java/lang/String"), .boolean]
  staticTypes := #[]
  resolved := Array.replicate 61 none
  statics := none }

def pool14 : Array CpInfo := pool [(2, .class_ 4), (1, u "com/example/homespun_functions/homespunfunctions/xpath/Axis"), (23, .class_ 30), (1, u "com/example/homespun_functions/homespunfunctions/xpath/Axis$12")] 14

/-- com/example/homespun_functions/homespunfunctions/xpath/Axis$12 -/
def k14 : Class := { plain "com/example/homespun_functions/homespunfunctions/xpath/Axis$12" (some 6) with
  accessFlags := 16432
  interfaces := #[]
  cf := some (fileOf pool14 28 #[.nestHost 2] #[] 16432 2 #[] #[])
  fields := #[]
  methods := #[]
  instanceTypes := #[(.object "java/lang/String"), .int, .int, (.object "java/lang/String"), .boolean]
  staticTypes := #[]
  resolved := Array.replicate 45 none
  statics := none }

def pool15 : Array CpInfo := pool [(2, .class_ 4), (1, u "com/example/homespun_functions/homespunfunctions/xpath/Axis"), (3, .class_ 10), (1, u "com/example/homespun_functions/homespunfunctions/xpath/Axis$2")] 20

/-- com/example/homespun_functions/homespunfunctions/xpath/Axis$2 -/
def k15 : Class := { plain "com/example/homespun_functions/homespunfunctions/xpath/Axis$2" (some 6) with
  accessFlags := 16432
  interfaces := #[]
  cf := some (fileOf pool15 8 #[.nestHost 2] #[] 16432 2 #[] #[])
  fields := #[]
  methods := #[]
  instanceTypes := #[(.object "java/lang/String"), .int, .int, (.object "java/lang/String"), .boolean]
  staticTypes := #[]
  resolved := Array.replicate 31 none
  statics := none }

def pool16 : Array CpInfo := pool [(2, .class_ 4), (1, u "com/example/homespun_functions/homespunfunctions/xpath/Axis"), (19, .class_ 26), (1, u "com/example/homespun_functions/homespunfunctions/xpath/Axis$9")] 14

/-- com/example/homespun_functions/homespunfunctions/xpath/Axis$9 -/
def k16 : Class := { plain "com/example/homespun_functions/homespunfunctions/xpath/Axis$9" (some 6) with
  accessFlags := 16432
  interfaces := #[]
  cf := some (fileOf pool16 24 #[.nestHost 2] #[] 16432 2 #[] #[])
  fields := #[]
  methods := #[]
  instanceTypes := #[(.object "java/lang/String"), .int, .int, (.object "java/lang/String"), .boolean]
  staticTypes := #[]
  resolved := Array.replicate 41 none
  statics := none }

def pool17 : Array CpInfo := pool [(2, .class_ 4), (1, u "com/example/homespun_functions/homespunfunctions/xpath/Axis"), (16, .class_ 23), (1, u "com/example/homespun_functions/homespunfunctions/xpath/Axis$11")] 14

/-- com/example/homespun_functions/homespunfunctions/xpath/Axis$11 -/
def k17 : Class := { plain "com/example/homespun_functions/homespunfunctions/xpath/Axis$11" (some 6) with
  accessFlags := 16432
  interfaces := #[]
  cf := some (fileOf pool17 21 #[.nestHost 2] #[] 16432 2 #[] #[])
  fields := #[]
  methods := #[]
  instanceTypes := #[(.object "java/lang/String"), .int, .int, (.object "java/lang/String"), .boolean]
  staticTypes := #[]
  resolved := Array.replicate 38 none
  statics := none }

def pool18 : Array CpInfo := pool [(2, .class_ 4), (1, u "com/example/homespun_functions/homespunfunctions/xpath/Axis"), (3, .class_ 10), (1, u "com/example/homespun_functions/homespunfunctions/xpath/Axis$13")] 13

/-- com/example/homespun_functions/homespunfunctions/xpath/Axis$13 -/
def k18 : Class := { plain "com/example/homespun_functions/homespunfunctions/xpath/Axis$13" (some 6) with
  accessFlags := 16432
  interfaces := #[]
  cf := some (fileOf pool18 8 #[.nestHost 2] #[] 16432 2 #[] #[])
  fields := #[]
  methods := #[]
  instanceTypes := #[(.object "java/lang/String"), .int, .int, (.object "java/lang/String"), .boolean]
  staticTypes := #[]
  resolved := Array.replicate 24 none
  statics := none }

def pool19 : Array CpInfo := pool [(2, .class_ 4), (1, u "com/example/homespun_functions/homespunfunctions/xpath/Axis"), (9, .class_ 16), (1, u "com/example/homespun_functions/homespunfunctions/xpath/Axis$5")] 14

/-- com/example/homespun_functions/homespunfunctions/xpath/Axis$5 -/
def k19 : Class := { plain "com/example/homespun_functions/homespunfunctions/xpath/Axis$5" (some 6) with
  accessFlags := 16432
  interfaces := #[]
  cf := some (fileOf pool19 14 #[.nestHost 2] #[] 16432 2 #[] #[])
  fields := #[]
  methods := #[]
  instanceTypes := #[(.object "java/lang/String"), .int, .int, (.object "java/lang/String"), .boolean]
  staticTypes := #[]
  resolved := Array.replicate 31 none
  statics := none }

def pool20 : Array CpInfo := pool [(1, u "java/lang/Cloneable"), (0, .class_ 1), (0, u "java/lang/Object"), (0, .class_ 3)] 3

/-- java/lang/Cloneable -/
def k20 : Class := { plain "java/lang/Cloneable" (some 0) with
  accessFlags := 1537
  interfaces := #[]
  cf := some (fileOf pool20 2 #[] #[] 1537 4 #[] #[])
  fields := #[]
  methods := #[]
  instanceTypes := #[]
  staticTypes := #[]
  resolved := Array.replicate 8 none
  statics := none }

/-- the primitive byte -/
def k21 : Class := { plain "byte" none with kind := .primitive 'B', accessFlags := 0x411 }
/-- [B -/
def k22 : Class := { plain "[B" (some 0) with kind := .array 21 .byte, interfaces := #[20, 4], accessFlags := 1041 }

/-- the primitive int -/
def k23 : Class := { plain "int" none with kind := .primitive 'I', accessFlags := 0x411 }
/-- [I -/
def k24 : Class := { plain "[I" (some 0) with kind := .array 23 .int, interfaces := #[20, 4], accessFlags := 1041 }

def heap : Heap := #[{ cls := 6, slots := #[.ref 1, .ref 10, .ref 3, .ref 2, .ref 13, .ref 6, .ref 5, .ref 7, .ref 4, .ref 8, .ref 11, .ref 9, .ref 12, .null], vm := .statics 6 },
  { cls := 7, slots := #[.null, .int 0, .int 0, .null, .int 1], vm := .none },
  { cls := 8, slots := #[.null, .int 0, .int 0, .null, .int 0], vm := .none },
  { cls := 13, slots := #[.null, .int 0, .int 0, .null, .int 0], vm := .none },
  { cls := 16, slots := #[.null, .int 0, .int 0, .null, .int 0], vm := .none },
  { cls := 9, slots := #[.null, .int 0, .int 0, .null, .int 0], vm := .none },
  { cls := 10, slots := #[.null, .int 0, .int 0, .null, .int 0], vm := .none },
  { cls := 11, slots := #[.null, .int 0, .int 0, .null, .int 0], vm := .none },
  { cls := 12, slots := #[.null, .int 0, .int 0, .null, .int 0], vm := .none },
  { cls := 14, slots := #[.null, .int 0, .int 0, .null, .int 1], vm := .none },
  { cls := 15, slots := #[.null, .int 0, .int 0, .null, .int 1], vm := .none },
  { cls := 17, slots := #[.null, .int 0, .int 0, .null, .int 1], vm := .none },
  { cls := 18, slots := #[.null, .int 0, .int 0, .null, .int 0], vm := .none },
  { cls := 19, slots := #[.null, .int 0, .int 0, .null, .int 0], vm := .none }]
def classes : Array Class := #[k0, k1, k2, k3, k4, k5, k6, k7, k8, k9, k10, k11, k12, k13, k14, k15, k16, k17, k18, k19, k20, k21, k22, k23, k24]
def interned : List (Array UInt16 × Addr) := []
def slotsUsed : Nat := 79
def theMethod : MethodId := ⟨1, 1⟩
def args0 : Array Value := #[.int 5]
def aboutOver (below : List Frame) : State where
  vm := { classes := classes, interned := interned.toArray }
  heap := heap
  slotsUsed := slotsUsed
  threads := #[{ frames := .invoking theMethod args0 :: below }]
def below0 : List Frame := [.native { method := ⟨0, 0⟩, args := #[] }]
def about1 : State := aboutOver below0
def p0 : Program := .bare "" "" ""
def e0 : Env := launch0.env 0 0 0
theorem w_frames : about1.frames = Frame.invoking theMethod args0 :: below0 := rfl
set_option maxRecDepth 65536 in
theorem w_args : argsFit about1.vm theMethod args0 = true := by decide +kernel
set_option maxRecDepth 65536 in
theorem w_heap : heapFits about1 = true := by decide +kernel
set_option maxRecDepth 65536 in
theorem w_runnable : about1.curStatus? = some .runnable := by decide +kernel
set_option maxRecDepth 65536 in
theorem w_alone : about1.alone = true := by decide +kernel
set_option maxRecDepth 65536 in
theorem w_named : about1.methodNamed? x = some theMethod := by decide +kernel
set_option maxRecDepth 65536 in
theorem w_hears : about1.hears theMethod below0 = true := by decide +kernel
set_option maxRecDepth 65536 in
theorem w_ripe : about1.ripe theMethod args0 below0 = true := by decide +kernel
theorem w_running : about1.status = .running := rfl
set_option maxRecDepth 65536 in
theorem w_room : about1.hasRoom e0.platform room_1 = true :=
  launch0.hasRoom_least _ room_1 (by decide +kernel) (by decide +kernel) (by decide +kernel) (by decide +kernel) (by decide +kernel) (by decide +kernel)
theorem allAtoms_all (ts : List Jvm.Cond) (a : Array Jvm.Value) (st : Jvm.State) : (allAtoms ts).before a st = ts.all (fun c => c.before a st) := by
  induction ts with
  | nil => rfl
  | cons c t ih =>
    show (Jvm.Cond.and c (allAtoms t)).before a st = _
    rw [Jvm.Cond.before_and, ih, List.all_cons]
def words1 : List Jvm.Cond := Jvm.Cond.code x code maxLocals ret :: tables_1
/-- a 'code' word, met by the world's own term for the bytes: nothing is compared byte by byte -/
theorem code_word {y : MethodName} {bytes : ByteArray} {mx : Nat} {rt : Option FieldType} {a : Array Value} {s : State} {m : MethodId} {meth : Method} {c : Code} (h1 : s.methodNamed? y = some m) (h2 : s.vm.method? m = some meth) (h3 : meth.code = some c) (h4 : c.code = bytes)
    (h5 : (c.maxLocals == mx && c.exceptionTable.isEmpty && decide (c.maxStack ≤ mostOperands) && decide (meth.sig.returnType = rt) && !meth.locks && decide (parseMethodDescriptor y.desc = some meth.sig)) = true) : (Jvm.Cond.code y bytes mx rt).before a s = true := by
  simp only [Bool.and_eq_true, beq_iff_eq, Bool.not_eq_true', decide_eq_true_eq] at h5
  obtain ⟨⟨⟨⟨⟨g1, g2⟩, g3⟩, g4⟩, g5⟩, g6⟩ := h5
  simp [Cond.before, Cond.holds, Cond.value, h1, h2, h3, h4, g1, g2, g3, g4, g5, g6]
def isCode : Jvm.Cond → Bool
  | .code _ _ _ _ => true
  | _ => false
theorem all_split {L : List Jvm.Cond} {P : Jvm.Cond → Bool} (h1 : L.all (fun c => isCode c || P c) = true) (h2 : ∀ c ∈ L.filter isCode, P c = true) : L.all P = true := by
  refine List.all_eq_true.mpr fun c hc => ?_
  have h := List.all_eq_true.mp h1 c hc
  rcases Bool.eq_false_or_eq_true (isCode c) with hi | hi
  · exact h2 c (List.mem_filter.mpr ⟨hc, hi⟩)
  · simpa [hi] using h
set_option maxRecDepth 65536 in
theorem w_c0 : (Jvm.Cond.code x code maxLocals ret).before args0 about1 = true := code_word (m := ⟨1, 1⟩) (meth := k1m1) (c := k1c1) (by decide +kernel) rfl rfl rfl (by decide +kernel)
set_option maxRecDepth 65536 in
theorem w_c1 : (Jvm.Cond.code ({ cls := "com/example/homespun_functions/homespunfunctions/xpath/Axis", name := "isKept", desc := "()Z" } : Jvm.MethodName) prog_84_method_7_code (1 : Nat) (Option.some Jvm.ClassFile.FieldType.boolean)).before args0 about1 = true := code_word (m := ⟨6, 1⟩) (meth := k6m1) (c := k6c1) (by decide +kernel) rfl rfl rfl (by decide +kernel)
set_option maxRecDepth 65536 in
theorem w_c2 : (Jvm.Cond.code ({ cls := "com/example/homespun_functions/homespunfunctions/xpath/Axis", name := "isReverse", desc := "()Z" } : Jvm.MethodName) prog_84_method_5_code (1 : Nat) (Option.some Jvm.ClassFile.FieldType.boolean)).before args0 about1 = true := code_word (m := ⟨6, 0⟩) (meth := k6m0) (c := k6c0) (by decide +kernel) rfl rfl rfl (by decide +kernel)
def codes1 : List Jvm.Cond := [Jvm.Cond.code x code maxLocals ret, Jvm.Cond.code ({ cls := "com/example/homespun_functions/homespunfunctions/xpath/Axis", name := "isKept", desc := "()Z" } : Jvm.MethodName) prog_84_method_7_code (1 : Nat) (Option.some Jvm.ClassFile.FieldType.boolean), Jvm.Cond.code ({ cls := "com/example/homespun_functions/homespunfunctions/xpath/Axis", name := "isReverse", desc := "()Z" } : Jvm.MethodName) prog_84_method_5_code (1 : Nat) (Option.some Jvm.ClassFile.FieldType.boolean)]
set_option maxRecDepth 65536 in
theorem codes_eq : words1.filter isCode = codes1 := rfl
theorem w_codes : ∀ c ∈ words1.filter isCode, c.before args0 about1 = true := by
  rw [codes_eq]
  intro c hc
  simp only [codes1, List.mem_cons, List.not_mem_nil, or_false] at hc
  rcases hc with rfl | rfl | rfl
  · exact w_c0
  · exact w_c1
  · exact w_c2
set_option maxRecDepth 65536 in
theorem w_t1 : (words1.take 24).all (fun c => isCode c || c.before args0 about1) = true := by decide +kernel
set_option maxRecDepth 65536 in
theorem w_t2 : ((words1.drop 24).take 24).all (fun c => isCode c || c.before args0 about1) = true := by decide +kernel
set_option maxRecDepth 65536 in
theorem w_t3 : ((words1.drop 24).drop 24).all (fun c => isCode c || c.before args0 about1) = true := by decide +kernel
theorem w_tables : (allAtoms (Jvm.Cond.code x code maxLocals ret :: tables_1)).before args0 about1 = true := by
  rw [allAtoms_all]
  show words1.all (fun c => c.before args0 about1) = true
  refine all_split ?_ w_codes
  rw [← List.take_append_drop 24 words1, List.all_append, w_t1, ← List.take_append_drop 24 (words1.drop 24), List.all_append, w_t2, w_t3]
  rfl
set_option maxRecDepth 65536 in
theorem w_case : (Jvm.Cond.and given_1 narrow_1).before args0 about1 = true := by decide +kernel
theorem w_applies : (headSpec (Jvm.Cond.code x code maxLocals ret :: tables_1) room_1).applies x e0.platform about1 = true :=
  (Spec.applies_iff w_frames).mpr ⟨w_running, w_runnable, w_alone, w_named, w_hears, w_ripe, w_room, w_tables⟩
theorem atStart : AtStart classFile x code maxLocals ret World_1 tables_1 room_1 Calls_1 rest_1 Pre_1 launch0 p0 e0 about1 theMethod args0 below0 :=
  ⟨lists_1, trivial, launch0.admits_env _ _ _, launch0.least_env, fairChoices_fair.cas, fairChoices_fair.clock, w_frames, w_args, w_heap, w_applies, trivial, trivial, w_case⟩
end start1
theorem witness_1 : WitnessClaimed_1 := ⟨start1.p0, start1.e0, start1.about1, start1.theMethod, start1.args0, start1.below0, start1.atStart⟩
end Jvm.Pilot.@@N@@
