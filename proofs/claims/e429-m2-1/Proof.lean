import JvmDerived
import JvmDerived.Pilot.@@N@@Statement
import JvmDerived.Pilot.@@N@@Code
set_option linter.unusedVariables false
set_option linter.unusedSimpArgs false
namespace Jvm.Pilot.@@N@@
open Jvm Jvm.ClassFile Sem Op Lib Jvm.Free Jvm.Stand Jvm.LawKit Jvm.RoadKit Bundle Jvm.Pilot.@@N@@.Jvm.D
/-- what a return of the int z asks of the frames below -/
abbrev own_Rt (e : Env) (T : State) (m : MethodId) (fs : List Frame) (w : Value) : Prop := ∀ (f : JFrame) (acts : List Action), f.method = m → f.locked = none → f.entered = [] → (doReturn e (T.setTop f) acts (some w)).1 = T.setFrames fs
theorem d1_0 : decode prog_79_method_6_code 0 = .ok (.iload_n 0, 1) := by decide +kernel
theorem d1_1 : decode prog_79_method_6_code 1 = .ok (.bipush 32, 2) := by decide +kernel
theorem d1_3 : decode prog_79_method_6_code 3 = .ok (.if_icmp .eq 21, 3) := by decide +kernel
theorem d1_6 : decode prog_79_method_6_code 6 = .ok (.iload_n 0, 1) := by decide +kernel
theorem d1_7 : decode prog_79_method_6_code 7 = .ok (.bipush 9, 2) := by decide +kernel
theorem d1_9 : decode prog_79_method_6_code 9 = .ok (.if_icmp .eq 15, 3) := by decide +kernel
theorem d1_12 : decode prog_79_method_6_code 12 = .ok (.iload_n 0, 1) := by decide +kernel
theorem d1_13 : decode prog_79_method_6_code 13 = .ok (.bipush 13, 2) := by decide +kernel
theorem d1_15 : decode prog_79_method_6_code 15 = .ok (.if_icmp .eq 9, 3) := by decide +kernel
theorem d1_18 : decode prog_79_method_6_code 18 = .ok (.iload_n 0, 1) := by decide +kernel
theorem d1_19 : decode prog_79_method_6_code 19 = .ok (.bipush 10, 2) := by decide +kernel
theorem d1_21 : decode prog_79_method_6_code 21 = .ok (.if_icmp .ne 7, 3) := by decide +kernel
theorem d1_24 : decode prog_79_method_6_code 24 = .ok (.iconst 1, 1) := by decide +kernel
theorem d1_25 : decode prog_79_method_6_code 25 = .ok (.goto 4, 3) := by decide +kernel
theorem d1_28 : decode prog_79_method_6_code 28 = .ok (.iconst 0, 1) := by decide +kernel
theorem d1_29 : decode prog_79_method_6_code 29 = .ok (.ireturn, 1) := by decide +kernel
theorem pn_1 : plainName "com/example/homespun_functions/homespunfunctions/xml/XmlNames" = true := by first | (simp [plainName, overriddenIn]; done) | decide +kernel
theorem ef_1 (m : MethodId) (x0 : Int32) : entryFrame m #[(.int x0)] 1 = (mkF m 0 #[.val (.int x0)] []) := by first | (simp [entryFrame, mkF, argsToLocals, Value.category]; done) | rfl
def f1_28 (v0 : Int32) : Int32 := (0 : Int32)
def f1_24 (v0 : Int32) : Int32 := (1 : Int32)
def f1_18 (v0 : Int32) : Int32 := if v0 = (10 : Int32) then f1_24 v0 else f1_28 v0
def f1_12 (v0 : Int32) : Int32 := if v0 = (13 : Int32) then f1_24 v0 else f1_18 v0
def f1_6 (v0 : Int32) : Int32 := if v0 = (9 : Int32) then f1_24 v0 else f1_12 v0
def f1_0 (v0 : Int32) : Int32 := if v0 = (32 : Int32) then f1_24 v0 else f1_6 v0
section Own1
variable {p : Program} {l : Launch} {e : Env} {R : Room} {s : State} {m : MethodId} {args : Array Value} {below : List Frame} {meth : Method} {c : Code} {T : State} {locs : List Loc} {cells slots : Nat} {Z : State} {a0 : Array Value}
theorem g1_28 (X : Stand p l e R s m args below meth c T locs cells slots) (hx : p.tables.exec = Jvm.exec) (hby : c.code = prog_79_method_6_code) (hret : meth.sig.returnType = some .boolean) (hZ : Z.Warmed39 s.vm) (hown : s.vm.findClass "com/example/homespun_functions/homespunfunctions/xml/XmlNames" = some m.cls) (hw : ∀ d ∈ tables_1, d.before a0 Z = true) (v0 : Int32) {fs : List Frame} (hl : own_Rt e T m fs (.int (f1_28 v0))) : Steps p.tables e below (T.setTop (mkF m 28 #[.val (.int v0)] [])) (T.setFrames fs) := by
  show Steps p.tables e below (T.setTop (mkF m 28 #[.val (.int v0)] [])) _
  refine XS.iconst X.here hx rfl (hb hby d1_28) ?_
  show Steps p.tables e below (T.setTop (mkF m 29 #[.val (.int v0)] [(.int (0 : Int32))])) _
  exact retN X hx (t := .boolean) hret (by simp) (hb hby d1_29) hl
theorem g1_24 (X : Stand p l e R s m args below meth c T locs cells slots) (hx : p.tables.exec = Jvm.exec) (hby : c.code = prog_79_method_6_code) (hret : meth.sig.returnType = some .boolean) (hZ : Z.Warmed39 s.vm) (hown : s.vm.findClass "com/example/homespun_functions/homespunfunctions/xml/XmlNames" = some m.cls) (hw : ∀ d ∈ tables_1, d.before a0 Z = true) (v0 : Int32) {fs : List Frame} (hl : own_Rt e T m fs (.int (f1_24 v0))) : Steps p.tables e below (T.setTop (mkF m 24 #[.val (.int v0)] [])) (T.setFrames fs) := by
  show Steps p.tables e below (T.setTop (mkF m 24 #[.val (.int v0)] [])) _
  refine XS.iconst X.here hx rfl (hb hby d1_24) ?_
  show Steps p.tables e below (T.setTop (mkF m 25 #[.val (.int v0)] [(.int (1 : Int32))])) _
  refine XS.goto X.here hx rfl (pc0 := 25) (pc' := 29) rfl (hb hby d1_25) (by decide) (by decide) ?_
  show Steps p.tables e below (T.setTop (mkF m 29 #[.val (.int v0)] [(.int (1 : Int32))])) _
  exact retN X hx (t := .boolean) hret (by simp) (hb hby d1_29) hl
theorem g1_18 (X : Stand p l e R s m args below meth c T locs cells slots) (hx : p.tables.exec = Jvm.exec) (hby : c.code = prog_79_method_6_code) (hret : meth.sig.returnType = some .boolean) (hZ : Z.Warmed39 s.vm) (hown : s.vm.findClass "com/example/homespun_functions/homespunfunctions/xml/XmlNames" = some m.cls) (hw : ∀ d ∈ tables_1, d.before a0 Z = true) (v0 : Int32) {fs : List Frame} (hl : own_Rt e T m fs (.int (f1_18 v0))) : Steps p.tables e below (T.setTop (mkF m 18 #[.val (.int v0)] [])) (T.setFrames fs) := by
  show Steps p.tables e below (T.setTop (mkF m 18 #[.val (.int v0)] [])) _
  refine XS.iloadN X.here hx rfl (hb hby d1_18) rfl ?_
  show Steps p.tables e below (T.setTop (mkF m 19 #[.val (.int v0)] [(.int v0)])) _
  refine XS.bipush X.here hx rfl (hb hby d1_19) ?_
  show Steps p.tables e below (T.setTop (mkF m 21 #[.val (.int v0)] [(.int (10 : Int32)), (.int v0)])) _
  by_cases hc : v0 = (10 : Int32)
  · rw [show f1_18 v0 = f1_24 v0 from if_pos hc] at hl
    refine XS.icmpNo X.here hx rfl (hb hby d1_21) rfl (teq hc).2 ?_
    exact g1_24 X hx hby hret hZ hown hw v0 hl
  · rw [show f1_18 v0 = f1_28 v0 from if_neg hc] at hl
    refine XS.icmpYes X.here hx rfl (pc0 := 21) (pc' := 28) rfl (hb hby d1_21) rfl (feq hc).2 (by decide) (by decide) ?_
    exact g1_28 X hx hby hret hZ hown hw v0 hl
theorem g1_12 (X : Stand p l e R s m args below meth c T locs cells slots) (hx : p.tables.exec = Jvm.exec) (hby : c.code = prog_79_method_6_code) (hret : meth.sig.returnType = some .boolean) (hZ : Z.Warmed39 s.vm) (hown : s.vm.findClass "com/example/homespun_functions/homespunfunctions/xml/XmlNames" = some m.cls) (hw : ∀ d ∈ tables_1, d.before a0 Z = true) (v0 : Int32) {fs : List Frame} (hl : own_Rt e T m fs (.int (f1_12 v0))) : Steps p.tables e below (T.setTop (mkF m 12 #[.val (.int v0)] [])) (T.setFrames fs) := by
  show Steps p.tables e below (T.setTop (mkF m 12 #[.val (.int v0)] [])) _
  refine XS.iloadN X.here hx rfl (hb hby d1_12) rfl ?_
  show Steps p.tables e below (T.setTop (mkF m 13 #[.val (.int v0)] [(.int v0)])) _
  refine XS.bipush X.here hx rfl (hb hby d1_13) ?_
  show Steps p.tables e below (T.setTop (mkF m 15 #[.val (.int v0)] [(.int (13 : Int32)), (.int v0)])) _
  by_cases hc : v0 = (13 : Int32)
  · rw [show f1_12 v0 = f1_24 v0 from if_pos hc] at hl
    refine XS.icmpYes X.here hx rfl (pc0 := 15) (pc' := 24) rfl (hb hby d1_15) rfl (teq hc).1 (by decide) (by decide) ?_
    exact g1_24 X hx hby hret hZ hown hw v0 hl
  · rw [show f1_12 v0 = f1_18 v0 from if_neg hc] at hl
    refine XS.icmpNo X.here hx rfl (hb hby d1_15) rfl (feq hc).1 ?_
    exact g1_18 X hx hby hret hZ hown hw v0 hl
theorem g1_6 (X : Stand p l e R s m args below meth c T locs cells slots) (hx : p.tables.exec = Jvm.exec) (hby : c.code = prog_79_method_6_code) (hret : meth.sig.returnType = some .boolean) (hZ : Z.Warmed39 s.vm) (hown : s.vm.findClass "com/example/homespun_functions/homespunfunctions/xml/XmlNames" = some m.cls) (hw : ∀ d ∈ tables_1, d.before a0 Z = true) (v0 : Int32) {fs : List Frame} (hl : own_Rt e T m fs (.int (f1_6 v0))) : Steps p.tables e below (T.setTop (mkF m 6 #[.val (.int v0)] [])) (T.setFrames fs) := by
  show Steps p.tables e below (T.setTop (mkF m 6 #[.val (.int v0)] [])) _
  refine XS.iloadN X.here hx rfl (hb hby d1_6) rfl ?_
  show Steps p.tables e below (T.setTop (mkF m 7 #[.val (.int v0)] [(.int v0)])) _
  refine XS.bipush X.here hx rfl (hb hby d1_7) ?_
  show Steps p.tables e below (T.setTop (mkF m 9 #[.val (.int v0)] [(.int (9 : Int32)), (.int v0)])) _
  by_cases hc : v0 = (9 : Int32)
  · rw [show f1_6 v0 = f1_24 v0 from if_pos hc] at hl
    refine XS.icmpYes X.here hx rfl (pc0 := 9) (pc' := 24) rfl (hb hby d1_9) rfl (teq hc).1 (by decide) (by decide) ?_
    exact g1_24 X hx hby hret hZ hown hw v0 hl
  · rw [show f1_6 v0 = f1_12 v0 from if_neg hc] at hl
    refine XS.icmpNo X.here hx rfl (hb hby d1_9) rfl (feq hc).1 ?_
    exact g1_12 X hx hby hret hZ hown hw v0 hl
theorem g1_0 (X : Stand p l e R s m args below meth c T locs cells slots) (hx : p.tables.exec = Jvm.exec) (hby : c.code = prog_79_method_6_code) (hret : meth.sig.returnType = some .boolean) (hZ : Z.Warmed39 s.vm) (hown : s.vm.findClass "com/example/homespun_functions/homespunfunctions/xml/XmlNames" = some m.cls) (hw : ∀ d ∈ tables_1, d.before a0 Z = true) (v0 : Int32) {fs : List Frame} (hl : own_Rt e T m fs (.int (f1_0 v0))) : Steps p.tables e below (T.setTop (mkF m 0 #[.val (.int v0)] [])) (T.setFrames fs) := by
  show Steps p.tables e below (T.setTop (mkF m 0 #[.val (.int v0)] [])) _
  refine XS.iloadN X.here hx rfl (hb hby d1_0) rfl ?_
  show Steps p.tables e below (T.setTop (mkF m 1 #[.val (.int v0)] [(.int v0)])) _
  refine XS.bipush X.here hx rfl (hb hby d1_1) ?_
  show Steps p.tables e below (T.setTop (mkF m 3 #[.val (.int v0)] [(.int (32 : Int32)), (.int v0)])) _
  by_cases hc : v0 = (32 : Int32)
  · rw [show f1_0 v0 = f1_24 v0 from if_pos hc] at hl
    refine XS.icmpYes X.here hx rfl (pc0 := 3) (pc' := 24) rfl (hb hby d1_3) rfl (teq hc).1 (by decide) (by decide) ?_
    exact g1_24 X hx hby hret hZ hown hw v0 hl
  · rw [show f1_0 v0 = f1_6 v0 from if_neg hc] at hl
    refine XS.icmpNo X.here hx rfl (hb hby d1_3) rfl (feq hc).1 ?_
    exact g1_6 X hx hby hret hZ hown hw v0 hl
end Own1
def Q1 (v0 : Int32) (h0 : Heap) (n0 : Nat) (v : Option Value) (h : Heap) (L : List Loc) : Prop := v = some (.int (f1_0 v0)) ∧ Fr n0 L ∧ h = h0
set_option maxRecDepth 65536 in
set_option maxHeartbeats 40000000 in
theorem rm1 (l : Launch) (Z : State) (a0 : Array Value) (hw : ∀ d ∈ tables_1, d.before a0 Z = true) (ws : List Jvm.Cond) (v0 : Int32) (h0 : Heap) (n0 : Nat) (Z0 : n0 ≤ h0.size) :
    MetFree l (⟨"com/example/homespun_functions/homespunfunctions/xml/XmlNames", "isWhitespace", "(I)Z"⟩ : MethodName) (head1 (Jvm.Cond.code (⟨"com/example/homespun_functions/homespunfunctions/xml/XmlNames", "isWhitespace", "(I)Z"⟩ : MethodName) prog_79_method_6_code 1 (some .boolean) :: ws) ({ frames := 0, cells := 0, slots := 0, locals := 0 } : Room)) (fun a U => a = #[(.int v0)] ∧ Z.Warmed39 U.vm ∧ U.heap = h0) (fun _ _ _ _ _ => True) (fun _ U o U' => ∃ v L, o = .returned v ∧ Q1 v0 h0 n0 v U'.heap L ∧ FrameEnd U o U' L ({ frames := 0, cells := 0, slots := 0, locals := 0 } : Room).cells ({ frames := 0, cells := 0, slots := 0, locals := 0 } : Room).slots) := by
  refine MetFree.of_bodySF (plainFor_of_name pn_1) hisR ?_
  intro p e s m args below meth c s₁ Bd hml0 hP hK
  obtain ⟨rfl, hZ, hh⟩ := hP
  have hx := Bd.exec
  have hby := Bd.bytes
  have hown : s.vm.findClass "com/example/homespun_functions/homespunfunctions/xml/XmlNames" = some m.cls := findClass_of_methodNamed Bd.named
  have X0 : Stand p l e ({ frames := 0, cells := 0, slots := 0, locals := 0 } : Room) s m #[(.int v0)] below meth c s₁ [] 0 0 := Stand.of_body Bd
  have e0 : s₁.heap = h0 := by rw [← hh, Bd.state]; rfl
  have N0 := Fr.nil n0
  have pre0 : ∀ t, Steps p.tables e below (s₁.setTop (mkF m 0 #[.val (.int v0)] [])) t → Steps p.tables e below (s₁.setTop (entryFrame m #[(.int v0)] 1)) t := fun t k => castTop (ef_1 m v0) k
  obtain ⟨fs, hr, hrun, hended, hW, hsame⟩ := X0.leave (v := some (.int (f1_0 v0))) (fun h => by rw [Bd.returns] at h; cases h)
  refine ⟨_, _, pre0 _ ?_, hrun, hended, _, _, rfl, ?_, ⟨_, rfl⟩, hW, hsame.mono (by decide) (by decide)⟩
  · exact g1_0 X0 hx hby Bd.returns hZ hown hw v0 hr
  · show Q1 v0 h0 n0 _ s₁.heap _
    rw [e0]
    exact ⟨rfl, N0, rfl⟩
theorem pd_1 : parseMethodDescriptor "(I)Z" = some ⟨[.int], some .boolean⟩ := by decide +kernel
theorem d2_0 : decode method_2_code 0 = .ok (.iload_n 0, 1) := by decide +kernel
theorem d2_1 : decode method_2_code 1 = .ok (.ifCond .lt 9, 3) := by decide +kernel
theorem d2_4 : decode method_2_code 4 = .ok (.iload_n 0, 1) := by decide +kernel
theorem d2_5 : decode method_2_code 5 = .ok (.bipush 64, 2) := by decide +kernel
theorem d2_7 : decode method_2_code 7 = .ok (.if_icmp .lt 5, 3) := by decide +kernel
theorem d2_10 : decode method_2_code 10 = .ok (.iconst 0, 1) := by decide +kernel
theorem d2_11 : decode method_2_code 11 = .ok (.ireturn, 1) := by decide +kernel
theorem d2_12 : decode method_2_code 12 = .ok (.lconst 1, 1) := by decide +kernel
theorem d2_13 : decode method_2_code 13 = .ok (.iload_n 0, 1) := by decide +kernel
theorem d2_14 : decode method_2_code 14 = .ok (.lshl, 1) := by decide +kernel
theorem d2_15 : decode method_2_code 15 = .ok (.ldc2_w 7, 3) := by decide +kernel
theorem d2_18 : decode method_2_code 18 = .ok (.land, 1) := by decide +kernel
theorem d2_19 : decode method_2_code 19 = .ok (.lconst 0, 1) := by decide +kernel
theorem d2_20 : decode method_2_code 20 = .ok (.lcmp, 1) := by decide +kernel
theorem d2_21 : decode method_2_code 21 = .ok (.ifCond .eq 7, 3) := by decide +kernel
theorem d2_24 : decode method_2_code 24 = .ok (.iconst 1, 1) := by decide +kernel
theorem d2_25 : decode method_2_code 25 = .ok (.goto 4, 3) := by decide +kernel
theorem d2_28 : decode method_2_code 28 = .ok (.iconst 0, 1) := by decide +kernel
theorem d2_29 : decode method_2_code 29 = .ok (.ireturn, 1) := by decide +kernel
theorem pn_2 : plainName "com/example/homespun_functions/homespunfunctions/xml/XmlNamesIsWhitespacePinLaw" = true := by first | (simp [plainName, overriddenIn]; done) | decide +kernel
theorem ef_2 (m : MethodId) (x0 : Int32) : entryFrame m #[(.int x0)] 1 = (mkF m 0 #[.val (.int x0)] []) := by first | (simp [entryFrame, mkF, argsToLocals, Value.category]; done) | rfl
def f2_28 (v0 : Int32) : Int32 := (0 : Int32)
def f2_24 (v0 : Int32) : Int32 := (1 : Int32)
def f2_12 (v0 : Int32) : Int32 := if (XT.cmpL (((1 : Int64) <<< ((v0).toInt64 &&& 63)) &&& (4294977024 : Int64)) (0 : Int64)) = (0 : Int32) then f2_28 v0 else f2_24 v0
def f2_10 (v0 : Int32) : Int32 := (0 : Int32)
def f2_4 (v0 : Int32) : Int32 := if v0 < (64 : Int32) then f2_12 v0 else f2_10 v0
def f2_0 (v0 : Int32) : Int32 := if v0 < (0 : Int32) then f2_10 v0 else f2_4 v0
section Own2
variable {p : Program} {l : Launch} {e : Env} {R : Room} {s : State} {m : MethodId} {args : Array Value} {below : List Frame} {meth : Method} {c : Code} {T : State} {locs : List Loc} {cells slots : Nat} {Z : State} {a0 : Array Value}
theorem g2_28 (X : Stand p l e R s m args below meth c T locs cells slots) (hx : p.tables.exec = Jvm.exec) (hby : c.code = method_2_code) (hret : meth.sig.returnType = some .boolean) (hZ : Z.Warmed39 s.vm) (hown : s.vm.findClass "com/example/homespun_functions/homespunfunctions/xml/XmlNamesIsWhitespacePinLaw" = some m.cls) (hw : ∀ d ∈ tables_1, d.before a0 Z = true) (v0 : Int32) {fs : List Frame} (hl : own_Rt e T m fs (.int (f2_28 v0))) : Steps p.tables e below (T.setTop (mkF m 28 #[.val (.int v0)] [])) (T.setFrames fs) := by
  show Steps p.tables e below (T.setTop (mkF m 28 #[.val (.int v0)] [])) _
  refine XS.iconst X.here hx rfl (hb hby d2_28) ?_
  show Steps p.tables e below (T.setTop (mkF m 29 #[.val (.int v0)] [(.int (0 : Int32))])) _
  exact retN X hx (t := .boolean) hret (by simp) (hb hby d2_29) hl
theorem g2_24 (X : Stand p l e R s m args below meth c T locs cells slots) (hx : p.tables.exec = Jvm.exec) (hby : c.code = method_2_code) (hret : meth.sig.returnType = some .boolean) (hZ : Z.Warmed39 s.vm) (hown : s.vm.findClass "com/example/homespun_functions/homespunfunctions/xml/XmlNamesIsWhitespacePinLaw" = some m.cls) (hw : ∀ d ∈ tables_1, d.before a0 Z = true) (v0 : Int32) {fs : List Frame} (hl : own_Rt e T m fs (.int (f2_24 v0))) : Steps p.tables e below (T.setTop (mkF m 24 #[.val (.int v0)] [])) (T.setFrames fs) := by
  show Steps p.tables e below (T.setTop (mkF m 24 #[.val (.int v0)] [])) _
  refine XS.iconst X.here hx rfl (hb hby d2_24) ?_
  show Steps p.tables e below (T.setTop (mkF m 25 #[.val (.int v0)] [(.int (1 : Int32))])) _
  refine XS.goto X.here hx rfl (pc0 := 25) (pc' := 29) rfl (hb hby d2_25) (by decide) (by decide) ?_
  show Steps p.tables e below (T.setTop (mkF m 29 #[.val (.int v0)] [(.int (1 : Int32))])) _
  exact retN X hx (t := .boolean) hret (by simp) (hb hby d2_29) hl
theorem g2_12 (X : Stand p l e R s m args below meth c T locs cells slots) (hx : p.tables.exec = Jvm.exec) (hby : c.code = method_2_code) (hret : meth.sig.returnType = some .boolean) (hZ : Z.Warmed39 s.vm) (hown : s.vm.findClass "com/example/homespun_functions/homespunfunctions/xml/XmlNamesIsWhitespacePinLaw" = some m.cls) (hw : ∀ d ∈ tables_1, d.before a0 Z = true) (v0 : Int32) {fs : List Frame} (hl : own_Rt e T m fs (.int (f2_12 v0))) : Steps p.tables e below (T.setTop (mkF m 12 #[.val (.int v0)] [])) (T.setFrames fs) := by
  show Steps p.tables e below (T.setTop (mkF m 12 #[.val (.int v0)] [])) _
  refine XT.lconst X.here hx rfl (hb hby d2_12) ?_
  show Steps p.tables e below (T.setTop (mkF m 13 #[.val (.int v0)] [(.long (1 : Int64))])) _
  refine XS.iloadN X.here hx rfl (hb hby d2_13) rfl ?_
  show Steps p.tables e below (T.setTop (mkF m 14 #[.val (.int v0)] [(.int v0), (.long (1 : Int64))])) _
  refine XT.lshl X.here hx rfl (hb hby d2_14) rfl ?_
  show Steps p.tables e below (T.setTop (mkF m 15 #[.val (.int v0)] [(.long ((1 : Int64) <<< ((v0).toInt64 &&& 63)))])) _
  refine X.ldc2J hx hown (mv hZ (hw _ (List.mem_of_getElem? (i := 9) rfl))) rfl (hb hby d2_15) ?_
  show Steps p.tables e below (T.setTop (mkF m 18 #[.val (.int v0)] [(.long (4294977024 : Int64)), (.long ((1 : Int64) <<< ((v0).toInt64 &&& 63)))])) _
  refine XT.land X.here hx rfl (hb hby d2_18) rfl ?_
  show Steps p.tables e below (T.setTop (mkF m 19 #[.val (.int v0)] [(.long (((1 : Int64) <<< ((v0).toInt64 &&& 63)) &&& (4294977024 : Int64)))])) _
  refine XT.lconst X.here hx rfl (hb hby d2_19) ?_
  show Steps p.tables e below (T.setTop (mkF m 20 #[.val (.int v0)] [(.long (0 : Int64)), (.long (((1 : Int64) <<< ((v0).toInt64 &&& 63)) &&& (4294977024 : Int64)))])) _
  refine XT.lcmp X.here hx rfl (hb hby d2_20) rfl ?_
  show Steps p.tables e below (T.setTop (mkF m 21 #[.val (.int v0)] [(.int (XT.cmpL (((1 : Int64) <<< ((v0).toInt64 &&& 63)) &&& (4294977024 : Int64)) (0 : Int64)))])) _
  by_cases hc : (XT.cmpL (((1 : Int64) <<< ((v0).toInt64 &&& 63)) &&& (4294977024 : Int64)) (0 : Int64)) = (0 : Int32)
  · rw [show f2_12 v0 = f2_28 v0 from if_pos hc] at hl
    refine XS.ifYes X.here hx rfl (pc0 := 21) (pc' := 28) rfl (hb hby d2_21) rfl ((if0 _ _).trans (teq hc).1) (by decide) (by decide) ?_
    exact g2_28 X hx hby hret hZ hown hw v0 hl
  · rw [show f2_12 v0 = f2_24 v0 from if_neg hc] at hl
    refine XS.ifNo X.here hx rfl (hb hby d2_21) rfl ((if0 _ _).trans (feq hc).1) ?_
    exact g2_24 X hx hby hret hZ hown hw v0 hl
theorem g2_10 (X : Stand p l e R s m args below meth c T locs cells slots) (hx : p.tables.exec = Jvm.exec) (hby : c.code = method_2_code) (hret : meth.sig.returnType = some .boolean) (hZ : Z.Warmed39 s.vm) (hown : s.vm.findClass "com/example/homespun_functions/homespunfunctions/xml/XmlNamesIsWhitespacePinLaw" = some m.cls) (hw : ∀ d ∈ tables_1, d.before a0 Z = true) (v0 : Int32) {fs : List Frame} (hl : own_Rt e T m fs (.int (f2_10 v0))) : Steps p.tables e below (T.setTop (mkF m 10 #[.val (.int v0)] [])) (T.setFrames fs) := by
  show Steps p.tables e below (T.setTop (mkF m 10 #[.val (.int v0)] [])) _
  refine XS.iconst X.here hx rfl (hb hby d2_10) ?_
  show Steps p.tables e below (T.setTop (mkF m 11 #[.val (.int v0)] [(.int (0 : Int32))])) _
  exact retN X hx (t := .boolean) hret (by simp) (hb hby d2_11) hl
theorem g2_4 (X : Stand p l e R s m args below meth c T locs cells slots) (hx : p.tables.exec = Jvm.exec) (hby : c.code = method_2_code) (hret : meth.sig.returnType = some .boolean) (hZ : Z.Warmed39 s.vm) (hown : s.vm.findClass "com/example/homespun_functions/homespunfunctions/xml/XmlNamesIsWhitespacePinLaw" = some m.cls) (hw : ∀ d ∈ tables_1, d.before a0 Z = true) (v0 : Int32) {fs : List Frame} (hl : own_Rt e T m fs (.int (f2_4 v0))) : Steps p.tables e below (T.setTop (mkF m 4 #[.val (.int v0)] [])) (T.setFrames fs) := by
  show Steps p.tables e below (T.setTop (mkF m 4 #[.val (.int v0)] [])) _
  refine XS.iloadN X.here hx rfl (hb hby d2_4) rfl ?_
  show Steps p.tables e below (T.setTop (mkF m 5 #[.val (.int v0)] [(.int v0)])) _
  refine XS.bipush X.here hx rfl (hb hby d2_5) ?_
  show Steps p.tables e below (T.setTop (mkF m 7 #[.val (.int v0)] [(.int (64 : Int32)), (.int v0)])) _
  by_cases hc : v0 < (64 : Int32)
  · rw [show f2_4 v0 = f2_12 v0 from if_pos hc] at hl
    refine XS.icmpYes X.here hx rfl (pc0 := 7) (pc' := 12) rfl (hb hby d2_7) rfl (tlt hc).1 (by decide) (by decide) ?_
    exact g2_12 X hx hby hret hZ hown hw v0 hl
  · rw [show f2_4 v0 = f2_10 v0 from if_neg hc] at hl
    refine XS.icmpNo X.here hx rfl (hb hby d2_7) rfl (flt hc).1 ?_
    exact g2_10 X hx hby hret hZ hown hw v0 hl
theorem g2_0 (X : Stand p l e R s m args below meth c T locs cells slots) (hx : p.tables.exec = Jvm.exec) (hby : c.code = method_2_code) (hret : meth.sig.returnType = some .boolean) (hZ : Z.Warmed39 s.vm) (hown : s.vm.findClass "com/example/homespun_functions/homespunfunctions/xml/XmlNamesIsWhitespacePinLaw" = some m.cls) (hw : ∀ d ∈ tables_1, d.before a0 Z = true) (v0 : Int32) {fs : List Frame} (hl : own_Rt e T m fs (.int (f2_0 v0))) : Steps p.tables e below (T.setTop (mkF m 0 #[.val (.int v0)] [])) (T.setFrames fs) := by
  show Steps p.tables e below (T.setTop (mkF m 0 #[.val (.int v0)] [])) _
  refine XS.iloadN X.here hx rfl (hb hby d2_0) rfl ?_
  show Steps p.tables e below (T.setTop (mkF m 1 #[.val (.int v0)] [(.int v0)])) _
  by_cases hc : v0 < (0 : Int32)
  · rw [show f2_0 v0 = f2_10 v0 from if_pos hc] at hl
    refine XS.ifYes X.here hx rfl (pc0 := 1) (pc' := 10) rfl (hb hby d2_1) rfl ((if0 _ _).trans (tlt hc).1) (by decide) (by decide) ?_
    exact g2_10 X hx hby hret hZ hown hw v0 hl
  · rw [show f2_0 v0 = f2_4 v0 from if_neg hc] at hl
    refine XS.ifNo X.here hx rfl (hb hby d2_1) rfl ((if0 _ _).trans (flt hc).1) ?_
    exact g2_4 X hx hby hret hZ hown hw v0 hl
end Own2
def Q2 (v0 : Int32) (h0 : Heap) (n0 : Nat) (v : Option Value) (h : Heap) (L : List Loc) : Prop := v = some (.int (f2_0 v0)) ∧ Fr n0 L ∧ h = h0
set_option maxRecDepth 65536 in
set_option maxHeartbeats 40000000 in
theorem rm2 (l : Launch) (Z : State) (a0 : Array Value) (hw : ∀ d ∈ tables_1, d.before a0 Z = true) (ws : List Jvm.Cond) (v0 : Int32) (h0 : Heap) (n0 : Nat) (Z0 : n0 ≤ h0.size) :
    MetFree l (⟨"com/example/homespun_functions/homespunfunctions/xml/XmlNamesIsWhitespacePinLaw", "ref", "(I)Z"⟩ : MethodName) (head1 (Jvm.Cond.code (⟨"com/example/homespun_functions/homespunfunctions/xml/XmlNamesIsWhitespacePinLaw", "ref", "(I)Z"⟩ : MethodName) method_2_code 1 (some .boolean) :: ws) ({ frames := 0, cells := 0, slots := 0, locals := 0 } : Room)) (fun a U => a = #[(.int v0)] ∧ Z.Warmed39 U.vm ∧ U.heap = h0) (fun _ _ _ _ _ => True) (fun _ U o U' => ∃ v L, o = .returned v ∧ Q2 v0 h0 n0 v U'.heap L ∧ FrameEnd U o U' L ({ frames := 0, cells := 0, slots := 0, locals := 0 } : Room).cells ({ frames := 0, cells := 0, slots := 0, locals := 0 } : Room).slots) := by
  refine MetFree.of_bodySF (plainFor_of_name pn_2) hisR ?_
  intro p e s m args below meth c s₁ Bd hml0 hP hK
  obtain ⟨rfl, hZ, hh⟩ := hP
  have hx := Bd.exec
  have hby := Bd.bytes
  have hown : s.vm.findClass "com/example/homespun_functions/homespunfunctions/xml/XmlNamesIsWhitespacePinLaw" = some m.cls := findClass_of_methodNamed Bd.named
  have X0 : Stand p l e ({ frames := 0, cells := 0, slots := 0, locals := 0 } : Room) s m #[(.int v0)] below meth c s₁ [] 0 0 := Stand.of_body Bd
  have e0 : s₁.heap = h0 := by rw [← hh, Bd.state]; rfl
  have N0 := Fr.nil n0
  have pre0 : ∀ t, Steps p.tables e below (s₁.setTop (mkF m 0 #[.val (.int v0)] [])) t → Steps p.tables e below (s₁.setTop (entryFrame m #[(.int v0)] 1)) t := fun t k => castTop (ef_2 m v0) k
  obtain ⟨fs, hr, hrun, hended, hW, hsame⟩ := X0.leave (v := some (.int (f2_0 v0))) (fun h => by rw [Bd.returns] at h; cases h)
  refine ⟨_, _, pre0 _ ?_, hrun, hended, _, _, rfl, ?_, ⟨_, rfl⟩, hW, hsame.mono (by decide) (by decide)⟩
  · exact g2_0 X0 hx hby Bd.returns hZ hown hw v0 hr
  · show Q2 v0 h0 n0 _ s₁.heap _
    rw [e0]
    exact ⟨rfl, N0, rfl⟩
theorem pd_2 : parseMethodDescriptor "(I)Z" = some ⟨[.int], some .boolean⟩ := by decide +kernel
theorem own_small : ∀ k : Fin 64, f1_0 (Int32.ofNat k.val) = f2_0 (Int32.ofNat k.val) := by decide +kernel
theorem own_ofNat (v : Int32) (h : 0 ≤ v.toInt) : Int32.ofNat v.toInt.toNat = v := by
  apply Int32.toInt_inj.mp
  rw [Int32.toInt_ofNat_of_lt (by have := v.toInt_lt; omega)]
  omega
theorem own_law (v : Int32) : f1_0 v = f2_0 v := by
  by_cases h : 0 ≤ v.toInt
  · by_cases hv : v.toInt < 64
    · have := own_small ⟨v.toInt.toNat, by omega⟩
      simpa only [own_ofNat v h] using this
    · have n (k : Int32) (hk : k.toInt < 64) : ¬ v = k := fun q => by subst q; exact hv hk
      rw [show f2_0 v = f2_4 v from if_neg (fun q => absurd (Int32.lt_iff_toInt_lt.mp q) (show ¬ v.toInt < 0 by omega)), show f2_4 v = f2_10 v from if_neg (fun q => hv (Int32.lt_iff_toInt_lt.mp q)), show f1_0 v = f1_6 v from if_neg (n 32 (by decide)), show f1_6 v = f1_12 v from if_neg (n 9 (by decide)), show f1_12 v = f1_18 v from if_neg (n 13 (by decide)), show f1_18 v = f1_28 v from if_neg (n 10 (by decide))]
      rfl
  · have n (k : Int32) (hk : 0 ≤ k.toInt) : ¬ v = k := fun q => by subst q; exact h hk
    rw [show f2_0 v = f2_10 v from if_pos (Int32.lt_iff_toInt_lt.mpr (show v.toInt < 0 by omega)), show f1_0 v = f1_6 v from if_neg (n 32 (by decide)), show f1_6 v = f1_12 v from if_neg (n 9 (by decide)), show f1_12 v = f1_18 v from if_neg (n 13 (by decide)), show f1_18 v = f1_28 v from if_neg (n 10 (by decide))]
    rfl
theorem pn_0 : plainName "com/example/homespun_functions/homespunfunctions/xml/XmlNamesIsWhitespacePinLaw" = true := by first | (simp [plainName, overriddenIn]; done) | decide +kernel
theorem ef_0 (m : MethodId) (x0 : Int32) : entryFrame m #[(.int x0)] maxLocals = (mkF m 0 #[.val (.int x0), .unset, .unset, .unset, .unset, .unset, .unset] []) := by first | (simp [entryFrame, mkF, argsToLocals, Value.category, maxLocals]; done) | rfl
def Q0 (n0 : Nat) (v : Option Value) (L : List Loc) : Prop := v = some (.int (1 : Int32)) ∧ Fr n0 L
set_option maxRecDepth 65536 in
set_option maxHeartbeats 40000000 in
theorem rm0 (l : Launch) (Z : State) (a0 : Array Value) (hw : ∀ d ∈ tables_1, d.before a0 Z = true) (ws : List Jvm.Cond) (v0 : Int32) (h0 : Heap) (n0 : Nat) (Z0 : n0 ≤ h0.size) :
    MetFree l x (head1 (Jvm.Cond.code x code maxLocals ret :: ws) room_1) (fun a U => a = #[(.int v0)] ∧ Z.Warmed39 U.vm ∧ U.heap = h0) (fun _ _ _ _ _ => True) (fun _ U o U' => ∃ v L, o = .returned v ∧ Q0 n0 v L ∧ FrameEnd U o U' L room_1.cells room_1.slots) := by
  refine MetFree.of_bodySF (plainFor_of_name pn_0) hisR ?_
  intro p e s m args below meth c s₁ Bd hml0 hP hK
  obtain ⟨rfl, hZ, hh⟩ := hP
  have hx := Bd.exec
  have hby := Bd.bytes
  have hml : c.maxLocals = 7 := hml0
  have hown : s.vm.findClass "com/example/homespun_functions/homespunfunctions/xml/XmlNamesIsWhitespacePinLaw" = some m.cls := findClass_of_methodNamed Bd.named
  have X0 : Stand p l e room_1 s m #[(.int v0)] below meth c s₁ [] 0 0 := Stand.of_body Bd
  have e0 : s₁.heap = h0 := by rw [← hh, Bd.state]; rfl
  have N0 := Fr.nil n0
  have pre0 : ∀ t, Steps p.tables e below (s₁.setTop (mkF m 0 #[.val (.int v0), .unset, .unset, .unset, .unset, .unset, .unset] [])) t → Steps p.tables e below (s₁.setTop (entryFrame m #[(.int v0)] maxLocals)) t := fun t k => castTop (ef_0 m v0) k
  have sg1 : ∀ t, Steps p.tables e below (s₁.setTop (mkF m 15 #[.val (.int v0), .val (.int v0), .val (.int (v0 &&& (63 : Int32))), .val (.int ((v0 &&& (63 : Int32)) ||| (v0 &&& (-65536 : Int32)))), .unset, .unset, .unset] [(.int v0)])) t → Steps p.tables e below (s₁.setTop (mkF m 0 #[.val (.int v0), .unset, .unset, .unset, .unset, .unset, .unset] [])) t := by
    intro t k
    show Steps p.tables e below (s₁.setTop (mkF m 0 #[.val (.int v0), .unset, .unset, .unset, .unset, .unset, .unset] [])) _
    refine XS.iloadN X0.here hx rfl (hb hby at_0) rfl ?_
    show Steps p.tables e below (s₁.setTop (mkF m 1 #[.val (.int v0), .unset, .unset, .unset, .unset, .unset, .unset] [(.int v0)])) _
    refine XS.istoreN X0.here hx rfl (hb hby at_1) rfl (l' := #[.val (.int v0), .val (.int v0), .unset, .unset, .unset, .unset, .unset]) rfl ?_
    show Steps p.tables e below (s₁.setTop (mkF m 2 #[.val (.int v0), .val (.int v0), .unset, .unset, .unset, .unset, .unset] [])) _
    refine XS.iloadN X0.here hx rfl (hb hby at_2) rfl ?_
    show Steps p.tables e below (s₁.setTop (mkF m 3 #[.val (.int v0), .val (.int v0), .unset, .unset, .unset, .unset, .unset] [(.int v0)])) _
    refine XS.bipush X0.here hx rfl (hb hby at_3) ?_
    show Steps p.tables e below (s₁.setTop (mkF m 5 #[.val (.int v0), .val (.int v0), .unset, .unset, .unset, .unset, .unset] [(.int (63 : Int32)), (.int v0)])) _
    refine XS.iand X0.here hx rfl (hb hby at_5) rfl ?_
    show Steps p.tables e below (s₁.setTop (mkF m 6 #[.val (.int v0), .val (.int v0), .unset, .unset, .unset, .unset, .unset] [(.int (v0 &&& (63 : Int32)))])) _
    refine XS.istoreN X0.here hx rfl (hb hby at_6) rfl (l' := #[.val (.int v0), .val (.int v0), .val (.int (v0 &&& (63 : Int32))), .unset, .unset, .unset, .unset]) rfl ?_
    show Steps p.tables e below (s₁.setTop (mkF m 7 #[.val (.int v0), .val (.int v0), .val (.int (v0 &&& (63 : Int32))), .unset, .unset, .unset, .unset] [])) _
    refine XS.iloadN X0.here hx rfl (hb hby at_7) rfl ?_
    show Steps p.tables e below (s₁.setTop (mkF m 8 #[.val (.int v0), .val (.int v0), .val (.int (v0 &&& (63 : Int32))), .unset, .unset, .unset, .unset] [(.int (v0 &&& (63 : Int32)))])) _
    refine XS.iloadN X0.here hx rfl (hb hby at_8) rfl ?_
    show Steps p.tables e below (s₁.setTop (mkF m 9 #[.val (.int v0), .val (.int v0), .val (.int (v0 &&& (63 : Int32))), .unset, .unset, .unset, .unset] [(.int v0), (.int (v0 &&& (63 : Int32)))])) _
    refine X0.ldcI hx hown (mv hZ (hw _ (List.mem_of_getElem? (i := 0) rfl))) rfl (hb hby at_9) ?_
    show Steps p.tables e below (s₁.setTop (mkF m 11 #[.val (.int v0), .val (.int v0), .val (.int (v0 &&& (63 : Int32))), .unset, .unset, .unset, .unset] [(.int (-65536 : Int32)), (.int v0), (.int (v0 &&& (63 : Int32)))])) _
    refine XS.iand X0.here hx rfl (hb hby at_11) rfl ?_
    show Steps p.tables e below (s₁.setTop (mkF m 12 #[.val (.int v0), .val (.int v0), .val (.int (v0 &&& (63 : Int32))), .unset, .unset, .unset, .unset] [(.int (v0 &&& (-65536 : Int32))), (.int (v0 &&& (63 : Int32)))])) _
    refine XT.ior X0.here hx rfl (hb hby at_12) rfl ?_
    show Steps p.tables e below (s₁.setTop (mkF m 13 #[.val (.int v0), .val (.int v0), .val (.int (v0 &&& (63 : Int32))), .unset, .unset, .unset, .unset] [(.int ((v0 &&& (63 : Int32)) ||| (v0 &&& (-65536 : Int32))))])) _
    refine XS.istoreN X0.here hx rfl (hb hby at_13) rfl (l' := #[.val (.int v0), .val (.int v0), .val (.int (v0 &&& (63 : Int32))), .val (.int ((v0 &&& (63 : Int32)) ||| (v0 &&& (-65536 : Int32)))), .unset, .unset, .unset]) rfl ?_
    show Steps p.tables e below (s₁.setTop (mkF m 14 #[.val (.int v0), .val (.int v0), .val (.int (v0 &&& (63 : Int32))), .val (.int ((v0 &&& (63 : Int32)) ||| (v0 &&& (-65536 : Int32)))), .unset, .unset, .unset] [])) _
    refine XS.iloadN X0.here hx rfl (hb hby at_14) rfl ?_
    show Steps p.tables e below (s₁.setTop (mkF m 15 #[.val (.int v0), .val (.int v0), .val (.int (v0 &&& (63 : Int32))), .val (.int ((v0 &&& (63 : Int32)) ||| (v0 &&& (-65536 : Int32)))), .unset, .unset, .unset] [(.int v0)])) _
    exact k
  obtain ⟨_, _, ⟨T2, L2, k2, n2⟩, -, X2, ⟨Lc2, hQ2, l2, y2, z2⟩, st2⟩ := Jvm.LawKit.callS X0 hx (y := (⟨"com/example/homespun_functions/homespunfunctions/xml/XmlNames", "isWhitespace", "(I)Z"⟩ : MethodName)) hown (mvT hZ (hw _ (List.mem_of_getElem? (i := 1) rfl))) (mvT hZ (hw _ (List.mem_of_getElem? (i := 2) rfl))) (mvT hZ (hw _ (List.mem_of_getElem? (i := 3) rfl))) (mvT hZ (hw _ (List.mem_of_getElem? (i := 4) rfl))) (by decide) (backOf (W := 0) (rm1 l Z a0 hw [] v0 h0 n0 Z0) hZ (hw _ (List.mem_of_getElem? (i := 4) rfl)) (hw _ (List.mem_of_getElem? (i := 3) rfl)) (by decide) (by decide)) (g := (mkF m 15 #[.val (.int v0), .val (.int v0), .val (.int (v0 &&& (63 : Int32))), .val (.int ((v0 &&& (63 : Int32)) ||| (v0 &&& (-65536 : Int32)))), .unset, .unset, .unset] [(.int v0)])) rfl (by rw [hml]; rfl) (argsL := [(.int v0)]) (rest := []) (lenOf pd_1 rfl) rfl (by show 2 * 0 + _ ≤ _; exact Nat.le_of_eq rfl) (hb hby at_15) (fun _ _ => ⟨rfl, e0, (by decide : 0 + 0 ≤ _), (by decide : 0 + 0 ≤ _)⟩)
  dsimp only [Pt.U, Pt.locs, Pt.cells, Pt.slots] at X2 l2 y2 z2 st2 hQ2
  subst l2 y2 z2
  obtain ⟨rfl, Nc2, e2⟩ := hQ2
  have N2 := Fr.app N0 Nc2
  have sg3 : ∀ t, Steps p.tables e below (T2.setTop (mkF m 19 #[.val (.int v0), .val (.int v0), .val (.int (v0 &&& (63 : Int32))), .val (.int ((v0 &&& (63 : Int32)) ||| (v0 &&& (-65536 : Int32)))), .unset, .unset, .unset] [(.int v0), (.int (f1_0 v0))])) t → Steps p.tables e below (T2.setTop (mkF m 18 #[.val (.int v0), .val (.int v0), .val (.int (v0 &&& (63 : Int32))), .val (.int ((v0 &&& (63 : Int32)) ||| (v0 &&& (-65536 : Int32)))), .unset, .unset, .unset] [(.int (f1_0 v0))])) t := by
    intro t k
    show Steps p.tables e below (T2.setTop (mkF m 18 #[.val (.int v0), .val (.int v0), .val (.int (v0 &&& (63 : Int32))), .val (.int ((v0 &&& (63 : Int32)) ||| (v0 &&& (-65536 : Int32)))), .unset, .unset, .unset] [(.int (f1_0 v0))])) _
    refine XS.iloadN X2.here hx rfl (hb hby at_18) rfl ?_
    show Steps p.tables e below (T2.setTop (mkF m 19 #[.val (.int v0), .val (.int v0), .val (.int (v0 &&& (63 : Int32))), .val (.int ((v0 &&& (63 : Int32)) ||| (v0 &&& (-65536 : Int32)))), .unset, .unset, .unset] [(.int v0), (.int (f1_0 v0))])) _
    exact k
  obtain ⟨_, _, ⟨T4, L4, k4, n4⟩, -, X4, ⟨Lc4, hQ4, l4, y4, z4⟩, st4⟩ := Jvm.LawKit.callS X2 hx (y := (⟨"com/example/homespun_functions/homespunfunctions/xml/XmlNamesIsWhitespacePinLaw", "ref", "(I)Z"⟩ : MethodName)) hown (mvT hZ (hw _ (List.mem_of_getElem? (i := 5) rfl))) (mvT hZ (hw _ (List.mem_of_getElem? (i := 6) rfl))) (mvT hZ (hw _ (List.mem_of_getElem? (i := 7) rfl))) (mvT hZ (hw _ (List.mem_of_getElem? (i := 8) rfl))) (by decide) (backOf (W := 1) (rm2 l Z a0 hw [] v0 h0 n0 Z0) hZ (hw _ (List.mem_of_getElem? (i := 8) rfl)) (hw _ (List.mem_of_getElem? (i := 7) rfl)) (by decide) (by decide)) (g := (mkF m 19 #[.val (.int v0), .val (.int v0), .val (.int (v0 &&& (63 : Int32))), .val (.int ((v0 &&& (63 : Int32)) ||| (v0 &&& (-65536 : Int32)))), .unset, .unset, .unset] [(.int v0), (.int (f1_0 v0))])) rfl (by rw [hml]; rfl) (argsL := [(.int v0)]) (rest := [(.int (f1_0 v0))]) (lenOf pd_2 rfl) rfl (by show 2 * 0 + _ ≤ _; exact Nat.le_of_eq rfl) (hb hby at_19) (fun _ _ => ⟨rfl, e2, (by decide : 0 + 0 ≤ _), (by decide : 0 + 0 ≤ _)⟩)
  dsimp only [Pt.U, Pt.locs, Pt.cells, Pt.slots] at X4 l4 y4 z4 st4 hQ4
  subst l4 y4 z4
  obtain ⟨rfl, Nc4, e4⟩ := hQ4
  have N4 := Fr.app N2 Nc4
  have heq0 : f1_0 v0 = f2_0 v0 := own_law _
  have sg5 : ∀ t, Steps p.tables e below (T4.setTop (mkF m 30 #[.val (.int v0), .val (.int v0), .val (.int (v0 &&& (63 : Int32))), .val (.int ((v0 &&& (63 : Int32)) ||| (v0 &&& (-65536 : Int32)))), .unset, .unset, .unset] [(.int (1 : Int32))])) t → Steps p.tables e below (T4.setTop (mkF m 22 #[.val (.int v0), .val (.int v0), .val (.int (v0 &&& (63 : Int32))), .val (.int ((v0 &&& (63 : Int32)) ||| (v0 &&& (-65536 : Int32)))), .unset, .unset, .unset] [(.int (f2_0 v0)), (.int (f1_0 v0))])) t := by
    intro t k
    show Steps p.tables e below (T4.setTop (mkF m 22 #[.val (.int v0), .val (.int v0), .val (.int (v0 &&& (63 : Int32))), .val (.int ((v0 &&& (63 : Int32)) ||| (v0 &&& (-65536 : Int32)))), .unset, .unset, .unset] [(.int (f2_0 v0)), (.int (f1_0 v0))])) _
    refine XS.icmpNo X4.here hx rfl (hb hby at_22) rfl (teq heq0).2 ?_
    show Steps p.tables e below (T4.setTop (mkF m 25 #[.val (.int v0), .val (.int v0), .val (.int (v0 &&& (63 : Int32))), .val (.int ((v0 &&& (63 : Int32)) ||| (v0 &&& (-65536 : Int32)))), .unset, .unset, .unset] [])) _
    refine XS.iconst X4.here hx rfl (hb hby at_25) ?_
    show Steps p.tables e below (T4.setTop (mkF m 26 #[.val (.int v0), .val (.int v0), .val (.int (v0 &&& (63 : Int32))), .val (.int ((v0 &&& (63 : Int32)) ||| (v0 &&& (-65536 : Int32)))), .unset, .unset, .unset] [(.int (1 : Int32))])) _
    refine XS.goto X4.here hx rfl (pc0 := 26) (pc' := 30) rfl (hb hby at_26) (by decide) (by decide) ?_
    show Steps p.tables e below (T4.setTop (mkF m 30 #[.val (.int v0), .val (.int v0), .val (.int (v0 &&& (63 : Int32))), .val (.int ((v0 &&& (63 : Int32)) ||| (v0 &&& (-65536 : Int32)))), .unset, .unset, .unset] [(.int (1 : Int32))])) _
    exact k
  have sg6 : ∀ t, Steps p.tables e below (T4.setTop (mkF m 33 #[.val (.int v0), .val (.int v0), .val (.int (v0 &&& (63 : Int32))), .val (.int ((v0 &&& (63 : Int32)) ||| (v0 &&& (-65536 : Int32)))), .val (.int (1 : Int32)), .unset, .unset] [(.int (v0 &&& (63 : Int32)))])) t → Steps p.tables e below (T4.setTop (mkF m 30 #[.val (.int v0), .val (.int v0), .val (.int (v0 &&& (63 : Int32))), .val (.int ((v0 &&& (63 : Int32)) ||| (v0 &&& (-65536 : Int32)))), .unset, .unset, .unset] [(.int (1 : Int32))])) t := by
    intro t k
    show Steps p.tables e below (T4.setTop (mkF m 30 #[.val (.int v0), .val (.int v0), .val (.int (v0 &&& (63 : Int32))), .val (.int ((v0 &&& (63 : Int32)) ||| (v0 &&& (-65536 : Int32)))), .unset, .unset, .unset] [(.int (1 : Int32))])) _
    refine XS.istore X4.here hx rfl (hb hby at_30) rfl (l' := #[.val (.int v0), .val (.int v0), .val (.int (v0 &&& (63 : Int32))), .val (.int ((v0 &&& (63 : Int32)) ||| (v0 &&& (-65536 : Int32)))), .val (.int (1 : Int32)), .unset, .unset]) rfl ?_
    show Steps p.tables e below (T4.setTop (mkF m 32 #[.val (.int v0), .val (.int v0), .val (.int (v0 &&& (63 : Int32))), .val (.int ((v0 &&& (63 : Int32)) ||| (v0 &&& (-65536 : Int32)))), .val (.int (1 : Int32)), .unset, .unset] [])) _
    refine XS.iloadN X4.here hx rfl (hb hby at_32) rfl ?_
    show Steps p.tables e below (T4.setTop (mkF m 33 #[.val (.int v0), .val (.int v0), .val (.int (v0 &&& (63 : Int32))), .val (.int ((v0 &&& (63 : Int32)) ||| (v0 &&& (-65536 : Int32)))), .val (.int (1 : Int32)), .unset, .unset] [(.int (v0 &&& (63 : Int32)))])) _
    exact k
  obtain ⟨_, _, ⟨T7, L7, k7, n7⟩, -, X7, ⟨Lc7, hQ7, l7, y7, z7⟩, st7⟩ := Jvm.LawKit.callS X4 hx (y := (⟨"com/example/homespun_functions/homespunfunctions/xml/XmlNames", "isWhitespace", "(I)Z"⟩ : MethodName)) hown (mvT hZ (hw _ (List.mem_of_getElem? (i := 1) rfl))) (mvT hZ (hw _ (List.mem_of_getElem? (i := 2) rfl))) (mvT hZ (hw _ (List.mem_of_getElem? (i := 3) rfl))) (mvT hZ (hw _ (List.mem_of_getElem? (i := 4) rfl))) (by decide) (backOf (W := 0) (rm1 l Z a0 hw [] (v0 &&& (63 : Int32)) h0 n0 Z0) hZ (hw _ (List.mem_of_getElem? (i := 4) rfl)) (hw _ (List.mem_of_getElem? (i := 3) rfl)) (by decide) (by decide)) (g := (mkF m 33 #[.val (.int v0), .val (.int v0), .val (.int (v0 &&& (63 : Int32))), .val (.int ((v0 &&& (63 : Int32)) ||| (v0 &&& (-65536 : Int32)))), .val (.int (1 : Int32)), .unset, .unset] [(.int (v0 &&& (63 : Int32)))])) rfl (by rw [hml]; rfl) (argsL := [(.int (v0 &&& (63 : Int32)))]) (rest := []) (lenOf pd_1 rfl) rfl (by show 2 * 0 + _ ≤ _; exact Nat.le_of_eq rfl) (hb hby at_33) (fun _ _ => ⟨rfl, e4, (by decide : 0 + 0 ≤ _), (by decide : 0 + 0 ≤ _)⟩)
  dsimp only [Pt.U, Pt.locs, Pt.cells, Pt.slots] at X7 l7 y7 z7 st7 hQ7
  subst l7 y7 z7
  obtain ⟨rfl, Nc7, e7⟩ := hQ7
  have N7 := Fr.app N4 Nc7
  have sg8 : ∀ t, Steps p.tables e below (T7.setTop (mkF m 37 #[.val (.int v0), .val (.int v0), .val (.int (v0 &&& (63 : Int32))), .val (.int ((v0 &&& (63 : Int32)) ||| (v0 &&& (-65536 : Int32)))), .val (.int (1 : Int32)), .unset, .unset] [(.int (v0 &&& (63 : Int32))), (.int (f1_0 (v0 &&& (63 : Int32))))])) t → Steps p.tables e below (T7.setTop (mkF m 36 #[.val (.int v0), .val (.int v0), .val (.int (v0 &&& (63 : Int32))), .val (.int ((v0 &&& (63 : Int32)) ||| (v0 &&& (-65536 : Int32)))), .val (.int (1 : Int32)), .unset, .unset] [(.int (f1_0 (v0 &&& (63 : Int32))))])) t := by
    intro t k
    show Steps p.tables e below (T7.setTop (mkF m 36 #[.val (.int v0), .val (.int v0), .val (.int (v0 &&& (63 : Int32))), .val (.int ((v0 &&& (63 : Int32)) ||| (v0 &&& (-65536 : Int32)))), .val (.int (1 : Int32)), .unset, .unset] [(.int (f1_0 (v0 &&& (63 : Int32))))])) _
    refine XS.iloadN X7.here hx rfl (hb hby at_36) rfl ?_
    show Steps p.tables e below (T7.setTop (mkF m 37 #[.val (.int v0), .val (.int v0), .val (.int (v0 &&& (63 : Int32))), .val (.int ((v0 &&& (63 : Int32)) ||| (v0 &&& (-65536 : Int32)))), .val (.int (1 : Int32)), .unset, .unset] [(.int (v0 &&& (63 : Int32))), (.int (f1_0 (v0 &&& (63 : Int32))))])) _
    exact k
  obtain ⟨_, _, ⟨T9, L9, k9, n9⟩, -, X9, ⟨Lc9, hQ9, l9, y9, z9⟩, st9⟩ := Jvm.LawKit.callS X7 hx (y := (⟨"com/example/homespun_functions/homespunfunctions/xml/XmlNamesIsWhitespacePinLaw", "ref", "(I)Z"⟩ : MethodName)) hown (mvT hZ (hw _ (List.mem_of_getElem? (i := 5) rfl))) (mvT hZ (hw _ (List.mem_of_getElem? (i := 6) rfl))) (mvT hZ (hw _ (List.mem_of_getElem? (i := 7) rfl))) (mvT hZ (hw _ (List.mem_of_getElem? (i := 8) rfl))) (by decide) (backOf (W := 1) (rm2 l Z a0 hw [] (v0 &&& (63 : Int32)) h0 n0 Z0) hZ (hw _ (List.mem_of_getElem? (i := 8) rfl)) (hw _ (List.mem_of_getElem? (i := 7) rfl)) (by decide) (by decide)) (g := (mkF m 37 #[.val (.int v0), .val (.int v0), .val (.int (v0 &&& (63 : Int32))), .val (.int ((v0 &&& (63 : Int32)) ||| (v0 &&& (-65536 : Int32)))), .val (.int (1 : Int32)), .unset, .unset] [(.int (v0 &&& (63 : Int32))), (.int (f1_0 (v0 &&& (63 : Int32))))])) rfl (by rw [hml]; rfl) (argsL := [(.int (v0 &&& (63 : Int32)))]) (rest := [(.int (f1_0 (v0 &&& (63 : Int32))))]) (lenOf pd_2 rfl) rfl (by show 2 * 0 + _ ≤ _; exact Nat.le_of_eq rfl) (hb hby at_37) (fun _ _ => ⟨rfl, e7, (by decide : 0 + 0 ≤ _), (by decide : 0 + 0 ≤ _)⟩)
  dsimp only [Pt.U, Pt.locs, Pt.cells, Pt.slots] at X9 l9 y9 z9 st9 hQ9
  subst l9 y9 z9
  obtain ⟨rfl, Nc9, e9⟩ := hQ9
  have N9 := Fr.app N7 Nc9
  have heq1 : f1_0 (v0 &&& (63 : Int32)) = f2_0 (v0 &&& (63 : Int32)) := own_law _
  have sg10 : ∀ t, Steps p.tables e below (T9.setTop (mkF m 48 #[.val (.int v0), .val (.int v0), .val (.int (v0 &&& (63 : Int32))), .val (.int ((v0 &&& (63 : Int32)) ||| (v0 &&& (-65536 : Int32)))), .val (.int (1 : Int32)), .unset, .unset] [(.int (1 : Int32))])) t → Steps p.tables e below (T9.setTop (mkF m 40 #[.val (.int v0), .val (.int v0), .val (.int (v0 &&& (63 : Int32))), .val (.int ((v0 &&& (63 : Int32)) ||| (v0 &&& (-65536 : Int32)))), .val (.int (1 : Int32)), .unset, .unset] [(.int (f2_0 (v0 &&& (63 : Int32)))), (.int (f1_0 (v0 &&& (63 : Int32))))])) t := by
    intro t k
    show Steps p.tables e below (T9.setTop (mkF m 40 #[.val (.int v0), .val (.int v0), .val (.int (v0 &&& (63 : Int32))), .val (.int ((v0 &&& (63 : Int32)) ||| (v0 &&& (-65536 : Int32)))), .val (.int (1 : Int32)), .unset, .unset] [(.int (f2_0 (v0 &&& (63 : Int32)))), (.int (f1_0 (v0 &&& (63 : Int32))))])) _
    refine XS.icmpNo X9.here hx rfl (hb hby at_40) rfl (teq heq1).2 ?_
    show Steps p.tables e below (T9.setTop (mkF m 43 #[.val (.int v0), .val (.int v0), .val (.int (v0 &&& (63 : Int32))), .val (.int ((v0 &&& (63 : Int32)) ||| (v0 &&& (-65536 : Int32)))), .val (.int (1 : Int32)), .unset, .unset] [])) _
    refine XS.iconst X9.here hx rfl (hb hby at_43) ?_
    show Steps p.tables e below (T9.setTop (mkF m 44 #[.val (.int v0), .val (.int v0), .val (.int (v0 &&& (63 : Int32))), .val (.int ((v0 &&& (63 : Int32)) ||| (v0 &&& (-65536 : Int32)))), .val (.int (1 : Int32)), .unset, .unset] [(.int (1 : Int32))])) _
    refine XS.goto X9.here hx rfl (pc0 := 44) (pc' := 48) rfl (hb hby at_44) (by decide) (by decide) ?_
    show Steps p.tables e below (T9.setTop (mkF m 48 #[.val (.int v0), .val (.int v0), .val (.int (v0 &&& (63 : Int32))), .val (.int ((v0 &&& (63 : Int32)) ||| (v0 &&& (-65536 : Int32)))), .val (.int (1 : Int32)), .unset, .unset] [(.int (1 : Int32))])) _
    exact k
  have sg11 : ∀ t, Steps p.tables e below (T9.setTop (mkF m 51 #[.val (.int v0), .val (.int v0), .val (.int (v0 &&& (63 : Int32))), .val (.int ((v0 &&& (63 : Int32)) ||| (v0 &&& (-65536 : Int32)))), .val (.int (1 : Int32)), .val (.int (1 : Int32)), .unset] [(.int ((v0 &&& (63 : Int32)) ||| (v0 &&& (-65536 : Int32))))])) t → Steps p.tables e below (T9.setTop (mkF m 48 #[.val (.int v0), .val (.int v0), .val (.int (v0 &&& (63 : Int32))), .val (.int ((v0 &&& (63 : Int32)) ||| (v0 &&& (-65536 : Int32)))), .val (.int (1 : Int32)), .unset, .unset] [(.int (1 : Int32))])) t := by
    intro t k
    show Steps p.tables e below (T9.setTop (mkF m 48 #[.val (.int v0), .val (.int v0), .val (.int (v0 &&& (63 : Int32))), .val (.int ((v0 &&& (63 : Int32)) ||| (v0 &&& (-65536 : Int32)))), .val (.int (1 : Int32)), .unset, .unset] [(.int (1 : Int32))])) _
    refine XS.istore X9.here hx rfl (hb hby at_48) rfl (l' := #[.val (.int v0), .val (.int v0), .val (.int (v0 &&& (63 : Int32))), .val (.int ((v0 &&& (63 : Int32)) ||| (v0 &&& (-65536 : Int32)))), .val (.int (1 : Int32)), .val (.int (1 : Int32)), .unset]) rfl ?_
    show Steps p.tables e below (T9.setTop (mkF m 50 #[.val (.int v0), .val (.int v0), .val (.int (v0 &&& (63 : Int32))), .val (.int ((v0 &&& (63 : Int32)) ||| (v0 &&& (-65536 : Int32)))), .val (.int (1 : Int32)), .val (.int (1 : Int32)), .unset] [])) _
    refine XS.iloadN X9.here hx rfl (hb hby at_50) rfl ?_
    show Steps p.tables e below (T9.setTop (mkF m 51 #[.val (.int v0), .val (.int v0), .val (.int (v0 &&& (63 : Int32))), .val (.int ((v0 &&& (63 : Int32)) ||| (v0 &&& (-65536 : Int32)))), .val (.int (1 : Int32)), .val (.int (1 : Int32)), .unset] [(.int ((v0 &&& (63 : Int32)) ||| (v0 &&& (-65536 : Int32))))])) _
    exact k
  obtain ⟨_, _, ⟨T12, L12, k12, n12⟩, -, X12, ⟨Lc12, hQ12, l12, y12, z12⟩, st12⟩ := Jvm.LawKit.callS X9 hx (y := (⟨"com/example/homespun_functions/homespunfunctions/xml/XmlNames", "isWhitespace", "(I)Z"⟩ : MethodName)) hown (mvT hZ (hw _ (List.mem_of_getElem? (i := 1) rfl))) (mvT hZ (hw _ (List.mem_of_getElem? (i := 2) rfl))) (mvT hZ (hw _ (List.mem_of_getElem? (i := 3) rfl))) (mvT hZ (hw _ (List.mem_of_getElem? (i := 4) rfl))) (by decide) (backOf (W := 0) (rm1 l Z a0 hw [] ((v0 &&& (63 : Int32)) ||| (v0 &&& (-65536 : Int32))) h0 n0 Z0) hZ (hw _ (List.mem_of_getElem? (i := 4) rfl)) (hw _ (List.mem_of_getElem? (i := 3) rfl)) (by decide) (by decide)) (g := (mkF m 51 #[.val (.int v0), .val (.int v0), .val (.int (v0 &&& (63 : Int32))), .val (.int ((v0 &&& (63 : Int32)) ||| (v0 &&& (-65536 : Int32)))), .val (.int (1 : Int32)), .val (.int (1 : Int32)), .unset] [(.int ((v0 &&& (63 : Int32)) ||| (v0 &&& (-65536 : Int32))))])) rfl (by rw [hml]; rfl) (argsL := [(.int ((v0 &&& (63 : Int32)) ||| (v0 &&& (-65536 : Int32))))]) (rest := []) (lenOf pd_1 rfl) rfl (by show 2 * 0 + _ ≤ _; exact Nat.le_of_eq rfl) (hb hby at_51) (fun _ _ => ⟨rfl, e9, (by decide : 0 + 0 ≤ _), (by decide : 0 + 0 ≤ _)⟩)
  dsimp only [Pt.U, Pt.locs, Pt.cells, Pt.slots] at X12 l12 y12 z12 st12 hQ12
  subst l12 y12 z12
  obtain ⟨rfl, Nc12, e12⟩ := hQ12
  have N12 := Fr.app N9 Nc12
  have sg13 : ∀ t, Steps p.tables e below (T12.setTop (mkF m 55 #[.val (.int v0), .val (.int v0), .val (.int (v0 &&& (63 : Int32))), .val (.int ((v0 &&& (63 : Int32)) ||| (v0 &&& (-65536 : Int32)))), .val (.int (1 : Int32)), .val (.int (1 : Int32)), .unset] [(.int ((v0 &&& (63 : Int32)) ||| (v0 &&& (-65536 : Int32)))), (.int (f1_0 ((v0 &&& (63 : Int32)) ||| (v0 &&& (-65536 : Int32)))))])) t → Steps p.tables e below (T12.setTop (mkF m 54 #[.val (.int v0), .val (.int v0), .val (.int (v0 &&& (63 : Int32))), .val (.int ((v0 &&& (63 : Int32)) ||| (v0 &&& (-65536 : Int32)))), .val (.int (1 : Int32)), .val (.int (1 : Int32)), .unset] [(.int (f1_0 ((v0 &&& (63 : Int32)) ||| (v0 &&& (-65536 : Int32)))))])) t := by
    intro t k
    show Steps p.tables e below (T12.setTop (mkF m 54 #[.val (.int v0), .val (.int v0), .val (.int (v0 &&& (63 : Int32))), .val (.int ((v0 &&& (63 : Int32)) ||| (v0 &&& (-65536 : Int32)))), .val (.int (1 : Int32)), .val (.int (1 : Int32)), .unset] [(.int (f1_0 ((v0 &&& (63 : Int32)) ||| (v0 &&& (-65536 : Int32)))))])) _
    refine XS.iloadN X12.here hx rfl (hb hby at_54) rfl ?_
    show Steps p.tables e below (T12.setTop (mkF m 55 #[.val (.int v0), .val (.int v0), .val (.int (v0 &&& (63 : Int32))), .val (.int ((v0 &&& (63 : Int32)) ||| (v0 &&& (-65536 : Int32)))), .val (.int (1 : Int32)), .val (.int (1 : Int32)), .unset] [(.int ((v0 &&& (63 : Int32)) ||| (v0 &&& (-65536 : Int32)))), (.int (f1_0 ((v0 &&& (63 : Int32)) ||| (v0 &&& (-65536 : Int32)))))])) _
    exact k
  obtain ⟨_, _, ⟨T14, L14, k14, n14⟩, -, X14, ⟨Lc14, hQ14, l14, y14, z14⟩, st14⟩ := Jvm.LawKit.callS X12 hx (y := (⟨"com/example/homespun_functions/homespunfunctions/xml/XmlNamesIsWhitespacePinLaw", "ref", "(I)Z"⟩ : MethodName)) hown (mvT hZ (hw _ (List.mem_of_getElem? (i := 5) rfl))) (mvT hZ (hw _ (List.mem_of_getElem? (i := 6) rfl))) (mvT hZ (hw _ (List.mem_of_getElem? (i := 7) rfl))) (mvT hZ (hw _ (List.mem_of_getElem? (i := 8) rfl))) (by decide) (backOf (W := 1) (rm2 l Z a0 hw [] ((v0 &&& (63 : Int32)) ||| (v0 &&& (-65536 : Int32))) h0 n0 Z0) hZ (hw _ (List.mem_of_getElem? (i := 8) rfl)) (hw _ (List.mem_of_getElem? (i := 7) rfl)) (by decide) (by decide)) (g := (mkF m 55 #[.val (.int v0), .val (.int v0), .val (.int (v0 &&& (63 : Int32))), .val (.int ((v0 &&& (63 : Int32)) ||| (v0 &&& (-65536 : Int32)))), .val (.int (1 : Int32)), .val (.int (1 : Int32)), .unset] [(.int ((v0 &&& (63 : Int32)) ||| (v0 &&& (-65536 : Int32)))), (.int (f1_0 ((v0 &&& (63 : Int32)) ||| (v0 &&& (-65536 : Int32)))))])) rfl (by rw [hml]; rfl) (argsL := [(.int ((v0 &&& (63 : Int32)) ||| (v0 &&& (-65536 : Int32))))]) (rest := [(.int (f1_0 ((v0 &&& (63 : Int32)) ||| (v0 &&& (-65536 : Int32)))))]) (lenOf pd_2 rfl) rfl (by show 2 * 0 + _ ≤ _; exact Nat.le_of_eq rfl) (hb hby at_55) (fun _ _ => ⟨rfl, e12, (by decide : 0 + 0 ≤ _), (by decide : 0 + 0 ≤ _)⟩)
  dsimp only [Pt.U, Pt.locs, Pt.cells, Pt.slots] at X14 l14 y14 z14 st14 hQ14
  subst l14 y14 z14
  obtain ⟨rfl, Nc14, e14⟩ := hQ14
  have N14 := Fr.app N12 Nc14
  have heq2 : f1_0 ((v0 &&& (63 : Int32)) ||| (v0 &&& (-65536 : Int32))) = f2_0 ((v0 &&& (63 : Int32)) ||| (v0 &&& (-65536 : Int32))) := own_law _
  have sg15 : ∀ t, Steps p.tables e below (T14.setTop (mkF m 66 #[.val (.int v0), .val (.int v0), .val (.int (v0 &&& (63 : Int32))), .val (.int ((v0 &&& (63 : Int32)) ||| (v0 &&& (-65536 : Int32)))), .val (.int (1 : Int32)), .val (.int (1 : Int32)), .unset] [(.int (1 : Int32))])) t → Steps p.tables e below (T14.setTop (mkF m 58 #[.val (.int v0), .val (.int v0), .val (.int (v0 &&& (63 : Int32))), .val (.int ((v0 &&& (63 : Int32)) ||| (v0 &&& (-65536 : Int32)))), .val (.int (1 : Int32)), .val (.int (1 : Int32)), .unset] [(.int (f2_0 ((v0 &&& (63 : Int32)) ||| (v0 &&& (-65536 : Int32))))), (.int (f1_0 ((v0 &&& (63 : Int32)) ||| (v0 &&& (-65536 : Int32)))))])) t := by
    intro t k
    show Steps p.tables e below (T14.setTop (mkF m 58 #[.val (.int v0), .val (.int v0), .val (.int (v0 &&& (63 : Int32))), .val (.int ((v0 &&& (63 : Int32)) ||| (v0 &&& (-65536 : Int32)))), .val (.int (1 : Int32)), .val (.int (1 : Int32)), .unset] [(.int (f2_0 ((v0 &&& (63 : Int32)) ||| (v0 &&& (-65536 : Int32))))), (.int (f1_0 ((v0 &&& (63 : Int32)) ||| (v0 &&& (-65536 : Int32)))))])) _
    refine XS.icmpNo X14.here hx rfl (hb hby at_58) rfl (teq heq2).2 ?_
    show Steps p.tables e below (T14.setTop (mkF m 61 #[.val (.int v0), .val (.int v0), .val (.int (v0 &&& (63 : Int32))), .val (.int ((v0 &&& (63 : Int32)) ||| (v0 &&& (-65536 : Int32)))), .val (.int (1 : Int32)), .val (.int (1 : Int32)), .unset] [])) _
    refine XS.iconst X14.here hx rfl (hb hby at_61) ?_
    show Steps p.tables e below (T14.setTop (mkF m 62 #[.val (.int v0), .val (.int v0), .val (.int (v0 &&& (63 : Int32))), .val (.int ((v0 &&& (63 : Int32)) ||| (v0 &&& (-65536 : Int32)))), .val (.int (1 : Int32)), .val (.int (1 : Int32)), .unset] [(.int (1 : Int32))])) _
    refine XS.goto X14.here hx rfl (pc0 := 62) (pc' := 66) rfl (hb hby at_62) (by decide) (by decide) ?_
    show Steps p.tables e below (T14.setTop (mkF m 66 #[.val (.int v0), .val (.int v0), .val (.int (v0 &&& (63 : Int32))), .val (.int ((v0 &&& (63 : Int32)) ||| (v0 &&& (-65536 : Int32)))), .val (.int (1 : Int32)), .val (.int (1 : Int32)), .unset] [(.int (1 : Int32))])) _
    exact k
  have sg16 : ∀ t, Steps p.tables e below (T14.setTop (mkF m 88 #[.val (.int v0), .val (.int v0), .val (.int (v0 &&& (63 : Int32))), .val (.int ((v0 &&& (63 : Int32)) ||| (v0 &&& (-65536 : Int32)))), .val (.int (1 : Int32)), .val (.int (1 : Int32)), .val (.int (1 : Int32))] [(.int (1 : Int32))])) t → Steps p.tables e below (T14.setTop (mkF m 66 #[.val (.int v0), .val (.int v0), .val (.int (v0 &&& (63 : Int32))), .val (.int ((v0 &&& (63 : Int32)) ||| (v0 &&& (-65536 : Int32)))), .val (.int (1 : Int32)), .val (.int (1 : Int32)), .unset] [(.int (1 : Int32))])) t := by
    intro t k
    show Steps p.tables e below (T14.setTop (mkF m 66 #[.val (.int v0), .val (.int v0), .val (.int (v0 &&& (63 : Int32))), .val (.int ((v0 &&& (63 : Int32)) ||| (v0 &&& (-65536 : Int32)))), .val (.int (1 : Int32)), .val (.int (1 : Int32)), .unset] [(.int (1 : Int32))])) _
    refine XS.istore X14.here hx rfl (hb hby at_66) rfl (l' := #[.val (.int v0), .val (.int v0), .val (.int (v0 &&& (63 : Int32))), .val (.int ((v0 &&& (63 : Int32)) ||| (v0 &&& (-65536 : Int32)))), .val (.int (1 : Int32)), .val (.int (1 : Int32)), .val (.int (1 : Int32))]) rfl ?_
    show Steps p.tables e below (T14.setTop (mkF m 68 #[.val (.int v0), .val (.int v0), .val (.int (v0 &&& (63 : Int32))), .val (.int ((v0 &&& (63 : Int32)) ||| (v0 &&& (-65536 : Int32)))), .val (.int (1 : Int32)), .val (.int (1 : Int32)), .val (.int (1 : Int32))] [])) _
    refine XS.iload X14.here hx rfl (hb hby at_68) rfl ?_
    show Steps p.tables e below (T14.setTop (mkF m 70 #[.val (.int v0), .val (.int v0), .val (.int (v0 &&& (63 : Int32))), .val (.int ((v0 &&& (63 : Int32)) ||| (v0 &&& (-65536 : Int32)))), .val (.int (1 : Int32)), .val (.int (1 : Int32)), .val (.int (1 : Int32))] [(.int (1 : Int32))])) _
    refine XS.ifNo X14.here hx rfl (hb hby at_70) rfl ((if0 _ _).trans (feq (by decide : ¬ (1 : Int32) = 0)).1) ?_
    show Steps p.tables e below (T14.setTop (mkF m 73 #[.val (.int v0), .val (.int v0), .val (.int (v0 &&& (63 : Int32))), .val (.int ((v0 &&& (63 : Int32)) ||| (v0 &&& (-65536 : Int32)))), .val (.int (1 : Int32)), .val (.int (1 : Int32)), .val (.int (1 : Int32))] [])) _
    refine XS.iload X14.here hx rfl (hb hby at_73) rfl ?_
    show Steps p.tables e below (T14.setTop (mkF m 75 #[.val (.int v0), .val (.int v0), .val (.int (v0 &&& (63 : Int32))), .val (.int ((v0 &&& (63 : Int32)) ||| (v0 &&& (-65536 : Int32)))), .val (.int (1 : Int32)), .val (.int (1 : Int32)), .val (.int (1 : Int32))] [(.int (1 : Int32))])) _
    refine XS.ifNo X14.here hx rfl (hb hby at_75) rfl ((if0 _ _).trans (feq (by decide : ¬ (1 : Int32) = 0)).1) ?_
    show Steps p.tables e below (T14.setTop (mkF m 78 #[.val (.int v0), .val (.int v0), .val (.int (v0 &&& (63 : Int32))), .val (.int ((v0 &&& (63 : Int32)) ||| (v0 &&& (-65536 : Int32)))), .val (.int (1 : Int32)), .val (.int (1 : Int32)), .val (.int (1 : Int32))] [])) _
    refine XS.iload X14.here hx rfl (hb hby at_78) rfl ?_
    show Steps p.tables e below (T14.setTop (mkF m 80 #[.val (.int v0), .val (.int v0), .val (.int (v0 &&& (63 : Int32))), .val (.int ((v0 &&& (63 : Int32)) ||| (v0 &&& (-65536 : Int32)))), .val (.int (1 : Int32)), .val (.int (1 : Int32)), .val (.int (1 : Int32))] [(.int (1 : Int32))])) _
    refine XS.ifNo X14.here hx rfl (hb hby at_80) rfl ((if0 _ _).trans (feq (by decide : ¬ (1 : Int32) = 0)).1) ?_
    show Steps p.tables e below (T14.setTop (mkF m 83 #[.val (.int v0), .val (.int v0), .val (.int (v0 &&& (63 : Int32))), .val (.int ((v0 &&& (63 : Int32)) ||| (v0 &&& (-65536 : Int32)))), .val (.int (1 : Int32)), .val (.int (1 : Int32)), .val (.int (1 : Int32))] [])) _
    refine XS.iconst X14.here hx rfl (hb hby at_83) ?_
    show Steps p.tables e below (T14.setTop (mkF m 84 #[.val (.int v0), .val (.int v0), .val (.int (v0 &&& (63 : Int32))), .val (.int ((v0 &&& (63 : Int32)) ||| (v0 &&& (-65536 : Int32)))), .val (.int (1 : Int32)), .val (.int (1 : Int32)), .val (.int (1 : Int32))] [(.int (1 : Int32))])) _
    refine XS.goto X14.here hx rfl (pc0 := 84) (pc' := 88) rfl (hb hby at_84) (by decide) (by decide) ?_
    show Steps p.tables e below (T14.setTop (mkF m 88 #[.val (.int v0), .val (.int v0), .val (.int (v0 &&& (63 : Int32))), .val (.int ((v0 &&& (63 : Int32)) ||| (v0 &&& (-65536 : Int32)))), .val (.int (1 : Int32)), .val (.int (1 : Int32)), .val (.int (1 : Int32))] [(.int (1 : Int32))])) _
    exact k
  obtain ⟨fs, hr, hrun, hended, hW, hsame⟩ := X14.leave (v := some (.int (1 : Int32))) (fun h => by rw [Bd.returns] at h; cases h)
  refine ⟨_, _, pre0 _ ?_, hrun, hended, _, _, rfl, ?_, ⟨_, rfl⟩, hW, hsame.mono (by decide) (by decide)⟩
  · refine sg1 _ ?_
    refine st2 _ ?_
    refine sg3 _ ?_
    refine st4 _ ?_
    refine sg5 _ ?_
    refine sg6 _ ?_
    refine st7 _ ?_
    refine sg8 _ ?_
    refine st9 _ ?_
    refine sg10 _ ?_
    refine sg11 _ ?_
    refine st12 _ ?_
    refine sg13 _ ?_
    refine st14 _ ?_
    refine sg15 _ ?_
    refine sg16 _ ?_
    show Steps p.tables e below (T14.setTop (mkF m 88 #[.val (.int v0), .val (.int v0), .val (.int (v0 &&& (63 : Int32))), .val (.int ((v0 &&& (63 : Int32)) ||| (v0 &&& (-65536 : Int32)))), .val (.int (1 : Int32)), .val (.int (1 : Int32)), .val (.int (1 : Int32))] [(.int (1 : Int32))])) _
    exact retN X14 hx (t := .boolean) Bd.returns (by simp) (hb hby at_88) hr
  · exact ⟨rfl, N14⟩
set_option maxRecDepth 65536 in
set_option maxHeartbeats 40000000 in
theorem comes_1 {Post : Tables → Env → Array Value → State → Outcome → State → Prop} (hpost : ∀ tb e args s v u, (limb_1_1.after args s (.returned v) u = true ∧ limb_1_2.after args s (.returned v) u = true ∧ True) → FrameEnd s (.returned v) u (Jvm.fieldLocs frame_1_writes args s ++ Jvm.arrayLocs frame_1_arrays args s ++ Jvm.staticLocs frame_1_statics s) 0 0 → Post tb e args s (.returned v) u) :
    ArmFor flags0 classFile x code maxLocals ret World_1 tables_1 room_1 Calls_1 rest_1 Pre_1 Post := by
  intro l hfl _ _ p e ha hc hk s m args below hf hA hF happ hP
  obtain ⟨hcalls, hrest, hpre⟩ := hP
  obtain ⟨-, -, -, hnamed, -, -, -, hat⟩ := (Spec.applies_iff hf).mp happ
  obtain ⟨hg, hn⟩ := and_e (Cond.before_iff.mp (show (Jvm.Cond.and given_1 narrow_1).before args s = true from hpre))
  obtain ⟨hcount, q0⟩ := and_e hg
  obtain ⟨w0, rfl⟩ : ∃ w0 : Value, args = #[w0] := by
    have hs : args.size = 1 := by simpa [Cond.value, given_1] using hcount
    obtain ⟨L⟩ := args
    match L, hs with
    | [w0], _ => exact ⟨w0, rfl⟩
  have hw := fun d (hd : d ∈ tables_1) => atoms_spec (ws := Jvm.Cond.code x code maxLocals ret :: tables_1) hat d (List.mem_cons_of_mem _ hd)
  obtain ⟨i0, r0⟩ := is_v q0
  obtain rfl : w0 = (.int i0) := Option.some.inj r0
  obtain ⟨n, o, h1, h2, h3, _, L, rfl, ⟨rfl, N⟩, hq⟩ := rm0 l s _ hw tables_1 i0 s.heap s.heap.size (Nat.le_refl _)  p e ha hc hk s m _ below hf ((Spec.applies_iff_loose hf).mp happ).1 ⟨rfl, State.Warmed39.refl s, rfl⟩ trivial
  refine ⟨n, _, h1, h2, h3, hpost _ _ _ _ _ _ ⟨Cond.after_iff.mpr rfl, Cond.after_iff.mpr (eq_i res_at (Term.int_eval (1)) rfl), trivial⟩ ⟨hq.1, hq.2.1, (hq.2.2.sift fun y hy => Or.inr (N y hy)).mono (by decide) (by decide)⟩⟩
theorem main_1_1 : Claimed_1_1 := comes_1 fun _ _ _ _ _ _ h hF => ⟨h.1, hF⟩
theorem main_1_2 : Claimed_1_2 := comes_1 fun _ _ _ _ _ _ h hF => ⟨h.2.1, hF⟩
end Jvm.Pilot.@@N@@
namespace Jvm.Pilot.@@N@@
open Jvm Jvm.ClassFile Sem Op Lib Jvm.Free Jvm.Stand Jvm.Pilot.@@N@@.Jvm.D
/-! MADE BY PROGRAM (witnessworld.py) out of the Statement's table words and the real class files: 9 classes; the members and pool entries that the words name. The judged class is class 1, her method 2. -/
namespace start1
open Jvm.ClassFile
def u (s : String) : CpInfo := .utf8 (stringToUtf16 s)
/-- a pool by its gaps: so many unusable entries, then the entry; so many at the end -/
def gap : Nat → List CpInfo → List CpInfo
  | 0, r => r
  | n + 1, r => .unusable :: gap n r
def poolList (es : List (Nat × CpInfo)) (last : Nat) : List CpInfo := es.foldr (fun e r => gap e.1 (e.2 :: r)) (gap last [])
def pool (es : List (Nat × CpInfo)) (last : Nat) : Array CpInfo := ⟨poolList es last⟩
def fileOf (pool : Array CpInfo) (this : Nat) (attrs : Array Attribute := #[]) (ms : Array MethodInfo := #[]) (fl : Nat := 33) (sup : Nat := 0) (ifs : Array Nat := #[]) (fds : Array FieldInfo := #[]) : ClassFile where
  minorVersion := 0
  majorVersion := 65
  constantPool := pool
  accessFlags := fl
  thisClass := this
  superClass := sup
  interfaces := ifs
  fields := fds
  methods := ms
  attributes := attrs
def plain (name : String) (sup : Option ClassId) : Class where
  name := name
  kind := .ordinary
  loader := none
  accessFlags := 33
  super := sup
  interfaces := #[]
  cf := none
  fields := #[]
  methods := #[]
  instanceTypes := #[]
  staticTypes := #[]
  resolved := #[]
  callSites := []
  init := .initialized
  statics := none
  mirror := none

def pool0 : Array CpInfo := pool [(5, u "<init>"), (0, u "()V"), (1, .class_ 10), (1, u "java/lang/Object")] 113

def k0m0 : Method := { name := "<init>", desc := "()V", sig := { parameters := [], returnType := none }, accessFlags := 1, code := none }
/-- java/lang/Object -/
def k0 : Class := { plain "java/lang/Object" none with
  accessFlags := 33
  interfaces := #[]
  cf := some (fileOf pool0 8 #[] #[{ accessFlags := 1, nameIndex := 5, descriptorIndex := 6, attributes := #[] }] 33 0 #[] #[])
  fields := #[]
  methods := #[k0m0]
  instanceTypes := #[]
  staticTypes := #[]
  resolved := Array.replicate 124 none
  statics := none }

def pool1 : Array CpInfo := pool [(2, .class_ 4), (1, u "java/lang/Object"), (0, u "<init>"), (0, u "()V"), (0, .long 4294977024), (1, .integer 4294901760), (0, .methodref 11 12), (0, .class_ 13), (0, .nameAndType 14 15), (0, u "com/example/homespun_functions/homespunfunctions/xml/XmlNames"), (0, u "isWhitespace"), (0, u "(I)Z"), (0, .methodref 17 18), (0, .class_ 19), (0, .nameAndType 20 15), (0, u "com/example/homespun_functions/homespunfunctions/xml/XmlNamesIsWhitespacePinLaw"), (0, u "ref"), (3, u "law")] 2

def k1m0 : Method := { name := "<init>", desc := "()V", sig := { parameters := [], returnType := none }, accessFlags := 1, code := none }
def k1c1 : Code := { maxStack := 4, maxLocals := 1, code := method_2_code, exceptionTable := #[], attributes := #[] }
def k1m1 : Method := { name := "ref", desc := "(I)Z", sig := { parameters := [.int], returnType := some .boolean }, accessFlags := 10, code := some k1c1 }
def k1c2 : Code := { maxStack := 3, maxLocals := 7, code := code, exceptionTable := #[], attributes := #[] }
def k1m2 : Method := { name := "law", desc := "(I)Z", sig := { parameters := [.int], returnType := some .boolean }, accessFlags := 9, code := some k1c2 }
/-- com/example/homespun_functions/homespunfunctions/xml/XmlNamesIsWhitespacePinLaw -/
def k1 : Class := { plain "com/example/homespun_functions/homespunfunctions/xml/XmlNamesIsWhitespacePinLaw" (some 0) with
  accessFlags := 49
  interfaces := #[]
  cf := some (fileOf pool1 17 #[] #[{ accessFlags := 1, nameIndex := 5, descriptorIndex := 6, attributes := #[] }, { accessFlags := 10, nameIndex := 20, descriptorIndex := 15, attributes := #[] }, { accessFlags := 9, nameIndex := 24, descriptorIndex := 15, attributes := #[] }] 49 2 #[] #[])
  fields := #[]
  methods := #[k1m0, k1m1, k1m2]
  instanceTypes := #[]
  staticTypes := #[]
  resolved := Array.replicate 27 none
  statics := none }

def pool2 : Array CpInfo := pool [(2, .class_ 4), (1, u "java/lang/Object"), (0, u "<init>"), (0, u "()V"), (8, .class_ 17), (1, u "com/example/homespun_functions/homespunfunctions/xml/XmlNames"), (1, u "(I)Z"), (23, u "isWhitespace"), (11, u "XML_NAMESPACE"), (0, u "Ljava/lang/String;")] 11

def k2m0 : Method := { name := "<init>", desc := "()V", sig := { parameters := [], returnType := none }, accessFlags := 2, code := none }
def k2c1 : Code := { maxStack := 2, maxLocals := 1, code := prog_79_method_6_code, exceptionTable := #[], attributes := #[] }
def k2m1 : Method := { name := "isWhitespace", desc := "(I)Z", sig := { parameters := [.int], returnType := some .boolean }, accessFlags := 9, code := some k2c1 }
/-- com/example/homespun_functions/homespunfunctions/xml/XmlNames -/
def k2 : Class := { plain "com/example/homespun_functions/homespunfunctions/xml/XmlNames" (some 0) with
  accessFlags := 49
  interfaces := #[]
  cf := some (fileOf pool2 15 #[] #[{ accessFlags := 2, nameIndex := 5, descriptorIndex := 6, attributes := #[] }, { accessFlags := 9, nameIndex := 43, descriptorIndex := 19, attributes := #[] }] 49 2 #[] #[{ accessFlags := 25, nameIndex := 55, descriptorIndex := 56, attributes := #[] }])
  fields := #[{ name := "XML_NAMESPACE", type := (.object "java/lang/String"), accessFlags := 25, slot := 0, constantValue := 0 }]
  methods := #[k2m0, k2m1]
  instanceTypes := #[]
  staticTypes := #[(.object "java/lang/String")]
  resolved := Array.replicate 68 none
  statics := none }

def pool3 : Array CpInfo := pool [(1, u "java/lang/Cloneable"), (0, .class_ 1), (0, u "java/lang/Object"), (0, .class_ 3)] 3

/-- java/lang/Cloneable -/
def k3 : Class := { plain "java/lang/Cloneable" (some 0) with
  accessFlags := 1537
  interfaces := #[]
  cf := some (fileOf pool3 2 #[] #[] 1537 4 #[] #[])
  fields := #[]
  methods := #[]
  instanceTypes := #[]
  staticTypes := #[]
  resolved := Array.replicate 8 none
  statics := none }

def pool4 : Array CpInfo := pool [(1, u "java/io/Serializable"), (0, .class_ 1), (0, u "java/lang/Object"), (0, .class_ 3)] 3

/-- java/io/Serializable -/
def k4 : Class := { plain "java/io/Serializable" (some 0) with
  accessFlags := 1537
  interfaces := #[]
  cf := some (fileOf pool4 2 #[] #[] 1537 4 #[] #[])
  fields := #[]
  methods := #[]
  instanceTypes := #[]
  staticTypes := #[]
  resolved := Array.replicate 8 none
  statics := none }

/-- the primitive byte -/
def k5 : Class := { plain "byte" none with kind := .primitive 'B', accessFlags := 0x411 }
/-- [B -/
def k6 : Class := { plain "[B" (some 0) with kind := .array 5 .byte, interfaces := #[3, 4], accessFlags := 1041 }

/-- the primitive int -/
def k7 : Class := { plain "int" none with kind := .primitive 'I', accessFlags := 0x411 }
/-- [I -/
def k8 : Class := { plain "[I" (some 0) with kind := .array 7 .int, interfaces := #[3, 4], accessFlags := 1041 }

def heap : Heap := #[]
def classes : Array Class := #[k0, k1, k2, k3, k4, k5, k6, k7, k8]
def interned : List (Array UInt16 × Addr) := []
def slotsUsed : Nat := 0
def theMethod : MethodId := ⟨1, 2⟩
def args0 : Array Value := #[.int 5]
def aboutOver (below : List Frame) : State where
  vm := { classes := classes, interned := interned.toArray }
  heap := heap
  slotsUsed := slotsUsed
  threads := #[{ frames := .invoking theMethod args0 :: below }]
def below0 : List Frame := [.native { method := ⟨0, 0⟩, args := #[] }]
def about1 : State := aboutOver below0
def p0 : Program := .bare "" "" ""
def e0 : Env := launch0.env 0 0 0
theorem w_frames : about1.frames = Frame.invoking theMethod args0 :: below0 := rfl
set_option maxRecDepth 65536 in
theorem w_args : argsFit about1.vm theMethod args0 = true := by decide +kernel
set_option maxRecDepth 65536 in
theorem w_heap : heapFits about1 = true := by decide +kernel
set_option maxRecDepth 65536 in
theorem w_runnable : about1.curStatus? = some .runnable := by decide +kernel
set_option maxRecDepth 65536 in
theorem w_alone : about1.alone = true := by decide +kernel
set_option maxRecDepth 65536 in
theorem w_named : about1.methodNamed? x = some theMethod := by decide +kernel
set_option maxRecDepth 65536 in
theorem w_hears : about1.hears theMethod below0 = true := by decide +kernel
set_option maxRecDepth 65536 in
theorem w_ripe : about1.ripe theMethod args0 below0 = true := by decide +kernel
theorem w_running : about1.status = .running := rfl
set_option maxRecDepth 65536 in
theorem w_room : about1.hasRoom e0.platform room_1 = true :=
  launch0.hasRoom_least _ room_1 (by decide +kernel) (by decide +kernel) (by decide +kernel) (by decide +kernel) (by decide +kernel) (by decide +kernel)
theorem allAtoms_all (ts : List Jvm.Cond) (a : Array Jvm.Value) (st : Jvm.State) : (allAtoms ts).before a st = ts.all (fun c => c.before a st) := by
  induction ts with
  | nil => rfl
  | cons c t ih =>
    show (Jvm.Cond.and c (allAtoms t)).before a st = _
    rw [Jvm.Cond.before_and, ih, List.all_cons]
def words1 : List Jvm.Cond := Jvm.Cond.code x code maxLocals ret :: tables_1
/-- a 'code' word, met by the world's own term for the bytes: nothing is compared byte by byte -/
theorem code_word {y : MethodName} {bytes : ByteArray} {mx : Nat} {rt : Option FieldType} {a : Array Value} {s : State} {m : MethodId} {meth : Method} {c : Code} (h1 : s.methodNamed? y = some m) (h2 : s.vm.method? m = some meth) (h3 : meth.code = some c) (h4 : c.code = bytes)
    (h5 : (c.maxLocals == mx && c.exceptionTable.isEmpty && decide (c.maxStack ≤ mostOperands) && decide (meth.sig.returnType = rt) && !meth.locks && decide (parseMethodDescriptor y.desc = some meth.sig)) = true) : (Jvm.Cond.code y bytes mx rt).before a s = true := by
  simp only [Bool.and_eq_true, beq_iff_eq, Bool.not_eq_true', decide_eq_true_eq] at h5
  obtain ⟨⟨⟨⟨⟨g1, g2⟩, g3⟩, g4⟩, g5⟩, g6⟩ := h5
  simp [Cond.before, Cond.holds, Cond.value, h1, h2, h3, h4, g1, g2, g3, g4, g5, g6]
def isCode : Jvm.Cond → Bool
  | .code _ _ _ _ => true
  | _ => false
theorem all_split {L : List Jvm.Cond} {P : Jvm.Cond → Bool} (h1 : L.all (fun c => isCode c || P c) = true) (h2 : ∀ c ∈ L.filter isCode, P c = true) : L.all P = true := by
  refine List.all_eq_true.mpr fun c hc => ?_
  have h := List.all_eq_true.mp h1 c hc
  rcases Bool.eq_false_or_eq_true (isCode c) with hi | hi
  · exact h2 c (List.mem_filter.mpr ⟨hc, hi⟩)
  · simpa [hi] using h
set_option maxRecDepth 65536 in
theorem w_c0 : (Jvm.Cond.code x code maxLocals ret).before args0 about1 = true := code_word (m := ⟨1, 2⟩) (meth := k1m2) (c := k1c2) (by decide +kernel) rfl rfl rfl (by decide +kernel)
set_option maxRecDepth 65536 in
theorem w_c1 : (Jvm.Cond.code ({ cls := "com/example/homespun_functions/homespunfunctions/xml/XmlNames", name := "isWhitespace", desc := "(I)Z" } : Jvm.MethodName) prog_79_method_6_code (1 : Nat) (Option.some Jvm.ClassFile.FieldType.boolean)).before args0 about1 = true := code_word (m := ⟨2, 1⟩) (meth := k2m1) (c := k2c1) (by decide +kernel) rfl rfl rfl (by decide +kernel)
set_option maxRecDepth 65536 in
theorem w_c2 : (Jvm.Cond.code ({ cls := "com/example/homespun_functions/homespunfunctions/xml/XmlNamesIsWhitespacePinLaw", name := "ref", desc := "(I)Z" } : Jvm.MethodName) method_2_code (1 : Nat) (Option.some Jvm.ClassFile.FieldType.boolean)).before args0 about1 = true := code_word (m := ⟨1, 1⟩) (meth := k1m1) (c := k1c1) (by decide +kernel) rfl rfl rfl (by decide +kernel)
def codes1 : List Jvm.Cond := [Jvm.Cond.code x code maxLocals ret, Jvm.Cond.code ({ cls := "com/example/homespun_functions/homespunfunctions/xml/XmlNames", name := "isWhitespace", desc := "(I)Z" } : Jvm.MethodName) prog_79_method_6_code (1 : Nat) (Option.some Jvm.ClassFile.FieldType.boolean), Jvm.Cond.code ({ cls := "com/example/homespun_functions/homespunfunctions/xml/XmlNamesIsWhitespacePinLaw", name := "ref", desc := "(I)Z" } : Jvm.MethodName) method_2_code (1 : Nat) (Option.some Jvm.ClassFile.FieldType.boolean)]
set_option maxRecDepth 65536 in
theorem codes_eq : words1.filter isCode = codes1 := rfl
theorem w_codes : ∀ c ∈ words1.filter isCode, c.before args0 about1 = true := by
  rw [codes_eq]
  intro c hc
  simp only [codes1, List.mem_cons, List.not_mem_nil, or_false] at hc
  rcases hc with rfl | rfl | rfl
  · exact w_c0
  · exact w_c1
  · exact w_c2
set_option maxRecDepth 65536 in
theorem w_t1 : words1.all (fun c => isCode c || c.before args0 about1) = true := by decide +kernel
theorem w_tables : (allAtoms (Jvm.Cond.code x code maxLocals ret :: tables_1)).before args0 about1 = true := by
  rw [allAtoms_all]
  show words1.all (fun c => c.before args0 about1) = true
  refine all_split ?_ w_codes
  rw [w_t1]
set_option maxRecDepth 65536 in
theorem w_case : (Jvm.Cond.and given_1 narrow_1).before args0 about1 = true := by decide +kernel
theorem w_applies : (headSpec (Jvm.Cond.code x code maxLocals ret :: tables_1) room_1).applies x e0.platform about1 = true :=
  (Spec.applies_iff w_frames).mpr ⟨w_running, w_runnable, w_alone, w_named, w_hears, w_ripe, w_room, w_tables⟩
theorem atStart : AtStart classFile x code maxLocals ret World_1 tables_1 room_1 Calls_1 rest_1 Pre_1 launch0 p0 e0 about1 theMethod args0 below0 :=
  ⟨lists_1, trivial, launch0.admits_env _ _ _, launch0.least_env, fairChoices_fair.cas, fairChoices_fair.clock, w_frames, w_args, w_heap, w_applies, trivial, trivial, w_case⟩
end start1
theorem witness_1 : WitnessClaimed_1 := ⟨start1.p0, start1.e0, start1.about1, start1.theMethod, start1.args0, start1.below0, start1.atStart⟩
end Jvm.Pilot.@@N@@
