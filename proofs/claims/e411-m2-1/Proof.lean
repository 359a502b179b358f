import JvmDerived
import JvmDerived.Pilot.@@N@@Statement
import JvmDerived.Pilot.@@N@@Code
set_option linter.unusedVariables false
set_option linter.unusedSimpArgs false
namespace Jvm.Pilot.@@N@@
open Jvm Jvm.ClassFile Sem Op Lib Jvm.Free Jvm.Stand Jvm.LawKit Jvm.RoadKit Bundle Jvm.Pilot.@@N@@.Jvm.D
/-- what a return of the int z asks of the frames below -/
abbrev own_Rt (e : Env) (T : State) (m : MethodId) (fs : List Frame) (w : Value) : Prop := ∀ (f : JFrame) (acts : List Action), f.method = m → f.locked = none → f.entered = [] → (doReturn e (T.setTop f) acts (some w)).1 = T.setFrames fs
theorem d1_0 : decode prog_10_method_3_code 0 = .ok (.iload_n 0, 1) := by decide +kernel
theorem d1_1 : decode prog_10_method_3_code 1 = .ok (.bipush 32, 2) := by decide +kernel
theorem d1_3 : decode prog_10_method_3_code 3 = .ok (.if_icmp .eq 21, 3) := by decide +kernel
theorem d1_6 : decode prog_10_method_3_code 6 = .ok (.iload_n 0, 1) := by decide +kernel
theorem d1_7 : decode prog_10_method_3_code 7 = .ok (.bipush 9, 2) := by decide +kernel
theorem d1_9 : decode prog_10_method_3_code 9 = .ok (.if_icmp .eq 15, 3) := by decide +kernel
theorem d1_12 : decode prog_10_method_3_code 12 = .ok (.iload_n 0, 1) := by decide +kernel
theorem d1_13 : decode prog_10_method_3_code 13 = .ok (.bipush 10, 2) := by decide +kernel
theorem d1_15 : decode prog_10_method_3_code 15 = .ok (.if_icmp .eq 9, 3) := by decide +kernel
theorem d1_18 : decode prog_10_method_3_code 18 = .ok (.iload_n 0, 1) := by decide +kernel
theorem d1_19 : decode prog_10_method_3_code 19 = .ok (.bipush 13, 2) := by decide +kernel
theorem d1_21 : decode prog_10_method_3_code 21 = .ok (.if_icmp .ne 7, 3) := by decide +kernel
theorem d1_24 : decode prog_10_method_3_code 24 = .ok (.iconst 1, 1) := by decide +kernel
theorem d1_25 : decode prog_10_method_3_code 25 = .ok (.goto 4, 3) := by decide +kernel
theorem d1_28 : decode prog_10_method_3_code 28 = .ok (.iconst 0, 1) := by decide +kernel
theorem d1_29 : decode prog_10_method_3_code 29 = .ok (.ireturn, 1) := by decide +kernel
theorem pn_1 : plainName "com/example/itinera/itinera/XmlChars" = true := by first | (simp [plainName, overriddenIn]; done) | decide +kernel
theorem ef_1 (m : MethodId) (x0 : Int32) : entryFrame m #[(.int x0)] 1 = (mkF m 0 #[.val (.int x0)] []) := by first | (simp [entryFrame, mkF, argsToLocals, Value.category]; done) | rfl
def f1_28 (v0 : Int32) : Int32 := (0 : Int32)
def f1_24 (v0 : Int32) : Int32 := (1 : Int32)
def f1_18 (v0 : Int32) : Int32 := if v0 = (13 : Int32) then f1_24 v0 else f1_28 v0
def f1_12 (v0 : Int32) : Int32 := if v0 = (10 : Int32) then f1_24 v0 else f1_18 v0
def f1_6 (v0 : Int32) : Int32 := if v0 = (9 : Int32) then f1_24 v0 else f1_12 v0
def f1_0 (v0 : Int32) : Int32 := if v0 = (32 : Int32) then f1_24 v0 else f1_6 v0
section Own1
variable {p : Program} {l : Launch} {e : Env} {R : Room} {s : State} {m : MethodId} {args : Array Value} {below : List Frame} {meth : Method} {c : Code} {T : State} {locs : List Loc} {cells slots : Nat} {Z : State} {a0 : Array Value}
theorem g1_28 (X : Stand p l e R s m args below meth c T locs cells slots) (hx : p.tables.exec = Jvm.exec) (hby : c.code = prog_10_method_3_code) (hret : meth.sig.returnType = some .boolean) (hZ : Z.Warmed39 s.vm) (hown : s.vm.findClass "com/example/itinera/itinera/XmlChars" = some m.cls) (hw : ∀ d ∈ tables_1, d.before a0 Z = true) (v0 : Int32) {fs : List Frame} (hl : own_Rt e T m fs (.int (f1_28 v0))) : Steps p.tables e below (T.setTop (mkF m 28 #[.val (.int v0)] [])) (T.setFrames fs) := by
  show Steps p.tables e below (T.setTop (mkF m 28 #[.val (.int v0)] [])) _
  refine XS.iconst X.here hx rfl (hb hby d1_28) ?_
  show Steps p.tables e below (T.setTop (mkF m 29 #[.val (.int v0)] [(.int (0 : Int32))])) _
  exact retN X hx (t := .boolean) hret (by simp) (hb hby d1_29) hl
theorem g1_24 (X : Stand p l e R s m args below meth c T locs cells slots) (hx : p.tables.exec = Jvm.exec) (hby : c.code = prog_10_method_3_code) (hret : meth.sig.returnType = some .boolean) (hZ : Z.Warmed39 s.vm) (hown : s.vm.findClass "com/example/itinera/itinera/XmlChars" = some m.cls) (hw : ∀ d ∈ tables_1, d.before a0 Z = true) (v0 : Int32) {fs : List Frame} (hl : own_Rt e T m fs (.int (f1_24 v0))) : Steps p.tables e below (T.setTop (mkF m 24 #[.val (.int v0)] [])) (T.setFrames fs) := by
  show Steps p.tables e below (T.setTop (mkF m 24 #[.val (.int v0)] [])) _
  refine XS.iconst X.here hx rfl (hb hby d1_24) ?_
  show Steps p.tables e below (T.setTop (mkF m 25 #[.val (.int v0)] [(.int (1 : Int32))])) _
  refine XS.goto X.here hx rfl (pc0 := 25) (pc' := 29) rfl (hb hby d1_25) (by decide) (by decide) ?_
  show Steps p.tables e below (T.setTop (mkF m 29 #[.val (.int v0)] [(.int (1 : Int32))])) _
  exact retN X hx (t := .boolean) hret (by simp) (hb hby d1_29) hl
theorem g1_18 (X : Stand p l e R s m args below meth c T locs cells slots) (hx : p.tables.exec = Jvm.exec) (hby : c.code = prog_10_method_3_code) (hret : meth.sig.returnType = some .boolean) (hZ : Z.Warmed39 s.vm) (hown : s.vm.findClass "com/example/itinera/itinera/XmlChars" = some m.cls) (hw : ∀ d ∈ tables_1, d.before a0 Z = true) (v0 : Int32) {fs : List Frame} (hl : own_Rt e T m fs (.int (f1_18 v0))) : Steps p.tables e below (T.setTop (mkF m 18 #[.val (.int v0)] [])) (T.setFrames fs) := by
  show Steps p.tables e below (T.setTop (mkF m 18 #[.val (.int v0)] [])) _
  refine XS.iloadN X.here hx rfl (hb hby d1_18) rfl ?_
  show Steps p.tables e below (T.setTop (mkF m 19 #[.val (.int v0)] [(.int v0)])) _
  refine XS.bipush X.here hx rfl (hb hby d1_19) ?_
  show Steps p.tables e below (T.setTop (mkF m 21 #[.val (.int v0)] [(.int (13 : Int32)), (.int v0)])) _
  by_cases hc : v0 = (13 : Int32)
  · rw [show f1_18 v0 = f1_24 v0 from if_pos hc] at hl
    refine XS.icmpNo X.here hx rfl (hb hby d1_21) rfl (teq hc).2 ?_
    exact g1_24 X hx hby hret hZ hown hw v0 hl
  · rw [show f1_18 v0 = f1_28 v0 from if_neg hc] at hl
    refine XS.icmpYes X.here hx rfl (pc0 := 21) (pc' := 28) rfl (hb hby d1_21) rfl (feq hc).2 (by decide) (by decide) ?_
    exact g1_28 X hx hby hret hZ hown hw v0 hl
theorem g1_12 (X : Stand p l e R s m args below meth c T locs cells slots) (hx : p.tables.exec = Jvm.exec) (hby : c.code = prog_10_method_3_code) (hret : meth.sig.returnType = some .boolean) (hZ : Z.Warmed39 s.vm) (hown : s.vm.findClass "com/example/itinera/itinera/XmlChars" = some m.cls) (hw : ∀ d ∈ tables_1, d.before a0 Z = true) (v0 : Int32) {fs : List Frame} (hl : own_Rt e T m fs (.int (f1_12 v0))) : Steps p.tables e below (T.setTop (mkF m 12 #[.val (.int v0)] [])) (T.setFrames fs) := by
  show Steps p.tables e below (T.setTop (mkF m 12 #[.val (.int v0)] [])) _
  refine XS.iloadN X.here hx rfl (hb hby d1_12) rfl ?_
  show Steps p.tables e below (T.setTop (mkF m 13 #[.val (.int v0)] [(.int v0)])) _
  refine XS.bipush X.here hx rfl (hb hby d1_13) ?_
  show Steps p.tables e below (T.setTop (mkF m 15 #[.val (.int v0)] [(.int (10 : Int32)), (.int v0)])) _
  by_cases hc : v0 = (10 : Int32)
  · rw [show f1_12 v0 = f1_24 v0 from if_pos hc] at hl
    refine XS.icmpYes X.here hx rfl (pc0 := 15) (pc' := 24) rfl (hb hby d1_15) rfl (teq hc).1 (by decide) (by decide) ?_
    exact g1_24 X hx hby hret hZ hown hw v0 hl
  · rw [show f1_12 v0 = f1_18 v0 from if_neg hc] at hl
    refine XS.icmpNo X.here hx rfl (hb hby d1_15) rfl (feq hc).1 ?_
    exact g1_18 X hx hby hret hZ hown hw v0 hl
theorem g1_6 (X : Stand p l e R s m args below meth c T locs cells slots) (hx : p.tables.exec = Jvm.exec) (hby : c.code = prog_10_method_3_code) (hret : meth.sig.returnType = some .boolean) (hZ : Z.Warmed39 s.vm) (hown : s.vm.findClass "com/example/itinera/itinera/XmlChars" = some m.cls) (hw : ∀ d ∈ tables_1, d.before a0 Z = true) (v0 : Int32) {fs : List Frame} (hl : own_Rt e T m fs (.int (f1_6 v0))) : Steps p.tables e below (T.setTop (mkF m 6 #[.val (.int v0)] [])) (T.setFrames fs) := by
  show Steps p.tables e below (T.setTop (mkF m 6 #[.val (.int v0)] [])) _
  refine XS.iloadN X.here hx rfl (hb hby d1_6) rfl ?_
  show Steps p.tables e below (T.setTop (mkF m 7 #[.val (.int v0)] [(.int v0)])) _
  refine XS.bipush X.here hx rfl (hb hby d1_7) ?_
  show Steps p.tables e below (T.setTop (mkF m 9 #[.val (.int v0)] [(.int (9 : Int32)), (.int v0)])) _
  by_cases hc : v0 = (9 : Int32)
  · rw [show f1_6 v0 = f1_24 v0 from if_pos hc] at hl
    refine XS.icmpYes X.here hx rfl (pc0 := 9) (pc' := 24) rfl (hb hby d1_9) rfl (teq hc).1 (by decide) (by decide) ?_
    exact g1_24 X hx hby hret hZ hown hw v0 hl
  · rw [show f1_6 v0 = f1_12 v0 from if_neg hc] at hl
    refine XS.icmpNo X.here hx rfl (hb hby d1_9) rfl (feq hc).1 ?_
    exact g1_12 X hx hby hret hZ hown hw v0 hl
theorem g1_0 (X : Stand p l e R s m args below meth c T locs cells slots) (hx : p.tables.exec = Jvm.exec) (hby : c.code = prog_10_method_3_code) (hret : meth.sig.returnType = some .boolean) (hZ : Z.Warmed39 s.vm) (hown : s.vm.findClass "com/example/itinera/itinera/XmlChars" = some m.cls) (hw : ∀ d ∈ tables_1, d.before a0 Z = true) (v0 : Int32) {fs : List Frame} (hl : own_Rt e T m fs (.int (f1_0 v0))) : Steps p.tables e below (T.setTop (mkF m 0 #[.val (.int v0)] [])) (T.setFrames fs) := by
  show Steps p.tables e below (T.setTop (mkF m 0 #[.val (.int v0)] [])) _
  refine XS.iloadN X.here hx rfl (hb hby d1_0) rfl ?_
  show Steps p.tables e below (T.setTop (mkF m 1 #[.val (.int v0)] [(.int v0)])) _
  refine XS.bipush X.here hx rfl (hb hby d1_1) ?_
  show Steps p.tables e below (T.setTop (mkF m 3 #[.val (.int v0)] [(.int (32 : Int32)), (.int v0)])) _
  by_cases hc : v0 = (32 : Int32)
  · rw [show f1_0 v0 = f1_24 v0 from if_pos hc] at hl
    refine XS.icmpYes X.here hx rfl (pc0 := 3) (pc' := 24) rfl (hb hby d1_3) rfl (teq hc).1 (by decide) (by decide) ?_
    exact g1_24 X hx hby hret hZ hown hw v0 hl
  · rw [show f1_0 v0 = f1_6 v0 from if_neg hc] at hl
    refine XS.icmpNo X.here hx rfl (hb hby d1_3) rfl (feq hc).1 ?_
    exact g1_6 X hx hby hret hZ hown hw v0 hl
end Own1
def Q1 (v0 : Int32) (h0 : Heap) (n0 : Nat) (v : Option Value) (h : Heap) (L : List Loc) : Prop := v = some (.int (f1_0 v0)) ∧ Fr n0 L ∧ h = h0
set_option maxRecDepth 65536 in
set_option maxHeartbeats 40000000 in
theorem rm1 (l : Launch) (Z : State) (a0 : Array Value) (hw : ∀ d ∈ tables_1, d.before a0 Z = true) (ws : List Jvm.Cond) (v0 : Int32) (h0 : Heap) (n0 : Nat) (Z0 : n0 ≤ h0.size) :
    MetFree l (⟨"com/example/itinera/itinera/XmlChars", "isWhitespace", "(I)Z"⟩ : MethodName) (head1 (Jvm.Cond.code (⟨"com/example/itinera/itinera/XmlChars", "isWhitespace", "(I)Z"⟩ : MethodName) prog_10_method_3_code 1 (some .boolean) :: ws) ({ frames := 0, cells := 0, slots := 0, locals := 0 } : Room)) (fun a U => a = #[(.int v0)] ∧ Z.Warmed39 U.vm ∧ U.heap = h0) (fun _ _ _ _ _ => True) (fun _ U o U' => ∃ v L, o = .returned v ∧ Q1 v0 h0 n0 v U'.heap L ∧ FrameEnd U o U' L ({ frames := 0, cells := 0, slots := 0, locals := 0 } : Room).cells ({ frames := 0, cells := 0, slots := 0, locals := 0 } : Room).slots) := by
  refine MetFree.of_bodySF (plainFor_of_name pn_1) hisR ?_
  intro p e s m args below meth c s₁ Bd hml0 hP hK
  obtain ⟨rfl, hZ, hh⟩ := hP
  have hx := Bd.exec
  have hby := Bd.bytes
  have hown : s.vm.findClass "com/example/itinera/itinera/XmlChars" = some m.cls := findClass_of_methodNamed Bd.named
  have X0 : Stand p l e ({ frames := 0, cells := 0, slots := 0, locals := 0 } : Room) s m #[(.int v0)] below meth c s₁ [] 0 0 := Stand.of_body Bd
  have e0 : s₁.heap = h0 := by rw [← hh, Bd.state]; rfl
  have N0 := Fr.nil n0
  have pre0 : ∀ t, Steps p.tables e below (s₁.setTop (mkF m 0 #[.val (.int v0)] [])) t → Steps p.tables e below (s₁.setTop (entryFrame m #[(.int v0)] 1)) t := fun t k => castTop (ef_1 m v0) k
  obtain ⟨fs, hr, hrun, hended, hW, hsame⟩ := X0.leave (v := some (.int (f1_0 v0))) (fun h => by rw [Bd.returns] at h; cases h)
  refine ⟨_, _, pre0 _ ?_, hrun, hended, _, _, rfl, ?_, ⟨_, rfl⟩, hW, hsame.mono (by decide) (by decide)⟩
  · exact g1_0 X0 hx hby Bd.returns hZ hown hw v0 hr
  · show Q1 v0 h0 n0 _ s₁.heap _
    rw [e0]
    exact ⟨rfl, N0, rfl⟩
theorem pd_1 : parseMethodDescriptor "(I)Z" = some ⟨[.int], some .boolean⟩ := by decide +kernel
theorem d2_0 : decode method_2_code 0 = .ok (.iload_n 0, 1) := by decide +kernel
theorem d2_1 : decode method_2_code 1 = .ok (.ifCond .lt 9, 3) := by decide +kernel
theorem d2_4 : decode method_2_code 4 = .ok (.iload_n 0, 1) := by decide +kernel
theorem d2_5 : decode method_2_code 5 = .ok (.bipush 64, 2) := by decide +kernel
theorem d2_7 : decode method_2_code 7 = .ok (.if_icmp .lt 5, 3) := by decide +kernel
theorem d2_10 : decode method_2_code 10 = .ok (.iconst 0, 1) := by decide +kernel
theorem d2_11 : decode method_2_code 11 = .ok (.ireturn, 1) := by decide +kernel
theorem d2_12 : decode method_2_code 12 = .ok (.ldc2_w 9, 3) := by decide +kernel
theorem d2_15 : decode method_2_code 15 = .ok (.iload_n 0, 1) := by decide +kernel
theorem d2_16 : decode method_2_code 16 = .ok (.lushr, 1) := by decide +kernel
theorem d2_17 : decode method_2_code 17 = .ok (.lconst 1, 1) := by decide +kernel
theorem d2_18 : decode method_2_code 18 = .ok (.land, 1) := by decide +kernel
theorem d2_19 : decode method_2_code 19 = .ok (.lconst 0, 1) := by decide +kernel
theorem d2_20 : decode method_2_code 20 = .ok (.lcmp, 1) := by decide +kernel
theorem d2_21 : decode method_2_code 21 = .ok (.ifCond .eq 7, 3) := by decide +kernel
theorem d2_24 : decode method_2_code 24 = .ok (.iconst 1, 1) := by decide +kernel
theorem d2_25 : decode method_2_code 25 = .ok (.goto 4, 3) := by decide +kernel
theorem d2_28 : decode method_2_code 28 = .ok (.iconst 0, 1) := by decide +kernel
theorem d2_29 : decode method_2_code 29 = .ok (.ireturn, 1) := by decide +kernel
theorem pn_2 : plainName "com/example/itinera/itinera/XmlCharsIsWhitespacePinLaw" = true := by first | (simp [plainName, overriddenIn]; done) | decide +kernel
theorem ef_2 (m : MethodId) (x0 : Int32) : entryFrame m #[(.int x0)] 1 = (mkF m 0 #[.val (.int x0)] []) := by first | (simp [entryFrame, mkF, argsToLocals, Value.category]; done) | rfl
def f2_28 (v0 : Int32) : Int32 := (0 : Int32)
def f2_24 (v0 : Int32) : Int32 := (1 : Int32)
def f2_12 (v0 : Int32) : Int32 := if (XT.cmpL ((XT.ushrL (4294977024 : Int64) v0) &&& (1 : Int64)) (0 : Int64)) = (0 : Int32) then f2_28 v0 else f2_24 v0
def f2_10 (v0 : Int32) : Int32 := (0 : Int32)
def f2_4 (v0 : Int32) : Int32 := if v0 < (64 : Int32) then f2_12 v0 else f2_10 v0
def f2_0 (v0 : Int32) : Int32 := if v0 < (0 : Int32) then f2_10 v0 else f2_4 v0
section Own2
variable {p : Program} {l : Launch} {e : Env} {R : Room} {s : State} {m : MethodId} {args : Array Value} {below : List Frame} {meth : Method} {c : Code} {T : State} {locs : List Loc} {cells slots : Nat} {Z : State} {a0 : Array Value}
theorem g2_28 (X : Stand p l e R s m args below meth c T locs cells slots) (hx : p.tables.exec = Jvm.exec) (hby : c.code = method_2_code) (hret : meth.sig.returnType = some .boolean) (hZ : Z.Warmed39 s.vm) (hown : s.vm.findClass "com/example/itinera/itinera/XmlCharsIsWhitespacePinLaw" = some m.cls) (hw : ∀ d ∈ tables_1, d.before a0 Z = true) (v0 : Int32) {fs : List Frame} (hl : own_Rt e T m fs (.int (f2_28 v0))) : Steps p.tables e below (T.setTop (mkF m 28 #[.val (.int v0)] [])) (T.setFrames fs) := by
  show Steps p.tables e below (T.setTop (mkF m 28 #[.val (.int v0)] [])) _
  refine XS.iconst X.here hx rfl (hb hby d2_28) ?_
  show Steps p.tables e below (T.setTop (mkF m 29 #[.val (.int v0)] [(.int (0 : Int32))])) _
  exact retN X hx (t := .boolean) hret (by simp) (hb hby d2_29) hl
theorem g2_24 (X : Stand p l e R s m args below meth c T locs cells slots) (hx : p.tables.exec = Jvm.exec) (hby : c.code = method_2_code) (hret : meth.sig.returnType = some .boolean) (hZ : Z.Warmed39 s.vm) (hown : s.vm.findClass "com/example/itinera/itinera/XmlCharsIsWhitespacePinLaw" = some m.cls) (hw : ∀ d ∈ tables_1, d.before a0 Z = true) (v0 : Int32) {fs : List Frame} (hl : own_Rt e T m fs (.int (f2_24 v0))) : Steps p.tables e below (T.setTop (mkF m 24 #[.val (.int v0)] [])) (T.setFrames fs) := by
  show Steps p.tables e below (T.setTop (mkF m 24 #[.val (.int v0)] [])) _
  refine XS.iconst X.here hx rfl (hb hby d2_24) ?_
  show Steps p.tables e below (T.setTop (mkF m 25 #[.val (.int v0)] [(.int (1 : Int32))])) _
  refine XS.goto X.here hx rfl (pc0 := 25) (pc' := 29) rfl (hb hby d2_25) (by decide) (by decide) ?_
  show Steps p.tables e below (T.setTop (mkF m 29 #[.val (.int v0)] [(.int (1 : Int32))])) _
  exact retN X hx (t := .boolean) hret (by simp) (hb hby d2_29) hl
theorem g2_12 (X : Stand p l e R s m args below meth c T locs cells slots) (hx : p.tables.exec = Jvm.exec) (hby : c.code = method_2_code) (hret : meth.sig.returnType = some .boolean) (hZ : Z.Warmed39 s.vm) (hown : s.vm.findClass "com/example/itinera/itinera/XmlCharsIsWhitespacePinLaw" = some m.cls) (hw : ∀ d ∈ tables_1, d.before a0 Z = true) (v0 : Int32) {fs : List Frame} (hl : own_Rt e T m fs (.int (f2_12 v0))) : Steps p.tables e below (T.setTop (mkF m 12 #[.val (.int v0)] [])) (T.setFrames fs) := by
  show Steps p.tables e below (T.setTop (mkF m 12 #[.val (.int v0)] [])) _
  refine X.ldc2J hx hown (mv hZ (hw _ (List.mem_of_getElem? (i := 8) rfl))) rfl (hb hby d2_12) ?_
  show Steps p.tables e below (T.setTop (mkF m 15 #[.val (.int v0)] [(.long (4294977024 : Int64))])) _
  refine XS.iloadN X.here hx rfl (hb hby d2_15) rfl ?_
  show Steps p.tables e below (T.setTop (mkF m 16 #[.val (.int v0)] [(.int v0), (.long (4294977024 : Int64))])) _
  refine XT.lushr X.here hx rfl (hb hby d2_16) rfl ?_
  show Steps p.tables e below (T.setTop (mkF m 17 #[.val (.int v0)] [(.long (XT.ushrL (4294977024 : Int64) v0))])) _
  refine XT.lconst X.here hx rfl (hb hby d2_17) ?_
  show Steps p.tables e below (T.setTop (mkF m 18 #[.val (.int v0)] [(.long (1 : Int64)), (.long (XT.ushrL (4294977024 : Int64) v0))])) _
  refine XT.land X.here hx rfl (hb hby d2_18) rfl ?_
  show Steps p.tables e below (T.setTop (mkF m 19 #[.val (.int v0)] [(.long ((XT.ushrL (4294977024 : Int64) v0) &&& (1 : Int64)))])) _
  refine XT.lconst X.here hx rfl (hb hby d2_19) ?_
  show Steps p.tables e below (T.setTop (mkF m 20 #[.val (.int v0)] [(.long (0 : Int64)), (.long ((XT.ushrL (4294977024 : Int64) v0) &&& (1 : Int64)))])) _
  refine XT.lcmp X.here hx rfl (hb hby d2_20) rfl ?_
  show Steps p.tables e below (T.setTop (mkF m 21 #[.val (.int v0)] [(.int (XT.cmpL ((XT.ushrL (4294977024 : Int64) v0) &&& (1 : Int64)) (0 : Int64)))])) _
  by_cases hc : (XT.cmpL ((XT.ushrL (4294977024 : Int64) v0) &&& (1 : Int64)) (0 : Int64)) = (0 : Int32)
  · rw [show f2_12 v0 = f2_28 v0 from if_pos hc] at hl
    refine XS.ifYes X.here hx rfl (pc0 := 21) (pc' := 28) rfl (hb hby d2_21) rfl ((if0 _ _).trans (teq hc).1) (by decide) (by decide) ?_
    exact g2_28 X hx hby hret hZ hown hw v0 hl
  · rw [show f2_12 v0 = f2_24 v0 from if_neg hc] at hl
    refine XS.ifNo X.here hx rfl (hb hby d2_21) rfl ((if0 _ _).trans (feq hc).1) ?_
    exact g2_24 X hx hby hret hZ hown hw v0 hl
theorem g2_10 (X : Stand p l e R s m args below meth c T locs cells slots) (hx : p.tables.exec = Jvm.exec) (hby : c.code = method_2_code) (hret : meth.sig.returnType = some .boolean) (hZ : Z.Warmed39 s.vm) (hown : s.vm.findClass "com/example/itinera/itinera/XmlCharsIsWhitespacePinLaw" = some m.cls) (hw : ∀ d ∈ tables_1, d.before a0 Z = true) (v0 : Int32) {fs : List Frame} (hl : own_Rt e T m fs (.int (f2_10 v0))) : Steps p.tables e below (T.setTop (mkF m 10 #[.val (.int v0)] [])) (T.setFrames fs) := by
  show Steps p.tables e below (T.setTop (mkF m 10 #[.val (.int v0)] [])) _
  refine XS.iconst X.here hx rfl (hb hby d2_10) ?_
  show Steps p.tables e below (T.setTop (mkF m 11 #[.val (.int v0)] [(.int (0 : Int32))])) _
  exact retN X hx (t := .boolean) hret (by simp) (hb hby d2_11) hl
theorem g2_4 (X : Stand p l e R s m args below meth c T locs cells slots) (hx : p.tables.exec = Jvm.exec) (hby : c.code = method_2_code) (hret : meth.sig.returnType = some .boolean) (hZ : Z.Warmed39 s.vm) (hown : s.vm.findClass "com/example/itinera/itinera/XmlCharsIsWhitespacePinLaw" = some m.cls) (hw : ∀ d ∈ tables_1, d.before a0 Z = true) (v0 : Int32) {fs : List Frame} (hl : own_Rt e T m fs (.int (f2_4 v0))) : Steps p.tables e below (T.setTop (mkF m 4 #[.val (.int v0)] [])) (T.setFrames fs) := by
  show Steps p.tables e below (T.setTop (mkF m 4 #[.val (.int v0)] [])) _
  refine XS.iloadN X.here hx rfl (hb hby d2_4) rfl ?_
  show Steps p.tables e below (T.setTop (mkF m 5 #[.val (.int v0)] [(.int v0)])) _
  refine XS.bipush X.here hx rfl (hb hby d2_5) ?_
  show Steps p.tables e below (T.setTop (mkF m 7 #[.val (.int v0)] [(.int (64 : Int32)), (.int v0)])) _
  by_cases hc : v0 < (64 : Int32)
  · rw [show f2_4 v0 = f2_12 v0 from if_pos hc] at hl
    refine XS.icmpYes X.here hx rfl (pc0 := 7) (pc' := 12) rfl (hb hby d2_7) rfl (tlt hc).1 (by decide) (by decide) ?_
    exact g2_12 X hx hby hret hZ hown hw v0 hl
  · rw [show f2_4 v0 = f2_10 v0 from if_neg hc] at hl
    refine XS.icmpNo X.here hx rfl (hb hby d2_7) rfl (flt hc).1 ?_
    exact g2_10 X hx hby hret hZ hown hw v0 hl
theorem g2_0 (X : Stand p l e R s m args below meth c T locs cells slots) (hx : p.tables.exec = Jvm.exec) (hby : c.code = method_2_code) (hret : meth.sig.returnType = some .boolean) (hZ : Z.Warmed39 s.vm) (hown : s.vm.findClass "com/example/itinera/itinera/XmlCharsIsWhitespacePinLaw" = some m.cls) (hw : ∀ d ∈ tables_1, d.before a0 Z = true) (v0 : Int32) {fs : List Frame} (hl : own_Rt e T m fs (.int (f2_0 v0))) : Steps p.tables e below (T.setTop (mkF m 0 #[.val (.int v0)] [])) (T.setFrames fs) := by
  show Steps p.tables e below (T.setTop (mkF m 0 #[.val (.int v0)] [])) _
  refine XS.iloadN X.here hx rfl (hb hby d2_0) rfl ?_
  show Steps p.tables e below (T.setTop (mkF m 1 #[.val (.int v0)] [(.int v0)])) _
  by_cases hc : v0 < (0 : Int32)
  · rw [show f2_0 v0 = f2_10 v0 from if_pos hc] at hl
    refine XS.ifYes X.here hx rfl (pc0 := 1) (pc' := 10) rfl (hb hby d2_1) rfl ((if0 _ _).trans (tlt hc).1) (by decide) (by decide) ?_
    exact g2_10 X hx hby hret hZ hown hw v0 hl
  · rw [show f2_0 v0 = f2_4 v0 from if_neg hc] at hl
    refine XS.ifNo X.here hx rfl (hb hby d2_1) rfl ((if0 _ _).trans (flt hc).1) ?_
    exact g2_4 X hx hby hret hZ hown hw v0 hl
end Own2
def Q2 (v0 : Int32) (h0 : Heap) (n0 : Nat) (v : Option Value) (h : Heap) (L : List Loc) : Prop := v = some (.int (f2_0 v0)) ∧ Fr n0 L ∧ h = h0
set_option maxRecDepth 65536 in
set_option maxHeartbeats 40000000 in
theorem rm2 (l : Launch) (Z : State) (a0 : Array Value) (hw : ∀ d ∈ tables_1, d.before a0 Z = true) (ws : List Jvm.Cond) (v0 : Int32) (h0 : Heap) (n0 : Nat) (Z0 : n0 ≤ h0.size) :
    MetFree l (⟨"com/example/itinera/itinera/XmlCharsIsWhitespacePinLaw", "reference", "(I)Z"⟩ : MethodName) (head1 (Jvm.Cond.code (⟨"com/example/itinera/itinera/XmlCharsIsWhitespacePinLaw", "reference", "(I)Z"⟩ : MethodName) method_2_code 1 (some .boolean) :: ws) ({ frames := 0, cells := 0, slots := 0, locals := 0 } : Room)) (fun a U => a = #[(.int v0)] ∧ Z.Warmed39 U.vm ∧ U.heap = h0) (fun _ _ _ _ _ => True) (fun _ U o U' => ∃ v L, o = .returned v ∧ Q2 v0 h0 n0 v U'.heap L ∧ FrameEnd U o U' L ({ frames := 0, cells := 0, slots := 0, locals := 0 } : Room).cells ({ frames := 0, cells := 0, slots := 0, locals := 0 } : Room).slots) := by
  refine MetFree.of_bodySF (plainFor_of_name pn_2) hisR ?_
  intro p e s m args below meth c s₁ Bd hml0 hP hK
  obtain ⟨rfl, hZ, hh⟩ := hP
  have hx := Bd.exec
  have hby := Bd.bytes
  have hown : s.vm.findClass "com/example/itinera/itinera/XmlCharsIsWhitespacePinLaw" = some m.cls := findClass_of_methodNamed Bd.named
  have X0 : Stand p l e ({ frames := 0, cells := 0, slots := 0, locals := 0 } : Room) s m #[(.int v0)] below meth c s₁ [] 0 0 := Stand.of_body Bd
  have e0 : s₁.heap = h0 := by rw [← hh, Bd.state]; rfl
  have N0 := Fr.nil n0
  have pre0 : ∀ t, Steps p.tables e below (s₁.setTop (mkF m 0 #[.val (.int v0)] [])) t → Steps p.tables e below (s₁.setTop (entryFrame m #[(.int v0)] 1)) t := fun t k => castTop (ef_2 m v0) k
  obtain ⟨fs, hr, hrun, hended, hW, hsame⟩ := X0.leave (v := some (.int (f2_0 v0))) (fun h => by rw [Bd.returns] at h; cases h)
  refine ⟨_, _, pre0 _ ?_, hrun, hended, _, _, rfl, ?_, ⟨_, rfl⟩, hW, hsame.mono (by decide) (by decide)⟩
  · exact g2_0 X0 hx hby Bd.returns hZ hown hw v0 hr
  · show Q2 v0 h0 n0 _ s₁.heap _
    rw [e0]
    exact ⟨rfl, N0, rfl⟩
theorem pd_2 : parseMethodDescriptor "(I)Z" = some ⟨[.int], some .boolean⟩ := by decide +kernel
theorem own_small : ∀ k : Fin 64, f1_0 (Int32.ofNat k.val) = f2_0 (Int32.ofNat k.val) := by decide +kernel
theorem own_ofNat (v : Int32) (h : 0 ≤ v.toInt) : Int32.ofNat v.toInt.toNat = v := by
  apply Int32.toInt_inj.mp
  rw [Int32.toInt_ofNat_of_lt (by have := v.toInt_lt; omega)]
  omega
theorem own_law (v : Int32) : f1_0 v = f2_0 v := by
  by_cases h : 0 ≤ v.toInt
  · by_cases hv : v.toInt < 64
    · have := own_small ⟨v.toInt.toNat, by omega⟩
      simpa only [own_ofNat v h] using this
    · have n (k : Int32) (hk : k.toInt < 64) : ¬ v = k := fun q => by subst q; exact hv hk
      rw [show f2_0 v = f2_4 v from if_neg (fun q => absurd (Int32.lt_iff_toInt_lt.mp q) (show ¬ v.toInt < 0 by omega)), show f2_4 v = f2_10 v from if_neg (fun q => hv (Int32.lt_iff_toInt_lt.mp q)), show f1_0 v = f1_6 v from if_neg (n 32 (by decide)), show f1_6 v = f1_12 v from if_neg (n 9 (by decide)), show f1_12 v = f1_18 v from if_neg (n 10 (by decide)), show f1_18 v = f1_28 v from if_neg (n 13 (by decide))]
      rfl
  · have n (k : Int32) (hk : 0 ≤ k.toInt) : ¬ v = k := fun q => by subst q; exact h hk
    rw [show f2_0 v = f2_10 v from if_pos (Int32.lt_iff_toInt_lt.mpr (show v.toInt < 0 by omega)), show f1_0 v = f1_6 v from if_neg (n 32 (by decide)), show f1_6 v = f1_12 v from if_neg (n 9 (by decide)), show f1_12 v = f1_18 v from if_neg (n 10 (by decide)), show f1_18 v = f1_28 v from if_neg (n 13 (by decide))]
    rfl
theorem pn_0 : plainName "com/example/itinera/itinera/XmlCharsIsWhitespacePinLaw" = true := by first | (simp [plainName, overriddenIn]; done) | decide +kernel
theorem ef_0 (m : MethodId) (x0 : Int32) (x1 : Int32) : entryFrame m #[(.int x0), (.int x1)] maxLocals = (mkF m 0 #[.val (.int x0), .val (.int x1), .unset, .unset, .unset] []) := by first | (simp [entryFrame, mkF, argsToLocals, Value.category, maxLocals]; done) | rfl
def Q0 (n0 : Nat) (v : Option Value) (L : List Loc) : Prop := v = some (.int (1 : Int32)) ∧ Fr n0 L
set_option maxRecDepth 65536 in
set_option maxHeartbeats 40000000 in
theorem rm0 (l : Launch) (Z : State) (a0 : Array Value) (hw : ∀ d ∈ tables_1, d.before a0 Z = true) (ws : List Jvm.Cond) (v0 : Int32) (v1 : Int32) (h0 : Heap) (n0 : Nat) (Z0 : n0 ≤ h0.size) :
    MetFree l x (head1 (Jvm.Cond.code x code maxLocals ret :: ws) room_1) (fun a U => a = #[(.int v0), (.int v1)] ∧ Z.Warmed39 U.vm ∧ U.heap = h0) (fun _ _ _ _ _ => True) (fun _ U o U' => ∃ v L, o = .returned v ∧ Q0 n0 v L ∧ FrameEnd U o U' L room_1.cells room_1.slots) := by
  refine MetFree.of_bodySF (plainFor_of_name pn_0) hisR ?_
  intro p e s m args below meth c s₁ Bd hml0 hP hK
  obtain ⟨rfl, hZ, hh⟩ := hP
  have hx := Bd.exec
  have hby := Bd.bytes
  have hml : c.maxLocals = 5 := hml0
  have hown : s.vm.findClass "com/example/itinera/itinera/XmlCharsIsWhitespacePinLaw" = some m.cls := findClass_of_methodNamed Bd.named
  have X0 : Stand p l e room_1 s m #[(.int v0), (.int v1)] below meth c s₁ [] 0 0 := Stand.of_body Bd
  have e0 : s₁.heap = h0 := by rw [← hh, Bd.state]; rfl
  have N0 := Fr.nil n0
  have pre0 : ∀ t, Steps p.tables e below (s₁.setTop (mkF m 0 #[.val (.int v0), .val (.int v1), .unset, .unset, .unset] [])) t → Steps p.tables e below (s₁.setTop (entryFrame m #[(.int v0), (.int v1)] maxLocals)) t := fun t k => castTop (ef_0 m v0 v1) k
  obtain ⟨cc, sg1⟩ : ∃ cc : Int32, ∀ t, Steps p.tables e below (s₁.setTop (mkF m 62 #[.val (.int v0), .val (.int v1), .val (.int (v1 &&& (3 : Int32))), .val (.int (v1 >>> ((2 : Int32) &&& 31))), .val (.int cc)] [])) t → Steps p.tables e below (s₁.setTop (mkF m 0 #[.val (.int v0), .val (.int v1), .unset, .unset, .unset] [])) t := by
    by_cases hc9 : (v1 &&& (3 : Int32)) = (0 : Int32)
    · refine ⟨v0, fun t k => ?_⟩
      show Steps p.tables e below (s₁.setTop (mkF m 0 #[.val (.int v0), .val (.int v1), .unset, .unset, .unset] [])) _
      refine XS.iloadN X0.here hx rfl (hb hby at_0) rfl ?_
      show Steps p.tables e below (s₁.setTop (mkF m 1 #[.val (.int v0), .val (.int v1), .unset, .unset, .unset] [(.int v1)])) _
      refine XS.iconst X0.here hx rfl (hb hby at_1) ?_
      show Steps p.tables e below (s₁.setTop (mkF m 2 #[.val (.int v0), .val (.int v1), .unset, .unset, .unset] [(.int (3 : Int32)), (.int v1)])) _
      refine XS.iand X0.here hx rfl (hb hby at_2) rfl ?_
      show Steps p.tables e below (s₁.setTop (mkF m 3 #[.val (.int v0), .val (.int v1), .unset, .unset, .unset] [(.int (v1 &&& (3 : Int32)))])) _
      refine XS.istoreN X0.here hx rfl (hb hby at_3) rfl (l' := #[.val (.int v0), .val (.int v1), .val (.int (v1 &&& (3 : Int32))), .unset, .unset]) rfl ?_
      show Steps p.tables e below (s₁.setTop (mkF m 4 #[.val (.int v0), .val (.int v1), .val (.int (v1 &&& (3 : Int32))), .unset, .unset] [])) _
      refine XS.iloadN X0.here hx rfl (hb hby at_4) rfl ?_
      show Steps p.tables e below (s₁.setTop (mkF m 5 #[.val (.int v0), .val (.int v1), .val (.int (v1 &&& (3 : Int32))), .unset, .unset] [(.int v1)])) _
      refine XS.iconst X0.here hx rfl (hb hby at_5) ?_
      show Steps p.tables e below (s₁.setTop (mkF m 6 #[.val (.int v0), .val (.int v1), .val (.int (v1 &&& (3 : Int32))), .unset, .unset] [(.int (2 : Int32)), (.int v1)])) _
      refine XT.ishr X0.here hx rfl (hb hby at_6) rfl ?_
      show Steps p.tables e below (s₁.setTop (mkF m 7 #[.val (.int v0), .val (.int v1), .val (.int (v1 &&& (3 : Int32))), .unset, .unset] [(.int (v1 >>> ((2 : Int32) &&& 31)))])) _
      refine XS.istoreN X0.here hx rfl (hb hby at_7) rfl (l' := #[.val (.int v0), .val (.int v1), .val (.int (v1 &&& (3 : Int32))), .val (.int (v1 >>> ((2 : Int32) &&& 31))), .unset]) rfl ?_
      show Steps p.tables e below (s₁.setTop (mkF m 8 #[.val (.int v0), .val (.int v1), .val (.int (v1 &&& (3 : Int32))), .val (.int (v1 >>> ((2 : Int32) &&& 31))), .unset] [])) _
      refine XS.iloadN X0.here hx rfl (hb hby at_8) rfl ?_
      show Steps p.tables e below (s₁.setTop (mkF m 9 #[.val (.int v0), .val (.int v1), .val (.int (v1 &&& (3 : Int32))), .val (.int (v1 >>> ((2 : Int32) &&& 31))), .unset] [(.int (v1 &&& (3 : Int32)))])) _
      refine XS.ifNo X0.here hx rfl (hb hby at_9) rfl ((if0 _ _).trans (teq hc9).2) ?_
      show Steps p.tables e below (s₁.setTop (mkF m 12 #[.val (.int v0), .val (.int v1), .val (.int (v1 &&& (3 : Int32))), .val (.int (v1 >>> ((2 : Int32) &&& 31))), .unset] [])) _
      refine XS.iloadN X0.here hx rfl (hb hby at_12) rfl ?_
      show Steps p.tables e below (s₁.setTop (mkF m 13 #[.val (.int v0), .val (.int v1), .val (.int (v1 &&& (3 : Int32))), .val (.int (v1 >>> ((2 : Int32) &&& 31))), .unset] [(.int v0)])) _
      refine XS.istore X0.here hx rfl (hb hby at_13) rfl (l' := #[.val (.int v0), .val (.int v1), .val (.int (v1 &&& (3 : Int32))), .val (.int (v1 >>> ((2 : Int32) &&& 31))), .val (.int v0)]) rfl ?_
      show Steps p.tables e below (s₁.setTop (mkF m 15 #[.val (.int v0), .val (.int v1), .val (.int (v1 &&& (3 : Int32))), .val (.int (v1 >>> ((2 : Int32) &&& 31))), .val (.int v0)] [])) _
      refine XS.goto X0.here hx rfl (pc0 := 15) (pc' := 62) rfl (hb hby at_15) (by decide) (by decide) ?_
      show Steps p.tables e below (s₁.setTop (mkF m 62 #[.val (.int v0), .val (.int v1), .val (.int (v1 &&& (3 : Int32))), .val (.int (v1 >>> ((2 : Int32) &&& 31))), .val (.int v0)] [])) _
      exact k
    · by_cases hc20 : (v1 &&& (3 : Int32)) = (1 : Int32)
      · refine ⟨(v0 &&& (63 : Int32)), fun t k => ?_⟩
        show Steps p.tables e below (s₁.setTop (mkF m 0 #[.val (.int v0), .val (.int v1), .unset, .unset, .unset] [])) _
        refine XS.iloadN X0.here hx rfl (hb hby at_0) rfl ?_
        show Steps p.tables e below (s₁.setTop (mkF m 1 #[.val (.int v0), .val (.int v1), .unset, .unset, .unset] [(.int v1)])) _
        refine XS.iconst X0.here hx rfl (hb hby at_1) ?_
        show Steps p.tables e below (s₁.setTop (mkF m 2 #[.val (.int v0), .val (.int v1), .unset, .unset, .unset] [(.int (3 : Int32)), (.int v1)])) _
        refine XS.iand X0.here hx rfl (hb hby at_2) rfl ?_
        show Steps p.tables e below (s₁.setTop (mkF m 3 #[.val (.int v0), .val (.int v1), .unset, .unset, .unset] [(.int (v1 &&& (3 : Int32)))])) _
        refine XS.istoreN X0.here hx rfl (hb hby at_3) rfl (l' := #[.val (.int v0), .val (.int v1), .val (.int (v1 &&& (3 : Int32))), .unset, .unset]) rfl ?_
        show Steps p.tables e below (s₁.setTop (mkF m 4 #[.val (.int v0), .val (.int v1), .val (.int (v1 &&& (3 : Int32))), .unset, .unset] [])) _
        refine XS.iloadN X0.here hx rfl (hb hby at_4) rfl ?_
        show Steps p.tables e below (s₁.setTop (mkF m 5 #[.val (.int v0), .val (.int v1), .val (.int (v1 &&& (3 : Int32))), .unset, .unset] [(.int v1)])) _
        refine XS.iconst X0.here hx rfl (hb hby at_5) ?_
        show Steps p.tables e below (s₁.setTop (mkF m 6 #[.val (.int v0), .val (.int v1), .val (.int (v1 &&& (3 : Int32))), .unset, .unset] [(.int (2 : Int32)), (.int v1)])) _
        refine XT.ishr X0.here hx rfl (hb hby at_6) rfl ?_
        show Steps p.tables e below (s₁.setTop (mkF m 7 #[.val (.int v0), .val (.int v1), .val (.int (v1 &&& (3 : Int32))), .unset, .unset] [(.int (v1 >>> ((2 : Int32) &&& 31)))])) _
        refine XS.istoreN X0.here hx rfl (hb hby at_7) rfl (l' := #[.val (.int v0), .val (.int v1), .val (.int (v1 &&& (3 : Int32))), .val (.int (v1 >>> ((2 : Int32) &&& 31))), .unset]) rfl ?_
        show Steps p.tables e below (s₁.setTop (mkF m 8 #[.val (.int v0), .val (.int v1), .val (.int (v1 &&& (3 : Int32))), .val (.int (v1 >>> ((2 : Int32) &&& 31))), .unset] [])) _
        refine XS.iloadN X0.here hx rfl (hb hby at_8) rfl ?_
        show Steps p.tables e below (s₁.setTop (mkF m 9 #[.val (.int v0), .val (.int v1), .val (.int (v1 &&& (3 : Int32))), .val (.int (v1 >>> ((2 : Int32) &&& 31))), .unset] [(.int (v1 &&& (3 : Int32)))])) _
        refine XS.ifYes X0.here hx rfl (pc0 := 9) (pc' := 18) rfl (hb hby at_9) rfl ((if0 _ _).trans (feq hc9).2) (by decide) (by decide) ?_
        show Steps p.tables e below (s₁.setTop (mkF m 18 #[.val (.int v0), .val (.int v1), .val (.int (v1 &&& (3 : Int32))), .val (.int (v1 >>> ((2 : Int32) &&& 31))), .unset] [])) _
        refine XS.iloadN X0.here hx rfl (hb hby at_18) rfl ?_
        show Steps p.tables e below (s₁.setTop (mkF m 19 #[.val (.int v0), .val (.int v1), .val (.int (v1 &&& (3 : Int32))), .val (.int (v1 >>> ((2 : Int32) &&& 31))), .unset] [(.int (v1 &&& (3 : Int32)))])) _
        refine XS.iconst X0.here hx rfl (hb hby at_19) ?_
        show Steps p.tables e below (s₁.setTop (mkF m 20 #[.val (.int v0), .val (.int v1), .val (.int (v1 &&& (3 : Int32))), .val (.int (v1 >>> ((2 : Int32) &&& 31))), .unset] [(.int (1 : Int32)), (.int (v1 &&& (3 : Int32)))])) _
        refine XS.icmpNo X0.here hx rfl (hb hby at_20) rfl (teq hc20).2 ?_
        show Steps p.tables e below (s₁.setTop (mkF m 23 #[.val (.int v0), .val (.int v1), .val (.int (v1 &&& (3 : Int32))), .val (.int (v1 >>> ((2 : Int32) &&& 31))), .unset] [])) _
        refine XS.iloadN X0.here hx rfl (hb hby at_23) rfl ?_
        show Steps p.tables e below (s₁.setTop (mkF m 24 #[.val (.int v0), .val (.int v1), .val (.int (v1 &&& (3 : Int32))), .val (.int (v1 >>> ((2 : Int32) &&& 31))), .unset] [(.int v0)])) _
        refine XS.bipush X0.here hx rfl (hb hby at_24) ?_
        show Steps p.tables e below (s₁.setTop (mkF m 26 #[.val (.int v0), .val (.int v1), .val (.int (v1 &&& (3 : Int32))), .val (.int (v1 >>> ((2 : Int32) &&& 31))), .unset] [(.int (63 : Int32)), (.int v0)])) _
        refine XS.iand X0.here hx rfl (hb hby at_26) rfl ?_
        show Steps p.tables e below (s₁.setTop (mkF m 27 #[.val (.int v0), .val (.int v1), .val (.int (v1 &&& (3 : Int32))), .val (.int (v1 >>> ((2 : Int32) &&& 31))), .unset] [(.int (v0 &&& (63 : Int32)))])) _
        refine XS.istore X0.here hx rfl (hb hby at_27) rfl (l' := #[.val (.int v0), .val (.int v1), .val (.int (v1 &&& (3 : Int32))), .val (.int (v1 >>> ((2 : Int32) &&& 31))), .val (.int (v0 &&& (63 : Int32)))]) rfl ?_
        show Steps p.tables e below (s₁.setTop (mkF m 29 #[.val (.int v0), .val (.int v1), .val (.int (v1 &&& (3 : Int32))), .val (.int (v1 >>> ((2 : Int32) &&& 31))), .val (.int (v0 &&& (63 : Int32)))] [])) _
        refine XS.goto X0.here hx rfl (pc0 := 29) (pc' := 62) rfl (hb hby at_29) (by decide) (by decide) ?_
        show Steps p.tables e below (s₁.setTop (mkF m 62 #[.val (.int v0), .val (.int v1), .val (.int (v1 &&& (3 : Int32))), .val (.int (v1 >>> ((2 : Int32) &&& 31))), .val (.int (v0 &&& (63 : Int32)))] [])) _
        exact k
      · by_cases hc34 : (v1 &&& (3 : Int32)) = (2 : Int32)
        · refine ⟨((v0 &&& (63 : Int32)) + ((v1 >>> ((2 : Int32) &&& 31)) <<< ((16 : Int32) &&& 31))), fun t k => ?_⟩
          show Steps p.tables e below (s₁.setTop (mkF m 0 #[.val (.int v0), .val (.int v1), .unset, .unset, .unset] [])) _
          refine XS.iloadN X0.here hx rfl (hb hby at_0) rfl ?_
          show Steps p.tables e below (s₁.setTop (mkF m 1 #[.val (.int v0), .val (.int v1), .unset, .unset, .unset] [(.int v1)])) _
          refine XS.iconst X0.here hx rfl (hb hby at_1) ?_
          show Steps p.tables e below (s₁.setTop (mkF m 2 #[.val (.int v0), .val (.int v1), .unset, .unset, .unset] [(.int (3 : Int32)), (.int v1)])) _
          refine XS.iand X0.here hx rfl (hb hby at_2) rfl ?_
          show Steps p.tables e below (s₁.setTop (mkF m 3 #[.val (.int v0), .val (.int v1), .unset, .unset, .unset] [(.int (v1 &&& (3 : Int32)))])) _
          refine XS.istoreN X0.here hx rfl (hb hby at_3) rfl (l' := #[.val (.int v0), .val (.int v1), .val (.int (v1 &&& (3 : Int32))), .unset, .unset]) rfl ?_
          show Steps p.tables e below (s₁.setTop (mkF m 4 #[.val (.int v0), .val (.int v1), .val (.int (v1 &&& (3 : Int32))), .unset, .unset] [])) _
          refine XS.iloadN X0.here hx rfl (hb hby at_4) rfl ?_
          show Steps p.tables e below (s₁.setTop (mkF m 5 #[.val (.int v0), .val (.int v1), .val (.int (v1 &&& (3 : Int32))), .unset, .unset] [(.int v1)])) _
          refine XS.iconst X0.here hx rfl (hb hby at_5) ?_
          show Steps p.tables e below (s₁.setTop (mkF m 6 #[.val (.int v0), .val (.int v1), .val (.int (v1 &&& (3 : Int32))), .unset, .unset] [(.int (2 : Int32)), (.int v1)])) _
          refine XT.ishr X0.here hx rfl (hb hby at_6) rfl ?_
          show Steps p.tables e below (s₁.setTop (mkF m 7 #[.val (.int v0), .val (.int v1), .val (.int (v1 &&& (3 : Int32))), .unset, .unset] [(.int (v1 >>> ((2 : Int32) &&& 31)))])) _
          refine XS.istoreN X0.here hx rfl (hb hby at_7) rfl (l' := #[.val (.int v0), .val (.int v1), .val (.int (v1 &&& (3 : Int32))), .val (.int (v1 >>> ((2 : Int32) &&& 31))), .unset]) rfl ?_
          show Steps p.tables e below (s₁.setTop (mkF m 8 #[.val (.int v0), .val (.int v1), .val (.int (v1 &&& (3 : Int32))), .val (.int (v1 >>> ((2 : Int32) &&& 31))), .unset] [])) _
          refine XS.iloadN X0.here hx rfl (hb hby at_8) rfl ?_
          show Steps p.tables e below (s₁.setTop (mkF m 9 #[.val (.int v0), .val (.int v1), .val (.int (v1 &&& (3 : Int32))), .val (.int (v1 >>> ((2 : Int32) &&& 31))), .unset] [(.int (v1 &&& (3 : Int32)))])) _
          refine XS.ifYes X0.here hx rfl (pc0 := 9) (pc' := 18) rfl (hb hby at_9) rfl ((if0 _ _).trans (feq hc9).2) (by decide) (by decide) ?_
          show Steps p.tables e below (s₁.setTop (mkF m 18 #[.val (.int v0), .val (.int v1), .val (.int (v1 &&& (3 : Int32))), .val (.int (v1 >>> ((2 : Int32) &&& 31))), .unset] [])) _
          refine XS.iloadN X0.here hx rfl (hb hby at_18) rfl ?_
          show Steps p.tables e below (s₁.setTop (mkF m 19 #[.val (.int v0), .val (.int v1), .val (.int (v1 &&& (3 : Int32))), .val (.int (v1 >>> ((2 : Int32) &&& 31))), .unset] [(.int (v1 &&& (3 : Int32)))])) _
          refine XS.iconst X0.here hx rfl (hb hby at_19) ?_
          show Steps p.tables e below (s₁.setTop (mkF m 20 #[.val (.int v0), .val (.int v1), .val (.int (v1 &&& (3 : Int32))), .val (.int (v1 >>> ((2 : Int32) &&& 31))), .unset] [(.int (1 : Int32)), (.int (v1 &&& (3 : Int32)))])) _
          refine XS.icmpYes X0.here hx rfl (pc0 := 20) (pc' := 32) rfl (hb hby at_20) rfl (feq hc20).2 (by decide) (by decide) ?_
          show Steps p.tables e below (s₁.setTop (mkF m 32 #[.val (.int v0), .val (.int v1), .val (.int (v1 &&& (3 : Int32))), .val (.int (v1 >>> ((2 : Int32) &&& 31))), .unset] [])) _
          refine XS.iloadN X0.here hx rfl (hb hby at_32) rfl ?_
          show Steps p.tables e below (s₁.setTop (mkF m 33 #[.val (.int v0), .val (.int v1), .val (.int (v1 &&& (3 : Int32))), .val (.int (v1 >>> ((2 : Int32) &&& 31))), .unset] [(.int (v1 &&& (3 : Int32)))])) _
          refine XS.iconst X0.here hx rfl (hb hby at_33) ?_
          show Steps p.tables e below (s₁.setTop (mkF m 34 #[.val (.int v0), .val (.int v1), .val (.int (v1 &&& (3 : Int32))), .val (.int (v1 >>> ((2 : Int32) &&& 31))), .unset] [(.int (2 : Int32)), (.int (v1 &&& (3 : Int32)))])) _
          refine XS.icmpNo X0.here hx rfl (hb hby at_34) rfl (teq hc34).2 ?_
          show Steps p.tables e below (s₁.setTop (mkF m 37 #[.val (.int v0), .val (.int v1), .val (.int (v1 &&& (3 : Int32))), .val (.int (v1 >>> ((2 : Int32) &&& 31))), .unset] [])) _
          refine XS.iloadN X0.here hx rfl (hb hby at_37) rfl ?_
          show Steps p.tables e below (s₁.setTop (mkF m 38 #[.val (.int v0), .val (.int v1), .val (.int (v1 &&& (3 : Int32))), .val (.int (v1 >>> ((2 : Int32) &&& 31))), .unset] [(.int v0)])) _
          refine XS.bipush X0.here hx rfl (hb hby at_38) ?_
          show Steps p.tables e below (s₁.setTop (mkF m 40 #[.val (.int v0), .val (.int v1), .val (.int (v1 &&& (3 : Int32))), .val (.int (v1 >>> ((2 : Int32) &&& 31))), .unset] [(.int (63 : Int32)), (.int v0)])) _
          refine XS.iand X0.here hx rfl (hb hby at_40) rfl ?_
          show Steps p.tables e below (s₁.setTop (mkF m 41 #[.val (.int v0), .val (.int v1), .val (.int (v1 &&& (3 : Int32))), .val (.int (v1 >>> ((2 : Int32) &&& 31))), .unset] [(.int (v0 &&& (63 : Int32)))])) _
          refine XS.iloadN X0.here hx rfl (hb hby at_41) rfl ?_
          show Steps p.tables e below (s₁.setTop (mkF m 42 #[.val (.int v0), .val (.int v1), .val (.int (v1 &&& (3 : Int32))), .val (.int (v1 >>> ((2 : Int32) &&& 31))), .unset] [(.int (v1 >>> ((2 : Int32) &&& 31))), (.int (v0 &&& (63 : Int32)))])) _
          refine XS.bipush X0.here hx rfl (hb hby at_42) ?_
          show Steps p.tables e below (s₁.setTop (mkF m 44 #[.val (.int v0), .val (.int v1), .val (.int (v1 &&& (3 : Int32))), .val (.int (v1 >>> ((2 : Int32) &&& 31))), .unset] [(.int (16 : Int32)), (.int (v1 >>> ((2 : Int32) &&& 31))), (.int (v0 &&& (63 : Int32)))])) _
          refine XT.ishl X0.here hx rfl (hb hby at_44) rfl ?_
          show Steps p.tables e below (s₁.setTop (mkF m 45 #[.val (.int v0), .val (.int v1), .val (.int (v1 &&& (3 : Int32))), .val (.int (v1 >>> ((2 : Int32) &&& 31))), .unset] [(.int ((v1 >>> ((2 : Int32) &&& 31)) <<< ((16 : Int32) &&& 31))), (.int (v0 &&& (63 : Int32)))])) _
          refine XS.iadd X0.here hx rfl (hb hby at_45) rfl ?_
          show Steps p.tables e below (s₁.setTop (mkF m 46 #[.val (.int v0), .val (.int v1), .val (.int (v1 &&& (3 : Int32))), .val (.int (v1 >>> ((2 : Int32) &&& 31))), .unset] [(.int ((v0 &&& (63 : Int32)) + ((v1 >>> ((2 : Int32) &&& 31)) <<< ((16 : Int32) &&& 31))))])) _
          refine XS.istore X0.here hx rfl (hb hby at_46) rfl (l' := #[.val (.int v0), .val (.int v1), .val (.int (v1 &&& (3 : Int32))), .val (.int (v1 >>> ((2 : Int32) &&& 31))), .val (.int ((v0 &&& (63 : Int32)) + ((v1 >>> ((2 : Int32) &&& 31)) <<< ((16 : Int32) &&& 31))))]) rfl ?_
          show Steps p.tables e below (s₁.setTop (mkF m 48 #[.val (.int v0), .val (.int v1), .val (.int (v1 &&& (3 : Int32))), .val (.int (v1 >>> ((2 : Int32) &&& 31))), .val (.int ((v0 &&& (63 : Int32)) + ((v1 >>> ((2 : Int32) &&& 31)) <<< ((16 : Int32) &&& 31))))] [])) _
          refine XS.goto X0.here hx rfl (pc0 := 48) (pc' := 62) rfl (hb hby at_48) (by decide) (by decide) ?_
          show Steps p.tables e below (s₁.setTop (mkF m 62 #[.val (.int v0), .val (.int v1), .val (.int (v1 &&& (3 : Int32))), .val (.int (v1 >>> ((2 : Int32) &&& 31))), .val (.int ((v0 &&& (63 : Int32)) + ((v1 >>> ((2 : Int32) &&& 31)) <<< ((16 : Int32) &&& 31))))] [])) _
          exact k
        · refine ⟨((v0 &&& (63 : Int32)) + ((v1 >>> ((2 : Int32) &&& 31)) <<< ((6 : Int32) &&& 31))), fun t k => ?_⟩
          show Steps p.tables e below (s₁.setTop (mkF m 0 #[.val (.int v0), .val (.int v1), .unset, .unset, .unset] [])) _
          refine XS.iloadN X0.here hx rfl (hb hby at_0) rfl ?_
          show Steps p.tables e below (s₁.setTop (mkF m 1 #[.val (.int v0), .val (.int v1), .unset, .unset, .unset] [(.int v1)])) _
          refine XS.iconst X0.here hx rfl (hb hby at_1) ?_
          show Steps p.tables e below (s₁.setTop (mkF m 2 #[.val (.int v0), .val (.int v1), .unset, .unset, .unset] [(.int (3 : Int32)), (.int v1)])) _
          refine XS.iand X0.here hx rfl (hb hby at_2) rfl ?_
          show Steps p.tables e below (s₁.setTop (mkF m 3 #[.val (.int v0), .val (.int v1), .unset, .unset, .unset] [(.int (v1 &&& (3 : Int32)))])) _
          refine XS.istoreN X0.here hx rfl (hb hby at_3) rfl (l' := #[.val (.int v0), .val (.int v1), .val (.int (v1 &&& (3 : Int32))), .unset, .unset]) rfl ?_
          show Steps p.tables e below (s₁.setTop (mkF m 4 #[.val (.int v0), .val (.int v1), .val (.int (v1 &&& (3 : Int32))), .unset, .unset] [])) _
          refine XS.iloadN X0.here hx rfl (hb hby at_4) rfl ?_
          show Steps p.tables e below (s₁.setTop (mkF m 5 #[.val (.int v0), .val (.int v1), .val (.int (v1 &&& (3 : Int32))), .unset, .unset] [(.int v1)])) _
          refine XS.iconst X0.here hx rfl (hb hby at_5) ?_
          show Steps p.tables e below (s₁.setTop (mkF m 6 #[.val (.int v0), .val (.int v1), .val (.int (v1 &&& (3 : Int32))), .unset, .unset] [(.int (2 : Int32)), (.int v1)])) _
          refine XT.ishr X0.here hx rfl (hb hby at_6) rfl ?_
          show Steps p.tables e below (s₁.setTop (mkF m 7 #[.val (.int v0), .val (.int v1), .val (.int (v1 &&& (3 : Int32))), .unset, .unset] [(.int (v1 >>> ((2 : Int32) &&& 31)))])) _
          refine XS.istoreN X0.here hx rfl (hb hby at_7) rfl (l' := #[.val (.int v0), .val (.int v1), .val (.int (v1 &&& (3 : Int32))), .val (.int (v1 >>> ((2 : Int32) &&& 31))), .unset]) rfl ?_
          show Steps p.tables e below (s₁.setTop (mkF m 8 #[.val (.int v0), .val (.int v1), .val (.int (v1 &&& (3 : Int32))), .val (.int (v1 >>> ((2 : Int32) &&& 31))), .unset] [])) _
          refine XS.iloadN X0.here hx rfl (hb hby at_8) rfl ?_
          show Steps p.tables e below (s₁.setTop (mkF m 9 #[.val (.int v0), .val (.int v1), .val (.int (v1 &&& (3 : Int32))), .val (.int (v1 >>> ((2 : Int32) &&& 31))), .unset] [(.int (v1 &&& (3 : Int32)))])) _
          refine XS.ifYes X0.here hx rfl (pc0 := 9) (pc' := 18) rfl (hb hby at_9) rfl ((if0 _ _).trans (feq hc9).2) (by decide) (by decide) ?_
          show Steps p.tables e below (s₁.setTop (mkF m 18 #[.val (.int v0), .val (.int v1), .val (.int (v1 &&& (3 : Int32))), .val (.int (v1 >>> ((2 : Int32) &&& 31))), .unset] [])) _
          refine XS.iloadN X0.here hx rfl (hb hby at_18) rfl ?_
          show Steps p.tables e below (s₁.setTop (mkF m 19 #[.val (.int v0), .val (.int v1), .val (.int (v1 &&& (3 : Int32))), .val (.int (v1 >>> ((2 : Int32) &&& 31))), .unset] [(.int (v1 &&& (3 : Int32)))])) _
          refine XS.iconst X0.here hx rfl (hb hby at_19) ?_
          show Steps p.tables e below (s₁.setTop (mkF m 20 #[.val (.int v0), .val (.int v1), .val (.int (v1 &&& (3 : Int32))), .val (.int (v1 >>> ((2 : Int32) &&& 31))), .unset] [(.int (1 : Int32)), (.int (v1 &&& (3 : Int32)))])) _
          refine XS.icmpYes X0.here hx rfl (pc0 := 20) (pc' := 32) rfl (hb hby at_20) rfl (feq hc20).2 (by decide) (by decide) ?_
          show Steps p.tables e below (s₁.setTop (mkF m 32 #[.val (.int v0), .val (.int v1), .val (.int (v1 &&& (3 : Int32))), .val (.int (v1 >>> ((2 : Int32) &&& 31))), .unset] [])) _
          refine XS.iloadN X0.here hx rfl (hb hby at_32) rfl ?_
          show Steps p.tables e below (s₁.setTop (mkF m 33 #[.val (.int v0), .val (.int v1), .val (.int (v1 &&& (3 : Int32))), .val (.int (v1 >>> ((2 : Int32) &&& 31))), .unset] [(.int (v1 &&& (3 : Int32)))])) _
          refine XS.iconst X0.here hx rfl (hb hby at_33) ?_
          show Steps p.tables e below (s₁.setTop (mkF m 34 #[.val (.int v0), .val (.int v1), .val (.int (v1 &&& (3 : Int32))), .val (.int (v1 >>> ((2 : Int32) &&& 31))), .unset] [(.int (2 : Int32)), (.int (v1 &&& (3 : Int32)))])) _
          refine XS.icmpYes X0.here hx rfl (pc0 := 34) (pc' := 51) rfl (hb hby at_34) rfl (feq hc34).2 (by decide) (by decide) ?_
          show Steps p.tables e below (s₁.setTop (mkF m 51 #[.val (.int v0), .val (.int v1), .val (.int (v1 &&& (3 : Int32))), .val (.int (v1 >>> ((2 : Int32) &&& 31))), .unset] [])) _
          refine XS.iloadN X0.here hx rfl (hb hby at_51) rfl ?_
          show Steps p.tables e below (s₁.setTop (mkF m 52 #[.val (.int v0), .val (.int v1), .val (.int (v1 &&& (3 : Int32))), .val (.int (v1 >>> ((2 : Int32) &&& 31))), .unset] [(.int v0)])) _
          refine XS.bipush X0.here hx rfl (hb hby at_52) ?_
          show Steps p.tables e below (s₁.setTop (mkF m 54 #[.val (.int v0), .val (.int v1), .val (.int (v1 &&& (3 : Int32))), .val (.int (v1 >>> ((2 : Int32) &&& 31))), .unset] [(.int (63 : Int32)), (.int v0)])) _
          refine XS.iand X0.here hx rfl (hb hby at_54) rfl ?_
          show Steps p.tables e below (s₁.setTop (mkF m 55 #[.val (.int v0), .val (.int v1), .val (.int (v1 &&& (3 : Int32))), .val (.int (v1 >>> ((2 : Int32) &&& 31))), .unset] [(.int (v0 &&& (63 : Int32)))])) _
          refine XS.iloadN X0.here hx rfl (hb hby at_55) rfl ?_
          show Steps p.tables e below (s₁.setTop (mkF m 56 #[.val (.int v0), .val (.int v1), .val (.int (v1 &&& (3 : Int32))), .val (.int (v1 >>> ((2 : Int32) &&& 31))), .unset] [(.int (v1 >>> ((2 : Int32) &&& 31))), (.int (v0 &&& (63 : Int32)))])) _
          refine XS.bipush X0.here hx rfl (hb hby at_56) ?_
          show Steps p.tables e below (s₁.setTop (mkF m 58 #[.val (.int v0), .val (.int v1), .val (.int (v1 &&& (3 : Int32))), .val (.int (v1 >>> ((2 : Int32) &&& 31))), .unset] [(.int (6 : Int32)), (.int (v1 >>> ((2 : Int32) &&& 31))), (.int (v0 &&& (63 : Int32)))])) _
          refine XT.ishl X0.here hx rfl (hb hby at_58) rfl ?_
          show Steps p.tables e below (s₁.setTop (mkF m 59 #[.val (.int v0), .val (.int v1), .val (.int (v1 &&& (3 : Int32))), .val (.int (v1 >>> ((2 : Int32) &&& 31))), .unset] [(.int ((v1 >>> ((2 : Int32) &&& 31)) <<< ((6 : Int32) &&& 31))), (.int (v0 &&& (63 : Int32)))])) _
          refine XS.iadd X0.here hx rfl (hb hby at_59) rfl ?_
          show Steps p.tables e below (s₁.setTop (mkF m 60 #[.val (.int v0), .val (.int v1), .val (.int (v1 &&& (3 : Int32))), .val (.int (v1 >>> ((2 : Int32) &&& 31))), .unset] [(.int ((v0 &&& (63 : Int32)) + ((v1 >>> ((2 : Int32) &&& 31)) <<< ((6 : Int32) &&& 31))))])) _
          refine XS.istore X0.here hx rfl (hb hby at_60) rfl (l' := #[.val (.int v0), .val (.int v1), .val (.int (v1 &&& (3 : Int32))), .val (.int (v1 >>> ((2 : Int32) &&& 31))), .val (.int ((v0 &&& (63 : Int32)) + ((v1 >>> ((2 : Int32) &&& 31)) <<< ((6 : Int32) &&& 31))))]) rfl ?_
          show Steps p.tables e below (s₁.setTop (mkF m 62 #[.val (.int v0), .val (.int v1), .val (.int (v1 &&& (3 : Int32))), .val (.int (v1 >>> ((2 : Int32) &&& 31))), .val (.int ((v0 &&& (63 : Int32)) + ((v1 >>> ((2 : Int32) &&& 31)) <<< ((6 : Int32) &&& 31))))] [])) _
          exact k
  have sg2 : ∀ t, Steps p.tables e below (s₁.setTop (mkF m 64 #[.val (.int v0), .val (.int v1), .val (.int (v1 &&& (3 : Int32))), .val (.int (v1 >>> ((2 : Int32) &&& 31))), .val (.int cc)] [(.int cc)])) t → Steps p.tables e below (s₁.setTop (mkF m 62 #[.val (.int v0), .val (.int v1), .val (.int (v1 &&& (3 : Int32))), .val (.int (v1 >>> ((2 : Int32) &&& 31))), .val (.int cc)] [])) t := by
    intro t k
    show Steps p.tables e below (s₁.setTop (mkF m 62 #[.val (.int v0), .val (.int v1), .val (.int (v1 &&& (3 : Int32))), .val (.int (v1 >>> ((2 : Int32) &&& 31))), .val (.int cc)] [])) _
    refine XS.iload X0.here hx rfl (hb hby at_62) rfl ?_
    show Steps p.tables e below (s₁.setTop (mkF m 64 #[.val (.int v0), .val (.int v1), .val (.int (v1 &&& (3 : Int32))), .val (.int (v1 >>> ((2 : Int32) &&& 31))), .val (.int cc)] [(.int cc)])) _
    exact k
  obtain ⟨_, _, ⟨T3, L3, k3, n3⟩, -, X3, ⟨Lc3, hQ3, l3, y3, z3⟩, st3⟩ := Jvm.LawKit.callS X0 hx (y := (⟨"com/example/itinera/itinera/XmlChars", "isWhitespace", "(I)Z"⟩ : MethodName)) hown (mvT hZ (hw _ (List.mem_of_getElem? (i := 0) rfl))) (mvT hZ (hw _ (List.mem_of_getElem? (i := 1) rfl))) (mvT hZ (hw _ (List.mem_of_getElem? (i := 2) rfl))) (mvT hZ (hw _ (List.mem_of_getElem? (i := 3) rfl))) (by decide) (backOf (W := 0) (rm1 l Z a0 hw [] cc h0 n0 Z0) hZ (hw _ (List.mem_of_getElem? (i := 3) rfl)) (hw _ (List.mem_of_getElem? (i := 2) rfl)) (by decide) (by decide)) (g := (mkF m 64 #[.val (.int v0), .val (.int v1), .val (.int (v1 &&& (3 : Int32))), .val (.int (v1 >>> ((2 : Int32) &&& 31))), .val (.int cc)] [(.int cc)])) rfl (by rw [hml]; rfl) (argsL := [(.int cc)]) (rest := []) (lenOf pd_1 rfl) rfl (by show 2 * 0 + _ ≤ _; exact Nat.le_of_eq rfl) (hb hby at_64) (fun _ _ => ⟨rfl, e0, (by decide : 0 + 0 ≤ _), (by decide : 0 + 0 ≤ _)⟩)
  dsimp only [Pt.U, Pt.locs, Pt.cells, Pt.slots] at X3 l3 y3 z3 st3 hQ3
  subst l3 y3 z3
  obtain ⟨rfl, Nc3, e3⟩ := hQ3
  have N3 := Fr.app N0 Nc3
  have sg4 : ∀ t, Steps p.tables e below (T3.setTop (mkF m 69 #[.val (.int v0), .val (.int v1), .val (.int (v1 &&& (3 : Int32))), .val (.int (v1 >>> ((2 : Int32) &&& 31))), .val (.int cc)] [(.int cc), (.int (f1_0 cc))])) t → Steps p.tables e below (T3.setTop (mkF m 67 #[.val (.int v0), .val (.int v1), .val (.int (v1 &&& (3 : Int32))), .val (.int (v1 >>> ((2 : Int32) &&& 31))), .val (.int cc)] [(.int (f1_0 cc))])) t := by
    intro t k
    show Steps p.tables e below (T3.setTop (mkF m 67 #[.val (.int v0), .val (.int v1), .val (.int (v1 &&& (3 : Int32))), .val (.int (v1 >>> ((2 : Int32) &&& 31))), .val (.int cc)] [(.int (f1_0 cc))])) _
    refine XS.iload X3.here hx rfl (hb hby at_67) rfl ?_
    show Steps p.tables e below (T3.setTop (mkF m 69 #[.val (.int v0), .val (.int v1), .val (.int (v1 &&& (3 : Int32))), .val (.int (v1 >>> ((2 : Int32) &&& 31))), .val (.int cc)] [(.int cc), (.int (f1_0 cc))])) _
    exact k
  obtain ⟨_, _, ⟨T5, L5, k5, n5⟩, -, X5, ⟨Lc5, hQ5, l5, y5, z5⟩, st5⟩ := Jvm.LawKit.callS X3 hx (y := (⟨"com/example/itinera/itinera/XmlCharsIsWhitespacePinLaw", "reference", "(I)Z"⟩ : MethodName)) hown (mvT hZ (hw _ (List.mem_of_getElem? (i := 4) rfl))) (mvT hZ (hw _ (List.mem_of_getElem? (i := 5) rfl))) (mvT hZ (hw _ (List.mem_of_getElem? (i := 6) rfl))) (mvT hZ (hw _ (List.mem_of_getElem? (i := 7) rfl))) (by decide) (backOf (W := 1) (rm2 l Z a0 hw [] cc h0 n0 Z0) hZ (hw _ (List.mem_of_getElem? (i := 7) rfl)) (hw _ (List.mem_of_getElem? (i := 6) rfl)) (by decide) (by decide)) (g := (mkF m 69 #[.val (.int v0), .val (.int v1), .val (.int (v1 &&& (3 : Int32))), .val (.int (v1 >>> ((2 : Int32) &&& 31))), .val (.int cc)] [(.int cc), (.int (f1_0 cc))])) rfl (by rw [hml]; rfl) (argsL := [(.int cc)]) (rest := [(.int (f1_0 cc))]) (lenOf pd_2 rfl) rfl (by show 2 * 0 + _ ≤ _; exact Nat.le_of_eq rfl) (hb hby at_69) (fun _ _ => ⟨rfl, e3, (by decide : 0 + 0 ≤ _), (by decide : 0 + 0 ≤ _)⟩)
  dsimp only [Pt.U, Pt.locs, Pt.cells, Pt.slots] at X5 l5 y5 z5 st5 hQ5
  subst l5 y5 z5
  obtain ⟨rfl, Nc5, e5⟩ := hQ5
  have N5 := Fr.app N3 Nc5
  have heq : f1_0 cc = f2_0 cc := own_law cc
  have sg6 : ∀ t, Steps p.tables e below (T5.setTop (mkF m 80 #[.val (.int v0), .val (.int v1), .val (.int (v1 &&& (3 : Int32))), .val (.int (v1 >>> ((2 : Int32) &&& 31))), .val (.int cc)] [(.int (1 : Int32))])) t → Steps p.tables e below (T5.setTop (mkF m 72 #[.val (.int v0), .val (.int v1), .val (.int (v1 &&& (3 : Int32))), .val (.int (v1 >>> ((2 : Int32) &&& 31))), .val (.int cc)] [(.int (f2_0 cc)), (.int (f1_0 cc))])) t := by
    intro t k
    show Steps p.tables e below (T5.setTop (mkF m 72 #[.val (.int v0), .val (.int v1), .val (.int (v1 &&& (3 : Int32))), .val (.int (v1 >>> ((2 : Int32) &&& 31))), .val (.int cc)] [(.int (f2_0 cc)), (.int (f1_0 cc))])) _
    refine XS.icmpNo X5.here hx rfl (hb hby at_72) rfl (teq heq).2 ?_
    show Steps p.tables e below (T5.setTop (mkF m 75 #[.val (.int v0), .val (.int v1), .val (.int (v1 &&& (3 : Int32))), .val (.int (v1 >>> ((2 : Int32) &&& 31))), .val (.int cc)] [])) _
    refine XS.iconst X5.here hx rfl (hb hby at_75) ?_
    show Steps p.tables e below (T5.setTop (mkF m 76 #[.val (.int v0), .val (.int v1), .val (.int (v1 &&& (3 : Int32))), .val (.int (v1 >>> ((2 : Int32) &&& 31))), .val (.int cc)] [(.int (1 : Int32))])) _
    refine XS.goto X5.here hx rfl (pc0 := 76) (pc' := 80) rfl (hb hby at_76) (by decide) (by decide) ?_
    show Steps p.tables e below (T5.setTop (mkF m 80 #[.val (.int v0), .val (.int v1), .val (.int (v1 &&& (3 : Int32))), .val (.int (v1 >>> ((2 : Int32) &&& 31))), .val (.int cc)] [(.int (1 : Int32))])) _
    exact k
  obtain ⟨fs, hr, hrun, hended, hW, hsame⟩ := X5.leave (v := some (.int (1 : Int32))) (fun h => by rw [Bd.returns] at h; cases h)
  refine ⟨_, _, pre0 _ ?_, hrun, hended, _, _, rfl, ?_, ⟨_, rfl⟩, hW, hsame.mono (by decide) (by decide)⟩
  · refine sg1 _ ?_
    refine sg2 _ ?_
    refine st3 _ ?_
    refine sg4 _ ?_
    refine st5 _ ?_
    refine sg6 _ ?_
    show Steps p.tables e below (T5.setTop (mkF m 80 #[.val (.int v0), .val (.int v1), .val (.int (v1 &&& (3 : Int32))), .val (.int (v1 >>> ((2 : Int32) &&& 31))), .val (.int cc)] [(.int (1 : Int32))])) _
    exact retN X5 hx (t := .boolean) Bd.returns (by simp) (hb hby at_80) hr
  · exact ⟨rfl, N5⟩
set_option maxRecDepth 65536 in
set_option maxHeartbeats 40000000 in
theorem comes_1 {Post : Tables → Env → Array Value → State → Outcome → State → Prop} (hpost : ∀ tb e args s v u, (limb_1_1.after args s (.returned v) u = true ∧ limb_1_2.after args s (.returned v) u = true ∧ True) → FrameEnd s (.returned v) u (Jvm.fieldLocs frame_1_writes args s ++ Jvm.arrayLocs frame_1_arrays args s ++ Jvm.staticLocs frame_1_statics s) 0 0 → Post tb e args s (.returned v) u) :
    ArmFor flags0 classFile x code maxLocals ret World_1 tables_1 room_1 Calls_1 rest_1 Pre_1 Post := by
  intro l hfl _ _ p e ha hc hk s m args below hf hA hF happ hP
  obtain ⟨hcalls, hrest, hpre⟩ := hP
  obtain ⟨-, -, -, hnamed, -, -, -, hat⟩ := (Spec.applies_iff hf).mp happ
  obtain ⟨hg, hn⟩ := and_e (Cond.before_iff.mp (show (Jvm.Cond.and given_1 narrow_1).before args s = true from hpre))
  obtain ⟨hcount, q0⟩ := and_e hg
  obtain ⟨g0, q1⟩ := and_e q0
  obtain ⟨w0, w1, rfl⟩ : ∃ w0 w1 : Value, args = #[w0, w1] := by
    have hs : args.size = 2 := by simpa [Cond.value, given_1] using hcount
    obtain ⟨L⟩ := args
    match L, hs with
    | [w0, w1], _ => exact ⟨w0, w1, rfl⟩
  have hw := fun d (hd : d ∈ tables_1) => atoms_spec (ws := Jvm.Cond.code x code maxLocals ret :: tables_1) hat d (List.mem_cons_of_mem _ hd)
  obtain ⟨i0, r0⟩ := is_v g0
  obtain rfl : w0 = (.int i0) := Option.some.inj r0
  obtain ⟨i1, r1⟩ := is_v q1
  obtain rfl : w1 = (.int i1) := Option.some.inj r1
  obtain ⟨n, o, h1, h2, h3, _, L, rfl, ⟨rfl, N⟩, hq⟩ := rm0 l s _ hw tables_1 i0 i1 s.heap s.heap.size (Nat.le_refl _)  p e ha hc hk s m _ below hf ((Spec.applies_iff_loose hf).mp happ).1 ⟨rfl, State.Warmed39.refl s, rfl⟩ trivial
  refine ⟨n, _, h1, h2, h3, hpost _ _ _ _ _ _ ⟨Cond.after_iff.mpr rfl, Cond.after_iff.mpr (eq_i res_at (Term.int_eval (1)) rfl), trivial⟩ ⟨hq.1, hq.2.1, (hq.2.2.sift fun y hy => Or.inr (N y hy)).mono (by decide) (by decide)⟩⟩
theorem main_1_1 : Claimed_1_1 := comes_1 fun _ _ _ _ _ _ h hF => ⟨h.1, hF⟩
theorem main_1_2 : Claimed_1_2 := comes_1 fun _ _ _ _ _ _ h hF => ⟨h.2.1, hF⟩
end Jvm.Pilot.@@N@@
namespace Jvm.Pilot.@@N@@
open Jvm Jvm.ClassFile Sem Op Lib Jvm.Free Jvm.Stand Jvm.Pilot.@@N@@.Jvm.D
/-! MADE BY PROGRAM (witnessworld.py) out of the Statement's table words and the real class files: 9 classes; the members and pool entries that the words name. The judged class is class 1, her method 2. -/
namespace start1
open Jvm.ClassFile
def u (s : String) : CpInfo := .utf8 (stringToUtf16 s)
/-- a pool by its gaps: so many unusable entries, then the entry; so many at the end -/
def gap : Nat → List CpInfo → List CpInfo
  | 0, r => r
  | n + 1, r => .unusable :: gap n r
def poolList (es : List (Nat × CpInfo)) (last : Nat) : List CpInfo := es.foldr (fun e r => gap e.1 (e.2 :: r)) (gap last [])
def pool (es : List (Nat × CpInfo)) (last : Nat) : Array CpInfo := ⟨poolList es last⟩
def fileOf (pool : Array CpInfo) (this : Nat) (attrs : Array Attribute := #[]) (ms : Array MethodInfo := #[]) (fl : Nat := 33) (sup : Nat := 0) (ifs : Array Nat := #[]) (fds : Array FieldInfo := #[]) : ClassFile where
  minorVersion := 0
  majorVersion := 65
  constantPool := pool
  accessFlags := fl
  thisClass := this
  superClass := sup
  interfaces := ifs
  fields := fds
  methods := ms
  attributes := attrs
def plain (name : String) (sup : Option ClassId) : Class where
  name := name
  kind := .ordinary
  loader := none
  accessFlags := 33
  super := sup
  interfaces := #[]
  cf := none
  fields := #[]
  methods := #[]
  instanceTypes := #[]
  staticTypes := #[]
  resolved := #[]
  callSites := []
  init := .initialized
  statics := none
  mirror := none

def pool0 : Array CpInfo := pool [(5, u "<init>"), (0, u "()V"), (1, .class_ 10), (1, u "java/lang/Object")] 113

def k0m0 : Method := { name := "<init>", desc := "()V", sig := { parameters := [], returnType := none }, accessFlags := 1, code := none }
/-- java/lang/Object -/
def k0 : Class := { plain "java/lang/Object" none with
  accessFlags := 33
  interfaces := #[]
  cf := some (fileOf pool0 8 #[] #[{ accessFlags := 1, nameIndex := 5, descriptorIndex := 6, attributes := #[] }] 33 0 #[] #[])
  fields := #[]
  methods := #[k0m0]
  instanceTypes := #[]
  staticTypes := #[]
  resolved := Array.replicate 124 none
  statics := none }

def pool1 : Array CpInfo := pool [(2, .class_ 4), (1, u "java/lang/Object"), (0, u "<init>"), (0, u "()V"), (0, .class_ 8), (0, u "com/example/itinera/itinera/XmlCharsIsWhitespacePinLaw"), (0, .long 4294977024), (1, .methodref 12 13), (0, .class_ 14), (0, .nameAndType 15 16), (0, u "com/example/itinera/itinera/XmlChars"), (0, u "isWhitespace"), (0, u "(I)Z"), (0, .methodref 7 18), (0, .nameAndType 19 16), (0, u "reference"), (0, u "MASK"), (0, u "J"), (4, u "law"), (0, u "(II)Z")] 2

def k1m0 : Method := { name := "<init>", desc := "()V", sig := { parameters := [], returnType := none }, accessFlags := 1, code := none }
def k1c1 : Code := { maxStack := 4, maxLocals := 1, code := method_2_code, exceptionTable := #[], attributes := #[] }
def k1m1 : Method := { name := "reference", desc := "(I)Z", sig := { parameters := [.int], returnType := some .boolean }, accessFlags := 10, code := some k1c1 }
def k1c2 : Code := { maxStack := 3, maxLocals := 5, code := code, exceptionTable := #[], attributes := #[] }
def k1m2 : Method := { name := "law", desc := "(II)Z", sig := { parameters := [.int, .int], returnType := some .boolean }, accessFlags := 9, code := some k1c2 }
/-- com/example/itinera/itinera/XmlCharsIsWhitespacePinLaw -/
def k1 : Class := { plain "com/example/itinera/itinera/XmlCharsIsWhitespacePinLaw" (some 0) with
  accessFlags := 49
  interfaces := #[]
  cf := some (fileOf pool1 7 #[] #[{ accessFlags := 1, nameIndex := 5, descriptorIndex := 6, attributes := #[] }, { accessFlags := 10, nameIndex := 19, descriptorIndex := 16, attributes := #[] }, { accessFlags := 9, nameIndex := 26, descriptorIndex := 27, attributes := #[] }] 49 2 #[] #[{ accessFlags := 26, nameIndex := 20, descriptorIndex := 21, attributes := #[] }])
  fields := #[{ name := "MASK", type := .long, accessFlags := 26, slot := 0, constantValue := 0 }]
  methods := #[k1m0, k1m1, k1m2]
  instanceTypes := #[]
  staticTypes := #[.long]
  resolved := Array.replicate 30 none
  statics := none }

def pool2 : Array CpInfo := pool [(2, .class_ 4), (1, u "java/lang/Object"), (0, u "<init>"), (0, u "()V"), (8, .class_ 17), (1, u "com/example/itinera/itinera/XmlChars"), (0, u "NAME_START_RANGES"), (0, u "[[I"), (7, u "(I)Z"), (2, u "NAME_RANGES"), (38, u "isWhitespace")] 23

def k2m0 : Method := { name := "<init>", desc := "()V", sig := { parameters := [], returnType := none }, accessFlags := 2, code := none }
def k2c1 : Code := { maxStack := 2, maxLocals := 1, code := prog_10_method_3_code, exceptionTable := #[], attributes := #[] }
def k2m1 : Method := { name := "isWhitespace", desc := "(I)Z", sig := { parameters := [.int], returnType := some .boolean }, accessFlags := 9, code := some k2c1 }
/-- com/example/itinera/itinera/XmlChars -/
def k2 : Class := { plain "com/example/itinera/itinera/XmlChars" (some 0) with
  accessFlags := 49
  interfaces := #[]
  cf := some (fileOf pool2 15 #[] #[{ accessFlags := 2, nameIndex := 5, descriptorIndex := 6, attributes := #[] }, { accessFlags := 9, nameIndex := 69, descriptorIndex := 27, attributes := #[] }] 49 2 #[] #[{ accessFlags := 26, nameIndex := 18, descriptorIndex := 19, attributes := #[] }, { accessFlags := 26, nameIndex := 30, descriptorIndex := 19, attributes := #[] }])
  fields := #[{ name := "NAME_START_RANGES", type := (.array (.array .int)), accessFlags := 26, slot := 0, constantValue := 0 }, { name := "NAME_RANGES", type := (.array (.array .int)), accessFlags := 26, slot := 1, constantValue := 0 }]
  methods := #[k2m0, k2m1]
  instanceTypes := #[]
  staticTypes := #[(.array (.array .int)), (.array (.array .int))]
  resolved := Array.replicate 93 none
  statics := none }

def pool3 : Array CpInfo := pool [(1, u "java/lang/Cloneable"), (0, .class_ 1), (0, u "java/lang/Object"), (0, .class_ 3)] 3

/-- java/lang/Cloneable -/
def k3 : Class := { plain "java/lang/Cloneable" (some 0) with
  accessFlags := 1537
  interfaces := #[]
  cf := some (fileOf pool3 2 #[] #[] 1537 4 #[] #[])
  fields := #[]
  methods := #[]
  instanceTypes := #[]
  staticTypes := #[]
  resolved := Array.replicate 8 none
  statics := none }

def pool4 : Array CpInfo := pool [(1, u "java/io/Serializable"), (0, .class_ 1), (0, u "java/lang/Object"), (0, .class_ 3)] 3

/-- java/io/Serializable -/
def k4 : Class := { plain "java/io/Serializable" (some 0) with
  accessFlags := 1537
  interfaces := #[]
  cf := some (fileOf pool4 2 #[] #[] 1537 4 #[] #[])
  fields := #[]
  methods := #[]
  instanceTypes := #[]
  staticTypes := #[]
  resolved := Array.replicate 8 none
  statics := none }

/-- the primitive byte -/
def k5 : Class := { plain "byte" none with kind := .primitive 'B', accessFlags := 0x411 }
/-- [B -/
def k6 : Class := { plain "[B" (some 0) with kind := .array 5 .byte, interfaces := #[3, 4], accessFlags := 1041 }

/-- the primitive int -/
def k7 : Class := { plain "int" none with kind := .primitive 'I', accessFlags := 0x411 }
/-- [I -/
def k8 : Class := { plain "[I" (some 0) with kind := .array 7 .int, interfaces := #[3, 4], accessFlags := 1041 }

def heap : Heap := #[]
def classes : Array Class := #[k0, k1, k2, k3, k4, k5, k6, k7, k8]
def interned : List (Array UInt16 × Addr) := []
def slotsUsed : Nat := 0
def theMethod : MethodId := ⟨1, 2⟩
def args0 : Array Value := #[.int 5, .int 6]
def aboutOver (below : List Frame) : State where
  vm := { classes := classes, interned := interned.toArray }
  heap := heap
  slotsUsed := slotsUsed
  threads := #[{ frames := .invoking theMethod args0 :: below }]
def below0 : List Frame := [.native { method := ⟨0, 0⟩, args := #[] }]
def about1 : State := aboutOver below0
def p0 : Program := .bare "" "" ""
def e0 : Env := launch0.env 0 0 0
theorem w_frames : about1.frames = Frame.invoking theMethod args0 :: below0 := rfl
set_option maxRecDepth 65536 in
theorem w_args : argsFit about1.vm theMethod args0 = true := by decide +kernel
set_option maxRecDepth 65536 in
theorem w_heap : heapFits about1 = true := by decide +kernel
set_option maxRecDepth 65536 in
theorem w_runnable : about1.curStatus? = some .runnable := by decide +kernel
set_option maxRecDepth 65536 in
theorem w_alone : about1.alone = true := by decide +kernel
set_option maxRecDepth 65536 in
theorem w_named : about1.methodNamed? x = some theMethod := by decide +kernel
set_option maxRecDepth 65536 in
theorem w_hears : about1.hears theMethod below0 = true := by decide +kernel
set_option maxRecDepth 65536 in
theorem w_ripe : about1.ripe theMethod args0 below0 = true := by decide +kernel
theorem w_running : about1.status = .running := rfl
set_option maxRecDepth 65536 in
theorem w_room : about1.hasRoom e0.platform room_1 = true :=
  launch0.hasRoom_least _ room_1 (by decide +kernel) (by decide +kernel) (by decide +kernel) (by decide +kernel) (by decide +kernel) (by decide +kernel)
theorem allAtoms_all (ts : List Jvm.Cond) (a : Array Jvm.Value) (st : Jvm.State) : (allAtoms ts).before a st = ts.all (fun c => c.before a st) := by
  induction ts with
  | nil => rfl
  | cons c t ih =>
    show (Jvm.Cond.and c (allAtoms t)).before a st = _
    rw [Jvm.Cond.before_and, ih, List.all_cons]
def words1 : List Jvm.Cond := Jvm.Cond.code x code maxLocals ret :: tables_1
/-- a 'code' word, met by the world's own term for the bytes: nothing is compared byte by byte -/
theorem code_word {y : MethodName} {bytes : ByteArray} {mx : Nat} {rt : Option FieldType} {a : Array Value} {s : State} {m : MethodId} {meth : Method} {c : Code} (h1 : s.methodNamed? y = some m) (h2 : s.vm.method? m = some meth) (h3 : meth.code = some c) (h4 : c.code = bytes)
    (h5 : (c.maxLocals == mx && c.exceptionTable.isEmpty && decide (c.maxStack ≤ mostOperands) && decide (meth.sig.returnType = rt) && !meth.locks && decide (parseMethodDescriptor y.desc = some meth.sig)) = true) : (Jvm.Cond.code y bytes mx rt).before a s = true := by
  simp only [Bool.and_eq_true, beq_iff_eq, Bool.not_eq_true', decide_eq_true_eq] at h5
  obtain ⟨⟨⟨⟨⟨g1, g2⟩, g3⟩, g4⟩, g5⟩, g6⟩ := h5
  simp [Cond.before, Cond.holds, Cond.value, h1, h2, h3, h4, g1, g2, g3, g4, g5, g6]
def isCode : Jvm.Cond → Bool
  | .code _ _ _ _ => true
  | _ => false
theorem all_split {L : List Jvm.Cond} {P : Jvm.Cond → Bool} (h1 : L.all (fun c => isCode c || P c) = true) (h2 : ∀ c ∈ L.filter isCode, P c = true) : L.all P = true := by
  refine List.all_eq_true.mpr fun c hc => ?_
  have h := List.all_eq_true.mp h1 c hc
  rcases Bool.eq_false_or_eq_true (isCode c) with hi | hi
  · exact h2 c (List.mem_filter.mpr ⟨hc, hi⟩)
  · simpa [hi] using h
set_option maxRecDepth 65536 in
theorem w_c0 : (Jvm.Cond.code x code maxLocals ret).before args0 about1 = true := code_word (m := ⟨1, 2⟩) (meth := k1m2) (c := k1c2) (by decide +kernel) rfl rfl rfl (by decide +kernel)
set_option maxRecDepth 65536 in
theorem w_c1 : (Jvm.Cond.code ({ cls := "com/example/itinera/itinera/XmlChars", name := "isWhitespace", desc := "(I)Z" } : Jvm.MethodName) prog_10_method_3_code (1 : Nat) (Option.some Jvm.ClassFile.FieldType.boolean)).before args0 about1 = true := code_word (m := ⟨2, 1⟩) (meth := k2m1) (c := k2c1) (by decide +kernel) rfl rfl rfl (by decide +kernel)
set_option maxRecDepth 65536 in
theorem w_c2 : (Jvm.Cond.code ({ cls := "com/example/itinera/itinera/XmlCharsIsWhitespacePinLaw", name := "reference", desc := "(I)Z" } : Jvm.MethodName) method_2_code (1 : Nat) (Option.some Jvm.ClassFile.FieldType.boolean)).before args0 about1 = true := code_word (m := ⟨1, 1⟩) (meth := k1m1) (c := k1c1) (by decide +kernel) rfl rfl rfl (by decide +kernel)
def codes1 : List Jvm.Cond := [Jvm.Cond.code x code maxLocals ret, Jvm.Cond.code ({ cls := "com/example/itinera/itinera/XmlChars", name := "isWhitespace", desc := "(I)Z" } : Jvm.MethodName) prog_10_method_3_code (1 : Nat) (Option.some Jvm.ClassFile.FieldType.boolean), Jvm.Cond.code ({ cls := "com/example/itinera/itinera/XmlCharsIsWhitespacePinLaw", name := "reference", desc := "(I)Z" } : Jvm.MethodName) method_2_code (1 : Nat) (Option.some Jvm.ClassFile.FieldType.boolean)]
set_option maxRecDepth 65536 in
theorem codes_eq : words1.filter isCode = codes1 := rfl
theorem w_codes : ∀ c ∈ words1.filter isCode, c.before args0 about1 = true := by
  rw [codes_eq]
  intro c hc
  simp only [codes1, List.mem_cons, List.not_mem_nil, or_false] at hc
  rcases hc with rfl | rfl | rfl
  · exact w_c0
  · exact w_c1
  · exact w_c2
set_option maxRecDepth 65536 in
theorem w_t1 : words1.all (fun c => isCode c || c.before args0 about1) = true := by decide +kernel
theorem w_tables : (allAtoms (Jvm.Cond.code x code maxLocals ret :: tables_1)).before args0 about1 = true := by
  rw [allAtoms_all]
  show words1.all (fun c => c.before args0 about1) = true
  refine all_split ?_ w_codes
  rw [w_t1]
set_option maxRecDepth 65536 in
theorem w_case : (Jvm.Cond.and given_1 narrow_1).before args0 about1 = true := by decide +kernel
theorem w_applies : (headSpec (Jvm.Cond.code x code maxLocals ret :: tables_1) room_1).applies x e0.platform about1 = true :=
  (Spec.applies_iff w_frames).mpr ⟨w_running, w_runnable, w_alone, w_named, w_hears, w_ripe, w_room, w_tables⟩
theorem atStart : AtStart classFile x code maxLocals ret World_1 tables_1 room_1 Calls_1 rest_1 Pre_1 launch0 p0 e0 about1 theMethod args0 below0 :=
  ⟨lists_1, trivial, launch0.admits_env _ _ _, launch0.least_env, fairChoices_fair.cas, fairChoices_fair.clock, w_frames, w_args, w_heap, w_applies, trivial, trivial, w_case⟩
end start1
theorem witness_1 : WitnessClaimed_1 := ⟨start1.p0, start1.e0, start1.about1, start1.theMethod, start1.args0, start1.below0, start1.atStart⟩
end Jvm.Pilot.@@N@@
