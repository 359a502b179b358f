import JvmDerived
import JvmDerived.Pilot.@@N@@Statement
import JvmDerived.Pilot.@@N@@Code
set_option linter.unusedVariables false
set_option linter.unusedSimpArgs false
namespace Jvm.Pilot.@@N@@
open Jvm Jvm.ClassFile Sem Op Lib Jvm.Free Jvm.Stand Jvm.LawKit Jvm.RoadKit Bundle Jvm.Pilot.@@N@@.Jvm.D
/-- what a return of the int z asks of the frames below -/
abbrev own_Rt (e : Env) (T : State) (m : MethodId) (fs : List Frame) (w : Value) : Prop := ∀ (f : JFrame) (acts : List Action), f.method = m → f.locked = none → f.entered = [] → (doReturn e (T.setTop f) acts (some w)).1 = T.setFrames fs
theorem d1_0 : decode prog_10_method_2_code 0 = .ok (.iload_n 0, 1) := by decide +kernel
theorem d1_1 : decode prog_10_method_2_code 1 = .ok (.bipush 9, 2) := by decide +kernel
theorem d1_3 : decode prog_10_method_2_code 3 = .ok (.if_icmp .eq 51, 3) := by decide +kernel
theorem d1_6 : decode prog_10_method_2_code 6 = .ok (.iload_n 0, 1) := by decide +kernel
theorem d1_7 : decode prog_10_method_2_code 7 = .ok (.bipush 10, 2) := by decide +kernel
theorem d1_9 : decode prog_10_method_2_code 9 = .ok (.if_icmp .eq 45, 3) := by decide +kernel
theorem d1_12 : decode prog_10_method_2_code 12 = .ok (.iload_n 0, 1) := by decide +kernel
theorem d1_13 : decode prog_10_method_2_code 13 = .ok (.bipush 13, 2) := by decide +kernel
theorem d1_15 : decode prog_10_method_2_code 15 = .ok (.if_icmp .eq 39, 3) := by decide +kernel
theorem d1_18 : decode prog_10_method_2_code 18 = .ok (.iload_n 0, 1) := by decide +kernel
theorem d1_19 : decode prog_10_method_2_code 19 = .ok (.bipush 32, 2) := by decide +kernel
theorem d1_21 : decode prog_10_method_2_code 21 = .ok (.if_icmp .lt 9, 3) := by decide +kernel
theorem d1_24 : decode prog_10_method_2_code 24 = .ok (.iload_n 0, 1) := by decide +kernel
theorem d1_25 : decode prog_10_method_2_code 25 = .ok (.ldc 7, 2) := by decide +kernel
theorem d1_27 : decode prog_10_method_2_code 27 = .ok (.if_icmp .le 27, 3) := by decide +kernel
theorem d1_30 : decode prog_10_method_2_code 30 = .ok (.iload_n 0, 1) := by decide +kernel
theorem d1_31 : decode prog_10_method_2_code 31 = .ok (.ldc 8, 2) := by decide +kernel
theorem d1_33 : decode prog_10_method_2_code 33 = .ok (.if_icmp .lt 9, 3) := by decide +kernel
theorem d1_36 : decode prog_10_method_2_code 36 = .ok (.iload_n 0, 1) := by decide +kernel
theorem d1_37 : decode prog_10_method_2_code 37 = .ok (.ldc 9, 2) := by decide +kernel
theorem d1_39 : decode prog_10_method_2_code 39 = .ok (.if_icmp .le 15, 3) := by decide +kernel
theorem d1_42 : decode prog_10_method_2_code 42 = .ok (.iload_n 0, 1) := by decide +kernel
theorem d1_43 : decode prog_10_method_2_code 43 = .ok (.ldc 10, 2) := by decide +kernel
theorem d1_45 : decode prog_10_method_2_code 45 = .ok (.if_icmp .lt 13, 3) := by decide +kernel
theorem d1_48 : decode prog_10_method_2_code 48 = .ok (.iload_n 0, 1) := by decide +kernel
theorem d1_49 : decode prog_10_method_2_code 49 = .ok (.ldc 13, 2) := by decide +kernel
theorem d1_51 : decode prog_10_method_2_code 51 = .ok (.if_icmp .gt 7, 3) := by decide +kernel
theorem d1_54 : decode prog_10_method_2_code 54 = .ok (.iconst 1, 1) := by decide +kernel
theorem d1_55 : decode prog_10_method_2_code 55 = .ok (.goto 4, 3) := by decide +kernel
theorem d1_58 : decode prog_10_method_2_code 58 = .ok (.iconst 0, 1) := by decide +kernel
theorem d1_59 : decode prog_10_method_2_code 59 = .ok (.ireturn, 1) := by decide +kernel
theorem pn_1 : plainName "com/example/itinera/itinera/XmlChars" = true := by first | (simp [plainName, overriddenIn]; done) | decide +kernel
theorem ef_1 (m : MethodId) (x0 : Int32) : entryFrame m #[(.int x0)] 1 = (mkF m 0 #[.val (.int x0)] []) := by first | (simp [entryFrame, mkF, argsToLocals, Value.category]; done) | rfl
def f1_58 (v0 : Int32) : Int32 := (0 : Int32)
def f1_54 (v0 : Int32) : Int32 := (1 : Int32)
def f1_48 (v0 : Int32) : Int32 := if (1114111 : Int32) < v0 then f1_58 v0 else f1_54 v0
def f1_42 (v0 : Int32) : Int32 := if v0 < (65536 : Int32) then f1_58 v0 else f1_48 v0
def f1_36 (v0 : Int32) : Int32 := if (65533 : Int32) < v0 then f1_42 v0 else f1_54 v0
def f1_30 (v0 : Int32) : Int32 := if v0 < (57344 : Int32) then f1_42 v0 else f1_36 v0
def f1_24 (v0 : Int32) : Int32 := if (55295 : Int32) < v0 then f1_30 v0 else f1_54 v0
def f1_18 (v0 : Int32) : Int32 := if v0 < (32 : Int32) then f1_30 v0 else f1_24 v0
def f1_12 (v0 : Int32) : Int32 := if v0 = (13 : Int32) then f1_54 v0 else f1_18 v0
def f1_6 (v0 : Int32) : Int32 := if v0 = (10 : Int32) then f1_54 v0 else f1_12 v0
def f1_0 (v0 : Int32) : Int32 := if v0 = (9 : Int32) then f1_54 v0 else f1_6 v0
section Own1
variable {p : Program} {l : Launch} {e : Env} {R : Room} {s : State} {m : MethodId} {args : Array Value} {below : List Frame} {meth : Method} {c : Code} {T : State} {locs : List Loc} {cells slots : Nat} {Z : State} {a0 : Array Value}
theorem g1_58 (X : Stand p l e R s m args below meth c T locs cells slots) (hx : p.tables.exec = Jvm.exec) (hby : c.code = prog_10_method_2_code) (hret : meth.sig.returnType = some .boolean) (hZ : Z.Warmed39 s.vm) (hown : s.vm.findClass "com/example/itinera/itinera/XmlChars" = some m.cls) (hw : ∀ d ∈ tables_1, d.before a0 Z = true) (v0 : Int32) {fs : List Frame} (hl : own_Rt e T m fs (.int (f1_58 v0))) : Steps p.tables e below (T.setTop (mkF m 58 #[.val (.int v0)] [])) (T.setFrames fs) := by
  show Steps p.tables e below (T.setTop (mkF m 58 #[.val (.int v0)] [])) _
  refine XS.iconst X.here hx rfl (hb hby d1_58) ?_
  show Steps p.tables e below (T.setTop (mkF m 59 #[.val (.int v0)] [(.int (0 : Int32))])) _
  exact retN X hx (t := .boolean) hret (by simp) (hb hby d1_59) hl
theorem g1_54 (X : Stand p l e R s m args below meth c T locs cells slots) (hx : p.tables.exec = Jvm.exec) (hby : c.code = prog_10_method_2_code) (hret : meth.sig.returnType = some .boolean) (hZ : Z.Warmed39 s.vm) (hown : s.vm.findClass "com/example/itinera/itinera/XmlChars" = some m.cls) (hw : ∀ d ∈ tables_1, d.before a0 Z = true) (v0 : Int32) {fs : List Frame} (hl : own_Rt e T m fs (.int (f1_54 v0))) : Steps p.tables e below (T.setTop (mkF m 54 #[.val (.int v0)] [])) (T.setFrames fs) := by
  show Steps p.tables e below (T.setTop (mkF m 54 #[.val (.int v0)] [])) _
  refine XS.iconst X.here hx rfl (hb hby d1_54) ?_
  show Steps p.tables e below (T.setTop (mkF m 55 #[.val (.int v0)] [(.int (1 : Int32))])) _
  refine XS.goto X.here hx rfl (pc0 := 55) (pc' := 59) rfl (hb hby d1_55) (by decide) (by decide) ?_
  show Steps p.tables e below (T.setTop (mkF m 59 #[.val (.int v0)] [(.int (1 : Int32))])) _
  exact retN X hx (t := .boolean) hret (by simp) (hb hby d1_59) hl
theorem g1_48 (X : Stand p l e R s m args below meth c T locs cells slots) (hx : p.tables.exec = Jvm.exec) (hby : c.code = prog_10_method_2_code) (hret : meth.sig.returnType = some .boolean) (hZ : Z.Warmed39 s.vm) (hown : s.vm.findClass "com/example/itinera/itinera/XmlChars" = some m.cls) (hw : ∀ d ∈ tables_1, d.before a0 Z = true) (v0 : Int32) {fs : List Frame} (hl : own_Rt e T m fs (.int (f1_48 v0))) : Steps p.tables e below (T.setTop (mkF m 48 #[.val (.int v0)] [])) (T.setFrames fs) := by
  show Steps p.tables e below (T.setTop (mkF m 48 #[.val (.int v0)] [])) _
  refine XS.iloadN X.here hx rfl (hb hby d1_48) rfl ?_
  show Steps p.tables e below (T.setTop (mkF m 49 #[.val (.int v0)] [(.int v0)])) _
  refine X.ldcI hx hown (mv hZ (hw _ (List.mem_of_getElem? (i := 25) rfl))) rfl (hb hby d1_49) ?_
  show Steps p.tables e below (T.setTop (mkF m 51 #[.val (.int v0)] [(.int (1114111 : Int32)), (.int v0)])) _
  by_cases hc : (1114111 : Int32) < v0
  · rw [show f1_48 v0 = f1_58 v0 from if_pos hc] at hl
    refine XS.icmpYes X.here hx rfl (pc0 := 51) (pc' := 58) rfl (hb hby d1_51) rfl (tlt hc).2.2.1 (by decide) (by decide) ?_
    exact g1_58 X hx hby hret hZ hown hw v0 hl
  · rw [show f1_48 v0 = f1_54 v0 from if_neg hc] at hl
    refine XS.icmpNo X.here hx rfl (hb hby d1_51) rfl (flt hc).2.2.1 ?_
    exact g1_54 X hx hby hret hZ hown hw v0 hl
theorem g1_42 (X : Stand p l e R s m args below meth c T locs cells slots) (hx : p.tables.exec = Jvm.exec) (hby : c.code = prog_10_method_2_code) (hret : meth.sig.returnType = some .boolean) (hZ : Z.Warmed39 s.vm) (hown : s.vm.findClass "com/example/itinera/itinera/XmlChars" = some m.cls) (hw : ∀ d ∈ tables_1, d.before a0 Z = true) (v0 : Int32) {fs : List Frame} (hl : own_Rt e T m fs (.int (f1_42 v0))) : Steps p.tables e below (T.setTop (mkF m 42 #[.val (.int v0)] [])) (T.setFrames fs) := by
  show Steps p.tables e below (T.setTop (mkF m 42 #[.val (.int v0)] [])) _
  refine XS.iloadN X.here hx rfl (hb hby d1_42) rfl ?_
  show Steps p.tables e below (T.setTop (mkF m 43 #[.val (.int v0)] [(.int v0)])) _
  refine X.ldcI hx hown (mv hZ (hw _ (List.mem_of_getElem? (i := 18) rfl))) rfl (hb hby d1_43) ?_
  show Steps p.tables e below (T.setTop (mkF m 45 #[.val (.int v0)] [(.int (65536 : Int32)), (.int v0)])) _
  by_cases hc : v0 < (65536 : Int32)
  · rw [show f1_42 v0 = f1_58 v0 from if_pos hc] at hl
    refine XS.icmpYes X.here hx rfl (pc0 := 45) (pc' := 58) rfl (hb hby d1_45) rfl (tlt hc).1 (by decide) (by decide) ?_
    exact g1_58 X hx hby hret hZ hown hw v0 hl
  · rw [show f1_42 v0 = f1_48 v0 from if_neg hc] at hl
    refine XS.icmpNo X.here hx rfl (hb hby d1_45) rfl (flt hc).1 ?_
    exact g1_48 X hx hby hret hZ hown hw v0 hl
theorem g1_36 (X : Stand p l e R s m args below meth c T locs cells slots) (hx : p.tables.exec = Jvm.exec) (hby : c.code = prog_10_method_2_code) (hret : meth.sig.returnType = some .boolean) (hZ : Z.Warmed39 s.vm) (hown : s.vm.findClass "com/example/itinera/itinera/XmlChars" = some m.cls) (hw : ∀ d ∈ tables_1, d.before a0 Z = true) (v0 : Int32) {fs : List Frame} (hl : own_Rt e T m fs (.int (f1_36 v0))) : Steps p.tables e below (T.setTop (mkF m 36 #[.val (.int v0)] [])) (T.setFrames fs) := by
  show Steps p.tables e below (T.setTop (mkF m 36 #[.val (.int v0)] [])) _
  refine XS.iloadN X.here hx rfl (hb hby d1_36) rfl ?_
  show Steps p.tables e below (T.setTop (mkF m 37 #[.val (.int v0)] [(.int v0)])) _
  refine X.ldcI hx hown (mv hZ (hw _ (List.mem_of_getElem? (i := 24) rfl))) rfl (hb hby d1_37) ?_
  show Steps p.tables e below (T.setTop (mkF m 39 #[.val (.int v0)] [(.int (65533 : Int32)), (.int v0)])) _
  by_cases hc : (65533 : Int32) < v0
  · rw [show f1_36 v0 = f1_42 v0 from if_pos hc] at hl
    refine XS.icmpNo X.here hx rfl (hb hby d1_39) rfl (tlt hc).2.2.2 ?_
    exact g1_42 X hx hby hret hZ hown hw v0 hl
  · rw [show f1_36 v0 = f1_54 v0 from if_neg hc] at hl
    refine XS.icmpYes X.here hx rfl (pc0 := 39) (pc' := 54) rfl (hb hby d1_39) rfl (flt hc).2.2.2 (by decide) (by decide) ?_
    exact g1_54 X hx hby hret hZ hown hw v0 hl
theorem g1_30 (X : Stand p l e R s m args below meth c T locs cells slots) (hx : p.tables.exec = Jvm.exec) (hby : c.code = prog_10_method_2_code) (hret : meth.sig.returnType = some .boolean) (hZ : Z.Warmed39 s.vm) (hown : s.vm.findClass "com/example/itinera/itinera/XmlChars" = some m.cls) (hw : ∀ d ∈ tables_1, d.before a0 Z = true) (v0 : Int32) {fs : List Frame} (hl : own_Rt e T m fs (.int (f1_30 v0))) : Steps p.tables e below (T.setTop (mkF m 30 #[.val (.int v0)] [])) (T.setFrames fs) := by
  show Steps p.tables e below (T.setTop (mkF m 30 #[.val (.int v0)] [])) _
  refine XS.iloadN X.here hx rfl (hb hby d1_30) rfl ?_
  show Steps p.tables e below (T.setTop (mkF m 31 #[.val (.int v0)] [(.int v0)])) _
  refine X.ldcI hx hown (mv hZ (hw _ (List.mem_of_getElem? (i := 17) rfl))) rfl (hb hby d1_31) ?_
  show Steps p.tables e below (T.setTop (mkF m 33 #[.val (.int v0)] [(.int (57344 : Int32)), (.int v0)])) _
  by_cases hc : v0 < (57344 : Int32)
  · rw [show f1_30 v0 = f1_42 v0 from if_pos hc] at hl
    refine XS.icmpYes X.here hx rfl (pc0 := 33) (pc' := 42) rfl (hb hby d1_33) rfl (tlt hc).1 (by decide) (by decide) ?_
    exact g1_42 X hx hby hret hZ hown hw v0 hl
  · rw [show f1_30 v0 = f1_36 v0 from if_neg hc] at hl
    refine XS.icmpNo X.here hx rfl (hb hby d1_33) rfl (flt hc).1 ?_
    exact g1_36 X hx hby hret hZ hown hw v0 hl
theorem g1_24 (X : Stand p l e R s m args below meth c T locs cells slots) (hx : p.tables.exec = Jvm.exec) (hby : c.code = prog_10_method_2_code) (hret : meth.sig.returnType = some .boolean) (hZ : Z.Warmed39 s.vm) (hown : s.vm.findClass "com/example/itinera/itinera/XmlChars" = some m.cls) (hw : ∀ d ∈ tables_1, d.before a0 Z = true) (v0 : Int32) {fs : List Frame} (hl : own_Rt e T m fs (.int (f1_24 v0))) : Steps p.tables e below (T.setTop (mkF m 24 #[.val (.int v0)] [])) (T.setFrames fs) := by
  show Steps p.tables e below (T.setTop (mkF m 24 #[.val (.int v0)] [])) _
  refine XS.iloadN X.here hx rfl (hb hby d1_24) rfl ?_
  show Steps p.tables e below (T.setTop (mkF m 25 #[.val (.int v0)] [(.int v0)])) _
  refine X.ldcI hx hown (mv hZ (hw _ (List.mem_of_getElem? (i := 23) rfl))) rfl (hb hby d1_25) ?_
  show Steps p.tables e below (T.setTop (mkF m 27 #[.val (.int v0)] [(.int (55295 : Int32)), (.int v0)])) _
  by_cases hc : (55295 : Int32) < v0
  · rw [show f1_24 v0 = f1_30 v0 from if_pos hc] at hl
    refine XS.icmpNo X.here hx rfl (hb hby d1_27) rfl (tlt hc).2.2.2 ?_
    exact g1_30 X hx hby hret hZ hown hw v0 hl
  · rw [show f1_24 v0 = f1_54 v0 from if_neg hc] at hl
    refine XS.icmpYes X.here hx rfl (pc0 := 27) (pc' := 54) rfl (hb hby d1_27) rfl (flt hc).2.2.2 (by decide) (by decide) ?_
    exact g1_54 X hx hby hret hZ hown hw v0 hl
theorem g1_18 (X : Stand p l e R s m args below meth c T locs cells slots) (hx : p.tables.exec = Jvm.exec) (hby : c.code = prog_10_method_2_code) (hret : meth.sig.returnType = some .boolean) (hZ : Z.Warmed39 s.vm) (hown : s.vm.findClass "com/example/itinera/itinera/XmlChars" = some m.cls) (hw : ∀ d ∈ tables_1, d.before a0 Z = true) (v0 : Int32) {fs : List Frame} (hl : own_Rt e T m fs (.int (f1_18 v0))) : Steps p.tables e below (T.setTop (mkF m 18 #[.val (.int v0)] [])) (T.setFrames fs) := by
  show Steps p.tables e below (T.setTop (mkF m 18 #[.val (.int v0)] [])) _
  refine XS.iloadN X.here hx rfl (hb hby d1_18) rfl ?_
  show Steps p.tables e below (T.setTop (mkF m 19 #[.val (.int v0)] [(.int v0)])) _
  refine XS.bipush X.here hx rfl (hb hby d1_19) ?_
  show Steps p.tables e below (T.setTop (mkF m 21 #[.val (.int v0)] [(.int (32 : Int32)), (.int v0)])) _
  by_cases hc : v0 < (32 : Int32)
  · rw [show f1_18 v0 = f1_30 v0 from if_pos hc] at hl
    refine XS.icmpYes X.here hx rfl (pc0 := 21) (pc' := 30) rfl (hb hby d1_21) rfl (tlt hc).1 (by decide) (by decide) ?_
    exact g1_30 X hx hby hret hZ hown hw v0 hl
  · rw [show f1_18 v0 = f1_24 v0 from if_neg hc] at hl
    refine XS.icmpNo X.here hx rfl (hb hby d1_21) rfl (flt hc).1 ?_
    exact g1_24 X hx hby hret hZ hown hw v0 hl
theorem g1_12 (X : Stand p l e R s m args below meth c T locs cells slots) (hx : p.tables.exec = Jvm.exec) (hby : c.code = prog_10_method_2_code) (hret : meth.sig.returnType = some .boolean) (hZ : Z.Warmed39 s.vm) (hown : s.vm.findClass "com/example/itinera/itinera/XmlChars" = some m.cls) (hw : ∀ d ∈ tables_1, d.before a0 Z = true) (v0 : Int32) {fs : List Frame} (hl : own_Rt e T m fs (.int (f1_12 v0))) : Steps p.tables e below (T.setTop (mkF m 12 #[.val (.int v0)] [])) (T.setFrames fs) := by
  show Steps p.tables e below (T.setTop (mkF m 12 #[.val (.int v0)] [])) _
  refine XS.iloadN X.here hx rfl (hb hby d1_12) rfl ?_
  show Steps p.tables e below (T.setTop (mkF m 13 #[.val (.int v0)] [(.int v0)])) _
  refine XS.bipush X.here hx rfl (hb hby d1_13) ?_
  show Steps p.tables e below (T.setTop (mkF m 15 #[.val (.int v0)] [(.int (13 : Int32)), (.int v0)])) _
  by_cases hc : v0 = (13 : Int32)
  · rw [show f1_12 v0 = f1_54 v0 from if_pos hc] at hl
    refine XS.icmpYes X.here hx rfl (pc0 := 15) (pc' := 54) rfl (hb hby d1_15) rfl (teq hc).1 (by decide) (by decide) ?_
    exact g1_54 X hx hby hret hZ hown hw v0 hl
  · rw [show f1_12 v0 = f1_18 v0 from if_neg hc] at hl
    refine XS.icmpNo X.here hx rfl (hb hby d1_15) rfl (feq hc).1 ?_
    exact g1_18 X hx hby hret hZ hown hw v0 hl
theorem g1_6 (X : Stand p l e R s m args below meth c T locs cells slots) (hx : p.tables.exec = Jvm.exec) (hby : c.code = prog_10_method_2_code) (hret : meth.sig.returnType = some .boolean) (hZ : Z.Warmed39 s.vm) (hown : s.vm.findClass "com/example/itinera/itinera/XmlChars" = some m.cls) (hw : ∀ d ∈ tables_1, d.before a0 Z = true) (v0 : Int32) {fs : List Frame} (hl : own_Rt e T m fs (.int (f1_6 v0))) : Steps p.tables e below (T.setTop (mkF m 6 #[.val (.int v0)] [])) (T.setFrames fs) := by
  show Steps p.tables e below (T.setTop (mkF m 6 #[.val (.int v0)] [])) _
  refine XS.iloadN X.here hx rfl (hb hby d1_6) rfl ?_
  show Steps p.tables e below (T.setTop (mkF m 7 #[.val (.int v0)] [(.int v0)])) _
  refine XS.bipush X.here hx rfl (hb hby d1_7) ?_
  show Steps p.tables e below (T.setTop (mkF m 9 #[.val (.int v0)] [(.int (10 : Int32)), (.int v0)])) _
  by_cases hc : v0 = (10 : Int32)
  · rw [show f1_6 v0 = f1_54 v0 from if_pos hc] at hl
    refine XS.icmpYes X.here hx rfl (pc0 := 9) (pc' := 54) rfl (hb hby d1_9) rfl (teq hc).1 (by decide) (by decide) ?_
    exact g1_54 X hx hby hret hZ hown hw v0 hl
  · rw [show f1_6 v0 = f1_12 v0 from if_neg hc] at hl
    refine XS.icmpNo X.here hx rfl (hb hby d1_9) rfl (feq hc).1 ?_
    exact g1_12 X hx hby hret hZ hown hw v0 hl
theorem g1_0 (X : Stand p l e R s m args below meth c T locs cells slots) (hx : p.tables.exec = Jvm.exec) (hby : c.code = prog_10_method_2_code) (hret : meth.sig.returnType = some .boolean) (hZ : Z.Warmed39 s.vm) (hown : s.vm.findClass "com/example/itinera/itinera/XmlChars" = some m.cls) (hw : ∀ d ∈ tables_1, d.before a0 Z = true) (v0 : Int32) {fs : List Frame} (hl : own_Rt e T m fs (.int (f1_0 v0))) : Steps p.tables e below (T.setTop (mkF m 0 #[.val (.int v0)] [])) (T.setFrames fs) := by
  show Steps p.tables e below (T.setTop (mkF m 0 #[.val (.int v0)] [])) _
  refine XS.iloadN X.here hx rfl (hb hby d1_0) rfl ?_
  show Steps p.tables e below (T.setTop (mkF m 1 #[.val (.int v0)] [(.int v0)])) _
  refine XS.bipush X.here hx rfl (hb hby d1_1) ?_
  show Steps p.tables e below (T.setTop (mkF m 3 #[.val (.int v0)] [(.int (9 : Int32)), (.int v0)])) _
  by_cases hc : v0 = (9 : Int32)
  · rw [show f1_0 v0 = f1_54 v0 from if_pos hc] at hl
    refine XS.icmpYes X.here hx rfl (pc0 := 3) (pc' := 54) rfl (hb hby d1_3) rfl (teq hc).1 (by decide) (by decide) ?_
    exact g1_54 X hx hby hret hZ hown hw v0 hl
  · rw [show f1_0 v0 = f1_6 v0 from if_neg hc] at hl
    refine XS.icmpNo X.here hx rfl (hb hby d1_3) rfl (feq hc).1 ?_
    exact g1_6 X hx hby hret hZ hown hw v0 hl
end Own1
def Q1 (v0 : Int32) (h0 : Heap) (n0 : Nat) (v : Option Value) (h : Heap) (L : List Loc) : Prop := v = some (.int (f1_0 v0)) ∧ Fr n0 L ∧ h = h0
set_option maxRecDepth 65536 in
set_option maxHeartbeats 40000000 in
theorem rm1 (l : Launch) (Z : State) (a0 : Array Value) (hw : ∀ d ∈ tables_1, d.before a0 Z = true) (ws : List Jvm.Cond) (v0 : Int32) (h0 : Heap) (n0 : Nat) (Z0 : n0 ≤ h0.size) :
    MetFree l (⟨"com/example/itinera/itinera/XmlChars", "isXmlChar", "(I)Z"⟩ : MethodName) (head1 (Jvm.Cond.code (⟨"com/example/itinera/itinera/XmlChars", "isXmlChar", "(I)Z"⟩ : MethodName) prog_10_method_2_code 1 (some .boolean) :: ws) ({ frames := 0, cells := 0, slots := 0, locals := 0 } : Room)) (fun a U => a = #[(.int v0)] ∧ Z.Warmed39 U.vm ∧ U.heap = h0) (fun _ _ _ _ _ => True) (fun _ U o U' => ∃ v L, o = .returned v ∧ Q1 v0 h0 n0 v U'.heap L ∧ FrameEnd U o U' L ({ frames := 0, cells := 0, slots := 0, locals := 0 } : Room).cells ({ frames := 0, cells := 0, slots := 0, locals := 0 } : Room).slots) := by
  refine MetFree.of_bodySF (plainFor_of_name pn_1) hisR ?_
  intro p e s m args below meth c s₁ Bd hml0 hP hK
  obtain ⟨rfl, hZ, hh⟩ := hP
  have hx := Bd.exec
  have hby := Bd.bytes
  have hown : s.vm.findClass "com/example/itinera/itinera/XmlChars" = some m.cls := findClass_of_methodNamed Bd.named
  have X0 : Stand p l e ({ frames := 0, cells := 0, slots := 0, locals := 0 } : Room) s m #[(.int v0)] below meth c s₁ [] 0 0 := Stand.of_body Bd
  have e0 : s₁.heap = h0 := by rw [← hh, Bd.state]; rfl
  have N0 := Fr.nil n0
  have pre0 : ∀ t, Steps p.tables e below (s₁.setTop (mkF m 0 #[.val (.int v0)] [])) t → Steps p.tables e below (s₁.setTop (entryFrame m #[(.int v0)] 1)) t := fun t k => castTop (ef_1 m v0) k
  obtain ⟨fs, hr, hrun, hended, hW, hsame⟩ := X0.leave (v := some (.int (f1_0 v0))) (fun h => by rw [Bd.returns] at h; cases h)
  refine ⟨_, _, pre0 _ ?_, hrun, hended, _, _, rfl, ?_, ⟨_, rfl⟩, hW, hsame.mono (by decide) (by decide)⟩
  · exact g1_0 X0 hx hby Bd.returns hZ hown hw v0 hr
  · show Q1 v0 h0 n0 _ s₁.heap _
    rw [e0]
    exact ⟨rfl, N0, rfl⟩
theorem pd_1 : parseMethodDescriptor "(I)Z" = some ⟨[.int], some .boolean⟩ := by decide +kernel
theorem d2_0 : decode method_2_code 0 = .ok (.iload_n 0, 1) := by decide +kernel
theorem d2_1 : decode method_2_code 1 = .ok (.ifCond .lt 9, 3) := by decide +kernel
theorem d2_4 : decode method_2_code 4 = .ok (.iload_n 0, 1) := by decide +kernel
theorem d2_5 : decode method_2_code 5 = .ok (.ldc 7, 2) := by decide +kernel
theorem d2_7 : decode method_2_code 7 = .ok (.if_icmp .le 5, 3) := by decide +kernel
theorem d2_10 : decode method_2_code 10 = .ok (.iconst 0, 1) := by decide +kernel
theorem d2_11 : decode method_2_code 11 = .ok (.ireturn, 1) := by decide +kernel
theorem d2_12 : decode method_2_code 12 = .ok (.iload_n 0, 1) := by decide +kernel
theorem d2_13 : decode method_2_code 13 = .ok (.bipush 32, 2) := by decide +kernel
theorem d2_15 : decode method_2_code 15 = .ok (.if_icmp .ge 27, 3) := by decide +kernel
theorem d2_18 : decode method_2_code 18 = .ok (.iload_n 0, 1) := by decide +kernel
theorem d2_19 : decode method_2_code 19 = .ok (.bipush 9, 2) := by decide +kernel
theorem d2_21 : decode method_2_code 21 = .ok (.if_icmp .eq 15, 3) := by decide +kernel
theorem d2_24 : decode method_2_code 24 = .ok (.iload_n 0, 1) := by decide +kernel
theorem d2_25 : decode method_2_code 25 = .ok (.bipush 10, 2) := by decide +kernel
theorem d2_27 : decode method_2_code 27 = .ok (.if_icmp .eq 9, 3) := by decide +kernel
theorem d2_30 : decode method_2_code 30 = .ok (.iload_n 0, 1) := by decide +kernel
theorem d2_31 : decode method_2_code 31 = .ok (.bipush 13, 2) := by decide +kernel
theorem d2_33 : decode method_2_code 33 = .ok (.if_icmp .ne 7, 3) := by decide +kernel
theorem d2_36 : decode method_2_code 36 = .ok (.iconst 1, 1) := by decide +kernel
theorem d2_37 : decode method_2_code 37 = .ok (.goto 4, 3) := by decide +kernel
theorem d2_40 : decode method_2_code 40 = .ok (.iconst 0, 1) := by decide +kernel
theorem d2_41 : decode method_2_code 41 = .ok (.ireturn, 1) := by decide +kernel
theorem d2_42 : decode method_2_code 42 = .ok (.iload_n 0, 1) := by decide +kernel
theorem d2_43 : decode method_2_code 43 = .ok (.ldc 8, 2) := by decide +kernel
theorem d2_45 : decode method_2_code 45 = .ok (.if_icmp .lt 11, 3) := by decide +kernel
theorem d2_48 : decode method_2_code 48 = .ok (.iload_n 0, 1) := by decide +kernel
theorem d2_49 : decode method_2_code 49 = .ok (.ldc 9, 2) := by decide +kernel
theorem d2_51 : decode method_2_code 51 = .ok (.if_icmp .gt 5, 3) := by decide +kernel
theorem d2_54 : decode method_2_code 54 = .ok (.iconst 0, 1) := by decide +kernel
theorem d2_55 : decode method_2_code 55 = .ok (.ireturn, 1) := by decide +kernel
theorem d2_56 : decode method_2_code 56 = .ok (.iload_n 0, 1) := by decide +kernel
theorem d2_57 : decode method_2_code 57 = .ok (.ldc 10, 2) := by decide +kernel
theorem d2_59 : decode method_2_code 59 = .ok (.if_icmp .eq 9, 3) := by decide +kernel
theorem d2_62 : decode method_2_code 62 = .ok (.iload_n 0, 1) := by decide +kernel
theorem d2_63 : decode method_2_code 63 = .ok (.ldc 11, 2) := by decide +kernel
theorem d2_65 : decode method_2_code 65 = .ok (.if_icmp .ne 5, 3) := by decide +kernel
theorem d2_68 : decode method_2_code 68 = .ok (.iconst 0, 1) := by decide +kernel
theorem d2_69 : decode method_2_code 69 = .ok (.ireturn, 1) := by decide +kernel
theorem d2_70 : decode method_2_code 70 = .ok (.iconst 1, 1) := by decide +kernel
theorem d2_71 : decode method_2_code 71 = .ok (.ireturn, 1) := by decide +kernel
theorem pn_2 : plainName "com/example/itinera/itinera/XmlCharsIsXmlCharPinLaw" = true := by first | (simp [plainName, overriddenIn]; done) | decide +kernel
theorem ef_2 (m : MethodId) (x0 : Int32) : entryFrame m #[(.int x0)] 1 = (mkF m 0 #[.val (.int x0)] []) := by first | (simp [entryFrame, mkF, argsToLocals, Value.category]; done) | rfl
def f2_70 (v0 : Int32) : Int32 := (1 : Int32)
def f2_68 (v0 : Int32) : Int32 := (0 : Int32)
def f2_62 (v0 : Int32) : Int32 := if v0 = (65535 : Int32) then f2_68 v0 else f2_70 v0
def f2_56 (v0 : Int32) : Int32 := if v0 = (65534 : Int32) then f2_68 v0 else f2_62 v0
def f2_54 (v0 : Int32) : Int32 := (0 : Int32)
def f2_48 (v0 : Int32) : Int32 := if (57343 : Int32) < v0 then f2_56 v0 else f2_54 v0
def f2_42 (v0 : Int32) : Int32 := if v0 < (55296 : Int32) then f2_56 v0 else f2_48 v0
def f2_40 (v0 : Int32) : Int32 := (0 : Int32)
def f2_36 (v0 : Int32) : Int32 := (1 : Int32)
def f2_30 (v0 : Int32) : Int32 := if v0 = (13 : Int32) then f2_36 v0 else f2_40 v0
def f2_24 (v0 : Int32) : Int32 := if v0 = (10 : Int32) then f2_36 v0 else f2_30 v0
def f2_18 (v0 : Int32) : Int32 := if v0 = (9 : Int32) then f2_36 v0 else f2_24 v0
def f2_12 (v0 : Int32) : Int32 := if v0 < (32 : Int32) then f2_18 v0 else f2_42 v0
def f2_10 (v0 : Int32) : Int32 := (0 : Int32)
def f2_4 (v0 : Int32) : Int32 := if (1114111 : Int32) < v0 then f2_10 v0 else f2_12 v0
def f2_0 (v0 : Int32) : Int32 := if v0 < (0 : Int32) then f2_10 v0 else f2_4 v0
section Own2
variable {p : Program} {l : Launch} {e : Env} {R : Room} {s : State} {m : MethodId} {args : Array Value} {below : List Frame} {meth : Method} {c : Code} {T : State} {locs : List Loc} {cells slots : Nat} {Z : State} {a0 : Array Value}
theorem g2_70 (X : Stand p l e R s m args below meth c T locs cells slots) (hx : p.tables.exec = Jvm.exec) (hby : c.code = method_2_code) (hret : meth.sig.returnType = some .boolean) (hZ : Z.Warmed39 s.vm) (hown : s.vm.findClass "com/example/itinera/itinera/XmlCharsIsXmlCharPinLaw" = some m.cls) (hw : ∀ d ∈ tables_1, d.before a0 Z = true) (v0 : Int32) {fs : List Frame} (hl : own_Rt e T m fs (.int (f2_70 v0))) : Steps p.tables e below (T.setTop (mkF m 70 #[.val (.int v0)] [])) (T.setFrames fs) := by
  show Steps p.tables e below (T.setTop (mkF m 70 #[.val (.int v0)] [])) _
  refine XS.iconst X.here hx rfl (hb hby d2_70) ?_
  show Steps p.tables e below (T.setTop (mkF m 71 #[.val (.int v0)] [(.int (1 : Int32))])) _
  exact retN X hx (t := .boolean) hret (by simp) (hb hby d2_71) hl
theorem g2_68 (X : Stand p l e R s m args below meth c T locs cells slots) (hx : p.tables.exec = Jvm.exec) (hby : c.code = method_2_code) (hret : meth.sig.returnType = some .boolean) (hZ : Z.Warmed39 s.vm) (hown : s.vm.findClass "com/example/itinera/itinera/XmlCharsIsXmlCharPinLaw" = some m.cls) (hw : ∀ d ∈ tables_1, d.before a0 Z = true) (v0 : Int32) {fs : List Frame} (hl : own_Rt e T m fs (.int (f2_68 v0))) : Steps p.tables e below (T.setTop (mkF m 68 #[.val (.int v0)] [])) (T.setFrames fs) := by
  show Steps p.tables e below (T.setTop (mkF m 68 #[.val (.int v0)] [])) _
  refine XS.iconst X.here hx rfl (hb hby d2_68) ?_
  show Steps p.tables e below (T.setTop (mkF m 69 #[.val (.int v0)] [(.int (0 : Int32))])) _
  exact retN X hx (t := .boolean) hret (by simp) (hb hby d2_69) hl
theorem g2_62 (X : Stand p l e R s m args below meth c T locs cells slots) (hx : p.tables.exec = Jvm.exec) (hby : c.code = method_2_code) (hret : meth.sig.returnType = some .boolean) (hZ : Z.Warmed39 s.vm) (hown : s.vm.findClass "com/example/itinera/itinera/XmlCharsIsXmlCharPinLaw" = some m.cls) (hw : ∀ d ∈ tables_1, d.before a0 Z = true) (v0 : Int32) {fs : List Frame} (hl : own_Rt e T m fs (.int (f2_62 v0))) : Steps p.tables e below (T.setTop (mkF m 62 #[.val (.int v0)] [])) (T.setFrames fs) := by
  show Steps p.tables e below (T.setTop (mkF m 62 #[.val (.int v0)] [])) _
  refine XS.iloadN X.here hx rfl (hb hby d2_62) rfl ?_
  show Steps p.tables e below (T.setTop (mkF m 63 #[.val (.int v0)] [(.int v0)])) _
  refine X.ldcI hx hown (mv hZ (hw _ (List.mem_of_getElem? (i := 7) rfl))) rfl (hb hby d2_63) ?_
  show Steps p.tables e below (T.setTop (mkF m 65 #[.val (.int v0)] [(.int (65535 : Int32)), (.int v0)])) _
  by_cases hc : v0 = (65535 : Int32)
  · rw [show f2_62 v0 = f2_68 v0 from if_pos hc] at hl
    refine XS.icmpNo X.here hx rfl (hb hby d2_65) rfl (teq hc).2 ?_
    exact g2_68 X hx hby hret hZ hown hw v0 hl
  · rw [show f2_62 v0 = f2_70 v0 from if_neg hc] at hl
    refine XS.icmpYes X.here hx rfl (pc0 := 65) (pc' := 70) rfl (hb hby d2_65) rfl (feq hc).2 (by decide) (by decide) ?_
    exact g2_70 X hx hby hret hZ hown hw v0 hl
theorem g2_56 (X : Stand p l e R s m args below meth c T locs cells slots) (hx : p.tables.exec = Jvm.exec) (hby : c.code = method_2_code) (hret : meth.sig.returnType = some .boolean) (hZ : Z.Warmed39 s.vm) (hown : s.vm.findClass "com/example/itinera/itinera/XmlCharsIsXmlCharPinLaw" = some m.cls) (hw : ∀ d ∈ tables_1, d.before a0 Z = true) (v0 : Int32) {fs : List Frame} (hl : own_Rt e T m fs (.int (f2_56 v0))) : Steps p.tables e below (T.setTop (mkF m 56 #[.val (.int v0)] [])) (T.setFrames fs) := by
  show Steps p.tables e below (T.setTop (mkF m 56 #[.val (.int v0)] [])) _
  refine XS.iloadN X.here hx rfl (hb hby d2_56) rfl ?_
  show Steps p.tables e below (T.setTop (mkF m 57 #[.val (.int v0)] [(.int v0)])) _
  refine X.ldcI hx hown (mv hZ (hw _ (List.mem_of_getElem? (i := 6) rfl))) rfl (hb hby d2_57) ?_
  show Steps p.tables e below (T.setTop (mkF m 59 #[.val (.int v0)] [(.int (65534 : Int32)), (.int v0)])) _
  by_cases hc : v0 = (65534 : Int32)
  · rw [show f2_56 v0 = f2_68 v0 from if_pos hc] at hl
    refine XS.icmpYes X.here hx rfl (pc0 := 59) (pc' := 68) rfl (hb hby d2_59) rfl (teq hc).1 (by decide) (by decide) ?_
    exact g2_68 X hx hby hret hZ hown hw v0 hl
  · rw [show f2_56 v0 = f2_62 v0 from if_neg hc] at hl
    refine XS.icmpNo X.here hx rfl (hb hby d2_59) rfl (feq hc).1 ?_
    exact g2_62 X hx hby hret hZ hown hw v0 hl
theorem g2_54 (X : Stand p l e R s m args below meth c T locs cells slots) (hx : p.tables.exec = Jvm.exec) (hby : c.code = method_2_code) (hret : meth.sig.returnType = some .boolean) (hZ : Z.Warmed39 s.vm) (hown : s.vm.findClass "com/example/itinera/itinera/XmlCharsIsXmlCharPinLaw" = some m.cls) (hw : ∀ d ∈ tables_1, d.before a0 Z = true) (v0 : Int32) {fs : List Frame} (hl : own_Rt e T m fs (.int (f2_54 v0))) : Steps p.tables e below (T.setTop (mkF m 54 #[.val (.int v0)] [])) (T.setFrames fs) := by
  show Steps p.tables e below (T.setTop (mkF m 54 #[.val (.int v0)] [])) _
  refine XS.iconst X.here hx rfl (hb hby d2_54) ?_
  show Steps p.tables e below (T.setTop (mkF m 55 #[.val (.int v0)] [(.int (0 : Int32))])) _
  exact retN X hx (t := .boolean) hret (by simp) (hb hby d2_55) hl
theorem g2_48 (X : Stand p l e R s m args below meth c T locs cells slots) (hx : p.tables.exec = Jvm.exec) (hby : c.code = method_2_code) (hret : meth.sig.returnType = some .boolean) (hZ : Z.Warmed39 s.vm) (hown : s.vm.findClass "com/example/itinera/itinera/XmlCharsIsXmlCharPinLaw" = some m.cls) (hw : ∀ d ∈ tables_1, d.before a0 Z = true) (v0 : Int32) {fs : List Frame} (hl : own_Rt e T m fs (.int (f2_48 v0))) : Steps p.tables e below (T.setTop (mkF m 48 #[.val (.int v0)] [])) (T.setFrames fs) := by
  show Steps p.tables e below (T.setTop (mkF m 48 #[.val (.int v0)] [])) _
  refine XS.iloadN X.here hx rfl (hb hby d2_48) rfl ?_
  show Steps p.tables e below (T.setTop (mkF m 49 #[.val (.int v0)] [(.int v0)])) _
  refine X.ldcI hx hown (mv hZ (hw _ (List.mem_of_getElem? (i := 3) rfl))) rfl (hb hby d2_49) ?_
  show Steps p.tables e below (T.setTop (mkF m 51 #[.val (.int v0)] [(.int (57343 : Int32)), (.int v0)])) _
  by_cases hc : (57343 : Int32) < v0
  · rw [show f2_48 v0 = f2_56 v0 from if_pos hc] at hl
    refine XS.icmpYes X.here hx rfl (pc0 := 51) (pc' := 56) rfl (hb hby d2_51) rfl (tlt hc).2.2.1 (by decide) (by decide) ?_
    exact g2_56 X hx hby hret hZ hown hw v0 hl
  · rw [show f2_48 v0 = f2_54 v0 from if_neg hc] at hl
    refine XS.icmpNo X.here hx rfl (hb hby d2_51) rfl (flt hc).2.2.1 ?_
    exact g2_54 X hx hby hret hZ hown hw v0 hl
theorem g2_42 (X : Stand p l e R s m args below meth c T locs cells slots) (hx : p.tables.exec = Jvm.exec) (hby : c.code = method_2_code) (hret : meth.sig.returnType = some .boolean) (hZ : Z.Warmed39 s.vm) (hown : s.vm.findClass "com/example/itinera/itinera/XmlCharsIsXmlCharPinLaw" = some m.cls) (hw : ∀ d ∈ tables_1, d.before a0 Z = true) (v0 : Int32) {fs : List Frame} (hl : own_Rt e T m fs (.int (f2_42 v0))) : Steps p.tables e below (T.setTop (mkF m 42 #[.val (.int v0)] [])) (T.setFrames fs) := by
  show Steps p.tables e below (T.setTop (mkF m 42 #[.val (.int v0)] [])) _
  refine XS.iloadN X.here hx rfl (hb hby d2_42) rfl ?_
  show Steps p.tables e below (T.setTop (mkF m 43 #[.val (.int v0)] [(.int v0)])) _
  refine X.ldcI hx hown (mv hZ (hw _ (List.mem_of_getElem? (i := 2) rfl))) rfl (hb hby d2_43) ?_
  show Steps p.tables e below (T.setTop (mkF m 45 #[.val (.int v0)] [(.int (55296 : Int32)), (.int v0)])) _
  by_cases hc : v0 < (55296 : Int32)
  · rw [show f2_42 v0 = f2_56 v0 from if_pos hc] at hl
    refine XS.icmpYes X.here hx rfl (pc0 := 45) (pc' := 56) rfl (hb hby d2_45) rfl (tlt hc).1 (by decide) (by decide) ?_
    exact g2_56 X hx hby hret hZ hown hw v0 hl
  · rw [show f2_42 v0 = f2_48 v0 from if_neg hc] at hl
    refine XS.icmpNo X.here hx rfl (hb hby d2_45) rfl (flt hc).1 ?_
    exact g2_48 X hx hby hret hZ hown hw v0 hl
theorem g2_40 (X : Stand p l e R s m args below meth c T locs cells slots) (hx : p.tables.exec = Jvm.exec) (hby : c.code = method_2_code) (hret : meth.sig.returnType = some .boolean) (hZ : Z.Warmed39 s.vm) (hown : s.vm.findClass "com/example/itinera/itinera/XmlCharsIsXmlCharPinLaw" = some m.cls) (hw : ∀ d ∈ tables_1, d.before a0 Z = true) (v0 : Int32) {fs : List Frame} (hl : own_Rt e T m fs (.int (f2_40 v0))) : Steps p.tables e below (T.setTop (mkF m 40 #[.val (.int v0)] [])) (T.setFrames fs) := by
  show Steps p.tables e below (T.setTop (mkF m 40 #[.val (.int v0)] [])) _
  refine XS.iconst X.here hx rfl (hb hby d2_40) ?_
  show Steps p.tables e below (T.setTop (mkF m 41 #[.val (.int v0)] [(.int (0 : Int32))])) _
  exact retN X hx (t := .boolean) hret (by simp) (hb hby d2_41) hl
theorem g2_36 (X : Stand p l e R s m args below meth c T locs cells slots) (hx : p.tables.exec = Jvm.exec) (hby : c.code = method_2_code) (hret : meth.sig.returnType = some .boolean) (hZ : Z.Warmed39 s.vm) (hown : s.vm.findClass "com/example/itinera/itinera/XmlCharsIsXmlCharPinLaw" = some m.cls) (hw : ∀ d ∈ tables_1, d.before a0 Z = true) (v0 : Int32) {fs : List Frame} (hl : own_Rt e T m fs (.int (f2_36 v0))) : Steps p.tables e below (T.setTop (mkF m 36 #[.val (.int v0)] [])) (T.setFrames fs) := by
  show Steps p.tables e below (T.setTop (mkF m 36 #[.val (.int v0)] [])) _
  refine XS.iconst X.here hx rfl (hb hby d2_36) ?_
  show Steps p.tables e below (T.setTop (mkF m 37 #[.val (.int v0)] [(.int (1 : Int32))])) _
  refine XS.goto X.here hx rfl (pc0 := 37) (pc' := 41) rfl (hb hby d2_37) (by decide) (by decide) ?_
  show Steps p.tables e below (T.setTop (mkF m 41 #[.val (.int v0)] [(.int (1 : Int32))])) _
  exact retN X hx (t := .boolean) hret (by simp) (hb hby d2_41) hl
theorem g2_30 (X : Stand p l e R s m args below meth c T locs cells slots) (hx : p.tables.exec = Jvm.exec) (hby : c.code = method_2_code) (hret : meth.sig.returnType = some .boolean) (hZ : Z.Warmed39 s.vm) (hown : s.vm.findClass "com/example/itinera/itinera/XmlCharsIsXmlCharPinLaw" = some m.cls) (hw : ∀ d ∈ tables_1, d.before a0 Z = true) (v0 : Int32) {fs : List Frame} (hl : own_Rt e T m fs (.int (f2_30 v0))) : Steps p.tables e below (T.setTop (mkF m 30 #[.val (.int v0)] [])) (T.setFrames fs) := by
  show Steps p.tables e below (T.setTop (mkF m 30 #[.val (.int v0)] [])) _
  refine XS.iloadN X.here hx rfl (hb hby d2_30) rfl ?_
  show Steps p.tables e below (T.setTop (mkF m 31 #[.val (.int v0)] [(.int v0)])) _
  refine XS.bipush X.here hx rfl (hb hby d2_31) ?_
  show Steps p.tables e below (T.setTop (mkF m 33 #[.val (.int v0)] [(.int (13 : Int32)), (.int v0)])) _
  by_cases hc : v0 = (13 : Int32)
  · rw [show f2_30 v0 = f2_36 v0 from if_pos hc] at hl
    refine XS.icmpNo X.here hx rfl (hb hby d2_33) rfl (teq hc).2 ?_
    exact g2_36 X hx hby hret hZ hown hw v0 hl
  · rw [show f2_30 v0 = f2_40 v0 from if_neg hc] at hl
    refine XS.icmpYes X.here hx rfl (pc0 := 33) (pc' := 40) rfl (hb hby d2_33) rfl (feq hc).2 (by decide) (by decide) ?_
    exact g2_40 X hx hby hret hZ hown hw v0 hl
theorem g2_24 (X : Stand p l e R s m args below meth c T locs cells slots) (hx : p.tables.exec = Jvm.exec) (hby : c.code = method_2_code) (hret : meth.sig.returnType = some .boolean) (hZ : Z.Warmed39 s.vm) (hown : s.vm.findClass "com/example/itinera/itinera/XmlCharsIsXmlCharPinLaw" = some m.cls) (hw : ∀ d ∈ tables_1, d.before a0 Z = true) (v0 : Int32) {fs : List Frame} (hl : own_Rt e T m fs (.int (f2_24 v0))) : Steps p.tables e below (T.setTop (mkF m 24 #[.val (.int v0)] [])) (T.setFrames fs) := by
  show Steps p.tables e below (T.setTop (mkF m 24 #[.val (.int v0)] [])) _
  refine XS.iloadN X.here hx rfl (hb hby d2_24) rfl ?_
  show Steps p.tables e below (T.setTop (mkF m 25 #[.val (.int v0)] [(.int v0)])) _
  refine XS.bipush X.here hx rfl (hb hby d2_25) ?_
  show Steps p.tables e below (T.setTop (mkF m 27 #[.val (.int v0)] [(.int (10 : Int32)), (.int v0)])) _
  by_cases hc : v0 = (10 : Int32)
  · rw [show f2_24 v0 = f2_36 v0 from if_pos hc] at hl
    refine XS.icmpYes X.here hx rfl (pc0 := 27) (pc' := 36) rfl (hb hby d2_27) rfl (teq hc).1 (by decide) (by decide) ?_
    exact g2_36 X hx hby hret hZ hown hw v0 hl
  · rw [show f2_24 v0 = f2_30 v0 from if_neg hc] at hl
    refine XS.icmpNo X.here hx rfl (hb hby d2_27) rfl (feq hc).1 ?_
    exact g2_30 X hx hby hret hZ hown hw v0 hl
theorem g2_18 (X : Stand p l e R s m args below meth c T locs cells slots) (hx : p.tables.exec = Jvm.exec) (hby : c.code = method_2_code) (hret : meth.sig.returnType = some .boolean) (hZ : Z.Warmed39 s.vm) (hown : s.vm.findClass "com/example/itinera/itinera/XmlCharsIsXmlCharPinLaw" = some m.cls) (hw : ∀ d ∈ tables_1, d.before a0 Z = true) (v0 : Int32) {fs : List Frame} (hl : own_Rt e T m fs (.int (f2_18 v0))) : Steps p.tables e below (T.setTop (mkF m 18 #[.val (.int v0)] [])) (T.setFrames fs) := by
  show Steps p.tables e below (T.setTop (mkF m 18 #[.val (.int v0)] [])) _
  refine XS.iloadN X.here hx rfl (hb hby d2_18) rfl ?_
  show Steps p.tables e below (T.setTop (mkF m 19 #[.val (.int v0)] [(.int v0)])) _
  refine XS.bipush X.here hx rfl (hb hby d2_19) ?_
  show Steps p.tables e below (T.setTop (mkF m 21 #[.val (.int v0)] [(.int (9 : Int32)), (.int v0)])) _
  by_cases hc : v0 = (9 : Int32)
  · rw [show f2_18 v0 = f2_36 v0 from if_pos hc] at hl
    refine XS.icmpYes X.here hx rfl (pc0 := 21) (pc' := 36) rfl (hb hby d2_21) rfl (teq hc).1 (by decide) (by decide) ?_
    exact g2_36 X hx hby hret hZ hown hw v0 hl
  · rw [show f2_18 v0 = f2_24 v0 from if_neg hc] at hl
    refine XS.icmpNo X.here hx rfl (hb hby d2_21) rfl (feq hc).1 ?_
    exact g2_24 X hx hby hret hZ hown hw v0 hl
theorem g2_12 (X : Stand p l e R s m args below meth c T locs cells slots) (hx : p.tables.exec = Jvm.exec) (hby : c.code = method_2_code) (hret : meth.sig.returnType = some .boolean) (hZ : Z.Warmed39 s.vm) (hown : s.vm.findClass "com/example/itinera/itinera/XmlCharsIsXmlCharPinLaw" = some m.cls) (hw : ∀ d ∈ tables_1, d.before a0 Z = true) (v0 : Int32) {fs : List Frame} (hl : own_Rt e T m fs (.int (f2_12 v0))) : Steps p.tables e below (T.setTop (mkF m 12 #[.val (.int v0)] [])) (T.setFrames fs) := by
  show Steps p.tables e below (T.setTop (mkF m 12 #[.val (.int v0)] [])) _
  refine XS.iloadN X.here hx rfl (hb hby d2_12) rfl ?_
  show Steps p.tables e below (T.setTop (mkF m 13 #[.val (.int v0)] [(.int v0)])) _
  refine XS.bipush X.here hx rfl (hb hby d2_13) ?_
  show Steps p.tables e below (T.setTop (mkF m 15 #[.val (.int v0)] [(.int (32 : Int32)), (.int v0)])) _
  by_cases hc : v0 < (32 : Int32)
  · rw [show f2_12 v0 = f2_18 v0 from if_pos hc] at hl
    refine XS.icmpNo X.here hx rfl (hb hby d2_15) rfl (tlt hc).2.1 ?_
    exact g2_18 X hx hby hret hZ hown hw v0 hl
  · rw [show f2_12 v0 = f2_42 v0 from if_neg hc] at hl
    refine XS.icmpYes X.here hx rfl (pc0 := 15) (pc' := 42) rfl (hb hby d2_15) rfl (flt hc).2.1 (by decide) (by decide) ?_
    exact g2_42 X hx hby hret hZ hown hw v0 hl
theorem g2_10 (X : Stand p l e R s m args below meth c T locs cells slots) (hx : p.tables.exec = Jvm.exec) (hby : c.code = method_2_code) (hret : meth.sig.returnType = some .boolean) (hZ : Z.Warmed39 s.vm) (hown : s.vm.findClass "com/example/itinera/itinera/XmlCharsIsXmlCharPinLaw" = some m.cls) (hw : ∀ d ∈ tables_1, d.before a0 Z = true) (v0 : Int32) {fs : List Frame} (hl : own_Rt e T m fs (.int (f2_10 v0))) : Steps p.tables e below (T.setTop (mkF m 10 #[.val (.int v0)] [])) (T.setFrames fs) := by
  show Steps p.tables e below (T.setTop (mkF m 10 #[.val (.int v0)] [])) _
  refine XS.iconst X.here hx rfl (hb hby d2_10) ?_
  show Steps p.tables e below (T.setTop (mkF m 11 #[.val (.int v0)] [(.int (0 : Int32))])) _
  exact retN X hx (t := .boolean) hret (by simp) (hb hby d2_11) hl
theorem g2_4 (X : Stand p l e R s m args below meth c T locs cells slots) (hx : p.tables.exec = Jvm.exec) (hby : c.code = method_2_code) (hret : meth.sig.returnType = some .boolean) (hZ : Z.Warmed39 s.vm) (hown : s.vm.findClass "com/example/itinera/itinera/XmlCharsIsXmlCharPinLaw" = some m.cls) (hw : ∀ d ∈ tables_1, d.before a0 Z = true) (v0 : Int32) {fs : List Frame} (hl : own_Rt e T m fs (.int (f2_4 v0))) : Steps p.tables e below (T.setTop (mkF m 4 #[.val (.int v0)] [])) (T.setFrames fs) := by
  show Steps p.tables e below (T.setTop (mkF m 4 #[.val (.int v0)] [])) _
  refine XS.iloadN X.here hx rfl (hb hby d2_4) rfl ?_
  show Steps p.tables e below (T.setTop (mkF m 5 #[.val (.int v0)] [(.int v0)])) _
  refine X.ldcI hx hown (mv hZ (hw _ (List.mem_of_getElem? (i := 9) rfl))) rfl (hb hby d2_5) ?_
  show Steps p.tables e below (T.setTop (mkF m 7 #[.val (.int v0)] [(.int (1114111 : Int32)), (.int v0)])) _
  by_cases hc : (1114111 : Int32) < v0
  · rw [show f2_4 v0 = f2_10 v0 from if_pos hc] at hl
    refine XS.icmpNo X.here hx rfl (hb hby d2_7) rfl (tlt hc).2.2.2 ?_
    exact g2_10 X hx hby hret hZ hown hw v0 hl
  · rw [show f2_4 v0 = f2_12 v0 from if_neg hc] at hl
    refine XS.icmpYes X.here hx rfl (pc0 := 7) (pc' := 12) rfl (hb hby d2_7) rfl (flt hc).2.2.2 (by decide) (by decide) ?_
    exact g2_12 X hx hby hret hZ hown hw v0 hl
theorem g2_0 (X : Stand p l e R s m args below meth c T locs cells slots) (hx : p.tables.exec = Jvm.exec) (hby : c.code = method_2_code) (hret : meth.sig.returnType = some .boolean) (hZ : Z.Warmed39 s.vm) (hown : s.vm.findClass "com/example/itinera/itinera/XmlCharsIsXmlCharPinLaw" = some m.cls) (hw : ∀ d ∈ tables_1, d.before a0 Z = true) (v0 : Int32) {fs : List Frame} (hl : own_Rt e T m fs (.int (f2_0 v0))) : Steps p.tables e below (T.setTop (mkF m 0 #[.val (.int v0)] [])) (T.setFrames fs) := by
  show Steps p.tables e below (T.setTop (mkF m 0 #[.val (.int v0)] [])) _
  refine XS.iloadN X.here hx rfl (hb hby d2_0) rfl ?_
  show Steps p.tables e below (T.setTop (mkF m 1 #[.val (.int v0)] [(.int v0)])) _
  by_cases hc : v0 < (0 : Int32)
  · rw [show f2_0 v0 = f2_10 v0 from if_pos hc] at hl
    refine XS.ifYes X.here hx rfl (pc0 := 1) (pc' := 10) rfl (hb hby d2_1) rfl ((if0 _ _).trans (tlt hc).1) (by decide) (by decide) ?_
    exact g2_10 X hx hby hret hZ hown hw v0 hl
  · rw [show f2_0 v0 = f2_4 v0 from if_neg hc] at hl
    refine XS.ifNo X.here hx rfl (hb hby d2_1) rfl ((if0 _ _).trans (flt hc).1) ?_
    exact g2_4 X hx hby hret hZ hown hw v0 hl
end Own2
def Q2 (v0 : Int32) (h0 : Heap) (n0 : Nat) (v : Option Value) (h : Heap) (L : List Loc) : Prop := v = some (.int (f2_0 v0)) ∧ Fr n0 L ∧ h = h0
set_option maxRecDepth 65536 in
set_option maxHeartbeats 40000000 in
theorem rm2 (l : Launch) (Z : State) (a0 : Array Value) (hw : ∀ d ∈ tables_1, d.before a0 Z = true) (ws : List Jvm.Cond) (v0 : Int32) (h0 : Heap) (n0 : Nat) (Z0 : n0 ≤ h0.size) :
    MetFree l (⟨"com/example/itinera/itinera/XmlCharsIsXmlCharPinLaw", "reference", "(I)Z"⟩ : MethodName) (head1 (Jvm.Cond.code (⟨"com/example/itinera/itinera/XmlCharsIsXmlCharPinLaw", "reference", "(I)Z"⟩ : MethodName) method_2_code 1 (some .boolean) :: ws) ({ frames := 0, cells := 0, slots := 0, locals := 0 } : Room)) (fun a U => a = #[(.int v0)] ∧ Z.Warmed39 U.vm ∧ U.heap = h0) (fun _ _ _ _ _ => True) (fun _ U o U' => ∃ v L, o = .returned v ∧ Q2 v0 h0 n0 v U'.heap L ∧ FrameEnd U o U' L ({ frames := 0, cells := 0, slots := 0, locals := 0 } : Room).cells ({ frames := 0, cells := 0, slots := 0, locals := 0 } : Room).slots) := by
  refine MetFree.of_bodySF (plainFor_of_name pn_2) hisR ?_
  intro p e s m args below meth c s₁ Bd hml0 hP hK
  obtain ⟨rfl, hZ, hh⟩ := hP
  have hx := Bd.exec
  have hby := Bd.bytes
  have hown : s.vm.findClass "com/example/itinera/itinera/XmlCharsIsXmlCharPinLaw" = some m.cls := findClass_of_methodNamed Bd.named
  have X0 : Stand p l e ({ frames := 0, cells := 0, slots := 0, locals := 0 } : Room) s m #[(.int v0)] below meth c s₁ [] 0 0 := Stand.of_body Bd
  have e0 : s₁.heap = h0 := by rw [← hh, Bd.state]; rfl
  have N0 := Fr.nil n0
  have pre0 : ∀ t, Steps p.tables e below (s₁.setTop (mkF m 0 #[.val (.int v0)] [])) t → Steps p.tables e below (s₁.setTop (entryFrame m #[(.int v0)] 1)) t := fun t k => castTop (ef_2 m v0) k
  obtain ⟨fs, hr, hrun, hended, hW, hsame⟩ := X0.leave (v := some (.int (f2_0 v0))) (fun h => by rw [Bd.returns] at h; cases h)
  refine ⟨_, _, pre0 _ ?_, hrun, hended, _, _, rfl, ?_, ⟨_, rfl⟩, hW, hsame.mono (by decide) (by decide)⟩
  · exact g2_0 X0 hx hby Bd.returns hZ hown hw v0 hr
  · show Q2 v0 h0 n0 _ s₁.heap _
    rw [e0]
    exact ⟨rfl, N0, rfl⟩
theorem pd_2 : parseMethodDescriptor "(I)Z" = some ⟨[.int], some .boolean⟩ := by decide +kernel
theorem own_eq {x y : Int32} : x = y ↔ x.toInt = y.toInt := Int32.toInt_inj.symm
theorem own_lt {x y : Int32} : x < y ↔ x.toInt < y.toInt := Int32.lt_iff_toInt_lt
theorem t1_0 (v0 : Int32) (h1 : (-2147483648) ≤ v0.toInt) (h2 : v0.toInt ≤ -1) : f1_0 v0 = (0 : Int32) := by
  rw [show f1_0 v0 = f1_6 v0 from if_neg (fun h => absurd ((own_eq (x := v0) (y := (9 : Int32))).mp h) (show ¬ v0.toInt = (9) by omega))]
  rw [show f1_6 v0 = f1_12 v0 from if_neg (fun h => absurd ((own_eq (x := v0) (y := (10 : Int32))).mp h) (show ¬ v0.toInt = (10) by omega))]
  rw [show f1_12 v0 = f1_18 v0 from if_neg (fun h => absurd ((own_eq (x := v0) (y := (13 : Int32))).mp h) (show ¬ v0.toInt = (13) by omega))]
  rw [show f1_18 v0 = f1_30 v0 from if_pos ((own_lt (x := v0) (y := (32 : Int32))).mpr (show v0.toInt < (32) by omega))]
  rw [show f1_30 v0 = f1_42 v0 from if_pos ((own_lt (x := v0) (y := (57344 : Int32))).mpr (show v0.toInt < (57344) by omega))]
  rw [show f1_42 v0 = f1_58 v0 from if_pos ((own_lt (x := v0) (y := (65536 : Int32))).mpr (show v0.toInt < (65536) by omega))]
  rfl
theorem t1_1 (v0 : Int32) (h1 : (0) ≤ v0.toInt) (h2 : v0.toInt ≤ 8) : f1_0 v0 = (0 : Int32) := by
  rw [show f1_0 v0 = f1_6 v0 from if_neg (fun h => absurd ((own_eq (x := v0) (y := (9 : Int32))).mp h) (show ¬ v0.toInt = (9) by omega))]
  rw [show f1_6 v0 = f1_12 v0 from if_neg (fun h => absurd ((own_eq (x := v0) (y := (10 : Int32))).mp h) (show ¬ v0.toInt = (10) by omega))]
  rw [show f1_12 v0 = f1_18 v0 from if_neg (fun h => absurd ((own_eq (x := v0) (y := (13 : Int32))).mp h) (show ¬ v0.toInt = (13) by omega))]
  rw [show f1_18 v0 = f1_30 v0 from if_pos ((own_lt (x := v0) (y := (32 : Int32))).mpr (show v0.toInt < (32) by omega))]
  rw [show f1_30 v0 = f1_42 v0 from if_pos ((own_lt (x := v0) (y := (57344 : Int32))).mpr (show v0.toInt < (57344) by omega))]
  rw [show f1_42 v0 = f1_58 v0 from if_pos ((own_lt (x := v0) (y := (65536 : Int32))).mpr (show v0.toInt < (65536) by omega))]
  rfl
theorem t1_2 (v0 : Int32) (h1 : (9) ≤ v0.toInt) (h2 : v0.toInt ≤ 9) : f1_0 v0 = (1 : Int32) := by
  rw [show f1_0 v0 = f1_54 v0 from if_pos ((own_eq (x := v0) (y := (9 : Int32))).mpr (show v0.toInt = (9) by omega))]
  rfl
theorem t1_3 (v0 : Int32) (h1 : (10) ≤ v0.toInt) (h2 : v0.toInt ≤ 10) : f1_0 v0 = (1 : Int32) := by
  rw [show f1_0 v0 = f1_6 v0 from if_neg (fun h => absurd ((own_eq (x := v0) (y := (9 : Int32))).mp h) (show ¬ v0.toInt = (9) by omega))]
  rw [show f1_6 v0 = f1_54 v0 from if_pos ((own_eq (x := v0) (y := (10 : Int32))).mpr (show v0.toInt = (10) by omega))]
  rfl
theorem t1_4 (v0 : Int32) (h1 : (11) ≤ v0.toInt) (h2 : v0.toInt ≤ 12) : f1_0 v0 = (0 : Int32) := by
  rw [show f1_0 v0 = f1_6 v0 from if_neg (fun h => absurd ((own_eq (x := v0) (y := (9 : Int32))).mp h) (show ¬ v0.toInt = (9) by omega))]
  rw [show f1_6 v0 = f1_12 v0 from if_neg (fun h => absurd ((own_eq (x := v0) (y := (10 : Int32))).mp h) (show ¬ v0.toInt = (10) by omega))]
  rw [show f1_12 v0 = f1_18 v0 from if_neg (fun h => absurd ((own_eq (x := v0) (y := (13 : Int32))).mp h) (show ¬ v0.toInt = (13) by omega))]
  rw [show f1_18 v0 = f1_30 v0 from if_pos ((own_lt (x := v0) (y := (32 : Int32))).mpr (show v0.toInt < (32) by omega))]
  rw [show f1_30 v0 = f1_42 v0 from if_pos ((own_lt (x := v0) (y := (57344 : Int32))).mpr (show v0.toInt < (57344) by omega))]
  rw [show f1_42 v0 = f1_58 v0 from if_pos ((own_lt (x := v0) (y := (65536 : Int32))).mpr (show v0.toInt < (65536) by omega))]
  rfl
theorem t1_5 (v0 : Int32) (h1 : (13) ≤ v0.toInt) (h2 : v0.toInt ≤ 13) : f1_0 v0 = (1 : Int32) := by
  rw [show f1_0 v0 = f1_6 v0 from if_neg (fun h => absurd ((own_eq (x := v0) (y := (9 : Int32))).mp h) (show ¬ v0.toInt = (9) by omega))]
  rw [show f1_6 v0 = f1_12 v0 from if_neg (fun h => absurd ((own_eq (x := v0) (y := (10 : Int32))).mp h) (show ¬ v0.toInt = (10) by omega))]
  rw [show f1_12 v0 = f1_54 v0 from if_pos ((own_eq (x := v0) (y := (13 : Int32))).mpr (show v0.toInt = (13) by omega))]
  rfl
theorem t1_6 (v0 : Int32) (h1 : (14) ≤ v0.toInt) (h2 : v0.toInt ≤ 31) : f1_0 v0 = (0 : Int32) := by
  rw [show f1_0 v0 = f1_6 v0 from if_neg (fun h => absurd ((own_eq (x := v0) (y := (9 : Int32))).mp h) (show ¬ v0.toInt = (9) by omega))]
  rw [show f1_6 v0 = f1_12 v0 from if_neg (fun h => absurd ((own_eq (x := v0) (y := (10 : Int32))).mp h) (show ¬ v0.toInt = (10) by omega))]
  rw [show f1_12 v0 = f1_18 v0 from if_neg (fun h => absurd ((own_eq (x := v0) (y := (13 : Int32))).mp h) (show ¬ v0.toInt = (13) by omega))]
  rw [show f1_18 v0 = f1_30 v0 from if_pos ((own_lt (x := v0) (y := (32 : Int32))).mpr (show v0.toInt < (32) by omega))]
  rw [show f1_30 v0 = f1_42 v0 from if_pos ((own_lt (x := v0) (y := (57344 : Int32))).mpr (show v0.toInt < (57344) by omega))]
  rw [show f1_42 v0 = f1_58 v0 from if_pos ((own_lt (x := v0) (y := (65536 : Int32))).mpr (show v0.toInt < (65536) by omega))]
  rfl
theorem t1_7 (v0 : Int32) (h1 : (32) ≤ v0.toInt) (h2 : v0.toInt ≤ 55295) : f1_0 v0 = (1 : Int32) := by
  rw [show f1_0 v0 = f1_6 v0 from if_neg (fun h => absurd ((own_eq (x := v0) (y := (9 : Int32))).mp h) (show ¬ v0.toInt = (9) by omega))]
  rw [show f1_6 v0 = f1_12 v0 from if_neg (fun h => absurd ((own_eq (x := v0) (y := (10 : Int32))).mp h) (show ¬ v0.toInt = (10) by omega))]
  rw [show f1_12 v0 = f1_18 v0 from if_neg (fun h => absurd ((own_eq (x := v0) (y := (13 : Int32))).mp h) (show ¬ v0.toInt = (13) by omega))]
  rw [show f1_18 v0 = f1_24 v0 from if_neg (fun h => absurd ((own_lt (x := v0) (y := (32 : Int32))).mp h) (show ¬ v0.toInt < (32) by omega))]
  rw [show f1_24 v0 = f1_54 v0 from if_neg (fun h => absurd ((own_lt (x := (55295 : Int32)) (y := v0)).mp h) (show ¬ (55295) < v0.toInt by omega))]
  rfl
theorem t1_8 (v0 : Int32) (h1 : (55296) ≤ v0.toInt) (h2 : v0.toInt ≤ 57343) : f1_0 v0 = (0 : Int32) := by
  rw [show f1_0 v0 = f1_6 v0 from if_neg (fun h => absurd ((own_eq (x := v0) (y := (9 : Int32))).mp h) (show ¬ v0.toInt = (9) by omega))]
  rw [show f1_6 v0 = f1_12 v0 from if_neg (fun h => absurd ((own_eq (x := v0) (y := (10 : Int32))).mp h) (show ¬ v0.toInt = (10) by omega))]
  rw [show f1_12 v0 = f1_18 v0 from if_neg (fun h => absurd ((own_eq (x := v0) (y := (13 : Int32))).mp h) (show ¬ v0.toInt = (13) by omega))]
  rw [show f1_18 v0 = f1_24 v0 from if_neg (fun h => absurd ((own_lt (x := v0) (y := (32 : Int32))).mp h) (show ¬ v0.toInt < (32) by omega))]
  rw [show f1_24 v0 = f1_30 v0 from if_pos ((own_lt (x := (55295 : Int32)) (y := v0)).mpr (show (55295) < v0.toInt by omega))]
  rw [show f1_30 v0 = f1_42 v0 from if_pos ((own_lt (x := v0) (y := (57344 : Int32))).mpr (show v0.toInt < (57344) by omega))]
  rw [show f1_42 v0 = f1_58 v0 from if_pos ((own_lt (x := v0) (y := (65536 : Int32))).mpr (show v0.toInt < (65536) by omega))]
  rfl
theorem t1_9 (v0 : Int32) (h1 : (57344) ≤ v0.toInt) (h2 : v0.toInt ≤ 65533) : f1_0 v0 = (1 : Int32) := by
  rw [show f1_0 v0 = f1_6 v0 from if_neg (fun h => absurd ((own_eq (x := v0) (y := (9 : Int32))).mp h) (show ¬ v0.toInt = (9) by omega))]
  rw [show f1_6 v0 = f1_12 v0 from if_neg (fun h => absurd ((own_eq (x := v0) (y := (10 : Int32))).mp h) (show ¬ v0.toInt = (10) by omega))]
  rw [show f1_12 v0 = f1_18 v0 from if_neg (fun h => absurd ((own_eq (x := v0) (y := (13 : Int32))).mp h) (show ¬ v0.toInt = (13) by omega))]
  rw [show f1_18 v0 = f1_24 v0 from if_neg (fun h => absurd ((own_lt (x := v0) (y := (32 : Int32))).mp h) (show ¬ v0.toInt < (32) by omega))]
  rw [show f1_24 v0 = f1_30 v0 from if_pos ((own_lt (x := (55295 : Int32)) (y := v0)).mpr (show (55295) < v0.toInt by omega))]
  rw [show f1_30 v0 = f1_36 v0 from if_neg (fun h => absurd ((own_lt (x := v0) (y := (57344 : Int32))).mp h) (show ¬ v0.toInt < (57344) by omega))]
  rw [show f1_36 v0 = f1_54 v0 from if_neg (fun h => absurd ((own_lt (x := (65533 : Int32)) (y := v0)).mp h) (show ¬ (65533) < v0.toInt by omega))]
  rfl
theorem t1_10 (v0 : Int32) (h1 : (65534) ≤ v0.toInt) (h2 : v0.toInt ≤ 65534) : f1_0 v0 = (0 : Int32) := by
  rw [show f1_0 v0 = f1_6 v0 from if_neg (fun h => absurd ((own_eq (x := v0) (y := (9 : Int32))).mp h) (show ¬ v0.toInt = (9) by omega))]
  rw [show f1_6 v0 = f1_12 v0 from if_neg (fun h => absurd ((own_eq (x := v0) (y := (10 : Int32))).mp h) (show ¬ v0.toInt = (10) by omega))]
  rw [show f1_12 v0 = f1_18 v0 from if_neg (fun h => absurd ((own_eq (x := v0) (y := (13 : Int32))).mp h) (show ¬ v0.toInt = (13) by omega))]
  rw [show f1_18 v0 = f1_24 v0 from if_neg (fun h => absurd ((own_lt (x := v0) (y := (32 : Int32))).mp h) (show ¬ v0.toInt < (32) by omega))]
  rw [show f1_24 v0 = f1_30 v0 from if_pos ((own_lt (x := (55295 : Int32)) (y := v0)).mpr (show (55295) < v0.toInt by omega))]
  rw [show f1_30 v0 = f1_36 v0 from if_neg (fun h => absurd ((own_lt (x := v0) (y := (57344 : Int32))).mp h) (show ¬ v0.toInt < (57344) by omega))]
  rw [show f1_36 v0 = f1_42 v0 from if_pos ((own_lt (x := (65533 : Int32)) (y := v0)).mpr (show (65533) < v0.toInt by omega))]
  rw [show f1_42 v0 = f1_58 v0 from if_pos ((own_lt (x := v0) (y := (65536 : Int32))).mpr (show v0.toInt < (65536) by omega))]
  rfl
theorem t1_11 (v0 : Int32) (h1 : (65535) ≤ v0.toInt) (h2 : v0.toInt ≤ 65535) : f1_0 v0 = (0 : Int32) := by
  rw [show f1_0 v0 = f1_6 v0 from if_neg (fun h => absurd ((own_eq (x := v0) (y := (9 : Int32))).mp h) (show ¬ v0.toInt = (9) by omega))]
  rw [show f1_6 v0 = f1_12 v0 from if_neg (fun h => absurd ((own_eq (x := v0) (y := (10 : Int32))).mp h) (show ¬ v0.toInt = (10) by omega))]
  rw [show f1_12 v0 = f1_18 v0 from if_neg (fun h => absurd ((own_eq (x := v0) (y := (13 : Int32))).mp h) (show ¬ v0.toInt = (13) by omega))]
  rw [show f1_18 v0 = f1_24 v0 from if_neg (fun h => absurd ((own_lt (x := v0) (y := (32 : Int32))).mp h) (show ¬ v0.toInt < (32) by omega))]
  rw [show f1_24 v0 = f1_30 v0 from if_pos ((own_lt (x := (55295 : Int32)) (y := v0)).mpr (show (55295) < v0.toInt by omega))]
  rw [show f1_30 v0 = f1_36 v0 from if_neg (fun h => absurd ((own_lt (x := v0) (y := (57344 : Int32))).mp h) (show ¬ v0.toInt < (57344) by omega))]
  rw [show f1_36 v0 = f1_42 v0 from if_pos ((own_lt (x := (65533 : Int32)) (y := v0)).mpr (show (65533) < v0.toInt by omega))]
  rw [show f1_42 v0 = f1_58 v0 from if_pos ((own_lt (x := v0) (y := (65536 : Int32))).mpr (show v0.toInt < (65536) by omega))]
  rfl
theorem t1_12 (v0 : Int32) (h1 : (65536) ≤ v0.toInt) (h2 : v0.toInt ≤ 1114111) : f1_0 v0 = (1 : Int32) := by
  rw [show f1_0 v0 = f1_6 v0 from if_neg (fun h => absurd ((own_eq (x := v0) (y := (9 : Int32))).mp h) (show ¬ v0.toInt = (9) by omega))]
  rw [show f1_6 v0 = f1_12 v0 from if_neg (fun h => absurd ((own_eq (x := v0) (y := (10 : Int32))).mp h) (show ¬ v0.toInt = (10) by omega))]
  rw [show f1_12 v0 = f1_18 v0 from if_neg (fun h => absurd ((own_eq (x := v0) (y := (13 : Int32))).mp h) (show ¬ v0.toInt = (13) by omega))]
  rw [show f1_18 v0 = f1_24 v0 from if_neg (fun h => absurd ((own_lt (x := v0) (y := (32 : Int32))).mp h) (show ¬ v0.toInt < (32) by omega))]
  rw [show f1_24 v0 = f1_30 v0 from if_pos ((own_lt (x := (55295 : Int32)) (y := v0)).mpr (show (55295) < v0.toInt by omega))]
  rw [show f1_30 v0 = f1_36 v0 from if_neg (fun h => absurd ((own_lt (x := v0) (y := (57344 : Int32))).mp h) (show ¬ v0.toInt < (57344) by omega))]
  rw [show f1_36 v0 = f1_42 v0 from if_pos ((own_lt (x := (65533 : Int32)) (y := v0)).mpr (show (65533) < v0.toInt by omega))]
  rw [show f1_42 v0 = f1_48 v0 from if_neg (fun h => absurd ((own_lt (x := v0) (y := (65536 : Int32))).mp h) (show ¬ v0.toInt < (65536) by omega))]
  rw [show f1_48 v0 = f1_54 v0 from if_neg (fun h => absurd ((own_lt (x := (1114111 : Int32)) (y := v0)).mp h) (show ¬ (1114111) < v0.toInt by omega))]
  rfl
theorem t1_13 (v0 : Int32) (h1 : (1114112) ≤ v0.toInt) (h2 : v0.toInt ≤ 2147483647) : f1_0 v0 = (0 : Int32) := by
  rw [show f1_0 v0 = f1_6 v0 from if_neg (fun h => absurd ((own_eq (x := v0) (y := (9 : Int32))).mp h) (show ¬ v0.toInt = (9) by omega))]
  rw [show f1_6 v0 = f1_12 v0 from if_neg (fun h => absurd ((own_eq (x := v0) (y := (10 : Int32))).mp h) (show ¬ v0.toInt = (10) by omega))]
  rw [show f1_12 v0 = f1_18 v0 from if_neg (fun h => absurd ((own_eq (x := v0) (y := (13 : Int32))).mp h) (show ¬ v0.toInt = (13) by omega))]
  rw [show f1_18 v0 = f1_24 v0 from if_neg (fun h => absurd ((own_lt (x := v0) (y := (32 : Int32))).mp h) (show ¬ v0.toInt < (32) by omega))]
  rw [show f1_24 v0 = f1_30 v0 from if_pos ((own_lt (x := (55295 : Int32)) (y := v0)).mpr (show (55295) < v0.toInt by omega))]
  rw [show f1_30 v0 = f1_36 v0 from if_neg (fun h => absurd ((own_lt (x := v0) (y := (57344 : Int32))).mp h) (show ¬ v0.toInt < (57344) by omega))]
  rw [show f1_36 v0 = f1_42 v0 from if_pos ((own_lt (x := (65533 : Int32)) (y := v0)).mpr (show (65533) < v0.toInt by omega))]
  rw [show f1_42 v0 = f1_48 v0 from if_neg (fun h => absurd ((own_lt (x := v0) (y := (65536 : Int32))).mp h) (show ¬ v0.toInt < (65536) by omega))]
  rw [show f1_48 v0 = f1_58 v0 from if_pos ((own_lt (x := (1114111 : Int32)) (y := v0)).mpr (show (1114111) < v0.toInt by omega))]
  rfl
theorem t2_0 (v0 : Int32) (h1 : (-2147483648) ≤ v0.toInt) (h2 : v0.toInt ≤ -1) : f2_0 v0 = (0 : Int32) := by
  rw [show f2_0 v0 = f2_10 v0 from if_pos ((own_lt (x := v0) (y := (0 : Int32))).mpr (show v0.toInt < (0) by omega))]
  rfl
theorem t2_1 (v0 : Int32) (h1 : (0) ≤ v0.toInt) (h2 : v0.toInt ≤ 8) : f2_0 v0 = (0 : Int32) := by
  rw [show f2_0 v0 = f2_4 v0 from if_neg (fun h => absurd ((own_lt (x := v0) (y := (0 : Int32))).mp h) (show ¬ v0.toInt < (0) by omega))]
  rw [show f2_4 v0 = f2_12 v0 from if_neg (fun h => absurd ((own_lt (x := (1114111 : Int32)) (y := v0)).mp h) (show ¬ (1114111) < v0.toInt by omega))]
  rw [show f2_12 v0 = f2_18 v0 from if_pos ((own_lt (x := v0) (y := (32 : Int32))).mpr (show v0.toInt < (32) by omega))]
  rw [show f2_18 v0 = f2_24 v0 from if_neg (fun h => absurd ((own_eq (x := v0) (y := (9 : Int32))).mp h) (show ¬ v0.toInt = (9) by omega))]
  rw [show f2_24 v0 = f2_30 v0 from if_neg (fun h => absurd ((own_eq (x := v0) (y := (10 : Int32))).mp h) (show ¬ v0.toInt = (10) by omega))]
  rw [show f2_30 v0 = f2_40 v0 from if_neg (fun h => absurd ((own_eq (x := v0) (y := (13 : Int32))).mp h) (show ¬ v0.toInt = (13) by omega))]
  rfl
theorem t2_2 (v0 : Int32) (h1 : (9) ≤ v0.toInt) (h2 : v0.toInt ≤ 9) : f2_0 v0 = (1 : Int32) := by
  rw [show f2_0 v0 = f2_4 v0 from if_neg (fun h => absurd ((own_lt (x := v0) (y := (0 : Int32))).mp h) (show ¬ v0.toInt < (0) by omega))]
  rw [show f2_4 v0 = f2_12 v0 from if_neg (fun h => absurd ((own_lt (x := (1114111 : Int32)) (y := v0)).mp h) (show ¬ (1114111) < v0.toInt by omega))]
  rw [show f2_12 v0 = f2_18 v0 from if_pos ((own_lt (x := v0) (y := (32 : Int32))).mpr (show v0.toInt < (32) by omega))]
  rw [show f2_18 v0 = f2_36 v0 from if_pos ((own_eq (x := v0) (y := (9 : Int32))).mpr (show v0.toInt = (9) by omega))]
  rfl
theorem t2_3 (v0 : Int32) (h1 : (10) ≤ v0.toInt) (h2 : v0.toInt ≤ 10) : f2_0 v0 = (1 : Int32) := by
  rw [show f2_0 v0 = f2_4 v0 from if_neg (fun h => absurd ((own_lt (x := v0) (y := (0 : Int32))).mp h) (show ¬ v0.toInt < (0) by omega))]
  rw [show f2_4 v0 = f2_12 v0 from if_neg (fun h => absurd ((own_lt (x := (1114111 : Int32)) (y := v0)).mp h) (show ¬ (1114111) < v0.toInt by omega))]
  rw [show f2_12 v0 = f2_18 v0 from if_pos ((own_lt (x := v0) (y := (32 : Int32))).mpr (show v0.toInt < (32) by omega))]
  rw [show f2_18 v0 = f2_24 v0 from if_neg (fun h => absurd ((own_eq (x := v0) (y := (9 : Int32))).mp h) (show ¬ v0.toInt = (9) by omega))]
  rw [show f2_24 v0 = f2_36 v0 from if_pos ((own_eq (x := v0) (y := (10 : Int32))).mpr (show v0.toInt = (10) by omega))]
  rfl
theorem t2_4 (v0 : Int32) (h1 : (11) ≤ v0.toInt) (h2 : v0.toInt ≤ 12) : f2_0 v0 = (0 : Int32) := by
  rw [show f2_0 v0 = f2_4 v0 from if_neg (fun h => absurd ((own_lt (x := v0) (y := (0 : Int32))).mp h) (show ¬ v0.toInt < (0) by omega))]
  rw [show f2_4 v0 = f2_12 v0 from if_neg (fun h => absurd ((own_lt (x := (1114111 : Int32)) (y := v0)).mp h) (show ¬ (1114111) < v0.toInt by omega))]
  rw [show f2_12 v0 = f2_18 v0 from if_pos ((own_lt (x := v0) (y := (32 : Int32))).mpr (show v0.toInt < (32) by omega))]
  rw [show f2_18 v0 = f2_24 v0 from if_neg (fun h => absurd ((own_eq (x := v0) (y := (9 : Int32))).mp h) (show ¬ v0.toInt = (9) by omega))]
  rw [show f2_24 v0 = f2_30 v0 from if_neg (fun h => absurd ((own_eq (x := v0) (y := (10 : Int32))).mp h) (show ¬ v0.toInt = (10) by omega))]
  rw [show f2_30 v0 = f2_40 v0 from if_neg (fun h => absurd ((own_eq (x := v0) (y := (13 : Int32))).mp h) (show ¬ v0.toInt = (13) by omega))]
  rfl
theorem t2_5 (v0 : Int32) (h1 : (13) ≤ v0.toInt) (h2 : v0.toInt ≤ 13) : f2_0 v0 = (1 : Int32) := by
  rw [show f2_0 v0 = f2_4 v0 from if_neg (fun h => absurd ((own_lt (x := v0) (y := (0 : Int32))).mp h) (show ¬ v0.toInt < (0) by omega))]
  rw [show f2_4 v0 = f2_12 v0 from if_neg (fun h => absurd ((own_lt (x := (1114111 : Int32)) (y := v0)).mp h) (show ¬ (1114111) < v0.toInt by omega))]
  rw [show f2_12 v0 = f2_18 v0 from if_pos ((own_lt (x := v0) (y := (32 : Int32))).mpr (show v0.toInt < (32) by omega))]
  rw [show f2_18 v0 = f2_24 v0 from if_neg (fun h => absurd ((own_eq (x := v0) (y := (9 : Int32))).mp h) (show ¬ v0.toInt = (9) by omega))]
  rw [show f2_24 v0 = f2_30 v0 from if_neg (fun h => absurd ((own_eq (x := v0) (y := (10 : Int32))).mp h) (show ¬ v0.toInt = (10) by omega))]
  rw [show f2_30 v0 = f2_36 v0 from if_pos ((own_eq (x := v0) (y := (13 : Int32))).mpr (show v0.toInt = (13) by omega))]
  rfl
theorem t2_6 (v0 : Int32) (h1 : (14) ≤ v0.toInt) (h2 : v0.toInt ≤ 31) : f2_0 v0 = (0 : Int32) := by
  rw [show f2_0 v0 = f2_4 v0 from if_neg (fun h => absurd ((own_lt (x := v0) (y := (0 : Int32))).mp h) (show ¬ v0.toInt < (0) by omega))]
  rw [show f2_4 v0 = f2_12 v0 from if_neg (fun h => absurd ((own_lt (x := (1114111 : Int32)) (y := v0)).mp h) (show ¬ (1114111) < v0.toInt by omega))]
  rw [show f2_12 v0 = f2_18 v0 from if_pos ((own_lt (x := v0) (y := (32 : Int32))).mpr (show v0.toInt < (32) by omega))]
  rw [show f2_18 v0 = f2_24 v0 from if_neg (fun h => absurd ((own_eq (x := v0) (y := (9 : Int32))).mp h) (show ¬ v0.toInt = (9) by omega))]
  rw [show f2_24 v0 = f2_30 v0 from if_neg (fun h => absurd ((own_eq (x := v0) (y := (10 : Int32))).mp h) (show ¬ v0.toInt = (10) by omega))]
  rw [show f2_30 v0 = f2_40 v0 from if_neg (fun h => absurd ((own_eq (x := v0) (y := (13 : Int32))).mp h) (show ¬ v0.toInt = (13) by omega))]
  rfl
theorem t2_7 (v0 : Int32) (h1 : (32) ≤ v0.toInt) (h2 : v0.toInt ≤ 55295) : f2_0 v0 = (1 : Int32) := by
  rw [show f2_0 v0 = f2_4 v0 from if_neg (fun h => absurd ((own_lt (x := v0) (y := (0 : Int32))).mp h) (show ¬ v0.toInt < (0) by omega))]
  rw [show f2_4 v0 = f2_12 v0 from if_neg (fun h => absurd ((own_lt (x := (1114111 : Int32)) (y := v0)).mp h) (show ¬ (1114111) < v0.toInt by omega))]
  rw [show f2_12 v0 = f2_42 v0 from if_neg (fun h => absurd ((own_lt (x := v0) (y := (32 : Int32))).mp h) (show ¬ v0.toInt < (32) by omega))]
  rw [show f2_42 v0 = f2_56 v0 from if_pos ((own_lt (x := v0) (y := (55296 : Int32))).mpr (show v0.toInt < (55296) by omega))]
  rw [show f2_56 v0 = f2_62 v0 from if_neg (fun h => absurd ((own_eq (x := v0) (y := (65534 : Int32))).mp h) (show ¬ v0.toInt = (65534) by omega))]
  rw [show f2_62 v0 = f2_70 v0 from if_neg (fun h => absurd ((own_eq (x := v0) (y := (65535 : Int32))).mp h) (show ¬ v0.toInt = (65535) by omega))]
  rfl
theorem t2_8 (v0 : Int32) (h1 : (55296) ≤ v0.toInt) (h2 : v0.toInt ≤ 57343) : f2_0 v0 = (0 : Int32) := by
  rw [show f2_0 v0 = f2_4 v0 from if_neg (fun h => absurd ((own_lt (x := v0) (y := (0 : Int32))).mp h) (show ¬ v0.toInt < (0) by omega))]
  rw [show f2_4 v0 = f2_12 v0 from if_neg (fun h => absurd ((own_lt (x := (1114111 : Int32)) (y := v0)).mp h) (show ¬ (1114111) < v0.toInt by omega))]
  rw [show f2_12 v0 = f2_42 v0 from if_neg (fun h => absurd ((own_lt (x := v0) (y := (32 : Int32))).mp h) (show ¬ v0.toInt < (32) by omega))]
  rw [show f2_42 v0 = f2_48 v0 from if_neg (fun h => absurd ((own_lt (x := v0) (y := (55296 : Int32))).mp h) (show ¬ v0.toInt < (55296) by omega))]
  rw [show f2_48 v0 = f2_54 v0 from if_neg (fun h => absurd ((own_lt (x := (57343 : Int32)) (y := v0)).mp h) (show ¬ (57343) < v0.toInt by omega))]
  rfl
theorem t2_9 (v0 : Int32) (h1 : (57344) ≤ v0.toInt) (h2 : v0.toInt ≤ 65533) : f2_0 v0 = (1 : Int32) := by
  rw [show f2_0 v0 = f2_4 v0 from if_neg (fun h => absurd ((own_lt (x := v0) (y := (0 : Int32))).mp h) (show ¬ v0.toInt < (0) by omega))]
  rw [show f2_4 v0 = f2_12 v0 from if_neg (fun h => absurd ((own_lt (x := (1114111 : Int32)) (y := v0)).mp h) (show ¬ (1114111) < v0.toInt by omega))]
  rw [show f2_12 v0 = f2_42 v0 from if_neg (fun h => absurd ((own_lt (x := v0) (y := (32 : Int32))).mp h) (show ¬ v0.toInt < (32) by omega))]
  rw [show f2_42 v0 = f2_48 v0 from if_neg (fun h => absurd ((own_lt (x := v0) (y := (55296 : Int32))).mp h) (show ¬ v0.toInt < (55296) by omega))]
  rw [show f2_48 v0 = f2_56 v0 from if_pos ((own_lt (x := (57343 : Int32)) (y := v0)).mpr (show (57343) < v0.toInt by omega))]
  rw [show f2_56 v0 = f2_62 v0 from if_neg (fun h => absurd ((own_eq (x := v0) (y := (65534 : Int32))).mp h) (show ¬ v0.toInt = (65534) by omega))]
  rw [show f2_62 v0 = f2_70 v0 from if_neg (fun h => absurd ((own_eq (x := v0) (y := (65535 : Int32))).mp h) (show ¬ v0.toInt = (65535) by omega))]
  rfl
theorem t2_10 (v0 : Int32) (h1 : (65534) ≤ v0.toInt) (h2 : v0.toInt ≤ 65534) : f2_0 v0 = (0 : Int32) := by
  rw [show f2_0 v0 = f2_4 v0 from if_neg (fun h => absurd ((own_lt (x := v0) (y := (0 : Int32))).mp h) (show ¬ v0.toInt < (0) by omega))]
  rw [show f2_4 v0 = f2_12 v0 from if_neg (fun h => absurd ((own_lt (x := (1114111 : Int32)) (y := v0)).mp h) (show ¬ (1114111) < v0.toInt by omega))]
  rw [show f2_12 v0 = f2_42 v0 from if_neg (fun h => absurd ((own_lt (x := v0) (y := (32 : Int32))).mp h) (show ¬ v0.toInt < (32) by omega))]
  rw [show f2_42 v0 = f2_48 v0 from if_neg (fun h => absurd ((own_lt (x := v0) (y := (55296 : Int32))).mp h) (show ¬ v0.toInt < (55296) by omega))]
  rw [show f2_48 v0 = f2_56 v0 from if_pos ((own_lt (x := (57343 : Int32)) (y := v0)).mpr (show (57343) < v0.toInt by omega))]
  rw [show f2_56 v0 = f2_68 v0 from if_pos ((own_eq (x := v0) (y := (65534 : Int32))).mpr (show v0.toInt = (65534) by omega))]
  rfl
theorem t2_11 (v0 : Int32) (h1 : (65535) ≤ v0.toInt) (h2 : v0.toInt ≤ 65535) : f2_0 v0 = (0 : Int32) := by
  rw [show f2_0 v0 = f2_4 v0 from if_neg (fun h => absurd ((own_lt (x := v0) (y := (0 : Int32))).mp h) (show ¬ v0.toInt < (0) by omega))]
  rw [show f2_4 v0 = f2_12 v0 from if_neg (fun h => absurd ((own_lt (x := (1114111 : Int32)) (y := v0)).mp h) (show ¬ (1114111) < v0.toInt by omega))]
  rw [show f2_12 v0 = f2_42 v0 from if_neg (fun h => absurd ((own_lt (x := v0) (y := (32 : Int32))).mp h) (show ¬ v0.toInt < (32) by omega))]
  rw [show f2_42 v0 = f2_48 v0 from if_neg (fun h => absurd ((own_lt (x := v0) (y := (55296 : Int32))).mp h) (show ¬ v0.toInt < (55296) by omega))]
  rw [show f2_48 v0 = f2_56 v0 from if_pos ((own_lt (x := (57343 : Int32)) (y := v0)).mpr (show (57343) < v0.toInt by omega))]
  rw [show f2_56 v0 = f2_62 v0 from if_neg (fun h => absurd ((own_eq (x := v0) (y := (65534 : Int32))).mp h) (show ¬ v0.toInt = (65534) by omega))]
  rw [show f2_62 v0 = f2_68 v0 from if_pos ((own_eq (x := v0) (y := (65535 : Int32))).mpr (show v0.toInt = (65535) by omega))]
  rfl
theorem t2_12 (v0 : Int32) (h1 : (65536) ≤ v0.toInt) (h2 : v0.toInt ≤ 1114111) : f2_0 v0 = (1 : Int32) := by
  rw [show f2_0 v0 = f2_4 v0 from if_neg (fun h => absurd ((own_lt (x := v0) (y := (0 : Int32))).mp h) (show ¬ v0.toInt < (0) by omega))]
  rw [show f2_4 v0 = f2_12 v0 from if_neg (fun h => absurd ((own_lt (x := (1114111 : Int32)) (y := v0)).mp h) (show ¬ (1114111) < v0.toInt by omega))]
  rw [show f2_12 v0 = f2_42 v0 from if_neg (fun h => absurd ((own_lt (x := v0) (y := (32 : Int32))).mp h) (show ¬ v0.toInt < (32) by omega))]
  rw [show f2_42 v0 = f2_48 v0 from if_neg (fun h => absurd ((own_lt (x := v0) (y := (55296 : Int32))).mp h) (show ¬ v0.toInt < (55296) by omega))]
  rw [show f2_48 v0 = f2_56 v0 from if_pos ((own_lt (x := (57343 : Int32)) (y := v0)).mpr (show (57343) < v0.toInt by omega))]
  rw [show f2_56 v0 = f2_62 v0 from if_neg (fun h => absurd ((own_eq (x := v0) (y := (65534 : Int32))).mp h) (show ¬ v0.toInt = (65534) by omega))]
  rw [show f2_62 v0 = f2_70 v0 from if_neg (fun h => absurd ((own_eq (x := v0) (y := (65535 : Int32))).mp h) (show ¬ v0.toInt = (65535) by omega))]
  rfl
theorem t2_13 (v0 : Int32) (h1 : (1114112) ≤ v0.toInt) (h2 : v0.toInt ≤ 2147483647) : f2_0 v0 = (0 : Int32) := by
  rw [show f2_0 v0 = f2_4 v0 from if_neg (fun h => absurd ((own_lt (x := v0) (y := (0 : Int32))).mp h) (show ¬ v0.toInt < (0) by omega))]
  rw [show f2_4 v0 = f2_10 v0 from if_pos ((own_lt (x := (1114111 : Int32)) (y := v0)).mpr (show (1114111) < v0.toInt by omega))]
  rfl
theorem own_law (v0 : Int32) : f1_0 v0 = f2_0 v0 := by
  have hlo := v0.le_toInt
  have hhi := v0.toInt_lt
  by_cases c0 : v0.toInt ≤ -1
  · exact (t1_0 v0 (by omega) c0).trans (t2_0 v0 (by omega) c0).symm
  by_cases c1 : v0.toInt ≤ 8
  · exact (t1_1 v0 (by omega) c1).trans (t2_1 v0 (by omega) c1).symm
  by_cases c2 : v0.toInt ≤ 9
  · exact (t1_2 v0 (by omega) c2).trans (t2_2 v0 (by omega) c2).symm
  by_cases c3 : v0.toInt ≤ 10
  · exact (t1_3 v0 (by omega) c3).trans (t2_3 v0 (by omega) c3).symm
  by_cases c4 : v0.toInt ≤ 12
  · exact (t1_4 v0 (by omega) c4).trans (t2_4 v0 (by omega) c4).symm
  by_cases c5 : v0.toInt ≤ 13
  · exact (t1_5 v0 (by omega) c5).trans (t2_5 v0 (by omega) c5).symm
  by_cases c6 : v0.toInt ≤ 31
  · exact (t1_6 v0 (by omega) c6).trans (t2_6 v0 (by omega) c6).symm
  by_cases c7 : v0.toInt ≤ 55295
  · exact (t1_7 v0 (by omega) c7).trans (t2_7 v0 (by omega) c7).symm
  by_cases c8 : v0.toInt ≤ 57343
  · exact (t1_8 v0 (by omega) c8).trans (t2_8 v0 (by omega) c8).symm
  by_cases c9 : v0.toInt ≤ 65533
  · exact (t1_9 v0 (by omega) c9).trans (t2_9 v0 (by omega) c9).symm
  by_cases c10 : v0.toInt ≤ 65534
  · exact (t1_10 v0 (by omega) c10).trans (t2_10 v0 (by omega) c10).symm
  by_cases c11 : v0.toInt ≤ 65535
  · exact (t1_11 v0 (by omega) c11).trans (t2_11 v0 (by omega) c11).symm
  by_cases c12 : v0.toInt ≤ 1114111
  · exact (t1_12 v0 (by omega) c12).trans (t2_12 v0 (by omega) c12).symm
  exact (t1_13 v0 (by omega) (by omega)).trans (t2_13 v0 (by omega) (by omega)).symm
/-- an array of n ints, whatever they are -/
def own_Ar (Z : State) (h : Heap) (a : Addr) (n : Nat) : Prop := ∃ cl : Cell, Arr Z h a cl .int ∧ cl.slots.size = n ∧ ∀ j, j < n → ∃ y : Int32, cl.slots[j]? = some (.int y)
theorem own_Ar_new {Z : State} {h : Heap} {a : Addr} {k : ClassId} {n : Int32} (A : Arr Z h a (newA k .int n) .int) : own_Ar Z h a n.toNatClampNeg :=
  ⟨_, A, sz_new _ _ _, fun j hj => ⟨0, by simp [newA, hj, defaultValue]⟩⟩
section OwnArr
variable {p : Program} {l : Launch} {e : Env} {R : Room} {s : State} {m : MethodId} {args : Array Value} {below : List Frame} {meth : Method} {c : Code} {T : State} {locs : List Loc} {cells slots : Nat} {Z : State} {h : Heap}
theorem own_st (X : Stand p l e R s m args below meth c T locs cells slots) (hx : p.tables.exec = Jvm.exec) (hZ : Z.Warmed39 s.vm) (eT : T.heap = h) {a : Addr} {n n0 : Nat} (A : own_Ar Z h a n) (N : Fr n0 locs) (ha : n0 ≤ a) (Z0 : n0 ≤ h.size) {j x : Int32} (hj0 : ¬ j < 0) (hj : j.toNatClampNeg < n) {g : JFrame} (hg : g.method = m) {rest : List Value} (hs : g.stack = .int x :: .int j :: .ref a :: rest) (hd : decode c.code g.pc = .ok (.iastore, 1)) :
    ∃ T' h' locs', Stand p l e R s m args below meth c T' locs' cells slots ∧ T'.heap = h' ∧ own_Ar Z h' a n ∧ Fr n0 locs' ∧ n0 ≤ h'.size ∧ ∀ target, Steps p.tables e below (T'.setTop { g with pc := g.pc + 1, stack := rest }) target → Steps p.tables e below (T.setTop g) target := by
  obtain ⟨cl, A1, S, V⟩ := A
  obtain ⟨T', h', X', e', W, st⟩ := stI X hx hZ eT A1 (j := j) (x := x) (fun q => q.elim hj0 (fun q => by omega)) hg hs hd
  refine ⟨T', h', _, X', e', ⟨_, A1.same W, by rw [sz_set]; exact S, fun i hi => ?_⟩, Fr.snoc X' N ha, by rw [W.size]; exact Z0, st⟩
  by_cases u : j.toNatClampNeg = i
  · exact ⟨x, by subst u; simp [Cell.setSlot, S, hi]⟩
  · obtain ⟨y, hy⟩ := V i hi
    exact ⟨y, by simp only [Cell.setSlot]; rw [Array.getElem?_setIfInBounds_ne u]; exact hy⟩
theorem own_ld (X : Stand p l e R s m args below meth c T locs cells slots) (hx : p.tables.exec = Jvm.exec) (hZ : Z.Warmed39 s.vm) (eT : T.heap = h) {a : Addr} {n : Nat} (A : own_Ar Z h a n) {j : Int32} (hj0 : ¬ j < 0) (hj : j.toNatClampNeg < n) {g : JFrame} (hg : g.method = m) {rest : List Value} (hs : g.stack = .int j :: .ref a :: rest) (hd : decode c.code g.pc = .ok (.iaload, 1)) :
    ∃ y : Int32, ∀ target, Steps p.tables e below (T.setTop { g with pc := g.pc + 1, stack := .int y :: rest }) target → Steps p.tables e below (T.setTop g) target := by
  obtain ⟨cl, A1, S, V⟩ := A
  obtain ⟨y, hy⟩ := V _ hj
  exact ⟨y, fun target k => X.iaload hx (by rw [eT]; exact A1.1) (State.isArrayOf_alike hZ.alike A1.2.1) A1.2.2 (fun q => q.elim hj0 (fun q => by omega)) hy hg hs hd target k⟩
theorem own_len (X : Stand p l e R s m args below meth c T locs cells slots) (hx : p.tables.exec = Jvm.exec) (hZ : Z.Warmed39 s.vm) (eT : T.heap = h) {a : Addr} {n : Nat} (A : own_Ar Z h a n) {g : JFrame} (hg : g.method = m) {rest : List Value} (hs : g.stack = .ref a :: rest) (hd : decode c.code g.pc = .ok (.arraylength, 1)) :
    ∀ target, Steps p.tables e below (T.setTop { g with pc := g.pc + 1, stack := .int n.toInt32 :: rest }) target → Steps p.tables e below (T.setTop g) target := by
  obtain ⟨cl, A1, rfl, V⟩ := A
  intro target k
  exact X.arraylength hx (by rw [eT]; exact A1.1) (State.isArrayOf_alike hZ.alike A1.2.1) hg hs hd target k
end OwnArr
/-- (v & MAX) % d lies in 0 .. d - 1 -/
theorem own_rem (v y : Int32) (d : Int) (hy : y.toInt = d) (hd : 1 < d) : (v &&& (2147483647 : Int32)) - ((v &&& (2147483647 : Int32)) / y) * y = (v &&& (2147483647 : Int32)) - ((v &&& (2147483647 : Int32)) / y) * y ∧ 0 ≤ ((v &&& (2147483647 : Int32)) - ((v &&& (2147483647 : Int32)) / y) * y).toInt ∧ ((v &&& (2147483647 : Int32)) - ((v &&& (2147483647 : Int32)) / y) * y).toInt < d := by
  refine ⟨rfl, ?_⟩
  have h0 := (c_andS v 2147483647).2.2 (by decide)
  generalize (v &&& (2147483647 : Int32)) = x at *
  have h1 := (c_idiv x y d hy (fun q => by rw [q] at hy; have : (-1 : Int32).toInt = -1 := by decide
                                           omega)).1 h0
  have h2 := c_imul (x / y) y
  have h3 := c_isub x ((x / y) * y)
  rw [h1, hy] at h2
  have h4 := rng32 x
  have h5 := rng32 ((x / y) * y)
  have h6 := rng32 (x - (x / y) * y)
  have h7 : x.toInt / d * d = x.toInt - x.toInt % d := by have := Int.mul_ediv_add_emod x.toInt d; rw [Int.mul_comm] at this; omega
  have h8 := Int.emod_nonneg x.toInt (show d ≠ 0 by omega)
  have h9 := Int.emod_lt_of_pos x.toInt (show 0 < d by omega)
  have hA : 0 ≤ x.toInt / d * d := Int.mul_nonneg (Int.ediv_nonneg h0 (by omega)) (by omega)
  generalize x.toInt / d * d = B at *
  omega
theorem pn_0 : plainName "com/example/itinera/itinera/XmlCharsIsXmlCharPinLaw" = true := by first | (simp [plainName, overriddenIn]; done) | decide +kernel
theorem ef_0 (m : MethodId) (x0 : Int32) (x1 : Int32) (x2 : Int32) : entryFrame m #[(.int x0), (.int x1), (.int x2)] maxLocals = (mkF m 0 #[.val (.int x0), .val (.int x1), .val (.int x2), .unset, .unset, .unset, .unset] []) := by first | (simp [entryFrame, mkF, argsToLocals, Value.category, maxLocals]; done) | rfl
def Q0 (n0 : Nat) (v : Option Value) (L : List Loc) : Prop := v = some (.int (1 : Int32)) ∧ Fr n0 L
set_option maxRecDepth 65536 in
set_option maxHeartbeats 40000000 in
theorem rm0 (l : Launch) (Z : State) (a0 : Array Value) (hw : ∀ d ∈ tables_1, d.before a0 Z = true) (ws : List Jvm.Cond) (v0 : Int32) (v1 : Int32) (v2 : Int32) (h0 : Heap) (n0 : Nat) (Z0 : n0 ≤ h0.size) :
    MetFree l x (head1 (Jvm.Cond.code x code maxLocals ret :: ws) room_1) (fun a U => a = #[(.int v0), (.int v1), (.int v2)] ∧ Z.Warmed39 U.vm ∧ U.heap = h0) (fun _ _ _ _ _ => True) (fun _ U o U' => ∃ v L, o = .returned v ∧ Q0 n0 v L ∧ FrameEnd U o U' L room_1.cells room_1.slots) := by
  refine MetFree.of_bodySF (plainFor_of_name pn_0) hisR ?_
  intro p e s m args below meth c s₁ Bd hml0 hP hK
  obtain ⟨rfl, hZ, hh⟩ := hP
  have hx := Bd.exec
  have hby := Bd.bytes
  have hml : c.maxLocals = 7 := hml0
  have hown : s.vm.findClass "com/example/itinera/itinera/XmlCharsIsXmlCharPinLaw" = some m.cls := findClass_of_methodNamed Bd.named
  have X0 : Stand p l e room_1 s m #[(.int v0), (.int v1), (.int v2)] below meth c s₁ [] 0 0 := Stand.of_body Bd
  have e0 : s₁.heap = h0 := by rw [← hh, Bd.state]; rfl
  have N0 := Fr.nil n0
  have pre0 : ∀ t, Steps p.tables e below (s₁.setTop (mkF m 0 #[.val (.int v0), .val (.int v1), .val (.int v2), .unset, .unset, .unset, .unset] [])) t → Steps p.tables e below (s₁.setTop (entryFrame m #[(.int v0), (.int v1), (.int v2)] maxLocals)) t := fun t k => castTop (ef_0 m v0 v1 v2) k
  have sg1 : ∀ t, Steps p.tables e below (s₁.setTop (mkF m 2 #[.val (.int v0), .val (.int v1), .val (.int v2), .unset, .unset, .unset, .unset] [(.int (17 : Int32))])) t → Steps p.tables e below (s₁.setTop (mkF m 0 #[.val (.int v0), .val (.int v1), .val (.int v2), .unset, .unset, .unset, .unset] [])) t := by
    intro t k
    show Steps p.tables e below (s₁.setTop (mkF m 0 #[.val (.int v0), .val (.int v1), .val (.int v2), .unset, .unset, .unset, .unset] [])) _
    refine XS.bipush X0.here hx rfl (hb hby at_0) ?_
    show Steps p.tables e below (s₁.setTop (mkF m 2 #[.val (.int v0), .val (.int v1), .val (.int v2), .unset, .unset, .unset, .unset] [(.int (17 : Int32))])) _
    exact k
  obtain ⟨T2, h2, k2, X2, e2, E2, A2, st2⟩ := newP X0 hx hZ (hw _ (List.mem_of_getElem? (i := 0) rfl)) e0 (g := (mkF m 2 #[.val (.int v0), .val (.int v1), .val (.int v2), .unset, .unset, .unset, .unset] [(.int (17 : Int32))])) rfl (hb hby at_2) rfl (by decide : ¬ ((17 : Int32) < (0 : Int32))) (cap := 17) (by decide : (17 : Int32).toNatClampNeg ≤ 17) (by decide) (by decide) (by decide)
  obtain ⟨aa, ga⟩ : ∃ z, z = h0.size := ⟨_, rfl⟩
  rw [← ga] at A2 st2
  have V2 : own_Ar Z h2 aa 17 := own_Ar_new A2
  have Za2 : n0 ≤ h2.size := Nat.le_trans Z0 E2.1
  have ha : n0 ≤ aa := Nat.le_trans Z0 (Nat.le_of_eq ga.symm)
  have sg3 : ∀ t, Steps p.tables e below (T2.setTop (mkF m 7 #[.val (.int v0), .val (.int v1), .val (.int v2), .unset, .unset, .unset, .unset] [(.int (0 : Int32)), (.int (0 : Int32)), (.ref aa), (.ref aa)])) t → Steps p.tables e below (T2.setTop (mkF m 4 #[.val (.int v0), .val (.int v1), .val (.int v2), .unset, .unset, .unset, .unset] [(.ref aa)])) t := by
    intro t k
    show Steps p.tables e below (T2.setTop (mkF m 4 #[.val (.int v0), .val (.int v1), .val (.int v2), .unset, .unset, .unset, .unset] [(.ref aa)])) _
    refine XS.dup X2.here hx rfl (hb hby at_4) rfl rfl ?_
    show Steps p.tables e below (T2.setTop (mkF m 5 #[.val (.int v0), .val (.int v1), .val (.int v2), .unset, .unset, .unset, .unset] [(.ref aa), (.ref aa)])) _
    refine XS.iconst X2.here hx rfl (hb hby at_5) ?_
    show Steps p.tables e below (T2.setTop (mkF m 6 #[.val (.int v0), .val (.int v1), .val (.int v2), .unset, .unset, .unset, .unset] [(.int (0 : Int32)), (.ref aa), (.ref aa)])) _
    refine XS.iconst X2.here hx rfl (hb hby at_6) ?_
    show Steps p.tables e below (T2.setTop (mkF m 7 #[.val (.int v0), .val (.int v1), .val (.int v2), .unset, .unset, .unset, .unset] [(.int (0 : Int32)), (.int (0 : Int32)), (.ref aa), (.ref aa)])) _
    exact k
  obtain ⟨T4, h4, L4, X4, e4, V4, N4, Za4, st4⟩ := own_st X2 hx hZ e2 V2 N0 ha Za2 (j := (0 : Int32)) (x := (0 : Int32)) (by decide) (by decide) (g := (mkF m 7 #[.val (.int v0), .val (.int v1), .val (.int v2), .unset, .unset, .unset, .unset] [(.int (0 : Int32)), (.int (0 : Int32)), (.ref aa), (.ref aa)])) rfl rfl (hb hby at_7)
  have sg5 : ∀ t, Steps p.tables e below (T4.setTop (mkF m 12 #[.val (.int v0), .val (.int v1), .val (.int v2), .unset, .unset, .unset, .unset] [(.int (9 : Int32)), (.int (1 : Int32)), (.ref aa), (.ref aa)])) t → Steps p.tables e below (T4.setTop (mkF m 8 #[.val (.int v0), .val (.int v1), .val (.int v2), .unset, .unset, .unset, .unset] [(.ref aa)])) t := by
    intro t k
    show Steps p.tables e below (T4.setTop (mkF m 8 #[.val (.int v0), .val (.int v1), .val (.int v2), .unset, .unset, .unset, .unset] [(.ref aa)])) _
    refine XS.dup X4.here hx rfl (hb hby at_8) rfl rfl ?_
    show Steps p.tables e below (T4.setTop (mkF m 9 #[.val (.int v0), .val (.int v1), .val (.int v2), .unset, .unset, .unset, .unset] [(.ref aa), (.ref aa)])) _
    refine XS.iconst X4.here hx rfl (hb hby at_9) ?_
    show Steps p.tables e below (T4.setTop (mkF m 10 #[.val (.int v0), .val (.int v1), .val (.int v2), .unset, .unset, .unset, .unset] [(.int (1 : Int32)), (.ref aa), (.ref aa)])) _
    refine XS.bipush X4.here hx rfl (hb hby at_10) ?_
    show Steps p.tables e below (T4.setTop (mkF m 12 #[.val (.int v0), .val (.int v1), .val (.int v2), .unset, .unset, .unset, .unset] [(.int (9 : Int32)), (.int (1 : Int32)), (.ref aa), (.ref aa)])) _
    exact k
  obtain ⟨T6, h6, L6, X6, e6, V6, N6, Za6, st6⟩ := own_st X4 hx hZ e4 V4 N4 ha Za4 (j := (1 : Int32)) (x := (9 : Int32)) (by decide) (by decide) (g := (mkF m 12 #[.val (.int v0), .val (.int v1), .val (.int v2), .unset, .unset, .unset, .unset] [(.int (9 : Int32)), (.int (1 : Int32)), (.ref aa), (.ref aa)])) rfl rfl (hb hby at_12)
  have sg7 : ∀ t, Steps p.tables e below (T6.setTop (mkF m 17 #[.val (.int v0), .val (.int v1), .val (.int v2), .unset, .unset, .unset, .unset] [(.int (10 : Int32)), (.int (2 : Int32)), (.ref aa), (.ref aa)])) t → Steps p.tables e below (T6.setTop (mkF m 13 #[.val (.int v0), .val (.int v1), .val (.int v2), .unset, .unset, .unset, .unset] [(.ref aa)])) t := by
    intro t k
    show Steps p.tables e below (T6.setTop (mkF m 13 #[.val (.int v0), .val (.int v1), .val (.int v2), .unset, .unset, .unset, .unset] [(.ref aa)])) _
    refine XS.dup X6.here hx rfl (hb hby at_13) rfl rfl ?_
    show Steps p.tables e below (T6.setTop (mkF m 14 #[.val (.int v0), .val (.int v1), .val (.int v2), .unset, .unset, .unset, .unset] [(.ref aa), (.ref aa)])) _
    refine XS.iconst X6.here hx rfl (hb hby at_14) ?_
    show Steps p.tables e below (T6.setTop (mkF m 15 #[.val (.int v0), .val (.int v1), .val (.int v2), .unset, .unset, .unset, .unset] [(.int (2 : Int32)), (.ref aa), (.ref aa)])) _
    refine XS.bipush X6.here hx rfl (hb hby at_15) ?_
    show Steps p.tables e below (T6.setTop (mkF m 17 #[.val (.int v0), .val (.int v1), .val (.int v2), .unset, .unset, .unset, .unset] [(.int (10 : Int32)), (.int (2 : Int32)), (.ref aa), (.ref aa)])) _
    exact k
  obtain ⟨T8, h8, L8, X8, e8, V8, N8, Za8, st8⟩ := own_st X6 hx hZ e6 V6 N6 ha Za6 (j := (2 : Int32)) (x := (10 : Int32)) (by decide) (by decide) (g := (mkF m 17 #[.val (.int v0), .val (.int v1), .val (.int v2), .unset, .unset, .unset, .unset] [(.int (10 : Int32)), (.int (2 : Int32)), (.ref aa), (.ref aa)])) rfl rfl (hb hby at_17)
  have sg9 : ∀ t, Steps p.tables e below (T8.setTop (mkF m 22 #[.val (.int v0), .val (.int v1), .val (.int v2), .unset, .unset, .unset, .unset] [(.int (13 : Int32)), (.int (3 : Int32)), (.ref aa), (.ref aa)])) t → Steps p.tables e below (T8.setTop (mkF m 18 #[.val (.int v0), .val (.int v1), .val (.int v2), .unset, .unset, .unset, .unset] [(.ref aa)])) t := by
    intro t k
    show Steps p.tables e below (T8.setTop (mkF m 18 #[.val (.int v0), .val (.int v1), .val (.int v2), .unset, .unset, .unset, .unset] [(.ref aa)])) _
    refine XS.dup X8.here hx rfl (hb hby at_18) rfl rfl ?_
    show Steps p.tables e below (T8.setTop (mkF m 19 #[.val (.int v0), .val (.int v1), .val (.int v2), .unset, .unset, .unset, .unset] [(.ref aa), (.ref aa)])) _
    refine XS.iconst X8.here hx rfl (hb hby at_19) ?_
    show Steps p.tables e below (T8.setTop (mkF m 20 #[.val (.int v0), .val (.int v1), .val (.int v2), .unset, .unset, .unset, .unset] [(.int (3 : Int32)), (.ref aa), (.ref aa)])) _
    refine XS.bipush X8.here hx rfl (hb hby at_20) ?_
    show Steps p.tables e below (T8.setTop (mkF m 22 #[.val (.int v0), .val (.int v1), .val (.int v2), .unset, .unset, .unset, .unset] [(.int (13 : Int32)), (.int (3 : Int32)), (.ref aa), (.ref aa)])) _
    exact k
  obtain ⟨T10, h10, L10, X10, e10, V10, N10, Za10, st10⟩ := own_st X8 hx hZ e8 V8 N8 ha Za8 (j := (3 : Int32)) (x := (13 : Int32)) (by decide) (by decide) (g := (mkF m 22 #[.val (.int v0), .val (.int v1), .val (.int v2), .unset, .unset, .unset, .unset] [(.int (13 : Int32)), (.int (3 : Int32)), (.ref aa), (.ref aa)])) rfl rfl (hb hby at_22)
  have sg11 : ∀ t, Steps p.tables e below (T10.setTop (mkF m 27 #[.val (.int v0), .val (.int v1), .val (.int v2), .unset, .unset, .unset, .unset] [(.int (32 : Int32)), (.int (4 : Int32)), (.ref aa), (.ref aa)])) t → Steps p.tables e below (T10.setTop (mkF m 23 #[.val (.int v0), .val (.int v1), .val (.int v2), .unset, .unset, .unset, .unset] [(.ref aa)])) t := by
    intro t k
    show Steps p.tables e below (T10.setTop (mkF m 23 #[.val (.int v0), .val (.int v1), .val (.int v2), .unset, .unset, .unset, .unset] [(.ref aa)])) _
    refine XS.dup X10.here hx rfl (hb hby at_23) rfl rfl ?_
    show Steps p.tables e below (T10.setTop (mkF m 24 #[.val (.int v0), .val (.int v1), .val (.int v2), .unset, .unset, .unset, .unset] [(.ref aa), (.ref aa)])) _
    refine XS.iconst X10.here hx rfl (hb hby at_24) ?_
    show Steps p.tables e below (T10.setTop (mkF m 25 #[.val (.int v0), .val (.int v1), .val (.int v2), .unset, .unset, .unset, .unset] [(.int (4 : Int32)), (.ref aa), (.ref aa)])) _
    refine XS.bipush X10.here hx rfl (hb hby at_25) ?_
    show Steps p.tables e below (T10.setTop (mkF m 27 #[.val (.int v0), .val (.int v1), .val (.int v2), .unset, .unset, .unset, .unset] [(.int (32 : Int32)), (.int (4 : Int32)), (.ref aa), (.ref aa)])) _
    exact k
  obtain ⟨T12, h12, L12, X12, e12, V12, N12, Za12, st12⟩ := own_st X10 hx hZ e10 V10 N10 ha Za10 (j := (4 : Int32)) (x := (32 : Int32)) (by decide) (by decide) (g := (mkF m 27 #[.val (.int v0), .val (.int v1), .val (.int v2), .unset, .unset, .unset, .unset] [(.int (32 : Int32)), (.int (4 : Int32)), (.ref aa), (.ref aa)])) rfl rfl (hb hby at_27)
  have sg13 : ∀ t, Steps p.tables e below (T12.setTop (mkF m 32 #[.val (.int v0), .val (.int v1), .val (.int v2), .unset, .unset, .unset, .unset] [(.int (55295 : Int32)), (.int (5 : Int32)), (.ref aa), (.ref aa)])) t → Steps p.tables e below (T12.setTop (mkF m 28 #[.val (.int v0), .val (.int v1), .val (.int v2), .unset, .unset, .unset, .unset] [(.ref aa)])) t := by
    intro t k
    show Steps p.tables e below (T12.setTop (mkF m 28 #[.val (.int v0), .val (.int v1), .val (.int v2), .unset, .unset, .unset, .unset] [(.ref aa)])) _
    refine XS.dup X12.here hx rfl (hb hby at_28) rfl rfl ?_
    show Steps p.tables e below (T12.setTop (mkF m 29 #[.val (.int v0), .val (.int v1), .val (.int v2), .unset, .unset, .unset, .unset] [(.ref aa), (.ref aa)])) _
    refine XS.iconst X12.here hx rfl (hb hby at_29) ?_
    show Steps p.tables e below (T12.setTop (mkF m 30 #[.val (.int v0), .val (.int v1), .val (.int v2), .unset, .unset, .unset, .unset] [(.int (5 : Int32)), (.ref aa), (.ref aa)])) _
    refine X12.ldcI hx hown (mv hZ (hw _ (List.mem_of_getElem? (i := 1) rfl))) rfl (hb hby at_30) ?_
    show Steps p.tables e below (T12.setTop (mkF m 32 #[.val (.int v0), .val (.int v1), .val (.int v2), .unset, .unset, .unset, .unset] [(.int (55295 : Int32)), (.int (5 : Int32)), (.ref aa), (.ref aa)])) _
    exact k
  obtain ⟨T14, h14, L14, X14, e14, V14, N14, Za14, st14⟩ := own_st X12 hx hZ e12 V12 N12 ha Za12 (j := (5 : Int32)) (x := (55295 : Int32)) (by decide) (by decide) (g := (mkF m 32 #[.val (.int v0), .val (.int v1), .val (.int v2), .unset, .unset, .unset, .unset] [(.int (55295 : Int32)), (.int (5 : Int32)), (.ref aa), (.ref aa)])) rfl rfl (hb hby at_32)
  have sg15 : ∀ t, Steps p.tables e below (T14.setTop (mkF m 38 #[.val (.int v0), .val (.int v1), .val (.int v2), .unset, .unset, .unset, .unset] [(.int (55296 : Int32)), (.int (6 : Int32)), (.ref aa), (.ref aa)])) t → Steps p.tables e below (T14.setTop (mkF m 33 #[.val (.int v0), .val (.int v1), .val (.int v2), .unset, .unset, .unset, .unset] [(.ref aa)])) t := by
    intro t k
    show Steps p.tables e below (T14.setTop (mkF m 33 #[.val (.int v0), .val (.int v1), .val (.int v2), .unset, .unset, .unset, .unset] [(.ref aa)])) _
    refine XS.dup X14.here hx rfl (hb hby at_33) rfl rfl ?_
    show Steps p.tables e below (T14.setTop (mkF m 34 #[.val (.int v0), .val (.int v1), .val (.int v2), .unset, .unset, .unset, .unset] [(.ref aa), (.ref aa)])) _
    refine XS.bipush X14.here hx rfl (hb hby at_34) ?_
    show Steps p.tables e below (T14.setTop (mkF m 36 #[.val (.int v0), .val (.int v1), .val (.int v2), .unset, .unset, .unset, .unset] [(.int (6 : Int32)), (.ref aa), (.ref aa)])) _
    refine X14.ldcI hx hown (mv hZ (hw _ (List.mem_of_getElem? (i := 2) rfl))) rfl (hb hby at_36) ?_
    show Steps p.tables e below (T14.setTop (mkF m 38 #[.val (.int v0), .val (.int v1), .val (.int v2), .unset, .unset, .unset, .unset] [(.int (55296 : Int32)), (.int (6 : Int32)), (.ref aa), (.ref aa)])) _
    exact k
  obtain ⟨T16, h16, L16, X16, e16, V16, N16, Za16, st16⟩ := own_st X14 hx hZ e14 V14 N14 ha Za14 (j := (6 : Int32)) (x := (55296 : Int32)) (by decide) (by decide) (g := (mkF m 38 #[.val (.int v0), .val (.int v1), .val (.int v2), .unset, .unset, .unset, .unset] [(.int (55296 : Int32)), (.int (6 : Int32)), (.ref aa), (.ref aa)])) rfl rfl (hb hby at_38)
  have sg17 : ∀ t, Steps p.tables e below (T16.setTop (mkF m 44 #[.val (.int v0), .val (.int v1), .val (.int v2), .unset, .unset, .unset, .unset] [(.int (57343 : Int32)), (.int (7 : Int32)), (.ref aa), (.ref aa)])) t → Steps p.tables e below (T16.setTop (mkF m 39 #[.val (.int v0), .val (.int v1), .val (.int v2), .unset, .unset, .unset, .unset] [(.ref aa)])) t := by
    intro t k
    show Steps p.tables e below (T16.setTop (mkF m 39 #[.val (.int v0), .val (.int v1), .val (.int v2), .unset, .unset, .unset, .unset] [(.ref aa)])) _
    refine XS.dup X16.here hx rfl (hb hby at_39) rfl rfl ?_
    show Steps p.tables e below (T16.setTop (mkF m 40 #[.val (.int v0), .val (.int v1), .val (.int v2), .unset, .unset, .unset, .unset] [(.ref aa), (.ref aa)])) _
    refine XS.bipush X16.here hx rfl (hb hby at_40) ?_
    show Steps p.tables e below (T16.setTop (mkF m 42 #[.val (.int v0), .val (.int v1), .val (.int v2), .unset, .unset, .unset, .unset] [(.int (7 : Int32)), (.ref aa), (.ref aa)])) _
    refine X16.ldcI hx hown (mv hZ (hw _ (List.mem_of_getElem? (i := 3) rfl))) rfl (hb hby at_42) ?_
    show Steps p.tables e below (T16.setTop (mkF m 44 #[.val (.int v0), .val (.int v1), .val (.int v2), .unset, .unset, .unset, .unset] [(.int (57343 : Int32)), (.int (7 : Int32)), (.ref aa), (.ref aa)])) _
    exact k
  obtain ⟨T18, h18, L18, X18, e18, V18, N18, Za18, st18⟩ := own_st X16 hx hZ e16 V16 N16 ha Za16 (j := (7 : Int32)) (x := (57343 : Int32)) (by decide) (by decide) (g := (mkF m 44 #[.val (.int v0), .val (.int v1), .val (.int v2), .unset, .unset, .unset, .unset] [(.int (57343 : Int32)), (.int (7 : Int32)), (.ref aa), (.ref aa)])) rfl rfl (hb hby at_44)
  have sg19 : ∀ t, Steps p.tables e below (T18.setTop (mkF m 50 #[.val (.int v0), .val (.int v1), .val (.int v2), .unset, .unset, .unset, .unset] [(.int (57344 : Int32)), (.int (8 : Int32)), (.ref aa), (.ref aa)])) t → Steps p.tables e below (T18.setTop (mkF m 45 #[.val (.int v0), .val (.int v1), .val (.int v2), .unset, .unset, .unset, .unset] [(.ref aa)])) t := by
    intro t k
    show Steps p.tables e below (T18.setTop (mkF m 45 #[.val (.int v0), .val (.int v1), .val (.int v2), .unset, .unset, .unset, .unset] [(.ref aa)])) _
    refine XS.dup X18.here hx rfl (hb hby at_45) rfl rfl ?_
    show Steps p.tables e below (T18.setTop (mkF m 46 #[.val (.int v0), .val (.int v1), .val (.int v2), .unset, .unset, .unset, .unset] [(.ref aa), (.ref aa)])) _
    refine XS.bipush X18.here hx rfl (hb hby at_46) ?_
    show Steps p.tables e below (T18.setTop (mkF m 48 #[.val (.int v0), .val (.int v1), .val (.int v2), .unset, .unset, .unset, .unset] [(.int (8 : Int32)), (.ref aa), (.ref aa)])) _
    refine X18.ldcI hx hown (mv hZ (hw _ (List.mem_of_getElem? (i := 4) rfl))) rfl (hb hby at_48) ?_
    show Steps p.tables e below (T18.setTop (mkF m 50 #[.val (.int v0), .val (.int v1), .val (.int v2), .unset, .unset, .unset, .unset] [(.int (57344 : Int32)), (.int (8 : Int32)), (.ref aa), (.ref aa)])) _
    exact k
  obtain ⟨T20, h20, L20, X20, e20, V20, N20, Za20, st20⟩ := own_st X18 hx hZ e18 V18 N18 ha Za18 (j := (8 : Int32)) (x := (57344 : Int32)) (by decide) (by decide) (g := (mkF m 50 #[.val (.int v0), .val (.int v1), .val (.int v2), .unset, .unset, .unset, .unset] [(.int (57344 : Int32)), (.int (8 : Int32)), (.ref aa), (.ref aa)])) rfl rfl (hb hby at_50)
  have sg21 : ∀ t, Steps p.tables e below (T20.setTop (mkF m 56 #[.val (.int v0), .val (.int v1), .val (.int v2), .unset, .unset, .unset, .unset] [(.int (65533 : Int32)), (.int (9 : Int32)), (.ref aa), (.ref aa)])) t → Steps p.tables e below (T20.setTop (mkF m 51 #[.val (.int v0), .val (.int v1), .val (.int v2), .unset, .unset, .unset, .unset] [(.ref aa)])) t := by
    intro t k
    show Steps p.tables e below (T20.setTop (mkF m 51 #[.val (.int v0), .val (.int v1), .val (.int v2), .unset, .unset, .unset, .unset] [(.ref aa)])) _
    refine XS.dup X20.here hx rfl (hb hby at_51) rfl rfl ?_
    show Steps p.tables e below (T20.setTop (mkF m 52 #[.val (.int v0), .val (.int v1), .val (.int v2), .unset, .unset, .unset, .unset] [(.ref aa), (.ref aa)])) _
    refine XS.bipush X20.here hx rfl (hb hby at_52) ?_
    show Steps p.tables e below (T20.setTop (mkF m 54 #[.val (.int v0), .val (.int v1), .val (.int v2), .unset, .unset, .unset, .unset] [(.int (9 : Int32)), (.ref aa), (.ref aa)])) _
    refine X20.ldcI hx hown (mv hZ (hw _ (List.mem_of_getElem? (i := 5) rfl))) rfl (hb hby at_54) ?_
    show Steps p.tables e below (T20.setTop (mkF m 56 #[.val (.int v0), .val (.int v1), .val (.int v2), .unset, .unset, .unset, .unset] [(.int (65533 : Int32)), (.int (9 : Int32)), (.ref aa), (.ref aa)])) _
    exact k
  obtain ⟨T22, h22, L22, X22, e22, V22, N22, Za22, st22⟩ := own_st X20 hx hZ e20 V20 N20 ha Za20 (j := (9 : Int32)) (x := (65533 : Int32)) (by decide) (by decide) (g := (mkF m 56 #[.val (.int v0), .val (.int v1), .val (.int v2), .unset, .unset, .unset, .unset] [(.int (65533 : Int32)), (.int (9 : Int32)), (.ref aa), (.ref aa)])) rfl rfl (hb hby at_56)
  have sg23 : ∀ t, Steps p.tables e below (T22.setTop (mkF m 62 #[.val (.int v0), .val (.int v1), .val (.int v2), .unset, .unset, .unset, .unset] [(.int (65534 : Int32)), (.int (10 : Int32)), (.ref aa), (.ref aa)])) t → Steps p.tables e below (T22.setTop (mkF m 57 #[.val (.int v0), .val (.int v1), .val (.int v2), .unset, .unset, .unset, .unset] [(.ref aa)])) t := by
    intro t k
    show Steps p.tables e below (T22.setTop (mkF m 57 #[.val (.int v0), .val (.int v1), .val (.int v2), .unset, .unset, .unset, .unset] [(.ref aa)])) _
    refine XS.dup X22.here hx rfl (hb hby at_57) rfl rfl ?_
    show Steps p.tables e below (T22.setTop (mkF m 58 #[.val (.int v0), .val (.int v1), .val (.int v2), .unset, .unset, .unset, .unset] [(.ref aa), (.ref aa)])) _
    refine XS.bipush X22.here hx rfl (hb hby at_58) ?_
    show Steps p.tables e below (T22.setTop (mkF m 60 #[.val (.int v0), .val (.int v1), .val (.int v2), .unset, .unset, .unset, .unset] [(.int (10 : Int32)), (.ref aa), (.ref aa)])) _
    refine X22.ldcI hx hown (mv hZ (hw _ (List.mem_of_getElem? (i := 6) rfl))) rfl (hb hby at_60) ?_
    show Steps p.tables e below (T22.setTop (mkF m 62 #[.val (.int v0), .val (.int v1), .val (.int v2), .unset, .unset, .unset, .unset] [(.int (65534 : Int32)), (.int (10 : Int32)), (.ref aa), (.ref aa)])) _
    exact k
  obtain ⟨T24, h24, L24, X24, e24, V24, N24, Za24, st24⟩ := own_st X22 hx hZ e22 V22 N22 ha Za22 (j := (10 : Int32)) (x := (65534 : Int32)) (by decide) (by decide) (g := (mkF m 62 #[.val (.int v0), .val (.int v1), .val (.int v2), .unset, .unset, .unset, .unset] [(.int (65534 : Int32)), (.int (10 : Int32)), (.ref aa), (.ref aa)])) rfl rfl (hb hby at_62)
  have sg25 : ∀ t, Steps p.tables e below (T24.setTop (mkF m 68 #[.val (.int v0), .val (.int v1), .val (.int v2), .unset, .unset, .unset, .unset] [(.int (65535 : Int32)), (.int (11 : Int32)), (.ref aa), (.ref aa)])) t → Steps p.tables e below (T24.setTop (mkF m 63 #[.val (.int v0), .val (.int v1), .val (.int v2), .unset, .unset, .unset, .unset] [(.ref aa)])) t := by
    intro t k
    show Steps p.tables e below (T24.setTop (mkF m 63 #[.val (.int v0), .val (.int v1), .val (.int v2), .unset, .unset, .unset, .unset] [(.ref aa)])) _
    refine XS.dup X24.here hx rfl (hb hby at_63) rfl rfl ?_
    show Steps p.tables e below (T24.setTop (mkF m 64 #[.val (.int v0), .val (.int v1), .val (.int v2), .unset, .unset, .unset, .unset] [(.ref aa), (.ref aa)])) _
    refine XS.bipush X24.here hx rfl (hb hby at_64) ?_
    show Steps p.tables e below (T24.setTop (mkF m 66 #[.val (.int v0), .val (.int v1), .val (.int v2), .unset, .unset, .unset, .unset] [(.int (11 : Int32)), (.ref aa), (.ref aa)])) _
    refine X24.ldcI hx hown (mv hZ (hw _ (List.mem_of_getElem? (i := 7) rfl))) rfl (hb hby at_66) ?_
    show Steps p.tables e below (T24.setTop (mkF m 68 #[.val (.int v0), .val (.int v1), .val (.int v2), .unset, .unset, .unset, .unset] [(.int (65535 : Int32)), (.int (11 : Int32)), (.ref aa), (.ref aa)])) _
    exact k
  obtain ⟨T26, h26, L26, X26, e26, V26, N26, Za26, st26⟩ := own_st X24 hx hZ e24 V24 N24 ha Za24 (j := (11 : Int32)) (x := (65535 : Int32)) (by decide) (by decide) (g := (mkF m 68 #[.val (.int v0), .val (.int v1), .val (.int v2), .unset, .unset, .unset, .unset] [(.int (65535 : Int32)), (.int (11 : Int32)), (.ref aa), (.ref aa)])) rfl rfl (hb hby at_68)
  have sg27 : ∀ t, Steps p.tables e below (T26.setTop (mkF m 74 #[.val (.int v0), .val (.int v1), .val (.int v2), .unset, .unset, .unset, .unset] [(.int (65536 : Int32)), (.int (12 : Int32)), (.ref aa), (.ref aa)])) t → Steps p.tables e below (T26.setTop (mkF m 69 #[.val (.int v0), .val (.int v1), .val (.int v2), .unset, .unset, .unset, .unset] [(.ref aa)])) t := by
    intro t k
    show Steps p.tables e below (T26.setTop (mkF m 69 #[.val (.int v0), .val (.int v1), .val (.int v2), .unset, .unset, .unset, .unset] [(.ref aa)])) _
    refine XS.dup X26.here hx rfl (hb hby at_69) rfl rfl ?_
    show Steps p.tables e below (T26.setTop (mkF m 70 #[.val (.int v0), .val (.int v1), .val (.int v2), .unset, .unset, .unset, .unset] [(.ref aa), (.ref aa)])) _
    refine XS.bipush X26.here hx rfl (hb hby at_70) ?_
    show Steps p.tables e below (T26.setTop (mkF m 72 #[.val (.int v0), .val (.int v1), .val (.int v2), .unset, .unset, .unset, .unset] [(.int (12 : Int32)), (.ref aa), (.ref aa)])) _
    refine X26.ldcI hx hown (mv hZ (hw _ (List.mem_of_getElem? (i := 8) rfl))) rfl (hb hby at_72) ?_
    show Steps p.tables e below (T26.setTop (mkF m 74 #[.val (.int v0), .val (.int v1), .val (.int v2), .unset, .unset, .unset, .unset] [(.int (65536 : Int32)), (.int (12 : Int32)), (.ref aa), (.ref aa)])) _
    exact k
  obtain ⟨T28, h28, L28, X28, e28, V28, N28, Za28, st28⟩ := own_st X26 hx hZ e26 V26 N26 ha Za26 (j := (12 : Int32)) (x := (65536 : Int32)) (by decide) (by decide) (g := (mkF m 74 #[.val (.int v0), .val (.int v1), .val (.int v2), .unset, .unset, .unset, .unset] [(.int (65536 : Int32)), (.int (12 : Int32)), (.ref aa), (.ref aa)])) rfl rfl (hb hby at_74)
  have sg29 : ∀ t, Steps p.tables e below (T28.setTop (mkF m 80 #[.val (.int v0), .val (.int v1), .val (.int v2), .unset, .unset, .unset, .unset] [(.int (1114111 : Int32)), (.int (13 : Int32)), (.ref aa), (.ref aa)])) t → Steps p.tables e below (T28.setTop (mkF m 75 #[.val (.int v0), .val (.int v1), .val (.int v2), .unset, .unset, .unset, .unset] [(.ref aa)])) t := by
    intro t k
    show Steps p.tables e below (T28.setTop (mkF m 75 #[.val (.int v0), .val (.int v1), .val (.int v2), .unset, .unset, .unset, .unset] [(.ref aa)])) _
    refine XS.dup X28.here hx rfl (hb hby at_75) rfl rfl ?_
    show Steps p.tables e below (T28.setTop (mkF m 76 #[.val (.int v0), .val (.int v1), .val (.int v2), .unset, .unset, .unset, .unset] [(.ref aa), (.ref aa)])) _
    refine XS.bipush X28.here hx rfl (hb hby at_76) ?_
    show Steps p.tables e below (T28.setTop (mkF m 78 #[.val (.int v0), .val (.int v1), .val (.int v2), .unset, .unset, .unset, .unset] [(.int (13 : Int32)), (.ref aa), (.ref aa)])) _
    refine X28.ldcI hx hown (mv hZ (hw _ (List.mem_of_getElem? (i := 9) rfl))) rfl (hb hby at_78) ?_
    show Steps p.tables e below (T28.setTop (mkF m 80 #[.val (.int v0), .val (.int v1), .val (.int v2), .unset, .unset, .unset, .unset] [(.int (1114111 : Int32)), (.int (13 : Int32)), (.ref aa), (.ref aa)])) _
    exact k
  obtain ⟨T30, h30, L30, X30, e30, V30, N30, Za30, st30⟩ := own_st X28 hx hZ e28 V28 N28 ha Za28 (j := (13 : Int32)) (x := (1114111 : Int32)) (by decide) (by decide) (g := (mkF m 80 #[.val (.int v0), .val (.int v1), .val (.int v2), .unset, .unset, .unset, .unset] [(.int (1114111 : Int32)), (.int (13 : Int32)), (.ref aa), (.ref aa)])) rfl rfl (hb hby at_80)
  have sg31 : ∀ t, Steps p.tables e below (T30.setTop (mkF m 86 #[.val (.int v0), .val (.int v1), .val (.int v2), .unset, .unset, .unset, .unset] [(.int (1114112 : Int32)), (.int (14 : Int32)), (.ref aa), (.ref aa)])) t → Steps p.tables e below (T30.setTop (mkF m 81 #[.val (.int v0), .val (.int v1), .val (.int v2), .unset, .unset, .unset, .unset] [(.ref aa)])) t := by
    intro t k
    show Steps p.tables e below (T30.setTop (mkF m 81 #[.val (.int v0), .val (.int v1), .val (.int v2), .unset, .unset, .unset, .unset] [(.ref aa)])) _
    refine XS.dup X30.here hx rfl (hb hby at_81) rfl rfl ?_
    show Steps p.tables e below (T30.setTop (mkF m 82 #[.val (.int v0), .val (.int v1), .val (.int v2), .unset, .unset, .unset, .unset] [(.ref aa), (.ref aa)])) _
    refine XS.bipush X30.here hx rfl (hb hby at_82) ?_
    show Steps p.tables e below (T30.setTop (mkF m 84 #[.val (.int v0), .val (.int v1), .val (.int v2), .unset, .unset, .unset, .unset] [(.int (14 : Int32)), (.ref aa), (.ref aa)])) _
    refine X30.ldcI hx hown (mv hZ (hw _ (List.mem_of_getElem? (i := 10) rfl))) rfl (hb hby at_84) ?_
    show Steps p.tables e below (T30.setTop (mkF m 86 #[.val (.int v0), .val (.int v1), .val (.int v2), .unset, .unset, .unset, .unset] [(.int (1114112 : Int32)), (.int (14 : Int32)), (.ref aa), (.ref aa)])) _
    exact k
  obtain ⟨T32, h32, L32, X32, e32, V32, N32, Za32, st32⟩ := own_st X30 hx hZ e30 V30 N30 ha Za30 (j := (14 : Int32)) (x := (1114112 : Int32)) (by decide) (by decide) (g := (mkF m 86 #[.val (.int v0), .val (.int v1), .val (.int v2), .unset, .unset, .unset, .unset] [(.int (1114112 : Int32)), (.int (14 : Int32)), (.ref aa), (.ref aa)])) rfl rfl (hb hby at_86)
  have sg33 : ∀ t, Steps p.tables e below (T32.setTop (mkF m 92 #[.val (.int v0), .val (.int v1), .val (.int v2), .unset, .unset, .unset, .unset] [(.int (-2147483648 : Int32)), (.int (15 : Int32)), (.ref aa), (.ref aa)])) t → Steps p.tables e below (T32.setTop (mkF m 87 #[.val (.int v0), .val (.int v1), .val (.int v2), .unset, .unset, .unset, .unset] [(.ref aa)])) t := by
    intro t k
    show Steps p.tables e below (T32.setTop (mkF m 87 #[.val (.int v0), .val (.int v1), .val (.int v2), .unset, .unset, .unset, .unset] [(.ref aa)])) _
    refine XS.dup X32.here hx rfl (hb hby at_87) rfl rfl ?_
    show Steps p.tables e below (T32.setTop (mkF m 88 #[.val (.int v0), .val (.int v1), .val (.int v2), .unset, .unset, .unset, .unset] [(.ref aa), (.ref aa)])) _
    refine XS.bipush X32.here hx rfl (hb hby at_88) ?_
    show Steps p.tables e below (T32.setTop (mkF m 90 #[.val (.int v0), .val (.int v1), .val (.int v2), .unset, .unset, .unset, .unset] [(.int (15 : Int32)), (.ref aa), (.ref aa)])) _
    refine X32.ldcI hx hown (mv hZ (hw _ (List.mem_of_getElem? (i := 11) rfl))) rfl (hb hby at_90) ?_
    show Steps p.tables e below (T32.setTop (mkF m 92 #[.val (.int v0), .val (.int v1), .val (.int v2), .unset, .unset, .unset, .unset] [(.int (-2147483648 : Int32)), (.int (15 : Int32)), (.ref aa), (.ref aa)])) _
    exact k
  obtain ⟨T34, h34, L34, X34, e34, V34, N34, Za34, st34⟩ := own_st X32 hx hZ e32 V32 N32 ha Za32 (j := (15 : Int32)) (x := (-2147483648 : Int32)) (by decide) (by decide) (g := (mkF m 92 #[.val (.int v0), .val (.int v1), .val (.int v2), .unset, .unset, .unset, .unset] [(.int (-2147483648 : Int32)), (.int (15 : Int32)), (.ref aa), (.ref aa)])) rfl rfl (hb hby at_92)
  have sg35 : ∀ t, Steps p.tables e below (T34.setTop (mkF m 98 #[.val (.int v0), .val (.int v1), .val (.int v2), .unset, .unset, .unset, .unset] [(.int (2147483647 : Int32)), (.int (16 : Int32)), (.ref aa), (.ref aa)])) t → Steps p.tables e below (T34.setTop (mkF m 93 #[.val (.int v0), .val (.int v1), .val (.int v2), .unset, .unset, .unset, .unset] [(.ref aa)])) t := by
    intro t k
    show Steps p.tables e below (T34.setTop (mkF m 93 #[.val (.int v0), .val (.int v1), .val (.int v2), .unset, .unset, .unset, .unset] [(.ref aa)])) _
    refine XS.dup X34.here hx rfl (hb hby at_93) rfl rfl ?_
    show Steps p.tables e below (T34.setTop (mkF m 94 #[.val (.int v0), .val (.int v1), .val (.int v2), .unset, .unset, .unset, .unset] [(.ref aa), (.ref aa)])) _
    refine XS.bipush X34.here hx rfl (hb hby at_94) ?_
    show Steps p.tables e below (T34.setTop (mkF m 96 #[.val (.int v0), .val (.int v1), .val (.int v2), .unset, .unset, .unset, .unset] [(.int (16 : Int32)), (.ref aa), (.ref aa)])) _
    refine X34.ldcI hx hown (mv hZ (hw _ (List.mem_of_getElem? (i := 12) rfl))) rfl (hb hby at_96) ?_
    show Steps p.tables e below (T34.setTop (mkF m 98 #[.val (.int v0), .val (.int v1), .val (.int v2), .unset, .unset, .unset, .unset] [(.int (2147483647 : Int32)), (.int (16 : Int32)), (.ref aa), (.ref aa)])) _
    exact k
  obtain ⟨T36, h36, L36, X36, e36, V36, N36, Za36, st36⟩ := own_st X34 hx hZ e34 V34 N34 ha Za34 (j := (16 : Int32)) (x := (2147483647 : Int32)) (by decide) (by decide) (g := (mkF m 98 #[.val (.int v0), .val (.int v1), .val (.int v2), .unset, .unset, .unset, .unset] [(.int (2147483647 : Int32)), (.int (16 : Int32)), (.ref aa), (.ref aa)])) rfl rfl (hb hby at_98)
  have sg37 : ∀ t, Steps p.tables e below (T36.setTop (mkF m 108 #[.val (.int v0), .val (.int v1), .val (.int v2), .val (.ref aa), .unset, .unset, .unset] [(.int ((v1 &&& (2147483647 : Int32)) - ((v1 &&& (2147483647 : Int32)) / (17 : Int32)) * (17 : Int32))), (.ref aa)])) t → Steps p.tables e below (T36.setTop (mkF m 99 #[.val (.int v0), .val (.int v1), .val (.int v2), .unset, .unset, .unset, .unset] [(.ref aa)])) t := by
    intro t k
    show Steps p.tables e below (T36.setTop (mkF m 99 #[.val (.int v0), .val (.int v1), .val (.int v2), .unset, .unset, .unset, .unset] [(.ref aa)])) _
    refine XS.astoreN X36.here hx rfl (hb hby at_99) rfl rfl (l' := #[.val (.int v0), .val (.int v1), .val (.int v2), .val (.ref aa), .unset, .unset, .unset]) rfl ?_
    show Steps p.tables e below (T36.setTop (mkF m 100 #[.val (.int v0), .val (.int v1), .val (.int v2), .val (.ref aa), .unset, .unset, .unset] [])) _
    refine XS.aloadN X36.here hx rfl (hb hby at_100) rfl rfl ?_
    show Steps p.tables e below (T36.setTop (mkF m 101 #[.val (.int v0), .val (.int v1), .val (.int v2), .val (.ref aa), .unset, .unset, .unset] [(.ref aa)])) _
    refine XS.iloadN X36.here hx rfl (hb hby at_101) rfl ?_
    show Steps p.tables e below (T36.setTop (mkF m 102 #[.val (.int v0), .val (.int v1), .val (.int v2), .val (.ref aa), .unset, .unset, .unset] [(.int v1), (.ref aa)])) _
    refine X36.ldcI hx hown (mv hZ (hw _ (List.mem_of_getElem? (i := 12) rfl))) rfl (hb hby at_102) ?_
    show Steps p.tables e below (T36.setTop (mkF m 104 #[.val (.int v0), .val (.int v1), .val (.int v2), .val (.ref aa), .unset, .unset, .unset] [(.int (2147483647 : Int32)), (.int v1), (.ref aa)])) _
    refine XS.iand X36.here hx rfl (hb hby at_104) rfl ?_
    show Steps p.tables e below (T36.setTop (mkF m 105 #[.val (.int v0), .val (.int v1), .val (.int v2), .val (.ref aa), .unset, .unset, .unset] [(.int (v1 &&& (2147483647 : Int32))), (.ref aa)])) _
    refine XS.bipush X36.here hx rfl (hb hby at_105) ?_
    show Steps p.tables e below (T36.setTop (mkF m 107 #[.val (.int v0), .val (.int v1), .val (.int v2), .val (.ref aa), .unset, .unset, .unset] [(.int (17 : Int32)), (.int (v1 &&& (2147483647 : Int32))), (.ref aa)])) _
    refine XS.irem X36.here hx rfl (hb hby at_107) rfl (by decide) ?_
    show Steps p.tables e below (T36.setTop (mkF m 108 #[.val (.int v0), .val (.int v1), .val (.int v2), .val (.ref aa), .unset, .unset, .unset] [(.int ((v1 &&& (2147483647 : Int32)) - ((v1 &&& (2147483647 : Int32)) / (17 : Int32)) * (17 : Int32))), (.ref aa)])) _
    exact k
  have hj := (own_rem v1 (17 : Int32) 17 (by decide) (by decide)).2
  obtain ⟨yy, st38⟩ := own_ld X36 hx hZ e36 V36 (j := ((v1 &&& (2147483647 : Int32)) - ((v1 &&& (2147483647 : Int32)) / (17 : Int32)) * (17 : Int32))) (by rw [Int32.lt_iff_toInt_lt]; show ¬ _ < (0 : Int); omega) (by rw [Int32.toNatClampNeg]; omega) (g := (mkF m 108 #[.val (.int v0), .val (.int v1), .val (.int v2), .val (.ref aa), .unset, .unset, .unset] [(.int ((v1 &&& (2147483647 : Int32)) - ((v1 &&& (2147483647 : Int32)) / (17 : Int32)) * (17 : Int32))), (.ref aa)])) rfl rfl (hb hby at_108)
  have sg39 : ∀ t, Steps p.tables e below (T36.setTop (mkF m 118 #[.val (.int v0), .val (.int v1), .val (.int v2), .val (.ref aa), .val (.int (yy + ((v2 &&& (3 : Int32)) - (1 : Int32)))), .unset, .unset] [(.int v0)])) t → Steps p.tables e below (T36.setTop (mkF m 109 #[.val (.int v0), .val (.int v1), .val (.int v2), .val (.ref aa), .unset, .unset, .unset] [(.int yy)])) t := by
    intro t k
    show Steps p.tables e below (T36.setTop (mkF m 109 #[.val (.int v0), .val (.int v1), .val (.int v2), .val (.ref aa), .unset, .unset, .unset] [(.int yy)])) _
    refine XS.iloadN X36.here hx rfl (hb hby at_109) rfl ?_
    show Steps p.tables e below (T36.setTop (mkF m 110 #[.val (.int v0), .val (.int v1), .val (.int v2), .val (.ref aa), .unset, .unset, .unset] [(.int v2), (.int yy)])) _
    refine XS.iconst X36.here hx rfl (hb hby at_110) ?_
    show Steps p.tables e below (T36.setTop (mkF m 111 #[.val (.int v0), .val (.int v1), .val (.int v2), .val (.ref aa), .unset, .unset, .unset] [(.int (3 : Int32)), (.int v2), (.int yy)])) _
    refine XS.iand X36.here hx rfl (hb hby at_111) rfl ?_
    show Steps p.tables e below (T36.setTop (mkF m 112 #[.val (.int v0), .val (.int v1), .val (.int v2), .val (.ref aa), .unset, .unset, .unset] [(.int (v2 &&& (3 : Int32))), (.int yy)])) _
    refine XS.iconst X36.here hx rfl (hb hby at_112) ?_
    show Steps p.tables e below (T36.setTop (mkF m 113 #[.val (.int v0), .val (.int v1), .val (.int v2), .val (.ref aa), .unset, .unset, .unset] [(.int (1 : Int32)), (.int (v2 &&& (3 : Int32))), (.int yy)])) _
    refine XS.isub X36.here hx rfl (hb hby at_113) rfl ?_
    show Steps p.tables e below (T36.setTop (mkF m 114 #[.val (.int v0), .val (.int v1), .val (.int v2), .val (.ref aa), .unset, .unset, .unset] [(.int ((v2 &&& (3 : Int32)) - (1 : Int32))), (.int yy)])) _
    refine XS.iadd X36.here hx rfl (hb hby at_114) rfl ?_
    show Steps p.tables e below (T36.setTop (mkF m 115 #[.val (.int v0), .val (.int v1), .val (.int v2), .val (.ref aa), .unset, .unset, .unset] [(.int (yy + ((v2 &&& (3 : Int32)) - (1 : Int32))))])) _
    refine XS.istore X36.here hx rfl (hb hby at_115) rfl (l' := #[.val (.int v0), .val (.int v1), .val (.int v2), .val (.ref aa), .val (.int (yy + ((v2 &&& (3 : Int32)) - (1 : Int32)))), .unset, .unset]) rfl ?_
    show Steps p.tables e below (T36.setTop (mkF m 117 #[.val (.int v0), .val (.int v1), .val (.int v2), .val (.ref aa), .val (.int (yy + ((v2 &&& (3 : Int32)) - (1 : Int32)))), .unset, .unset] [])) _
    refine XS.iloadN X36.here hx rfl (hb hby at_117) rfl ?_
    show Steps p.tables e below (T36.setTop (mkF m 118 #[.val (.int v0), .val (.int v1), .val (.int v2), .val (.ref aa), .val (.int (yy + ((v2 &&& (3 : Int32)) - (1 : Int32)))), .unset, .unset] [(.int v0)])) _
    exact k
  obtain ⟨_, _, ⟨T40, L40, k40, n40⟩, -, X40, ⟨Lc40, hQ40, l40, y40, z40⟩, st40⟩ := Jvm.LawKit.callS X36 hx (y := (⟨"com/example/itinera/itinera/XmlChars", "isXmlChar", "(I)Z"⟩ : MethodName)) hown (mvT hZ (hw _ (List.mem_of_getElem? (i := 13) rfl))) (mvT hZ (hw _ (List.mem_of_getElem? (i := 14) rfl))) (mvT hZ (hw _ (List.mem_of_getElem? (i := 15) rfl))) (mvT hZ (hw _ (List.mem_of_getElem? (i := 16) rfl))) (by decide) (backOf (W := 0) (rm1 l Z a0 hw [] v0 h36 n0 Za36) hZ (hw _ (List.mem_of_getElem? (i := 16) rfl)) (hw _ (List.mem_of_getElem? (i := 15) rfl)) (by decide) (by decide)) (g := (mkF m 118 #[.val (.int v0), .val (.int v1), .val (.int v2), .val (.ref aa), .val (.int (yy + ((v2 &&& (3 : Int32)) - (1 : Int32)))), .unset, .unset] [(.int v0)])) rfl (by rw [hml]; rfl) (argsL := [(.int v0)]) (rest := []) (lenOf pd_1 rfl) rfl (by show 2 * 0 + _ ≤ _; exact Nat.le_of_eq rfl) (hb hby at_118) (fun _ _ => ⟨rfl, e36, (by decide : 1 + 0 ≤ _), (by decide : 17 + 0 ≤ _)⟩)
  dsimp only [Pt.U, Pt.locs, Pt.cells, Pt.slots] at X40 l40 y40 z40 st40 hQ40
  subst l40 y40 z40
  obtain ⟨rfl, Nc40, e40⟩ := hQ40
  have N40 := Fr.app N36 Nc40
  have sg41 : ∀ t, Steps p.tables e below (T40.setTop (mkF m 122 #[.val (.int v0), .val (.int v1), .val (.int v2), .val (.ref aa), .val (.int (yy + ((v2 &&& (3 : Int32)) - (1 : Int32)))), .unset, .unset] [(.int v0), (.int (f1_0 v0))])) t → Steps p.tables e below (T40.setTop (mkF m 121 #[.val (.int v0), .val (.int v1), .val (.int v2), .val (.ref aa), .val (.int (yy + ((v2 &&& (3 : Int32)) - (1 : Int32)))), .unset, .unset] [(.int (f1_0 v0))])) t := by
    intro t k
    show Steps p.tables e below (T40.setTop (mkF m 121 #[.val (.int v0), .val (.int v1), .val (.int v2), .val (.ref aa), .val (.int (yy + ((v2 &&& (3 : Int32)) - (1 : Int32)))), .unset, .unset] [(.int (f1_0 v0))])) _
    refine XS.iloadN X40.here hx rfl (hb hby at_121) rfl ?_
    show Steps p.tables e below (T40.setTop (mkF m 122 #[.val (.int v0), .val (.int v1), .val (.int v2), .val (.ref aa), .val (.int (yy + ((v2 &&& (3 : Int32)) - (1 : Int32)))), .unset, .unset] [(.int v0), (.int (f1_0 v0))])) _
    exact k
  obtain ⟨_, _, ⟨T42, L42, k42, n42⟩, -, X42, ⟨Lc42, hQ42, l42, y42, z42⟩, st42⟩ := Jvm.LawKit.callS X40 hx (y := (⟨"com/example/itinera/itinera/XmlCharsIsXmlCharPinLaw", "reference", "(I)Z"⟩ : MethodName)) hown (mvT hZ (hw _ (List.mem_of_getElem? (i := 19) rfl))) (mvT hZ (hw _ (List.mem_of_getElem? (i := 20) rfl))) (mvT hZ (hw _ (List.mem_of_getElem? (i := 21) rfl))) (mvT hZ (hw _ (List.mem_of_getElem? (i := 22) rfl))) (by decide) (backOf (W := 1) (rm2 l Z a0 hw [] v0 h36 n0 Za36) hZ (hw _ (List.mem_of_getElem? (i := 22) rfl)) (hw _ (List.mem_of_getElem? (i := 21) rfl)) (by decide) (by decide)) (g := (mkF m 122 #[.val (.int v0), .val (.int v1), .val (.int v2), .val (.ref aa), .val (.int (yy + ((v2 &&& (3 : Int32)) - (1 : Int32)))), .unset, .unset] [(.int v0), (.int (f1_0 v0))])) rfl (by rw [hml]; rfl) (argsL := [(.int v0)]) (rest := [(.int (f1_0 v0))]) (lenOf pd_2 rfl) rfl (by show 2 * 0 + _ ≤ _; exact Nat.le_of_eq rfl) (hb hby at_122) (fun _ _ => ⟨rfl, e40, (by decide : 1 + 0 ≤ _), (by decide : 17 + 0 ≤ _)⟩)
  dsimp only [Pt.U, Pt.locs, Pt.cells, Pt.slots] at X42 l42 y42 z42 st42 hQ42
  subst l42 y42 z42
  obtain ⟨rfl, Nc42, e42⟩ := hQ42
  have N42 := Fr.app N40 Nc42
  have heq0 : f1_0 v0 = f2_0 v0 := own_law _
  have sg43 : ∀ t, Steps p.tables e below (T42.setTop (mkF m 133 #[.val (.int v0), .val (.int v1), .val (.int v2), .val (.ref aa), .val (.int (yy + ((v2 &&& (3 : Int32)) - (1 : Int32)))), .unset, .unset] [(.int (1 : Int32))])) t → Steps p.tables e below (T42.setTop (mkF m 125 #[.val (.int v0), .val (.int v1), .val (.int v2), .val (.ref aa), .val (.int (yy + ((v2 &&& (3 : Int32)) - (1 : Int32)))), .unset, .unset] [(.int (f2_0 v0)), (.int (f1_0 v0))])) t := by
    intro t k
    show Steps p.tables e below (T42.setTop (mkF m 125 #[.val (.int v0), .val (.int v1), .val (.int v2), .val (.ref aa), .val (.int (yy + ((v2 &&& (3 : Int32)) - (1 : Int32)))), .unset, .unset] [(.int (f2_0 v0)), (.int (f1_0 v0))])) _
    refine XS.icmpNo X42.here hx rfl (hb hby at_125) rfl (teq heq0).2 ?_
    show Steps p.tables e below (T42.setTop (mkF m 128 #[.val (.int v0), .val (.int v1), .val (.int v2), .val (.ref aa), .val (.int (yy + ((v2 &&& (3 : Int32)) - (1 : Int32)))), .unset, .unset] [])) _
    refine XS.iconst X42.here hx rfl (hb hby at_128) ?_
    show Steps p.tables e below (T42.setTop (mkF m 129 #[.val (.int v0), .val (.int v1), .val (.int v2), .val (.ref aa), .val (.int (yy + ((v2 &&& (3 : Int32)) - (1 : Int32)))), .unset, .unset] [(.int (1 : Int32))])) _
    refine XS.goto X42.here hx rfl (pc0 := 129) (pc' := 133) rfl (hb hby at_129) (by decide) (by decide) ?_
    show Steps p.tables e below (T42.setTop (mkF m 133 #[.val (.int v0), .val (.int v1), .val (.int v2), .val (.ref aa), .val (.int (yy + ((v2 &&& (3 : Int32)) - (1 : Int32)))), .unset, .unset] [(.int (1 : Int32))])) _
    exact k
  have sg44 : ∀ t, Steps p.tables e below (T42.setTop (mkF m 137 #[.val (.int v0), .val (.int v1), .val (.int v2), .val (.ref aa), .val (.int (yy + ((v2 &&& (3 : Int32)) - (1 : Int32)))), .val (.int (1 : Int32)), .unset] [(.int (yy + ((v2 &&& (3 : Int32)) - (1 : Int32))))])) t → Steps p.tables e below (T42.setTop (mkF m 133 #[.val (.int v0), .val (.int v1), .val (.int v2), .val (.ref aa), .val (.int (yy + ((v2 &&& (3 : Int32)) - (1 : Int32)))), .unset, .unset] [(.int (1 : Int32))])) t := by
    intro t k
    show Steps p.tables e below (T42.setTop (mkF m 133 #[.val (.int v0), .val (.int v1), .val (.int v2), .val (.ref aa), .val (.int (yy + ((v2 &&& (3 : Int32)) - (1 : Int32)))), .unset, .unset] [(.int (1 : Int32))])) _
    refine XS.istore X42.here hx rfl (hb hby at_133) rfl (l' := #[.val (.int v0), .val (.int v1), .val (.int v2), .val (.ref aa), .val (.int (yy + ((v2 &&& (3 : Int32)) - (1 : Int32)))), .val (.int (1 : Int32)), .unset]) rfl ?_
    show Steps p.tables e below (T42.setTop (mkF m 135 #[.val (.int v0), .val (.int v1), .val (.int v2), .val (.ref aa), .val (.int (yy + ((v2 &&& (3 : Int32)) - (1 : Int32)))), .val (.int (1 : Int32)), .unset] [])) _
    refine XS.iload X42.here hx rfl (hb hby at_135) rfl ?_
    show Steps p.tables e below (T42.setTop (mkF m 137 #[.val (.int v0), .val (.int v1), .val (.int v2), .val (.ref aa), .val (.int (yy + ((v2 &&& (3 : Int32)) - (1 : Int32)))), .val (.int (1 : Int32)), .unset] [(.int (yy + ((v2 &&& (3 : Int32)) - (1 : Int32))))])) _
    exact k
  obtain ⟨_, _, ⟨T45, L45, k45, n45⟩, -, X45, ⟨Lc45, hQ45, l45, y45, z45⟩, st45⟩ := Jvm.LawKit.callS X42 hx (y := (⟨"com/example/itinera/itinera/XmlChars", "isXmlChar", "(I)Z"⟩ : MethodName)) hown (mvT hZ (hw _ (List.mem_of_getElem? (i := 13) rfl))) (mvT hZ (hw _ (List.mem_of_getElem? (i := 14) rfl))) (mvT hZ (hw _ (List.mem_of_getElem? (i := 15) rfl))) (mvT hZ (hw _ (List.mem_of_getElem? (i := 16) rfl))) (by decide) (backOf (W := 0) (rm1 l Z a0 hw [] (yy + ((v2 &&& (3 : Int32)) - (1 : Int32))) h36 n0 Za36) hZ (hw _ (List.mem_of_getElem? (i := 16) rfl)) (hw _ (List.mem_of_getElem? (i := 15) rfl)) (by decide) (by decide)) (g := (mkF m 137 #[.val (.int v0), .val (.int v1), .val (.int v2), .val (.ref aa), .val (.int (yy + ((v2 &&& (3 : Int32)) - (1 : Int32)))), .val (.int (1 : Int32)), .unset] [(.int (yy + ((v2 &&& (3 : Int32)) - (1 : Int32))))])) rfl (by rw [hml]; rfl) (argsL := [(.int (yy + ((v2 &&& (3 : Int32)) - (1 : Int32))))]) (rest := []) (lenOf pd_1 rfl) rfl (by show 2 * 0 + _ ≤ _; exact Nat.le_of_eq rfl) (hb hby at_137) (fun _ _ => ⟨rfl, e42, (by decide : 1 + 0 ≤ _), (by decide : 17 + 0 ≤ _)⟩)
  dsimp only [Pt.U, Pt.locs, Pt.cells, Pt.slots] at X45 l45 y45 z45 st45 hQ45
  subst l45 y45 z45
  obtain ⟨rfl, Nc45, e45⟩ := hQ45
  have N45 := Fr.app N42 Nc45
  have sg46 : ∀ t, Steps p.tables e below (T45.setTop (mkF m 142 #[.val (.int v0), .val (.int v1), .val (.int v2), .val (.ref aa), .val (.int (yy + ((v2 &&& (3 : Int32)) - (1 : Int32)))), .val (.int (1 : Int32)), .unset] [(.int (yy + ((v2 &&& (3 : Int32)) - (1 : Int32)))), (.int (f1_0 (yy + ((v2 &&& (3 : Int32)) - (1 : Int32)))))])) t → Steps p.tables e below (T45.setTop (mkF m 140 #[.val (.int v0), .val (.int v1), .val (.int v2), .val (.ref aa), .val (.int (yy + ((v2 &&& (3 : Int32)) - (1 : Int32)))), .val (.int (1 : Int32)), .unset] [(.int (f1_0 (yy + ((v2 &&& (3 : Int32)) - (1 : Int32)))))])) t := by
    intro t k
    show Steps p.tables e below (T45.setTop (mkF m 140 #[.val (.int v0), .val (.int v1), .val (.int v2), .val (.ref aa), .val (.int (yy + ((v2 &&& (3 : Int32)) - (1 : Int32)))), .val (.int (1 : Int32)), .unset] [(.int (f1_0 (yy + ((v2 &&& (3 : Int32)) - (1 : Int32)))))])) _
    refine XS.iload X45.here hx rfl (hb hby at_140) rfl ?_
    show Steps p.tables e below (T45.setTop (mkF m 142 #[.val (.int v0), .val (.int v1), .val (.int v2), .val (.ref aa), .val (.int (yy + ((v2 &&& (3 : Int32)) - (1 : Int32)))), .val (.int (1 : Int32)), .unset] [(.int (yy + ((v2 &&& (3 : Int32)) - (1 : Int32)))), (.int (f1_0 (yy + ((v2 &&& (3 : Int32)) - (1 : Int32)))))])) _
    exact k
  obtain ⟨_, _, ⟨T47, L47, k47, n47⟩, -, X47, ⟨Lc47, hQ47, l47, y47, z47⟩, st47⟩ := Jvm.LawKit.callS X45 hx (y := (⟨"com/example/itinera/itinera/XmlCharsIsXmlCharPinLaw", "reference", "(I)Z"⟩ : MethodName)) hown (mvT hZ (hw _ (List.mem_of_getElem? (i := 19) rfl))) (mvT hZ (hw _ (List.mem_of_getElem? (i := 20) rfl))) (mvT hZ (hw _ (List.mem_of_getElem? (i := 21) rfl))) (mvT hZ (hw _ (List.mem_of_getElem? (i := 22) rfl))) (by decide) (backOf (W := 1) (rm2 l Z a0 hw [] (yy + ((v2 &&& (3 : Int32)) - (1 : Int32))) h36 n0 Za36) hZ (hw _ (List.mem_of_getElem? (i := 22) rfl)) (hw _ (List.mem_of_getElem? (i := 21) rfl)) (by decide) (by decide)) (g := (mkF m 142 #[.val (.int v0), .val (.int v1), .val (.int v2), .val (.ref aa), .val (.int (yy + ((v2 &&& (3 : Int32)) - (1 : Int32)))), .val (.int (1 : Int32)), .unset] [(.int (yy + ((v2 &&& (3 : Int32)) - (1 : Int32)))), (.int (f1_0 (yy + ((v2 &&& (3 : Int32)) - (1 : Int32)))))])) rfl (by rw [hml]; rfl) (argsL := [(.int (yy + ((v2 &&& (3 : Int32)) - (1 : Int32))))]) (rest := [(.int (f1_0 (yy + ((v2 &&& (3 : Int32)) - (1 : Int32)))))]) (lenOf pd_2 rfl) rfl (by show 2 * 0 + _ ≤ _; exact Nat.le_of_eq rfl) (hb hby at_142) (fun _ _ => ⟨rfl, e45, (by decide : 1 + 0 ≤ _), (by decide : 17 + 0 ≤ _)⟩)
  dsimp only [Pt.U, Pt.locs, Pt.cells, Pt.slots] at X47 l47 y47 z47 st47 hQ47
  subst l47 y47 z47
  obtain ⟨rfl, Nc47, e47⟩ := hQ47
  have N47 := Fr.app N45 Nc47
  have heq1 : f1_0 (yy + ((v2 &&& (3 : Int32)) - (1 : Int32))) = f2_0 (yy + ((v2 &&& (3 : Int32)) - (1 : Int32))) := own_law _
  have sg48 : ∀ t, Steps p.tables e below (T47.setTop (mkF m 153 #[.val (.int v0), .val (.int v1), .val (.int v2), .val (.ref aa), .val (.int (yy + ((v2 &&& (3 : Int32)) - (1 : Int32)))), .val (.int (1 : Int32)), .unset] [(.int (1 : Int32))])) t → Steps p.tables e below (T47.setTop (mkF m 145 #[.val (.int v0), .val (.int v1), .val (.int v2), .val (.ref aa), .val (.int (yy + ((v2 &&& (3 : Int32)) - (1 : Int32)))), .val (.int (1 : Int32)), .unset] [(.int (f2_0 (yy + ((v2 &&& (3 : Int32)) - (1 : Int32))))), (.int (f1_0 (yy + ((v2 &&& (3 : Int32)) - (1 : Int32)))))])) t := by
    intro t k
    show Steps p.tables e below (T47.setTop (mkF m 145 #[.val (.int v0), .val (.int v1), .val (.int v2), .val (.ref aa), .val (.int (yy + ((v2 &&& (3 : Int32)) - (1 : Int32)))), .val (.int (1 : Int32)), .unset] [(.int (f2_0 (yy + ((v2 &&& (3 : Int32)) - (1 : Int32))))), (.int (f1_0 (yy + ((v2 &&& (3 : Int32)) - (1 : Int32)))))])) _
    refine XS.icmpNo X47.here hx rfl (hb hby at_145) rfl (teq heq1).2 ?_
    show Steps p.tables e below (T47.setTop (mkF m 148 #[.val (.int v0), .val (.int v1), .val (.int v2), .val (.ref aa), .val (.int (yy + ((v2 &&& (3 : Int32)) - (1 : Int32)))), .val (.int (1 : Int32)), .unset] [])) _
    refine XS.iconst X47.here hx rfl (hb hby at_148) ?_
    show Steps p.tables e below (T47.setTop (mkF m 149 #[.val (.int v0), .val (.int v1), .val (.int v2), .val (.ref aa), .val (.int (yy + ((v2 &&& (3 : Int32)) - (1 : Int32)))), .val (.int (1 : Int32)), .unset] [(.int (1 : Int32))])) _
    refine XS.goto X47.here hx rfl (pc0 := 149) (pc' := 153) rfl (hb hby at_149) (by decide) (by decide) ?_
    show Steps p.tables e below (T47.setTop (mkF m 153 #[.val (.int v0), .val (.int v1), .val (.int v2), .val (.ref aa), .val (.int (yy + ((v2 &&& (3 : Int32)) - (1 : Int32)))), .val (.int (1 : Int32)), .unset] [(.int (1 : Int32))])) _
    exact k
  have sg49 : ∀ t, Steps p.tables e below (T47.setTop (mkF m 170 #[.val (.int v0), .val (.int v1), .val (.int v2), .val (.ref aa), .val (.int (yy + ((v2 &&& (3 : Int32)) - (1 : Int32)))), .val (.int (1 : Int32)), .val (.int (1 : Int32))] [(.int (1 : Int32))])) t → Steps p.tables e below (T47.setTop (mkF m 153 #[.val (.int v0), .val (.int v1), .val (.int v2), .val (.ref aa), .val (.int (yy + ((v2 &&& (3 : Int32)) - (1 : Int32)))), .val (.int (1 : Int32)), .unset] [(.int (1 : Int32))])) t := by
    intro t k
    show Steps p.tables e below (T47.setTop (mkF m 153 #[.val (.int v0), .val (.int v1), .val (.int v2), .val (.ref aa), .val (.int (yy + ((v2 &&& (3 : Int32)) - (1 : Int32)))), .val (.int (1 : Int32)), .unset] [(.int (1 : Int32))])) _
    refine XS.istore X47.here hx rfl (hb hby at_153) rfl (l' := #[.val (.int v0), .val (.int v1), .val (.int v2), .val (.ref aa), .val (.int (yy + ((v2 &&& (3 : Int32)) - (1 : Int32)))), .val (.int (1 : Int32)), .val (.int (1 : Int32))]) rfl ?_
    show Steps p.tables e below (T47.setTop (mkF m 155 #[.val (.int v0), .val (.int v1), .val (.int v2), .val (.ref aa), .val (.int (yy + ((v2 &&& (3 : Int32)) - (1 : Int32)))), .val (.int (1 : Int32)), .val (.int (1 : Int32))] [])) _
    refine XS.iload X47.here hx rfl (hb hby at_155) rfl ?_
    show Steps p.tables e below (T47.setTop (mkF m 157 #[.val (.int v0), .val (.int v1), .val (.int v2), .val (.ref aa), .val (.int (yy + ((v2 &&& (3 : Int32)) - (1 : Int32)))), .val (.int (1 : Int32)), .val (.int (1 : Int32))] [(.int (1 : Int32))])) _
    refine XS.ifNo X47.here hx rfl (hb hby at_157) rfl ((if0 _ _).trans (feq (by decide : ¬ (1 : Int32) = 0)).1) ?_
    show Steps p.tables e below (T47.setTop (mkF m 160 #[.val (.int v0), .val (.int v1), .val (.int v2), .val (.ref aa), .val (.int (yy + ((v2 &&& (3 : Int32)) - (1 : Int32)))), .val (.int (1 : Int32)), .val (.int (1 : Int32))] [])) _
    refine XS.iload X47.here hx rfl (hb hby at_160) rfl ?_
    show Steps p.tables e below (T47.setTop (mkF m 162 #[.val (.int v0), .val (.int v1), .val (.int v2), .val (.ref aa), .val (.int (yy + ((v2 &&& (3 : Int32)) - (1 : Int32)))), .val (.int (1 : Int32)), .val (.int (1 : Int32))] [(.int (1 : Int32))])) _
    refine XS.ifNo X47.here hx rfl (hb hby at_162) rfl ((if0 _ _).trans (feq (by decide : ¬ (1 : Int32) = 0)).1) ?_
    show Steps p.tables e below (T47.setTop (mkF m 165 #[.val (.int v0), .val (.int v1), .val (.int v2), .val (.ref aa), .val (.int (yy + ((v2 &&& (3 : Int32)) - (1 : Int32)))), .val (.int (1 : Int32)), .val (.int (1 : Int32))] [])) _
    refine XS.iconst X47.here hx rfl (hb hby at_165) ?_
    show Steps p.tables e below (T47.setTop (mkF m 166 #[.val (.int v0), .val (.int v1), .val (.int v2), .val (.ref aa), .val (.int (yy + ((v2 &&& (3 : Int32)) - (1 : Int32)))), .val (.int (1 : Int32)), .val (.int (1 : Int32))] [(.int (1 : Int32))])) _
    refine XS.goto X47.here hx rfl (pc0 := 166) (pc' := 170) rfl (hb hby at_166) (by decide) (by decide) ?_
    show Steps p.tables e below (T47.setTop (mkF m 170 #[.val (.int v0), .val (.int v1), .val (.int v2), .val (.ref aa), .val (.int (yy + ((v2 &&& (3 : Int32)) - (1 : Int32)))), .val (.int (1 : Int32)), .val (.int (1 : Int32))] [(.int (1 : Int32))])) _
    exact k
  obtain ⟨fs, hr, hrun, hended, hW, hsame⟩ := X47.leave (v := some (.int (1 : Int32))) (fun h => by rw [Bd.returns] at h; cases h)
  refine ⟨_, _, pre0 _ ?_, hrun, hended, _, _, rfl, ?_, ⟨_, rfl⟩, hW, hsame.mono (by decide) (by decide)⟩
  · refine sg1 _ ?_
    refine st2 _ ?_
    refine sg3 _ ?_
    refine st4 _ ?_
    refine sg5 _ ?_
    refine st6 _ ?_
    refine sg7 _ ?_
    refine st8 _ ?_
    refine sg9 _ ?_
    refine st10 _ ?_
    refine sg11 _ ?_
    refine st12 _ ?_
    refine sg13 _ ?_
    refine st14 _ ?_
    refine sg15 _ ?_
    refine st16 _ ?_
    refine sg17 _ ?_
    refine st18 _ ?_
    refine sg19 _ ?_
    refine st20 _ ?_
    refine sg21 _ ?_
    refine st22 _ ?_
    refine sg23 _ ?_
    refine st24 _ ?_
    refine sg25 _ ?_
    refine st26 _ ?_
    refine sg27 _ ?_
    refine st28 _ ?_
    refine sg29 _ ?_
    refine st30 _ ?_
    refine sg31 _ ?_
    refine st32 _ ?_
    refine sg33 _ ?_
    refine st34 _ ?_
    refine sg35 _ ?_
    refine st36 _ ?_
    refine sg37 _ ?_
    refine st38 _ ?_
    refine sg39 _ ?_
    refine st40 _ ?_
    refine sg41 _ ?_
    refine st42 _ ?_
    refine sg43 _ ?_
    refine sg44 _ ?_
    refine st45 _ ?_
    refine sg46 _ ?_
    refine st47 _ ?_
    refine sg48 _ ?_
    refine sg49 _ ?_
    show Steps p.tables e below (T47.setTop (mkF m 170 #[.val (.int v0), .val (.int v1), .val (.int v2), .val (.ref aa), .val (.int (yy + ((v2 &&& (3 : Int32)) - (1 : Int32)))), .val (.int (1 : Int32)), .val (.int (1 : Int32))] [(.int (1 : Int32))])) _
    exact retN X47 hx (t := .boolean) Bd.returns (by simp) (hb hby at_170) hr
  · exact ⟨rfl, N47⟩
set_option maxRecDepth 65536 in
set_option maxHeartbeats 40000000 in
theorem comes_1 {Post : Tables → Env → Array Value → State → Outcome → State → Prop} (hpost : ∀ tb e args s v u, (limb_1_1.after args s (.returned v) u = true ∧ limb_1_2.after args s (.returned v) u = true ∧ True) → FrameEnd s (.returned v) u (Jvm.fieldLocs frame_1_writes args s ++ Jvm.arrayLocs frame_1_arrays args s ++ Jvm.staticLocs frame_1_statics s) 16 128 → Post tb e args s (.returned v) u) :
    ArmFor flags0 classFile x code maxLocals ret World_1 tables_1 room_1 Calls_1 rest_1 Pre_1 Post := by
  intro l hfl _ _ p e ha hc hk s m args below hf hA hF happ hP
  obtain ⟨hcalls, hrest, hpre⟩ := hP
  obtain ⟨-, -, -, hnamed, -, -, -, hat⟩ := (Spec.applies_iff hf).mp happ
  obtain ⟨hg, hn⟩ := and_e (Cond.before_iff.mp (show (Jvm.Cond.and given_1 narrow_1).before args s = true from hpre))
  obtain ⟨hcount, q0⟩ := and_e hg
  obtain ⟨g0, q1⟩ := and_e q0
  obtain ⟨g1, q2⟩ := and_e q1
  obtain ⟨w0, w1, w2, rfl⟩ : ∃ w0 w1 w2 : Value, args = #[w0, w1, w2] := by
    have hs : args.size = 3 := by simpa [Cond.value, given_1] using hcount
    obtain ⟨L⟩ := args
    match L, hs with
    | [w0, w1, w2], _ => exact ⟨w0, w1, w2, rfl⟩
  have hw := fun d (hd : d ∈ tables_1) => atoms_spec (ws := Jvm.Cond.code x code maxLocals ret :: tables_1) hat d (List.mem_cons_of_mem _ hd)
  obtain ⟨i0, r0⟩ := is_v g0
  obtain rfl : w0 = (.int i0) := Option.some.inj r0
  obtain ⟨i1, r1⟩ := is_v g1
  obtain rfl : w1 = (.int i1) := Option.some.inj r1
  obtain ⟨i2, r2⟩ := is_v q2
  obtain rfl : w2 = (.int i2) := Option.some.inj r2
  obtain ⟨n, o, h1, h2, h3, _, L, rfl, ⟨rfl, N⟩, hq⟩ := rm0 l s _ hw tables_1 i0 i1 i2 s.heap s.heap.size (Nat.le_refl _)  p e ha hc hk s m _ below hf ((Spec.applies_iff_loose hf).mp happ).1 ⟨rfl, State.Warmed39.refl s, rfl⟩ trivial
  refine ⟨n, _, h1, h2, h3, hpost _ _ _ _ _ _ ⟨Cond.after_iff.mpr rfl, Cond.after_iff.mpr (eq_i res_at (Term.int_eval (1)) rfl), trivial⟩ ⟨hq.1, hq.2.1, (hq.2.2.sift fun y hy => Or.inr (N y hy)).mono (by decide) (by decide)⟩⟩
theorem main_1_1 : Claimed_1_1 := comes_1 fun _ _ _ _ _ _ h hF => ⟨h.1, hF⟩
theorem main_1_2 : Claimed_1_2 := comes_1 fun _ _ _ _ _ _ h hF => ⟨h.2.1, hF⟩
end Jvm.Pilot.@@N@@
namespace Jvm.Pilot.@@N@@
open Jvm Jvm.ClassFile Sem Op Lib Jvm.Free Jvm.Stand Jvm.Pilot.@@N@@.Jvm.D
/-! MADE BY PROGRAM (witnessworld.py) out of the Statement's table words and the real class files: 9 classes; the members and pool entries that the words name. The judged class is class 1, her method 2. -/
namespace start1
open Jvm.ClassFile
def u (s : String) : CpInfo := .utf8 (stringToUtf16 s)
/-- a pool by its gaps: so many unusable entries, then the entry; so many at the end -/
def gap : Nat → List CpInfo → List CpInfo
  | 0, r => r
  | n + 1, r => .unusable :: gap n r
def poolList (es : List (Nat × CpInfo)) (last : Nat) : List CpInfo := es.foldr (fun e r => gap e.1 (e.2 :: r)) (gap last [])
def pool (es : List (Nat × CpInfo)) (last : Nat) : Array CpInfo := ⟨poolList es last⟩
def fileOf (pool : Array CpInfo) (this : Nat) (attrs : Array Attribute := #[]) (ms : Array MethodInfo := #[]) (fl : Nat := 33) (sup : Nat := 0) (ifs : Array Nat := #[]) (fds : Array FieldInfo := #[]) : ClassFile where
  minorVersion := 0
  majorVersion := 65
  constantPool := pool
  accessFlags := fl
  thisClass := this
  superClass := sup
  interfaces := ifs
  fields := fds
  methods := ms
  attributes := attrs
def plain (name : String) (sup : Option ClassId) : Class where
  name := name
  kind := .ordinary
  loader := none
  accessFlags := 33
  super := sup
  interfaces := #[]
  cf := none
  fields := #[]
  methods := #[]
  instanceTypes := #[]
  staticTypes := #[]
  resolved := #[]
  callSites := []
  init := .initialized
  statics := none
  mirror := none

def pool0 : Array CpInfo := pool [(5, u "<init>"), (0, u "()V"), (1, .class_ 10), (1, u "java/lang/Object")] 113

def k0m0 : Method := { name := "<init>", desc := "()V", sig := { parameters := [], returnType := none }, accessFlags := 1, code := none }
/-- java/lang/Object -/
def k0 : Class := { plain "java/lang/Object" none with
  accessFlags := 33
  interfaces := #[]
  cf := some (fileOf pool0 8 #[] #[{ accessFlags := 1, nameIndex := 5, descriptorIndex := 6, attributes := #[] }] 33 0 #[] #[])
  fields := #[]
  methods := #[k0m0]
  instanceTypes := #[]
  staticTypes := #[]
  resolved := Array.replicate 124 none
  statics := none }

def pool1 : Array CpInfo := pool [(2, .class_ 4), (1, u "java/lang/Object"), (0, u "<init>"), (0, u "()V"), (0, .integer 1114111), (0, .integer 55296), (0, .integer 57343), (0, .integer 65534), (0, .integer 65535), (0, .integer 55295), (0, .integer 57344), (0, .integer 65533), (0, .integer 65536), (0, .integer 1114112), (2, .integer 2147483648), (0, .integer 2147483647), (0, .methodref 22 23), (0, .class_ 24), (0, .nameAndType 25 26), (0, u "com/example/itinera/itinera/XmlChars"), (0, u "isXmlChar"), (0, u "(I)Z"), (0, .methodref 28 29), (0, .class_ 30), (0, .nameAndType 31 26), (0, u "com/example/itinera/itinera/XmlCharsIsXmlCharPinLaw"), (0, u "reference"), (3, u "law"), (0, u "(III)Z")] 4

def k1m0 : Method := { name := "<init>", desc := "()V", sig := { parameters := [], returnType := none }, accessFlags := 2, code := none }
def k1c1 : Code := { maxStack := 2, maxLocals := 1, code := method_2_code, exceptionTable := #[], attributes := #[] }
def k1m1 : Method := { name := "reference", desc := "(I)Z", sig := { parameters := [.int], returnType := some .boolean }, accessFlags := 10, code := some k1c1 }
def k1c2 : Code := { maxStack := 4, maxLocals := 7, code := code, exceptionTable := #[], attributes := #[] }
def k1m2 : Method := { name := "law", desc := "(III)Z", sig := { parameters := [.int, .int, .int], returnType := some .boolean }, accessFlags := 9, code := some k1c2 }
/-- com/example/itinera/itinera/XmlCharsIsXmlCharPinLaw -/
def k1 : Class := { plain "com/example/itinera/itinera/XmlCharsIsXmlCharPinLaw" (some 0) with
  accessFlags := 49
  interfaces := #[]
  cf := some (fileOf pool1 28 #[] #[{ accessFlags := 2, nameIndex := 5, descriptorIndex := 6, attributes := #[] }, { accessFlags := 10, nameIndex := 31, descriptorIndex := 26, attributes := #[] }, { accessFlags := 9, nameIndex := 35, descriptorIndex := 36, attributes := #[] }] 49 2 #[] #[])
  fields := #[]
  methods := #[k1m0, k1m1, k1m2]
  instanceTypes := #[]
  staticTypes := #[]
  resolved := Array.replicate 41 none
  statics := none }

def pool2 : Array CpInfo := pool [(2, .class_ 4), (1, u "java/lang/Object"), (0, u "<init>"), (0, u "()V"), (0, .integer 55295), (0, .integer 57344), (0, .integer 65533), (0, .integer 65536), (2, .integer 1114111), (1, .class_ 17), (1, u "com/example/itinera/itinera/XmlChars"), (0, u "NAME_START_RANGES"), (0, u "[[I"), (7, u "(I)Z"), (2, u "NAME_RANGES"), (51, u "isXmlChar")] 10

def k2m0 : Method := { name := "<init>", desc := "()V", sig := { parameters := [], returnType := none }, accessFlags := 2, code := none }
def k2c1 : Code := { maxStack := 2, maxLocals := 1, code := prog_10_method_2_code, exceptionTable := #[], attributes := #[] }
def k2m1 : Method := { name := "isXmlChar", desc := "(I)Z", sig := { parameters := [.int], returnType := some .boolean }, accessFlags := 9, code := some k2c1 }
/-- com/example/itinera/itinera/XmlChars -/
def k2 : Class := { plain "com/example/itinera/itinera/XmlChars" (some 0) with
  accessFlags := 49
  interfaces := #[]
  cf := some (fileOf pool2 15 #[] #[{ accessFlags := 2, nameIndex := 5, descriptorIndex := 6, attributes := #[] }, { accessFlags := 9, nameIndex := 82, descriptorIndex := 27, attributes := #[] }] 49 2 #[] #[{ accessFlags := 26, nameIndex := 18, descriptorIndex := 19, attributes := #[] }, { accessFlags := 26, nameIndex := 30, descriptorIndex := 19, attributes := #[] }])
  fields := #[{ name := "NAME_START_RANGES", type := (.array (.array .int)), accessFlags := 26, slot := 0, constantValue := 0 }, { name := "NAME_RANGES", type := (.array (.array .int)), accessFlags := 26, slot := 1, constantValue := 0 }]
  methods := #[k2m0, k2m1]
  instanceTypes := #[]
  staticTypes := #[(.array (.array .int)), (.array (.array .int))]
  resolved := Array.replicate 93 none
  statics := none }

def pool3 : Array CpInfo := pool [(1, u "java/lang/Cloneable"), (0, .class_ 1), (0, u "java/lang/Object"), (0, .class_ 3)] 3

/-- java/lang/Cloneable -/
def k3 : Class := { plain "java/lang/Cloneable" (some 0) with
  accessFlags := 1537
  interfaces := #[]
  cf := some (fileOf pool3 2 #[] #[] 1537 4 #[] #[])
  fields := #[]
  methods := #[]
  instanceTypes := #[]
  staticTypes := #[]
  resolved := Array.replicate 8 none
  statics := none }

def pool4 : Array CpInfo := pool [(1, u "java/io/Serializable"), (0, .class_ 1), (0, u "java/lang/Object"), (0, .class_ 3)] 3

/-- java/io/Serializable -/
def k4 : Class := { plain "java/io/Serializable" (some 0) with
  accessFlags := 1537
  interfaces := #[]
  cf := some (fileOf pool4 2 #[] #[] 1537 4 #[] #[])
  fields := #[]
  methods := #[]
  instanceTypes := #[]
  staticTypes := #[]
  resolved := Array.replicate 8 none
  statics := none }

/-- the primitive byte -/
def k5 : Class := { plain "byte" none with kind := .primitive 'B', accessFlags := 0x411 }
/-- [B -/
def k6 : Class := { plain "[B" (some 0) with kind := .array 5 .byte, interfaces := #[3, 4], accessFlags := 1041 }

/-- the primitive int -/
def k7 : Class := { plain "int" none with kind := .primitive 'I', accessFlags := 0x411 }
/-- [I -/
def k8 : Class := { plain "[I" (some 0) with kind := .array 7 .int, interfaces := #[3, 4], accessFlags := 1041 }

def heap : Heap := #[]
def classes : Array Class := #[k0, k1, k2, k3, k4, k5, k6, k7, k8]
def interned : List (Array UInt16 × Addr) := []
def slotsUsed : Nat := 0
def theMethod : MethodId := ⟨1, 2⟩
def args0 : Array Value := #[.int 5, .int 6, .int 7]
def aboutOver (below : List Frame) : State where
  vm := { classes := classes, interned := interned.toArray }
  heap := heap
  slotsUsed := slotsUsed
  threads := #[{ frames := .invoking theMethod args0 :: below }]
def below0 : List Frame := [.native { method := ⟨0, 0⟩, args := #[] }]
def about1 : State := aboutOver below0
def p0 : Program := .bare "" "" ""
def e0 : Env := launch0.env 0 0 0
theorem w_frames : about1.frames = Frame.invoking theMethod args0 :: below0 := rfl
set_option maxRecDepth 65536 in
theorem w_args : argsFit about1.vm theMethod args0 = true := by decide +kernel
set_option maxRecDepth 65536 in
theorem w_heap : heapFits about1 = true := by decide +kernel
set_option maxRecDepth 65536 in
theorem w_runnable : about1.curStatus? = some .runnable := by decide +kernel
set_option maxRecDepth 65536 in
theorem w_alone : about1.alone = true := by decide +kernel
set_option maxRecDepth 65536 in
theorem w_named : about1.methodNamed? x = some theMethod := by decide +kernel
set_option maxRecDepth 65536 in
theorem w_hears : about1.hears theMethod below0 = true := by decide +kernel
set_option maxRecDepth 65536 in
theorem w_ripe : about1.ripe theMethod args0 below0 = true := by decide +kernel
theorem w_running : about1.status = .running := rfl
set_option maxRecDepth 65536 in
theorem w_room : about1.hasRoom e0.platform room_1 = true :=
  launch0.hasRoom_least _ room_1 (by decide +kernel) (by decide +kernel) (by decide +kernel) (by decide +kernel) (by decide +kernel) (by decide +kernel)
theorem allAtoms_all (ts : List Jvm.Cond) (a : Array Jvm.Value) (st : Jvm.State) : (allAtoms ts).before a st = ts.all (fun c => c.before a st) := by
  induction ts with
  | nil => rfl
  | cons c t ih =>
    show (Jvm.Cond.and c (allAtoms t)).before a st = _
    rw [Jvm.Cond.before_and, ih, List.all_cons]
def words1 : List Jvm.Cond := Jvm.Cond.code x code maxLocals ret :: tables_1
/-- a 'code' word, met by the world's own term for the bytes: nothing is compared byte by byte -/
theorem code_word {y : MethodName} {bytes : ByteArray} {mx : Nat} {rt : Option FieldType} {a : Array Value} {s : State} {m : MethodId} {meth : Method} {c : Code} (h1 : s.methodNamed? y = some m) (h2 : s.vm.method? m = some meth) (h3 : meth.code = some c) (h4 : c.code = bytes)
    (h5 : (c.maxLocals == mx && c.exceptionTable.isEmpty && decide (c.maxStack ≤ mostOperands) && decide (meth.sig.returnType = rt) && !meth.locks && decide (parseMethodDescriptor y.desc = some meth.sig)) = true) : (Jvm.Cond.code y bytes mx rt).before a s = true := by
  simp only [Bool.and_eq_true, beq_iff_eq, Bool.not_eq_true', decide_eq_true_eq] at h5
  obtain ⟨⟨⟨⟨⟨g1, g2⟩, g3⟩, g4⟩, g5⟩, g6⟩ := h5
  simp [Cond.before, Cond.holds, Cond.value, h1, h2, h3, h4, g1, g2, g3, g4, g5, g6]
def isCode : Jvm.Cond → Bool
  | .code _ _ _ _ => true
  | _ => false
theorem all_split {L : List Jvm.Cond} {P : Jvm.Cond → Bool} (h1 : L.all (fun c => isCode c || P c) = true) (h2 : ∀ c ∈ L.filter isCode, P c = true) : L.all P = true := by
  refine List.all_eq_true.mpr fun c hc => ?_
  have h := List.all_eq_true.mp h1 c hc
  rcases Bool.eq_false_or_eq_true (isCode c) with hi | hi
  · exact h2 c (List.mem_filter.mpr ⟨hc, hi⟩)
  · simpa [hi] using h
set_option maxRecDepth 65536 in
theorem w_c0 : (Jvm.Cond.code x code maxLocals ret).before args0 about1 = true := code_word (m := ⟨1, 2⟩) (meth := k1m2) (c := k1c2) (by decide +kernel) rfl rfl rfl (by decide +kernel)
set_option maxRecDepth 65536 in
theorem w_c1 : (Jvm.Cond.code ({ cls := "com/example/itinera/itinera/XmlChars", name := "isXmlChar", desc := "(I)Z" } : Jvm.MethodName) prog_10_method_2_code (1 : Nat) (Option.some Jvm.ClassFile.FieldType.boolean)).before args0 about1 = true := code_word (m := ⟨2, 1⟩) (meth := k2m1) (c := k2c1) (by decide +kernel) rfl rfl rfl (by decide +kernel)
set_option maxRecDepth 65536 in
theorem w_c2 : (Jvm.Cond.code ({ cls := "com/example/itinera/itinera/XmlCharsIsXmlCharPinLaw", name := "reference", desc := "(I)Z" } : Jvm.MethodName) method_2_code (1 : Nat) (Option.some Jvm.ClassFile.FieldType.boolean)).before args0 about1 = true := code_word (m := ⟨1, 1⟩) (meth := k1m1) (c := k1c1) (by decide +kernel) rfl rfl rfl (by decide +kernel)
def codes1 : List Jvm.Cond := [Jvm.Cond.code x code maxLocals ret, Jvm.Cond.code ({ cls := "com/example/itinera/itinera/XmlChars", name := "isXmlChar", desc := "(I)Z" } : Jvm.MethodName) prog_10_method_2_code (1 : Nat) (Option.some Jvm.ClassFile.FieldType.boolean), Jvm.Cond.code ({ cls := "com/example/itinera/itinera/XmlCharsIsXmlCharPinLaw", name := "reference", desc := "(I)Z" } : Jvm.MethodName) method_2_code (1 : Nat) (Option.some Jvm.ClassFile.FieldType.boolean)]
set_option maxRecDepth 65536 in
theorem codes_eq : words1.filter isCode = codes1 := rfl
theorem w_codes : ∀ c ∈ words1.filter isCode, c.before args0 about1 = true := by
  rw [codes_eq]
  intro c hc
  simp only [codes1, List.mem_cons, List.not_mem_nil, or_false] at hc
  rcases hc with rfl | rfl | rfl
  · exact w_c0
  · exact w_c1
  · exact w_c2
set_option maxRecDepth 65536 in
theorem w_t1 : (words1.take 24).all (fun c => isCode c || c.before args0 about1) = true := by decide +kernel
set_option maxRecDepth 65536 in
theorem w_t2 : (words1.drop 24).all (fun c => isCode c || c.before args0 about1) = true := by decide +kernel
theorem w_tables : (allAtoms (Jvm.Cond.code x code maxLocals ret :: tables_1)).before args0 about1 = true := by
  rw [allAtoms_all]
  show words1.all (fun c => c.before args0 about1) = true
  refine all_split ?_ w_codes
  rw [← List.take_append_drop 24 words1, List.all_append, w_t1, w_t2]
  rfl
set_option maxRecDepth 65536 in
theorem w_case : (Jvm.Cond.and given_1 narrow_1).before args0 about1 = true := by decide +kernel
theorem w_applies : (headSpec (Jvm.Cond.code x code maxLocals ret :: tables_1) room_1).applies x e0.platform about1 = true :=
  (Spec.applies_iff w_frames).mpr ⟨w_running, w_runnable, w_alone, w_named, w_hears, w_ripe, w_room, w_tables⟩
theorem atStart : AtStart classFile x code maxLocals ret World_1 tables_1 room_1 Calls_1 rest_1 Pre_1 launch0 p0 e0 about1 theMethod args0 below0 :=
  ⟨lists_1, trivial, launch0.admits_env _ _ _, launch0.least_env, fairChoices_fair.cas, fairChoices_fair.clock, w_frames, w_args, w_heap, w_applies, trivial, trivial, w_case⟩
end start1
theorem witness_1 : WitnessClaimed_1 := ⟨start1.p0, start1.e0, start1.about1, start1.theMethod, start1.args0, start1.below0, start1.atStart⟩
end Jvm.Pilot.@@N@@
