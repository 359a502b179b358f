import JvmDerived
import JvmDerived.Pilot.@@N@@Statement
import JvmDerived.Pilot.@@N@@Code
set_option linter.unusedVariables false
set_option linter.unusedSimpArgs false
namespace Jvm.Pilot.@@N@@
open Jvm Jvm.ClassFile Sem Op Lib Jvm.Free Jvm.Stand Jvm.LawKit Jvm.RoadKit Bundle Jvm.Pilot.@@N@@.Jvm.D
/-- what a return of the int z asks of the frames below -/
abbrev own_Rt (e : Env) (T : State) (m : MethodId) (fs : List Frame) (w : Value) : Prop := ∀ (f : JFrame) (acts : List Action), f.method = m → f.locked = none → f.entered = [] → (doReturn e (T.setTop f) acts (some w)).1 = T.setFrames fs
theorem d2_0 : decode method_3_code 0 = .ok (.iload_n 0, 1) := by decide +kernel
theorem d2_1 : decode method_3_code 1 = .ok (.ifCond .ne 14, 3) := by decide +kernel
theorem d2_4 : decode method_3_code 4 = .ok (.iload_n 1, 1) := by decide +kernel
theorem d2_5 : decode method_3_code 5 = .ok (.iconst 1, 1) := by decide +kernel
theorem d2_6 : decode method_3_code 6 = .ok (.if_icmp .ne 7, 3) := by decide +kernel
theorem d2_9 : decode method_3_code 9 = .ok (.iconst 1, 1) := by decide +kernel
theorem d2_10 : decode method_3_code 10 = .ok (.goto 4, 3) := by decide +kernel
theorem d2_13 : decode method_3_code 13 = .ok (.iconst 0, 1) := by decide +kernel
theorem d2_14 : decode method_3_code 14 = .ok (.ireturn, 1) := by decide +kernel
theorem d2_15 : decode method_3_code 15 = .ok (.iload_n 0, 1) := by decide +kernel
theorem d2_16 : decode method_3_code 16 = .ok (.iconst 1, 1) := by decide +kernel
theorem d2_17 : decode method_3_code 17 = .ok (.if_icmp .ne 14, 3) := by decide +kernel
theorem d2_20 : decode method_3_code 20 = .ok (.iload_n 1, 1) := by decide +kernel
theorem d2_21 : decode method_3_code 21 = .ok (.iconst 1, 1) := by decide +kernel
theorem d2_22 : decode method_3_code 22 = .ok (.if_icmp .gt 7, 3) := by decide +kernel
theorem d2_25 : decode method_3_code 25 = .ok (.iconst 1, 1) := by decide +kernel
theorem d2_26 : decode method_3_code 26 = .ok (.goto 4, 3) := by decide +kernel
theorem d2_29 : decode method_3_code 29 = .ok (.iconst 0, 1) := by decide +kernel
theorem d2_30 : decode method_3_code 30 = .ok (.ireturn, 1) := by decide +kernel
theorem d2_31 : decode method_3_code 31 = .ok (.iload_n 0, 1) := by decide +kernel
theorem d2_32 : decode method_3_code 32 = .ok (.iconst 2, 1) := by decide +kernel
theorem d2_33 : decode method_3_code 33 = .ok (.if_icmp .ne 5, 3) := by decide +kernel
theorem d2_36 : decode method_3_code 36 = .ok (.iconst 1, 1) := by decide +kernel
theorem d2_37 : decode method_3_code 37 = .ok (.ireturn, 1) := by decide +kernel
theorem d2_38 : decode method_3_code 38 = .ok (.iload_n 0, 1) := by decide +kernel
theorem d2_39 : decode method_3_code 39 = .ok (.iconst 3, 1) := by decide +kernel
theorem d2_40 : decode method_3_code 40 = .ok (.if_icmp .ne 14, 3) := by decide +kernel
theorem d2_43 : decode method_3_code 43 = .ok (.iload_n 1, 1) := by decide +kernel
theorem d2_44 : decode method_3_code 44 = .ok (.iconst 1, 1) := by decide +kernel
theorem d2_45 : decode method_3_code 45 = .ok (.if_icmp .lt 7, 3) := by decide +kernel
theorem d2_48 : decode method_3_code 48 = .ok (.iconst 1, 1) := by decide +kernel
theorem d2_49 : decode method_3_code 49 = .ok (.goto 4, 3) := by decide +kernel
theorem d2_52 : decode method_3_code 52 = .ok (.iconst 0, 1) := by decide +kernel
theorem d2_53 : decode method_3_code 53 = .ok (.ireturn, 1) := by decide +kernel
theorem d2_54 : decode method_3_code 54 = .ok (.iload_n 1, 1) := by decide +kernel
theorem d2_55 : decode method_3_code 55 = .ok (.ifCond .ne 7, 3) := by decide +kernel
theorem d2_58 : decode method_3_code 58 = .ok (.iconst 1, 1) := by decide +kernel
theorem d2_59 : decode method_3_code 59 = .ok (.goto 4, 3) := by decide +kernel
theorem d2_62 : decode method_3_code 62 = .ok (.iconst 0, 1) := by decide +kernel
theorem d2_63 : decode method_3_code 63 = .ok (.ireturn, 1) := by decide +kernel
theorem pn_2 : plainName "com/example/itinera/itinera/expr/OccurrenceIsWithinPinLaw" = true := by first | (simp [plainName, overriddenIn]; done) | decide +kernel
theorem ef_2 (m : MethodId) (x0 : Int32) (x1 : Int32) : entryFrame m #[(.int x0), (.int x1)] 2 = (mkF m 0 #[.val (.int x0), .val (.int x1)] []) := by first | (simp [entryFrame, mkF, argsToLocals, Value.category]; done) | rfl
def f2_62 (v0 : Int32) (v1 : Int32) : Int32 := (0 : Int32)
def f2_58 (v0 : Int32) (v1 : Int32) : Int32 := (1 : Int32)
def f2_54 (v0 : Int32) (v1 : Int32) : Int32 := if v1 = (0 : Int32) then f2_58 v0 v1 else f2_62 v0 v1
def f2_52 (v0 : Int32) (v1 : Int32) : Int32 := (0 : Int32)
def f2_48 (v0 : Int32) (v1 : Int32) : Int32 := (1 : Int32)
def f2_43 (v0 : Int32) (v1 : Int32) : Int32 := if v1 < (1 : Int32) then f2_52 v0 v1 else f2_48 v0 v1
def f2_38 (v0 : Int32) (v1 : Int32) : Int32 := if v0 = (3 : Int32) then f2_43 v0 v1 else f2_54 v0 v1
def f2_36 (v0 : Int32) (v1 : Int32) : Int32 := (1 : Int32)
def f2_31 (v0 : Int32) (v1 : Int32) : Int32 := if v0 = (2 : Int32) then f2_36 v0 v1 else f2_38 v0 v1
def f2_29 (v0 : Int32) (v1 : Int32) : Int32 := (0 : Int32)
def f2_25 (v0 : Int32) (v1 : Int32) : Int32 := (1 : Int32)
def f2_20 (v0 : Int32) (v1 : Int32) : Int32 := if (1 : Int32) < v1 then f2_29 v0 v1 else f2_25 v0 v1
def f2_15 (v0 : Int32) (v1 : Int32) : Int32 := if v0 = (1 : Int32) then f2_20 v0 v1 else f2_31 v0 v1
def f2_13 (v0 : Int32) (v1 : Int32) : Int32 := (0 : Int32)
def f2_9 (v0 : Int32) (v1 : Int32) : Int32 := (1 : Int32)
def f2_4 (v0 : Int32) (v1 : Int32) : Int32 := if v1 = (1 : Int32) then f2_9 v0 v1 else f2_13 v0 v1
def f2_0 (v0 : Int32) (v1 : Int32) : Int32 := if v0 = (0 : Int32) then f2_4 v0 v1 else f2_15 v0 v1
section Own2
variable {p : Program} {l : Launch} {e : Env} {R : Room} {s : State} {m : MethodId} {args : Array Value} {below : List Frame} {meth : Method} {c : Code} {T : State} {locs : List Loc} {cells slots : Nat} {Z : State} {a0 : Array Value}
theorem g2_62 (X : Stand p l e R s m args below meth c T locs cells slots) (hx : p.tables.exec = Jvm.exec) (hby : c.code = method_3_code) (hret : meth.sig.returnType = some .boolean) (hZ : Z.Warmed39 s.vm) (hown : s.vm.findClass "com/example/itinera/itinera/expr/OccurrenceIsWithinPinLaw" = some m.cls) (hw : ∀ d ∈ tables_1, d.before a0 Z = true) (v0 : Int32) (v1 : Int32) {fs : List Frame} (hl : own_Rt e T m fs (.int (f2_62 v0 v1))) : Steps p.tables e below (T.setTop (mkF m 62 #[.val (.int v0), .val (.int v1)] [])) (T.setFrames fs) := by
  show Steps p.tables e below (T.setTop (mkF m 62 #[.val (.int v0), .val (.int v1)] [])) _
  refine XS.iconst X.here hx rfl (hb hby d2_62) ?_
  show Steps p.tables e below (T.setTop (mkF m 63 #[.val (.int v0), .val (.int v1)] [(.int (0 : Int32))])) _
  exact retN X hx (t := .boolean) hret (by simp) (hb hby d2_63) hl
theorem g2_58 (X : Stand p l e R s m args below meth c T locs cells slots) (hx : p.tables.exec = Jvm.exec) (hby : c.code = method_3_code) (hret : meth.sig.returnType = some .boolean) (hZ : Z.Warmed39 s.vm) (hown : s.vm.findClass "com/example/itinera/itinera/expr/OccurrenceIsWithinPinLaw" = some m.cls) (hw : ∀ d ∈ tables_1, d.before a0 Z = true) (v0 : Int32) (v1 : Int32) {fs : List Frame} (hl : own_Rt e T m fs (.int (f2_58 v0 v1))) : Steps p.tables e below (T.setTop (mkF m 58 #[.val (.int v0), .val (.int v1)] [])) (T.setFrames fs) := by
  show Steps p.tables e below (T.setTop (mkF m 58 #[.val (.int v0), .val (.int v1)] [])) _
  refine XS.iconst X.here hx rfl (hb hby d2_58) ?_
  show Steps p.tables e below (T.setTop (mkF m 59 #[.val (.int v0), .val (.int v1)] [(.int (1 : Int32))])) _
  refine XS.goto X.here hx rfl (pc0 := 59) (pc' := 63) rfl (hb hby d2_59) (by decide) (by decide) ?_
  show Steps p.tables e below (T.setTop (mkF m 63 #[.val (.int v0), .val (.int v1)] [(.int (1 : Int32))])) _
  exact retN X hx (t := .boolean) hret (by simp) (hb hby d2_63) hl
theorem g2_54 (X : Stand p l e R s m args below meth c T locs cells slots) (hx : p.tables.exec = Jvm.exec) (hby : c.code = method_3_code) (hret : meth.sig.returnType = some .boolean) (hZ : Z.Warmed39 s.vm) (hown : s.vm.findClass "com/example/itinera/itinera/expr/OccurrenceIsWithinPinLaw" = some m.cls) (hw : ∀ d ∈ tables_1, d.before a0 Z = true) (v0 : Int32) (v1 : Int32) {fs : List Frame} (hl : own_Rt e T m fs (.int (f2_54 v0 v1))) : Steps p.tables e below (T.setTop (mkF m 54 #[.val (.int v0), .val (.int v1)] [])) (T.setFrames fs) := by
  show Steps p.tables e below (T.setTop (mkF m 54 #[.val (.int v0), .val (.int v1)] [])) _
  refine XS.iloadN X.here hx rfl (hb hby d2_54) rfl ?_
  show Steps p.tables e below (T.setTop (mkF m 55 #[.val (.int v0), .val (.int v1)] [(.int v1)])) _
  by_cases hc : v1 = (0 : Int32)
  · rw [show f2_54 v0 v1 = f2_58 v0 v1 from if_pos hc] at hl
    refine XS.ifNo X.here hx rfl (hb hby d2_55) rfl ((if0 _ _).trans (teq hc).2) ?_
    exact g2_58 X hx hby hret hZ hown hw v0 v1 hl
  · rw [show f2_54 v0 v1 = f2_62 v0 v1 from if_neg hc] at hl
    refine XS.ifYes X.here hx rfl (pc0 := 55) (pc' := 62) rfl (hb hby d2_55) rfl ((if0 _ _).trans (feq hc).2) (by decide) (by decide) ?_
    exact g2_62 X hx hby hret hZ hown hw v0 v1 hl
theorem g2_52 (X : Stand p l e R s m args below meth c T locs cells slots) (hx : p.tables.exec = Jvm.exec) (hby : c.code = method_3_code) (hret : meth.sig.returnType = some .boolean) (hZ : Z.Warmed39 s.vm) (hown : s.vm.findClass "com/example/itinera/itinera/expr/OccurrenceIsWithinPinLaw" = some m.cls) (hw : ∀ d ∈ tables_1, d.before a0 Z = true) (v0 : Int32) (v1 : Int32) {fs : List Frame} (hl : own_Rt e T m fs (.int (f2_52 v0 v1))) : Steps p.tables e below (T.setTop (mkF m 52 #[.val (.int v0), .val (.int v1)] [])) (T.setFrames fs) := by
  show Steps p.tables e below (T.setTop (mkF m 52 #[.val (.int v0), .val (.int v1)] [])) _
  refine XS.iconst X.here hx rfl (hb hby d2_52) ?_
  show Steps p.tables e below (T.setTop (mkF m 53 #[.val (.int v0), .val (.int v1)] [(.int (0 : Int32))])) _
  exact retN X hx (t := .boolean) hret (by simp) (hb hby d2_53) hl
theorem g2_48 (X : Stand p l e R s m args below meth c T locs cells slots) (hx : p.tables.exec = Jvm.exec) (hby : c.code = method_3_code) (hret : meth.sig.returnType = some .boolean) (hZ : Z.Warmed39 s.vm) (hown : s.vm.findClass "com/example/itinera/itinera/expr/OccurrenceIsWithinPinLaw" = some m.cls) (hw : ∀ d ∈ tables_1, d.before a0 Z = true) (v0 : Int32) (v1 : Int32) {fs : List Frame} (hl : own_Rt e T m fs (.int (f2_48 v0 v1))) : Steps p.tables e below (T.setTop (mkF m 48 #[.val (.int v0), .val (.int v1)] [])) (T.setFrames fs) := by
  show Steps p.tables e below (T.setTop (mkF m 48 #[.val (.int v0), .val (.int v1)] [])) _
  refine XS.iconst X.here hx rfl (hb hby d2_48) ?_
  show Steps p.tables e below (T.setTop (mkF m 49 #[.val (.int v0), .val (.int v1)] [(.int (1 : Int32))])) _
  refine XS.goto X.here hx rfl (pc0 := 49) (pc' := 53) rfl (hb hby d2_49) (by decide) (by decide) ?_
  show Steps p.tables e below (T.setTop (mkF m 53 #[.val (.int v0), .val (.int v1)] [(.int (1 : Int32))])) _
  exact retN X hx (t := .boolean) hret (by simp) (hb hby d2_53) hl
theorem g2_43 (X : Stand p l e R s m args below meth c T locs cells slots) (hx : p.tables.exec = Jvm.exec) (hby : c.code = method_3_code) (hret : meth.sig.returnType = some .boolean) (hZ : Z.Warmed39 s.vm) (hown : s.vm.findClass "com/example/itinera/itinera/expr/OccurrenceIsWithinPinLaw" = some m.cls) (hw : ∀ d ∈ tables_1, d.before a0 Z = true) (v0 : Int32) (v1 : Int32) {fs : List Frame} (hl : own_Rt e T m fs (.int (f2_43 v0 v1))) : Steps p.tables e below (T.setTop (mkF m 43 #[.val (.int v0), .val (.int v1)] [])) (T.setFrames fs) := by
  show Steps p.tables e below (T.setTop (mkF m 43 #[.val (.int v0), .val (.int v1)] [])) _
  refine XS.iloadN X.here hx rfl (hb hby d2_43) rfl ?_
  show Steps p.tables e below (T.setTop (mkF m 44 #[.val (.int v0), .val (.int v1)] [(.int v1)])) _
  refine XS.iconst X.here hx rfl (hb hby d2_44) ?_
  show Steps p.tables e below (T.setTop (mkF m 45 #[.val (.int v0), .val (.int v1)] [(.int (1 : Int32)), (.int v1)])) _
  by_cases hc : v1 < (1 : Int32)
  · rw [show f2_43 v0 v1 = f2_52 v0 v1 from if_pos hc] at hl
    refine XS.icmpYes X.here hx rfl (pc0 := 45) (pc' := 52) rfl (hb hby d2_45) rfl (tlt hc).1 (by decide) (by decide) ?_
    exact g2_52 X hx hby hret hZ hown hw v0 v1 hl
  · rw [show f2_43 v0 v1 = f2_48 v0 v1 from if_neg hc] at hl
    refine XS.icmpNo X.here hx rfl (hb hby d2_45) rfl (flt hc).1 ?_
    exact g2_48 X hx hby hret hZ hown hw v0 v1 hl
theorem g2_38 (X : Stand p l e R s m args below meth c T locs cells slots) (hx : p.tables.exec = Jvm.exec) (hby : c.code = method_3_code) (hret : meth.sig.returnType = some .boolean) (hZ : Z.Warmed39 s.vm) (hown : s.vm.findClass "com/example/itinera/itinera/expr/OccurrenceIsWithinPinLaw" = some m.cls) (hw : ∀ d ∈ tables_1, d.before a0 Z = true) (v0 : Int32) (v1 : Int32) {fs : List Frame} (hl : own_Rt e T m fs (.int (f2_38 v0 v1))) : Steps p.tables e below (T.setTop (mkF m 38 #[.val (.int v0), .val (.int v1)] [])) (T.setFrames fs) := by
  show Steps p.tables e below (T.setTop (mkF m 38 #[.val (.int v0), .val (.int v1)] [])) _
  refine XS.iloadN X.here hx rfl (hb hby d2_38) rfl ?_
  show Steps p.tables e below (T.setTop (mkF m 39 #[.val (.int v0), .val (.int v1)] [(.int v0)])) _
  refine XS.iconst X.here hx rfl (hb hby d2_39) ?_
  show Steps p.tables e below (T.setTop (mkF m 40 #[.val (.int v0), .val (.int v1)] [(.int (3 : Int32)), (.int v0)])) _
  by_cases hc : v0 = (3 : Int32)
  · rw [show f2_38 v0 v1 = f2_43 v0 v1 from if_pos hc] at hl
    refine XS.icmpNo X.here hx rfl (hb hby d2_40) rfl (teq hc).2 ?_
    exact g2_43 X hx hby hret hZ hown hw v0 v1 hl
  · rw [show f2_38 v0 v1 = f2_54 v0 v1 from if_neg hc] at hl
    refine XS.icmpYes X.here hx rfl (pc0 := 40) (pc' := 54) rfl (hb hby d2_40) rfl (feq hc).2 (by decide) (by decide) ?_
    exact g2_54 X hx hby hret hZ hown hw v0 v1 hl
theorem g2_36 (X : Stand p l e R s m args below meth c T locs cells slots) (hx : p.tables.exec = Jvm.exec) (hby : c.code = method_3_code) (hret : meth.sig.returnType = some .boolean) (hZ : Z.Warmed39 s.vm) (hown : s.vm.findClass "com/example/itinera/itinera/expr/OccurrenceIsWithinPinLaw" = some m.cls) (hw : ∀ d ∈ tables_1, d.before a0 Z = true) (v0 : Int32) (v1 : Int32) {fs : List Frame} (hl : own_Rt e T m fs (.int (f2_36 v0 v1))) : Steps p.tables e below (T.setTop (mkF m 36 #[.val (.int v0), .val (.int v1)] [])) (T.setFrames fs) := by
  show Steps p.tables e below (T.setTop (mkF m 36 #[.val (.int v0), .val (.int v1)] [])) _
  refine XS.iconst X.here hx rfl (hb hby d2_36) ?_
  show Steps p.tables e below (T.setTop (mkF m 37 #[.val (.int v0), .val (.int v1)] [(.int (1 : Int32))])) _
  exact retN X hx (t := .boolean) hret (by simp) (hb hby d2_37) hl
theorem g2_31 (X : Stand p l e R s m args below meth c T locs cells slots) (hx : p.tables.exec = Jvm.exec) (hby : c.code = method_3_code) (hret : meth.sig.returnType = some .boolean) (hZ : Z.Warmed39 s.vm) (hown : s.vm.findClass "com/example/itinera/itinera/expr/OccurrenceIsWithinPinLaw" = some m.cls) (hw : ∀ d ∈ tables_1, d.before a0 Z = true) (v0 : Int32) (v1 : Int32) {fs : List Frame} (hl : own_Rt e T m fs (.int (f2_31 v0 v1))) : Steps p.tables e below (T.setTop (mkF m 31 #[.val (.int v0), .val (.int v1)] [])) (T.setFrames fs) := by
  show Steps p.tables e below (T.setTop (mkF m 31 #[.val (.int v0), .val (.int v1)] [])) _
  refine XS.iloadN X.here hx rfl (hb hby d2_31) rfl ?_
  show Steps p.tables e below (T.setTop (mkF m 32 #[.val (.int v0), .val (.int v1)] [(.int v0)])) _
  refine XS.iconst X.here hx rfl (hb hby d2_32) ?_
  show Steps p.tables e below (T.setTop (mkF m 33 #[.val (.int v0), .val (.int v1)] [(.int (2 : Int32)), (.int v0)])) _
  by_cases hc : v0 = (2 : Int32)
  · rw [show f2_31 v0 v1 = f2_36 v0 v1 from if_pos hc] at hl
    refine XS.icmpNo X.here hx rfl (hb hby d2_33) rfl (teq hc).2 ?_
    exact g2_36 X hx hby hret hZ hown hw v0 v1 hl
  · rw [show f2_31 v0 v1 = f2_38 v0 v1 from if_neg hc] at hl
    refine XS.icmpYes X.here hx rfl (pc0 := 33) (pc' := 38) rfl (hb hby d2_33) rfl (feq hc).2 (by decide) (by decide) ?_
    exact g2_38 X hx hby hret hZ hown hw v0 v1 hl
theorem g2_29 (X : Stand p l e R s m args below meth c T locs cells slots) (hx : p.tables.exec = Jvm.exec) (hby : c.code = method_3_code) (hret : meth.sig.returnType = some .boolean) (hZ : Z.Warmed39 s.vm) (hown : s.vm.findClass "com/example/itinera/itinera/expr/OccurrenceIsWithinPinLaw" = some m.cls) (hw : ∀ d ∈ tables_1, d.before a0 Z = true) (v0 : Int32) (v1 : Int32) {fs : List Frame} (hl : own_Rt e T m fs (.int (f2_29 v0 v1))) : Steps p.tables e below (T.setTop (mkF m 29 #[.val (.int v0), .val (.int v1)] [])) (T.setFrames fs) := by
  show Steps p.tables e below (T.setTop (mkF m 29 #[.val (.int v0), .val (.int v1)] [])) _
  refine XS.iconst X.here hx rfl (hb hby d2_29) ?_
  show Steps p.tables e below (T.setTop (mkF m 30 #[.val (.int v0), .val (.int v1)] [(.int (0 : Int32))])) _
  exact retN X hx (t := .boolean) hret (by simp) (hb hby d2_30) hl
theorem g2_25 (X : Stand p l e R s m args below meth c T locs cells slots) (hx : p.tables.exec = Jvm.exec) (hby : c.code = method_3_code) (hret : meth.sig.returnType = some .boolean) (hZ : Z.Warmed39 s.vm) (hown : s.vm.findClass "com/example/itinera/itinera/expr/OccurrenceIsWithinPinLaw" = some m.cls) (hw : ∀ d ∈ tables_1, d.before a0 Z = true) (v0 : Int32) (v1 : Int32) {fs : List Frame} (hl : own_Rt e T m fs (.int (f2_25 v0 v1))) : Steps p.tables e below (T.setTop (mkF m 25 #[.val (.int v0), .val (.int v1)] [])) (T.setFrames fs) := by
  show Steps p.tables e below (T.setTop (mkF m 25 #[.val (.int v0), .val (.int v1)] [])) _
  refine XS.iconst X.here hx rfl (hb hby d2_25) ?_
  show Steps p.tables e below (T.setTop (mkF m 26 #[.val (.int v0), .val (.int v1)] [(.int (1 : Int32))])) _
  refine XS.goto X.here hx rfl (pc0 := 26) (pc' := 30) rfl (hb hby d2_26) (by decide) (by decide) ?_
  show Steps p.tables e below (T.setTop (mkF m 30 #[.val (.int v0), .val (.int v1)] [(.int (1 : Int32))])) _
  exact retN X hx (t := .boolean) hret (by simp) (hb hby d2_30) hl
theorem g2_20 (X : Stand p l e R s m args below meth c T locs cells slots) (hx : p.tables.exec = Jvm.exec) (hby : c.code = method_3_code) (hret : meth.sig.returnType = some .boolean) (hZ : Z.Warmed39 s.vm) (hown : s.vm.findClass "com/example/itinera/itinera/expr/OccurrenceIsWithinPinLaw" = some m.cls) (hw : ∀ d ∈ tables_1, d.before a0 Z = true) (v0 : Int32) (v1 : Int32) {fs : List Frame} (hl : own_Rt e T m fs (.int (f2_20 v0 v1))) : Steps p.tables e below (T.setTop (mkF m 20 #[.val (.int v0), .val (.int v1)] [])) (T.setFrames fs) := by
  show Steps p.tables e below (T.setTop (mkF m 20 #[.val (.int v0), .val (.int v1)] [])) _
  refine XS.iloadN X.here hx rfl (hb hby d2_20) rfl ?_
  show Steps p.tables e below (T.setTop (mkF m 21 #[.val (.int v0), .val (.int v1)] [(.int v1)])) _
  refine XS.iconst X.here hx rfl (hb hby d2_21) ?_
  show Steps p.tables e below (T.setTop (mkF m 22 #[.val (.int v0), .val (.int v1)] [(.int (1 : Int32)), (.int v1)])) _
  by_cases hc : (1 : Int32) < v1
  · rw [show f2_20 v0 v1 = f2_29 v0 v1 from if_pos hc] at hl
    refine XS.icmpYes X.here hx rfl (pc0 := 22) (pc' := 29) rfl (hb hby d2_22) rfl (tlt hc).2.2.1 (by decide) (by decide) ?_
    exact g2_29 X hx hby hret hZ hown hw v0 v1 hl
  · rw [show f2_20 v0 v1 = f2_25 v0 v1 from if_neg hc] at hl
    refine XS.icmpNo X.here hx rfl (hb hby d2_22) rfl (flt hc).2.2.1 ?_
    exact g2_25 X hx hby hret hZ hown hw v0 v1 hl
theorem g2_15 (X : Stand p l e R s m args below meth c T locs cells slots) (hx : p.tables.exec = Jvm.exec) (hby : c.code = method_3_code) (hret : meth.sig.returnType = some .boolean) (hZ : Z.Warmed39 s.vm) (hown : s.vm.findClass "com/example/itinera/itinera/expr/OccurrenceIsWithinPinLaw" = some m.cls) (hw : ∀ d ∈ tables_1, d.before a0 Z = true) (v0 : Int32) (v1 : Int32) {fs : List Frame} (hl : own_Rt e T m fs (.int (f2_15 v0 v1))) : Steps p.tables e below (T.setTop (mkF m 15 #[.val (.int v0), .val (.int v1)] [])) (T.setFrames fs) := by
  show Steps p.tables e below (T.setTop (mkF m 15 #[.val (.int v0), .val (.int v1)] [])) _
  refine XS.iloadN X.here hx rfl (hb hby d2_15) rfl ?_
  show Steps p.tables e below (T.setTop (mkF m 16 #[.val (.int v0), .val (.int v1)] [(.int v0)])) _
  refine XS.iconst X.here hx rfl (hb hby d2_16) ?_
  show Steps p.tables e below (T.setTop (mkF m 17 #[.val (.int v0), .val (.int v1)] [(.int (1 : Int32)), (.int v0)])) _
  by_cases hc : v0 = (1 : Int32)
  · rw [show f2_15 v0 v1 = f2_20 v0 v1 from if_pos hc] at hl
    refine XS.icmpNo X.here hx rfl (hb hby d2_17) rfl (teq hc).2 ?_
    exact g2_20 X hx hby hret hZ hown hw v0 v1 hl
  · rw [show f2_15 v0 v1 = f2_31 v0 v1 from if_neg hc] at hl
    refine XS.icmpYes X.here hx rfl (pc0 := 17) (pc' := 31) rfl (hb hby d2_17) rfl (feq hc).2 (by decide) (by decide) ?_
    exact g2_31 X hx hby hret hZ hown hw v0 v1 hl
theorem g2_13 (X : Stand p l e R s m args below meth c T locs cells slots) (hx : p.tables.exec = Jvm.exec) (hby : c.code = method_3_code) (hret : meth.sig.returnType = some .boolean) (hZ : Z.Warmed39 s.vm) (hown : s.vm.findClass "com/example/itinera/itinera/expr/OccurrenceIsWithinPinLaw" = some m.cls) (hw : ∀ d ∈ tables_1, d.before a0 Z = true) (v0 : Int32) (v1 : Int32) {fs : List Frame} (hl : own_Rt e T m fs (.int (f2_13 v0 v1))) : Steps p.tables e below (T.setTop (mkF m 13 #[.val (.int v0), .val (.int v1)] [])) (T.setFrames fs) := by
  show Steps p.tables e below (T.setTop (mkF m 13 #[.val (.int v0), .val (.int v1)] [])) _
  refine XS.iconst X.here hx rfl (hb hby d2_13) ?_
  show Steps p.tables e below (T.setTop (mkF m 14 #[.val (.int v0), .val (.int v1)] [(.int (0 : Int32))])) _
  exact retN X hx (t := .boolean) hret (by simp) (hb hby d2_14) hl
theorem g2_9 (X : Stand p l e R s m args below meth c T locs cells slots) (hx : p.tables.exec = Jvm.exec) (hby : c.code = method_3_code) (hret : meth.sig.returnType = some .boolean) (hZ : Z.Warmed39 s.vm) (hown : s.vm.findClass "com/example/itinera/itinera/expr/OccurrenceIsWithinPinLaw" = some m.cls) (hw : ∀ d ∈ tables_1, d.before a0 Z = true) (v0 : Int32) (v1 : Int32) {fs : List Frame} (hl : own_Rt e T m fs (.int (f2_9 v0 v1))) : Steps p.tables e below (T.setTop (mkF m 9 #[.val (.int v0), .val (.int v1)] [])) (T.setFrames fs) := by
  show Steps p.tables e below (T.setTop (mkF m 9 #[.val (.int v0), .val (.int v1)] [])) _
  refine XS.iconst X.here hx rfl (hb hby d2_9) ?_
  show Steps p.tables e below (T.setTop (mkF m 10 #[.val (.int v0), .val (.int v1)] [(.int (1 : Int32))])) _
  refine XS.goto X.here hx rfl (pc0 := 10) (pc' := 14) rfl (hb hby d2_10) (by decide) (by decide) ?_
  show Steps p.tables e below (T.setTop (mkF m 14 #[.val (.int v0), .val (.int v1)] [(.int (1 : Int32))])) _
  exact retN X hx (t := .boolean) hret (by simp) (hb hby d2_14) hl
theorem g2_4 (X : Stand p l e R s m args below meth c T locs cells slots) (hx : p.tables.exec = Jvm.exec) (hby : c.code = method_3_code) (hret : meth.sig.returnType = some .boolean) (hZ : Z.Warmed39 s.vm) (hown : s.vm.findClass "com/example/itinera/itinera/expr/OccurrenceIsWithinPinLaw" = some m.cls) (hw : ∀ d ∈ tables_1, d.before a0 Z = true) (v0 : Int32) (v1 : Int32) {fs : List Frame} (hl : own_Rt e T m fs (.int (f2_4 v0 v1))) : Steps p.tables e below (T.setTop (mkF m 4 #[.val (.int v0), .val (.int v1)] [])) (T.setFrames fs) := by
  show Steps p.tables e below (T.setTop (mkF m 4 #[.val (.int v0), .val (.int v1)] [])) _
  refine XS.iloadN X.here hx rfl (hb hby d2_4) rfl ?_
  show Steps p.tables e below (T.setTop (mkF m 5 #[.val (.int v0), .val (.int v1)] [(.int v1)])) _
  refine XS.iconst X.here hx rfl (hb hby d2_5) ?_
  show Steps p.tables e below (T.setTop (mkF m 6 #[.val (.int v0), .val (.int v1)] [(.int (1 : Int32)), (.int v1)])) _
  by_cases hc : v1 = (1 : Int32)
  · rw [show f2_4 v0 v1 = f2_9 v0 v1 from if_pos hc] at hl
    refine XS.icmpNo X.here hx rfl (hb hby d2_6) rfl (teq hc).2 ?_
    exact g2_9 X hx hby hret hZ hown hw v0 v1 hl
  · rw [show f2_4 v0 v1 = f2_13 v0 v1 from if_neg hc] at hl
    refine XS.icmpYes X.here hx rfl (pc0 := 6) (pc' := 13) rfl (hb hby d2_6) rfl (feq hc).2 (by decide) (by decide) ?_
    exact g2_13 X hx hby hret hZ hown hw v0 v1 hl
theorem g2_0 (X : Stand p l e R s m args below meth c T locs cells slots) (hx : p.tables.exec = Jvm.exec) (hby : c.code = method_3_code) (hret : meth.sig.returnType = some .boolean) (hZ : Z.Warmed39 s.vm) (hown : s.vm.findClass "com/example/itinera/itinera/expr/OccurrenceIsWithinPinLaw" = some m.cls) (hw : ∀ d ∈ tables_1, d.before a0 Z = true) (v0 : Int32) (v1 : Int32) {fs : List Frame} (hl : own_Rt e T m fs (.int (f2_0 v0 v1))) : Steps p.tables e below (T.setTop (mkF m 0 #[.val (.int v0), .val (.int v1)] [])) (T.setFrames fs) := by
  show Steps p.tables e below (T.setTop (mkF m 0 #[.val (.int v0), .val (.int v1)] [])) _
  refine XS.iloadN X.here hx rfl (hb hby d2_0) rfl ?_
  show Steps p.tables e below (T.setTop (mkF m 1 #[.val (.int v0), .val (.int v1)] [(.int v0)])) _
  by_cases hc : v0 = (0 : Int32)
  · rw [show f2_0 v0 v1 = f2_4 v0 v1 from if_pos hc] at hl
    refine XS.ifNo X.here hx rfl (hb hby d2_1) rfl ((if0 _ _).trans (teq hc).2) ?_
    exact g2_4 X hx hby hret hZ hown hw v0 v1 hl
  · rw [show f2_0 v0 v1 = f2_15 v0 v1 from if_neg hc] at hl
    refine XS.ifYes X.here hx rfl (pc0 := 1) (pc' := 15) rfl (hb hby d2_1) rfl ((if0 _ _).trans (feq hc).2) (by decide) (by decide) ?_
    exact g2_15 X hx hby hret hZ hown hw v0 v1 hl
end Own2
def Q2 (v0 : Int32) (v1 : Int32) (h0 : Heap) (n0 : Nat) (v : Option Value) (h : Heap) (L : List Loc) : Prop := v = some (.int (f2_0 v0 v1)) ∧ Fr n0 L ∧ h = h0
set_option maxRecDepth 65536 in
set_option maxHeartbeats 40000000 in
theorem rm2 (l : Launch) (Z : State) (a0 : Array Value) (hw : ∀ d ∈ tables_1, d.before a0 Z = true) (ws : List Jvm.Cond) (v0 : Int32) (v1 : Int32) (h0 : Heap) (n0 : Nat) (Z0 : n0 ≤ h0.size) :
    MetFree l (⟨"com/example/itinera/itinera/expr/OccurrenceIsWithinPinLaw", "holds", "(II)Z"⟩ : MethodName) (head1 (Jvm.Cond.code (⟨"com/example/itinera/itinera/expr/OccurrenceIsWithinPinLaw", "holds", "(II)Z"⟩ : MethodName) method_3_code 2 (some .boolean) :: ws) ({ frames := 0, cells := 0, slots := 0, locals := 0 } : Room)) (fun a U => a = #[(.int v0), (.int v1)] ∧ Z.Warmed39 U.vm ∧ U.heap = h0) (fun _ _ _ _ _ => True) (fun _ U o U' => ∃ v L, o = .returned v ∧ Q2 v0 v1 h0 n0 v U'.heap L ∧ FrameEnd U o U' L ({ frames := 0, cells := 0, slots := 0, locals := 0 } : Room).cells ({ frames := 0, cells := 0, slots := 0, locals := 0 } : Room).slots) := by
  refine MetFree.of_bodySF (plainFor_of_name pn_2) hisR ?_
  intro p e s m args below meth c s₁ Bd hml0 hP hK
  obtain ⟨rfl, hZ, hh⟩ := hP
  have hx := Bd.exec
  have hby := Bd.bytes
  have hown : s.vm.findClass "com/example/itinera/itinera/expr/OccurrenceIsWithinPinLaw" = some m.cls := findClass_of_methodNamed Bd.named
  have X0 : Stand p l e ({ frames := 0, cells := 0, slots := 0, locals := 0 } : Room) s m #[(.int v0), (.int v1)] below meth c s₁ [] 0 0 := Stand.of_body Bd
  have e0 : s₁.heap = h0 := by rw [← hh, Bd.state]; rfl
  have N0 := Fr.nil n0
  have pre0 : ∀ t, Steps p.tables e below (s₁.setTop (mkF m 0 #[.val (.int v0), .val (.int v1)] [])) t → Steps p.tables e below (s₁.setTop (entryFrame m #[(.int v0), (.int v1)] 2)) t := fun t k => castTop (ef_2 m v0 v1) k
  obtain ⟨fs, hr, hrun, hended, hW, hsame⟩ := X0.leave (v := some (.int (f2_0 v0 v1))) (fun h => by rw [Bd.returns] at h; cases h)
  refine ⟨_, _, pre0 _ ?_, hrun, hended, _, _, rfl, ?_, ⟨_, rfl⟩, hW, hsame.mono (by decide) (by decide)⟩
  · exact g2_0 X0 hx hby Bd.returns hZ hown hw v0 v1 hr
  · show Q2 v0 v1 h0 n0 _ s₁.heap _
    rw [e0]
    exact ⟨rfl, N0, rfl⟩
theorem pd_2 : parseMethodDescriptor "(II)Z" = some ⟨[.int, .int], some .boolean⟩ := by decide +kernel
theorem d1_0 : decode method_4_code 0 = .ok (.iload_n 0, 1) := by decide +kernel
theorem d1_1 : decode method_4_code 1 = .ok (.iload_n 2, 1) := by decide +kernel
theorem d1_2 : decode method_4_code 2 = .ok (.invokestatic 25, 3) := by decide +kernel
theorem d1_5 : decode method_4_code 5 = .ok (.ifCond .eq 11, 3) := by decide +kernel
theorem d1_8 : decode method_4_code 8 = .ok (.iload_n 1, 1) := by decide +kernel
theorem d1_9 : decode method_4_code 9 = .ok (.iload_n 2, 1) := by decide +kernel
theorem d1_10 : decode method_4_code 10 = .ok (.invokestatic 25, 3) := by decide +kernel
theorem d1_13 : decode method_4_code 13 = .ok (.ifCond .eq 7, 3) := by decide +kernel
theorem d1_16 : decode method_4_code 16 = .ok (.iconst 1, 1) := by decide +kernel
theorem d1_17 : decode method_4_code 17 = .ok (.goto 4, 3) := by decide +kernel
theorem d1_20 : decode method_4_code 20 = .ok (.iconst 0, 1) := by decide +kernel
theorem d1_21 : decode method_4_code 21 = .ok (.ireturn, 1) := by decide +kernel
theorem pn_1 : plainName "com/example/itinera/itinera/expr/OccurrenceIsWithinPinLaw" = true := by first | (simp [plainName, overriddenIn]; done) | decide +kernel
theorem ef_1 (m : MethodId) (x0 : Int32) (x1 : Int32) (x2 : Int32) : entryFrame m #[(.int x0), (.int x1), (.int x2)] 3 = (mkF m 0 #[.val (.int x0), .val (.int x1), .val (.int x2)] []) := by first | (simp [entryFrame, mkF, argsToLocals, Value.category]; done) | rfl
theorem pd_1 : parseMethodDescriptor "(III)Z" = some ⟨[.int, .int, .int], some .boolean⟩ := by decide +kernel
def own_imp (v0 v1 v2 : Int32) : Int32 := if f2_0 v0 v2 = 0 then 1 else if f2_0 v1 v2 = 0 then 0 else 1
def Q1 (v0 v1 v2 : Int32) (h0 : Heap) (n0 : Nat) (v : Option Value) (h : Heap) (L : List Loc) : Prop := v = some (.int (own_imp v0 v1 v2)) ∧ Fr n0 L ∧ h = h0
set_option maxRecDepth 65536 in
set_option maxHeartbeats 40000000 in
theorem rm1 (l : Launch) (Z : State) (a0 : Array Value) (hw : ∀ d ∈ tables_1, d.before a0 Z = true) (ws : List Jvm.Cond) (v0 v1 v2 : Int32) (h0 : Heap) (n0 : Nat) (Z0 : n0 ≤ h0.size)  :
    MetFree l (⟨"com/example/itinera/itinera/expr/OccurrenceIsWithinPinLaw", "implies", "(III)Z"⟩ : MethodName) (head1 (Jvm.Cond.code (⟨"com/example/itinera/itinera/expr/OccurrenceIsWithinPinLaw", "implies", "(III)Z"⟩ : MethodName) method_4_code 3 (some .boolean) :: ws) ({ frames := 1, cells := 0, slots := 0, locals := 14 } : Room)) (fun a U => a = #[(.int v0), (.int v1), (.int v2)] ∧ Z.Warmed39 U.vm ∧ U.heap = h0) (fun _ _ _ _ _ => True) (fun _ U o U' => ∃ v L, o = .returned v ∧ Q1 v0 v1 v2 h0 n0 v U'.heap L ∧ FrameEnd U o U' L ({ frames := 1, cells := 0, slots := 0, locals := 14 } : Room).cells ({ frames := 1, cells := 0, slots := 0, locals := 14 } : Room).slots) := by
  refine MetFree.of_bodySF (plainFor_of_name pn_1) hisR ?_
  intro p e s m args below meth c s₁ Bd hml0 hP hK
  obtain ⟨rfl, hZ, hh⟩ := hP
  have hx := Bd.exec
  have hby := Bd.bytes
  have hret := Bd.returns
  have hml : c.maxLocals = 3 := hml0
  have hown : s.vm.findClass "com/example/itinera/itinera/expr/OccurrenceIsWithinPinLaw" = some m.cls := findClass_of_methodNamed Bd.named
  have X0 : Stand p l e ({ frames := 1, cells := 0, slots := 0, locals := 14 } : Room) s m #[(.int v0), (.int v1), (.int v2)] below meth c s₁ [] 0 0 := Stand.of_body Bd
  have e0 : s₁.heap = h0 := by rw [← hh, Bd.state]; rfl
  have N0 := Fr.nil n0
  have pre0 : ∀ t, Steps p.tables e below (s₁.setTop (mkF m 0 #[.val (.int v0), .val (.int v1), .val (.int v2)] [])) t → Steps p.tables e below (s₁.setTop (entryFrame m #[(.int v0), (.int v1), (.int v2)] 3)) t := fun t k => castTop (ef_1 m v0 v1 v2) k
  have sg1 : ∀ t, Steps p.tables e below (s₁.setTop (mkF m 2 #[.val (.int v0), .val (.int v1), .val (.int v2)] [(.int v2), (.int v0)])) t → Steps p.tables e below (s₁.setTop (mkF m 0 #[.val (.int v0), .val (.int v1), .val (.int v2)] [])) t := by
    intro t k
    show Steps p.tables e below (s₁.setTop (mkF m 0 #[.val (.int v0), .val (.int v1), .val (.int v2)] [])) _
    refine XS.iloadN X0.here hx rfl (hb hby d1_0) rfl ?_
    show Steps p.tables e below (s₁.setTop (mkF m 1 #[.val (.int v0), .val (.int v1), .val (.int v2)] [(.int v0)])) _
    refine XS.iloadN X0.here hx rfl (hb hby d1_1) rfl ?_
    show Steps p.tables e below (s₁.setTop (mkF m 2 #[.val (.int v0), .val (.int v1), .val (.int v2)] [(.int v2), (.int v0)])) _
    exact k
  obtain ⟨_, _, ⟨T2, L2, k2, n2⟩, -, X2, ⟨Lc2, hQ2, l2, y2, z2⟩, st2⟩ := Jvm.LawKit.callS X0 hx (y := (⟨"com/example/itinera/itinera/expr/OccurrenceIsWithinPinLaw", "holds", "(II)Z"⟩ : MethodName)) hown (mvT hZ (hw _ (List.mem_of_getElem? (i := 5) rfl))) (mvT hZ (hw _ (List.mem_of_getElem? (i := 6) rfl))) (mvT hZ (hw _ (List.mem_of_getElem? (i := 3) rfl))) (mvT hZ (hw _ (List.mem_of_getElem? (i := 7) rfl))) (by decide) (backOf (W := 0) (rm2 l Z a0 hw [] v0 v2 h0 n0 Z0) hZ (hw _ (List.mem_of_getElem? (i := 7) rfl)) (hw _ (List.mem_of_getElem? (i := 3) rfl)) (by decide) (by decide)) (g := (mkF m 2 #[.val (.int v0), .val (.int v1), .val (.int v2)] [(.int v2), (.int v0)])) rfl (by rw [hml]; rfl) (argsL := [(.int v0), (.int v2)]) (rest := []) (lenOf pd_2 rfl) rfl (by show 2 * 0 + _ ≤ _; exact Nat.le_of_eq rfl) (hb hby d1_2) (fun _ _ => ⟨rfl, e0, (by decide : 0 + 0 ≤ _), (by decide : 0 + 0 ≤ _)⟩)
  dsimp only [Pt.U, Pt.locs, Pt.cells, Pt.slots] at X2 l2 y2 z2 st2 hQ2
  subst l2 y2 z2
  obtain ⟨rfl, Nc2, e2⟩ := hQ2
  have N2 := Fr.app N0 Nc2
  by_cases q1 : f2_0 v0 v2 = 0
  · skip
    have sg3 : ∀ t, Steps p.tables e below (T2.setTop (mkF m 21 #[.val (.int v0), .val (.int v1), .val (.int v2)] [(.int (1 : Int32))])) t → Steps p.tables e below (T2.setTop (mkF m 5 #[.val (.int v0), .val (.int v1), .val (.int v2)] [(.int (f2_0 v0 v2))])) t := by
      intro t k
      show Steps p.tables e below (T2.setTop (mkF m 5 #[.val (.int v0), .val (.int v1), .val (.int v2)] [(.int (f2_0 v0 v2))])) _
      refine XS.ifYes X2.here hx rfl (pc0 := 5) (pc' := 16) rfl (hb hby d1_5) rfl ((if0 _ _).trans (teq q1).1) (by decide) (by decide) ?_
      show Steps p.tables e below (T2.setTop (mkF m 16 #[.val (.int v0), .val (.int v1), .val (.int v2)] [])) _
      refine XS.iconst X2.here hx rfl (hb hby d1_16) ?_
      show Steps p.tables e below (T2.setTop (mkF m 17 #[.val (.int v0), .val (.int v1), .val (.int v2)] [(.int (1 : Int32))])) _
      refine XS.goto X2.here hx rfl (pc0 := 17) (pc' := 21) rfl (hb hby d1_17) (by decide) (by decide) ?_
      show Steps p.tables e below (T2.setTop (mkF m 21 #[.val (.int v0), .val (.int v1), .val (.int v2)] [(.int (1 : Int32))])) _
      exact k
    have hv : own_imp v0 v1 v2 = 1 := by simp [own_imp, q1]
    obtain ⟨fs, hr, hrun, hended, hW, hsame⟩ := X2.leave (v := some (.int (own_imp v0 v1 v2))) (fun h => by rw [hret] at h; cases h)
    refine ⟨_, _, pre0 _ ?_, hrun, hended, _, _, rfl, ?_, ⟨_, rfl⟩, hW, hsame.mono (by decide) (by decide)⟩
    · refine sg1 _ ?_
      refine st2 _ ?_
      refine sg3 _ ?_
      show Steps p.tables e below (T2.setTop (mkF m 21 #[.val (.int v0), .val (.int v1), .val (.int v2)] [(.int (1 : Int32))])) _
      exact retN X2 hx (t := .boolean) hret (by simp) (hb hby d1_21) (by rw [hv] at hr; exact hr)
    · exact ⟨rfl, N2, e2⟩
  have sg3 : ∀ t, Steps p.tables e below (T2.setTop (mkF m 10 #[.val (.int v0), .val (.int v1), .val (.int v2)] [(.int v2), (.int v1)])) t → Steps p.tables e below (T2.setTop (mkF m 5 #[.val (.int v0), .val (.int v1), .val (.int v2)] [(.int (f2_0 v0 v2))])) t := by
    intro t k
    show Steps p.tables e below (T2.setTop (mkF m 5 #[.val (.int v0), .val (.int v1), .val (.int v2)] [(.int (f2_0 v0 v2))])) _
    refine XS.ifNo X2.here hx rfl (hb hby d1_5) rfl ((if0 _ _).trans (feq q1).1) ?_
    show Steps p.tables e below (T2.setTop (mkF m 8 #[.val (.int v0), .val (.int v1), .val (.int v2)] [])) _
    refine XS.iloadN X2.here hx rfl (hb hby d1_8) rfl ?_
    show Steps p.tables e below (T2.setTop (mkF m 9 #[.val (.int v0), .val (.int v1), .val (.int v2)] [(.int v1)])) _
    refine XS.iloadN X2.here hx rfl (hb hby d1_9) rfl ?_
    show Steps p.tables e below (T2.setTop (mkF m 10 #[.val (.int v0), .val (.int v1), .val (.int v2)] [(.int v2), (.int v1)])) _
    exact k
  obtain ⟨_, _, ⟨T4, L4, k4, n4⟩, -, X4, ⟨Lc4, hQ4, l4, y4, z4⟩, st4⟩ := Jvm.LawKit.callS X2 hx (y := (⟨"com/example/itinera/itinera/expr/OccurrenceIsWithinPinLaw", "holds", "(II)Z"⟩ : MethodName)) hown (mvT hZ (hw _ (List.mem_of_getElem? (i := 5) rfl))) (mvT hZ (hw _ (List.mem_of_getElem? (i := 6) rfl))) (mvT hZ (hw _ (List.mem_of_getElem? (i := 3) rfl))) (mvT hZ (hw _ (List.mem_of_getElem? (i := 7) rfl))) (by decide) (backOf (W := 0) (rm2 l Z a0 hw [] v1 v2 h0 n0 Z0) hZ (hw _ (List.mem_of_getElem? (i := 7) rfl)) (hw _ (List.mem_of_getElem? (i := 3) rfl)) (by decide) (by decide)) (g := (mkF m 10 #[.val (.int v0), .val (.int v1), .val (.int v2)] [(.int v2), (.int v1)])) rfl (by rw [hml]; rfl) (argsL := [(.int v1), (.int v2)]) (rest := []) (lenOf pd_2 rfl) rfl (by show 2 * 0 + _ ≤ _; exact Nat.le_of_eq rfl) (hb hby d1_10) (fun _ _ => ⟨rfl, e2, (by decide : 0 + 0 ≤ _), (by decide : 0 + 0 ≤ _)⟩)
  dsimp only [Pt.U, Pt.locs, Pt.cells, Pt.slots] at X4 l4 y4 z4 st4 hQ4
  subst l4 y4 z4
  obtain ⟨rfl, Nc4, e4⟩ := hQ4
  have N4 := Fr.app N2 Nc4
  by_cases q2 : f2_0 v1 v2 = 0
  · skip
    have sg5 : ∀ t, Steps p.tables e below (T4.setTop (mkF m 21 #[.val (.int v0), .val (.int v1), .val (.int v2)] [(.int (0 : Int32))])) t → Steps p.tables e below (T4.setTop (mkF m 13 #[.val (.int v0), .val (.int v1), .val (.int v2)] [(.int (f2_0 v1 v2))])) t := by
      intro t k
      show Steps p.tables e below (T4.setTop (mkF m 13 #[.val (.int v0), .val (.int v1), .val (.int v2)] [(.int (f2_0 v1 v2))])) _
      refine XS.ifYes X4.here hx rfl (pc0 := 13) (pc' := 20) rfl (hb hby d1_13) rfl ((if0 _ _).trans (teq q2).1) (by decide) (by decide) ?_
      show Steps p.tables e below (T4.setTop (mkF m 20 #[.val (.int v0), .val (.int v1), .val (.int v2)] [])) _
      refine XS.iconst X4.here hx rfl (hb hby d1_20) ?_
      show Steps p.tables e below (T4.setTop (mkF m 21 #[.val (.int v0), .val (.int v1), .val (.int v2)] [(.int (0 : Int32))])) _
      exact k
    have hv : own_imp v0 v1 v2 = 0 := by simp [own_imp, q1, q2]
    obtain ⟨fs, hr, hrun, hended, hW, hsame⟩ := X4.leave (v := some (.int (own_imp v0 v1 v2))) (fun h => by rw [hret] at h; cases h)
    refine ⟨_, _, pre0 _ ?_, hrun, hended, _, _, rfl, ?_, ⟨_, rfl⟩, hW, hsame.mono (by decide) (by decide)⟩
    · refine sg1 _ ?_
      refine st2 _ ?_
      refine sg3 _ ?_
      refine st4 _ ?_
      refine sg5 _ ?_
      show Steps p.tables e below (T4.setTop (mkF m 21 #[.val (.int v0), .val (.int v1), .val (.int v2)] [(.int (0 : Int32))])) _
      exact retN X4 hx (t := .boolean) hret (by simp) (hb hby d1_21) (by rw [hv] at hr; exact hr)
    · exact ⟨rfl, N4, e4⟩
  have sg5 : ∀ t, Steps p.tables e below (T4.setTop (mkF m 21 #[.val (.int v0), .val (.int v1), .val (.int v2)] [(.int (1 : Int32))])) t → Steps p.tables e below (T4.setTop (mkF m 13 #[.val (.int v0), .val (.int v1), .val (.int v2)] [(.int (f2_0 v1 v2))])) t := by
    intro t k
    show Steps p.tables e below (T4.setTop (mkF m 13 #[.val (.int v0), .val (.int v1), .val (.int v2)] [(.int (f2_0 v1 v2))])) _
    refine XS.ifNo X4.here hx rfl (hb hby d1_13) rfl ((if0 _ _).trans (feq q2).1) ?_
    show Steps p.tables e below (T4.setTop (mkF m 16 #[.val (.int v0), .val (.int v1), .val (.int v2)] [])) _
    refine XS.iconst X4.here hx rfl (hb hby d1_16) ?_
    show Steps p.tables e below (T4.setTop (mkF m 17 #[.val (.int v0), .val (.int v1), .val (.int v2)] [(.int (1 : Int32))])) _
    refine XS.goto X4.here hx rfl (pc0 := 17) (pc' := 21) rfl (hb hby d1_17) (by decide) (by decide) ?_
    show Steps p.tables e below (T4.setTop (mkF m 21 #[.val (.int v0), .val (.int v1), .val (.int v2)] [(.int (1 : Int32))])) _
    exact k
  have hv : own_imp v0 v1 v2 = 1 := by simp [own_imp, q1, q2]
  obtain ⟨fs, hr, hrun, hended, hW, hsame⟩ := X4.leave (v := some (.int (own_imp v0 v1 v2))) (fun h => by rw [hret] at h; cases h)
  refine ⟨_, _, pre0 _ ?_, hrun, hended, _, _, rfl, ?_, ⟨_, rfl⟩, hW, hsame.mono (by decide) (by decide)⟩
  · refine sg1 _ ?_
    refine st2 _ ?_
    refine sg3 _ ?_
    refine st4 _ ?_
    refine sg5 _ ?_
    show Steps p.tables e below (T4.setTop (mkF m 21 #[.val (.int v0), .val (.int v1), .val (.int v2)] [(.int (1 : Int32))])) _
    exact retN X4 hx (t := .boolean) hret (by simp) (hb hby d1_21) (by rw [hv] at hr; exact hr)
  · exact ⟨rfl, N4, e4⟩
theorem d3_0 : decode method_2_code 0 = .ok (.iload_n 0, 1) := by decide +kernel
theorem d3_1 : decode method_2_code 1 = .ok (.ifCond .ne 7, 3) := by decide +kernel
theorem d3_4 : decode method_2_code 4 = .ok (.getstatic 7, 3) := by decide +kernel
theorem d3_7 : decode method_2_code 7 = .ok (.areturn, 1) := by decide +kernel
theorem d3_8 : decode method_2_code 8 = .ok (.iload_n 0, 1) := by decide +kernel
theorem d3_9 : decode method_2_code 9 = .ok (.iconst 1, 1) := by decide +kernel
theorem d3_10 : decode method_2_code 10 = .ok (.if_icmp .ne 7, 3) := by decide +kernel
theorem d3_13 : decode method_2_code 13 = .ok (.getstatic 13, 3) := by decide +kernel
theorem d3_16 : decode method_2_code 16 = .ok (.areturn, 1) := by decide +kernel
theorem d3_17 : decode method_2_code 17 = .ok (.iload_n 0, 1) := by decide +kernel
theorem d3_18 : decode method_2_code 18 = .ok (.iconst 2, 1) := by decide +kernel
theorem d3_19 : decode method_2_code 19 = .ok (.if_icmp .ne 7, 3) := by decide +kernel
theorem d3_22 : decode method_2_code 22 = .ok (.getstatic 16, 3) := by decide +kernel
theorem d3_25 : decode method_2_code 25 = .ok (.areturn, 1) := by decide +kernel
theorem d3_26 : decode method_2_code 26 = .ok (.iload_n 0, 1) := by decide +kernel
theorem d3_27 : decode method_2_code 27 = .ok (.iconst 3, 1) := by decide +kernel
theorem d3_28 : decode method_2_code 28 = .ok (.if_icmp .ne 7, 3) := by decide +kernel
theorem d3_31 : decode method_2_code 31 = .ok (.getstatic 19, 3) := by decide +kernel
theorem d3_34 : decode method_2_code 34 = .ok (.areturn, 1) := by decide +kernel
theorem d3_35 : decode method_2_code 35 = .ok (.getstatic 22, 3) := by decide +kernel
theorem d3_38 : decode method_2_code 38 = .ok (.areturn, 1) := by decide +kernel
theorem pn_3 : plainName "com/example/itinera/itinera/expr/OccurrenceIsWithinPinLaw" = true := by first | (simp [plainName, overriddenIn]; done) | decide +kernel
theorem ef_3 (m : MethodId) (x0 : Int32) : entryFrame m #[(.int x0)] 1 = (mkF m 0 #[.val (.int x0)] []) := by first | (simp [entryFrame, mkF, argsToLocals, Value.category]; done) | rfl
theorem pd_3 : parseMethodDescriptor "(I)Lcom/example/itinera/itinera/expr/SequenceType$Occurrence;" = some ⟨[.int], some (.object "com/example/itinera/itinera/expr/SequenceType$Occurrence")⟩ := by decide +kernel
def own_nm : Nat → String := fun k => (["ONE", "OPTIONAL", "ANY", "ONE_OR_MORE", "NONE"] : List String).getD k ""
def own_ix (v : Int32) : Nat := if v = (0 : Int32) then 0 else if v = (1 : Int32) then 1 else if v = (2 : Int32) then 2 else if v = (3 : Int32) then 3 else 4
theorem own_ite_lt {c : Prop} [Decidable c] {a b n : Nat} (h1 : a < n) (h2 : b < n) : (if c then a else b) < n := by split <;> assumption
theorem own_ix_lt (v : Int32) : own_ix v < 5 := (own_ite_lt (by decide) (own_ite_lt (by decide) (own_ite_lt (by decide) (own_ite_lt (by decide) (by decide)))))
def Q3 (A : Nat → Addr) (vv : Int32) (h0 : Heap) (n0 : Nat) (v : Option Value) (h : Heap) (L : List Loc) : Prop := v = some (.ref (A (own_ix vv))) ∧ Fr n0 L ∧ h = h0
set_option maxRecDepth 65536 in
set_option maxHeartbeats 40000000 in
theorem rm3 (l : Launch) (Z : State) (a0 : Array Value) (hw : ∀ d ∈ tables_1, d.before a0 Z = true) (ws : List Jvm.Cond) (A : Nat → Addr) (vv : Int32) (h0 : Heap) (n0 : Nat) (Z0 : n0 ≤ h0.size) (hS : ∀ k, k < 5 → Sta Z h0 "com/example/itinera/itinera/expr/SequenceType$Occurrence" (own_nm k) "Lcom/example/itinera/itinera/expr/SequenceType$Occurrence;" (.ref (A k))) :
    MetFree l (⟨"com/example/itinera/itinera/expr/OccurrenceIsWithinPinLaw", "pick", "(I)Lcom/example/itinera/itinera/expr/SequenceType$Occurrence;"⟩ : MethodName) (head1 (Jvm.Cond.code (⟨"com/example/itinera/itinera/expr/OccurrenceIsWithinPinLaw", "pick", "(I)Lcom/example/itinera/itinera/expr/SequenceType$Occurrence;"⟩ : MethodName) method_2_code 1 (some (.object "com/example/itinera/itinera/expr/SequenceType$Occurrence")) :: ws) ({ frames := 0, cells := 0, slots := 0, locals := 0 } : Room)) (fun a U => a = #[(.int vv)] ∧ Z.Warmed39 U.vm ∧ U.heap = h0) (fun _ _ _ _ _ => True) (fun _ U o U' => ∃ v L, o = .returned v ∧ Q3 A vv h0 n0 v U'.heap L ∧ FrameEnd U o U' L ({ frames := 0, cells := 0, slots := 0, locals := 0 } : Room).cells ({ frames := 0, cells := 0, slots := 0, locals := 0 } : Room).slots) := by
  refine MetFree.of_bodySF (plainFor_of_name pn_3) hisR ?_
  intro p e s m args below meth c s₁ Bd hml0 hP hK
  obtain ⟨rfl, hZ, hh⟩ := hP
  have hx := Bd.exec
  have hby := Bd.bytes
  have hret := Bd.returns
  have hml : c.maxLocals = 1 := hml0
  have hown : s.vm.findClass "com/example/itinera/itinera/expr/OccurrenceIsWithinPinLaw" = some m.cls := findClass_of_methodNamed Bd.named
  have X0 : Stand p l e ({ frames := 0, cells := 0, slots := 0, locals := 0 } : Room) s m #[(.int vv)] below meth c s₁ [] 0 0 := Stand.of_body Bd
  have e0 : s₁.heap = h0 := by rw [← hh, Bd.state]; rfl
  have N0 := Fr.nil n0
  have pre0 : ∀ t, Steps p.tables e below (s₁.setTop (mkF m 0 #[.val (.int vv)] [])) t → Steps p.tables e below (s₁.setTop (entryFrame m #[(.int vv)] 1)) t := fun t k => castTop (ef_3 m vv) k
  by_cases c0 : vv = (0 : Int32)
  · skip
    have sg1 : ∀ t, Steps p.tables e below (s₁.setTop (mkF m 4 #[.val (.int vv)] [])) t → Steps p.tables e below (s₁.setTop (mkF m 0 #[.val (.int vv)] [])) t := by
      intro t k
      show Steps p.tables e below (s₁.setTop (mkF m 0 #[.val (.int vv)] [])) _
      refine XS.iloadN X0.here hx rfl (hb hby d3_0) rfl ?_
      show Steps p.tables e below (s₁.setTop (mkF m 1 #[.val (.int vv)] [(.int vv)])) _
      refine XS.ifNo X0.here hx rfl (hb hby d3_1) rfl ((if0 _ _).trans (teq c0).2) ?_
      show Steps p.tables e below (s₁.setTop (mkF m 4 #[.val (.int vv)] [])) _
      exact k
    obtain ⟨T2, X2, e2, st2⟩ := getS (host := "") X0 hx hZ hown (hw _ (List.mem_of_getElem? (i := 11) rfl)) Via.refl e0 (show Sta Z h0 "com/example/itinera/itinera/expr/SequenceType$Occurrence" "ONE" "Lcom/example/itinera/itinera/expr/SequenceType$Occurrence;" (.ref (A 0)) from hS 0 (by decide)) (g := (mkF m 4 #[.val (.int vv)] [])) rfl (hb hby d3_4)
    have hv : own_ix vv = 0 := by simp [own_ix, c0]
    obtain ⟨fs, hr, hrun, hended, hW, hsame⟩ := X2.leave (v := some (.ref (A 0))) (fun h => by rw [hret] at h; cases h)
    refine ⟨_, _, pre0 _ ?_, hrun, hended, _, _, rfl, ?_, ⟨_, rfl⟩, hW, hsame.mono (by decide) (by decide)⟩
    · refine sg1 _ ?_
      refine st2 _ ?_
      show Steps p.tables e below (T2.setTop (mkF m 7 #[.val (.int vv)] [(.ref (A 0))])) _
      exact retOut X2 hx (t := .object "com/example/itinera/itinera/expr/SequenceType$Occurrence") hret rfl (Or.inr (Or.inr (Or.inr (Or.inr ⟨rfl, rfl, rfl⟩)))) (hb hby d3_7) hr
    · exact ⟨by rw [hv], N0, e2⟩
  by_cases c1 : vv = (1 : Int32)
  · skip
    have sg1 : ∀ t, Steps p.tables e below (s₁.setTop (mkF m 13 #[.val (.int vv)] [])) t → Steps p.tables e below (s₁.setTop (mkF m 0 #[.val (.int vv)] [])) t := by
      intro t k
      show Steps p.tables e below (s₁.setTop (mkF m 0 #[.val (.int vv)] [])) _
      refine XS.iloadN X0.here hx rfl (hb hby d3_0) rfl ?_
      show Steps p.tables e below (s₁.setTop (mkF m 1 #[.val (.int vv)] [(.int vv)])) _
      refine XS.ifYes X0.here hx rfl (pc0 := 1) (pc' := 8) rfl (hb hby d3_1) rfl ((if0 _ _).trans (feq c0).2) (by decide) (by decide) ?_
      show Steps p.tables e below (s₁.setTop (mkF m 8 #[.val (.int vv)] [])) _
      refine XS.iloadN X0.here hx rfl (hb hby d3_8) rfl ?_
      show Steps p.tables e below (s₁.setTop (mkF m 9 #[.val (.int vv)] [(.int vv)])) _
      refine XS.iconst X0.here hx rfl (hb hby d3_9) ?_
      show Steps p.tables e below (s₁.setTop (mkF m 10 #[.val (.int vv)] [(.int (1 : Int32)), (.int vv)])) _
      refine XS.icmpNo X0.here hx rfl (hb hby d3_10) rfl (teq c1).2 ?_
      show Steps p.tables e below (s₁.setTop (mkF m 13 #[.val (.int vv)] [])) _
      exact k
    obtain ⟨T2, X2, e2, st2⟩ := getS (host := "") X0 hx hZ hown (hw _ (List.mem_of_getElem? (i := 27) rfl)) Via.refl e0 (show Sta Z h0 "com/example/itinera/itinera/expr/SequenceType$Occurrence" "OPTIONAL" "Lcom/example/itinera/itinera/expr/SequenceType$Occurrence;" (.ref (A 1)) from hS 1 (by decide)) (g := (mkF m 13 #[.val (.int vv)] [])) rfl (hb hby d3_13)
    have hv : own_ix vv = 1 := by simp [own_ix, c0, c1]
    obtain ⟨fs, hr, hrun, hended, hW, hsame⟩ := X2.leave (v := some (.ref (A 1))) (fun h => by rw [hret] at h; cases h)
    refine ⟨_, _, pre0 _ ?_, hrun, hended, _, _, rfl, ?_, ⟨_, rfl⟩, hW, hsame.mono (by decide) (by decide)⟩
    · refine sg1 _ ?_
      refine st2 _ ?_
      show Steps p.tables e below (T2.setTop (mkF m 16 #[.val (.int vv)] [(.ref (A 1))])) _
      exact retOut X2 hx (t := .object "com/example/itinera/itinera/expr/SequenceType$Occurrence") hret rfl (Or.inr (Or.inr (Or.inr (Or.inr ⟨rfl, rfl, rfl⟩)))) (hb hby d3_16) hr
    · exact ⟨by rw [hv], N0, e2⟩
  by_cases c2 : vv = (2 : Int32)
  · skip
    have sg1 : ∀ t, Steps p.tables e below (s₁.setTop (mkF m 22 #[.val (.int vv)] [])) t → Steps p.tables e below (s₁.setTop (mkF m 0 #[.val (.int vv)] [])) t := by
      intro t k
      show Steps p.tables e below (s₁.setTop (mkF m 0 #[.val (.int vv)] [])) _
      refine XS.iloadN X0.here hx rfl (hb hby d3_0) rfl ?_
      show Steps p.tables e below (s₁.setTop (mkF m 1 #[.val (.int vv)] [(.int vv)])) _
      refine XS.ifYes X0.here hx rfl (pc0 := 1) (pc' := 8) rfl (hb hby d3_1) rfl ((if0 _ _).trans (feq c0).2) (by decide) (by decide) ?_
      show Steps p.tables e below (s₁.setTop (mkF m 8 #[.val (.int vv)] [])) _
      refine XS.iloadN X0.here hx rfl (hb hby d3_8) rfl ?_
      show Steps p.tables e below (s₁.setTop (mkF m 9 #[.val (.int vv)] [(.int vv)])) _
      refine XS.iconst X0.here hx rfl (hb hby d3_9) ?_
      show Steps p.tables e below (s₁.setTop (mkF m 10 #[.val (.int vv)] [(.int (1 : Int32)), (.int vv)])) _
      refine XS.icmpYes X0.here hx rfl (pc0 := 10) (pc' := 17) rfl (hb hby d3_10) rfl (feq c1).2 (by decide) (by decide) ?_
      show Steps p.tables e below (s₁.setTop (mkF m 17 #[.val (.int vv)] [])) _
      refine XS.iloadN X0.here hx rfl (hb hby d3_17) rfl ?_
      show Steps p.tables e below (s₁.setTop (mkF m 18 #[.val (.int vv)] [(.int vv)])) _
      refine XS.iconst X0.here hx rfl (hb hby d3_18) ?_
      show Steps p.tables e below (s₁.setTop (mkF m 19 #[.val (.int vv)] [(.int (2 : Int32)), (.int vv)])) _
      refine XS.icmpNo X0.here hx rfl (hb hby d3_19) rfl (teq c2).2 ?_
      show Steps p.tables e below (s₁.setTop (mkF m 22 #[.val (.int vv)] [])) _
      exact k
    obtain ⟨T2, X2, e2, st2⟩ := getS (host := "") X0 hx hZ hown (hw _ (List.mem_of_getElem? (i := 29) rfl)) Via.refl e0 (show Sta Z h0 "com/example/itinera/itinera/expr/SequenceType$Occurrence" "ANY" "Lcom/example/itinera/itinera/expr/SequenceType$Occurrence;" (.ref (A 2)) from hS 2 (by decide)) (g := (mkF m 22 #[.val (.int vv)] [])) rfl (hb hby d3_22)
    have hv : own_ix vv = 2 := by simp [own_ix, c0, c1, c2]
    obtain ⟨fs, hr, hrun, hended, hW, hsame⟩ := X2.leave (v := some (.ref (A 2))) (fun h => by rw [hret] at h; cases h)
    refine ⟨_, _, pre0 _ ?_, hrun, hended, _, _, rfl, ?_, ⟨_, rfl⟩, hW, hsame.mono (by decide) (by decide)⟩
    · refine sg1 _ ?_
      refine st2 _ ?_
      show Steps p.tables e below (T2.setTop (mkF m 25 #[.val (.int vv)] [(.ref (A 2))])) _
      exact retOut X2 hx (t := .object "com/example/itinera/itinera/expr/SequenceType$Occurrence") hret rfl (Or.inr (Or.inr (Or.inr (Or.inr ⟨rfl, rfl, rfl⟩)))) (hb hby d3_25) hr
    · exact ⟨by rw [hv], N0, e2⟩
  by_cases c3 : vv = (3 : Int32)
  · skip
    have sg1 : ∀ t, Steps p.tables e below (s₁.setTop (mkF m 31 #[.val (.int vv)] [])) t → Steps p.tables e below (s₁.setTop (mkF m 0 #[.val (.int vv)] [])) t := by
      intro t k
      show Steps p.tables e below (s₁.setTop (mkF m 0 #[.val (.int vv)] [])) _
      refine XS.iloadN X0.here hx rfl (hb hby d3_0) rfl ?_
      show Steps p.tables e below (s₁.setTop (mkF m 1 #[.val (.int vv)] [(.int vv)])) _
      refine XS.ifYes X0.here hx rfl (pc0 := 1) (pc' := 8) rfl (hb hby d3_1) rfl ((if0 _ _).trans (feq c0).2) (by decide) (by decide) ?_
      show Steps p.tables e below (s₁.setTop (mkF m 8 #[.val (.int vv)] [])) _
      refine XS.iloadN X0.here hx rfl (hb hby d3_8) rfl ?_
      show Steps p.tables e below (s₁.setTop (mkF m 9 #[.val (.int vv)] [(.int vv)])) _
      refine XS.iconst X0.here hx rfl (hb hby d3_9) ?_
      show Steps p.tables e below (s₁.setTop (mkF m 10 #[.val (.int vv)] [(.int (1 : Int32)), (.int vv)])) _
      refine XS.icmpYes X0.here hx rfl (pc0 := 10) (pc' := 17) rfl (hb hby d3_10) rfl (feq c1).2 (by decide) (by decide) ?_
      show Steps p.tables e below (s₁.setTop (mkF m 17 #[.val (.int vv)] [])) _
      refine XS.iloadN X0.here hx rfl (hb hby d3_17) rfl ?_
      show Steps p.tables e below (s₁.setTop (mkF m 18 #[.val (.int vv)] [(.int vv)])) _
      refine XS.iconst X0.here hx rfl (hb hby d3_18) ?_
      show Steps p.tables e below (s₁.setTop (mkF m 19 #[.val (.int vv)] [(.int (2 : Int32)), (.int vv)])) _
      refine XS.icmpYes X0.here hx rfl (pc0 := 19) (pc' := 26) rfl (hb hby d3_19) rfl (feq c2).2 (by decide) (by decide) ?_
      show Steps p.tables e below (s₁.setTop (mkF m 26 #[.val (.int vv)] [])) _
      refine XS.iloadN X0.here hx rfl (hb hby d3_26) rfl ?_
      show Steps p.tables e below (s₁.setTop (mkF m 27 #[.val (.int vv)] [(.int vv)])) _
      refine XS.iconst X0.here hx rfl (hb hby d3_27) ?_
      show Steps p.tables e below (s₁.setTop (mkF m 28 #[.val (.int vv)] [(.int (3 : Int32)), (.int vv)])) _
      refine XS.icmpNo X0.here hx rfl (hb hby d3_28) rfl (teq c3).2 ?_
      show Steps p.tables e below (s₁.setTop (mkF m 31 #[.val (.int vv)] [])) _
      exact k
    obtain ⟨T2, X2, e2, st2⟩ := getS (host := "") X0 hx hZ hown (hw _ (List.mem_of_getElem? (i := 14) rfl)) Via.refl e0 (show Sta Z h0 "com/example/itinera/itinera/expr/SequenceType$Occurrence" "ONE_OR_MORE" "Lcom/example/itinera/itinera/expr/SequenceType$Occurrence;" (.ref (A 3)) from hS 3 (by decide)) (g := (mkF m 31 #[.val (.int vv)] [])) rfl (hb hby d3_31)
    have hv : own_ix vv = 3 := by simp [own_ix, c0, c1, c2, c3]
    obtain ⟨fs, hr, hrun, hended, hW, hsame⟩ := X2.leave (v := some (.ref (A 3))) (fun h => by rw [hret] at h; cases h)
    refine ⟨_, _, pre0 _ ?_, hrun, hended, _, _, rfl, ?_, ⟨_, rfl⟩, hW, hsame.mono (by decide) (by decide)⟩
    · refine sg1 _ ?_
      refine st2 _ ?_
      show Steps p.tables e below (T2.setTop (mkF m 34 #[.val (.int vv)] [(.ref (A 3))])) _
      exact retOut X2 hx (t := .object "com/example/itinera/itinera/expr/SequenceType$Occurrence") hret rfl (Or.inr (Or.inr (Or.inr (Or.inr ⟨rfl, rfl, rfl⟩)))) (hb hby d3_34) hr
    · exact ⟨by rw [hv], N0, e2⟩
  have sg1 : ∀ t, Steps p.tables e below (s₁.setTop (mkF m 35 #[.val (.int vv)] [])) t → Steps p.tables e below (s₁.setTop (mkF m 0 #[.val (.int vv)] [])) t := by
    intro t k
    show Steps p.tables e below (s₁.setTop (mkF m 0 #[.val (.int vv)] [])) _
    refine XS.iloadN X0.here hx rfl (hb hby d3_0) rfl ?_
    show Steps p.tables e below (s₁.setTop (mkF m 1 #[.val (.int vv)] [(.int vv)])) _
    refine XS.ifYes X0.here hx rfl (pc0 := 1) (pc' := 8) rfl (hb hby d3_1) rfl ((if0 _ _).trans (feq c0).2) (by decide) (by decide) ?_
    show Steps p.tables e below (s₁.setTop (mkF m 8 #[.val (.int vv)] [])) _
    refine XS.iloadN X0.here hx rfl (hb hby d3_8) rfl ?_
    show Steps p.tables e below (s₁.setTop (mkF m 9 #[.val (.int vv)] [(.int vv)])) _
    refine XS.iconst X0.here hx rfl (hb hby d3_9) ?_
    show Steps p.tables e below (s₁.setTop (mkF m 10 #[.val (.int vv)] [(.int (1 : Int32)), (.int vv)])) _
    refine XS.icmpYes X0.here hx rfl (pc0 := 10) (pc' := 17) rfl (hb hby d3_10) rfl (feq c1).2 (by decide) (by decide) ?_
    show Steps p.tables e below (s₁.setTop (mkF m 17 #[.val (.int vv)] [])) _
    refine XS.iloadN X0.here hx rfl (hb hby d3_17) rfl ?_
    show Steps p.tables e below (s₁.setTop (mkF m 18 #[.val (.int vv)] [(.int vv)])) _
    refine XS.iconst X0.here hx rfl (hb hby d3_18) ?_
    show Steps p.tables e below (s₁.setTop (mkF m 19 #[.val (.int vv)] [(.int (2 : Int32)), (.int vv)])) _
    refine XS.icmpYes X0.here hx rfl (pc0 := 19) (pc' := 26) rfl (hb hby d3_19) rfl (feq c2).2 (by decide) (by decide) ?_
    show Steps p.tables e below (s₁.setTop (mkF m 26 #[.val (.int vv)] [])) _
    refine XS.iloadN X0.here hx rfl (hb hby d3_26) rfl ?_
    show Steps p.tables e below (s₁.setTop (mkF m 27 #[.val (.int vv)] [(.int vv)])) _
    refine XS.iconst X0.here hx rfl (hb hby d3_27) ?_
    show Steps p.tables e below (s₁.setTop (mkF m 28 #[.val (.int vv)] [(.int (3 : Int32)), (.int vv)])) _
    refine XS.icmpYes X0.here hx rfl (pc0 := 28) (pc' := 35) rfl (hb hby d3_28) rfl (feq c3).2 (by decide) (by decide) ?_
    show Steps p.tables e below (s₁.setTop (mkF m 35 #[.val (.int vv)] [])) _
    exact k
  obtain ⟨T2, X2, e2, st2⟩ := getS (host := "") X0 hx hZ hown (hw _ (List.mem_of_getElem? (i := 25) rfl)) Via.refl e0 (show Sta Z h0 "com/example/itinera/itinera/expr/SequenceType$Occurrence" "NONE" "Lcom/example/itinera/itinera/expr/SequenceType$Occurrence;" (.ref (A 4)) from hS 4 (by decide)) (g := (mkF m 35 #[.val (.int vv)] [])) rfl (hb hby d3_35)
  have hv : own_ix vv = 4 := by simp [own_ix, c0, c1, c2, c3]
  obtain ⟨fs, hr, hrun, hended, hW, hsame⟩ := X2.leave (v := some (.ref (A 4))) (fun h => by rw [hret] at h; cases h)
  refine ⟨_, _, pre0 _ ?_, hrun, hended, _, _, rfl, ?_, ⟨_, rfl⟩, hW, hsame.mono (by decide) (by decide)⟩
  · refine sg1 _ ?_
    refine st2 _ ?_
    show Steps p.tables e below (T2.setTop (mkF m 38 #[.val (.int vv)] [(.ref (A 4))])) _
    exact retOut X2 hx (t := .object "com/example/itinera/itinera/expr/SequenceType$Occurrence") hret rfl (Or.inr (Or.inr (Or.inr (Or.inr ⟨rfl, rfl, rfl⟩)))) (hb hby d3_38) hr
  · exact ⟨by rw [hv], N0, e2⟩
def own_min : Nat → Int64 := fun k => ([1, 0, 0, 1, 0] : List Int64).getD k 0
def own_max : Nat → Int64 := fun k => ([1, 1, 9223372036854775807, 9223372036854775807, 0] : List Int64).getD k 0
theorem d4_0 : decode prog_182_method_7_code 0 = .ok (.aload_n 0, 1) := by decide +kernel
theorem d4_1 : decode prog_182_method_7_code 1 = .ok (.getfield 42, 3) := by decide +kernel
theorem d4_4 : decode prog_182_method_7_code 4 = .ok (.aload_n 1, 1) := by decide +kernel
theorem d4_5 : decode prog_182_method_7_code 5 = .ok (.getfield 42, 3) := by decide +kernel
theorem d4_8 : decode prog_182_method_7_code 8 = .ok (.lcmp, 1) := by decide +kernel
theorem d4_9 : decode prog_182_method_7_code 9 = .ok (.ifCond .lt 19, 3) := by decide +kernel
theorem d4_12 : decode prog_182_method_7_code 12 = .ok (.aload_n 0, 1) := by decide +kernel
theorem d4_13 : decode prog_182_method_7_code 13 = .ok (.getfield 46, 3) := by decide +kernel
theorem d4_16 : decode prog_182_method_7_code 16 = .ok (.aload_n 1, 1) := by decide +kernel
theorem d4_17 : decode prog_182_method_7_code 17 = .ok (.getfield 46, 3) := by decide +kernel
theorem d4_20 : decode prog_182_method_7_code 20 = .ok (.lcmp, 1) := by decide +kernel
theorem d4_21 : decode prog_182_method_7_code 21 = .ok (.ifCond .gt 7, 3) := by decide +kernel
theorem d4_24 : decode prog_182_method_7_code 24 = .ok (.iconst 1, 1) := by decide +kernel
theorem d4_25 : decode prog_182_method_7_code 25 = .ok (.goto 4, 3) := by decide +kernel
theorem d4_28 : decode prog_182_method_7_code 28 = .ok (.iconst 0, 1) := by decide +kernel
theorem d4_29 : decode prog_182_method_7_code 29 = .ok (.ireturn, 1) := by decide +kernel
theorem pn_4 : plainName "com/example/itinera/itinera/expr/SequenceType$Occurrence" = true := by first | (simp [plainName, overriddenIn]; done) | decide +kernel
theorem ef_4 (m : MethodId) (x0 : Addr) (x1 : Addr) : entryFrame m #[(.ref x0), (.ref x1)] 2 = (mkF m 0 #[.val (.ref x0), .val (.ref x1)] []) := by first | (simp [entryFrame, mkF, argsToLocals, Value.category]; done) | rfl
theorem pd_4 : parseMethodDescriptor "(Lcom/example/itinera/itinera/expr/SequenceType$Occurrence;)Z" = some ⟨[.object "com/example/itinera/itinera/expr/SequenceType$Occurrence"], some .boolean⟩ := by decide +kernel
def own_win (x1 y1 x2 y2 : Int64) : Int32 := if XT.cmpL x1 x2 < 0 then 0 else if 0 < XT.cmpL y1 y2 then 0 else 1
def Q4 (a1 a2 : Addr) (x1 y1 x2 y2 : Int64) (h0 : Heap) (n0 : Nat) (v : Option Value) (h : Heap) (L : List Loc) : Prop := v = some (.int (own_win x1 y1 x2 y2)) ∧ Fr n0 L ∧ h = h0
set_option maxRecDepth 65536 in
set_option maxHeartbeats 40000000 in
theorem rm4 (l : Launch) (Z : State) (a0 : Array Value) (hw : ∀ d ∈ tables_1, d.before a0 Z = true) (ws : List Jvm.Cond) (a1 a2 : Addr) (x1 y1 x2 y2 : Int64) (h0 : Heap) (n0 : Nat) (Z0 : n0 ≤ h0.size) (F1 : Fld Z h0 a1 "com/example/itinera/itinera/expr/SequenceType$Occurrence" "min" "J" (.long x1)) (G1 : Fld Z h0 a1 "com/example/itinera/itinera/expr/SequenceType$Occurrence" "max" "J" (.long y1)) (F2 : Fld Z h0 a2 "com/example/itinera/itinera/expr/SequenceType$Occurrence" "min" "J" (.long x2)) (G2 : Fld Z h0 a2 "com/example/itinera/itinera/expr/SequenceType$Occurrence" "max" "J" (.long y2)) :
    MetFree l (⟨"com/example/itinera/itinera/expr/SequenceType$Occurrence", "isWithin", "(Lcom/example/itinera/itinera/expr/SequenceType$Occurrence;)Z"⟩ : MethodName) (head1 (Jvm.Cond.code (⟨"com/example/itinera/itinera/expr/SequenceType$Occurrence", "isWithin", "(Lcom/example/itinera/itinera/expr/SequenceType$Occurrence;)Z"⟩ : MethodName) prog_182_method_7_code 2 (some .boolean) :: ws) ({ frames := 0, cells := 0, slots := 0, locals := 0 } : Room)) (fun a U => a = #[(.ref a1), (.ref a2)] ∧ Z.Warmed39 U.vm ∧ U.heap = h0) (fun _ _ _ _ _ => True) (fun _ U o U' => ∃ v L, o = .returned v ∧ Q4 a1 a2 x1 y1 x2 y2 h0 n0 v U'.heap L ∧ FrameEnd U o U' L ({ frames := 0, cells := 0, slots := 0, locals := 0 } : Room).cells ({ frames := 0, cells := 0, slots := 0, locals := 0 } : Room).slots) := by
  refine MetFree.of_bodySF (plainFor_of_name pn_4) hisR ?_
  intro p e s m args below meth c s₁ Bd hml0 hP hK
  obtain ⟨rfl, hZ, hh⟩ := hP
  have hx := Bd.exec
  have hby := Bd.bytes
  have hret := Bd.returns
  have hml : c.maxLocals = 2 := hml0
  have hown : s.vm.findClass "com/example/itinera/itinera/expr/SequenceType$Occurrence" = some m.cls := findClass_of_methodNamed Bd.named
  have X0 : Stand p l e ({ frames := 0, cells := 0, slots := 0, locals := 0 } : Room) s m #[(.ref a1), (.ref a2)] below meth c s₁ [] 0 0 := Stand.of_body Bd
  have e0 : s₁.heap = h0 := by rw [← hh, Bd.state]; rfl
  have N0 := Fr.nil n0
  have pre0 : ∀ t, Steps p.tables e below (s₁.setTop (mkF m 0 #[.val (.ref a1), .val (.ref a2)] [])) t → Steps p.tables e below (s₁.setTop (entryFrame m #[(.ref a1), (.ref a2)] 2)) t := fun t k => castTop (ef_4 m a1 a2) k
  have sg1 : ∀ t, Steps p.tables e below (s₁.setTop (mkF m 1 #[.val (.ref a1), .val (.ref a2)] [(.ref a1)])) t → Steps p.tables e below (s₁.setTop (mkF m 0 #[.val (.ref a1), .val (.ref a2)] [])) t := by
    intro t k
    show Steps p.tables e below (s₁.setTop (mkF m 0 #[.val (.ref a1), .val (.ref a2)] [])) _
    refine XS.aloadN X0.here hx rfl (hb hby d4_0) rfl rfl ?_
    show Steps p.tables e below (s₁.setTop (mkF m 1 #[.val (.ref a1), .val (.ref a2)] [(.ref a1)])) _
    exact k
  obtain ⟨T2, X2, e2, st2⟩ := getF X0 hx hZ hown (host := "") (Or.inl (hw _ (List.mem_of_getElem? (i := 21) rfl))) Via.refl e0 F1 (g := (mkF m 1 #[.val (.ref a1), .val (.ref a2)] [(.ref a1)])) rfl rfl (hb hby d4_1)
  have sg3 : ∀ t, Steps p.tables e below (T2.setTop (mkF m 5 #[.val (.ref a1), .val (.ref a2)] [(.ref a2), (.long x1)])) t → Steps p.tables e below (T2.setTop (mkF m 4 #[.val (.ref a1), .val (.ref a2)] [(.long x1)])) t := by
    intro t k
    show Steps p.tables e below (T2.setTop (mkF m 4 #[.val (.ref a1), .val (.ref a2)] [(.long x1)])) _
    refine XS.aloadN X2.here hx rfl (hb hby d4_4) rfl rfl ?_
    show Steps p.tables e below (T2.setTop (mkF m 5 #[.val (.ref a1), .val (.ref a2)] [(.ref a2), (.long x1)])) _
    exact k
  obtain ⟨T4, X4, e4, st4⟩ := getF X2 hx hZ hown (host := "") (Or.inl (hw _ (List.mem_of_getElem? (i := 21) rfl))) Via.refl e2 F2 (g := (mkF m 5 #[.val (.ref a1), .val (.ref a2)] [(.ref a2), (.long x1)])) rfl rfl (hb hby d4_5)
  have sg5 : ∀ t, Steps p.tables e below (T4.setTop (mkF m 9 #[.val (.ref a1), .val (.ref a2)] [(.int (XT.cmpL x1 x2))])) t → Steps p.tables e below (T4.setTop (mkF m 8 #[.val (.ref a1), .val (.ref a2)] [(.long x2), (.long x1)])) t := by
    intro t k
    show Steps p.tables e below (T4.setTop (mkF m 8 #[.val (.ref a1), .val (.ref a2)] [(.long x2), (.long x1)])) _
    refine XT.lcmp X4.here hx rfl (hb hby d4_8) rfl ?_
    show Steps p.tables e below (T4.setTop (mkF m 9 #[.val (.ref a1), .val (.ref a2)] [(.int (XT.cmpL x1 x2))])) _
    exact k
  by_cases q1 : XT.cmpL x1 x2 < 0
  · skip
    have sg6 : ∀ t, Steps p.tables e below (T4.setTop (mkF m 29 #[.val (.ref a1), .val (.ref a2)] [(.int (0 : Int32))])) t → Steps p.tables e below (T4.setTop (mkF m 9 #[.val (.ref a1), .val (.ref a2)] [(.int (XT.cmpL x1 x2))])) t := by
      intro t k
      show Steps p.tables e below (T4.setTop (mkF m 9 #[.val (.ref a1), .val (.ref a2)] [(.int (XT.cmpL x1 x2))])) _
      refine XS.ifYes X4.here hx rfl (pc0 := 9) (pc' := 28) rfl (hb hby d4_9) rfl ((if0 _ _).trans (tlt q1).1) (by decide) (by decide) ?_
      show Steps p.tables e below (T4.setTop (mkF m 28 #[.val (.ref a1), .val (.ref a2)] [])) _
      refine XS.iconst X4.here hx rfl (hb hby d4_28) ?_
      show Steps p.tables e below (T4.setTop (mkF m 29 #[.val (.ref a1), .val (.ref a2)] [(.int (0 : Int32))])) _
      exact k
    have hv : own_win x1 y1 x2 y2 = 0 := by simp [own_win, q1]
    obtain ⟨fs, hr, hrun, hended, hW, hsame⟩ := X4.leave (v := some (.int (own_win x1 y1 x2 y2))) (fun h => by rw [hret] at h; cases h)
    refine ⟨_, _, pre0 _ ?_, hrun, hended, _, _, rfl, ?_, ⟨_, rfl⟩, hW, hsame.mono (by decide) (by decide)⟩
    · refine sg1 _ ?_
      refine st2 _ ?_
      refine sg3 _ ?_
      refine st4 _ ?_
      refine sg5 _ ?_
      refine sg6 _ ?_
      show Steps p.tables e below (T4.setTop (mkF m 29 #[.val (.ref a1), .val (.ref a2)] [(.int (0 : Int32))])) _
      exact retN X4 hx (t := .boolean) hret (by simp) (hb hby d4_29) (by rw [hv] at hr; exact hr)
    · exact ⟨rfl, N0, e4⟩
  have sg6 : ∀ t, Steps p.tables e below (T4.setTop (mkF m 13 #[.val (.ref a1), .val (.ref a2)] [(.ref a1)])) t → Steps p.tables e below (T4.setTop (mkF m 9 #[.val (.ref a1), .val (.ref a2)] [(.int (XT.cmpL x1 x2))])) t := by
    intro t k
    show Steps p.tables e below (T4.setTop (mkF m 9 #[.val (.ref a1), .val (.ref a2)] [(.int (XT.cmpL x1 x2))])) _
    refine XS.ifNo X4.here hx rfl (hb hby d4_9) rfl ((if0 _ _).trans (flt q1).1) ?_
    show Steps p.tables e below (T4.setTop (mkF m 12 #[.val (.ref a1), .val (.ref a2)] [])) _
    refine XS.aloadN X4.here hx rfl (hb hby d4_12) rfl rfl ?_
    show Steps p.tables e below (T4.setTop (mkF m 13 #[.val (.ref a1), .val (.ref a2)] [(.ref a1)])) _
    exact k
  obtain ⟨T7, X7, e7, st7⟩ := getF X4 hx hZ hown (host := "") (Or.inl (hw _ (List.mem_of_getElem? (i := 23) rfl))) Via.refl e4 G1 (g := (mkF m 13 #[.val (.ref a1), .val (.ref a2)] [(.ref a1)])) rfl rfl (hb hby d4_13)
  have sg8 : ∀ t, Steps p.tables e below (T7.setTop (mkF m 17 #[.val (.ref a1), .val (.ref a2)] [(.ref a2), (.long y1)])) t → Steps p.tables e below (T7.setTop (mkF m 16 #[.val (.ref a1), .val (.ref a2)] [(.long y1)])) t := by
    intro t k
    show Steps p.tables e below (T7.setTop (mkF m 16 #[.val (.ref a1), .val (.ref a2)] [(.long y1)])) _
    refine XS.aloadN X7.here hx rfl (hb hby d4_16) rfl rfl ?_
    show Steps p.tables e below (T7.setTop (mkF m 17 #[.val (.ref a1), .val (.ref a2)] [(.ref a2), (.long y1)])) _
    exact k
  obtain ⟨T9, X9, e9, st9⟩ := getF X7 hx hZ hown (host := "") (Or.inl (hw _ (List.mem_of_getElem? (i := 23) rfl))) Via.refl e7 G2 (g := (mkF m 17 #[.val (.ref a1), .val (.ref a2)] [(.ref a2), (.long y1)])) rfl rfl (hb hby d4_17)
  have sg10 : ∀ t, Steps p.tables e below (T9.setTop (mkF m 21 #[.val (.ref a1), .val (.ref a2)] [(.int (XT.cmpL y1 y2))])) t → Steps p.tables e below (T9.setTop (mkF m 20 #[.val (.ref a1), .val (.ref a2)] [(.long y2), (.long y1)])) t := by
    intro t k
    show Steps p.tables e below (T9.setTop (mkF m 20 #[.val (.ref a1), .val (.ref a2)] [(.long y2), (.long y1)])) _
    refine XT.lcmp X9.here hx rfl (hb hby d4_20) rfl ?_
    show Steps p.tables e below (T9.setTop (mkF m 21 #[.val (.ref a1), .val (.ref a2)] [(.int (XT.cmpL y1 y2))])) _
    exact k
  by_cases q2 : 0 < XT.cmpL y1 y2
  · skip
    have sg11 : ∀ t, Steps p.tables e below (T9.setTop (mkF m 29 #[.val (.ref a1), .val (.ref a2)] [(.int (0 : Int32))])) t → Steps p.tables e below (T9.setTop (mkF m 21 #[.val (.ref a1), .val (.ref a2)] [(.int (XT.cmpL y1 y2))])) t := by
      intro t k
      show Steps p.tables e below (T9.setTop (mkF m 21 #[.val (.ref a1), .val (.ref a2)] [(.int (XT.cmpL y1 y2))])) _
      refine XS.ifYes X9.here hx rfl (pc0 := 21) (pc' := 28) rfl (hb hby d4_21) rfl ((if0 _ _).trans (tlt q2).2.2.1) (by decide) (by decide) ?_
      show Steps p.tables e below (T9.setTop (mkF m 28 #[.val (.ref a1), .val (.ref a2)] [])) _
      refine XS.iconst X9.here hx rfl (hb hby d4_28) ?_
      show Steps p.tables e below (T9.setTop (mkF m 29 #[.val (.ref a1), .val (.ref a2)] [(.int (0 : Int32))])) _
      exact k
    have hv : own_win x1 y1 x2 y2 = 0 := by simp [own_win, q1, q2]
    obtain ⟨fs, hr, hrun, hended, hW, hsame⟩ := X9.leave (v := some (.int (own_win x1 y1 x2 y2))) (fun h => by rw [hret] at h; cases h)
    refine ⟨_, _, pre0 _ ?_, hrun, hended, _, _, rfl, ?_, ⟨_, rfl⟩, hW, hsame.mono (by decide) (by decide)⟩
    · refine sg1 _ ?_
      refine st2 _ ?_
      refine sg3 _ ?_
      refine st4 _ ?_
      refine sg5 _ ?_
      refine sg6 _ ?_
      refine st7 _ ?_
      refine sg8 _ ?_
      refine st9 _ ?_
      refine sg10 _ ?_
      refine sg11 _ ?_
      show Steps p.tables e below (T9.setTop (mkF m 29 #[.val (.ref a1), .val (.ref a2)] [(.int (0 : Int32))])) _
      exact retN X9 hx (t := .boolean) hret (by simp) (hb hby d4_29) (by rw [hv] at hr; exact hr)
    · exact ⟨rfl, N0, e9⟩
  have sg11 : ∀ t, Steps p.tables e below (T9.setTop (mkF m 29 #[.val (.ref a1), .val (.ref a2)] [(.int (1 : Int32))])) t → Steps p.tables e below (T9.setTop (mkF m 21 #[.val (.ref a1), .val (.ref a2)] [(.int (XT.cmpL y1 y2))])) t := by
    intro t k
    show Steps p.tables e below (T9.setTop (mkF m 21 #[.val (.ref a1), .val (.ref a2)] [(.int (XT.cmpL y1 y2))])) _
    refine XS.ifNo X9.here hx rfl (hb hby d4_21) rfl ((if0 _ _).trans (flt q2).2.2.1) ?_
    show Steps p.tables e below (T9.setTop (mkF m 24 #[.val (.ref a1), .val (.ref a2)] [])) _
    refine XS.iconst X9.here hx rfl (hb hby d4_24) ?_
    show Steps p.tables e below (T9.setTop (mkF m 25 #[.val (.ref a1), .val (.ref a2)] [(.int (1 : Int32))])) _
    refine XS.goto X9.here hx rfl (pc0 := 25) (pc' := 29) rfl (hb hby d4_25) (by decide) (by decide) ?_
    show Steps p.tables e below (T9.setTop (mkF m 29 #[.val (.ref a1), .val (.ref a2)] [(.int (1 : Int32))])) _
    exact k
  have hv : own_win x1 y1 x2 y2 = 1 := by simp [own_win, q1, q2]
  obtain ⟨fs, hr, hrun, hended, hW, hsame⟩ := X9.leave (v := some (.int (own_win x1 y1 x2 y2))) (fun h => by rw [hret] at h; cases h)
  refine ⟨_, _, pre0 _ ?_, hrun, hended, _, _, rfl, ?_, ⟨_, rfl⟩, hW, hsame.mono (by decide) (by decide)⟩
  · refine sg1 _ ?_
    refine st2 _ ?_
    refine sg3 _ ?_
    refine st4 _ ?_
    refine sg5 _ ?_
    refine sg6 _ ?_
    refine st7 _ ?_
    refine sg8 _ ?_
    refine st9 _ ?_
    refine sg10 _ ?_
    refine sg11 _ ?_
    show Steps p.tables e below (T9.setTop (mkF m 29 #[.val (.ref a1), .val (.ref a2)] [(.int (1 : Int32))])) _
    exact retN X9 hx (t := .boolean) hret (by simp) (hb hby d4_29) (by rw [hv] at hr; exact hr)
  · exact ⟨rfl, N0, e9⟩
def own_exp (i j : Int32) : Int32 := if own_imp i j 0 = 0 then 0 else if own_imp i j 1 = 0 then 0 else if own_imp i j 2 = 0 then 0 else 1
def own_got (i j : Int32) : Int32 := own_win (own_min (own_ix i)) (own_max (own_ix i)) (own_min (own_ix j)) (own_max (own_ix j))
theorem own_small : ∀ i j : Fin 5, own_got (Int32.ofNat i.val) (Int32.ofNat j.val) = own_exp (Int32.ofNat i.val) (Int32.ofNat j.val) := by decide +kernel
theorem own_ofNat (v : Int32) (h : 0 ≤ v.toInt) : Int32.ofNat v.toInt.toNat = v := by
  apply Int32.toInt_inj.mp
  rw [Int32.toInt_ofNat_of_lt (by have := v.toInt_lt; omega)]
  omega
theorem own_law (i j : Int32) (hi : 0 ≤ i.toInt ∧ i.toInt < 5) (hj : 0 ≤ j.toInt ∧ j.toInt < 5) : own_got i j = own_exp i j := by
  have := own_small ⟨i.toInt.toNat, by omega⟩ ⟨j.toInt.toNat, by omega⟩
  simpa only [own_ofNat i hi.1, own_ofNat j hj.1] using this
/-- (v & MAX) % d lies in 0 .. d - 1 -/
theorem own_rem (v y : Int32) (d : Int) (hy : y.toInt = d) (hd : 1 < d) : (v &&& (2147483647 : Int32)) - ((v &&& (2147483647 : Int32)) / y) * y = (v &&& (2147483647 : Int32)) - ((v &&& (2147483647 : Int32)) / y) * y ∧ 0 ≤ ((v &&& (2147483647 : Int32)) - ((v &&& (2147483647 : Int32)) / y) * y).toInt ∧ ((v &&& (2147483647 : Int32)) - ((v &&& (2147483647 : Int32)) / y) * y).toInt < d := by
  refine ⟨rfl, ?_⟩
  have h0 := (c_andS v 2147483647).2.2 (by decide)
  generalize (v &&& (2147483647 : Int32)) = x at *
  have h1 := (c_idiv x y d hy (fun q => by rw [q] at hy; have : (-1 : Int32).toInt = -1 := by decide
                                           omega)).1 h0
  have h2 := c_imul (x / y) y
  have h3 := c_isub x ((x / y) * y)
  rw [h1, hy] at h2
  have h4 := rng32 x
  have h5 := rng32 ((x / y) * y)
  have h6 := rng32 (x - (x / y) * y)
  have h7 : x.toInt / d * d = x.toInt - x.toInt % d := by have := Int.mul_ediv_add_emod x.toInt d; rw [Int.mul_comm] at this; omega
  have h8 := Int.emod_nonneg x.toInt (show d ≠ 0 by omega)
  have h9 := Int.emod_lt_of_pos x.toInt (show 0 < d by omega)
  have hA : 0 ≤ x.toInt / d * d := Int.mul_nonneg (Int.ediv_nonneg h0 (by omega)) (by omega)
  generalize x.toInt / d * d = B at *
  omega
theorem pn_0 : plainName "com/example/itinera/itinera/expr/OccurrenceIsWithinPinLaw" = true := by first | (simp [plainName, overriddenIn]; done) | decide +kernel
theorem ef_0 (m : MethodId) (x0 : Int32) (x1 : Int32) : entryFrame m #[(.int x0), (.int x1)] maxLocals = (mkF m 0 #[.val (.int x0), .val (.int x1), .unset, .unset, .unset] []) := by first | (simp [entryFrame, mkF, argsToLocals, Value.category, maxLocals]; done) | rfl
def Q0 (n0 : Nat) (v : Option Value) (L : List Loc) : Prop := v = some (.int (1 : Int32)) ∧ Fr n0 L
set_option maxRecDepth 65536 in
set_option maxHeartbeats 40000000 in
theorem tail46 {p : Program} {l : Launch} {e : Env} {s : State} {m : MethodId} {args : Array Value} {below : List Frame} {meth : Method} {c : Code} {T : State} {locs : List Loc} {Z : State} {a0 : Array Value} (X0 : Stand p l e room_1 s m args below meth c T locs 0 0) (hx : p.tables.exec = Jvm.exec) (hby : c.code = code) (hret : meth.sig.returnType = some .boolean) (hlk : meth.locks = false) (hml : c.maxLocals = 5) (hZ : Z.Warmed39 s.vm) (hown : s.vm.findClass "com/example/itinera/itinera/expr/OccurrenceIsWithinPinLaw" = some m.cls) (hw : ∀ d ∈ tables_1, d.before a0 Z = true) {h0 : Heap} {n0 : Nat} (e0 : T.heap = h0) (N0 : Fr n0 locs) (Z0 : n0 ≤ h0.size) (v0 v1 i1 j1 ee : Int32) (hq : own_got i1 j1 = ee) {A : Nat → Addr} (hS : ∀ k, k < 5 → Sta Z h0 "com/example/itinera/itinera/expr/SequenceType$Occurrence" (own_nm k) "Lcom/example/itinera/itinera/expr/SequenceType$Occurrence;" (.ref (A k))) (hE : ∀ k, k < 5 → Exa Z h0 (A k) "com/example/itinera/itinera/expr/SequenceType$Occurrence") (hF : ∀ k, k < 5 → Fld Z h0 (A k) "com/example/itinera/itinera/expr/SequenceType$Occurrence" "min" "J" (.long (own_min k))) (hG : ∀ k, k < 5 → Fld Z h0 (A k) "com/example/itinera/itinera/expr/SequenceType$Occurrence" "max" "J" (.long (own_max k))) :
    ∃ s₂ o, Steps p.tables e below (T.setTop (mkF m 46 #[.val (.int v0), .val (.int v1), .val (.int i1), .val (.int j1), .unset] [(.int ee)])) s₂ ∧ s₂.status = .running ∧ Ended s₂ below o ∧ ∃ v L, o = .returned v ∧ Q0 n0 v L ∧ FrameEnd s o s₂ L room_1.cells room_1.slots := by
  have sg1 : ∀ t, Steps p.tables e below (T.setTop (mkF m 49 #[.val (.int v0), .val (.int v1), .val (.int i1), .val (.int j1), .val (.int ee)] [(.int i1)])) t → Steps p.tables e below (T.setTop (mkF m 46 #[.val (.int v0), .val (.int v1), .val (.int i1), .val (.int j1), .unset] [(.int ee)])) t := by
    intro t k
    show Steps p.tables e below (T.setTop (mkF m 46 #[.val (.int v0), .val (.int v1), .val (.int i1), .val (.int j1), .unset] [(.int ee)])) _
    refine XS.istore X0.here hx rfl (hb hby at_46) rfl (l' := #[.val (.int v0), .val (.int v1), .val (.int i1), .val (.int j1), .val (.int ee)]) rfl ?_
    show Steps p.tables e below (T.setTop (mkF m 48 #[.val (.int v0), .val (.int v1), .val (.int i1), .val (.int j1), .val (.int ee)] [])) _
    refine XS.iloadN X0.here hx rfl (hb hby at_48) rfl ?_
    show Steps p.tables e below (T.setTop (mkF m 49 #[.val (.int v0), .val (.int v1), .val (.int i1), .val (.int j1), .val (.int ee)] [(.int i1)])) _
    exact k
  obtain ⟨_, _, ⟨T2, L2, k2, n2⟩, -, X2, ⟨Lc2, hQ2, l2, y2, z2⟩, st2⟩ := Jvm.LawKit.callS X0 hx (y := (⟨"com/example/itinera/itinera/expr/OccurrenceIsWithinPinLaw", "pick", "(I)Lcom/example/itinera/itinera/expr/SequenceType$Occurrence;"⟩ : MethodName)) hown (mvT hZ (hw _ (List.mem_of_getElem? (i := 8) rfl))) (mvT hZ (hw _ (List.mem_of_getElem? (i := 9) rfl))) (mvT hZ (hw _ (List.mem_of_getElem? (i := 3) rfl))) (mvT hZ (hw _ (List.mem_of_getElem? (i := 10) rfl))) (by decide) (backOf (W := 0) (rm3 l Z a0 hw [] A i1 h0 n0 Z0 hS) hZ (hw _ (List.mem_of_getElem? (i := 10) rfl)) (hw _ (List.mem_of_getElem? (i := 3) rfl)) (by decide) (by decide)) (g := (mkF m 49 #[.val (.int v0), .val (.int v1), .val (.int i1), .val (.int j1), .val (.int ee)] [(.int i1)])) rfl (by rw [hml]; rfl) (argsL := [(.int i1)]) (rest := []) (lenOf pd_3 rfl) rfl (by show 2 * 0 + _ ≤ _; exact Nat.le_of_eq rfl) (hb hby at_49) (fun _ _ => ⟨rfl, e0, (by decide : 0 + 0 ≤ _), (by decide : 0 + 0 ≤ _)⟩)
  dsimp only [Pt.U, Pt.locs, Pt.cells, Pt.slots] at X2 l2 y2 z2 st2 hQ2
  subst l2 y2 z2
  obtain ⟨rfl, Nc2, e2⟩ := hQ2
  have N2 := Fr.app N0 Nc2
  have sg3 : ∀ t, Steps p.tables e below (T2.setTop (mkF m 53 #[.val (.int v0), .val (.int v1), .val (.int i1), .val (.int j1), .val (.int ee)] [(.int j1), (.ref (A (own_ix i1)))])) t → Steps p.tables e below (T2.setTop (mkF m 52 #[.val (.int v0), .val (.int v1), .val (.int i1), .val (.int j1), .val (.int ee)] [(.ref (A (own_ix i1)))])) t := by
    intro t k
    show Steps p.tables e below (T2.setTop (mkF m 52 #[.val (.int v0), .val (.int v1), .val (.int i1), .val (.int j1), .val (.int ee)] [(.ref (A (own_ix i1)))])) _
    refine XS.iloadN X2.here hx rfl (hb hby at_52) rfl ?_
    show Steps p.tables e below (T2.setTop (mkF m 53 #[.val (.int v0), .val (.int v1), .val (.int i1), .val (.int j1), .val (.int ee)] [(.int j1), (.ref (A (own_ix i1)))])) _
    exact k
  obtain ⟨_, _, ⟨T4, L4, k4, n4⟩, -, X4, ⟨Lc4, hQ4, l4, y4, z4⟩, st4⟩ := Jvm.LawKit.callS X2 hx (y := (⟨"com/example/itinera/itinera/expr/OccurrenceIsWithinPinLaw", "pick", "(I)Lcom/example/itinera/itinera/expr/SequenceType$Occurrence;"⟩ : MethodName)) hown (mvT hZ (hw _ (List.mem_of_getElem? (i := 8) rfl))) (mvT hZ (hw _ (List.mem_of_getElem? (i := 9) rfl))) (mvT hZ (hw _ (List.mem_of_getElem? (i := 3) rfl))) (mvT hZ (hw _ (List.mem_of_getElem? (i := 10) rfl))) (by decide) (backOf (W := 1) (rm3 l Z a0 hw [] A j1 h0 n0 Z0 hS) hZ (hw _ (List.mem_of_getElem? (i := 10) rfl)) (hw _ (List.mem_of_getElem? (i := 3) rfl)) (by decide) (by decide)) (g := (mkF m 53 #[.val (.int v0), .val (.int v1), .val (.int i1), .val (.int j1), .val (.int ee)] [(.int j1), (.ref (A (own_ix i1)))])) rfl (by rw [hml]; rfl) (argsL := [(.int j1)]) (rest := [(.ref (A (own_ix i1)))]) (lenOf pd_3 rfl) rfl (by show 2 * 0 + _ ≤ _; exact Nat.le_of_eq rfl) (hb hby at_53) (fun _ _ => ⟨rfl, e2, (by decide : 0 + 0 ≤ _), (by decide : 0 + 0 ≤ _)⟩)
  dsimp only [Pt.U, Pt.locs, Pt.cells, Pt.slots] at X4 l4 y4 z4 st4 hQ4
  subst l4 y4 z4
  obtain ⟨rfl, Nc4, e4⟩ := hQ4
  have N4 := Fr.app N2 Nc4
  obtain ⟨cB5, kB5, qa5, -, qc5⟩ := isOf hZ e4 (hE _ (own_ix_lt i1))
  obtain ⟨_, _, ⟨T5, L5, k5, n5⟩, -, X5, ⟨Lc5, hQ5, l5, y5, z5⟩, st5⟩ := X4.virtualBack hx (y := (⟨"com/example/itinera/itinera/expr/SequenceType$Occurrence", "isWithin", "(Lcom/example/itinera/itinera/expr/SequenceType$Occurrence;)Z"⟩ : MethodName)) (z := (⟨"com/example/itinera/itinera/expr/SequenceType$Occurrence", "isWithin", "(Lcom/example/itinera/itinera/expr/SequenceType$Occurrence;)Z"⟩ : MethodName)) hown (mvT hZ (hw _ (List.mem_of_getElem? (i := 16) rfl))) (mvT hZ (hw _ (List.mem_of_getElem? (i := 17) rfl))) (notFace_of_selects (args := #[]) (mvT hZ (hw _ (List.mem_of_getElem? (i := 19) rfl)))) (mvT hZ (hw _ (List.mem_of_getElem? (i := 19) rfl))) (mvT hZ (hw _ (List.mem_of_getElem? (i := 18) rfl))) (by decide) (backOf (W := 0) (rm4 l Z a0 hw [] (A (own_ix i1)) (A (own_ix j1)) (own_min (own_ix i1)) (own_max (own_ix i1)) (own_min (own_ix j1)) (own_max (own_ix j1)) h0 n0 Z0 (hF _ (own_ix_lt i1)) (hG _ (own_ix_lt i1)) (hF _ (own_ix_lt j1)) (hG _ (own_ix_lt j1))) hZ (hw _ (List.mem_of_getElem? (i := 20) rfl)) (hw _ (List.mem_of_getElem? (i := 12) rfl)) (by decide) (by decide)) qa5 qc5 (g := (mkF m 56 #[.val (.int v0), .val (.int v1), .val (.int i1), .val (.int j1), .val (.int ee)] [(.ref (A (own_ix j1))), (.ref (A (own_ix i1)))])) rfl (by rw [hml]; rfl) (Steps.refl _) (argsL := [(.ref (A (own_ix j1)))]) (rest := []) (lenOf pd_4 rfl) rfl (by show 2 * 0 + _ ≤ _; exact Nat.le_of_eq rfl) (hb hby at_56) (fun _ _ => ⟨rfl, e4, (by decide : 0 + 0 ≤ _), (by decide : 0 + 0 ≤ _)⟩)
  dsimp only [Pt.U, Pt.locs, Pt.cells, Pt.slots] at X5 l5 y5 z5 st5 hQ5
  subst l5 y5 z5
  obtain ⟨rfl, Nc5, e5⟩ := hQ5
  have N5 := Fr.app N4 Nc5
  have sg6 : ∀ t, Steps p.tables e below (T5.setTop (mkF m 69 #[.val (.int v0), .val (.int v1), .val (.int i1), .val (.int j1), .val (.int ee)] [(.int (1 : Int32))])) t → Steps p.tables e below (T5.setTop (mkF m 59 #[.val (.int v0), .val (.int v1), .val (.int i1), .val (.int j1), .val (.int ee)] [(.int (own_got i1 j1))])) t := by
    intro t k
    show Steps p.tables e below (T5.setTop (mkF m 59 #[.val (.int v0), .val (.int v1), .val (.int i1), .val (.int j1), .val (.int ee)] [(.int (own_got i1 j1))])) _
    refine XS.iload X5.here hx rfl (hb hby at_59) rfl ?_
    show Steps p.tables e below (T5.setTop (mkF m 61 #[.val (.int v0), .val (.int v1), .val (.int i1), .val (.int j1), .val (.int ee)] [(.int ee), (.int (own_got i1 j1))])) _
    refine XS.icmpNo X5.here hx rfl (hb hby at_61) rfl (teq hq).2 ?_
    show Steps p.tables e below (T5.setTop (mkF m 64 #[.val (.int v0), .val (.int v1), .val (.int i1), .val (.int j1), .val (.int ee)] [])) _
    refine XS.iconst X5.here hx rfl (hb hby at_64) ?_
    show Steps p.tables e below (T5.setTop (mkF m 65 #[.val (.int v0), .val (.int v1), .val (.int i1), .val (.int j1), .val (.int ee)] [(.int (1 : Int32))])) _
    refine XS.goto X5.here hx rfl (pc0 := 65) (pc' := 69) rfl (hb hby at_65) (by decide) (by decide) ?_
    show Steps p.tables e below (T5.setTop (mkF m 69 #[.val (.int v0), .val (.int v1), .val (.int i1), .val (.int j1), .val (.int ee)] [(.int (1 : Int32))])) _
    exact k
  obtain ⟨fs, hr, hrun, hended, hW, hsame⟩ := X5.leave (v := some (.int (1 : Int32))) (fun h => by rw [hret] at h; cases h)
  refine ⟨_, _, ?_, hrun, hended, _, _, rfl, ?_, ⟨_, rfl⟩, hW, hsame.mono (by decide) (by decide)⟩
  · refine sg1 _ ?_
    refine st2 _ ?_
    refine sg3 _ ?_
    refine st4 _ ?_
    refine st5.trans ?_
    refine sg6 _ ?_
    show Steps p.tables e below (T5.setTop (mkF m 69 #[.val (.int v0), .val (.int v1), .val (.int i1), .val (.int j1), .val (.int ee)] [(.int (1 : Int32))])) _
    exact retN X5 hx (t := .boolean) hret (by simp) (hb hby at_69) hr
  · exact ⟨rfl, N5⟩
set_option maxRecDepth 65536 in
set_option maxHeartbeats 40000000 in
theorem rm0 (l : Launch) (Z : State) (a0 : Array Value) (hw : ∀ d ∈ tables_1, d.before a0 Z = true) (ws : List Jvm.Cond) (v0 v1 : Int32) (h0 : Heap) (n0 : Nat) (Z0 : n0 ≤ h0.size) {A : Nat → Addr} (hS : ∀ k, k < 5 → Sta Z h0 "com/example/itinera/itinera/expr/SequenceType$Occurrence" (own_nm k) "Lcom/example/itinera/itinera/expr/SequenceType$Occurrence;" (.ref (A k))) (hE : ∀ k, k < 5 → Exa Z h0 (A k) "com/example/itinera/itinera/expr/SequenceType$Occurrence") (hF : ∀ k, k < 5 → Fld Z h0 (A k) "com/example/itinera/itinera/expr/SequenceType$Occurrence" "min" "J" (.long (own_min k))) (hG : ∀ k, k < 5 → Fld Z h0 (A k) "com/example/itinera/itinera/expr/SequenceType$Occurrence" "max" "J" (.long (own_max k))) :
    MetFree l x (head1 (Jvm.Cond.code x code maxLocals ret :: ws) room_1) (fun a U => a = #[(.int v0), (.int v1)] ∧ Z.Warmed39 U.vm ∧ U.heap = h0) (fun _ _ _ _ _ => True) (fun _ U o U' => ∃ v L, o = .returned v ∧ Q0 n0 v L ∧ FrameEnd U o U' L room_1.cells room_1.slots) := by
  refine MetFree.of_bodySF (plainFor_of_name pn_0) hisR ?_
  intro p e s m args below meth c s₁ Bd hml0 hP hK
  obtain ⟨rfl, hZ, hh⟩ := hP
  have hx := Bd.exec
  have hby := Bd.bytes
  have hlk : meth.locks = false := BodyLoose.notSynchronized Bd
  have hml : c.maxLocals = 5 := hml0
  have hown : s.vm.findClass "com/example/itinera/itinera/expr/OccurrenceIsWithinPinLaw" = some m.cls := findClass_of_methodNamed Bd.named
  have X0 : Stand p l e room_1 s m #[(.int v0), (.int v1)] below meth c s₁ [] 0 0 := Stand.of_body Bd
  have e0 : s₁.heap = h0 := by rw [← hh, Bd.state]; rfl
  have N0 := Fr.nil n0
  have pre0 : ∀ t, Steps p.tables e below (s₁.setTop (mkF m 0 #[.val (.int v0), .val (.int v1), .unset, .unset, .unset] [])) t → Steps p.tables e below (s₁.setTop (entryFrame m #[(.int v0), (.int v1)] maxLocals)) t := fun t k => castTop (ef_0 m v0 v1) k
  have sg1 : ∀ t, Steps p.tables e below (s₁.setTop (mkF m 14 #[.val (.int v0), .val (.int v1), .val (.int ((v0 &&& (2147483647 : Int32)) - ((v0 &&& (2147483647 : Int32)) / (5 : Int32)) * (5 : Int32))), .val (.int ((v1 &&& (2147483647 : Int32)) - ((v1 &&& (2147483647 : Int32)) / (5 : Int32)) * (5 : Int32))), .unset] [])) t → Steps p.tables e below (s₁.setTop (mkF m 0 #[.val (.int v0), .val (.int v1), .unset, .unset, .unset] [])) t := by
    intro t k
    show Steps p.tables e below (s₁.setTop (mkF m 0 #[.val (.int v0), .val (.int v1), .unset, .unset, .unset] [])) _
    refine XS.iloadN X0.here hx rfl (hb hby at_0) rfl ?_
    show Steps p.tables e below (s₁.setTop (mkF m 1 #[.val (.int v0), .val (.int v1), .unset, .unset, .unset] [(.int v0)])) _
    refine X0.ldcI hx hown (mv hZ (hw _ (List.mem_of_getElem? (i := 0) rfl))) rfl (hb hby at_1) ?_
    show Steps p.tables e below (s₁.setTop (mkF m 3 #[.val (.int v0), .val (.int v1), .unset, .unset, .unset] [(.int (2147483647 : Int32)), (.int v0)])) _
    refine XS.iand X0.here hx rfl (hb hby at_3) rfl ?_
    show Steps p.tables e below (s₁.setTop (mkF m 4 #[.val (.int v0), .val (.int v1), .unset, .unset, .unset] [(.int (v0 &&& (2147483647 : Int32)))])) _
    refine XS.iconst X0.here hx rfl (hb hby at_4) ?_
    show Steps p.tables e below (s₁.setTop (mkF m 5 #[.val (.int v0), .val (.int v1), .unset, .unset, .unset] [(.int (5 : Int32)), (.int (v0 &&& (2147483647 : Int32)))])) _
    refine XS.irem X0.here hx rfl (hb hby at_5) rfl (by decide) ?_
    show Steps p.tables e below (s₁.setTop (mkF m 6 #[.val (.int v0), .val (.int v1), .unset, .unset, .unset] [(.int ((v0 &&& (2147483647 : Int32)) - ((v0 &&& (2147483647 : Int32)) / (5 : Int32)) * (5 : Int32)))])) _
    refine XS.istoreN X0.here hx rfl (hb hby at_6) rfl (l' := #[.val (.int v0), .val (.int v1), .val (.int ((v0 &&& (2147483647 : Int32)) - ((v0 &&& (2147483647 : Int32)) / (5 : Int32)) * (5 : Int32))), .unset, .unset]) rfl ?_
    show Steps p.tables e below (s₁.setTop (mkF m 7 #[.val (.int v0), .val (.int v1), .val (.int ((v0 &&& (2147483647 : Int32)) - ((v0 &&& (2147483647 : Int32)) / (5 : Int32)) * (5 : Int32))), .unset, .unset] [])) _
    refine XS.iloadN X0.here hx rfl (hb hby at_7) rfl ?_
    show Steps p.tables e below (s₁.setTop (mkF m 8 #[.val (.int v0), .val (.int v1), .val (.int ((v0 &&& (2147483647 : Int32)) - ((v0 &&& (2147483647 : Int32)) / (5 : Int32)) * (5 : Int32))), .unset, .unset] [(.int v1)])) _
    refine X0.ldcI hx hown (mv hZ (hw _ (List.mem_of_getElem? (i := 0) rfl))) rfl (hb hby at_8) ?_
    show Steps p.tables e below (s₁.setTop (mkF m 10 #[.val (.int v0), .val (.int v1), .val (.int ((v0 &&& (2147483647 : Int32)) - ((v0 &&& (2147483647 : Int32)) / (5 : Int32)) * (5 : Int32))), .unset, .unset] [(.int (2147483647 : Int32)), (.int v1)])) _
    refine XS.iand X0.here hx rfl (hb hby at_10) rfl ?_
    show Steps p.tables e below (s₁.setTop (mkF m 11 #[.val (.int v0), .val (.int v1), .val (.int ((v0 &&& (2147483647 : Int32)) - ((v0 &&& (2147483647 : Int32)) / (5 : Int32)) * (5 : Int32))), .unset, .unset] [(.int (v1 &&& (2147483647 : Int32)))])) _
    refine XS.iconst X0.here hx rfl (hb hby at_11) ?_
    show Steps p.tables e below (s₁.setTop (mkF m 12 #[.val (.int v0), .val (.int v1), .val (.int ((v0 &&& (2147483647 : Int32)) - ((v0 &&& (2147483647 : Int32)) / (5 : Int32)) * (5 : Int32))), .unset, .unset] [(.int (5 : Int32)), (.int (v1 &&& (2147483647 : Int32)))])) _
    refine XS.irem X0.here hx rfl (hb hby at_12) rfl (by decide) ?_
    show Steps p.tables e below (s₁.setTop (mkF m 13 #[.val (.int v0), .val (.int v1), .val (.int ((v0 &&& (2147483647 : Int32)) - ((v0 &&& (2147483647 : Int32)) / (5 : Int32)) * (5 : Int32))), .unset, .unset] [(.int ((v1 &&& (2147483647 : Int32)) - ((v1 &&& (2147483647 : Int32)) / (5 : Int32)) * (5 : Int32)))])) _
    refine XS.istoreN X0.here hx rfl (hb hby at_13) rfl (l' := #[.val (.int v0), .val (.int v1), .val (.int ((v0 &&& (2147483647 : Int32)) - ((v0 &&& (2147483647 : Int32)) / (5 : Int32)) * (5 : Int32))), .val (.int ((v1 &&& (2147483647 : Int32)) - ((v1 &&& (2147483647 : Int32)) / (5 : Int32)) * (5 : Int32))), .unset]) rfl ?_
    show Steps p.tables e below (s₁.setTop (mkF m 14 #[.val (.int v0), .val (.int v1), .val (.int ((v0 &&& (2147483647 : Int32)) - ((v0 &&& (2147483647 : Int32)) / (5 : Int32)) * (5 : Int32))), .val (.int ((v1 &&& (2147483647 : Int32)) - ((v1 &&& (2147483647 : Int32)) / (5 : Int32)) * (5 : Int32))), .unset] [])) _
    exact k
  have hi := (own_rem v0 (5 : Int32) 5 (by decide) (by decide)).2
  have hj := (own_rem v1 (5 : Int32) 5 (by decide) (by decide)).2
  generalize ((v0 &&& (2147483647 : Int32)) - ((v0 &&& (2147483647 : Int32)) / (5 : Int32)) * (5 : Int32)) = i1 at *
  generalize ((v1 &&& (2147483647 : Int32)) - ((v1 &&& (2147483647 : Int32)) / (5 : Int32)) * (5 : Int32)) = j1 at *
  have hlaw := own_law i1 j1 hi hj
  have sg2 : ∀ t, Steps p.tables e below (s₁.setTop (mkF m 17 #[.val (.int v0), .val (.int v1), .val (.int i1), .val (.int j1), .unset] [(.int (0 : Int32)), (.int j1), (.int i1)])) t → Steps p.tables e below (s₁.setTop (mkF m 14 #[.val (.int v0), .val (.int v1), .val (.int i1), .val (.int j1), .unset] [])) t := by
    intro t k
    show Steps p.tables e below (s₁.setTop (mkF m 14 #[.val (.int v0), .val (.int v1), .val (.int i1), .val (.int j1), .unset] [])) _
    refine XS.iloadN X0.here hx rfl (hb hby at_14) rfl ?_
    show Steps p.tables e below (s₁.setTop (mkF m 15 #[.val (.int v0), .val (.int v1), .val (.int i1), .val (.int j1), .unset] [(.int i1)])) _
    refine XS.iloadN X0.here hx rfl (hb hby at_15) rfl ?_
    show Steps p.tables e below (s₁.setTop (mkF m 16 #[.val (.int v0), .val (.int v1), .val (.int i1), .val (.int j1), .unset] [(.int j1), (.int i1)])) _
    refine XS.iconst X0.here hx rfl (hb hby at_16) ?_
    show Steps p.tables e below (s₁.setTop (mkF m 17 #[.val (.int v0), .val (.int v1), .val (.int i1), .val (.int j1), .unset] [(.int (0 : Int32)), (.int j1), (.int i1)])) _
    exact k
  obtain ⟨_, _, ⟨T3, L3, k3, n3⟩, -, X3, ⟨Lc3, hQ3, l3, y3, z3⟩, st3⟩ := Jvm.LawKit.callS X0 hx (y := (⟨"com/example/itinera/itinera/expr/OccurrenceIsWithinPinLaw", "implies", "(III)Z"⟩ : MethodName)) hown (mvT hZ (hw _ (List.mem_of_getElem? (i := 1) rfl))) (mvT hZ (hw _ (List.mem_of_getElem? (i := 2) rfl))) (mvT hZ (hw _ (List.mem_of_getElem? (i := 3) rfl))) (mvT hZ (hw _ (List.mem_of_getElem? (i := 4) rfl))) (by decide) (backOf (W := 0) (rm1 l Z a0 hw [] i1 j1 (0 : Int32) h0 n0 Z0) hZ (hw _ (List.mem_of_getElem? (i := 4) rfl)) (hw _ (List.mem_of_getElem? (i := 3) rfl)) (by decide) (by decide)) (g := (mkF m 17 #[.val (.int v0), .val (.int v1), .val (.int i1), .val (.int j1), .unset] [(.int (0 : Int32)), (.int j1), (.int i1)])) rfl (by rw [hml]; rfl) (argsL := [(.int i1), (.int j1), (.int (0 : Int32))]) (rest := []) (lenOf pd_1 rfl) rfl (by show 2 * 0 + _ ≤ _; exact Nat.le_of_eq rfl) (hb hby at_17) (fun _ _ => ⟨rfl, e0, (by decide : 0 + 0 ≤ _), (by decide : 0 + 0 ≤ _)⟩)
  dsimp only [Pt.U, Pt.locs, Pt.cells, Pt.slots] at X3 l3 y3 z3 st3 hQ3
  subst l3 y3 z3
  obtain ⟨rfl, Nc3, e3⟩ := hQ3
  have N3 := Fr.app N0 Nc3
  by_cases q0 : own_imp i1 j1 (0 : Int32) = 0
  · skip
    have sg4 : ∀ t, Steps p.tables e below (T3.setTop (mkF m 46 #[.val (.int v0), .val (.int v1), .val (.int i1), .val (.int j1), .unset] [(.int (0 : Int32))])) t → Steps p.tables e below (T3.setTop (mkF m 20 #[.val (.int v0), .val (.int v1), .val (.int i1), .val (.int j1), .unset] [(.int (own_imp i1 j1 (0 : Int32)))])) t := by
      intro t k
      show Steps p.tables e below (T3.setTop (mkF m 20 #[.val (.int v0), .val (.int v1), .val (.int i1), .val (.int j1), .unset] [(.int (own_imp i1 j1 (0 : Int32)))])) _
      refine XS.ifYes X3.here hx rfl (pc0 := 20) (pc' := 45) rfl (hb hby at_20) rfl ((if0 _ _).trans (teq q0).1) (by decide) (by decide) ?_
      show Steps p.tables e below (T3.setTop (mkF m 45 #[.val (.int v0), .val (.int v1), .val (.int i1), .val (.int j1), .unset] [])) _
      refine XS.iconst X3.here hx rfl (hb hby at_45) ?_
      show Steps p.tables e below (T3.setTop (mkF m 46 #[.val (.int v0), .val (.int v1), .val (.int i1), .val (.int j1), .unset] [(.int (0 : Int32))])) _
      exact k
    obtain ⟨s₂, o, k, r⟩ := tail46 X3 hx hby Bd.returns hlk hml hZ hown hw e3 N3 Z0 v0 v1 i1 j1 (0 : Int32) (by rw [hlaw]; simp [own_exp, q0]) hS hE hF hG
    refine ⟨s₂, o, pre0 _ ?_, r⟩
    refine sg1 _ ?_
    refine sg2 _ ?_
    refine st3 _ ?_
    refine sg4 _ ?_
    exact k
  have sg4 : ∀ t, Steps p.tables e below (T3.setTop (mkF m 26 #[.val (.int v0), .val (.int v1), .val (.int i1), .val (.int j1), .unset] [(.int (1 : Int32)), (.int j1), (.int i1)])) t → Steps p.tables e below (T3.setTop (mkF m 20 #[.val (.int v0), .val (.int v1), .val (.int i1), .val (.int j1), .unset] [(.int (own_imp i1 j1 (0 : Int32)))])) t := by
    intro t k
    show Steps p.tables e below (T3.setTop (mkF m 20 #[.val (.int v0), .val (.int v1), .val (.int i1), .val (.int j1), .unset] [(.int (own_imp i1 j1 (0 : Int32)))])) _
    refine XS.ifNo X3.here hx rfl (hb hby at_20) rfl ((if0 _ _).trans (feq q0).1) ?_
    show Steps p.tables e below (T3.setTop (mkF m 23 #[.val (.int v0), .val (.int v1), .val (.int i1), .val (.int j1), .unset] [])) _
    refine XS.iloadN X3.here hx rfl (hb hby at_23) rfl ?_
    show Steps p.tables e below (T3.setTop (mkF m 24 #[.val (.int v0), .val (.int v1), .val (.int i1), .val (.int j1), .unset] [(.int i1)])) _
    refine XS.iloadN X3.here hx rfl (hb hby at_24) rfl ?_
    show Steps p.tables e below (T3.setTop (mkF m 25 #[.val (.int v0), .val (.int v1), .val (.int i1), .val (.int j1), .unset] [(.int j1), (.int i1)])) _
    refine XS.iconst X3.here hx rfl (hb hby at_25) ?_
    show Steps p.tables e below (T3.setTop (mkF m 26 #[.val (.int v0), .val (.int v1), .val (.int i1), .val (.int j1), .unset] [(.int (1 : Int32)), (.int j1), (.int i1)])) _
    exact k
  obtain ⟨_, _, ⟨T5, L5, k5, n5⟩, -, X5, ⟨Lc5, hQ5, l5, y5, z5⟩, st5⟩ := Jvm.LawKit.callS X3 hx (y := (⟨"com/example/itinera/itinera/expr/OccurrenceIsWithinPinLaw", "implies", "(III)Z"⟩ : MethodName)) hown (mvT hZ (hw _ (List.mem_of_getElem? (i := 1) rfl))) (mvT hZ (hw _ (List.mem_of_getElem? (i := 2) rfl))) (mvT hZ (hw _ (List.mem_of_getElem? (i := 3) rfl))) (mvT hZ (hw _ (List.mem_of_getElem? (i := 4) rfl))) (by decide) (backOf (W := 0) (rm1 l Z a0 hw [] i1 j1 (1 : Int32) h0 n0 Z0) hZ (hw _ (List.mem_of_getElem? (i := 4) rfl)) (hw _ (List.mem_of_getElem? (i := 3) rfl)) (by decide) (by decide)) (g := (mkF m 26 #[.val (.int v0), .val (.int v1), .val (.int i1), .val (.int j1), .unset] [(.int (1 : Int32)), (.int j1), (.int i1)])) rfl (by rw [hml]; rfl) (argsL := [(.int i1), (.int j1), (.int (1 : Int32))]) (rest := []) (lenOf pd_1 rfl) rfl (by show 2 * 0 + _ ≤ _; exact Nat.le_of_eq rfl) (hb hby at_26) (fun _ _ => ⟨rfl, e3, (by decide : 0 + 0 ≤ _), (by decide : 0 + 0 ≤ _)⟩)
  dsimp only [Pt.U, Pt.locs, Pt.cells, Pt.slots] at X5 l5 y5 z5 st5 hQ5
  subst l5 y5 z5
  obtain ⟨rfl, Nc5, e5⟩ := hQ5
  have N5 := Fr.app N3 Nc5
  by_cases q1 : own_imp i1 j1 (1 : Int32) = 0
  · skip
    have sg6 : ∀ t, Steps p.tables e below (T5.setTop (mkF m 46 #[.val (.int v0), .val (.int v1), .val (.int i1), .val (.int j1), .unset] [(.int (0 : Int32))])) t → Steps p.tables e below (T5.setTop (mkF m 29 #[.val (.int v0), .val (.int v1), .val (.int i1), .val (.int j1), .unset] [(.int (own_imp i1 j1 (1 : Int32)))])) t := by
      intro t k
      show Steps p.tables e below (T5.setTop (mkF m 29 #[.val (.int v0), .val (.int v1), .val (.int i1), .val (.int j1), .unset] [(.int (own_imp i1 j1 (1 : Int32)))])) _
      refine XS.ifYes X5.here hx rfl (pc0 := 29) (pc' := 45) rfl (hb hby at_29) rfl ((if0 _ _).trans (teq q1).1) (by decide) (by decide) ?_
      show Steps p.tables e below (T5.setTop (mkF m 45 #[.val (.int v0), .val (.int v1), .val (.int i1), .val (.int j1), .unset] [])) _
      refine XS.iconst X5.here hx rfl (hb hby at_45) ?_
      show Steps p.tables e below (T5.setTop (mkF m 46 #[.val (.int v0), .val (.int v1), .val (.int i1), .val (.int j1), .unset] [(.int (0 : Int32))])) _
      exact k
    obtain ⟨s₂, o, k, r⟩ := tail46 X5 hx hby Bd.returns hlk hml hZ hown hw e5 N5 Z0 v0 v1 i1 j1 (0 : Int32) (by rw [hlaw]; simp [own_exp, q0, q1]) hS hE hF hG
    refine ⟨s₂, o, pre0 _ ?_, r⟩
    refine sg1 _ ?_
    refine sg2 _ ?_
    refine st3 _ ?_
    refine sg4 _ ?_
    refine st5 _ ?_
    refine sg6 _ ?_
    exact k
  have sg6 : ∀ t, Steps p.tables e below (T5.setTop (mkF m 35 #[.val (.int v0), .val (.int v1), .val (.int i1), .val (.int j1), .unset] [(.int (2 : Int32)), (.int j1), (.int i1)])) t → Steps p.tables e below (T5.setTop (mkF m 29 #[.val (.int v0), .val (.int v1), .val (.int i1), .val (.int j1), .unset] [(.int (own_imp i1 j1 (1 : Int32)))])) t := by
    intro t k
    show Steps p.tables e below (T5.setTop (mkF m 29 #[.val (.int v0), .val (.int v1), .val (.int i1), .val (.int j1), .unset] [(.int (own_imp i1 j1 (1 : Int32)))])) _
    refine XS.ifNo X5.here hx rfl (hb hby at_29) rfl ((if0 _ _).trans (feq q1).1) ?_
    show Steps p.tables e below (T5.setTop (mkF m 32 #[.val (.int v0), .val (.int v1), .val (.int i1), .val (.int j1), .unset] [])) _
    refine XS.iloadN X5.here hx rfl (hb hby at_32) rfl ?_
    show Steps p.tables e below (T5.setTop (mkF m 33 #[.val (.int v0), .val (.int v1), .val (.int i1), .val (.int j1), .unset] [(.int i1)])) _
    refine XS.iloadN X5.here hx rfl (hb hby at_33) rfl ?_
    show Steps p.tables e below (T5.setTop (mkF m 34 #[.val (.int v0), .val (.int v1), .val (.int i1), .val (.int j1), .unset] [(.int j1), (.int i1)])) _
    refine XS.iconst X5.here hx rfl (hb hby at_34) ?_
    show Steps p.tables e below (T5.setTop (mkF m 35 #[.val (.int v0), .val (.int v1), .val (.int i1), .val (.int j1), .unset] [(.int (2 : Int32)), (.int j1), (.int i1)])) _
    exact k
  obtain ⟨_, _, ⟨T7, L7, k7, n7⟩, -, X7, ⟨Lc7, hQ7, l7, y7, z7⟩, st7⟩ := Jvm.LawKit.callS X5 hx (y := (⟨"com/example/itinera/itinera/expr/OccurrenceIsWithinPinLaw", "implies", "(III)Z"⟩ : MethodName)) hown (mvT hZ (hw _ (List.mem_of_getElem? (i := 1) rfl))) (mvT hZ (hw _ (List.mem_of_getElem? (i := 2) rfl))) (mvT hZ (hw _ (List.mem_of_getElem? (i := 3) rfl))) (mvT hZ (hw _ (List.mem_of_getElem? (i := 4) rfl))) (by decide) (backOf (W := 0) (rm1 l Z a0 hw [] i1 j1 (2 : Int32) h0 n0 Z0) hZ (hw _ (List.mem_of_getElem? (i := 4) rfl)) (hw _ (List.mem_of_getElem? (i := 3) rfl)) (by decide) (by decide)) (g := (mkF m 35 #[.val (.int v0), .val (.int v1), .val (.int i1), .val (.int j1), .unset] [(.int (2 : Int32)), (.int j1), (.int i1)])) rfl (by rw [hml]; rfl) (argsL := [(.int i1), (.int j1), (.int (2 : Int32))]) (rest := []) (lenOf pd_1 rfl) rfl (by show 2 * 0 + _ ≤ _; exact Nat.le_of_eq rfl) (hb hby at_35) (fun _ _ => ⟨rfl, e5, (by decide : 0 + 0 ≤ _), (by decide : 0 + 0 ≤ _)⟩)
  dsimp only [Pt.U, Pt.locs, Pt.cells, Pt.slots] at X7 l7 y7 z7 st7 hQ7
  subst l7 y7 z7
  obtain ⟨rfl, Nc7, e7⟩ := hQ7
  have N7 := Fr.app N5 Nc7
  by_cases q2 : own_imp i1 j1 (2 : Int32) = 0
  · skip
    have sg8 : ∀ t, Steps p.tables e below (T7.setTop (mkF m 46 #[.val (.int v0), .val (.int v1), .val (.int i1), .val (.int j1), .unset] [(.int (0 : Int32))])) t → Steps p.tables e below (T7.setTop (mkF m 38 #[.val (.int v0), .val (.int v1), .val (.int i1), .val (.int j1), .unset] [(.int (own_imp i1 j1 (2 : Int32)))])) t := by
      intro t k
      show Steps p.tables e below (T7.setTop (mkF m 38 #[.val (.int v0), .val (.int v1), .val (.int i1), .val (.int j1), .unset] [(.int (own_imp i1 j1 (2 : Int32)))])) _
      refine XS.ifYes X7.here hx rfl (pc0 := 38) (pc' := 45) rfl (hb hby at_38) rfl ((if0 _ _).trans (teq q2).1) (by decide) (by decide) ?_
      show Steps p.tables e below (T7.setTop (mkF m 45 #[.val (.int v0), .val (.int v1), .val (.int i1), .val (.int j1), .unset] [])) _
      refine XS.iconst X7.here hx rfl (hb hby at_45) ?_
      show Steps p.tables e below (T7.setTop (mkF m 46 #[.val (.int v0), .val (.int v1), .val (.int i1), .val (.int j1), .unset] [(.int (0 : Int32))])) _
      exact k
    obtain ⟨s₂, o, k, r⟩ := tail46 X7 hx hby Bd.returns hlk hml hZ hown hw e7 N7 Z0 v0 v1 i1 j1 (0 : Int32) (by rw [hlaw]; simp [own_exp, q0, q1, q2]) hS hE hF hG
    refine ⟨s₂, o, pre0 _ ?_, r⟩
    refine sg1 _ ?_
    refine sg2 _ ?_
    refine st3 _ ?_
    refine sg4 _ ?_
    refine st5 _ ?_
    refine sg6 _ ?_
    refine st7 _ ?_
    refine sg8 _ ?_
    exact k
  have sg8 : ∀ t, Steps p.tables e below (T7.setTop (mkF m 46 #[.val (.int v0), .val (.int v1), .val (.int i1), .val (.int j1), .unset] [(.int (1 : Int32))])) t → Steps p.tables e below (T7.setTop (mkF m 38 #[.val (.int v0), .val (.int v1), .val (.int i1), .val (.int j1), .unset] [(.int (own_imp i1 j1 (2 : Int32)))])) t := by
    intro t k
    show Steps p.tables e below (T7.setTop (mkF m 38 #[.val (.int v0), .val (.int v1), .val (.int i1), .val (.int j1), .unset] [(.int (own_imp i1 j1 (2 : Int32)))])) _
    refine XS.ifNo X7.here hx rfl (hb hby at_38) rfl ((if0 _ _).trans (feq q2).1) ?_
    show Steps p.tables e below (T7.setTop (mkF m 41 #[.val (.int v0), .val (.int v1), .val (.int i1), .val (.int j1), .unset] [])) _
    refine XS.iconst X7.here hx rfl (hb hby at_41) ?_
    show Steps p.tables e below (T7.setTop (mkF m 42 #[.val (.int v0), .val (.int v1), .val (.int i1), .val (.int j1), .unset] [(.int (1 : Int32))])) _
    refine XS.goto X7.here hx rfl (pc0 := 42) (pc' := 46) rfl (hb hby at_42) (by decide) (by decide) ?_
    show Steps p.tables e below (T7.setTop (mkF m 46 #[.val (.int v0), .val (.int v1), .val (.int i1), .val (.int j1), .unset] [(.int (1 : Int32))])) _
    exact k
  obtain ⟨s₂, o, k, r⟩ := tail46 X7 hx hby Bd.returns hlk hml hZ hown hw e7 N7 Z0 v0 v1 i1 j1 (1 : Int32) (by rw [hlaw]; simp [own_exp, q0, q1, q2]) hS hE hF hG
  refine ⟨s₂, o, pre0 _ ?_, r⟩
  refine sg1 _ ?_
  refine sg2 _ ?_
  refine st3 _ ?_
  refine sg4 _ ?_
  refine st5 _ ?_
  refine sg6 _ ?_
  refine st7 _ ?_
  refine sg8 _ ?_
  exact k
set_option maxRecDepth 65536 in
set_option maxHeartbeats 40000000 in
theorem comes_1 {Post : Tables → Env → Array Value → State → Outcome → State → Prop} (hpost : ∀ tb e args s v u, (limb_1_1.after args s (.returned v) u = true ∧ limb_1_2.after args s (.returned v) u = true ∧ True) → FrameEnd s (.returned v) u (Jvm.fieldLocs frame_1_writes args s ++ Jvm.arrayLocs frame_1_arrays args s ++ Jvm.staticLocs frame_1_statics s) 0 0 → Post tb e args s (.returned v) u) :
    ArmFor flags0 classFile x code maxLocals ret World_1 tables_1 room_1 Calls_1 rest_1 Pre_1 Post := by
  intro l hfl _ _ p e ha hc hk s m args below hf hA hF happ hP
  obtain ⟨hcalls, hrest, hpre⟩ := hP
  obtain ⟨-, -, -, hnamed, -, -, -, hat⟩ := (Spec.applies_iff hf).mp happ
  obtain ⟨hg, hn⟩ := and_e (Cond.before_iff.mp (show (Jvm.Cond.and given_1 narrow_1).before args s = true from hpre))
  obtain ⟨hcount, q0⟩ := and_e hg
  obtain ⟨g0, q1⟩ := and_e q0
  obtain ⟨w0, w1, rfl⟩ : ∃ w0 w1 : Value, args = #[w0, w1] := by
    have hs : args.size = 2 := by simpa [Cond.value, given_1] using hcount
    obtain ⟨L⟩ := args
    match L, hs with
    | [w0, w1], _ => exact ⟨w0, w1, rfl⟩
  have hw := fun d (hd : d ∈ tables_1) => atoms_spec (ws := Jvm.Cond.code x code maxLocals ret :: tables_1) hat d (List.mem_cons_of_mem _ hd)
  obtain ⟨i0, r0⟩ := is_v g0
  obtain rfl : w0 = (.int i0) := Option.some.inj r0
  obtain ⟨i1, r1⟩ := is_v q1
  obtain rfl : w1 = (.int i1) := Option.some.inj r1
  obtain ⟨n0, hn⟩ := and_e hn
  obtain ⟨n1, hn⟩ := and_e hn
  obtain ⟨n2, hn⟩ := and_e hn
  obtain ⟨n3, hn⟩ := and_e hn
  obtain ⟨n4, hn⟩ := and_e hn
  obtain ⟨n5, hn⟩ := and_e hn
  obtain ⟨n6, hn⟩ := and_e hn
  obtain ⟨n7, hn⟩ := and_e hn
  obtain ⟨n8, hn⟩ := and_e hn
  obtain ⟨n9, hn⟩ := and_e hn
  obtain ⟨n10, hn⟩ := and_e hn
  obtain ⟨n11, hn⟩ := and_e hn
  obtain ⟨n12, hn⟩ := and_e hn
  obtain ⟨n13, hn⟩ := and_e hn
  obtain ⟨x0, ev0⟩ := exa_v n0
  have E0 := Exa.start ev0 n0
  have S0 := Sta.start ev0 (Or.inr ⟨(hw _ (List.mem_of_getElem? (i := 12) rfl)), (hw _ (List.mem_of_getElem? (i := 13) rfl))⟩)
  obtain ⟨x3, ev3⟩ := exa_v n1
  have E3 := Exa.start ev3 n1
  have S3 := Sta.start ev3 (Or.inr ⟨(hw _ (List.mem_of_getElem? (i := 12) rfl)), (hw _ (List.mem_of_getElem? (i := 15) rfl))⟩)
  have F0 := Fld.start ((fld_at ev0).symm.trans (eqv_l (y := 1) rfl n2))
  have F3 := Fld.start ((fld_at ev3).symm.trans (eqv_l (y := 1) rfl n3))
  have G0 := Fld.start ((fld_at ev0).symm.trans (eqv_l (y := 1) rfl n4))
  have G3 := Fld.start ((fld_at ev3).symm.trans (eqv_l (y := 9223372036854775807) rfl n5))
  obtain ⟨x4, ev4⟩ := exa_v n6
  have E4 := Exa.start ev4 n6
  have S4 := Sta.start ev4 (Or.inr ⟨(hw _ (List.mem_of_getElem? (i := 12) rfl)), (hw _ (List.mem_of_getElem? (i := 26) rfl))⟩)
  obtain ⟨x1, ev1⟩ := exa_v n7
  have E1 := Exa.start ev1 n7
  have S1 := Sta.start ev1 (Or.inr ⟨(hw _ (List.mem_of_getElem? (i := 12) rfl)), (hw _ (List.mem_of_getElem? (i := 28) rfl))⟩)
  have F4 := Fld.start ((fld_at ev4).symm.trans (eqv_l (y := 0) rfl n8))
  have F1 := Fld.start ((fld_at ev1).symm.trans (eqv_l (y := 0) rfl n9))
  have G4 := Fld.start ((fld_at ev4).symm.trans (eqv_l (y := 0) rfl n10))
  have G1 := Fld.start ((fld_at ev1).symm.trans (eqv_l (y := 1) rfl n11))
  obtain ⟨x2, ev2⟩ := exa_v n12
  have E2 := Exa.start ev2 n12
  have S2 := Sta.start ev2 (Or.inr ⟨(hw _ (List.mem_of_getElem? (i := 12) rfl)), (hw _ (List.mem_of_getElem? (i := 30) rfl))⟩)
  have F2 := Fld.start ((fld_at ev2).symm.trans (eqv_l (y := 0) rfl n13))
  have G2 := Fld.start ((fld_at ev2).symm.trans (eqv_l (y := 9223372036854775807) rfl hn))
  have hA : True := trivial
  obtain ⟨n, o, h1, h2, h3, _, L, rfl, ⟨rfl, N⟩, hq⟩ := rm0 l s _ hw tables_1 i0 i1 s.heap s.heap.size (Nat.le_refl _) (A := fun k => ([x0, x1, x2, x3, x4] : List Addr).getD k 0) (fun k hk => match k, hk with | 0, _ => S0 | 1, _ => S1 | 2, _ => S2 | 3, _ => S3 | 4, _ => S4 | k + 5, h => absurd h (by omega)) (fun k hk => match k, hk with | 0, _ => E0 | 1, _ => E1 | 2, _ => E2 | 3, _ => E3 | 4, _ => E4 | k + 5, h => absurd h (by omega)) (fun k hk => match k, hk with | 0, _ => F0 | 1, _ => F1 | 2, _ => F2 | 3, _ => F3 | 4, _ => F4 | k + 5, h => absurd h (by omega)) (fun k hk => match k, hk with | 0, _ => G0 | 1, _ => G1 | 2, _ => G2 | 3, _ => G3 | 4, _ => G4 | k + 5, h => absurd h (by omega)) p e ha hc hk s m _ below hf ((Spec.applies_iff_loose hf).mp happ).1 ⟨rfl, State.Warmed39.refl s, rfl⟩ trivial
  refine ⟨n, _, h1, h2, h3, hpost _ _ _ _ _ _ ⟨Cond.after_iff.mpr rfl, Cond.after_iff.mpr (eq_i res_at (Term.int_eval (1)) rfl), trivial⟩ ⟨hq.1, hq.2.1, (hq.2.2.sift fun y hy => Or.inr (N y hy)).mono (by decide) (by decide)⟩⟩
theorem main_1_1 : Claimed_1_1 := comes_1 fun _ _ _ _ _ _ h hF => ⟨h.1, hF⟩
theorem main_1_2 : Claimed_1_2 := comes_1 fun _ _ _ _ _ _ h hF => ⟨h.2.1, hF⟩
end Jvm.Pilot.@@N@@
namespace Jvm.Pilot.@@N@@
open Jvm Jvm.ClassFile Sem Op Lib Jvm.Free Jvm.Stand Jvm.Pilot.@@N@@.Jvm.D
/-! MADE BY PROGRAM (witnessworld.py) out of the Statement's table words and the real class files: 12 classes; the members and pool entries that the words name. The judged class is class 1, her method 4. -/
namespace start1
open Jvm.ClassFile
def u (s : String) : CpInfo := .utf8 (stringToUtf16 s)
/-- a pool by its gaps: so many unusable entries, then the entry; so many at the end -/
def gap : Nat → List CpInfo → List CpInfo
  | 0, r => r
  | n + 1, r => .unusable :: gap n r
def poolList (es : List (Nat × CpInfo)) (last : Nat) : List CpInfo := es.foldr (fun e r => gap e.1 (e.2 :: r)) (gap last [])
def pool (es : List (Nat × CpInfo)) (last : Nat) : Array CpInfo := ⟨poolList es last⟩
def fileOf (pool : Array CpInfo) (this : Nat) (attrs : Array Attribute := #[]) (ms : Array MethodInfo := #[]) (fl : Nat := 33) (sup : Nat := 0) (ifs : Array Nat := #[]) (fds : Array FieldInfo := #[]) : ClassFile where
  minorVersion := 0
  majorVersion := 65
  constantPool := pool
  accessFlags := fl
  thisClass := this
  superClass := sup
  interfaces := ifs
  fields := fds
  methods := ms
  attributes := attrs
def plain (name : String) (sup : Option ClassId) : Class where
  name := name
  kind := .ordinary
  loader := none
  accessFlags := 33
  super := sup
  interfaces := #[]
  cf := none
  fields := #[]
  methods := #[]
  instanceTypes := #[]
  staticTypes := #[]
  resolved := #[]
  callSites := []
  init := .initialized
  statics := none
  mirror := none

def pool0 : Array CpInfo := pool [(5, u "<init>"), (0, u "()V"), (1, .class_ 10), (1, u "java/lang/Object")] 113

def k0m0 : Method := { name := "<init>", desc := "()V", sig := { parameters := [], returnType := none }, accessFlags := 1, code := none }
/-- java/lang/Object -/
def k0 : Class := { plain "java/lang/Object" none with
  accessFlags := 33
  interfaces := #[]
  cf := some (fileOf pool0 8 #[] #[{ accessFlags := 1, nameIndex := 5, descriptorIndex := 6, attributes := #[] }] 33 0 #[] #[])
  fields := #[]
  methods := #[k0m0]
  instanceTypes := #[]
  staticTypes := #[]
  resolved := Array.replicate 124 none
  statics := none }

def pool1 : Array CpInfo := pool [(2, .class_ 4), (1, u "java/lang/Object"), (0, u "<init>"), (0, u "()V"), (0, .fieldref 8 9), (0, .class_ 10), (0, .nameAndType 11 12), (0, u "com/example/itinera/itinera/expr/SequenceType$Occurrence"), (0, u "ONE"), (0, u "Lcom/example/itinera/itinera/expr/SequenceType$Occurrence;"), (0, .fieldref 8 14), (0, .nameAndType 15 12), (0, u "OPTIONAL"), (0, .fieldref 8 17), (0, .nameAndType 18 12), (0, u "ANY"), (0, .fieldref 8 20), (0, .nameAndType 21 12), (0, u "ONE_OR_MORE"), (0, .fieldref 8 23), (0, .nameAndType 24 12), (0, u "NONE"), (0, .methodref 26 27), (0, .class_ 28), (0, .nameAndType 29 30), (0, u "com/example/itinera/itinera/expr/OccurrenceIsWithinPinLaw"), (0, u "holds"), (0, u "(II)Z"), (0, .integer 2147483647), (0, .methodref 26 33), (0, .nameAndType 34 35), (0, u "implies"), (0, u "(III)Z"), (0, .methodref 26 37), (0, .nameAndType 38 39), (0, u "pick"), (0, u "(I)Lcom/example/itinera/itinera/expr/SequenceType$Occurrence;"), (0, .methodref 8 41), (0, .nameAndType 42 43), (0, u "isWithin"), (0, u "(Lcom/example/itinera/itinera/expr/SequenceType$Occurrence;)Z"), (3, u "law")] 6

def k1m0 : Method := { name := "<init>", desc := "()V", sig := { parameters := [], returnType := none }, accessFlags := 2, code := none }
def k1c1 : Code := { maxStack := 2, maxLocals := 1, code := method_2_code, exceptionTable := #[], attributes := #[] }
def k1m1 : Method := { name := "pick", desc := "(I)Lcom/example/itinera/itinera/expr/SequenceType$Occurrence;", sig := { parameters := [.int], returnType := some (.object "com/example/itinera/itinera/expr/SequenceType$Occurrence") }, accessFlags := 10, code := some k1c1 }
def k1c2 : Code := { maxStack := 2, maxLocals := 2, code := method_3_code, exceptionTable := #[], attributes := #[] }
def k1m2 : Method := { name := "holds", desc := "(II)Z", sig := { parameters := [.int, .int], returnType := some .boolean }, accessFlags := 10, code := some k1c2 }
def k1c3 : Code := { maxStack := 2, maxLocals := 3, code := method_4_code, exceptionTable := #[], attributes := #[] }
def k1m3 : Method := { name := "implies", desc := "(III)Z", sig := { parameters := [.int, .int, .int], returnType := some .boolean }, accessFlags := 10, code := some k1c3 }
def k1c4 : Code := { maxStack := 3, maxLocals := 5, code := code, exceptionTable := #[], attributes := #[] }
def k1m4 : Method := { name := "law", desc := "(II)Z", sig := { parameters := [.int, .int], returnType := some .boolean }, accessFlags := 9, code := some k1c4 }
/-- com/example/itinera/itinera/expr/OccurrenceIsWithinPinLaw -/
def k1 : Class := { plain "com/example/itinera/itinera/expr/OccurrenceIsWithinPinLaw" (some 0) with
  accessFlags := 49
  interfaces := #[]
  cf := some (fileOf pool1 26 #[] #[{ accessFlags := 2, nameIndex := 5, descriptorIndex := 6, attributes := #[] }, { accessFlags := 10, nameIndex := 38, descriptorIndex := 39, attributes := #[] }, { accessFlags := 10, nameIndex := 29, descriptorIndex := 30, attributes := #[] }, { accessFlags := 10, nameIndex := 34, descriptorIndex := 35, attributes := #[] }, { accessFlags := 9, nameIndex := 47, descriptorIndex := 30, attributes := #[] }] 49 2 #[] #[])
  fields := #[]
  methods := #[k1m0, k1m1, k1m2, k1m3, k1m4]
  instanceTypes := #[]
  staticTypes := #[]
  resolved := Array.replicate 54 none
  statics := none }

def pool2 : Array CpInfo := pool [(1, .class_ 2), (0, u "java/lang/constant/Constable"), (0, .class_ 4), (0, u "java/lang/Object")] 6

/-- java/lang/constant/Constable -/
def k2 : Class := { plain "java/lang/constant/Constable" (some 0) with
  accessFlags := 1537
  interfaces := #[]
  cf := some (fileOf pool2 1 #[] #[] 1537 3 #[] #[])
  fields := #[]
  methods := #[]
  instanceTypes := #[]
  staticTypes := #[]
  resolved := Array.replicate 11 none
  statics := none }

def pool3 : Array CpInfo := pool [(1, .class_ 2), (0, u "java/lang/Comparable"), (0, .class_ 4), (0, u "java/lang/Object")] 7

/-- java/lang/Comparable -/
def k3 : Class := { plain "java/lang/Comparable" (some 0) with
  accessFlags := 1537
  interfaces := #[]
  cf := some (fileOf pool3 1 #[] #[] 1537 3 #[] #[])
  fields := #[]
  methods := #[]
  instanceTypes := #[]
  staticTypes := #[]
  resolved := Array.replicate 12 none
  statics := none }

def pool4 : Array CpInfo := pool [(1, .class_ 2), (0, u "java/io/Serializable"), (0, .class_ 4), (0, u "java/lang/Object")] 2

/-- java/io/Serializable -/
def k4 : Class := { plain "java/io/Serializable" (some 0) with
  accessFlags := 1537
  interfaces := #[]
  cf := some (fileOf pool4 1 #[] #[] 1537 3 #[] #[])
  fields := #[]
  methods := #[]
  instanceTypes := #[]
  staticTypes := #[]
  resolved := Array.replicate 7 none
  statics := none }

def pool5 : Array CpInfo := pool [(2, .class_ 4), (1, u "java/lang/Enum"), (0, u "name"), (0, u "Ljava/lang/String;"), (2, u "ordinal"), (0, u "I"), (1, .class_ 14), (1, u "java/lang/Object"), (4, u "hash"), (86, .class_ 108), (1, u "java/lang/Enum$EnumDesc"), (2, .class_ 112), (0, u "java/lang/constant/Constable"), (0, .class_ 114), (0, u "java/lang/Comparable"), (0, .class_ 116), (0, u "java/io/Serializable")] 87

/-- java/lang/Enum -/
def k5 : Class := { plain "java/lang/Enum" (some 0) with
  accessFlags := 1057
  interfaces := #[2, 3, 4]
  cf := some (fileOf pool5 2 #[.nestMembers #[106]] #[] 1057 12 #[111, 113, 115] #[{ accessFlags := 18, nameIndex := 5, descriptorIndex := 6, attributes := #[] }, { accessFlags := 18, nameIndex := 9, descriptorIndex := 10, attributes := #[] }, { accessFlags := 2, nameIndex := 19, descriptorIndex := 10, attributes := #[] }])
  fields := #[{ name := "name", type := (.object "java/lang/String"), accessFlags := 18, slot := 0, constantValue := 0 }, { name := "ordinal", type := .int, accessFlags := 18, slot := 1, constantValue := 0 }, { name := "hash", type := .int, accessFlags := 2, slot := 2, constantValue := 0 }]
  methods := #[]
  instanceTypes := #[(.object "java/lang/String"), .int, .int]
  staticTypes := #[]
  resolved := Array.replicate 204 none
  statics := none }

def pool6 : Array CpInfo := pool [(1, .class_ 2), (0, u "com/example/itinera/itinera/expr/SequenceType$Occurrence"), (2, u "ONE"), (0, u "Lcom/example/itinera/itinera/expr/SequenceType$Occurrence;"), (2, u "OPTIONAL"), (2, u "ANY"), (2, u "ONE_OR_MORE"), (2, u "NONE"), (2, u "$VALUES"), (0, u "[Lcom/example/itinera/itinera/expr/SequenceType$Occurrence;"), (6, .class_ 31), (1, u "java/lang/Enum"), (8, u "indicator"), (0, u "Ljava/lang/String;"), (0, .fieldref 1 43), (0, .nameAndType 44 45), (0, u "min"), (0, u "J"), (0, .fieldref 1 47), (0, .nameAndType 48 45), (0, u "max"), (51, u "isWithin"), (0, u "(Lcom/example/itinera/itinera/expr/SequenceType$Occurrence;)Z"), (6, .class_ 109), (0, u "com/example/itinera/itinera/expr/SequenceType")] 2

def k6c0 : Code := { maxStack := 4, maxLocals := 2, code := prog_182_method_7_code, exceptionTable := #[], attributes := #[] }
def k6m0 : Method := { name := "isWithin", desc := "(Lcom/example/itinera/itinera/expr/SequenceType$Occurrence;)Z", sig := { parameters := [(.object "com/example/itinera/itinera/expr/SequenceType$Occurrence")], returnType := some .boolean }, accessFlags := 0, code := some k6c0 }
/-- com/example/itinera/itinera/expr/SequenceType$Occurrence -/
def k6 : Class := { plain "com/example/itinera/itinera/expr/SequenceType$Occurrence" (some 5) with
  accessFlags := 16432
  interfaces := #[]
  cf := some (fileOf pool6 1 #[.nestHost 108] #[{ accessFlags := 0, nameIndex := 100, descriptorIndex := 101, attributes := #[] }] 16432 29 #[] #[{ accessFlags := 16409, nameIndex := 5, descriptorIndex := 6, attributes := #[] }, { accessFlags := 16409, nameIndex := 9, descriptorIndex := 6, attributes := #[] }, { accessFlags := 16409, nameIndex := 12, descriptorIndex := 6, attributes := #[] }, { accessFlags := 16409, nameIndex := 15, descriptorIndex := 6, attributes := #[] }, { accessFlags := 16409, nameIndex := 18, descriptorIndex := 6, attributes := #[] }, { accessFlags := 18, nameIndex := 40, descriptorIndex := 41, attributes := #[] }, { accessFlags := 18, nameIndex := 44, descriptorIndex := 45, attributes := #[] }, { accessFlags := 18, nameIndex := 48, descriptorIndex := 45, attributes := #[] }, { accessFlags := 4122, nameIndex := 21, descriptorIndex := 22, attributes := #[] }])
  fields := #[{ name := "ONE", type := (.object "com/example/itinera/itinera/expr/SequenceType$Occurrence"), accessFlags := 16409, slot := 0, constantValue := 0 }, { name := "OPTIONAL", type := (.object "com/example/itinera/itinera/expr/SequenceType$Occurrence"), accessFlags := 16409, slot := 1, constantValue := 0 }, { name := "ANY", type := (.object "com/example/itinera/itinera/expr/SequenceType$Occurrence"), accessFlags := 16409, slot := 2, constantValue := 0 }, { name := "ONE_OR_MORE", type := (.object "com/example/itinera/itinera/expr/SequenceType$Occurrence"), accessFlags := 16409, slot := 3, constantValue := 0 }, { name := "NONE", type := (.object "com/example/itinera/itinera/expr/SequenceType$Occurrence"), accessFlags := 16409, slot := 4, constantValue := 0 }, { name := "indicator", type := (.object "java/lang/String"), accessFlags := 18, slot := 3, constantValue := 0 }, { name := "min", type := .long, accessFlags := 18, slot := 4, constantValue := 0 }, { name := "max", type := .long, accessFlags := 18, slot := 5, constantValue := 0 }, { name := "$VALUES", type := (.array (.object "com/example/itinera/itinera/expr/SequenceType$Occurrence")), accessFlags := 4122, slot := 5, constantValue := 0 }]
  methods := #[k6m0]
  instanceTypes := #[(.object "java/lang/String"), .int, .int, (.object "java/lang/String"), .long, .long]
  staticTypes := #[(.object "com/example/itinera/itinera/expr/SequenceType$Occurrence"), (.object "com/example/itinera/itinera/expr/SequenceType$Occurrence"), (.object "com/example/itinera/itinera/expr/SequenceType$Occurrence"), (.object "com/example/itinera/itinera/expr/SequenceType$Occurrence"), (.object "com/example/itinera/itinera/expr/SequenceType$Occurrence"), (.array (.object "com/example/itinera/itinera/expr/SequenceType$Occurrence"))]
  resolved := Array.replicate 112 none
  statics := some 0 }

def pool7 : Array CpInfo := pool [(1, u "java/lang/Cloneable"), (0, .class_ 1), (0, u "java/lang/Object"), (0, .class_ 3)] 3

/-- java/lang/Cloneable -/
def k7 : Class := { plain "java/lang/Cloneable" (some 0) with
  accessFlags := 1537
  interfaces := #[]
  cf := some (fileOf pool7 2 #[] #[] 1537 4 #[] #[])
  fields := #[]
  methods := #[]
  instanceTypes := #[]
  staticTypes := #[]
  resolved := Array.replicate 8 none
  statics := none }

/-- the primitive byte -/
def k8 : Class := { plain "byte" none with kind := .primitive 'B', accessFlags := 0x411 }
/-- [B -/
def k9 : Class := { plain "[B" (some 0) with kind := .array 8 .byte, interfaces := #[7, 4], accessFlags := 1041 }

/-- the primitive int -/
def k10 : Class := { plain "int" none with kind := .primitive 'I', accessFlags := 0x411 }
/-- [I -/
def k11 : Class := { plain "[I" (some 0) with kind := .array 10 .int, interfaces := #[7, 4], accessFlags := 1041 }

def heap : Heap := #[{ cls := 6, slots := #[.ref 1, .ref 4, .ref 5, .ref 2, .ref 3, .null], vm := .statics 6 },
  { cls := 6, slots := #[.null, .int 0, .int 0, .null, .long 1, .long 1], vm := .none },
  { cls := 6, slots := #[.null, .int 0, .int 0, .null, .long 1, .long 9223372036854775807], vm := .none },
  { cls := 6, slots := #[.null, .int 0, .int 0, .null, .long 0, .long 0], vm := .none },
  { cls := 6, slots := #[.null, .int 0, .int 0, .null, .long 0, .long 1], vm := .none },
  { cls := 6, slots := #[.null, .int 0, .int 0, .null, .long 0, .long 9223372036854775807], vm := .none }]
def classes : Array Class := #[k0, k1, k2, k3, k4, k5, k6, k7, k8, k9, k10, k11]
def interned : List (Array UInt16 × Addr) := []
def slotsUsed : Nat := 36
def theMethod : MethodId := ⟨1, 4⟩
def args0 : Array Value := #[.int 5, .int 6]
def aboutOver (below : List Frame) : State where
  vm := { classes := classes, interned := interned.toArray }
  heap := heap
  slotsUsed := slotsUsed
  threads := #[{ frames := .invoking theMethod args0 :: below }]
def below0 : List Frame := [.native { method := ⟨0, 0⟩, args := #[] }]
def about1 : State := aboutOver below0
def p0 : Program := .bare "" "" ""
def e0 : Env := launch0.env 0 0 0
theorem w_frames : about1.frames = Frame.invoking theMethod args0 :: below0 := rfl
set_option maxRecDepth 65536 in
theorem w_args : argsFit about1.vm theMethod args0 = true := by decide +kernel
set_option maxRecDepth 65536 in
theorem w_heap : heapFits about1 = true := by decide +kernel
set_option maxRecDepth 65536 in
theorem w_runnable : about1.curStatus? = some .runnable := by decide +kernel
set_option maxRecDepth 65536 in
theorem w_alone : about1.alone = true := by decide +kernel
set_option maxRecDepth 65536 in
theorem w_named : about1.methodNamed? x = some theMethod := by decide +kernel
set_option maxRecDepth 65536 in
theorem w_hears : about1.hears theMethod below0 = true := by decide +kernel
set_option maxRecDepth 65536 in
theorem w_ripe : about1.ripe theMethod args0 below0 = true := by decide +kernel
theorem w_running : about1.status = .running := rfl
set_option maxRecDepth 65536 in
theorem w_room : about1.hasRoom e0.platform room_1 = true :=
  launch0.hasRoom_least _ room_1 (by decide +kernel) (by decide +kernel) (by decide +kernel) (by decide +kernel) (by decide +kernel) (by decide +kernel)
theorem allAtoms_all (ts : List Jvm.Cond) (a : Array Jvm.Value) (st : Jvm.State) : (allAtoms ts).before a st = ts.all (fun c => c.before a st) := by
  induction ts with
  | nil => rfl
  | cons c t ih =>
    show (Jvm.Cond.and c (allAtoms t)).before a st = _
    rw [Jvm.Cond.before_and, ih, List.all_cons]
def words1 : List Jvm.Cond := Jvm.Cond.code x code maxLocals ret :: tables_1
/-- a 'code' word, met by the world's own term for the bytes: nothing is compared byte by byte -/
theorem code_word {y : MethodName} {bytes : ByteArray} {mx : Nat} {rt : Option FieldType} {a : Array Value} {s : State} {m : MethodId} {meth : Method} {c : Code} (h1 : s.methodNamed? y = some m) (h2 : s.vm.method? m = some meth) (h3 : meth.code = some c) (h4 : c.code = bytes)
    (h5 : (c.maxLocals == mx && c.exceptionTable.isEmpty && decide (c.maxStack ≤ mostOperands) && decide (meth.sig.returnType = rt) && !meth.locks && decide (parseMethodDescriptor y.desc = some meth.sig)) = true) : (Jvm.Cond.code y bytes mx rt).before a s = true := by
  simp only [Bool.and_eq_true, beq_iff_eq, Bool.not_eq_true', decide_eq_true_eq] at h5
  obtain ⟨⟨⟨⟨⟨g1, g2⟩, g3⟩, g4⟩, g5⟩, g6⟩ := h5
  simp [Cond.before, Cond.holds, Cond.value, h1, h2, h3, h4, g1, g2, g3, g4, g5, g6]
def isCode : Jvm.Cond → Bool
  | .code _ _ _ _ => true
  | _ => false
theorem all_split {L : List Jvm.Cond} {P : Jvm.Cond → Bool} (h1 : L.all (fun c => isCode c || P c) = true) (h2 : ∀ c ∈ L.filter isCode, P c = true) : L.all P = true := by
  refine List.all_eq_true.mpr fun c hc => ?_
  have h := List.all_eq_true.mp h1 c hc
  rcases Bool.eq_false_or_eq_true (isCode c) with hi | hi
  · exact h2 c (List.mem_filter.mpr ⟨hc, hi⟩)
  · simpa [hi] using h
set_option maxRecDepth 65536 in
theorem w_c0 : (Jvm.Cond.code x code maxLocals ret).before args0 about1 = true := code_word (m := ⟨1, 4⟩) (meth := k1m4) (c := k1c4) (by decide +kernel) rfl rfl rfl (by decide +kernel)
set_option maxRecDepth 65536 in
theorem w_c1 : (Jvm.Cond.code ({ cls := "com/example/itinera/itinera/expr/OccurrenceIsWithinPinLaw", name := "implies", desc := "(III)Z" } : Jvm.MethodName) method_4_code (3 : Nat) (Option.some Jvm.ClassFile.FieldType.boolean)).before args0 about1 = true := code_word (m := ⟨1, 3⟩) (meth := k1m3) (c := k1c3) (by decide +kernel) rfl rfl rfl (by decide +kernel)
set_option maxRecDepth 65536 in
theorem w_c2 : (Jvm.Cond.code ({ cls := "com/example/itinera/itinera/expr/OccurrenceIsWithinPinLaw", name := "holds", desc := "(II)Z" } : Jvm.MethodName) method_3_code (2 : Nat) (Option.some Jvm.ClassFile.FieldType.boolean)).before args0 about1 = true := code_word (m := ⟨1, 2⟩) (meth := k1m2) (c := k1c2) (by decide +kernel) rfl rfl rfl (by decide +kernel)
set_option maxRecDepth 65536 in
theorem w_c3 : (Jvm.Cond.code ({ cls := "com/example/itinera/itinera/expr/OccurrenceIsWithinPinLaw", name := "pick", desc := "(I)Lcom/example/itinera/itinera/expr/SequenceType$Occurrence;" } : Jvm.MethodName) method_2_code (1 : Nat) (Option.some (Jvm.ClassFile.FieldType.object "com/example/itinera/itinera/expr/SequenceType$Occurrence"))).before args0 about1 = true := code_word (m := ⟨1, 1⟩) (meth := k1m1) (c := k1c1) (by decide +kernel) rfl rfl rfl (by decide +kernel)
set_option maxRecDepth 65536 in
theorem w_c4 : (Jvm.Cond.code ({ cls := "com/example/itinera/itinera/expr/SequenceType$Occurrence", name := "isWithin", desc := "(Lcom/example/itinera/itinera/expr/SequenceType$Occurrence;)Z" } : Jvm.MethodName) prog_182_method_7_code (2 : Nat) (Option.some Jvm.ClassFile.FieldType.boolean)).before args0 about1 = true := code_word (m := ⟨6, 0⟩) (meth := k6m0) (c := k6c0) (by decide +kernel) rfl rfl rfl (by decide +kernel)
def codes1 : List Jvm.Cond := [Jvm.Cond.code x code maxLocals ret, Jvm.Cond.code ({ cls := "com/example/itinera/itinera/expr/OccurrenceIsWithinPinLaw", name := "implies", desc := "(III)Z" } : Jvm.MethodName) method_4_code (3 : Nat) (Option.some Jvm.ClassFile.FieldType.boolean), Jvm.Cond.code ({ cls := "com/example/itinera/itinera/expr/OccurrenceIsWithinPinLaw", name := "holds", desc := "(II)Z" } : Jvm.MethodName) method_3_code (2 : Nat) (Option.some Jvm.ClassFile.FieldType.boolean), Jvm.Cond.code ({ cls := "com/example/itinera/itinera/expr/OccurrenceIsWithinPinLaw", name := "pick", desc := "(I)Lcom/example/itinera/itinera/expr/SequenceType$Occurrence;" } : Jvm.MethodName) method_2_code (1 : Nat) (Option.some (Jvm.ClassFile.FieldType.object "com/example/itinera/itinera/expr/SequenceType$Occurrence")), Jvm.Cond.code ({ cls := "com/example/itinera/itinera/expr/SequenceType$Occurrence", name := "isWithin", desc := "(Lcom/example/itinera/itinera/expr/SequenceType$Occurrence;)Z" } : Jvm.MethodName) prog_182_method_7_code (2 : Nat) (Option.some Jvm.ClassFile.FieldType.boolean)]
set_option maxRecDepth 65536 in
theorem codes_eq : words1.filter isCode = codes1 := rfl
theorem w_codes : ∀ c ∈ words1.filter isCode, c.before args0 about1 = true := by
  rw [codes_eq]
  intro c hc
  simp only [codes1, List.mem_cons, List.not_mem_nil, or_false] at hc
  rcases hc with rfl | rfl | rfl | rfl | rfl
  · exact w_c0
  · exact w_c1
  · exact w_c2
  · exact w_c3
  · exact w_c4
set_option maxRecDepth 65536 in
theorem w_t1 : (words1.take 24).all (fun c => isCode c || c.before args0 about1) = true := by decide +kernel
set_option maxRecDepth 65536 in
theorem w_t2 : (words1.drop 24).all (fun c => isCode c || c.before args0 about1) = true := by decide +kernel
theorem w_tables : (allAtoms (Jvm.Cond.code x code maxLocals ret :: tables_1)).before args0 about1 = true := by
  rw [allAtoms_all]
  show words1.all (fun c => c.before args0 about1) = true
  refine all_split ?_ w_codes
  rw [← List.take_append_drop 24 words1, List.all_append, w_t1, w_t2]
  rfl
set_option maxRecDepth 65536 in
theorem w_case : (Jvm.Cond.and given_1 narrow_1).before args0 about1 = true := by decide +kernel
theorem w_applies : (headSpec (Jvm.Cond.code x code maxLocals ret :: tables_1) room_1).applies x e0.platform about1 = true :=
  (Spec.applies_iff w_frames).mpr ⟨w_running, w_runnable, w_alone, w_named, w_hears, w_ripe, w_room, w_tables⟩
theorem atStart : AtStart classFile x code maxLocals ret World_1 tables_1 room_1 Calls_1 rest_1 Pre_1 launch0 p0 e0 about1 theMethod args0 below0 :=
  ⟨lists_1, trivial, launch0.admits_env _ _ _, launch0.least_env, fairChoices_fair.cas, fairChoices_fair.clock, w_frames, w_args, w_heap, w_applies, trivial, trivial, w_case⟩
end start1
theorem witness_1 : WitnessClaimed_1 := ⟨start1.p0, start1.e0, start1.about1, start1.theMethod, start1.args0, start1.below0, start1.atStart⟩
end Jvm.Pilot.@@N@@
