import JvmDerived
import JvmDerived.Pilot.@@N@@Statement
import JvmDerived.Pilot.@@N@@Code
set_option linter.unusedVariables false
set_option linter.unusedSimpArgs false
namespace Jvm.Pilot.@@N@@
open Jvm Jvm.ClassFile Sem Op Lib Jvm.Free Jvm.Stand Jvm.LawKit Jvm.RoadKit Bundle Jvm.Pilot.@@N@@.Jvm.D
/-- what a return of the int z asks of the frames below -/
abbrev own_Rt (e : Env) (T : State) (m : MethodId) (fs : List Frame) (w : Value) : Prop := ∀ (f : JFrame) (acts : List Action), f.method = m → f.locked = none → f.entered = [] → (doReturn e (T.setTop f) acts (some w)).1 = T.setFrames fs
theorem d1_0 : decode prog_79_method_2_code 0 = .ok (.iload_n 0, 1) := by decide +kernel
theorem d1_1 : decode prog_79_method_2_code 1 = .ok (.sipush 128, 3) := by decide +kernel
theorem d1_4 : decode prog_79_method_2_code 4 = .ok (.if_icmp .ge 39, 3) := by decide +kernel
theorem d1_7 : decode prog_79_method_2_code 7 = .ok (.iload_n 0, 1) := by decide +kernel
theorem d1_8 : decode prog_79_method_2_code 8 = .ok (.bipush 97, 2) := by decide +kernel
theorem d1_10 : decode prog_79_method_2_code 10 = .ok (.if_icmp .lt 9, 3) := by decide +kernel
theorem d1_13 : decode prog_79_method_2_code 13 = .ok (.iload_n 0, 1) := by decide +kernel
theorem d1_14 : decode prog_79_method_2_code 14 = .ok (.bipush 122, 2) := by decide +kernel
theorem d1_16 : decode prog_79_method_2_code 16 = .ok (.if_icmp .le 21, 3) := by decide +kernel
theorem d1_19 : decode prog_79_method_2_code 19 = .ok (.iload_n 0, 1) := by decide +kernel
theorem d1_20 : decode prog_79_method_2_code 20 = .ok (.bipush 65, 2) := by decide +kernel
theorem d1_22 : decode prog_79_method_2_code 22 = .ok (.if_icmp .lt 9, 3) := by decide +kernel
theorem d1_25 : decode prog_79_method_2_code 25 = .ok (.iload_n 0, 1) := by decide +kernel
theorem d1_26 : decode prog_79_method_2_code 26 = .ok (.bipush 90, 2) := by decide +kernel
theorem d1_28 : decode prog_79_method_2_code 28 = .ok (.if_icmp .le 9, 3) := by decide +kernel
theorem d1_31 : decode prog_79_method_2_code 31 = .ok (.iload_n 0, 1) := by decide +kernel
theorem d1_32 : decode prog_79_method_2_code 32 = .ok (.bipush 95, 2) := by decide +kernel
theorem d1_34 : decode prog_79_method_2_code 34 = .ok (.if_icmp .ne 7, 3) := by decide +kernel
theorem d1_37 : decode prog_79_method_2_code 37 = .ok (.iconst 1, 1) := by decide +kernel
theorem d1_38 : decode prog_79_method_2_code 38 = .ok (.goto 4, 3) := by decide +kernel
theorem d1_41 : decode prog_79_method_2_code 41 = .ok (.iconst 0, 1) := by decide +kernel
theorem d1_42 : decode prog_79_method_2_code 42 = .ok (.ireturn, 1) := by decide +kernel
theorem d1_43 : decode prog_79_method_2_code 43 = .ok (.iload_n 0, 1) := by decide +kernel
theorem d1_44 : decode prog_79_method_2_code 44 = .ok (.sipush 192, 3) := by decide +kernel
theorem d1_47 : decode prog_79_method_2_code 47 = .ok (.if_icmp .lt 10, 3) := by decide +kernel
theorem d1_50 : decode prog_79_method_2_code 50 = .ok (.iload_n 0, 1) := by decide +kernel
theorem d1_51 : decode prog_79_method_2_code 51 = .ok (.sipush 214, 3) := by decide +kernel
theorem d1_54 : decode prog_79_method_2_code 54 = .ok (.if_icmp .le 150, 3) := by decide +kernel
theorem d1_57 : decode prog_79_method_2_code 57 = .ok (.iload_n 0, 1) := by decide +kernel
theorem d1_58 : decode prog_79_method_2_code 58 = .ok (.sipush 216, 3) := by decide +kernel
theorem d1_61 : decode prog_79_method_2_code 61 = .ok (.if_icmp .lt 10, 3) := by decide +kernel
theorem d1_64 : decode prog_79_method_2_code 64 = .ok (.iload_n 0, 1) := by decide +kernel
theorem d1_65 : decode prog_79_method_2_code 65 = .ok (.sipush 246, 3) := by decide +kernel
theorem d1_68 : decode prog_79_method_2_code 68 = .ok (.if_icmp .le 136, 3) := by decide +kernel
theorem d1_71 : decode prog_79_method_2_code 71 = .ok (.iload_n 0, 1) := by decide +kernel
theorem d1_72 : decode prog_79_method_2_code 72 = .ok (.sipush 248, 3) := by decide +kernel
theorem d1_75 : decode prog_79_method_2_code 75 = .ok (.if_icmp .lt 10, 3) := by decide +kernel
theorem d1_78 : decode prog_79_method_2_code 78 = .ok (.iload_n 0, 1) := by decide +kernel
theorem d1_79 : decode prog_79_method_2_code 79 = .ok (.sipush 767, 3) := by decide +kernel
theorem d1_82 : decode prog_79_method_2_code 82 = .ok (.if_icmp .le 122, 3) := by decide +kernel
theorem d1_85 : decode prog_79_method_2_code 85 = .ok (.iload_n 0, 1) := by decide +kernel
theorem d1_86 : decode prog_79_method_2_code 86 = .ok (.sipush 880, 3) := by decide +kernel
theorem d1_89 : decode prog_79_method_2_code 89 = .ok (.if_icmp .lt 10, 3) := by decide +kernel
theorem d1_92 : decode prog_79_method_2_code 92 = .ok (.iload_n 0, 1) := by decide +kernel
theorem d1_93 : decode prog_79_method_2_code 93 = .ok (.sipush 893, 3) := by decide +kernel
theorem d1_96 : decode prog_79_method_2_code 96 = .ok (.if_icmp .le 108, 3) := by decide +kernel
theorem d1_99 : decode prog_79_method_2_code 99 = .ok (.iload_n 0, 1) := by decide +kernel
theorem d1_100 : decode prog_79_method_2_code 100 = .ok (.sipush 895, 3) := by decide +kernel
theorem d1_103 : decode prog_79_method_2_code 103 = .ok (.if_icmp .lt 10, 3) := by decide +kernel
theorem d1_106 : decode prog_79_method_2_code 106 = .ok (.iload_n 0, 1) := by decide +kernel
theorem d1_107 : decode prog_79_method_2_code 107 = .ok (.sipush 8191, 3) := by decide +kernel
theorem d1_110 : decode prog_79_method_2_code 110 = .ok (.if_icmp .le 94, 3) := by decide +kernel
theorem d1_113 : decode prog_79_method_2_code 113 = .ok (.iload_n 0, 1) := by decide +kernel
theorem d1_114 : decode prog_79_method_2_code 114 = .ok (.sipush 8204, 3) := by decide +kernel
theorem d1_117 : decode prog_79_method_2_code 117 = .ok (.if_icmp .lt 10, 3) := by decide +kernel
theorem d1_120 : decode prog_79_method_2_code 120 = .ok (.iload_n 0, 1) := by decide +kernel
theorem d1_121 : decode prog_79_method_2_code 121 = .ok (.sipush 8205, 3) := by decide +kernel
theorem d1_124 : decode prog_79_method_2_code 124 = .ok (.if_icmp .le 80, 3) := by decide +kernel
theorem d1_127 : decode prog_79_method_2_code 127 = .ok (.iload_n 0, 1) := by decide +kernel
theorem d1_128 : decode prog_79_method_2_code 128 = .ok (.sipush 8304, 3) := by decide +kernel
theorem d1_131 : decode prog_79_method_2_code 131 = .ok (.if_icmp .lt 10, 3) := by decide +kernel
theorem d1_134 : decode prog_79_method_2_code 134 = .ok (.iload_n 0, 1) := by decide +kernel
theorem d1_135 : decode prog_79_method_2_code 135 = .ok (.sipush 8591, 3) := by decide +kernel
theorem d1_138 : decode prog_79_method_2_code 138 = .ok (.if_icmp .le 66, 3) := by decide +kernel
theorem d1_141 : decode prog_79_method_2_code 141 = .ok (.iload_n 0, 1) := by decide +kernel
theorem d1_142 : decode prog_79_method_2_code 142 = .ok (.sipush 11264, 3) := by decide +kernel
theorem d1_145 : decode prog_79_method_2_code 145 = .ok (.if_icmp .lt 10, 3) := by decide +kernel
theorem d1_148 : decode prog_79_method_2_code 148 = .ok (.iload_n 0, 1) := by decide +kernel
theorem d1_149 : decode prog_79_method_2_code 149 = .ok (.sipush 12271, 3) := by decide +kernel
theorem d1_152 : decode prog_79_method_2_code 152 = .ok (.if_icmp .le 52, 3) := by decide +kernel
theorem d1_155 : decode prog_79_method_2_code 155 = .ok (.iload_n 0, 1) := by decide +kernel
theorem d1_156 : decode prog_79_method_2_code 156 = .ok (.sipush 12289, 3) := by decide +kernel
theorem d1_159 : decode prog_79_method_2_code 159 = .ok (.if_icmp .lt 9, 3) := by decide +kernel
theorem d1_162 : decode prog_79_method_2_code 162 = .ok (.iload_n 0, 1) := by decide +kernel
theorem d1_163 : decode prog_79_method_2_code 163 = .ok (.ldc 7, 2) := by decide +kernel
theorem d1_165 : decode prog_79_method_2_code 165 = .ok (.if_icmp .le 39, 3) := by decide +kernel
theorem d1_168 : decode prog_79_method_2_code 168 = .ok (.iload_n 0, 1) := by decide +kernel
theorem d1_169 : decode prog_79_method_2_code 169 = .ok (.ldc 8, 2) := by decide +kernel
theorem d1_171 : decode prog_79_method_2_code 171 = .ok (.if_icmp .lt 9, 3) := by decide +kernel
theorem d1_174 : decode prog_79_method_2_code 174 = .ok (.iload_n 0, 1) := by decide +kernel
theorem d1_175 : decode prog_79_method_2_code 175 = .ok (.ldc 9, 2) := by decide +kernel
theorem d1_177 : decode prog_79_method_2_code 177 = .ok (.if_icmp .le 27, 3) := by decide +kernel
theorem d1_180 : decode prog_79_method_2_code 180 = .ok (.iload_n 0, 1) := by decide +kernel
theorem d1_181 : decode prog_79_method_2_code 181 = .ok (.ldc 10, 2) := by decide +kernel
theorem d1_183 : decode prog_79_method_2_code 183 = .ok (.if_icmp .lt 9, 3) := by decide +kernel
theorem d1_186 : decode prog_79_method_2_code 186 = .ok (.iload_n 0, 1) := by decide +kernel
theorem d1_187 : decode prog_79_method_2_code 187 = .ok (.ldc 11, 2) := by decide +kernel
theorem d1_189 : decode prog_79_method_2_code 189 = .ok (.if_icmp .le 15, 3) := by decide +kernel
theorem d1_192 : decode prog_79_method_2_code 192 = .ok (.iload_n 0, 1) := by decide +kernel
theorem d1_193 : decode prog_79_method_2_code 193 = .ok (.ldc 12, 2) := by decide +kernel
theorem d1_195 : decode prog_79_method_2_code 195 = .ok (.if_icmp .lt 13, 3) := by decide +kernel
theorem d1_198 : decode prog_79_method_2_code 198 = .ok (.iload_n 0, 1) := by decide +kernel
theorem d1_199 : decode prog_79_method_2_code 199 = .ok (.ldc 13, 2) := by decide +kernel
theorem d1_201 : decode prog_79_method_2_code 201 = .ok (.if_icmp .gt 7, 3) := by decide +kernel
theorem d1_204 : decode prog_79_method_2_code 204 = .ok (.iconst 1, 1) := by decide +kernel
theorem d1_205 : decode prog_79_method_2_code 205 = .ok (.goto 4, 3) := by decide +kernel
theorem d1_208 : decode prog_79_method_2_code 208 = .ok (.iconst 0, 1) := by decide +kernel
theorem d1_209 : decode prog_79_method_2_code 209 = .ok (.ireturn, 1) := by decide +kernel
theorem pn_1 : plainName "com/example/homespun_functions/homespunfunctions/xml/XmlNames" = true := by first | (simp [plainName, overriddenIn]; done) | decide +kernel
theorem ef_1 (m : MethodId) (x0 : Int32) : entryFrame m #[(.int x0)] 1 = (mkF m 0 #[.val (.int x0)] []) := by first | (simp [entryFrame, mkF, argsToLocals, Value.category]; done) | rfl
def f1_208 (v0 : Int32) : Int32 := (0 : Int32)
def f1_204 (v0 : Int32) : Int32 := (1 : Int32)
def f1_198 (v0 : Int32) : Int32 := if (983039 : Int32) < v0 then f1_208 v0 else f1_204 v0
def f1_192 (v0 : Int32) : Int32 := if v0 < (65536 : Int32) then f1_208 v0 else f1_198 v0
def f1_186 (v0 : Int32) : Int32 := if (65533 : Int32) < v0 then f1_192 v0 else f1_204 v0
def f1_180 (v0 : Int32) : Int32 := if v0 < (65008 : Int32) then f1_192 v0 else f1_186 v0
def f1_174 (v0 : Int32) : Int32 := if (64975 : Int32) < v0 then f1_180 v0 else f1_204 v0
def f1_168 (v0 : Int32) : Int32 := if v0 < (63744 : Int32) then f1_180 v0 else f1_174 v0
def f1_162 (v0 : Int32) : Int32 := if (55295 : Int32) < v0 then f1_168 v0 else f1_204 v0
def f1_155 (v0 : Int32) : Int32 := if v0 < (12289 : Int32) then f1_168 v0 else f1_162 v0
def f1_148 (v0 : Int32) : Int32 := if (12271 : Int32) < v0 then f1_155 v0 else f1_204 v0
def f1_141 (v0 : Int32) : Int32 := if v0 < (11264 : Int32) then f1_155 v0 else f1_148 v0
def f1_134 (v0 : Int32) : Int32 := if (8591 : Int32) < v0 then f1_141 v0 else f1_204 v0
def f1_127 (v0 : Int32) : Int32 := if v0 < (8304 : Int32) then f1_141 v0 else f1_134 v0
def f1_120 (v0 : Int32) : Int32 := if (8205 : Int32) < v0 then f1_127 v0 else f1_204 v0
def f1_113 (v0 : Int32) : Int32 := if v0 < (8204 : Int32) then f1_127 v0 else f1_120 v0
def f1_106 (v0 : Int32) : Int32 := if (8191 : Int32) < v0 then f1_113 v0 else f1_204 v0
def f1_99 (v0 : Int32) : Int32 := if v0 < (895 : Int32) then f1_113 v0 else f1_106 v0
def f1_92 (v0 : Int32) : Int32 := if (893 : Int32) < v0 then f1_99 v0 else f1_204 v0
def f1_85 (v0 : Int32) : Int32 := if v0 < (880 : Int32) then f1_99 v0 else f1_92 v0
def f1_78 (v0 : Int32) : Int32 := if (767 : Int32) < v0 then f1_85 v0 else f1_204 v0
def f1_71 (v0 : Int32) : Int32 := if v0 < (248 : Int32) then f1_85 v0 else f1_78 v0
def f1_64 (v0 : Int32) : Int32 := if (246 : Int32) < v0 then f1_71 v0 else f1_204 v0
def f1_57 (v0 : Int32) : Int32 := if v0 < (216 : Int32) then f1_71 v0 else f1_64 v0
def f1_50 (v0 : Int32) : Int32 := if (214 : Int32) < v0 then f1_57 v0 else f1_204 v0
def f1_43 (v0 : Int32) : Int32 := if v0 < (192 : Int32) then f1_57 v0 else f1_50 v0
def f1_41 (v0 : Int32) : Int32 := (0 : Int32)
def f1_37 (v0 : Int32) : Int32 := (1 : Int32)
def f1_31 (v0 : Int32) : Int32 := if v0 = (95 : Int32) then f1_37 v0 else f1_41 v0
def f1_25 (v0 : Int32) : Int32 := if (90 : Int32) < v0 then f1_31 v0 else f1_37 v0
def f1_19 (v0 : Int32) : Int32 := if v0 < (65 : Int32) then f1_31 v0 else f1_25 v0
def f1_13 (v0 : Int32) : Int32 := if (122 : Int32) < v0 then f1_19 v0 else f1_37 v0
def f1_7 (v0 : Int32) : Int32 := if v0 < (97 : Int32) then f1_19 v0 else f1_13 v0
def f1_0 (v0 : Int32) : Int32 := if v0 < (128 : Int32) then f1_7 v0 else f1_43 v0
section Own1
variable {p : Program} {l : Launch} {e : Env} {R : Room} {s : State} {m : MethodId} {args : Array Value} {below : List Frame} {meth : Method} {c : Code} {T : State} {locs : List Loc} {cells slots : Nat} {Z : State} {a0 : Array Value}
theorem g1_208 (X : Stand p l e R s m args below meth c T locs cells slots) (hx : p.tables.exec = Jvm.exec) (hby : c.code = prog_79_method_2_code) (hret : meth.sig.returnType = some .boolean) (hZ : Z.Warmed39 s.vm) (hown : s.vm.findClass "com/example/homespun_functions/homespunfunctions/xml/XmlNames" = some m.cls) (hw : ∀ d ∈ tables_1, d.before a0 Z = true) (v0 : Int32) {fs : List Frame} (hl : own_Rt e T m fs (.int (f1_208 v0))) : Steps p.tables e below (T.setTop (mkF m 208 #[.val (.int v0)] [])) (T.setFrames fs) := by
  show Steps p.tables e below (T.setTop (mkF m 208 #[.val (.int v0)] [])) _
  refine XS.iconst X.here hx rfl (hb hby d1_208) ?_
  show Steps p.tables e below (T.setTop (mkF m 209 #[.val (.int v0)] [(.int (0 : Int32))])) _
  exact retN X hx (t := .boolean) hret (by simp) (hb hby d1_209) hl
theorem g1_204 (X : Stand p l e R s m args below meth c T locs cells slots) (hx : p.tables.exec = Jvm.exec) (hby : c.code = prog_79_method_2_code) (hret : meth.sig.returnType = some .boolean) (hZ : Z.Warmed39 s.vm) (hown : s.vm.findClass "com/example/homespun_functions/homespunfunctions/xml/XmlNames" = some m.cls) (hw : ∀ d ∈ tables_1, d.before a0 Z = true) (v0 : Int32) {fs : List Frame} (hl : own_Rt e T m fs (.int (f1_204 v0))) : Steps p.tables e below (T.setTop (mkF m 204 #[.val (.int v0)] [])) (T.setFrames fs) := by
  show Steps p.tables e below (T.setTop (mkF m 204 #[.val (.int v0)] [])) _
  refine XS.iconst X.here hx rfl (hb hby d1_204) ?_
  show Steps p.tables e below (T.setTop (mkF m 205 #[.val (.int v0)] [(.int (1 : Int32))])) _
  refine XS.goto X.here hx rfl (pc0 := 205) (pc' := 209) rfl (hb hby d1_205) (by decide) (by decide) ?_
  show Steps p.tables e below (T.setTop (mkF m 209 #[.val (.int v0)] [(.int (1 : Int32))])) _
  exact retN X hx (t := .boolean) hret (by simp) (hb hby d1_209) hl
theorem g1_198 (X : Stand p l e R s m args below meth c T locs cells slots) (hx : p.tables.exec = Jvm.exec) (hby : c.code = prog_79_method_2_code) (hret : meth.sig.returnType = some .boolean) (hZ : Z.Warmed39 s.vm) (hown : s.vm.findClass "com/example/homespun_functions/homespunfunctions/xml/XmlNames" = some m.cls) (hw : ∀ d ∈ tables_1, d.before a0 Z = true) (v0 : Int32) {fs : List Frame} (hl : own_Rt e T m fs (.int (f1_198 v0))) : Steps p.tables e below (T.setTop (mkF m 198 #[.val (.int v0)] [])) (T.setFrames fs) := by
  show Steps p.tables e below (T.setTop (mkF m 198 #[.val (.int v0)] [])) _
  refine XS.iloadN X.here hx rfl (hb hby d1_198) rfl ?_
  show Steps p.tables e below (T.setTop (mkF m 199 #[.val (.int v0)] [(.int v0)])) _
  refine X.ldcI hx hown (mv hZ (hw _ (List.mem_of_getElem? (i := 20) rfl))) rfl (hb hby d1_199) ?_
  show Steps p.tables e below (T.setTop (mkF m 201 #[.val (.int v0)] [(.int (983039 : Int32)), (.int v0)])) _
  by_cases hc : (983039 : Int32) < v0
  · rw [show f1_198 v0 = f1_208 v0 from if_pos hc] at hl
    refine XS.icmpYes X.here hx rfl (pc0 := 201) (pc' := 208) rfl (hb hby d1_201) rfl (tlt hc).2.2.1 (by decide) (by decide) ?_
    exact g1_208 X hx hby hret hZ hown hw v0 hl
  · rw [show f1_198 v0 = f1_204 v0 from if_neg hc] at hl
    refine XS.icmpNo X.here hx rfl (hb hby d1_201) rfl (flt hc).2.2.1 ?_
    exact g1_204 X hx hby hret hZ hown hw v0 hl
theorem g1_192 (X : Stand p l e R s m args below meth c T locs cells slots) (hx : p.tables.exec = Jvm.exec) (hby : c.code = prog_79_method_2_code) (hret : meth.sig.returnType = some .boolean) (hZ : Z.Warmed39 s.vm) (hown : s.vm.findClass "com/example/homespun_functions/homespunfunctions/xml/XmlNames" = some m.cls) (hw : ∀ d ∈ tables_1, d.before a0 Z = true) (v0 : Int32) {fs : List Frame} (hl : own_Rt e T m fs (.int (f1_192 v0))) : Steps p.tables e below (T.setTop (mkF m 192 #[.val (.int v0)] [])) (T.setFrames fs) := by
  show Steps p.tables e below (T.setTop (mkF m 192 #[.val (.int v0)] [])) _
  refine XS.iloadN X.here hx rfl (hb hby d1_192) rfl ?_
  show Steps p.tables e below (T.setTop (mkF m 193 #[.val (.int v0)] [(.int v0)])) _
  refine X.ldcI hx hown (mv hZ (hw _ (List.mem_of_getElem? (i := 16) rfl))) rfl (hb hby d1_193) ?_
  show Steps p.tables e below (T.setTop (mkF m 195 #[.val (.int v0)] [(.int (65536 : Int32)), (.int v0)])) _
  by_cases hc : v0 < (65536 : Int32)
  · rw [show f1_192 v0 = f1_208 v0 from if_pos hc] at hl
    refine XS.icmpYes X.here hx rfl (pc0 := 195) (pc' := 208) rfl (hb hby d1_195) rfl (tlt hc).1 (by decide) (by decide) ?_
    exact g1_208 X hx hby hret hZ hown hw v0 hl
  · rw [show f1_192 v0 = f1_198 v0 from if_neg hc] at hl
    refine XS.icmpNo X.here hx rfl (hb hby d1_195) rfl (flt hc).1 ?_
    exact g1_198 X hx hby hret hZ hown hw v0 hl
theorem g1_186 (X : Stand p l e R s m args below meth c T locs cells slots) (hx : p.tables.exec = Jvm.exec) (hby : c.code = prog_79_method_2_code) (hret : meth.sig.returnType = some .boolean) (hZ : Z.Warmed39 s.vm) (hown : s.vm.findClass "com/example/homespun_functions/homespunfunctions/xml/XmlNames" = some m.cls) (hw : ∀ d ∈ tables_1, d.before a0 Z = true) (v0 : Int32) {fs : List Frame} (hl : own_Rt e T m fs (.int (f1_186 v0))) : Steps p.tables e below (T.setTop (mkF m 186 #[.val (.int v0)] [])) (T.setFrames fs) := by
  show Steps p.tables e below (T.setTop (mkF m 186 #[.val (.int v0)] [])) _
  refine XS.iloadN X.here hx rfl (hb hby d1_186) rfl ?_
  show Steps p.tables e below (T.setTop (mkF m 187 #[.val (.int v0)] [(.int v0)])) _
  refine X.ldcI hx hown (mv hZ (hw _ (List.mem_of_getElem? (i := 19) rfl))) rfl (hb hby d1_187) ?_
  show Steps p.tables e below (T.setTop (mkF m 189 #[.val (.int v0)] [(.int (65533 : Int32)), (.int v0)])) _
  by_cases hc : (65533 : Int32) < v0
  · rw [show f1_186 v0 = f1_192 v0 from if_pos hc] at hl
    refine XS.icmpNo X.here hx rfl (hb hby d1_189) rfl (tlt hc).2.2.2 ?_
    exact g1_192 X hx hby hret hZ hown hw v0 hl
  · rw [show f1_186 v0 = f1_204 v0 from if_neg hc] at hl
    refine XS.icmpYes X.here hx rfl (pc0 := 189) (pc' := 204) rfl (hb hby d1_189) rfl (flt hc).2.2.2 (by decide) (by decide) ?_
    exact g1_204 X hx hby hret hZ hown hw v0 hl
theorem g1_180 (X : Stand p l e R s m args below meth c T locs cells slots) (hx : p.tables.exec = Jvm.exec) (hby : c.code = prog_79_method_2_code) (hret : meth.sig.returnType = some .boolean) (hZ : Z.Warmed39 s.vm) (hown : s.vm.findClass "com/example/homespun_functions/homespunfunctions/xml/XmlNames" = some m.cls) (hw : ∀ d ∈ tables_1, d.before a0 Z = true) (v0 : Int32) {fs : List Frame} (hl : own_Rt e T m fs (.int (f1_180 v0))) : Steps p.tables e below (T.setTop (mkF m 180 #[.val (.int v0)] [])) (T.setFrames fs) := by
  show Steps p.tables e below (T.setTop (mkF m 180 #[.val (.int v0)] [])) _
  refine XS.iloadN X.here hx rfl (hb hby d1_180) rfl ?_
  show Steps p.tables e below (T.setTop (mkF m 181 #[.val (.int v0)] [(.int v0)])) _
  refine X.ldcI hx hown (mv hZ (hw _ (List.mem_of_getElem? (i := 15) rfl))) rfl (hb hby d1_181) ?_
  show Steps p.tables e below (T.setTop (mkF m 183 #[.val (.int v0)] [(.int (65008 : Int32)), (.int v0)])) _
  by_cases hc : v0 < (65008 : Int32)
  · rw [show f1_180 v0 = f1_192 v0 from if_pos hc] at hl
    refine XS.icmpYes X.here hx rfl (pc0 := 183) (pc' := 192) rfl (hb hby d1_183) rfl (tlt hc).1 (by decide) (by decide) ?_
    exact g1_192 X hx hby hret hZ hown hw v0 hl
  · rw [show f1_180 v0 = f1_186 v0 from if_neg hc] at hl
    refine XS.icmpNo X.here hx rfl (hb hby d1_183) rfl (flt hc).1 ?_
    exact g1_186 X hx hby hret hZ hown hw v0 hl
theorem g1_174 (X : Stand p l e R s m args below meth c T locs cells slots) (hx : p.tables.exec = Jvm.exec) (hby : c.code = prog_79_method_2_code) (hret : meth.sig.returnType = some .boolean) (hZ : Z.Warmed39 s.vm) (hown : s.vm.findClass "com/example/homespun_functions/homespunfunctions/xml/XmlNames" = some m.cls) (hw : ∀ d ∈ tables_1, d.before a0 Z = true) (v0 : Int32) {fs : List Frame} (hl : own_Rt e T m fs (.int (f1_174 v0))) : Steps p.tables e below (T.setTop (mkF m 174 #[.val (.int v0)] [])) (T.setFrames fs) := by
  show Steps p.tables e below (T.setTop (mkF m 174 #[.val (.int v0)] [])) _
  refine XS.iloadN X.here hx rfl (hb hby d1_174) rfl ?_
  show Steps p.tables e below (T.setTop (mkF m 175 #[.val (.int v0)] [(.int v0)])) _
  refine X.ldcI hx hown (mv hZ (hw _ (List.mem_of_getElem? (i := 18) rfl))) rfl (hb hby d1_175) ?_
  show Steps p.tables e below (T.setTop (mkF m 177 #[.val (.int v0)] [(.int (64975 : Int32)), (.int v0)])) _
  by_cases hc : (64975 : Int32) < v0
  · rw [show f1_174 v0 = f1_180 v0 from if_pos hc] at hl
    refine XS.icmpNo X.here hx rfl (hb hby d1_177) rfl (tlt hc).2.2.2 ?_
    exact g1_180 X hx hby hret hZ hown hw v0 hl
  · rw [show f1_174 v0 = f1_204 v0 from if_neg hc] at hl
    refine XS.icmpYes X.here hx rfl (pc0 := 177) (pc' := 204) rfl (hb hby d1_177) rfl (flt hc).2.2.2 (by decide) (by decide) ?_
    exact g1_204 X hx hby hret hZ hown hw v0 hl
theorem g1_168 (X : Stand p l e R s m args below meth c T locs cells slots) (hx : p.tables.exec = Jvm.exec) (hby : c.code = prog_79_method_2_code) (hret : meth.sig.returnType = some .boolean) (hZ : Z.Warmed39 s.vm) (hown : s.vm.findClass "com/example/homespun_functions/homespunfunctions/xml/XmlNames" = some m.cls) (hw : ∀ d ∈ tables_1, d.before a0 Z = true) (v0 : Int32) {fs : List Frame} (hl : own_Rt e T m fs (.int (f1_168 v0))) : Steps p.tables e below (T.setTop (mkF m 168 #[.val (.int v0)] [])) (T.setFrames fs) := by
  show Steps p.tables e below (T.setTop (mkF m 168 #[.val (.int v0)] [])) _
  refine XS.iloadN X.here hx rfl (hb hby d1_168) rfl ?_
  show Steps p.tables e below (T.setTop (mkF m 169 #[.val (.int v0)] [(.int v0)])) _
  refine X.ldcI hx hown (mv hZ (hw _ (List.mem_of_getElem? (i := 14) rfl))) rfl (hb hby d1_169) ?_
  show Steps p.tables e below (T.setTop (mkF m 171 #[.val (.int v0)] [(.int (63744 : Int32)), (.int v0)])) _
  by_cases hc : v0 < (63744 : Int32)
  · rw [show f1_168 v0 = f1_180 v0 from if_pos hc] at hl
    refine XS.icmpYes X.here hx rfl (pc0 := 171) (pc' := 180) rfl (hb hby d1_171) rfl (tlt hc).1 (by decide) (by decide) ?_
    exact g1_180 X hx hby hret hZ hown hw v0 hl
  · rw [show f1_168 v0 = f1_174 v0 from if_neg hc] at hl
    refine XS.icmpNo X.here hx rfl (hb hby d1_171) rfl (flt hc).1 ?_
    exact g1_174 X hx hby hret hZ hown hw v0 hl
theorem g1_162 (X : Stand p l e R s m args below meth c T locs cells slots) (hx : p.tables.exec = Jvm.exec) (hby : c.code = prog_79_method_2_code) (hret : meth.sig.returnType = some .boolean) (hZ : Z.Warmed39 s.vm) (hown : s.vm.findClass "com/example/homespun_functions/homespunfunctions/xml/XmlNames" = some m.cls) (hw : ∀ d ∈ tables_1, d.before a0 Z = true) (v0 : Int32) {fs : List Frame} (hl : own_Rt e T m fs (.int (f1_162 v0))) : Steps p.tables e below (T.setTop (mkF m 162 #[.val (.int v0)] [])) (T.setFrames fs) := by
  show Steps p.tables e below (T.setTop (mkF m 162 #[.val (.int v0)] [])) _
  refine XS.iloadN X.here hx rfl (hb hby d1_162) rfl ?_
  show Steps p.tables e below (T.setTop (mkF m 163 #[.val (.int v0)] [(.int v0)])) _
  refine X.ldcI hx hown (mv hZ (hw _ (List.mem_of_getElem? (i := 17) rfl))) rfl (hb hby d1_163) ?_
  show Steps p.tables e below (T.setTop (mkF m 165 #[.val (.int v0)] [(.int (55295 : Int32)), (.int v0)])) _
  by_cases hc : (55295 : Int32) < v0
  · rw [show f1_162 v0 = f1_168 v0 from if_pos hc] at hl
    refine XS.icmpNo X.here hx rfl (hb hby d1_165) rfl (tlt hc).2.2.2 ?_
    exact g1_168 X hx hby hret hZ hown hw v0 hl
  · rw [show f1_162 v0 = f1_204 v0 from if_neg hc] at hl
    refine XS.icmpYes X.here hx rfl (pc0 := 165) (pc' := 204) rfl (hb hby d1_165) rfl (flt hc).2.2.2 (by decide) (by decide) ?_
    exact g1_204 X hx hby hret hZ hown hw v0 hl
theorem g1_155 (X : Stand p l e R s m args below meth c T locs cells slots) (hx : p.tables.exec = Jvm.exec) (hby : c.code = prog_79_method_2_code) (hret : meth.sig.returnType = some .boolean) (hZ : Z.Warmed39 s.vm) (hown : s.vm.findClass "com/example/homespun_functions/homespunfunctions/xml/XmlNames" = some m.cls) (hw : ∀ d ∈ tables_1, d.before a0 Z = true) (v0 : Int32) {fs : List Frame} (hl : own_Rt e T m fs (.int (f1_155 v0))) : Steps p.tables e below (T.setTop (mkF m 155 #[.val (.int v0)] [])) (T.setFrames fs) := by
  show Steps p.tables e below (T.setTop (mkF m 155 #[.val (.int v0)] [])) _
  refine XS.iloadN X.here hx rfl (hb hby d1_155) rfl ?_
  show Steps p.tables e below (T.setTop (mkF m 156 #[.val (.int v0)] [(.int v0)])) _
  refine XS.sipush X.here hx rfl (hb hby d1_156) ?_
  show Steps p.tables e below (T.setTop (mkF m 159 #[.val (.int v0)] [(.int (12289 : Int32)), (.int v0)])) _
  by_cases hc : v0 < (12289 : Int32)
  · rw [show f1_155 v0 = f1_168 v0 from if_pos hc] at hl
    refine XS.icmpYes X.here hx rfl (pc0 := 159) (pc' := 168) rfl (hb hby d1_159) rfl (tlt hc).1 (by decide) (by decide) ?_
    exact g1_168 X hx hby hret hZ hown hw v0 hl
  · rw [show f1_155 v0 = f1_162 v0 from if_neg hc] at hl
    refine XS.icmpNo X.here hx rfl (hb hby d1_159) rfl (flt hc).1 ?_
    exact g1_162 X hx hby hret hZ hown hw v0 hl
theorem g1_148 (X : Stand p l e R s m args below meth c T locs cells slots) (hx : p.tables.exec = Jvm.exec) (hby : c.code = prog_79_method_2_code) (hret : meth.sig.returnType = some .boolean) (hZ : Z.Warmed39 s.vm) (hown : s.vm.findClass "com/example/homespun_functions/homespunfunctions/xml/XmlNames" = some m.cls) (hw : ∀ d ∈ tables_1, d.before a0 Z = true) (v0 : Int32) {fs : List Frame} (hl : own_Rt e T m fs (.int (f1_148 v0))) : Steps p.tables e below (T.setTop (mkF m 148 #[.val (.int v0)] [])) (T.setFrames fs) := by
  show Steps p.tables e below (T.setTop (mkF m 148 #[.val (.int v0)] [])) _
  refine XS.iloadN X.here hx rfl (hb hby d1_148) rfl ?_
  show Steps p.tables e below (T.setTop (mkF m 149 #[.val (.int v0)] [(.int v0)])) _
  refine XS.sipush X.here hx rfl (hb hby d1_149) ?_
  show Steps p.tables e below (T.setTop (mkF m 152 #[.val (.int v0)] [(.int (12271 : Int32)), (.int v0)])) _
  by_cases hc : (12271 : Int32) < v0
  · rw [show f1_148 v0 = f1_155 v0 from if_pos hc] at hl
    refine XS.icmpNo X.here hx rfl (hb hby d1_152) rfl (tlt hc).2.2.2 ?_
    exact g1_155 X hx hby hret hZ hown hw v0 hl
  · rw [show f1_148 v0 = f1_204 v0 from if_neg hc] at hl
    refine XS.icmpYes X.here hx rfl (pc0 := 152) (pc' := 204) rfl (hb hby d1_152) rfl (flt hc).2.2.2 (by decide) (by decide) ?_
    exact g1_204 X hx hby hret hZ hown hw v0 hl
theorem g1_141 (X : Stand p l e R s m args below meth c T locs cells slots) (hx : p.tables.exec = Jvm.exec) (hby : c.code = prog_79_method_2_code) (hret : meth.sig.returnType = some .boolean) (hZ : Z.Warmed39 s.vm) (hown : s.vm.findClass "com/example/homespun_functions/homespunfunctions/xml/XmlNames" = some m.cls) (hw : ∀ d ∈ tables_1, d.before a0 Z = true) (v0 : Int32) {fs : List Frame} (hl : own_Rt e T m fs (.int (f1_141 v0))) : Steps p.tables e below (T.setTop (mkF m 141 #[.val (.int v0)] [])) (T.setFrames fs) := by
  show Steps p.tables e below (T.setTop (mkF m 141 #[.val (.int v0)] [])) _
  refine XS.iloadN X.here hx rfl (hb hby d1_141) rfl ?_
  show Steps p.tables e below (T.setTop (mkF m 142 #[.val (.int v0)] [(.int v0)])) _
  refine XS.sipush X.here hx rfl (hb hby d1_142) ?_
  show Steps p.tables e below (T.setTop (mkF m 145 #[.val (.int v0)] [(.int (11264 : Int32)), (.int v0)])) _
  by_cases hc : v0 < (11264 : Int32)
  · rw [show f1_141 v0 = f1_155 v0 from if_pos hc] at hl
    refine XS.icmpYes X.here hx rfl (pc0 := 145) (pc' := 155) rfl (hb hby d1_145) rfl (tlt hc).1 (by decide) (by decide) ?_
    exact g1_155 X hx hby hret hZ hown hw v0 hl
  · rw [show f1_141 v0 = f1_148 v0 from if_neg hc] at hl
    refine XS.icmpNo X.here hx rfl (hb hby d1_145) rfl (flt hc).1 ?_
    exact g1_148 X hx hby hret hZ hown hw v0 hl
theorem g1_134 (X : Stand p l e R s m args below meth c T locs cells slots) (hx : p.tables.exec = Jvm.exec) (hby : c.code = prog_79_method_2_code) (hret : meth.sig.returnType = some .boolean) (hZ : Z.Warmed39 s.vm) (hown : s.vm.findClass "com/example/homespun_functions/homespunfunctions/xml/XmlNames" = some m.cls) (hw : ∀ d ∈ tables_1, d.before a0 Z = true) (v0 : Int32) {fs : List Frame} (hl : own_Rt e T m fs (.int (f1_134 v0))) : Steps p.tables e below (T.setTop (mkF m 134 #[.val (.int v0)] [])) (T.setFrames fs) := by
  show Steps p.tables e below (T.setTop (mkF m 134 #[.val (.int v0)] [])) _
  refine XS.iloadN X.here hx rfl (hb hby d1_134) rfl ?_
  show Steps p.tables e below (T.setTop (mkF m 135 #[.val (.int v0)] [(.int v0)])) _
  refine XS.sipush X.here hx rfl (hb hby d1_135) ?_
  show Steps p.tables e below (T.setTop (mkF m 138 #[.val (.int v0)] [(.int (8591 : Int32)), (.int v0)])) _
  by_cases hc : (8591 : Int32) < v0
  · rw [show f1_134 v0 = f1_141 v0 from if_pos hc] at hl
    refine XS.icmpNo X.here hx rfl (hb hby d1_138) rfl (tlt hc).2.2.2 ?_
    exact g1_141 X hx hby hret hZ hown hw v0 hl
  · rw [show f1_134 v0 = f1_204 v0 from if_neg hc] at hl
    refine XS.icmpYes X.here hx rfl (pc0 := 138) (pc' := 204) rfl (hb hby d1_138) rfl (flt hc).2.2.2 (by decide) (by decide) ?_
    exact g1_204 X hx hby hret hZ hown hw v0 hl
theorem g1_127 (X : Stand p l e R s m args below meth c T locs cells slots) (hx : p.tables.exec = Jvm.exec) (hby : c.code = prog_79_method_2_code) (hret : meth.sig.returnType = some .boolean) (hZ : Z.Warmed39 s.vm) (hown : s.vm.findClass "com/example/homespun_functions/homespunfunctions/xml/XmlNames" = some m.cls) (hw : ∀ d ∈ tables_1, d.before a0 Z = true) (v0 : Int32) {fs : List Frame} (hl : own_Rt e T m fs (.int (f1_127 v0))) : Steps p.tables e below (T.setTop (mkF m 127 #[.val (.int v0)] [])) (T.setFrames fs) := by
  show Steps p.tables e below (T.setTop (mkF m 127 #[.val (.int v0)] [])) _
  refine XS.iloadN X.here hx rfl (hb hby d1_127) rfl ?_
  show Steps p.tables e below (T.setTop (mkF m 128 #[.val (.int v0)] [(.int v0)])) _
  refine XS.sipush X.here hx rfl (hb hby d1_128) ?_
  show Steps p.tables e below (T.setTop (mkF m 131 #[.val (.int v0)] [(.int (8304 : Int32)), (.int v0)])) _
  by_cases hc : v0 < (8304 : Int32)
  · rw [show f1_127 v0 = f1_141 v0 from if_pos hc] at hl
    refine XS.icmpYes X.here hx rfl (pc0 := 131) (pc' := 141) rfl (hb hby d1_131) rfl (tlt hc).1 (by decide) (by decide) ?_
    exact g1_141 X hx hby hret hZ hown hw v0 hl
  · rw [show f1_127 v0 = f1_134 v0 from if_neg hc] at hl
    refine XS.icmpNo X.here hx rfl (hb hby d1_131) rfl (flt hc).1 ?_
    exact g1_134 X hx hby hret hZ hown hw v0 hl
theorem g1_120 (X : Stand p l e R s m args below meth c T locs cells slots) (hx : p.tables.exec = Jvm.exec) (hby : c.code = prog_79_method_2_code) (hret : meth.sig.returnType = some .boolean) (hZ : Z.Warmed39 s.vm) (hown : s.vm.findClass "com/example/homespun_functions/homespunfunctions/xml/XmlNames" = some m.cls) (hw : ∀ d ∈ tables_1, d.before a0 Z = true) (v0 : Int32) {fs : List Frame} (hl : own_Rt e T m fs (.int (f1_120 v0))) : Steps p.tables e below (T.setTop (mkF m 120 #[.val (.int v0)] [])) (T.setFrames fs) := by
  show Steps p.tables e below (T.setTop (mkF m 120 #[.val (.int v0)] [])) _
  refine XS.iloadN X.here hx rfl (hb hby d1_120) rfl ?_
  show Steps p.tables e below (T.setTop (mkF m 121 #[.val (.int v0)] [(.int v0)])) _
  refine XS.sipush X.here hx rfl (hb hby d1_121) ?_
  show Steps p.tables e below (T.setTop (mkF m 124 #[.val (.int v0)] [(.int (8205 : Int32)), (.int v0)])) _
  by_cases hc : (8205 : Int32) < v0
  · rw [show f1_120 v0 = f1_127 v0 from if_pos hc] at hl
    refine XS.icmpNo X.here hx rfl (hb hby d1_124) rfl (tlt hc).2.2.2 ?_
    exact g1_127 X hx hby hret hZ hown hw v0 hl
  · rw [show f1_120 v0 = f1_204 v0 from if_neg hc] at hl
    refine XS.icmpYes X.here hx rfl (pc0 := 124) (pc' := 204) rfl (hb hby d1_124) rfl (flt hc).2.2.2 (by decide) (by decide) ?_
    exact g1_204 X hx hby hret hZ hown hw v0 hl
theorem g1_113 (X : Stand p l e R s m args below meth c T locs cells slots) (hx : p.tables.exec = Jvm.exec) (hby : c.code = prog_79_method_2_code) (hret : meth.sig.returnType = some .boolean) (hZ : Z.Warmed39 s.vm) (hown : s.vm.findClass "com/example/homespun_functions/homespunfunctions/xml/XmlNames" = some m.cls) (hw : ∀ d ∈ tables_1, d.before a0 Z = true) (v0 : Int32) {fs : List Frame} (hl : own_Rt e T m fs (.int (f1_113 v0))) : Steps p.tables e below (T.setTop (mkF m 113 #[.val (.int v0)] [])) (T.setFrames fs) := by
  show Steps p.tables e below (T.setTop (mkF m 113 #[.val (.int v0)] [])) _
  refine XS.iloadN X.here hx rfl (hb hby d1_113) rfl ?_
  show Steps p.tables e below (T.setTop (mkF m 114 #[.val (.int v0)] [(.int v0)])) _
  refine XS.sipush X.here hx rfl (hb hby d1_114) ?_
  show Steps p.tables e below (T.setTop (mkF m 117 #[.val (.int v0)] [(.int (8204 : Int32)), (.int v0)])) _
  by_cases hc : v0 < (8204 : Int32)
  · rw [show f1_113 v0 = f1_127 v0 from if_pos hc] at hl
    refine XS.icmpYes X.here hx rfl (pc0 := 117) (pc' := 127) rfl (hb hby d1_117) rfl (tlt hc).1 (by decide) (by decide) ?_
    exact g1_127 X hx hby hret hZ hown hw v0 hl
  · rw [show f1_113 v0 = f1_120 v0 from if_neg hc] at hl
    refine XS.icmpNo X.here hx rfl (hb hby d1_117) rfl (flt hc).1 ?_
    exact g1_120 X hx hby hret hZ hown hw v0 hl
theorem g1_106 (X : Stand p l e R s m args below meth c T locs cells slots) (hx : p.tables.exec = Jvm.exec) (hby : c.code = prog_79_method_2_code) (hret : meth.sig.returnType = some .boolean) (hZ : Z.Warmed39 s.vm) (hown : s.vm.findClass "com/example/homespun_functions/homespunfunctions/xml/XmlNames" = some m.cls) (hw : ∀ d ∈ tables_1, d.before a0 Z = true) (v0 : Int32) {fs : List Frame} (hl : own_Rt e T m fs (.int (f1_106 v0))) : Steps p.tables e below (T.setTop (mkF m 106 #[.val (.int v0)] [])) (T.setFrames fs) := by
  show Steps p.tables e below (T.setTop (mkF m 106 #[.val (.int v0)] [])) _
  refine XS.iloadN X.here hx rfl (hb hby d1_106) rfl ?_
  show Steps p.tables e below (T.setTop (mkF m 107 #[.val (.int v0)] [(.int v0)])) _
  refine XS.sipush X.here hx rfl (hb hby d1_107) ?_
  show Steps p.tables e below (T.setTop (mkF m 110 #[.val (.int v0)] [(.int (8191 : Int32)), (.int v0)])) _
  by_cases hc : (8191 : Int32) < v0
  · rw [show f1_106 v0 = f1_113 v0 from if_pos hc] at hl
    refine XS.icmpNo X.here hx rfl (hb hby d1_110) rfl (tlt hc).2.2.2 ?_
    exact g1_113 X hx hby hret hZ hown hw v0 hl
  · rw [show f1_106 v0 = f1_204 v0 from if_neg hc] at hl
    refine XS.icmpYes X.here hx rfl (pc0 := 110) (pc' := 204) rfl (hb hby d1_110) rfl (flt hc).2.2.2 (by decide) (by decide) ?_
    exact g1_204 X hx hby hret hZ hown hw v0 hl
theorem g1_99 (X : Stand p l e R s m args below meth c T locs cells slots) (hx : p.tables.exec = Jvm.exec) (hby : c.code = prog_79_method_2_code) (hret : meth.sig.returnType = some .boolean) (hZ : Z.Warmed39 s.vm) (hown : s.vm.findClass "com/example/homespun_functions/homespunfunctions/xml/XmlNames" = some m.cls) (hw : ∀ d ∈ tables_1, d.before a0 Z = true) (v0 : Int32) {fs : List Frame} (hl : own_Rt e T m fs (.int (f1_99 v0))) : Steps p.tables e below (T.setTop (mkF m 99 #[.val (.int v0)] [])) (T.setFrames fs) := by
  show Steps p.tables e below (T.setTop (mkF m 99 #[.val (.int v0)] [])) _
  refine XS.iloadN X.here hx rfl (hb hby d1_99) rfl ?_
  show Steps p.tables e below (T.setTop (mkF m 100 #[.val (.int v0)] [(.int v0)])) _
  refine XS.sipush X.here hx rfl (hb hby d1_100) ?_
  show Steps p.tables e below (T.setTop (mkF m 103 #[.val (.int v0)] [(.int (895 : Int32)), (.int v0)])) _
  by_cases hc : v0 < (895 : Int32)
  · rw [show f1_99 v0 = f1_113 v0 from if_pos hc] at hl
    refine XS.icmpYes X.here hx rfl (pc0 := 103) (pc' := 113) rfl (hb hby d1_103) rfl (tlt hc).1 (by decide) (by decide) ?_
    exact g1_113 X hx hby hret hZ hown hw v0 hl
  · rw [show f1_99 v0 = f1_106 v0 from if_neg hc] at hl
    refine XS.icmpNo X.here hx rfl (hb hby d1_103) rfl (flt hc).1 ?_
    exact g1_106 X hx hby hret hZ hown hw v0 hl
theorem g1_92 (X : Stand p l e R s m args below meth c T locs cells slots) (hx : p.tables.exec = Jvm.exec) (hby : c.code = prog_79_method_2_code) (hret : meth.sig.returnType = some .boolean) (hZ : Z.Warmed39 s.vm) (hown : s.vm.findClass "com/example/homespun_functions/homespunfunctions/xml/XmlNames" = some m.cls) (hw : ∀ d ∈ tables_1, d.before a0 Z = true) (v0 : Int32) {fs : List Frame} (hl : own_Rt e T m fs (.int (f1_92 v0))) : Steps p.tables e below (T.setTop (mkF m 92 #[.val (.int v0)] [])) (T.setFrames fs) := by
  show Steps p.tables e below (T.setTop (mkF m 92 #[.val (.int v0)] [])) _
  refine XS.iloadN X.here hx rfl (hb hby d1_92) rfl ?_
  show Steps p.tables e below (T.setTop (mkF m 93 #[.val (.int v0)] [(.int v0)])) _
  refine XS.sipush X.here hx rfl (hb hby d1_93) ?_
  show Steps p.tables e below (T.setTop (mkF m 96 #[.val (.int v0)] [(.int (893 : Int32)), (.int v0)])) _
  by_cases hc : (893 : Int32) < v0
  · rw [show f1_92 v0 = f1_99 v0 from if_pos hc] at hl
    refine XS.icmpNo X.here hx rfl (hb hby d1_96) rfl (tlt hc).2.2.2 ?_
    exact g1_99 X hx hby hret hZ hown hw v0 hl
  · rw [show f1_92 v0 = f1_204 v0 from if_neg hc] at hl
    refine XS.icmpYes X.here hx rfl (pc0 := 96) (pc' := 204) rfl (hb hby d1_96) rfl (flt hc).2.2.2 (by decide) (by decide) ?_
    exact g1_204 X hx hby hret hZ hown hw v0 hl
theorem g1_85 (X : Stand p l e R s m args below meth c T locs cells slots) (hx : p.tables.exec = Jvm.exec) (hby : c.code = prog_79_method_2_code) (hret : meth.sig.returnType = some .boolean) (hZ : Z.Warmed39 s.vm) (hown : s.vm.findClass "com/example/homespun_functions/homespunfunctions/xml/XmlNames" = some m.cls) (hw : ∀ d ∈ tables_1, d.before a0 Z = true) (v0 : Int32) {fs : List Frame} (hl : own_Rt e T m fs (.int (f1_85 v0))) : Steps p.tables e below (T.setTop (mkF m 85 #[.val (.int v0)] [])) (T.setFrames fs) := by
  show Steps p.tables e below (T.setTop (mkF m 85 #[.val (.int v0)] [])) _
  refine XS.iloadN X.here hx rfl (hb hby d1_85) rfl ?_
  show Steps p.tables e below (T.setTop (mkF m 86 #[.val (.int v0)] [(.int v0)])) _
  refine XS.sipush X.here hx rfl (hb hby d1_86) ?_
  show Steps p.tables e below (T.setTop (mkF m 89 #[.val (.int v0)] [(.int (880 : Int32)), (.int v0)])) _
  by_cases hc : v0 < (880 : Int32)
  · rw [show f1_85 v0 = f1_99 v0 from if_pos hc] at hl
    refine XS.icmpYes X.here hx rfl (pc0 := 89) (pc' := 99) rfl (hb hby d1_89) rfl (tlt hc).1 (by decide) (by decide) ?_
    exact g1_99 X hx hby hret hZ hown hw v0 hl
  · rw [show f1_85 v0 = f1_92 v0 from if_neg hc] at hl
    refine XS.icmpNo X.here hx rfl (hb hby d1_89) rfl (flt hc).1 ?_
    exact g1_92 X hx hby hret hZ hown hw v0 hl
theorem g1_78 (X : Stand p l e R s m args below meth c T locs cells slots) (hx : p.tables.exec = Jvm.exec) (hby : c.code = prog_79_method_2_code) (hret : meth.sig.returnType = some .boolean) (hZ : Z.Warmed39 s.vm) (hown : s.vm.findClass "com/example/homespun_functions/homespunfunctions/xml/XmlNames" = some m.cls) (hw : ∀ d ∈ tables_1, d.before a0 Z = true) (v0 : Int32) {fs : List Frame} (hl : own_Rt e T m fs (.int (f1_78 v0))) : Steps p.tables e below (T.setTop (mkF m 78 #[.val (.int v0)] [])) (T.setFrames fs) := by
  show Steps p.tables e below (T.setTop (mkF m 78 #[.val (.int v0)] [])) _
  refine XS.iloadN X.here hx rfl (hb hby d1_78) rfl ?_
  show Steps p.tables e below (T.setTop (mkF m 79 #[.val (.int v0)] [(.int v0)])) _
  refine XS.sipush X.here hx rfl (hb hby d1_79) ?_
  show Steps p.tables e below (T.setTop (mkF m 82 #[.val (.int v0)] [(.int (767 : Int32)), (.int v0)])) _
  by_cases hc : (767 : Int32) < v0
  · rw [show f1_78 v0 = f1_85 v0 from if_pos hc] at hl
    refine XS.icmpNo X.here hx rfl (hb hby d1_82) rfl (tlt hc).2.2.2 ?_
    exact g1_85 X hx hby hret hZ hown hw v0 hl
  · rw [show f1_78 v0 = f1_204 v0 from if_neg hc] at hl
    refine XS.icmpYes X.here hx rfl (pc0 := 82) (pc' := 204) rfl (hb hby d1_82) rfl (flt hc).2.2.2 (by decide) (by decide) ?_
    exact g1_204 X hx hby hret hZ hown hw v0 hl
theorem g1_71 (X : Stand p l e R s m args below meth c T locs cells slots) (hx : p.tables.exec = Jvm.exec) (hby : c.code = prog_79_method_2_code) (hret : meth.sig.returnType = some .boolean) (hZ : Z.Warmed39 s.vm) (hown : s.vm.findClass "com/example/homespun_functions/homespunfunctions/xml/XmlNames" = some m.cls) (hw : ∀ d ∈ tables_1, d.before a0 Z = true) (v0 : Int32) {fs : List Frame} (hl : own_Rt e T m fs (.int (f1_71 v0))) : Steps p.tables e below (T.setTop (mkF m 71 #[.val (.int v0)] [])) (T.setFrames fs) := by
  show Steps p.tables e below (T.setTop (mkF m 71 #[.val (.int v0)] [])) _
  refine XS.iloadN X.here hx rfl (hb hby d1_71) rfl ?_
  show Steps p.tables e below (T.setTop (mkF m 72 #[.val (.int v0)] [(.int v0)])) _
  refine XS.sipush X.here hx rfl (hb hby d1_72) ?_
  show Steps p.tables e below (T.setTop (mkF m 75 #[.val (.int v0)] [(.int (248 : Int32)), (.int v0)])) _
  by_cases hc : v0 < (248 : Int32)
  · rw [show f1_71 v0 = f1_85 v0 from if_pos hc] at hl
    refine XS.icmpYes X.here hx rfl (pc0 := 75) (pc' := 85) rfl (hb hby d1_75) rfl (tlt hc).1 (by decide) (by decide) ?_
    exact g1_85 X hx hby hret hZ hown hw v0 hl
  · rw [show f1_71 v0 = f1_78 v0 from if_neg hc] at hl
    refine XS.icmpNo X.here hx rfl (hb hby d1_75) rfl (flt hc).1 ?_
    exact g1_78 X hx hby hret hZ hown hw v0 hl
theorem g1_64 (X : Stand p l e R s m args below meth c T locs cells slots) (hx : p.tables.exec = Jvm.exec) (hby : c.code = prog_79_method_2_code) (hret : meth.sig.returnType = some .boolean) (hZ : Z.Warmed39 s.vm) (hown : s.vm.findClass "com/example/homespun_functions/homespunfunctions/xml/XmlNames" = some m.cls) (hw : ∀ d ∈ tables_1, d.before a0 Z = true) (v0 : Int32) {fs : List Frame} (hl : own_Rt e T m fs (.int (f1_64 v0))) : Steps p.tables e below (T.setTop (mkF m 64 #[.val (.int v0)] [])) (T.setFrames fs) := by
  show Steps p.tables e below (T.setTop (mkF m 64 #[.val (.int v0)] [])) _
  refine XS.iloadN X.here hx rfl (hb hby d1_64) rfl ?_
  show Steps p.tables e below (T.setTop (mkF m 65 #[.val (.int v0)] [(.int v0)])) _
  refine XS.sipush X.here hx rfl (hb hby d1_65) ?_
  show Steps p.tables e below (T.setTop (mkF m 68 #[.val (.int v0)] [(.int (246 : Int32)), (.int v0)])) _
  by_cases hc : (246 : Int32) < v0
  · rw [show f1_64 v0 = f1_71 v0 from if_pos hc] at hl
    refine XS.icmpNo X.here hx rfl (hb hby d1_68) rfl (tlt hc).2.2.2 ?_
    exact g1_71 X hx hby hret hZ hown hw v0 hl
  · rw [show f1_64 v0 = f1_204 v0 from if_neg hc] at hl
    refine XS.icmpYes X.here hx rfl (pc0 := 68) (pc' := 204) rfl (hb hby d1_68) rfl (flt hc).2.2.2 (by decide) (by decide) ?_
    exact g1_204 X hx hby hret hZ hown hw v0 hl
theorem g1_57 (X : Stand p l e R s m args below meth c T locs cells slots) (hx : p.tables.exec = Jvm.exec) (hby : c.code = prog_79_method_2_code) (hret : meth.sig.returnType = some .boolean) (hZ : Z.Warmed39 s.vm) (hown : s.vm.findClass "com/example/homespun_functions/homespunfunctions/xml/XmlNames" = some m.cls) (hw : ∀ d ∈ tables_1, d.before a0 Z = true) (v0 : Int32) {fs : List Frame} (hl : own_Rt e T m fs (.int (f1_57 v0))) : Steps p.tables e below (T.setTop (mkF m 57 #[.val (.int v0)] [])) (T.setFrames fs) := by
  show Steps p.tables e below (T.setTop (mkF m 57 #[.val (.int v0)] [])) _
  refine XS.iloadN X.here hx rfl (hb hby d1_57) rfl ?_
  show Steps p.tables e below (T.setTop (mkF m 58 #[.val (.int v0)] [(.int v0)])) _
  refine XS.sipush X.here hx rfl (hb hby d1_58) ?_
  show Steps p.tables e below (T.setTop (mkF m 61 #[.val (.int v0)] [(.int (216 : Int32)), (.int v0)])) _
  by_cases hc : v0 < (216 : Int32)
  · rw [show f1_57 v0 = f1_71 v0 from if_pos hc] at hl
    refine XS.icmpYes X.here hx rfl (pc0 := 61) (pc' := 71) rfl (hb hby d1_61) rfl (tlt hc).1 (by decide) (by decide) ?_
    exact g1_71 X hx hby hret hZ hown hw v0 hl
  · rw [show f1_57 v0 = f1_64 v0 from if_neg hc] at hl
    refine XS.icmpNo X.here hx rfl (hb hby d1_61) rfl (flt hc).1 ?_
    exact g1_64 X hx hby hret hZ hown hw v0 hl
theorem g1_50 (X : Stand p l e R s m args below meth c T locs cells slots) (hx : p.tables.exec = Jvm.exec) (hby : c.code = prog_79_method_2_code) (hret : meth.sig.returnType = some .boolean) (hZ : Z.Warmed39 s.vm) (hown : s.vm.findClass "com/example/homespun_functions/homespunfunctions/xml/XmlNames" = some m.cls) (hw : ∀ d ∈ tables_1, d.before a0 Z = true) (v0 : Int32) {fs : List Frame} (hl : own_Rt e T m fs (.int (f1_50 v0))) : Steps p.tables e below (T.setTop (mkF m 50 #[.val (.int v0)] [])) (T.setFrames fs) := by
  show Steps p.tables e below (T.setTop (mkF m 50 #[.val (.int v0)] [])) _
  refine XS.iloadN X.here hx rfl (hb hby d1_50) rfl ?_
  show Steps p.tables e below (T.setTop (mkF m 51 #[.val (.int v0)] [(.int v0)])) _
  refine XS.sipush X.here hx rfl (hb hby d1_51) ?_
  show Steps p.tables e below (T.setTop (mkF m 54 #[.val (.int v0)] [(.int (214 : Int32)), (.int v0)])) _
  by_cases hc : (214 : Int32) < v0
  · rw [show f1_50 v0 = f1_57 v0 from if_pos hc] at hl
    refine XS.icmpNo X.here hx rfl (hb hby d1_54) rfl (tlt hc).2.2.2 ?_
    exact g1_57 X hx hby hret hZ hown hw v0 hl
  · rw [show f1_50 v0 = f1_204 v0 from if_neg hc] at hl
    refine XS.icmpYes X.here hx rfl (pc0 := 54) (pc' := 204) rfl (hb hby d1_54) rfl (flt hc).2.2.2 (by decide) (by decide) ?_
    exact g1_204 X hx hby hret hZ hown hw v0 hl
theorem g1_43 (X : Stand p l e R s m args below meth c T locs cells slots) (hx : p.tables.exec = Jvm.exec) (hby : c.code = prog_79_method_2_code) (hret : meth.sig.returnType = some .boolean) (hZ : Z.Warmed39 s.vm) (hown : s.vm.findClass "com/example/homespun_functions/homespunfunctions/xml/XmlNames" = some m.cls) (hw : ∀ d ∈ tables_1, d.before a0 Z = true) (v0 : Int32) {fs : List Frame} (hl : own_Rt e T m fs (.int (f1_43 v0))) : Steps p.tables e below (T.setTop (mkF m 43 #[.val (.int v0)] [])) (T.setFrames fs) := by
  show Steps p.tables e below (T.setTop (mkF m 43 #[.val (.int v0)] [])) _
  refine XS.iloadN X.here hx rfl (hb hby d1_43) rfl ?_
  show Steps p.tables e below (T.setTop (mkF m 44 #[.val (.int v0)] [(.int v0)])) _
  refine XS.sipush X.here hx rfl (hb hby d1_44) ?_
  show Steps p.tables e below (T.setTop (mkF m 47 #[.val (.int v0)] [(.int (192 : Int32)), (.int v0)])) _
  by_cases hc : v0 < (192 : Int32)
  · rw [show f1_43 v0 = f1_57 v0 from if_pos hc] at hl
    refine XS.icmpYes X.here hx rfl (pc0 := 47) (pc' := 57) rfl (hb hby d1_47) rfl (tlt hc).1 (by decide) (by decide) ?_
    exact g1_57 X hx hby hret hZ hown hw v0 hl
  · rw [show f1_43 v0 = f1_50 v0 from if_neg hc] at hl
    refine XS.icmpNo X.here hx rfl (hb hby d1_47) rfl (flt hc).1 ?_
    exact g1_50 X hx hby hret hZ hown hw v0 hl
theorem g1_41 (X : Stand p l e R s m args below meth c T locs cells slots) (hx : p.tables.exec = Jvm.exec) (hby : c.code = prog_79_method_2_code) (hret : meth.sig.returnType = some .boolean) (hZ : Z.Warmed39 s.vm) (hown : s.vm.findClass "com/example/homespun_functions/homespunfunctions/xml/XmlNames" = some m.cls) (hw : ∀ d ∈ tables_1, d.before a0 Z = true) (v0 : Int32) {fs : List Frame} (hl : own_Rt e T m fs (.int (f1_41 v0))) : Steps p.tables e below (T.setTop (mkF m 41 #[.val (.int v0)] [])) (T.setFrames fs) := by
  show Steps p.tables e below (T.setTop (mkF m 41 #[.val (.int v0)] [])) _
  refine XS.iconst X.here hx rfl (hb hby d1_41) ?_
  show Steps p.tables e below (T.setTop (mkF m 42 #[.val (.int v0)] [(.int (0 : Int32))])) _
  exact retN X hx (t := .boolean) hret (by simp) (hb hby d1_42) hl
theorem g1_37 (X : Stand p l e R s m args below meth c T locs cells slots) (hx : p.tables.exec = Jvm.exec) (hby : c.code = prog_79_method_2_code) (hret : meth.sig.returnType = some .boolean) (hZ : Z.Warmed39 s.vm) (hown : s.vm.findClass "com/example/homespun_functions/homespunfunctions/xml/XmlNames" = some m.cls) (hw : ∀ d ∈ tables_1, d.before a0 Z = true) (v0 : Int32) {fs : List Frame} (hl : own_Rt e T m fs (.int (f1_37 v0))) : Steps p.tables e below (T.setTop (mkF m 37 #[.val (.int v0)] [])) (T.setFrames fs) := by
  show Steps p.tables e below (T.setTop (mkF m 37 #[.val (.int v0)] [])) _
  refine XS.iconst X.here hx rfl (hb hby d1_37) ?_
  show Steps p.tables e below (T.setTop (mkF m 38 #[.val (.int v0)] [(.int (1 : Int32))])) _
  refine XS.goto X.here hx rfl (pc0 := 38) (pc' := 42) rfl (hb hby d1_38) (by decide) (by decide) ?_
  show Steps p.tables e below (T.setTop (mkF m 42 #[.val (.int v0)] [(.int (1 : Int32))])) _
  exact retN X hx (t := .boolean) hret (by simp) (hb hby d1_42) hl
theorem g1_31 (X : Stand p l e R s m args below meth c T locs cells slots) (hx : p.tables.exec = Jvm.exec) (hby : c.code = prog_79_method_2_code) (hret : meth.sig.returnType = some .boolean) (hZ : Z.Warmed39 s.vm) (hown : s.vm.findClass "com/example/homespun_functions/homespunfunctions/xml/XmlNames" = some m.cls) (hw : ∀ d ∈ tables_1, d.before a0 Z = true) (v0 : Int32) {fs : List Frame} (hl : own_Rt e T m fs (.int (f1_31 v0))) : Steps p.tables e below (T.setTop (mkF m 31 #[.val (.int v0)] [])) (T.setFrames fs) := by
  show Steps p.tables e below (T.setTop (mkF m 31 #[.val (.int v0)] [])) _
  refine XS.iloadN X.here hx rfl (hb hby d1_31) rfl ?_
  show Steps p.tables e below (T.setTop (mkF m 32 #[.val (.int v0)] [(.int v0)])) _
  refine XS.bipush X.here hx rfl (hb hby d1_32) ?_
  show Steps p.tables e below (T.setTop (mkF m 34 #[.val (.int v0)] [(.int (95 : Int32)), (.int v0)])) _
  by_cases hc : v0 = (95 : Int32)
  · rw [show f1_31 v0 = f1_37 v0 from if_pos hc] at hl
    refine XS.icmpNo X.here hx rfl (hb hby d1_34) rfl (teq hc).2 ?_
    exact g1_37 X hx hby hret hZ hown hw v0 hl
  · rw [show f1_31 v0 = f1_41 v0 from if_neg hc] at hl
    refine XS.icmpYes X.here hx rfl (pc0 := 34) (pc' := 41) rfl (hb hby d1_34) rfl (feq hc).2 (by decide) (by decide) ?_
    exact g1_41 X hx hby hret hZ hown hw v0 hl
theorem g1_25 (X : Stand p l e R s m args below meth c T locs cells slots) (hx : p.tables.exec = Jvm.exec) (hby : c.code = prog_79_method_2_code) (hret : meth.sig.returnType = some .boolean) (hZ : Z.Warmed39 s.vm) (hown : s.vm.findClass "com/example/homespun_functions/homespunfunctions/xml/XmlNames" = some m.cls) (hw : ∀ d ∈ tables_1, d.before a0 Z = true) (v0 : Int32) {fs : List Frame} (hl : own_Rt e T m fs (.int (f1_25 v0))) : Steps p.tables e below (T.setTop (mkF m 25 #[.val (.int v0)] [])) (T.setFrames fs) := by
  show Steps p.tables e below (T.setTop (mkF m 25 #[.val (.int v0)] [])) _
  refine XS.iloadN X.here hx rfl (hb hby d1_25) rfl ?_
  show Steps p.tables e below (T.setTop (mkF m 26 #[.val (.int v0)] [(.int v0)])) _
  refine XS.bipush X.here hx rfl (hb hby d1_26) ?_
  show Steps p.tables e below (T.setTop (mkF m 28 #[.val (.int v0)] [(.int (90 : Int32)), (.int v0)])) _
  by_cases hc : (90 : Int32) < v0
  · rw [show f1_25 v0 = f1_31 v0 from if_pos hc] at hl
    refine XS.icmpNo X.here hx rfl (hb hby d1_28) rfl (tlt hc).2.2.2 ?_
    exact g1_31 X hx hby hret hZ hown hw v0 hl
  · rw [show f1_25 v0 = f1_37 v0 from if_neg hc] at hl
    refine XS.icmpYes X.here hx rfl (pc0 := 28) (pc' := 37) rfl (hb hby d1_28) rfl (flt hc).2.2.2 (by decide) (by decide) ?_
    exact g1_37 X hx hby hret hZ hown hw v0 hl
theorem g1_19 (X : Stand p l e R s m args below meth c T locs cells slots) (hx : p.tables.exec = Jvm.exec) (hby : c.code = prog_79_method_2_code) (hret : meth.sig.returnType = some .boolean) (hZ : Z.Warmed39 s.vm) (hown : s.vm.findClass "com/example/homespun_functions/homespunfunctions/xml/XmlNames" = some m.cls) (hw : ∀ d ∈ tables_1, d.before a0 Z = true) (v0 : Int32) {fs : List Frame} (hl : own_Rt e T m fs (.int (f1_19 v0))) : Steps p.tables e below (T.setTop (mkF m 19 #[.val (.int v0)] [])) (T.setFrames fs) := by
  show Steps p.tables e below (T.setTop (mkF m 19 #[.val (.int v0)] [])) _
  refine XS.iloadN X.here hx rfl (hb hby d1_19) rfl ?_
  show Steps p.tables e below (T.setTop (mkF m 20 #[.val (.int v0)] [(.int v0)])) _
  refine XS.bipush X.here hx rfl (hb hby d1_20) ?_
  show Steps p.tables e below (T.setTop (mkF m 22 #[.val (.int v0)] [(.int (65 : Int32)), (.int v0)])) _
  by_cases hc : v0 < (65 : Int32)
  · rw [show f1_19 v0 = f1_31 v0 from if_pos hc] at hl
    refine XS.icmpYes X.here hx rfl (pc0 := 22) (pc' := 31) rfl (hb hby d1_22) rfl (tlt hc).1 (by decide) (by decide) ?_
    exact g1_31 X hx hby hret hZ hown hw v0 hl
  · rw [show f1_19 v0 = f1_25 v0 from if_neg hc] at hl
    refine XS.icmpNo X.here hx rfl (hb hby d1_22) rfl (flt hc).1 ?_
    exact g1_25 X hx hby hret hZ hown hw v0 hl
theorem g1_13 (X : Stand p l e R s m args below meth c T locs cells slots) (hx : p.tables.exec = Jvm.exec) (hby : c.code = prog_79_method_2_code) (hret : meth.sig.returnType = some .boolean) (hZ : Z.Warmed39 s.vm) (hown : s.vm.findClass "com/example/homespun_functions/homespunfunctions/xml/XmlNames" = some m.cls) (hw : ∀ d ∈ tables_1, d.before a0 Z = true) (v0 : Int32) {fs : List Frame} (hl : own_Rt e T m fs (.int (f1_13 v0))) : Steps p.tables e below (T.setTop (mkF m 13 #[.val (.int v0)] [])) (T.setFrames fs) := by
  show Steps p.tables e below (T.setTop (mkF m 13 #[.val (.int v0)] [])) _
  refine XS.iloadN X.here hx rfl (hb hby d1_13) rfl ?_
  show Steps p.tables e below (T.setTop (mkF m 14 #[.val (.int v0)] [(.int v0)])) _
  refine XS.bipush X.here hx rfl (hb hby d1_14) ?_
  show Steps p.tables e below (T.setTop (mkF m 16 #[.val (.int v0)] [(.int (122 : Int32)), (.int v0)])) _
  by_cases hc : (122 : Int32) < v0
  · rw [show f1_13 v0 = f1_19 v0 from if_pos hc] at hl
    refine XS.icmpNo X.here hx rfl (hb hby d1_16) rfl (tlt hc).2.2.2 ?_
    exact g1_19 X hx hby hret hZ hown hw v0 hl
  · rw [show f1_13 v0 = f1_37 v0 from if_neg hc] at hl
    refine XS.icmpYes X.here hx rfl (pc0 := 16) (pc' := 37) rfl (hb hby d1_16) rfl (flt hc).2.2.2 (by decide) (by decide) ?_
    exact g1_37 X hx hby hret hZ hown hw v0 hl
theorem g1_7 (X : Stand p l e R s m args below meth c T locs cells slots) (hx : p.tables.exec = Jvm.exec) (hby : c.code = prog_79_method_2_code) (hret : meth.sig.returnType = some .boolean) (hZ : Z.Warmed39 s.vm) (hown : s.vm.findClass "com/example/homespun_functions/homespunfunctions/xml/XmlNames" = some m.cls) (hw : ∀ d ∈ tables_1, d.before a0 Z = true) (v0 : Int32) {fs : List Frame} (hl : own_Rt e T m fs (.int (f1_7 v0))) : Steps p.tables e below (T.setTop (mkF m 7 #[.val (.int v0)] [])) (T.setFrames fs) := by
  show Steps p.tables e below (T.setTop (mkF m 7 #[.val (.int v0)] [])) _
  refine XS.iloadN X.here hx rfl (hb hby d1_7) rfl ?_
  show Steps p.tables e below (T.setTop (mkF m 8 #[.val (.int v0)] [(.int v0)])) _
  refine XS.bipush X.here hx rfl (hb hby d1_8) ?_
  show Steps p.tables e below (T.setTop (mkF m 10 #[.val (.int v0)] [(.int (97 : Int32)), (.int v0)])) _
  by_cases hc : v0 < (97 : Int32)
  · rw [show f1_7 v0 = f1_19 v0 from if_pos hc] at hl
    refine XS.icmpYes X.here hx rfl (pc0 := 10) (pc' := 19) rfl (hb hby d1_10) rfl (tlt hc).1 (by decide) (by decide) ?_
    exact g1_19 X hx hby hret hZ hown hw v0 hl
  · rw [show f1_7 v0 = f1_13 v0 from if_neg hc] at hl
    refine XS.icmpNo X.here hx rfl (hb hby d1_10) rfl (flt hc).1 ?_
    exact g1_13 X hx hby hret hZ hown hw v0 hl
theorem g1_0 (X : Stand p l e R s m args below meth c T locs cells slots) (hx : p.tables.exec = Jvm.exec) (hby : c.code = prog_79_method_2_code) (hret : meth.sig.returnType = some .boolean) (hZ : Z.Warmed39 s.vm) (hown : s.vm.findClass "com/example/homespun_functions/homespunfunctions/xml/XmlNames" = some m.cls) (hw : ∀ d ∈ tables_1, d.before a0 Z = true) (v0 : Int32) {fs : List Frame} (hl : own_Rt e T m fs (.int (f1_0 v0))) : Steps p.tables e below (T.setTop (mkF m 0 #[.val (.int v0)] [])) (T.setFrames fs) := by
  show Steps p.tables e below (T.setTop (mkF m 0 #[.val (.int v0)] [])) _
  refine XS.iloadN X.here hx rfl (hb hby d1_0) rfl ?_
  show Steps p.tables e below (T.setTop (mkF m 1 #[.val (.int v0)] [(.int v0)])) _
  refine XS.sipush X.here hx rfl (hb hby d1_1) ?_
  show Steps p.tables e below (T.setTop (mkF m 4 #[.val (.int v0)] [(.int (128 : Int32)), (.int v0)])) _
  by_cases hc : v0 < (128 : Int32)
  · rw [show f1_0 v0 = f1_7 v0 from if_pos hc] at hl
    refine XS.icmpNo X.here hx rfl (hb hby d1_4) rfl (tlt hc).2.1 ?_
    exact g1_7 X hx hby hret hZ hown hw v0 hl
  · rw [show f1_0 v0 = f1_43 v0 from if_neg hc] at hl
    refine XS.icmpYes X.here hx rfl (pc0 := 4) (pc' := 43) rfl (hb hby d1_4) rfl (flt hc).2.1 (by decide) (by decide) ?_
    exact g1_43 X hx hby hret hZ hown hw v0 hl
end Own1
def Q1 (v0 : Int32) (h0 : Heap) (n0 : Nat) (v : Option Value) (h : Heap) (L : List Loc) : Prop := v = some (.int (f1_0 v0)) ∧ Fr n0 L ∧ h = h0
set_option maxRecDepth 65536 in
set_option maxHeartbeats 40000000 in
theorem rm1 (l : Launch) (Z : State) (a0 : Array Value) (hw : ∀ d ∈ tables_1, d.before a0 Z = true) (ws : List Jvm.Cond) (v0 : Int32) (h0 : Heap) (n0 : Nat) (Z0 : n0 ≤ h0.size) :
    MetFree l (⟨"com/example/homespun_functions/homespunfunctions/xml/XmlNames", "isNCNameStartChar", "(I)Z"⟩ : MethodName) (head1 (Jvm.Cond.code (⟨"com/example/homespun_functions/homespunfunctions/xml/XmlNames", "isNCNameStartChar", "(I)Z"⟩ : MethodName) prog_79_method_2_code 1 (some .boolean) :: ws) ({ frames := 0, cells := 0, slots := 0, locals := 0 } : Room)) (fun a U => a = #[(.int v0)] ∧ Z.Warmed39 U.vm ∧ U.heap = h0) (fun _ _ _ _ _ => True) (fun _ U o U' => ∃ v L, o = .returned v ∧ Q1 v0 h0 n0 v U'.heap L ∧ FrameEnd U o U' L ({ frames := 0, cells := 0, slots := 0, locals := 0 } : Room).cells ({ frames := 0, cells := 0, slots := 0, locals := 0 } : Room).slots) := by
  refine MetFree.of_bodySF (plainFor_of_name pn_1) hisR ?_
  intro p e s m args below meth c s₁ Bd hml0 hP hK
  obtain ⟨rfl, hZ, hh⟩ := hP
  have hx := Bd.exec
  have hby := Bd.bytes
  have hown : s.vm.findClass "com/example/homespun_functions/homespunfunctions/xml/XmlNames" = some m.cls := findClass_of_methodNamed Bd.named
  have X0 : Stand p l e ({ frames := 0, cells := 0, slots := 0, locals := 0 } : Room) s m #[(.int v0)] below meth c s₁ [] 0 0 := Stand.of_body Bd
  have e0 : s₁.heap = h0 := by rw [← hh, Bd.state]; rfl
  have N0 := Fr.nil n0
  have pre0 : ∀ t, Steps p.tables e below (s₁.setTop (mkF m 0 #[.val (.int v0)] [])) t → Steps p.tables e below (s₁.setTop (entryFrame m #[(.int v0)] 1)) t := fun t k => castTop (ef_1 m v0) k
  obtain ⟨fs, hr, hrun, hended, hW, hsame⟩ := X0.leave (v := some (.int (f1_0 v0))) (fun h => by rw [Bd.returns] at h; cases h)
  refine ⟨_, _, pre0 _ ?_, hrun, hended, _, _, rfl, ?_, ⟨_, rfl⟩, hW, hsame.mono (by decide) (by decide)⟩
  · exact g1_0 X0 hx hby Bd.returns hZ hown hw v0 hr
  · show Q1 v0 h0 n0 _ s₁.heap _
    rw [e0]
    exact ⟨rfl, N0, rfl⟩
theorem pd_1 : parseMethodDescriptor "(I)Z" = some ⟨[.int], some .boolean⟩ := by decide +kernel
theorem d2_0 : decode method_2_code 0 = .ok (.iload_n 0, 1) := by decide +kernel
theorem d2_1 : decode method_2_code 1 = .ok (.ifCond .ge 5, 3) := by decide +kernel
theorem d2_4 : decode method_2_code 4 = .ok (.iconst 1, 1) := by decide +kernel
theorem d2_5 : decode method_2_code 5 = .ok (.ireturn, 1) := by decide +kernel
theorem d2_6 : decode method_2_code 6 = .ok (.iload_n 0, 1) := by decide +kernel
theorem d2_7 : decode method_2_code 7 = .ok (.bipush 64, 2) := by decide +kernel
theorem d2_9 : decode method_2_code 9 = .ok (.if_icmp .gt 5, 3) := by decide +kernel
theorem d2_12 : decode method_2_code 12 = .ok (.iconst 1, 1) := by decide +kernel
theorem d2_13 : decode method_2_code 13 = .ok (.ireturn, 1) := by decide +kernel
theorem d2_14 : decode method_2_code 14 = .ok (.iload_n 0, 1) := by decide +kernel
theorem d2_15 : decode method_2_code 15 = .ok (.bipush 91, 2) := by decide +kernel
theorem d2_17 : decode method_2_code 17 = .ok (.if_icmp .lt 11, 3) := by decide +kernel
theorem d2_20 : decode method_2_code 20 = .ok (.iload_n 0, 1) := by decide +kernel
theorem d2_21 : decode method_2_code 21 = .ok (.bipush 94, 2) := by decide +kernel
theorem d2_23 : decode method_2_code 23 = .ok (.if_icmp .gt 5, 3) := by decide +kernel
theorem d2_26 : decode method_2_code 26 = .ok (.iconst 1, 1) := by decide +kernel
theorem d2_27 : decode method_2_code 27 = .ok (.ireturn, 1) := by decide +kernel
theorem d2_28 : decode method_2_code 28 = .ok (.iload_n 0, 1) := by decide +kernel
theorem d2_29 : decode method_2_code 29 = .ok (.bipush 96, 2) := by decide +kernel
theorem d2_31 : decode method_2_code 31 = .ok (.if_icmp .ne 5, 3) := by decide +kernel
theorem d2_34 : decode method_2_code 34 = .ok (.iconst 1, 1) := by decide +kernel
theorem d2_35 : decode method_2_code 35 = .ok (.ireturn, 1) := by decide +kernel
theorem d2_36 : decode method_2_code 36 = .ok (.iload_n 0, 1) := by decide +kernel
theorem d2_37 : decode method_2_code 37 = .ok (.bipush 123, 2) := by decide +kernel
theorem d2_39 : decode method_2_code 39 = .ok (.if_icmp .lt 12, 3) := by decide +kernel
theorem d2_42 : decode method_2_code 42 = .ok (.iload_n 0, 1) := by decide +kernel
theorem d2_43 : decode method_2_code 43 = .ok (.sipush 191, 3) := by decide +kernel
theorem d2_46 : decode method_2_code 46 = .ok (.if_icmp .gt 5, 3) := by decide +kernel
theorem d2_49 : decode method_2_code 49 = .ok (.iconst 1, 1) := by decide +kernel
theorem d2_50 : decode method_2_code 50 = .ok (.ireturn, 1) := by decide +kernel
theorem d2_51 : decode method_2_code 51 = .ok (.iload_n 0, 1) := by decide +kernel
theorem d2_52 : decode method_2_code 52 = .ok (.sipush 215, 3) := by decide +kernel
theorem d2_55 : decode method_2_code 55 = .ok (.if_icmp .eq 10, 3) := by decide +kernel
theorem d2_58 : decode method_2_code 58 = .ok (.iload_n 0, 1) := by decide +kernel
theorem d2_59 : decode method_2_code 59 = .ok (.sipush 247, 3) := by decide +kernel
theorem d2_62 : decode method_2_code 62 = .ok (.if_icmp .ne 5, 3) := by decide +kernel
theorem d2_65 : decode method_2_code 65 = .ok (.iconst 1, 1) := by decide +kernel
theorem d2_66 : decode method_2_code 66 = .ok (.ireturn, 1) := by decide +kernel
theorem d2_67 : decode method_2_code 67 = .ok (.iload_n 0, 1) := by decide +kernel
theorem d2_68 : decode method_2_code 68 = .ok (.sipush 768, 3) := by decide +kernel
theorem d2_71 : decode method_2_code 71 = .ok (.if_icmp .lt 12, 3) := by decide +kernel
theorem d2_74 : decode method_2_code 74 = .ok (.iload_n 0, 1) := by decide +kernel
theorem d2_75 : decode method_2_code 75 = .ok (.sipush 879, 3) := by decide +kernel
theorem d2_78 : decode method_2_code 78 = .ok (.if_icmp .gt 5, 3) := by decide +kernel
theorem d2_81 : decode method_2_code 81 = .ok (.iconst 1, 1) := by decide +kernel
theorem d2_82 : decode method_2_code 82 = .ok (.ireturn, 1) := by decide +kernel
theorem d2_83 : decode method_2_code 83 = .ok (.iload_n 0, 1) := by decide +kernel
theorem d2_84 : decode method_2_code 84 = .ok (.sipush 894, 3) := by decide +kernel
theorem d2_87 : decode method_2_code 87 = .ok (.if_icmp .ne 5, 3) := by decide +kernel
theorem d2_90 : decode method_2_code 90 = .ok (.iconst 1, 1) := by decide +kernel
theorem d2_91 : decode method_2_code 91 = .ok (.ireturn, 1) := by decide +kernel
theorem d2_92 : decode method_2_code 92 = .ok (.iload_n 0, 1) := by decide +kernel
theorem d2_93 : decode method_2_code 93 = .ok (.sipush 8192, 3) := by decide +kernel
theorem d2_96 : decode method_2_code 96 = .ok (.if_icmp .lt 12, 3) := by decide +kernel
theorem d2_99 : decode method_2_code 99 = .ok (.iload_n 0, 1) := by decide +kernel
theorem d2_100 : decode method_2_code 100 = .ok (.sipush 8203, 3) := by decide +kernel
theorem d2_103 : decode method_2_code 103 = .ok (.if_icmp .gt 5, 3) := by decide +kernel
theorem d2_106 : decode method_2_code 106 = .ok (.iconst 1, 1) := by decide +kernel
theorem d2_107 : decode method_2_code 107 = .ok (.ireturn, 1) := by decide +kernel
theorem d2_108 : decode method_2_code 108 = .ok (.iload_n 0, 1) := by decide +kernel
theorem d2_109 : decode method_2_code 109 = .ok (.sipush 8206, 3) := by decide +kernel
theorem d2_112 : decode method_2_code 112 = .ok (.if_icmp .lt 12, 3) := by decide +kernel
theorem d2_115 : decode method_2_code 115 = .ok (.iload_n 0, 1) := by decide +kernel
theorem d2_116 : decode method_2_code 116 = .ok (.sipush 8303, 3) := by decide +kernel
theorem d2_119 : decode method_2_code 119 = .ok (.if_icmp .gt 5, 3) := by decide +kernel
theorem d2_122 : decode method_2_code 122 = .ok (.iconst 1, 1) := by decide +kernel
theorem d2_123 : decode method_2_code 123 = .ok (.ireturn, 1) := by decide +kernel
theorem d2_124 : decode method_2_code 124 = .ok (.iload_n 0, 1) := by decide +kernel
theorem d2_125 : decode method_2_code 125 = .ok (.sipush 8592, 3) := by decide +kernel
theorem d2_128 : decode method_2_code 128 = .ok (.if_icmp .lt 12, 3) := by decide +kernel
theorem d2_131 : decode method_2_code 131 = .ok (.iload_n 0, 1) := by decide +kernel
theorem d2_132 : decode method_2_code 132 = .ok (.sipush 11263, 3) := by decide +kernel
theorem d2_135 : decode method_2_code 135 = .ok (.if_icmp .gt 5, 3) := by decide +kernel
theorem d2_138 : decode method_2_code 138 = .ok (.iconst 1, 1) := by decide +kernel
theorem d2_139 : decode method_2_code 139 = .ok (.ireturn, 1) := by decide +kernel
theorem d2_140 : decode method_2_code 140 = .ok (.iload_n 0, 1) := by decide +kernel
theorem d2_141 : decode method_2_code 141 = .ok (.sipush 12272, 3) := by decide +kernel
theorem d2_144 : decode method_2_code 144 = .ok (.if_icmp .lt 12, 3) := by decide +kernel
theorem d2_147 : decode method_2_code 147 = .ok (.iload_n 0, 1) := by decide +kernel
theorem d2_148 : decode method_2_code 148 = .ok (.sipush 12288, 3) := by decide +kernel
theorem d2_151 : decode method_2_code 151 = .ok (.if_icmp .gt 5, 3) := by decide +kernel
theorem d2_154 : decode method_2_code 154 = .ok (.iconst 1, 1) := by decide +kernel
theorem d2_155 : decode method_2_code 155 = .ok (.ireturn, 1) := by decide +kernel
theorem d2_156 : decode method_2_code 156 = .ok (.iload_n 0, 1) := by decide +kernel
theorem d2_157 : decode method_2_code 157 = .ok (.ldc 7, 2) := by decide +kernel
theorem d2_159 : decode method_2_code 159 = .ok (.if_icmp .lt 11, 3) := by decide +kernel
theorem d2_162 : decode method_2_code 162 = .ok (.iload_n 0, 1) := by decide +kernel
theorem d2_163 : decode method_2_code 163 = .ok (.ldc 8, 2) := by decide +kernel
theorem d2_165 : decode method_2_code 165 = .ok (.if_icmp .gt 5, 3) := by decide +kernel
theorem d2_168 : decode method_2_code 168 = .ok (.iconst 1, 1) := by decide +kernel
theorem d2_169 : decode method_2_code 169 = .ok (.ireturn, 1) := by decide +kernel
theorem d2_170 : decode method_2_code 170 = .ok (.iload_n 0, 1) := by decide +kernel
theorem d2_171 : decode method_2_code 171 = .ok (.ldc 9, 2) := by decide +kernel
theorem d2_173 : decode method_2_code 173 = .ok (.if_icmp .lt 11, 3) := by decide +kernel
theorem d2_176 : decode method_2_code 176 = .ok (.iload_n 0, 1) := by decide +kernel
theorem d2_177 : decode method_2_code 177 = .ok (.ldc 10, 2) := by decide +kernel
theorem d2_179 : decode method_2_code 179 = .ok (.if_icmp .gt 5, 3) := by decide +kernel
theorem d2_182 : decode method_2_code 182 = .ok (.iconst 1, 1) := by decide +kernel
theorem d2_183 : decode method_2_code 183 = .ok (.ireturn, 1) := by decide +kernel
theorem d2_184 : decode method_2_code 184 = .ok (.iload_n 0, 1) := by decide +kernel
theorem d2_185 : decode method_2_code 185 = .ok (.ldc 11, 2) := by decide +kernel
theorem d2_187 : decode method_2_code 187 = .ok (.if_icmp .eq 9, 3) := by decide +kernel
theorem d2_190 : decode method_2_code 190 = .ok (.iload_n 0, 1) := by decide +kernel
theorem d2_191 : decode method_2_code 191 = .ok (.ldc 12, 2) := by decide +kernel
theorem d2_193 : decode method_2_code 193 = .ok (.if_icmp .ne 5, 3) := by decide +kernel
theorem d2_196 : decode method_2_code 196 = .ok (.iconst 1, 1) := by decide +kernel
theorem d2_197 : decode method_2_code 197 = .ok (.ireturn, 1) := by decide +kernel
theorem d2_198 : decode method_2_code 198 = .ok (.iload_n 0, 1) := by decide +kernel
theorem d2_199 : decode method_2_code 199 = .ok (.ldc 13, 2) := by decide +kernel
theorem d2_201 : decode method_2_code 201 = .ok (.if_icmp .lt 5, 3) := by decide +kernel
theorem d2_204 : decode method_2_code 204 = .ok (.iconst 1, 1) := by decide +kernel
theorem d2_205 : decode method_2_code 205 = .ok (.ireturn, 1) := by decide +kernel
theorem d2_206 : decode method_2_code 206 = .ok (.iconst 0, 1) := by decide +kernel
theorem d2_207 : decode method_2_code 207 = .ok (.ireturn, 1) := by decide +kernel
theorem pn_2 : plainName "com/example/homespun_functions/homespunfunctions/xml/XmlNamesIsNCNameStartCharPinLaw" = true := by first | (simp [plainName, overriddenIn]; done) | decide +kernel
theorem ef_2 (m : MethodId) (x0 : Int32) : entryFrame m #[(.int x0)] 1 = (mkF m 0 #[.val (.int x0)] []) := by first | (simp [entryFrame, mkF, argsToLocals, Value.category]; done) | rfl
def f2_206 (v0 : Int32) : Int32 := (0 : Int32)
def f2_204 (v0 : Int32) : Int32 := (1 : Int32)
def f2_198 (v0 : Int32) : Int32 := if v0 < (983040 : Int32) then f2_206 v0 else f2_204 v0
def f2_196 (v0 : Int32) : Int32 := (1 : Int32)
def f2_190 (v0 : Int32) : Int32 := if v0 = (65535 : Int32) then f2_196 v0 else f2_198 v0
def f2_184 (v0 : Int32) : Int32 := if v0 = (65534 : Int32) then f2_196 v0 else f2_190 v0
def f2_182 (v0 : Int32) : Int32 := (1 : Int32)
def f2_176 (v0 : Int32) : Int32 := if (65007 : Int32) < v0 then f2_184 v0 else f2_182 v0
def f2_170 (v0 : Int32) : Int32 := if v0 < (64976 : Int32) then f2_184 v0 else f2_176 v0
def f2_168 (v0 : Int32) : Int32 := (1 : Int32)
def f2_162 (v0 : Int32) : Int32 := if (63743 : Int32) < v0 then f2_170 v0 else f2_168 v0
def f2_156 (v0 : Int32) : Int32 := if v0 < (55296 : Int32) then f2_170 v0 else f2_162 v0
def f2_154 (v0 : Int32) : Int32 := (1 : Int32)
def f2_147 (v0 : Int32) : Int32 := if (12288 : Int32) < v0 then f2_156 v0 else f2_154 v0
def f2_140 (v0 : Int32) : Int32 := if v0 < (12272 : Int32) then f2_156 v0 else f2_147 v0
def f2_138 (v0 : Int32) : Int32 := (1 : Int32)
def f2_131 (v0 : Int32) : Int32 := if (11263 : Int32) < v0 then f2_140 v0 else f2_138 v0
def f2_124 (v0 : Int32) : Int32 := if v0 < (8592 : Int32) then f2_140 v0 else f2_131 v0
def f2_122 (v0 : Int32) : Int32 := (1 : Int32)
def f2_115 (v0 : Int32) : Int32 := if (8303 : Int32) < v0 then f2_124 v0 else f2_122 v0
def f2_108 (v0 : Int32) : Int32 := if v0 < (8206 : Int32) then f2_124 v0 else f2_115 v0
def f2_106 (v0 : Int32) : Int32 := (1 : Int32)
def f2_99 (v0 : Int32) : Int32 := if (8203 : Int32) < v0 then f2_108 v0 else f2_106 v0
def f2_92 (v0 : Int32) : Int32 := if v0 < (8192 : Int32) then f2_108 v0 else f2_99 v0
def f2_90 (v0 : Int32) : Int32 := (1 : Int32)
def f2_83 (v0 : Int32) : Int32 := if v0 = (894 : Int32) then f2_90 v0 else f2_92 v0
def f2_81 (v0 : Int32) : Int32 := (1 : Int32)
def f2_74 (v0 : Int32) : Int32 := if (879 : Int32) < v0 then f2_83 v0 else f2_81 v0
def f2_67 (v0 : Int32) : Int32 := if v0 < (768 : Int32) then f2_83 v0 else f2_74 v0
def f2_65 (v0 : Int32) : Int32 := (1 : Int32)
def f2_58 (v0 : Int32) : Int32 := if v0 = (247 : Int32) then f2_65 v0 else f2_67 v0
def f2_51 (v0 : Int32) : Int32 := if v0 = (215 : Int32) then f2_65 v0 else f2_58 v0
def f2_49 (v0 : Int32) : Int32 := (1 : Int32)
def f2_42 (v0 : Int32) : Int32 := if (191 : Int32) < v0 then f2_51 v0 else f2_49 v0
def f2_36 (v0 : Int32) : Int32 := if v0 < (123 : Int32) then f2_51 v0 else f2_42 v0
def f2_34 (v0 : Int32) : Int32 := (1 : Int32)
def f2_28 (v0 : Int32) : Int32 := if v0 = (96 : Int32) then f2_34 v0 else f2_36 v0
def f2_26 (v0 : Int32) : Int32 := (1 : Int32)
def f2_20 (v0 : Int32) : Int32 := if (94 : Int32) < v0 then f2_28 v0 else f2_26 v0
def f2_14 (v0 : Int32) : Int32 := if v0 < (91 : Int32) then f2_28 v0 else f2_20 v0
def f2_12 (v0 : Int32) : Int32 := (1 : Int32)
def f2_6 (v0 : Int32) : Int32 := if (64 : Int32) < v0 then f2_14 v0 else f2_12 v0
def f2_4 (v0 : Int32) : Int32 := (1 : Int32)
def f2_0 (v0 : Int32) : Int32 := if v0 < (0 : Int32) then f2_4 v0 else f2_6 v0
section Own2
variable {p : Program} {l : Launch} {e : Env} {R : Room} {s : State} {m : MethodId} {args : Array Value} {below : List Frame} {meth : Method} {c : Code} {T : State} {locs : List Loc} {cells slots : Nat} {Z : State} {a0 : Array Value}
theorem g2_206 (X : Stand p l e R s m args below meth c T locs cells slots) (hx : p.tables.exec = Jvm.exec) (hby : c.code = method_2_code) (hret : meth.sig.returnType = some .boolean) (hZ : Z.Warmed39 s.vm) (hown : s.vm.findClass "com/example/homespun_functions/homespunfunctions/xml/XmlNamesIsNCNameStartCharPinLaw" = some m.cls) (hw : ∀ d ∈ tables_1, d.before a0 Z = true) (v0 : Int32) {fs : List Frame} (hl : own_Rt e T m fs (.int (f2_206 v0))) : Steps p.tables e below (T.setTop (mkF m 206 #[.val (.int v0)] [])) (T.setFrames fs) := by
  show Steps p.tables e below (T.setTop (mkF m 206 #[.val (.int v0)] [])) _
  refine XS.iconst X.here hx rfl (hb hby d2_206) ?_
  show Steps p.tables e below (T.setTop (mkF m 207 #[.val (.int v0)] [(.int (0 : Int32))])) _
  exact retN X hx (t := .boolean) hret (by simp) (hb hby d2_207) hl
theorem g2_204 (X : Stand p l e R s m args below meth c T locs cells slots) (hx : p.tables.exec = Jvm.exec) (hby : c.code = method_2_code) (hret : meth.sig.returnType = some .boolean) (hZ : Z.Warmed39 s.vm) (hown : s.vm.findClass "com/example/homespun_functions/homespunfunctions/xml/XmlNamesIsNCNameStartCharPinLaw" = some m.cls) (hw : ∀ d ∈ tables_1, d.before a0 Z = true) (v0 : Int32) {fs : List Frame} (hl : own_Rt e T m fs (.int (f2_204 v0))) : Steps p.tables e below (T.setTop (mkF m 204 #[.val (.int v0)] [])) (T.setFrames fs) := by
  show Steps p.tables e below (T.setTop (mkF m 204 #[.val (.int v0)] [])) _
  refine XS.iconst X.here hx rfl (hb hby d2_204) ?_
  show Steps p.tables e below (T.setTop (mkF m 205 #[.val (.int v0)] [(.int (1 : Int32))])) _
  exact retN X hx (t := .boolean) hret (by simp) (hb hby d2_205) hl
theorem g2_198 (X : Stand p l e R s m args below meth c T locs cells slots) (hx : p.tables.exec = Jvm.exec) (hby : c.code = method_2_code) (hret : meth.sig.returnType = some .boolean) (hZ : Z.Warmed39 s.vm) (hown : s.vm.findClass "com/example/homespun_functions/homespunfunctions/xml/XmlNamesIsNCNameStartCharPinLaw" = some m.cls) (hw : ∀ d ∈ tables_1, d.before a0 Z = true) (v0 : Int32) {fs : List Frame} (hl : own_Rt e T m fs (.int (f2_198 v0))) : Steps p.tables e below (T.setTop (mkF m 198 #[.val (.int v0)] [])) (T.setFrames fs) := by
  show Steps p.tables e below (T.setTop (mkF m 198 #[.val (.int v0)] [])) _
  refine XS.iloadN X.here hx rfl (hb hby d2_198) rfl ?_
  show Steps p.tables e below (T.setTop (mkF m 199 #[.val (.int v0)] [(.int v0)])) _
  refine X.ldcI hx hown (mv hZ (hw _ (List.mem_of_getElem? (i := 13) rfl))) rfl (hb hby d2_199) ?_
  show Steps p.tables e below (T.setTop (mkF m 201 #[.val (.int v0)] [(.int (983040 : Int32)), (.int v0)])) _
  by_cases hc : v0 < (983040 : Int32)
  · rw [show f2_198 v0 = f2_206 v0 from if_pos hc] at hl
    refine XS.icmpYes X.here hx rfl (pc0 := 201) (pc' := 206) rfl (hb hby d2_201) rfl (tlt hc).1 (by decide) (by decide) ?_
    exact g2_206 X hx hby hret hZ hown hw v0 hl
  · rw [show f2_198 v0 = f2_204 v0 from if_neg hc] at hl
    refine XS.icmpNo X.here hx rfl (hb hby d2_201) rfl (flt hc).1 ?_
    exact g2_204 X hx hby hret hZ hown hw v0 hl
theorem g2_196 (X : Stand p l e R s m args below meth c T locs cells slots) (hx : p.tables.exec = Jvm.exec) (hby : c.code = method_2_code) (hret : meth.sig.returnType = some .boolean) (hZ : Z.Warmed39 s.vm) (hown : s.vm.findClass "com/example/homespun_functions/homespunfunctions/xml/XmlNamesIsNCNameStartCharPinLaw" = some m.cls) (hw : ∀ d ∈ tables_1, d.before a0 Z = true) (v0 : Int32) {fs : List Frame} (hl : own_Rt e T m fs (.int (f2_196 v0))) : Steps p.tables e below (T.setTop (mkF m 196 #[.val (.int v0)] [])) (T.setFrames fs) := by
  show Steps p.tables e below (T.setTop (mkF m 196 #[.val (.int v0)] [])) _
  refine XS.iconst X.here hx rfl (hb hby d2_196) ?_
  show Steps p.tables e below (T.setTop (mkF m 197 #[.val (.int v0)] [(.int (1 : Int32))])) _
  exact retN X hx (t := .boolean) hret (by simp) (hb hby d2_197) hl
theorem g2_190 (X : Stand p l e R s m args below meth c T locs cells slots) (hx : p.tables.exec = Jvm.exec) (hby : c.code = method_2_code) (hret : meth.sig.returnType = some .boolean) (hZ : Z.Warmed39 s.vm) (hown : s.vm.findClass "com/example/homespun_functions/homespunfunctions/xml/XmlNamesIsNCNameStartCharPinLaw" = some m.cls) (hw : ∀ d ∈ tables_1, d.before a0 Z = true) (v0 : Int32) {fs : List Frame} (hl : own_Rt e T m fs (.int (f2_190 v0))) : Steps p.tables e below (T.setTop (mkF m 190 #[.val (.int v0)] [])) (T.setFrames fs) := by
  show Steps p.tables e below (T.setTop (mkF m 190 #[.val (.int v0)] [])) _
  refine XS.iloadN X.here hx rfl (hb hby d2_190) rfl ?_
  show Steps p.tables e below (T.setTop (mkF m 191 #[.val (.int v0)] [(.int v0)])) _
  refine X.ldcI hx hown (mv hZ (hw _ (List.mem_of_getElem? (i := 12) rfl))) rfl (hb hby d2_191) ?_
  show Steps p.tables e below (T.setTop (mkF m 193 #[.val (.int v0)] [(.int (65535 : Int32)), (.int v0)])) _
  by_cases hc : v0 = (65535 : Int32)
  · rw [show f2_190 v0 = f2_196 v0 from if_pos hc] at hl
    refine XS.icmpNo X.here hx rfl (hb hby d2_193) rfl (teq hc).2 ?_
    exact g2_196 X hx hby hret hZ hown hw v0 hl
  · rw [show f2_190 v0 = f2_198 v0 from if_neg hc] at hl
    refine XS.icmpYes X.here hx rfl (pc0 := 193) (pc' := 198) rfl (hb hby d2_193) rfl (feq hc).2 (by decide) (by decide) ?_
    exact g2_198 X hx hby hret hZ hown hw v0 hl
theorem g2_184 (X : Stand p l e R s m args below meth c T locs cells slots) (hx : p.tables.exec = Jvm.exec) (hby : c.code = method_2_code) (hret : meth.sig.returnType = some .boolean) (hZ : Z.Warmed39 s.vm) (hown : s.vm.findClass "com/example/homespun_functions/homespunfunctions/xml/XmlNamesIsNCNameStartCharPinLaw" = some m.cls) (hw : ∀ d ∈ tables_1, d.before a0 Z = true) (v0 : Int32) {fs : List Frame} (hl : own_Rt e T m fs (.int (f2_184 v0))) : Steps p.tables e below (T.setTop (mkF m 184 #[.val (.int v0)] [])) (T.setFrames fs) := by
  show Steps p.tables e below (T.setTop (mkF m 184 #[.val (.int v0)] [])) _
  refine XS.iloadN X.here hx rfl (hb hby d2_184) rfl ?_
  show Steps p.tables e below (T.setTop (mkF m 185 #[.val (.int v0)] [(.int v0)])) _
  refine X.ldcI hx hown (mv hZ (hw _ (List.mem_of_getElem? (i := 11) rfl))) rfl (hb hby d2_185) ?_
  show Steps p.tables e below (T.setTop (mkF m 187 #[.val (.int v0)] [(.int (65534 : Int32)), (.int v0)])) _
  by_cases hc : v0 = (65534 : Int32)
  · rw [show f2_184 v0 = f2_196 v0 from if_pos hc] at hl
    refine XS.icmpYes X.here hx rfl (pc0 := 187) (pc' := 196) rfl (hb hby d2_187) rfl (teq hc).1 (by decide) (by decide) ?_
    exact g2_196 X hx hby hret hZ hown hw v0 hl
  · rw [show f2_184 v0 = f2_190 v0 from if_neg hc] at hl
    refine XS.icmpNo X.here hx rfl (hb hby d2_187) rfl (feq hc).1 ?_
    exact g2_190 X hx hby hret hZ hown hw v0 hl
theorem g2_182 (X : Stand p l e R s m args below meth c T locs cells slots) (hx : p.tables.exec = Jvm.exec) (hby : c.code = method_2_code) (hret : meth.sig.returnType = some .boolean) (hZ : Z.Warmed39 s.vm) (hown : s.vm.findClass "com/example/homespun_functions/homespunfunctions/xml/XmlNamesIsNCNameStartCharPinLaw" = some m.cls) (hw : ∀ d ∈ tables_1, d.before a0 Z = true) (v0 : Int32) {fs : List Frame} (hl : own_Rt e T m fs (.int (f2_182 v0))) : Steps p.tables e below (T.setTop (mkF m 182 #[.val (.int v0)] [])) (T.setFrames fs) := by
  show Steps p.tables e below (T.setTop (mkF m 182 #[.val (.int v0)] [])) _
  refine XS.iconst X.here hx rfl (hb hby d2_182) ?_
  show Steps p.tables e below (T.setTop (mkF m 183 #[.val (.int v0)] [(.int (1 : Int32))])) _
  exact retN X hx (t := .boolean) hret (by simp) (hb hby d2_183) hl
theorem g2_176 (X : Stand p l e R s m args below meth c T locs cells slots) (hx : p.tables.exec = Jvm.exec) (hby : c.code = method_2_code) (hret : meth.sig.returnType = some .boolean) (hZ : Z.Warmed39 s.vm) (hown : s.vm.findClass "com/example/homespun_functions/homespunfunctions/xml/XmlNamesIsNCNameStartCharPinLaw" = some m.cls) (hw : ∀ d ∈ tables_1, d.before a0 Z = true) (v0 : Int32) {fs : List Frame} (hl : own_Rt e T m fs (.int (f2_176 v0))) : Steps p.tables e below (T.setTop (mkF m 176 #[.val (.int v0)] [])) (T.setFrames fs) := by
  show Steps p.tables e below (T.setTop (mkF m 176 #[.val (.int v0)] [])) _
  refine XS.iloadN X.here hx rfl (hb hby d2_176) rfl ?_
  show Steps p.tables e below (T.setTop (mkF m 177 #[.val (.int v0)] [(.int v0)])) _
  refine X.ldcI hx hown (mv hZ (hw _ (List.mem_of_getElem? (i := 22) rfl))) rfl (hb hby d2_177) ?_
  show Steps p.tables e below (T.setTop (mkF m 179 #[.val (.int v0)] [(.int (65007 : Int32)), (.int v0)])) _
  by_cases hc : (65007 : Int32) < v0
  · rw [show f2_176 v0 = f2_184 v0 from if_pos hc] at hl
    refine XS.icmpYes X.here hx rfl (pc0 := 179) (pc' := 184) rfl (hb hby d2_179) rfl (tlt hc).2.2.1 (by decide) (by decide) ?_
    exact g2_184 X hx hby hret hZ hown hw v0 hl
  · rw [show f2_176 v0 = f2_182 v0 from if_neg hc] at hl
    refine XS.icmpNo X.here hx rfl (hb hby d2_179) rfl (flt hc).2.2.1 ?_
    exact g2_182 X hx hby hret hZ hown hw v0 hl
theorem g2_170 (X : Stand p l e R s m args below meth c T locs cells slots) (hx : p.tables.exec = Jvm.exec) (hby : c.code = method_2_code) (hret : meth.sig.returnType = some .boolean) (hZ : Z.Warmed39 s.vm) (hown : s.vm.findClass "com/example/homespun_functions/homespunfunctions/xml/XmlNamesIsNCNameStartCharPinLaw" = some m.cls) (hw : ∀ d ∈ tables_1, d.before a0 Z = true) (v0 : Int32) {fs : List Frame} (hl : own_Rt e T m fs (.int (f2_170 v0))) : Steps p.tables e below (T.setTop (mkF m 170 #[.val (.int v0)] [])) (T.setFrames fs) := by
  show Steps p.tables e below (T.setTop (mkF m 170 #[.val (.int v0)] [])) _
  refine XS.iloadN X.here hx rfl (hb hby d2_170) rfl ?_
  show Steps p.tables e below (T.setTop (mkF m 171 #[.val (.int v0)] [(.int v0)])) _
  refine X.ldcI hx hown (mv hZ (hw _ (List.mem_of_getElem? (i := 10) rfl))) rfl (hb hby d2_171) ?_
  show Steps p.tables e below (T.setTop (mkF m 173 #[.val (.int v0)] [(.int (64976 : Int32)), (.int v0)])) _
  by_cases hc : v0 < (64976 : Int32)
  · rw [show f2_170 v0 = f2_184 v0 from if_pos hc] at hl
    refine XS.icmpYes X.here hx rfl (pc0 := 173) (pc' := 184) rfl (hb hby d2_173) rfl (tlt hc).1 (by decide) (by decide) ?_
    exact g2_184 X hx hby hret hZ hown hw v0 hl
  · rw [show f2_170 v0 = f2_176 v0 from if_neg hc] at hl
    refine XS.icmpNo X.here hx rfl (hb hby d2_173) rfl (flt hc).1 ?_
    exact g2_176 X hx hby hret hZ hown hw v0 hl
theorem g2_168 (X : Stand p l e R s m args below meth c T locs cells slots) (hx : p.tables.exec = Jvm.exec) (hby : c.code = method_2_code) (hret : meth.sig.returnType = some .boolean) (hZ : Z.Warmed39 s.vm) (hown : s.vm.findClass "com/example/homespun_functions/homespunfunctions/xml/XmlNamesIsNCNameStartCharPinLaw" = some m.cls) (hw : ∀ d ∈ tables_1, d.before a0 Z = true) (v0 : Int32) {fs : List Frame} (hl : own_Rt e T m fs (.int (f2_168 v0))) : Steps p.tables e below (T.setTop (mkF m 168 #[.val (.int v0)] [])) (T.setFrames fs) := by
  show Steps p.tables e below (T.setTop (mkF m 168 #[.val (.int v0)] [])) _
  refine XS.iconst X.here hx rfl (hb hby d2_168) ?_
  show Steps p.tables e below (T.setTop (mkF m 169 #[.val (.int v0)] [(.int (1 : Int32))])) _
  exact retN X hx (t := .boolean) hret (by simp) (hb hby d2_169) hl
theorem g2_162 (X : Stand p l e R s m args below meth c T locs cells slots) (hx : p.tables.exec = Jvm.exec) (hby : c.code = method_2_code) (hret : meth.sig.returnType = some .boolean) (hZ : Z.Warmed39 s.vm) (hown : s.vm.findClass "com/example/homespun_functions/homespunfunctions/xml/XmlNamesIsNCNameStartCharPinLaw" = some m.cls) (hw : ∀ d ∈ tables_1, d.before a0 Z = true) (v0 : Int32) {fs : List Frame} (hl : own_Rt e T m fs (.int (f2_162 v0))) : Steps p.tables e below (T.setTop (mkF m 162 #[.val (.int v0)] [])) (T.setFrames fs) := by
  show Steps p.tables e below (T.setTop (mkF m 162 #[.val (.int v0)] [])) _
  refine XS.iloadN X.here hx rfl (hb hby d2_162) rfl ?_
  show Steps p.tables e below (T.setTop (mkF m 163 #[.val (.int v0)] [(.int v0)])) _
  refine X.ldcI hx hown (mv hZ (hw _ (List.mem_of_getElem? (i := 21) rfl))) rfl (hb hby d2_163) ?_
  show Steps p.tables e below (T.setTop (mkF m 165 #[.val (.int v0)] [(.int (63743 : Int32)), (.int v0)])) _
  by_cases hc : (63743 : Int32) < v0
  · rw [show f2_162 v0 = f2_170 v0 from if_pos hc] at hl
    refine XS.icmpYes X.here hx rfl (pc0 := 165) (pc' := 170) rfl (hb hby d2_165) rfl (tlt hc).2.2.1 (by decide) (by decide) ?_
    exact g2_170 X hx hby hret hZ hown hw v0 hl
  · rw [show f2_162 v0 = f2_168 v0 from if_neg hc] at hl
    refine XS.icmpNo X.here hx rfl (hb hby d2_165) rfl (flt hc).2.2.1 ?_
    exact g2_168 X hx hby hret hZ hown hw v0 hl
theorem g2_156 (X : Stand p l e R s m args below meth c T locs cells slots) (hx : p.tables.exec = Jvm.exec) (hby : c.code = method_2_code) (hret : meth.sig.returnType = some .boolean) (hZ : Z.Warmed39 s.vm) (hown : s.vm.findClass "com/example/homespun_functions/homespunfunctions/xml/XmlNamesIsNCNameStartCharPinLaw" = some m.cls) (hw : ∀ d ∈ tables_1, d.before a0 Z = true) (v0 : Int32) {fs : List Frame} (hl : own_Rt e T m fs (.int (f2_156 v0))) : Steps p.tables e below (T.setTop (mkF m 156 #[.val (.int v0)] [])) (T.setFrames fs) := by
  show Steps p.tables e below (T.setTop (mkF m 156 #[.val (.int v0)] [])) _
  refine XS.iloadN X.here hx rfl (hb hby d2_156) rfl ?_
  show Steps p.tables e below (T.setTop (mkF m 157 #[.val (.int v0)] [(.int v0)])) _
  refine X.ldcI hx hown (mv hZ (hw _ (List.mem_of_getElem? (i := 9) rfl))) rfl (hb hby d2_157) ?_
  show Steps p.tables e below (T.setTop (mkF m 159 #[.val (.int v0)] [(.int (55296 : Int32)), (.int v0)])) _
  by_cases hc : v0 < (55296 : Int32)
  · rw [show f2_156 v0 = f2_170 v0 from if_pos hc] at hl
    refine XS.icmpYes X.here hx rfl (pc0 := 159) (pc' := 170) rfl (hb hby d2_159) rfl (tlt hc).1 (by decide) (by decide) ?_
    exact g2_170 X hx hby hret hZ hown hw v0 hl
  · rw [show f2_156 v0 = f2_162 v0 from if_neg hc] at hl
    refine XS.icmpNo X.here hx rfl (hb hby d2_159) rfl (flt hc).1 ?_
    exact g2_162 X hx hby hret hZ hown hw v0 hl
theorem g2_154 (X : Stand p l e R s m args below meth c T locs cells slots) (hx : p.tables.exec = Jvm.exec) (hby : c.code = method_2_code) (hret : meth.sig.returnType = some .boolean) (hZ : Z.Warmed39 s.vm) (hown : s.vm.findClass "com/example/homespun_functions/homespunfunctions/xml/XmlNamesIsNCNameStartCharPinLaw" = some m.cls) (hw : ∀ d ∈ tables_1, d.before a0 Z = true) (v0 : Int32) {fs : List Frame} (hl : own_Rt e T m fs (.int (f2_154 v0))) : Steps p.tables e below (T.setTop (mkF m 154 #[.val (.int v0)] [])) (T.setFrames fs) := by
  show Steps p.tables e below (T.setTop (mkF m 154 #[.val (.int v0)] [])) _
  refine XS.iconst X.here hx rfl (hb hby d2_154) ?_
  show Steps p.tables e below (T.setTop (mkF m 155 #[.val (.int v0)] [(.int (1 : Int32))])) _
  exact retN X hx (t := .boolean) hret (by simp) (hb hby d2_155) hl
theorem g2_147 (X : Stand p l e R s m args below meth c T locs cells slots) (hx : p.tables.exec = Jvm.exec) (hby : c.code = method_2_code) (hret : meth.sig.returnType = some .boolean) (hZ : Z.Warmed39 s.vm) (hown : s.vm.findClass "com/example/homespun_functions/homespunfunctions/xml/XmlNamesIsNCNameStartCharPinLaw" = some m.cls) (hw : ∀ d ∈ tables_1, d.before a0 Z = true) (v0 : Int32) {fs : List Frame} (hl : own_Rt e T m fs (.int (f2_147 v0))) : Steps p.tables e below (T.setTop (mkF m 147 #[.val (.int v0)] [])) (T.setFrames fs) := by
  show Steps p.tables e below (T.setTop (mkF m 147 #[.val (.int v0)] [])) _
  refine XS.iloadN X.here hx rfl (hb hby d2_147) rfl ?_
  show Steps p.tables e below (T.setTop (mkF m 148 #[.val (.int v0)] [(.int v0)])) _
  refine XS.sipush X.here hx rfl (hb hby d2_148) ?_
  show Steps p.tables e below (T.setTop (mkF m 151 #[.val (.int v0)] [(.int (12288 : Int32)), (.int v0)])) _
  by_cases hc : (12288 : Int32) < v0
  · rw [show f2_147 v0 = f2_156 v0 from if_pos hc] at hl
    refine XS.icmpYes X.here hx rfl (pc0 := 151) (pc' := 156) rfl (hb hby d2_151) rfl (tlt hc).2.2.1 (by decide) (by decide) ?_
    exact g2_156 X hx hby hret hZ hown hw v0 hl
  · rw [show f2_147 v0 = f2_154 v0 from if_neg hc] at hl
    refine XS.icmpNo X.here hx rfl (hb hby d2_151) rfl (flt hc).2.2.1 ?_
    exact g2_154 X hx hby hret hZ hown hw v0 hl
theorem g2_140 (X : Stand p l e R s m args below meth c T locs cells slots) (hx : p.tables.exec = Jvm.exec) (hby : c.code = method_2_code) (hret : meth.sig.returnType = some .boolean) (hZ : Z.Warmed39 s.vm) (hown : s.vm.findClass "com/example/homespun_functions/homespunfunctions/xml/XmlNamesIsNCNameStartCharPinLaw" = some m.cls) (hw : ∀ d ∈ tables_1, d.before a0 Z = true) (v0 : Int32) {fs : List Frame} (hl : own_Rt e T m fs (.int (f2_140 v0))) : Steps p.tables e below (T.setTop (mkF m 140 #[.val (.int v0)] [])) (T.setFrames fs) := by
  show Steps p.tables e below (T.setTop (mkF m 140 #[.val (.int v0)] [])) _
  refine XS.iloadN X.here hx rfl (hb hby d2_140) rfl ?_
  show Steps p.tables e below (T.setTop (mkF m 141 #[.val (.int v0)] [(.int v0)])) _
  refine XS.sipush X.here hx rfl (hb hby d2_141) ?_
  show Steps p.tables e below (T.setTop (mkF m 144 #[.val (.int v0)] [(.int (12272 : Int32)), (.int v0)])) _
  by_cases hc : v0 < (12272 : Int32)
  · rw [show f2_140 v0 = f2_156 v0 from if_pos hc] at hl
    refine XS.icmpYes X.here hx rfl (pc0 := 144) (pc' := 156) rfl (hb hby d2_144) rfl (tlt hc).1 (by decide) (by decide) ?_
    exact g2_156 X hx hby hret hZ hown hw v0 hl
  · rw [show f2_140 v0 = f2_147 v0 from if_neg hc] at hl
    refine XS.icmpNo X.here hx rfl (hb hby d2_144) rfl (flt hc).1 ?_
    exact g2_147 X hx hby hret hZ hown hw v0 hl
theorem g2_138 (X : Stand p l e R s m args below meth c T locs cells slots) (hx : p.tables.exec = Jvm.exec) (hby : c.code = method_2_code) (hret : meth.sig.returnType = some .boolean) (hZ : Z.Warmed39 s.vm) (hown : s.vm.findClass "com/example/homespun_functions/homespunfunctions/xml/XmlNamesIsNCNameStartCharPinLaw" = some m.cls) (hw : ∀ d ∈ tables_1, d.before a0 Z = true) (v0 : Int32) {fs : List Frame} (hl : own_Rt e T m fs (.int (f2_138 v0))) : Steps p.tables e below (T.setTop (mkF m 138 #[.val (.int v0)] [])) (T.setFrames fs) := by
  show Steps p.tables e below (T.setTop (mkF m 138 #[.val (.int v0)] [])) _
  refine XS.iconst X.here hx rfl (hb hby d2_138) ?_
  show Steps p.tables e below (T.setTop (mkF m 139 #[.val (.int v0)] [(.int (1 : Int32))])) _
  exact retN X hx (t := .boolean) hret (by simp) (hb hby d2_139) hl
theorem g2_131 (X : Stand p l e R s m args below meth c T locs cells slots) (hx : p.tables.exec = Jvm.exec) (hby : c.code = method_2_code) (hret : meth.sig.returnType = some .boolean) (hZ : Z.Warmed39 s.vm) (hown : s.vm.findClass "com/example/homespun_functions/homespunfunctions/xml/XmlNamesIsNCNameStartCharPinLaw" = some m.cls) (hw : ∀ d ∈ tables_1, d.before a0 Z = true) (v0 : Int32) {fs : List Frame} (hl : own_Rt e T m fs (.int (f2_131 v0))) : Steps p.tables e below (T.setTop (mkF m 131 #[.val (.int v0)] [])) (T.setFrames fs) := by
  show Steps p.tables e below (T.setTop (mkF m 131 #[.val (.int v0)] [])) _
  refine XS.iloadN X.here hx rfl (hb hby d2_131) rfl ?_
  show Steps p.tables e below (T.setTop (mkF m 132 #[.val (.int v0)] [(.int v0)])) _
  refine XS.sipush X.here hx rfl (hb hby d2_132) ?_
  show Steps p.tables e below (T.setTop (mkF m 135 #[.val (.int v0)] [(.int (11263 : Int32)), (.int v0)])) _
  by_cases hc : (11263 : Int32) < v0
  · rw [show f2_131 v0 = f2_140 v0 from if_pos hc] at hl
    refine XS.icmpYes X.here hx rfl (pc0 := 135) (pc' := 140) rfl (hb hby d2_135) rfl (tlt hc).2.2.1 (by decide) (by decide) ?_
    exact g2_140 X hx hby hret hZ hown hw v0 hl
  · rw [show f2_131 v0 = f2_138 v0 from if_neg hc] at hl
    refine XS.icmpNo X.here hx rfl (hb hby d2_135) rfl (flt hc).2.2.1 ?_
    exact g2_138 X hx hby hret hZ hown hw v0 hl
theorem g2_124 (X : Stand p l e R s m args below meth c T locs cells slots) (hx : p.tables.exec = Jvm.exec) (hby : c.code = method_2_code) (hret : meth.sig.returnType = some .boolean) (hZ : Z.Warmed39 s.vm) (hown : s.vm.findClass "com/example/homespun_functions/homespunfunctions/xml/XmlNamesIsNCNameStartCharPinLaw" = some m.cls) (hw : ∀ d ∈ tables_1, d.before a0 Z = true) (v0 : Int32) {fs : List Frame} (hl : own_Rt e T m fs (.int (f2_124 v0))) : Steps p.tables e below (T.setTop (mkF m 124 #[.val (.int v0)] [])) (T.setFrames fs) := by
  show Steps p.tables e below (T.setTop (mkF m 124 #[.val (.int v0)] [])) _
  refine XS.iloadN X.here hx rfl (hb hby d2_124) rfl ?_
  show Steps p.tables e below (T.setTop (mkF m 125 #[.val (.int v0)] [(.int v0)])) _
  refine XS.sipush X.here hx rfl (hb hby d2_125) ?_
  show Steps p.tables e below (T.setTop (mkF m 128 #[.val (.int v0)] [(.int (8592 : Int32)), (.int v0)])) _
  by_cases hc : v0 < (8592 : Int32)
  · rw [show f2_124 v0 = f2_140 v0 from if_pos hc] at hl
    refine XS.icmpYes X.here hx rfl (pc0 := 128) (pc' := 140) rfl (hb hby d2_128) rfl (tlt hc).1 (by decide) (by decide) ?_
    exact g2_140 X hx hby hret hZ hown hw v0 hl
  · rw [show f2_124 v0 = f2_131 v0 from if_neg hc] at hl
    refine XS.icmpNo X.here hx rfl (hb hby d2_128) rfl (flt hc).1 ?_
    exact g2_131 X hx hby hret hZ hown hw v0 hl
theorem g2_122 (X : Stand p l e R s m args below meth c T locs cells slots) (hx : p.tables.exec = Jvm.exec) (hby : c.code = method_2_code) (hret : meth.sig.returnType = some .boolean) (hZ : Z.Warmed39 s.vm) (hown : s.vm.findClass "com/example/homespun_functions/homespunfunctions/xml/XmlNamesIsNCNameStartCharPinLaw" = some m.cls) (hw : ∀ d ∈ tables_1, d.before a0 Z = true) (v0 : Int32) {fs : List Frame} (hl : own_Rt e T m fs (.int (f2_122 v0))) : Steps p.tables e below (T.setTop (mkF m 122 #[.val (.int v0)] [])) (T.setFrames fs) := by
  show Steps p.tables e below (T.setTop (mkF m 122 #[.val (.int v0)] [])) _
  refine XS.iconst X.here hx rfl (hb hby d2_122) ?_
  show Steps p.tables e below (T.setTop (mkF m 123 #[.val (.int v0)] [(.int (1 : Int32))])) _
  exact retN X hx (t := .boolean) hret (by simp) (hb hby d2_123) hl
theorem g2_115 (X : Stand p l e R s m args below meth c T locs cells slots) (hx : p.tables.exec = Jvm.exec) (hby : c.code = method_2_code) (hret : meth.sig.returnType = some .boolean) (hZ : Z.Warmed39 s.vm) (hown : s.vm.findClass "com/example/homespun_functions/homespunfunctions/xml/XmlNamesIsNCNameStartCharPinLaw" = some m.cls) (hw : ∀ d ∈ tables_1, d.before a0 Z = true) (v0 : Int32) {fs : List Frame} (hl : own_Rt e T m fs (.int (f2_115 v0))) : Steps p.tables e below (T.setTop (mkF m 115 #[.val (.int v0)] [])) (T.setFrames fs) := by
  show Steps p.tables e below (T.setTop (mkF m 115 #[.val (.int v0)] [])) _
  refine XS.iloadN X.here hx rfl (hb hby d2_115) rfl ?_
  show Steps p.tables e below (T.setTop (mkF m 116 #[.val (.int v0)] [(.int v0)])) _
  refine XS.sipush X.here hx rfl (hb hby d2_116) ?_
  show Steps p.tables e below (T.setTop (mkF m 119 #[.val (.int v0)] [(.int (8303 : Int32)), (.int v0)])) _
  by_cases hc : (8303 : Int32) < v0
  · rw [show f2_115 v0 = f2_124 v0 from if_pos hc] at hl
    refine XS.icmpYes X.here hx rfl (pc0 := 119) (pc' := 124) rfl (hb hby d2_119) rfl (tlt hc).2.2.1 (by decide) (by decide) ?_
    exact g2_124 X hx hby hret hZ hown hw v0 hl
  · rw [show f2_115 v0 = f2_122 v0 from if_neg hc] at hl
    refine XS.icmpNo X.here hx rfl (hb hby d2_119) rfl (flt hc).2.2.1 ?_
    exact g2_122 X hx hby hret hZ hown hw v0 hl
theorem g2_108 (X : Stand p l e R s m args below meth c T locs cells slots) (hx : p.tables.exec = Jvm.exec) (hby : c.code = method_2_code) (hret : meth.sig.returnType = some .boolean) (hZ : Z.Warmed39 s.vm) (hown : s.vm.findClass "com/example/homespun_functions/homespunfunctions/xml/XmlNamesIsNCNameStartCharPinLaw" = some m.cls) (hw : ∀ d ∈ tables_1, d.before a0 Z = true) (v0 : Int32) {fs : List Frame} (hl : own_Rt e T m fs (.int (f2_108 v0))) : Steps p.tables e below (T.setTop (mkF m 108 #[.val (.int v0)] [])) (T.setFrames fs) := by
  show Steps p.tables e below (T.setTop (mkF m 108 #[.val (.int v0)] [])) _
  refine XS.iloadN X.here hx rfl (hb hby d2_108) rfl ?_
  show Steps p.tables e below (T.setTop (mkF m 109 #[.val (.int v0)] [(.int v0)])) _
  refine XS.sipush X.here hx rfl (hb hby d2_109) ?_
  show Steps p.tables e below (T.setTop (mkF m 112 #[.val (.int v0)] [(.int (8206 : Int32)), (.int v0)])) _
  by_cases hc : v0 < (8206 : Int32)
  · rw [show f2_108 v0 = f2_124 v0 from if_pos hc] at hl
    refine XS.icmpYes X.here hx rfl (pc0 := 112) (pc' := 124) rfl (hb hby d2_112) rfl (tlt hc).1 (by decide) (by decide) ?_
    exact g2_124 X hx hby hret hZ hown hw v0 hl
  · rw [show f2_108 v0 = f2_115 v0 from if_neg hc] at hl
    refine XS.icmpNo X.here hx rfl (hb hby d2_112) rfl (flt hc).1 ?_
    exact g2_115 X hx hby hret hZ hown hw v0 hl
theorem g2_106 (X : Stand p l e R s m args below meth c T locs cells slots) (hx : p.tables.exec = Jvm.exec) (hby : c.code = method_2_code) (hret : meth.sig.returnType = some .boolean) (hZ : Z.Warmed39 s.vm) (hown : s.vm.findClass "com/example/homespun_functions/homespunfunctions/xml/XmlNamesIsNCNameStartCharPinLaw" = some m.cls) (hw : ∀ d ∈ tables_1, d.before a0 Z = true) (v0 : Int32) {fs : List Frame} (hl : own_Rt e T m fs (.int (f2_106 v0))) : Steps p.tables e below (T.setTop (mkF m 106 #[.val (.int v0)] [])) (T.setFrames fs) := by
  show Steps p.tables e below (T.setTop (mkF m 106 #[.val (.int v0)] [])) _
  refine XS.iconst X.here hx rfl (hb hby d2_106) ?_
  show Steps p.tables e below (T.setTop (mkF m 107 #[.val (.int v0)] [(.int (1 : Int32))])) _
  exact retN X hx (t := .boolean) hret (by simp) (hb hby d2_107) hl
theorem g2_99 (X : Stand p l e R s m args below meth c T locs cells slots) (hx : p.tables.exec = Jvm.exec) (hby : c.code = method_2_code) (hret : meth.sig.returnType = some .boolean) (hZ : Z.Warmed39 s.vm) (hown : s.vm.findClass "com/example/homespun_functions/homespunfunctions/xml/XmlNamesIsNCNameStartCharPinLaw" = some m.cls) (hw : ∀ d ∈ tables_1, d.before a0 Z = true) (v0 : Int32) {fs : List Frame} (hl : own_Rt e T m fs (.int (f2_99 v0))) : Steps p.tables e below (T.setTop (mkF m 99 #[.val (.int v0)] [])) (T.setFrames fs) := by
  show Steps p.tables e below (T.setTop (mkF m 99 #[.val (.int v0)] [])) _
  refine XS.iloadN X.here hx rfl (hb hby d2_99) rfl ?_
  show Steps p.tables e below (T.setTop (mkF m 100 #[.val (.int v0)] [(.int v0)])) _
  refine XS.sipush X.here hx rfl (hb hby d2_100) ?_
  show Steps p.tables e below (T.setTop (mkF m 103 #[.val (.int v0)] [(.int (8203 : Int32)), (.int v0)])) _
  by_cases hc : (8203 : Int32) < v0
  · rw [show f2_99 v0 = f2_108 v0 from if_pos hc] at hl
    refine XS.icmpYes X.here hx rfl (pc0 := 103) (pc' := 108) rfl (hb hby d2_103) rfl (tlt hc).2.2.1 (by decide) (by decide) ?_
    exact g2_108 X hx hby hret hZ hown hw v0 hl
  · rw [show f2_99 v0 = f2_106 v0 from if_neg hc] at hl
    refine XS.icmpNo X.here hx rfl (hb hby d2_103) rfl (flt hc).2.2.1 ?_
    exact g2_106 X hx hby hret hZ hown hw v0 hl
theorem g2_92 (X : Stand p l e R s m args below meth c T locs cells slots) (hx : p.tables.exec = Jvm.exec) (hby : c.code = method_2_code) (hret : meth.sig.returnType = some .boolean) (hZ : Z.Warmed39 s.vm) (hown : s.vm.findClass "com/example/homespun_functions/homespunfunctions/xml/XmlNamesIsNCNameStartCharPinLaw" = some m.cls) (hw : ∀ d ∈ tables_1, d.before a0 Z = true) (v0 : Int32) {fs : List Frame} (hl : own_Rt e T m fs (.int (f2_92 v0))) : Steps p.tables e below (T.setTop (mkF m 92 #[.val (.int v0)] [])) (T.setFrames fs) := by
  show Steps p.tables e below (T.setTop (mkF m 92 #[.val (.int v0)] [])) _
  refine XS.iloadN X.here hx rfl (hb hby d2_92) rfl ?_
  show Steps p.tables e below (T.setTop (mkF m 93 #[.val (.int v0)] [(.int v0)])) _
  refine XS.sipush X.here hx rfl (hb hby d2_93) ?_
  show Steps p.tables e below (T.setTop (mkF m 96 #[.val (.int v0)] [(.int (8192 : Int32)), (.int v0)])) _
  by_cases hc : v0 < (8192 : Int32)
  · rw [show f2_92 v0 = f2_108 v0 from if_pos hc] at hl
    refine XS.icmpYes X.here hx rfl (pc0 := 96) (pc' := 108) rfl (hb hby d2_96) rfl (tlt hc).1 (by decide) (by decide) ?_
    exact g2_108 X hx hby hret hZ hown hw v0 hl
  · rw [show f2_92 v0 = f2_99 v0 from if_neg hc] at hl
    refine XS.icmpNo X.here hx rfl (hb hby d2_96) rfl (flt hc).1 ?_
    exact g2_99 X hx hby hret hZ hown hw v0 hl
theorem g2_90 (X : Stand p l e R s m args below meth c T locs cells slots) (hx : p.tables.exec = Jvm.exec) (hby : c.code = method_2_code) (hret : meth.sig.returnType = some .boolean) (hZ : Z.Warmed39 s.vm) (hown : s.vm.findClass "com/example/homespun_functions/homespunfunctions/xml/XmlNamesIsNCNameStartCharPinLaw" = some m.cls) (hw : ∀ d ∈ tables_1, d.before a0 Z = true) (v0 : Int32) {fs : List Frame} (hl : own_Rt e T m fs (.int (f2_90 v0))) : Steps p.tables e below (T.setTop (mkF m 90 #[.val (.int v0)] [])) (T.setFrames fs) := by
  show Steps p.tables e below (T.setTop (mkF m 90 #[.val (.int v0)] [])) _
  refine XS.iconst X.here hx rfl (hb hby d2_90) ?_
  show Steps p.tables e below (T.setTop (mkF m 91 #[.val (.int v0)] [(.int (1 : Int32))])) _
  exact retN X hx (t := .boolean) hret (by simp) (hb hby d2_91) hl
theorem g2_83 (X : Stand p l e R s m args below meth c T locs cells slots) (hx : p.tables.exec = Jvm.exec) (hby : c.code = method_2_code) (hret : meth.sig.returnType = some .boolean) (hZ : Z.Warmed39 s.vm) (hown : s.vm.findClass "com/example/homespun_functions/homespunfunctions/xml/XmlNamesIsNCNameStartCharPinLaw" = some m.cls) (hw : ∀ d ∈ tables_1, d.before a0 Z = true) (v0 : Int32) {fs : List Frame} (hl : own_Rt e T m fs (.int (f2_83 v0))) : Steps p.tables e below (T.setTop (mkF m 83 #[.val (.int v0)] [])) (T.setFrames fs) := by
  show Steps p.tables e below (T.setTop (mkF m 83 #[.val (.int v0)] [])) _
  refine XS.iloadN X.here hx rfl (hb hby d2_83) rfl ?_
  show Steps p.tables e below (T.setTop (mkF m 84 #[.val (.int v0)] [(.int v0)])) _
  refine XS.sipush X.here hx rfl (hb hby d2_84) ?_
  show Steps p.tables e below (T.setTop (mkF m 87 #[.val (.int v0)] [(.int (894 : Int32)), (.int v0)])) _
  by_cases hc : v0 = (894 : Int32)
  · rw [show f2_83 v0 = f2_90 v0 from if_pos hc] at hl
    refine XS.icmpNo X.here hx rfl (hb hby d2_87) rfl (teq hc).2 ?_
    exact g2_90 X hx hby hret hZ hown hw v0 hl
  · rw [show f2_83 v0 = f2_92 v0 from if_neg hc] at hl
    refine XS.icmpYes X.here hx rfl (pc0 := 87) (pc' := 92) rfl (hb hby d2_87) rfl (feq hc).2 (by decide) (by decide) ?_
    exact g2_92 X hx hby hret hZ hown hw v0 hl
theorem g2_81 (X : Stand p l e R s m args below meth c T locs cells slots) (hx : p.tables.exec = Jvm.exec) (hby : c.code = method_2_code) (hret : meth.sig.returnType = some .boolean) (hZ : Z.Warmed39 s.vm) (hown : s.vm.findClass "com/example/homespun_functions/homespunfunctions/xml/XmlNamesIsNCNameStartCharPinLaw" = some m.cls) (hw : ∀ d ∈ tables_1, d.before a0 Z = true) (v0 : Int32) {fs : List Frame} (hl : own_Rt e T m fs (.int (f2_81 v0))) : Steps p.tables e below (T.setTop (mkF m 81 #[.val (.int v0)] [])) (T.setFrames fs) := by
  show Steps p.tables e below (T.setTop (mkF m 81 #[.val (.int v0)] [])) _
  refine XS.iconst X.here hx rfl (hb hby d2_81) ?_
  show Steps p.tables e below (T.setTop (mkF m 82 #[.val (.int v0)] [(.int (1 : Int32))])) _
  exact retN X hx (t := .boolean) hret (by simp) (hb hby d2_82) hl
theorem g2_74 (X : Stand p l e R s m args below meth c T locs cells slots) (hx : p.tables.exec = Jvm.exec) (hby : c.code = method_2_code) (hret : meth.sig.returnType = some .boolean) (hZ : Z.Warmed39 s.vm) (hown : s.vm.findClass "com/example/homespun_functions/homespunfunctions/xml/XmlNamesIsNCNameStartCharPinLaw" = some m.cls) (hw : ∀ d ∈ tables_1, d.before a0 Z = true) (v0 : Int32) {fs : List Frame} (hl : own_Rt e T m fs (.int (f2_74 v0))) : Steps p.tables e below (T.setTop (mkF m 74 #[.val (.int v0)] [])) (T.setFrames fs) := by
  show Steps p.tables e below (T.setTop (mkF m 74 #[.val (.int v0)] [])) _
  refine XS.iloadN X.here hx rfl (hb hby d2_74) rfl ?_
  show Steps p.tables e below (T.setTop (mkF m 75 #[.val (.int v0)] [(.int v0)])) _
  refine XS.sipush X.here hx rfl (hb hby d2_75) ?_
  show Steps p.tables e below (T.setTop (mkF m 78 #[.val (.int v0)] [(.int (879 : Int32)), (.int v0)])) _
  by_cases hc : (879 : Int32) < v0
  · rw [show f2_74 v0 = f2_83 v0 from if_pos hc] at hl
    refine XS.icmpYes X.here hx rfl (pc0 := 78) (pc' := 83) rfl (hb hby d2_78) rfl (tlt hc).2.2.1 (by decide) (by decide) ?_
    exact g2_83 X hx hby hret hZ hown hw v0 hl
  · rw [show f2_74 v0 = f2_81 v0 from if_neg hc] at hl
    refine XS.icmpNo X.here hx rfl (hb hby d2_78) rfl (flt hc).2.2.1 ?_
    exact g2_81 X hx hby hret hZ hown hw v0 hl
theorem g2_67 (X : Stand p l e R s m args below meth c T locs cells slots) (hx : p.tables.exec = Jvm.exec) (hby : c.code = method_2_code) (hret : meth.sig.returnType = some .boolean) (hZ : Z.Warmed39 s.vm) (hown : s.vm.findClass "com/example/homespun_functions/homespunfunctions/xml/XmlNamesIsNCNameStartCharPinLaw" = some m.cls) (hw : ∀ d ∈ tables_1, d.before a0 Z = true) (v0 : Int32) {fs : List Frame} (hl : own_Rt e T m fs (.int (f2_67 v0))) : Steps p.tables e below (T.setTop (mkF m 67 #[.val (.int v0)] [])) (T.setFrames fs) := by
  show Steps p.tables e below (T.setTop (mkF m 67 #[.val (.int v0)] [])) _
  refine XS.iloadN X.here hx rfl (hb hby d2_67) rfl ?_
  show Steps p.tables e below (T.setTop (mkF m 68 #[.val (.int v0)] [(.int v0)])) _
  refine XS.sipush X.here hx rfl (hb hby d2_68) ?_
  show Steps p.tables e below (T.setTop (mkF m 71 #[.val (.int v0)] [(.int (768 : Int32)), (.int v0)])) _
  by_cases hc : v0 < (768 : Int32)
  · rw [show f2_67 v0 = f2_83 v0 from if_pos hc] at hl
    refine XS.icmpYes X.here hx rfl (pc0 := 71) (pc' := 83) rfl (hb hby d2_71) rfl (tlt hc).1 (by decide) (by decide) ?_
    exact g2_83 X hx hby hret hZ hown hw v0 hl
  · rw [show f2_67 v0 = f2_74 v0 from if_neg hc] at hl
    refine XS.icmpNo X.here hx rfl (hb hby d2_71) rfl (flt hc).1 ?_
    exact g2_74 X hx hby hret hZ hown hw v0 hl
theorem g2_65 (X : Stand p l e R s m args below meth c T locs cells slots) (hx : p.tables.exec = Jvm.exec) (hby : c.code = method_2_code) (hret : meth.sig.returnType = some .boolean) (hZ : Z.Warmed39 s.vm) (hown : s.vm.findClass "com/example/homespun_functions/homespunfunctions/xml/XmlNamesIsNCNameStartCharPinLaw" = some m.cls) (hw : ∀ d ∈ tables_1, d.before a0 Z = true) (v0 : Int32) {fs : List Frame} (hl : own_Rt e T m fs (.int (f2_65 v0))) : Steps p.tables e below (T.setTop (mkF m 65 #[.val (.int v0)] [])) (T.setFrames fs) := by
  show Steps p.tables e below (T.setTop (mkF m 65 #[.val (.int v0)] [])) _
  refine XS.iconst X.here hx rfl (hb hby d2_65) ?_
  show Steps p.tables e below (T.setTop (mkF m 66 #[.val (.int v0)] [(.int (1 : Int32))])) _
  exact retN X hx (t := .boolean) hret (by simp) (hb hby d2_66) hl
theorem g2_58 (X : Stand p l e R s m args below meth c T locs cells slots) (hx : p.tables.exec = Jvm.exec) (hby : c.code = method_2_code) (hret : meth.sig.returnType = some .boolean) (hZ : Z.Warmed39 s.vm) (hown : s.vm.findClass "com/example/homespun_functions/homespunfunctions/xml/XmlNamesIsNCNameStartCharPinLaw" = some m.cls) (hw : ∀ d ∈ tables_1, d.before a0 Z = true) (v0 : Int32) {fs : List Frame} (hl : own_Rt e T m fs (.int (f2_58 v0))) : Steps p.tables e below (T.setTop (mkF m 58 #[.val (.int v0)] [])) (T.setFrames fs) := by
  show Steps p.tables e below (T.setTop (mkF m 58 #[.val (.int v0)] [])) _
  refine XS.iloadN X.here hx rfl (hb hby d2_58) rfl ?_
  show Steps p.tables e below (T.setTop (mkF m 59 #[.val (.int v0)] [(.int v0)])) _
  refine XS.sipush X.here hx rfl (hb hby d2_59) ?_
  show Steps p.tables e below (T.setTop (mkF m 62 #[.val (.int v0)] [(.int (247 : Int32)), (.int v0)])) _
  by_cases hc : v0 = (247 : Int32)
  · rw [show f2_58 v0 = f2_65 v0 from if_pos hc] at hl
    refine XS.icmpNo X.here hx rfl (hb hby d2_62) rfl (teq hc).2 ?_
    exact g2_65 X hx hby hret hZ hown hw v0 hl
  · rw [show f2_58 v0 = f2_67 v0 from if_neg hc] at hl
    refine XS.icmpYes X.here hx rfl (pc0 := 62) (pc' := 67) rfl (hb hby d2_62) rfl (feq hc).2 (by decide) (by decide) ?_
    exact g2_67 X hx hby hret hZ hown hw v0 hl
theorem g2_51 (X : Stand p l e R s m args below meth c T locs cells slots) (hx : p.tables.exec = Jvm.exec) (hby : c.code = method_2_code) (hret : meth.sig.returnType = some .boolean) (hZ : Z.Warmed39 s.vm) (hown : s.vm.findClass "com/example/homespun_functions/homespunfunctions/xml/XmlNamesIsNCNameStartCharPinLaw" = some m.cls) (hw : ∀ d ∈ tables_1, d.before a0 Z = true) (v0 : Int32) {fs : List Frame} (hl : own_Rt e T m fs (.int (f2_51 v0))) : Steps p.tables e below (T.setTop (mkF m 51 #[.val (.int v0)] [])) (T.setFrames fs) := by
  show Steps p.tables e below (T.setTop (mkF m 51 #[.val (.int v0)] [])) _
  refine XS.iloadN X.here hx rfl (hb hby d2_51) rfl ?_
  show Steps p.tables e below (T.setTop (mkF m 52 #[.val (.int v0)] [(.int v0)])) _
  refine XS.sipush X.here hx rfl (hb hby d2_52) ?_
  show Steps p.tables e below (T.setTop (mkF m 55 #[.val (.int v0)] [(.int (215 : Int32)), (.int v0)])) _
  by_cases hc : v0 = (215 : Int32)
  · rw [show f2_51 v0 = f2_65 v0 from if_pos hc] at hl
    refine XS.icmpYes X.here hx rfl (pc0 := 55) (pc' := 65) rfl (hb hby d2_55) rfl (teq hc).1 (by decide) (by decide) ?_
    exact g2_65 X hx hby hret hZ hown hw v0 hl
  · rw [show f2_51 v0 = f2_58 v0 from if_neg hc] at hl
    refine XS.icmpNo X.here hx rfl (hb hby d2_55) rfl (feq hc).1 ?_
    exact g2_58 X hx hby hret hZ hown hw v0 hl
theorem g2_49 (X : Stand p l e R s m args below meth c T locs cells slots) (hx : p.tables.exec = Jvm.exec) (hby : c.code = method_2_code) (hret : meth.sig.returnType = some .boolean) (hZ : Z.Warmed39 s.vm) (hown : s.vm.findClass "com/example/homespun_functions/homespunfunctions/xml/XmlNamesIsNCNameStartCharPinLaw" = some m.cls) (hw : ∀ d ∈ tables_1, d.before a0 Z = true) (v0 : Int32) {fs : List Frame} (hl : own_Rt e T m fs (.int (f2_49 v0))) : Steps p.tables e below (T.setTop (mkF m 49 #[.val (.int v0)] [])) (T.setFrames fs) := by
  show Steps p.tables e below (T.setTop (mkF m 49 #[.val (.int v0)] [])) _
  refine XS.iconst X.here hx rfl (hb hby d2_49) ?_
  show Steps p.tables e below (T.setTop (mkF m 50 #[.val (.int v0)] [(.int (1 : Int32))])) _
  exact retN X hx (t := .boolean) hret (by simp) (hb hby d2_50) hl
theorem g2_42 (X : Stand p l e R s m args below meth c T locs cells slots) (hx : p.tables.exec = Jvm.exec) (hby : c.code = method_2_code) (hret : meth.sig.returnType = some .boolean) (hZ : Z.Warmed39 s.vm) (hown : s.vm.findClass "com/example/homespun_functions/homespunfunctions/xml/XmlNamesIsNCNameStartCharPinLaw" = some m.cls) (hw : ∀ d ∈ tables_1, d.before a0 Z = true) (v0 : Int32) {fs : List Frame} (hl : own_Rt e T m fs (.int (f2_42 v0))) : Steps p.tables e below (T.setTop (mkF m 42 #[.val (.int v0)] [])) (T.setFrames fs) := by
  show Steps p.tables e below (T.setTop (mkF m 42 #[.val (.int v0)] [])) _
  refine XS.iloadN X.here hx rfl (hb hby d2_42) rfl ?_
  show Steps p.tables e below (T.setTop (mkF m 43 #[.val (.int v0)] [(.int v0)])) _
  refine XS.sipush X.here hx rfl (hb hby d2_43) ?_
  show Steps p.tables e below (T.setTop (mkF m 46 #[.val (.int v0)] [(.int (191 : Int32)), (.int v0)])) _
  by_cases hc : (191 : Int32) < v0
  · rw [show f2_42 v0 = f2_51 v0 from if_pos hc] at hl
    refine XS.icmpYes X.here hx rfl (pc0 := 46) (pc' := 51) rfl (hb hby d2_46) rfl (tlt hc).2.2.1 (by decide) (by decide) ?_
    exact g2_51 X hx hby hret hZ hown hw v0 hl
  · rw [show f2_42 v0 = f2_49 v0 from if_neg hc] at hl
    refine XS.icmpNo X.here hx rfl (hb hby d2_46) rfl (flt hc).2.2.1 ?_
    exact g2_49 X hx hby hret hZ hown hw v0 hl
theorem g2_36 (X : Stand p l e R s m args below meth c T locs cells slots) (hx : p.tables.exec = Jvm.exec) (hby : c.code = method_2_code) (hret : meth.sig.returnType = some .boolean) (hZ : Z.Warmed39 s.vm) (hown : s.vm.findClass "com/example/homespun_functions/homespunfunctions/xml/XmlNamesIsNCNameStartCharPinLaw" = some m.cls) (hw : ∀ d ∈ tables_1, d.before a0 Z = true) (v0 : Int32) {fs : List Frame} (hl : own_Rt e T m fs (.int (f2_36 v0))) : Steps p.tables e below (T.setTop (mkF m 36 #[.val (.int v0)] [])) (T.setFrames fs) := by
  show Steps p.tables e below (T.setTop (mkF m 36 #[.val (.int v0)] [])) _
  refine XS.iloadN X.here hx rfl (hb hby d2_36) rfl ?_
  show Steps p.tables e below (T.setTop (mkF m 37 #[.val (.int v0)] [(.int v0)])) _
  refine XS.bipush X.here hx rfl (hb hby d2_37) ?_
  show Steps p.tables e below (T.setTop (mkF m 39 #[.val (.int v0)] [(.int (123 : Int32)), (.int v0)])) _
  by_cases hc : v0 < (123 : Int32)
  · rw [show f2_36 v0 = f2_51 v0 from if_pos hc] at hl
    refine XS.icmpYes X.here hx rfl (pc0 := 39) (pc' := 51) rfl (hb hby d2_39) rfl (tlt hc).1 (by decide) (by decide) ?_
    exact g2_51 X hx hby hret hZ hown hw v0 hl
  · rw [show f2_36 v0 = f2_42 v0 from if_neg hc] at hl
    refine XS.icmpNo X.here hx rfl (hb hby d2_39) rfl (flt hc).1 ?_
    exact g2_42 X hx hby hret hZ hown hw v0 hl
theorem g2_34 (X : Stand p l e R s m args below meth c T locs cells slots) (hx : p.tables.exec = Jvm.exec) (hby : c.code = method_2_code) (hret : meth.sig.returnType = some .boolean) (hZ : Z.Warmed39 s.vm) (hown : s.vm.findClass "com/example/homespun_functions/homespunfunctions/xml/XmlNamesIsNCNameStartCharPinLaw" = some m.cls) (hw : ∀ d ∈ tables_1, d.before a0 Z = true) (v0 : Int32) {fs : List Frame} (hl : own_Rt e T m fs (.int (f2_34 v0))) : Steps p.tables e below (T.setTop (mkF m 34 #[.val (.int v0)] [])) (T.setFrames fs) := by
  show Steps p.tables e below (T.setTop (mkF m 34 #[.val (.int v0)] [])) _
  refine XS.iconst X.here hx rfl (hb hby d2_34) ?_
  show Steps p.tables e below (T.setTop (mkF m 35 #[.val (.int v0)] [(.int (1 : Int32))])) _
  exact retN X hx (t := .boolean) hret (by simp) (hb hby d2_35) hl
theorem g2_28 (X : Stand p l e R s m args below meth c T locs cells slots) (hx : p.tables.exec = Jvm.exec) (hby : c.code = method_2_code) (hret : meth.sig.returnType = some .boolean) (hZ : Z.Warmed39 s.vm) (hown : s.vm.findClass "com/example/homespun_functions/homespunfunctions/xml/XmlNamesIsNCNameStartCharPinLaw" = some m.cls) (hw : ∀ d ∈ tables_1, d.before a0 Z = true) (v0 : Int32) {fs : List Frame} (hl : own_Rt e T m fs (.int (f2_28 v0))) : Steps p.tables e below (T.setTop (mkF m 28 #[.val (.int v0)] [])) (T.setFrames fs) := by
  show Steps p.tables e below (T.setTop (mkF m 28 #[.val (.int v0)] [])) _
  refine XS.iloadN X.here hx rfl (hb hby d2_28) rfl ?_
  show Steps p.tables e below (T.setTop (mkF m 29 #[.val (.int v0)] [(.int v0)])) _
  refine XS.bipush X.here hx rfl (hb hby d2_29) ?_
  show Steps p.tables e below (T.setTop (mkF m 31 #[.val (.int v0)] [(.int (96 : Int32)), (.int v0)])) _
  by_cases hc : v0 = (96 : Int32)
  · rw [show f2_28 v0 = f2_34 v0 from if_pos hc] at hl
    refine XS.icmpNo X.here hx rfl (hb hby d2_31) rfl (teq hc).2 ?_
    exact g2_34 X hx hby hret hZ hown hw v0 hl
  · rw [show f2_28 v0 = f2_36 v0 from if_neg hc] at hl
    refine XS.icmpYes X.here hx rfl (pc0 := 31) (pc' := 36) rfl (hb hby d2_31) rfl (feq hc).2 (by decide) (by decide) ?_
    exact g2_36 X hx hby hret hZ hown hw v0 hl
theorem g2_26 (X : Stand p l e R s m args below meth c T locs cells slots) (hx : p.tables.exec = Jvm.exec) (hby : c.code = method_2_code) (hret : meth.sig.returnType = some .boolean) (hZ : Z.Warmed39 s.vm) (hown : s.vm.findClass "com/example/homespun_functions/homespunfunctions/xml/XmlNamesIsNCNameStartCharPinLaw" = some m.cls) (hw : ∀ d ∈ tables_1, d.before a0 Z = true) (v0 : Int32) {fs : List Frame} (hl : own_Rt e T m fs (.int (f2_26 v0))) : Steps p.tables e below (T.setTop (mkF m 26 #[.val (.int v0)] [])) (T.setFrames fs) := by
  show Steps p.tables e below (T.setTop (mkF m 26 #[.val (.int v0)] [])) _
  refine XS.iconst X.here hx rfl (hb hby d2_26) ?_
  show Steps p.tables e below (T.setTop (mkF m 27 #[.val (.int v0)] [(.int (1 : Int32))])) _
  exact retN X hx (t := .boolean) hret (by simp) (hb hby d2_27) hl
theorem g2_20 (X : Stand p l e R s m args below meth c T locs cells slots) (hx : p.tables.exec = Jvm.exec) (hby : c.code = method_2_code) (hret : meth.sig.returnType = some .boolean) (hZ : Z.Warmed39 s.vm) (hown : s.vm.findClass "com/example/homespun_functions/homespunfunctions/xml/XmlNamesIsNCNameStartCharPinLaw" = some m.cls) (hw : ∀ d ∈ tables_1, d.before a0 Z = true) (v0 : Int32) {fs : List Frame} (hl : own_Rt e T m fs (.int (f2_20 v0))) : Steps p.tables e below (T.setTop (mkF m 20 #[.val (.int v0)] [])) (T.setFrames fs) := by
  show Steps p.tables e below (T.setTop (mkF m 20 #[.val (.int v0)] [])) _
  refine XS.iloadN X.here hx rfl (hb hby d2_20) rfl ?_
  show Steps p.tables e below (T.setTop (mkF m 21 #[.val (.int v0)] [(.int v0)])) _
  refine XS.bipush X.here hx rfl (hb hby d2_21) ?_
  show Steps p.tables e below (T.setTop (mkF m 23 #[.val (.int v0)] [(.int (94 : Int32)), (.int v0)])) _
  by_cases hc : (94 : Int32) < v0
  · rw [show f2_20 v0 = f2_28 v0 from if_pos hc] at hl
    refine XS.icmpYes X.here hx rfl (pc0 := 23) (pc' := 28) rfl (hb hby d2_23) rfl (tlt hc).2.2.1 (by decide) (by decide) ?_
    exact g2_28 X hx hby hret hZ hown hw v0 hl
  · rw [show f2_20 v0 = f2_26 v0 from if_neg hc] at hl
    refine XS.icmpNo X.here hx rfl (hb hby d2_23) rfl (flt hc).2.2.1 ?_
    exact g2_26 X hx hby hret hZ hown hw v0 hl
theorem g2_14 (X : Stand p l e R s m args below meth c T locs cells slots) (hx : p.tables.exec = Jvm.exec) (hby : c.code = method_2_code) (hret : meth.sig.returnType = some .boolean) (hZ : Z.Warmed39 s.vm) (hown : s.vm.findClass "com/example/homespun_functions/homespunfunctions/xml/XmlNamesIsNCNameStartCharPinLaw" = some m.cls) (hw : ∀ d ∈ tables_1, d.before a0 Z = true) (v0 : Int32) {fs : List Frame} (hl : own_Rt e T m fs (.int (f2_14 v0))) : Steps p.tables e below (T.setTop (mkF m 14 #[.val (.int v0)] [])) (T.setFrames fs) := by
  show Steps p.tables e below (T.setTop (mkF m 14 #[.val (.int v0)] [])) _
  refine XS.iloadN X.here hx rfl (hb hby d2_14) rfl ?_
  show Steps p.tables e below (T.setTop (mkF m 15 #[.val (.int v0)] [(.int v0)])) _
  refine XS.bipush X.here hx rfl (hb hby d2_15) ?_
  show Steps p.tables e below (T.setTop (mkF m 17 #[.val (.int v0)] [(.int (91 : Int32)), (.int v0)])) _
  by_cases hc : v0 < (91 : Int32)
  · rw [show f2_14 v0 = f2_28 v0 from if_pos hc] at hl
    refine XS.icmpYes X.here hx rfl (pc0 := 17) (pc' := 28) rfl (hb hby d2_17) rfl (tlt hc).1 (by decide) (by decide) ?_
    exact g2_28 X hx hby hret hZ hown hw v0 hl
  · rw [show f2_14 v0 = f2_20 v0 from if_neg hc] at hl
    refine XS.icmpNo X.here hx rfl (hb hby d2_17) rfl (flt hc).1 ?_
    exact g2_20 X hx hby hret hZ hown hw v0 hl
theorem g2_12 (X : Stand p l e R s m args below meth c T locs cells slots) (hx : p.tables.exec = Jvm.exec) (hby : c.code = method_2_code) (hret : meth.sig.returnType = some .boolean) (hZ : Z.Warmed39 s.vm) (hown : s.vm.findClass "com/example/homespun_functions/homespunfunctions/xml/XmlNamesIsNCNameStartCharPinLaw" = some m.cls) (hw : ∀ d ∈ tables_1, d.before a0 Z = true) (v0 : Int32) {fs : List Frame} (hl : own_Rt e T m fs (.int (f2_12 v0))) : Steps p.tables e below (T.setTop (mkF m 12 #[.val (.int v0)] [])) (T.setFrames fs) := by
  show Steps p.tables e below (T.setTop (mkF m 12 #[.val (.int v0)] [])) _
  refine XS.iconst X.here hx rfl (hb hby d2_12) ?_
  show Steps p.tables e below (T.setTop (mkF m 13 #[.val (.int v0)] [(.int (1 : Int32))])) _
  exact retN X hx (t := .boolean) hret (by simp) (hb hby d2_13) hl
theorem g2_6 (X : Stand p l e R s m args below meth c T locs cells slots) (hx : p.tables.exec = Jvm.exec) (hby : c.code = method_2_code) (hret : meth.sig.returnType = some .boolean) (hZ : Z.Warmed39 s.vm) (hown : s.vm.findClass "com/example/homespun_functions/homespunfunctions/xml/XmlNamesIsNCNameStartCharPinLaw" = some m.cls) (hw : ∀ d ∈ tables_1, d.before a0 Z = true) (v0 : Int32) {fs : List Frame} (hl : own_Rt e T m fs (.int (f2_6 v0))) : Steps p.tables e below (T.setTop (mkF m 6 #[.val (.int v0)] [])) (T.setFrames fs) := by
  show Steps p.tables e below (T.setTop (mkF m 6 #[.val (.int v0)] [])) _
  refine XS.iloadN X.here hx rfl (hb hby d2_6) rfl ?_
  show Steps p.tables e below (T.setTop (mkF m 7 #[.val (.int v0)] [(.int v0)])) _
  refine XS.bipush X.here hx rfl (hb hby d2_7) ?_
  show Steps p.tables e below (T.setTop (mkF m 9 #[.val (.int v0)] [(.int (64 : Int32)), (.int v0)])) _
  by_cases hc : (64 : Int32) < v0
  · rw [show f2_6 v0 = f2_14 v0 from if_pos hc] at hl
    refine XS.icmpYes X.here hx rfl (pc0 := 9) (pc' := 14) rfl (hb hby d2_9) rfl (tlt hc).2.2.1 (by decide) (by decide) ?_
    exact g2_14 X hx hby hret hZ hown hw v0 hl
  · rw [show f2_6 v0 = f2_12 v0 from if_neg hc] at hl
    refine XS.icmpNo X.here hx rfl (hb hby d2_9) rfl (flt hc).2.2.1 ?_
    exact g2_12 X hx hby hret hZ hown hw v0 hl
theorem g2_4 (X : Stand p l e R s m args below meth c T locs cells slots) (hx : p.tables.exec = Jvm.exec) (hby : c.code = method_2_code) (hret : meth.sig.returnType = some .boolean) (hZ : Z.Warmed39 s.vm) (hown : s.vm.findClass "com/example/homespun_functions/homespunfunctions/xml/XmlNamesIsNCNameStartCharPinLaw" = some m.cls) (hw : ∀ d ∈ tables_1, d.before a0 Z = true) (v0 : Int32) {fs : List Frame} (hl : own_Rt e T m fs (.int (f2_4 v0))) : Steps p.tables e below (T.setTop (mkF m 4 #[.val (.int v0)] [])) (T.setFrames fs) := by
  show Steps p.tables e below (T.setTop (mkF m 4 #[.val (.int v0)] [])) _
  refine XS.iconst X.here hx rfl (hb hby d2_4) ?_
  show Steps p.tables e below (T.setTop (mkF m 5 #[.val (.int v0)] [(.int (1 : Int32))])) _
  exact retN X hx (t := .boolean) hret (by simp) (hb hby d2_5) hl
theorem g2_0 (X : Stand p l e R s m args below meth c T locs cells slots) (hx : p.tables.exec = Jvm.exec) (hby : c.code = method_2_code) (hret : meth.sig.returnType = some .boolean) (hZ : Z.Warmed39 s.vm) (hown : s.vm.findClass "com/example/homespun_functions/homespunfunctions/xml/XmlNamesIsNCNameStartCharPinLaw" = some m.cls) (hw : ∀ d ∈ tables_1, d.before a0 Z = true) (v0 : Int32) {fs : List Frame} (hl : own_Rt e T m fs (.int (f2_0 v0))) : Steps p.tables e below (T.setTop (mkF m 0 #[.val (.int v0)] [])) (T.setFrames fs) := by
  show Steps p.tables e below (T.setTop (mkF m 0 #[.val (.int v0)] [])) _
  refine XS.iloadN X.here hx rfl (hb hby d2_0) rfl ?_
  show Steps p.tables e below (T.setTop (mkF m 1 #[.val (.int v0)] [(.int v0)])) _
  by_cases hc : v0 < (0 : Int32)
  · rw [show f2_0 v0 = f2_4 v0 from if_pos hc] at hl
    refine XS.ifNo X.here hx rfl (hb hby d2_1) rfl ((if0 _ _).trans (tlt hc).2.1) ?_
    exact g2_4 X hx hby hret hZ hown hw v0 hl
  · rw [show f2_0 v0 = f2_6 v0 from if_neg hc] at hl
    refine XS.ifYes X.here hx rfl (pc0 := 1) (pc' := 6) rfl (hb hby d2_1) rfl ((if0 _ _).trans (flt hc).2.1) (by decide) (by decide) ?_
    exact g2_6 X hx hby hret hZ hown hw v0 hl
end Own2
def Q2 (v0 : Int32) (h0 : Heap) (n0 : Nat) (v : Option Value) (h : Heap) (L : List Loc) : Prop := v = some (.int (f2_0 v0)) ∧ Fr n0 L ∧ h = h0
set_option maxRecDepth 65536 in
set_option maxHeartbeats 40000000 in
theorem rm2 (l : Launch) (Z : State) (a0 : Array Value) (hw : ∀ d ∈ tables_1, d.before a0 Z = true) (ws : List Jvm.Cond) (v0 : Int32) (h0 : Heap) (n0 : Nat) (Z0 : n0 ≤ h0.size) :
    MetFree l (⟨"com/example/homespun_functions/homespunfunctions/xml/XmlNamesIsNCNameStartCharPinLaw", "excluded", "(I)Z"⟩ : MethodName) (head1 (Jvm.Cond.code (⟨"com/example/homespun_functions/homespunfunctions/xml/XmlNamesIsNCNameStartCharPinLaw", "excluded", "(I)Z"⟩ : MethodName) method_2_code 1 (some .boolean) :: ws) ({ frames := 0, cells := 0, slots := 0, locals := 0 } : Room)) (fun a U => a = #[(.int v0)] ∧ Z.Warmed39 U.vm ∧ U.heap = h0) (fun _ _ _ _ _ => True) (fun _ U o U' => ∃ v L, o = .returned v ∧ Q2 v0 h0 n0 v U'.heap L ∧ FrameEnd U o U' L ({ frames := 0, cells := 0, slots := 0, locals := 0 } : Room).cells ({ frames := 0, cells := 0, slots := 0, locals := 0 } : Room).slots) := by
  refine MetFree.of_bodySF (plainFor_of_name pn_2) hisR ?_
  intro p e s m args below meth c s₁ Bd hml0 hP hK
  obtain ⟨rfl, hZ, hh⟩ := hP
  have hx := Bd.exec
  have hby := Bd.bytes
  have hown : s.vm.findClass "com/example/homespun_functions/homespunfunctions/xml/XmlNamesIsNCNameStartCharPinLaw" = some m.cls := findClass_of_methodNamed Bd.named
  have X0 : Stand p l e ({ frames := 0, cells := 0, slots := 0, locals := 0 } : Room) s m #[(.int v0)] below meth c s₁ [] 0 0 := Stand.of_body Bd
  have e0 : s₁.heap = h0 := by rw [← hh, Bd.state]; rfl
  have N0 := Fr.nil n0
  have pre0 : ∀ t, Steps p.tables e below (s₁.setTop (mkF m 0 #[.val (.int v0)] [])) t → Steps p.tables e below (s₁.setTop (entryFrame m #[(.int v0)] 1)) t := fun t k => castTop (ef_2 m v0) k
  obtain ⟨fs, hr, hrun, hended, hW, hsame⟩ := X0.leave (v := some (.int (f2_0 v0))) (fun h => by rw [Bd.returns] at h; cases h)
  refine ⟨_, _, pre0 _ ?_, hrun, hended, _, _, rfl, ?_, ⟨_, rfl⟩, hW, hsame.mono (by decide) (by decide)⟩
  · exact g2_0 X0 hx hby Bd.returns hZ hown hw v0 hr
  · show Q2 v0 h0 n0 _ s₁.heap _
    rw [e0]
    exact ⟨rfl, N0, rfl⟩
theorem pd_2 : parseMethodDescriptor "(I)Z" = some ⟨[.int], some .boolean⟩ := by decide +kernel
theorem own_eq {x y : Int32} : x = y ↔ x.toInt = y.toInt := Int32.toInt_inj.symm
theorem own_lt {x y : Int32} : x < y ↔ x.toInt < y.toInt := Int32.lt_iff_toInt_lt
theorem t1_0 (v0 : Int32) (h1 : (-2147483648) ≤ v0.toInt) (h2 : v0.toInt ≤ -1) : f1_0 v0 = (0 : Int32) := by
  rw [show f1_0 v0 = f1_7 v0 from if_pos ((own_lt (x := v0) (y := (128 : Int32))).mpr (show v0.toInt < (128) by omega))]
  rw [show f1_7 v0 = f1_19 v0 from if_pos ((own_lt (x := v0) (y := (97 : Int32))).mpr (show v0.toInt < (97) by omega))]
  rw [show f1_19 v0 = f1_31 v0 from if_pos ((own_lt (x := v0) (y := (65 : Int32))).mpr (show v0.toInt < (65) by omega))]
  rw [show f1_31 v0 = f1_41 v0 from if_neg (fun h => absurd ((own_eq (x := v0) (y := (95 : Int32))).mp h) (show ¬ v0.toInt = (95) by omega))]
  rfl
theorem t1_1 (v0 : Int32) (h1 : (0) ≤ v0.toInt) (h2 : v0.toInt ≤ 64) : f1_0 v0 = (0 : Int32) := by
  rw [show f1_0 v0 = f1_7 v0 from if_pos ((own_lt (x := v0) (y := (128 : Int32))).mpr (show v0.toInt < (128) by omega))]
  rw [show f1_7 v0 = f1_19 v0 from if_pos ((own_lt (x := v0) (y := (97 : Int32))).mpr (show v0.toInt < (97) by omega))]
  rw [show f1_19 v0 = f1_31 v0 from if_pos ((own_lt (x := v0) (y := (65 : Int32))).mpr (show v0.toInt < (65) by omega))]
  rw [show f1_31 v0 = f1_41 v0 from if_neg (fun h => absurd ((own_eq (x := v0) (y := (95 : Int32))).mp h) (show ¬ v0.toInt = (95) by omega))]
  rfl
theorem t1_2 (v0 : Int32) (h1 : (65) ≤ v0.toInt) (h2 : v0.toInt ≤ 90) : f1_0 v0 = (1 : Int32) := by
  rw [show f1_0 v0 = f1_7 v0 from if_pos ((own_lt (x := v0) (y := (128 : Int32))).mpr (show v0.toInt < (128) by omega))]
  rw [show f1_7 v0 = f1_19 v0 from if_pos ((own_lt (x := v0) (y := (97 : Int32))).mpr (show v0.toInt < (97) by omega))]
  rw [show f1_19 v0 = f1_25 v0 from if_neg (fun h => absurd ((own_lt (x := v0) (y := (65 : Int32))).mp h) (show ¬ v0.toInt < (65) by omega))]
  rw [show f1_25 v0 = f1_37 v0 from if_neg (fun h => absurd ((own_lt (x := (90 : Int32)) (y := v0)).mp h) (show ¬ (90) < v0.toInt by omega))]
  rfl
theorem t1_3 (v0 : Int32) (h1 : (91) ≤ v0.toInt) (h2 : v0.toInt ≤ 94) : f1_0 v0 = (0 : Int32) := by
  rw [show f1_0 v0 = f1_7 v0 from if_pos ((own_lt (x := v0) (y := (128 : Int32))).mpr (show v0.toInt < (128) by omega))]
  rw [show f1_7 v0 = f1_19 v0 from if_pos ((own_lt (x := v0) (y := (97 : Int32))).mpr (show v0.toInt < (97) by omega))]
  rw [show f1_19 v0 = f1_25 v0 from if_neg (fun h => absurd ((own_lt (x := v0) (y := (65 : Int32))).mp h) (show ¬ v0.toInt < (65) by omega))]
  rw [show f1_25 v0 = f1_31 v0 from if_pos ((own_lt (x := (90 : Int32)) (y := v0)).mpr (show (90) < v0.toInt by omega))]
  rw [show f1_31 v0 = f1_41 v0 from if_neg (fun h => absurd ((own_eq (x := v0) (y := (95 : Int32))).mp h) (show ¬ v0.toInt = (95) by omega))]
  rfl
theorem t1_4 (v0 : Int32) (h1 : (95) ≤ v0.toInt) (h2 : v0.toInt ≤ 95) : f1_0 v0 = (1 : Int32) := by
  rw [show f1_0 v0 = f1_7 v0 from if_pos ((own_lt (x := v0) (y := (128 : Int32))).mpr (show v0.toInt < (128) by omega))]
  rw [show f1_7 v0 = f1_19 v0 from if_pos ((own_lt (x := v0) (y := (97 : Int32))).mpr (show v0.toInt < (97) by omega))]
  rw [show f1_19 v0 = f1_25 v0 from if_neg (fun h => absurd ((own_lt (x := v0) (y := (65 : Int32))).mp h) (show ¬ v0.toInt < (65) by omega))]
  rw [show f1_25 v0 = f1_31 v0 from if_pos ((own_lt (x := (90 : Int32)) (y := v0)).mpr (show (90) < v0.toInt by omega))]
  rw [show f1_31 v0 = f1_37 v0 from if_pos ((own_eq (x := v0) (y := (95 : Int32))).mpr (show v0.toInt = (95) by omega))]
  rfl
theorem t1_5 (v0 : Int32) (h1 : (96) ≤ v0.toInt) (h2 : v0.toInt ≤ 96) : f1_0 v0 = (0 : Int32) := by
  rw [show f1_0 v0 = f1_7 v0 from if_pos ((own_lt (x := v0) (y := (128 : Int32))).mpr (show v0.toInt < (128) by omega))]
  rw [show f1_7 v0 = f1_19 v0 from if_pos ((own_lt (x := v0) (y := (97 : Int32))).mpr (show v0.toInt < (97) by omega))]
  rw [show f1_19 v0 = f1_25 v0 from if_neg (fun h => absurd ((own_lt (x := v0) (y := (65 : Int32))).mp h) (show ¬ v0.toInt < (65) by omega))]
  rw [show f1_25 v0 = f1_31 v0 from if_pos ((own_lt (x := (90 : Int32)) (y := v0)).mpr (show (90) < v0.toInt by omega))]
  rw [show f1_31 v0 = f1_41 v0 from if_neg (fun h => absurd ((own_eq (x := v0) (y := (95 : Int32))).mp h) (show ¬ v0.toInt = (95) by omega))]
  rfl
theorem t1_6 (v0 : Int32) (h1 : (97) ≤ v0.toInt) (h2 : v0.toInt ≤ 122) : f1_0 v0 = (1 : Int32) := by
  rw [show f1_0 v0 = f1_7 v0 from if_pos ((own_lt (x := v0) (y := (128 : Int32))).mpr (show v0.toInt < (128) by omega))]
  rw [show f1_7 v0 = f1_13 v0 from if_neg (fun h => absurd ((own_lt (x := v0) (y := (97 : Int32))).mp h) (show ¬ v0.toInt < (97) by omega))]
  rw [show f1_13 v0 = f1_37 v0 from if_neg (fun h => absurd ((own_lt (x := (122 : Int32)) (y := v0)).mp h) (show ¬ (122) < v0.toInt by omega))]
  rfl
theorem t1_7 (v0 : Int32) (h1 : (123) ≤ v0.toInt) (h2 : v0.toInt ≤ 127) : f1_0 v0 = (0 : Int32) := by
  rw [show f1_0 v0 = f1_7 v0 from if_pos ((own_lt (x := v0) (y := (128 : Int32))).mpr (show v0.toInt < (128) by omega))]
  rw [show f1_7 v0 = f1_13 v0 from if_neg (fun h => absurd ((own_lt (x := v0) (y := (97 : Int32))).mp h) (show ¬ v0.toInt < (97) by omega))]
  rw [show f1_13 v0 = f1_19 v0 from if_pos ((own_lt (x := (122 : Int32)) (y := v0)).mpr (show (122) < v0.toInt by omega))]
  rw [show f1_19 v0 = f1_25 v0 from if_neg (fun h => absurd ((own_lt (x := v0) (y := (65 : Int32))).mp h) (show ¬ v0.toInt < (65) by omega))]
  rw [show f1_25 v0 = f1_31 v0 from if_pos ((own_lt (x := (90 : Int32)) (y := v0)).mpr (show (90) < v0.toInt by omega))]
  rw [show f1_31 v0 = f1_41 v0 from if_neg (fun h => absurd ((own_eq (x := v0) (y := (95 : Int32))).mp h) (show ¬ v0.toInt = (95) by omega))]
  rfl
theorem t1_8 (v0 : Int32) (h1 : (128) ≤ v0.toInt) (h2 : v0.toInt ≤ 191) : f1_0 v0 = (0 : Int32) := by
  rw [show f1_0 v0 = f1_43 v0 from if_neg (fun h => absurd ((own_lt (x := v0) (y := (128 : Int32))).mp h) (show ¬ v0.toInt < (128) by omega))]
  rw [show f1_43 v0 = f1_57 v0 from if_pos ((own_lt (x := v0) (y := (192 : Int32))).mpr (show v0.toInt < (192) by omega))]
  rw [show f1_57 v0 = f1_71 v0 from if_pos ((own_lt (x := v0) (y := (216 : Int32))).mpr (show v0.toInt < (216) by omega))]
  rw [show f1_71 v0 = f1_85 v0 from if_pos ((own_lt (x := v0) (y := (248 : Int32))).mpr (show v0.toInt < (248) by omega))]
  rw [show f1_85 v0 = f1_99 v0 from if_pos ((own_lt (x := v0) (y := (880 : Int32))).mpr (show v0.toInt < (880) by omega))]
  rw [show f1_99 v0 = f1_113 v0 from if_pos ((own_lt (x := v0) (y := (895 : Int32))).mpr (show v0.toInt < (895) by omega))]
  rw [show f1_113 v0 = f1_127 v0 from if_pos ((own_lt (x := v0) (y := (8204 : Int32))).mpr (show v0.toInt < (8204) by omega))]
  rw [show f1_127 v0 = f1_141 v0 from if_pos ((own_lt (x := v0) (y := (8304 : Int32))).mpr (show v0.toInt < (8304) by omega))]
  rw [show f1_141 v0 = f1_155 v0 from if_pos ((own_lt (x := v0) (y := (11264 : Int32))).mpr (show v0.toInt < (11264) by omega))]
  rw [show f1_155 v0 = f1_168 v0 from if_pos ((own_lt (x := v0) (y := (12289 : Int32))).mpr (show v0.toInt < (12289) by omega))]
  rw [show f1_168 v0 = f1_180 v0 from if_pos ((own_lt (x := v0) (y := (63744 : Int32))).mpr (show v0.toInt < (63744) by omega))]
  rw [show f1_180 v0 = f1_192 v0 from if_pos ((own_lt (x := v0) (y := (65008 : Int32))).mpr (show v0.toInt < (65008) by omega))]
  rw [show f1_192 v0 = f1_208 v0 from if_pos ((own_lt (x := v0) (y := (65536 : Int32))).mpr (show v0.toInt < (65536) by omega))]
  rfl
theorem t1_9 (v0 : Int32) (h1 : (192) ≤ v0.toInt) (h2 : v0.toInt ≤ 214) : f1_0 v0 = (1 : Int32) := by
  rw [show f1_0 v0 = f1_43 v0 from if_neg (fun h => absurd ((own_lt (x := v0) (y := (128 : Int32))).mp h) (show ¬ v0.toInt < (128) by omega))]
  rw [show f1_43 v0 = f1_50 v0 from if_neg (fun h => absurd ((own_lt (x := v0) (y := (192 : Int32))).mp h) (show ¬ v0.toInt < (192) by omega))]
  rw [show f1_50 v0 = f1_204 v0 from if_neg (fun h => absurd ((own_lt (x := (214 : Int32)) (y := v0)).mp h) (show ¬ (214) < v0.toInt by omega))]
  rfl
theorem t1_10 (v0 : Int32) (h1 : (215) ≤ v0.toInt) (h2 : v0.toInt ≤ 215) : f1_0 v0 = (0 : Int32) := by
  rw [show f1_0 v0 = f1_43 v0 from if_neg (fun h => absurd ((own_lt (x := v0) (y := (128 : Int32))).mp h) (show ¬ v0.toInt < (128) by omega))]
  rw [show f1_43 v0 = f1_50 v0 from if_neg (fun h => absurd ((own_lt (x := v0) (y := (192 : Int32))).mp h) (show ¬ v0.toInt < (192) by omega))]
  rw [show f1_50 v0 = f1_57 v0 from if_pos ((own_lt (x := (214 : Int32)) (y := v0)).mpr (show (214) < v0.toInt by omega))]
  rw [show f1_57 v0 = f1_71 v0 from if_pos ((own_lt (x := v0) (y := (216 : Int32))).mpr (show v0.toInt < (216) by omega))]
  rw [show f1_71 v0 = f1_85 v0 from if_pos ((own_lt (x := v0) (y := (248 : Int32))).mpr (show v0.toInt < (248) by omega))]
  rw [show f1_85 v0 = f1_99 v0 from if_pos ((own_lt (x := v0) (y := (880 : Int32))).mpr (show v0.toInt < (880) by omega))]
  rw [show f1_99 v0 = f1_113 v0 from if_pos ((own_lt (x := v0) (y := (895 : Int32))).mpr (show v0.toInt < (895) by omega))]
  rw [show f1_113 v0 = f1_127 v0 from if_pos ((own_lt (x := v0) (y := (8204 : Int32))).mpr (show v0.toInt < (8204) by omega))]
  rw [show f1_127 v0 = f1_141 v0 from if_pos ((own_lt (x := v0) (y := (8304 : Int32))).mpr (show v0.toInt < (8304) by omega))]
  rw [show f1_141 v0 = f1_155 v0 from if_pos ((own_lt (x := v0) (y := (11264 : Int32))).mpr (show v0.toInt < (11264) by omega))]
  rw [show f1_155 v0 = f1_168 v0 from if_pos ((own_lt (x := v0) (y := (12289 : Int32))).mpr (show v0.toInt < (12289) by omega))]
  rw [show f1_168 v0 = f1_180 v0 from if_pos ((own_lt (x := v0) (y := (63744 : Int32))).mpr (show v0.toInt < (63744) by omega))]
  rw [show f1_180 v0 = f1_192 v0 from if_pos ((own_lt (x := v0) (y := (65008 : Int32))).mpr (show v0.toInt < (65008) by omega))]
  rw [show f1_192 v0 = f1_208 v0 from if_pos ((own_lt (x := v0) (y := (65536 : Int32))).mpr (show v0.toInt < (65536) by omega))]
  rfl
theorem t1_11 (v0 : Int32) (h1 : (216) ≤ v0.toInt) (h2 : v0.toInt ≤ 246) : f1_0 v0 = (1 : Int32) := by
  rw [show f1_0 v0 = f1_43 v0 from if_neg (fun h => absurd ((own_lt (x := v0) (y := (128 : Int32))).mp h) (show ¬ v0.toInt < (128) by omega))]
  rw [show f1_43 v0 = f1_50 v0 from if_neg (fun h => absurd ((own_lt (x := v0) (y := (192 : Int32))).mp h) (show ¬ v0.toInt < (192) by omega))]
  rw [show f1_50 v0 = f1_57 v0 from if_pos ((own_lt (x := (214 : Int32)) (y := v0)).mpr (show (214) < v0.toInt by omega))]
  rw [show f1_57 v0 = f1_64 v0 from if_neg (fun h => absurd ((own_lt (x := v0) (y := (216 : Int32))).mp h) (show ¬ v0.toInt < (216) by omega))]
  rw [show f1_64 v0 = f1_204 v0 from if_neg (fun h => absurd ((own_lt (x := (246 : Int32)) (y := v0)).mp h) (show ¬ (246) < v0.toInt by omega))]
  rfl
theorem t1_12 (v0 : Int32) (h1 : (247) ≤ v0.toInt) (h2 : v0.toInt ≤ 247) : f1_0 v0 = (0 : Int32) := by
  rw [show f1_0 v0 = f1_43 v0 from if_neg (fun h => absurd ((own_lt (x := v0) (y := (128 : Int32))).mp h) (show ¬ v0.toInt < (128) by omega))]
  rw [show f1_43 v0 = f1_50 v0 from if_neg (fun h => absurd ((own_lt (x := v0) (y := (192 : Int32))).mp h) (show ¬ v0.toInt < (192) by omega))]
  rw [show f1_50 v0 = f1_57 v0 from if_pos ((own_lt (x := (214 : Int32)) (y := v0)).mpr (show (214) < v0.toInt by omega))]
  rw [show f1_57 v0 = f1_64 v0 from if_neg (fun h => absurd ((own_lt (x := v0) (y := (216 : Int32))).mp h) (show ¬ v0.toInt < (216) by omega))]
  rw [show f1_64 v0 = f1_71 v0 from if_pos ((own_lt (x := (246 : Int32)) (y := v0)).mpr (show (246) < v0.toInt by omega))]
  rw [show f1_71 v0 = f1_85 v0 from if_pos ((own_lt (x := v0) (y := (248 : Int32))).mpr (show v0.toInt < (248) by omega))]
  rw [show f1_85 v0 = f1_99 v0 from if_pos ((own_lt (x := v0) (y := (880 : Int32))).mpr (show v0.toInt < (880) by omega))]
  rw [show f1_99 v0 = f1_113 v0 from if_pos ((own_lt (x := v0) (y := (895 : Int32))).mpr (show v0.toInt < (895) by omega))]
  rw [show f1_113 v0 = f1_127 v0 from if_pos ((own_lt (x := v0) (y := (8204 : Int32))).mpr (show v0.toInt < (8204) by omega))]
  rw [show f1_127 v0 = f1_141 v0 from if_pos ((own_lt (x := v0) (y := (8304 : Int32))).mpr (show v0.toInt < (8304) by omega))]
  rw [show f1_141 v0 = f1_155 v0 from if_pos ((own_lt (x := v0) (y := (11264 : Int32))).mpr (show v0.toInt < (11264) by omega))]
  rw [show f1_155 v0 = f1_168 v0 from if_pos ((own_lt (x := v0) (y := (12289 : Int32))).mpr (show v0.toInt < (12289) by omega))]
  rw [show f1_168 v0 = f1_180 v0 from if_pos ((own_lt (x := v0) (y := (63744 : Int32))).mpr (show v0.toInt < (63744) by omega))]
  rw [show f1_180 v0 = f1_192 v0 from if_pos ((own_lt (x := v0) (y := (65008 : Int32))).mpr (show v0.toInt < (65008) by omega))]
  rw [show f1_192 v0 = f1_208 v0 from if_pos ((own_lt (x := v0) (y := (65536 : Int32))).mpr (show v0.toInt < (65536) by omega))]
  rfl
theorem t1_13 (v0 : Int32) (h1 : (248) ≤ v0.toInt) (h2 : v0.toInt ≤ 767) : f1_0 v0 = (1 : Int32) := by
  rw [show f1_0 v0 = f1_43 v0 from if_neg (fun h => absurd ((own_lt (x := v0) (y := (128 : Int32))).mp h) (show ¬ v0.toInt < (128) by omega))]
  rw [show f1_43 v0 = f1_50 v0 from if_neg (fun h => absurd ((own_lt (x := v0) (y := (192 : Int32))).mp h) (show ¬ v0.toInt < (192) by omega))]
  rw [show f1_50 v0 = f1_57 v0 from if_pos ((own_lt (x := (214 : Int32)) (y := v0)).mpr (show (214) < v0.toInt by omega))]
  rw [show f1_57 v0 = f1_64 v0 from if_neg (fun h => absurd ((own_lt (x := v0) (y := (216 : Int32))).mp h) (show ¬ v0.toInt < (216) by omega))]
  rw [show f1_64 v0 = f1_71 v0 from if_pos ((own_lt (x := (246 : Int32)) (y := v0)).mpr (show (246) < v0.toInt by omega))]
  rw [show f1_71 v0 = f1_78 v0 from if_neg (fun h => absurd ((own_lt (x := v0) (y := (248 : Int32))).mp h) (show ¬ v0.toInt < (248) by omega))]
  rw [show f1_78 v0 = f1_204 v0 from if_neg (fun h => absurd ((own_lt (x := (767 : Int32)) (y := v0)).mp h) (show ¬ (767) < v0.toInt by omega))]
  rfl
theorem t1_14 (v0 : Int32) (h1 : (768) ≤ v0.toInt) (h2 : v0.toInt ≤ 879) : f1_0 v0 = (0 : Int32) := by
  rw [show f1_0 v0 = f1_43 v0 from if_neg (fun h => absurd ((own_lt (x := v0) (y := (128 : Int32))).mp h) (show ¬ v0.toInt < (128) by omega))]
  rw [show f1_43 v0 = f1_50 v0 from if_neg (fun h => absurd ((own_lt (x := v0) (y := (192 : Int32))).mp h) (show ¬ v0.toInt < (192) by omega))]
  rw [show f1_50 v0 = f1_57 v0 from if_pos ((own_lt (x := (214 : Int32)) (y := v0)).mpr (show (214) < v0.toInt by omega))]
  rw [show f1_57 v0 = f1_64 v0 from if_neg (fun h => absurd ((own_lt (x := v0) (y := (216 : Int32))).mp h) (show ¬ v0.toInt < (216) by omega))]
  rw [show f1_64 v0 = f1_71 v0 from if_pos ((own_lt (x := (246 : Int32)) (y := v0)).mpr (show (246) < v0.toInt by omega))]
  rw [show f1_71 v0 = f1_78 v0 from if_neg (fun h => absurd ((own_lt (x := v0) (y := (248 : Int32))).mp h) (show ¬ v0.toInt < (248) by omega))]
  rw [show f1_78 v0 = f1_85 v0 from if_pos ((own_lt (x := (767 : Int32)) (y := v0)).mpr (show (767) < v0.toInt by omega))]
  rw [show f1_85 v0 = f1_99 v0 from if_pos ((own_lt (x := v0) (y := (880 : Int32))).mpr (show v0.toInt < (880) by omega))]
  rw [show f1_99 v0 = f1_113 v0 from if_pos ((own_lt (x := v0) (y := (895 : Int32))).mpr (show v0.toInt < (895) by omega))]
  rw [show f1_113 v0 = f1_127 v0 from if_pos ((own_lt (x := v0) (y := (8204 : Int32))).mpr (show v0.toInt < (8204) by omega))]
  rw [show f1_127 v0 = f1_141 v0 from if_pos ((own_lt (x := v0) (y := (8304 : Int32))).mpr (show v0.toInt < (8304) by omega))]
  rw [show f1_141 v0 = f1_155 v0 from if_pos ((own_lt (x := v0) (y := (11264 : Int32))).mpr (show v0.toInt < (11264) by omega))]
  rw [show f1_155 v0 = f1_168 v0 from if_pos ((own_lt (x := v0) (y := (12289 : Int32))).mpr (show v0.toInt < (12289) by omega))]
  rw [show f1_168 v0 = f1_180 v0 from if_pos ((own_lt (x := v0) (y := (63744 : Int32))).mpr (show v0.toInt < (63744) by omega))]
  rw [show f1_180 v0 = f1_192 v0 from if_pos ((own_lt (x := v0) (y := (65008 : Int32))).mpr (show v0.toInt < (65008) by omega))]
  rw [show f1_192 v0 = f1_208 v0 from if_pos ((own_lt (x := v0) (y := (65536 : Int32))).mpr (show v0.toInt < (65536) by omega))]
  rfl
theorem t1_15 (v0 : Int32) (h1 : (880) ≤ v0.toInt) (h2 : v0.toInt ≤ 893) : f1_0 v0 = (1 : Int32) := by
  rw [show f1_0 v0 = f1_43 v0 from if_neg (fun h => absurd ((own_lt (x := v0) (y := (128 : Int32))).mp h) (show ¬ v0.toInt < (128) by omega))]
  rw [show f1_43 v0 = f1_50 v0 from if_neg (fun h => absurd ((own_lt (x := v0) (y := (192 : Int32))).mp h) (show ¬ v0.toInt < (192) by omega))]
  rw [show f1_50 v0 = f1_57 v0 from if_pos ((own_lt (x := (214 : Int32)) (y := v0)).mpr (show (214) < v0.toInt by omega))]
  rw [show f1_57 v0 = f1_64 v0 from if_neg (fun h => absurd ((own_lt (x := v0) (y := (216 : Int32))).mp h) (show ¬ v0.toInt < (216) by omega))]
  rw [show f1_64 v0 = f1_71 v0 from if_pos ((own_lt (x := (246 : Int32)) (y := v0)).mpr (show (246) < v0.toInt by omega))]
  rw [show f1_71 v0 = f1_78 v0 from if_neg (fun h => absurd ((own_lt (x := v0) (y := (248 : Int32))).mp h) (show ¬ v0.toInt < (248) by omega))]
  rw [show f1_78 v0 = f1_85 v0 from if_pos ((own_lt (x := (767 : Int32)) (y := v0)).mpr (show (767) < v0.toInt by omega))]
  rw [show f1_85 v0 = f1_92 v0 from if_neg (fun h => absurd ((own_lt (x := v0) (y := (880 : Int32))).mp h) (show ¬ v0.toInt < (880) by omega))]
  rw [show f1_92 v0 = f1_204 v0 from if_neg (fun h => absurd ((own_lt (x := (893 : Int32)) (y := v0)).mp h) (show ¬ (893) < v0.toInt by omega))]
  rfl
theorem t1_16 (v0 : Int32) (h1 : (894) ≤ v0.toInt) (h2 : v0.toInt ≤ 894) : f1_0 v0 = (0 : Int32) := by
  rw [show f1_0 v0 = f1_43 v0 from if_neg (fun h => absurd ((own_lt (x := v0) (y := (128 : Int32))).mp h) (show ¬ v0.toInt < (128) by omega))]
  rw [show f1_43 v0 = f1_50 v0 from if_neg (fun h => absurd ((own_lt (x := v0) (y := (192 : Int32))).mp h) (show ¬ v0.toInt < (192) by omega))]
  rw [show f1_50 v0 = f1_57 v0 from if_pos ((own_lt (x := (214 : Int32)) (y := v0)).mpr (show (214) < v0.toInt by omega))]
  rw [show f1_57 v0 = f1_64 v0 from if_neg (fun h => absurd ((own_lt (x := v0) (y := (216 : Int32))).mp h) (show ¬ v0.toInt < (216) by omega))]
  rw [show f1_64 v0 = f1_71 v0 from if_pos ((own_lt (x := (246 : Int32)) (y := v0)).mpr (show (246) < v0.toInt by omega))]
  rw [show f1_71 v0 = f1_78 v0 from if_neg (fun h => absurd ((own_lt (x := v0) (y := (248 : Int32))).mp h) (show ¬ v0.toInt < (248) by omega))]
  rw [show f1_78 v0 = f1_85 v0 from if_pos ((own_lt (x := (767 : Int32)) (y := v0)).mpr (show (767) < v0.toInt by omega))]
  rw [show f1_85 v0 = f1_92 v0 from if_neg (fun h => absurd ((own_lt (x := v0) (y := (880 : Int32))).mp h) (show ¬ v0.toInt < (880) by omega))]
  rw [show f1_92 v0 = f1_99 v0 from if_pos ((own_lt (x := (893 : Int32)) (y := v0)).mpr (show (893) < v0.toInt by omega))]
  rw [show f1_99 v0 = f1_113 v0 from if_pos ((own_lt (x := v0) (y := (895 : Int32))).mpr (show v0.toInt < (895) by omega))]
  rw [show f1_113 v0 = f1_127 v0 from if_pos ((own_lt (x := v0) (y := (8204 : Int32))).mpr (show v0.toInt < (8204) by omega))]
  rw [show f1_127 v0 = f1_141 v0 from if_pos ((own_lt (x := v0) (y := (8304 : Int32))).mpr (show v0.toInt < (8304) by omega))]
  rw [show f1_141 v0 = f1_155 v0 from if_pos ((own_lt (x := v0) (y := (11264 : Int32))).mpr (show v0.toInt < (11264) by omega))]
  rw [show f1_155 v0 = f1_168 v0 from if_pos ((own_lt (x := v0) (y := (12289 : Int32))).mpr (show v0.toInt < (12289) by omega))]
  rw [show f1_168 v0 = f1_180 v0 from if_pos ((own_lt (x := v0) (y := (63744 : Int32))).mpr (show v0.toInt < (63744) by omega))]
  rw [show f1_180 v0 = f1_192 v0 from if_pos ((own_lt (x := v0) (y := (65008 : Int32))).mpr (show v0.toInt < (65008) by omega))]
  rw [show f1_192 v0 = f1_208 v0 from if_pos ((own_lt (x := v0) (y := (65536 : Int32))).mpr (show v0.toInt < (65536) by omega))]
  rfl
theorem t1_17 (v0 : Int32) (h1 : (895) ≤ v0.toInt) (h2 : v0.toInt ≤ 8191) : f1_0 v0 = (1 : Int32) := by
  rw [show f1_0 v0 = f1_43 v0 from if_neg (fun h => absurd ((own_lt (x := v0) (y := (128 : Int32))).mp h) (show ¬ v0.toInt < (128) by omega))]
  rw [show f1_43 v0 = f1_50 v0 from if_neg (fun h => absurd ((own_lt (x := v0) (y := (192 : Int32))).mp h) (show ¬ v0.toInt < (192) by omega))]
  rw [show f1_50 v0 = f1_57 v0 from if_pos ((own_lt (x := (214 : Int32)) (y := v0)).mpr (show (214) < v0.toInt by omega))]
  rw [show f1_57 v0 = f1_64 v0 from if_neg (fun h => absurd ((own_lt (x := v0) (y := (216 : Int32))).mp h) (show ¬ v0.toInt < (216) by omega))]
  rw [show f1_64 v0 = f1_71 v0 from if_pos ((own_lt (x := (246 : Int32)) (y := v0)).mpr (show (246) < v0.toInt by omega))]
  rw [show f1_71 v0 = f1_78 v0 from if_neg (fun h => absurd ((own_lt (x := v0) (y := (248 : Int32))).mp h) (show ¬ v0.toInt < (248) by omega))]
  rw [show f1_78 v0 = f1_85 v0 from if_pos ((own_lt (x := (767 : Int32)) (y := v0)).mpr (show (767) < v0.toInt by omega))]
  rw [show f1_85 v0 = f1_92 v0 from if_neg (fun h => absurd ((own_lt (x := v0) (y := (880 : Int32))).mp h) (show ¬ v0.toInt < (880) by omega))]
  rw [show f1_92 v0 = f1_99 v0 from if_pos ((own_lt (x := (893 : Int32)) (y := v0)).mpr (show (893) < v0.toInt by omega))]
  rw [show f1_99 v0 = f1_106 v0 from if_neg (fun h => absurd ((own_lt (x := v0) (y := (895 : Int32))).mp h) (show ¬ v0.toInt < (895) by omega))]
  rw [show f1_106 v0 = f1_204 v0 from if_neg (fun h => absurd ((own_lt (x := (8191 : Int32)) (y := v0)).mp h) (show ¬ (8191) < v0.toInt by omega))]
  rfl
theorem t1_18 (v0 : Int32) (h1 : (8192) ≤ v0.toInt) (h2 : v0.toInt ≤ 8203) : f1_0 v0 = (0 : Int32) := by
  rw [show f1_0 v0 = f1_43 v0 from if_neg (fun h => absurd ((own_lt (x := v0) (y := (128 : Int32))).mp h) (show ¬ v0.toInt < (128) by omega))]
  rw [show f1_43 v0 = f1_50 v0 from if_neg (fun h => absurd ((own_lt (x := v0) (y := (192 : Int32))).mp h) (show ¬ v0.toInt < (192) by omega))]
  rw [show f1_50 v0 = f1_57 v0 from if_pos ((own_lt (x := (214 : Int32)) (y := v0)).mpr (show (214) < v0.toInt by omega))]
  rw [show f1_57 v0 = f1_64 v0 from if_neg (fun h => absurd ((own_lt (x := v0) (y := (216 : Int32))).mp h) (show ¬ v0.toInt < (216) by omega))]
  rw [show f1_64 v0 = f1_71 v0 from if_pos ((own_lt (x := (246 : Int32)) (y := v0)).mpr (show (246) < v0.toInt by omega))]
  rw [show f1_71 v0 = f1_78 v0 from if_neg (fun h => absurd ((own_lt (x := v0) (y := (248 : Int32))).mp h) (show ¬ v0.toInt < (248) by omega))]
  rw [show f1_78 v0 = f1_85 v0 from if_pos ((own_lt (x := (767 : Int32)) (y := v0)).mpr (show (767) < v0.toInt by omega))]
  rw [show f1_85 v0 = f1_92 v0 from if_neg (fun h => absurd ((own_lt (x := v0) (y := (880 : Int32))).mp h) (show ¬ v0.toInt < (880) by omega))]
  rw [show f1_92 v0 = f1_99 v0 from if_pos ((own_lt (x := (893 : Int32)) (y := v0)).mpr (show (893) < v0.toInt by omega))]
  rw [show f1_99 v0 = f1_106 v0 from if_neg (fun h => absurd ((own_lt (x := v0) (y := (895 : Int32))).mp h) (show ¬ v0.toInt < (895) by omega))]
  rw [show f1_106 v0 = f1_113 v0 from if_pos ((own_lt (x := (8191 : Int32)) (y := v0)).mpr (show (8191) < v0.toInt by omega))]
  rw [show f1_113 v0 = f1_127 v0 from if_pos ((own_lt (x := v0) (y := (8204 : Int32))).mpr (show v0.toInt < (8204) by omega))]
  rw [show f1_127 v0 = f1_141 v0 from if_pos ((own_lt (x := v0) (y := (8304 : Int32))).mpr (show v0.toInt < (8304) by omega))]
  rw [show f1_141 v0 = f1_155 v0 from if_pos ((own_lt (x := v0) (y := (11264 : Int32))).mpr (show v0.toInt < (11264) by omega))]
  rw [show f1_155 v0 = f1_168 v0 from if_pos ((own_lt (x := v0) (y := (12289 : Int32))).mpr (show v0.toInt < (12289) by omega))]
  rw [show f1_168 v0 = f1_180 v0 from if_pos ((own_lt (x := v0) (y := (63744 : Int32))).mpr (show v0.toInt < (63744) by omega))]
  rw [show f1_180 v0 = f1_192 v0 from if_pos ((own_lt (x := v0) (y := (65008 : Int32))).mpr (show v0.toInt < (65008) by omega))]
  rw [show f1_192 v0 = f1_208 v0 from if_pos ((own_lt (x := v0) (y := (65536 : Int32))).mpr (show v0.toInt < (65536) by omega))]
  rfl
theorem t1_19 (v0 : Int32) (h1 : (8204) ≤ v0.toInt) (h2 : v0.toInt ≤ 8205) : f1_0 v0 = (1 : Int32) := by
  rw [show f1_0 v0 = f1_43 v0 from if_neg (fun h => absurd ((own_lt (x := v0) (y := (128 : Int32))).mp h) (show ¬ v0.toInt < (128) by omega))]
  rw [show f1_43 v0 = f1_50 v0 from if_neg (fun h => absurd ((own_lt (x := v0) (y := (192 : Int32))).mp h) (show ¬ v0.toInt < (192) by omega))]
  rw [show f1_50 v0 = f1_57 v0 from if_pos ((own_lt (x := (214 : Int32)) (y := v0)).mpr (show (214) < v0.toInt by omega))]
  rw [show f1_57 v0 = f1_64 v0 from if_neg (fun h => absurd ((own_lt (x := v0) (y := (216 : Int32))).mp h) (show ¬ v0.toInt < (216) by omega))]
  rw [show f1_64 v0 = f1_71 v0 from if_pos ((own_lt (x := (246 : Int32)) (y := v0)).mpr (show (246) < v0.toInt by omega))]
  rw [show f1_71 v0 = f1_78 v0 from if_neg (fun h => absurd ((own_lt (x := v0) (y := (248 : Int32))).mp h) (show ¬ v0.toInt < (248) by omega))]
  rw [show f1_78 v0 = f1_85 v0 from if_pos ((own_lt (x := (767 : Int32)) (y := v0)).mpr (show (767) < v0.toInt by omega))]
  rw [show f1_85 v0 = f1_92 v0 from if_neg (fun h => absurd ((own_lt (x := v0) (y := (880 : Int32))).mp h) (show ¬ v0.toInt < (880) by omega))]
  rw [show f1_92 v0 = f1_99 v0 from if_pos ((own_lt (x := (893 : Int32)) (y := v0)).mpr (show (893) < v0.toInt by omega))]
  rw [show f1_99 v0 = f1_106 v0 from if_neg (fun h => absurd ((own_lt (x := v0) (y := (895 : Int32))).mp h) (show ¬ v0.toInt < (895) by omega))]
  rw [show f1_106 v0 = f1_113 v0 from if_pos ((own_lt (x := (8191 : Int32)) (y := v0)).mpr (show (8191) < v0.toInt by omega))]
  rw [show f1_113 v0 = f1_120 v0 from if_neg (fun h => absurd ((own_lt (x := v0) (y := (8204 : Int32))).mp h) (show ¬ v0.toInt < (8204) by omega))]
  rw [show f1_120 v0 = f1_204 v0 from if_neg (fun h => absurd ((own_lt (x := (8205 : Int32)) (y := v0)).mp h) (show ¬ (8205) < v0.toInt by omega))]
  rfl
theorem t1_20 (v0 : Int32) (h1 : (8206) ≤ v0.toInt) (h2 : v0.toInt ≤ 8303) : f1_0 v0 = (0 : Int32) := by
  rw [show f1_0 v0 = f1_43 v0 from if_neg (fun h => absurd ((own_lt (x := v0) (y := (128 : Int32))).mp h) (show ¬ v0.toInt < (128) by omega))]
  rw [show f1_43 v0 = f1_50 v0 from if_neg (fun h => absurd ((own_lt (x := v0) (y := (192 : Int32))).mp h) (show ¬ v0.toInt < (192) by omega))]
  rw [show f1_50 v0 = f1_57 v0 from if_pos ((own_lt (x := (214 : Int32)) (y := v0)).mpr (show (214) < v0.toInt by omega))]
  rw [show f1_57 v0 = f1_64 v0 from if_neg (fun h => absurd ((own_lt (x := v0) (y := (216 : Int32))).mp h) (show ¬ v0.toInt < (216) by omega))]
  rw [show f1_64 v0 = f1_71 v0 from if_pos ((own_lt (x := (246 : Int32)) (y := v0)).mpr (show (246) < v0.toInt by omega))]
  rw [show f1_71 v0 = f1_78 v0 from if_neg (fun h => absurd ((own_lt (x := v0) (y := (248 : Int32))).mp h) (show ¬ v0.toInt < (248) by omega))]
  rw [show f1_78 v0 = f1_85 v0 from if_pos ((own_lt (x := (767 : Int32)) (y := v0)).mpr (show (767) < v0.toInt by omega))]
  rw [show f1_85 v0 = f1_92 v0 from if_neg (fun h => absurd ((own_lt (x := v0) (y := (880 : Int32))).mp h) (show ¬ v0.toInt < (880) by omega))]
  rw [show f1_92 v0 = f1_99 v0 from if_pos ((own_lt (x := (893 : Int32)) (y := v0)).mpr (show (893) < v0.toInt by omega))]
  rw [show f1_99 v0 = f1_106 v0 from if_neg (fun h => absurd ((own_lt (x := v0) (y := (895 : Int32))).mp h) (show ¬ v0.toInt < (895) by omega))]
  rw [show f1_106 v0 = f1_113 v0 from if_pos ((own_lt (x := (8191 : Int32)) (y := v0)).mpr (show (8191) < v0.toInt by omega))]
  rw [show f1_113 v0 = f1_120 v0 from if_neg (fun h => absurd ((own_lt (x := v0) (y := (8204 : Int32))).mp h) (show ¬ v0.toInt < (8204) by omega))]
  rw [show f1_120 v0 = f1_127 v0 from if_pos ((own_lt (x := (8205 : Int32)) (y := v0)).mpr (show (8205) < v0.toInt by omega))]
  rw [show f1_127 v0 = f1_141 v0 from if_pos ((own_lt (x := v0) (y := (8304 : Int32))).mpr (show v0.toInt < (8304) by omega))]
  rw [show f1_141 v0 = f1_155 v0 from if_pos ((own_lt (x := v0) (y := (11264 : Int32))).mpr (show v0.toInt < (11264) by omega))]
  rw [show f1_155 v0 = f1_168 v0 from if_pos ((own_lt (x := v0) (y := (12289 : Int32))).mpr (show v0.toInt < (12289) by omega))]
  rw [show f1_168 v0 = f1_180 v0 from if_pos ((own_lt (x := v0) (y := (63744 : Int32))).mpr (show v0.toInt < (63744) by omega))]
  rw [show f1_180 v0 = f1_192 v0 from if_pos ((own_lt (x := v0) (y := (65008 : Int32))).mpr (show v0.toInt < (65008) by omega))]
  rw [show f1_192 v0 = f1_208 v0 from if_pos ((own_lt (x := v0) (y := (65536 : Int32))).mpr (show v0.toInt < (65536) by omega))]
  rfl
theorem t1_21 (v0 : Int32) (h1 : (8304) ≤ v0.toInt) (h2 : v0.toInt ≤ 8591) : f1_0 v0 = (1 : Int32) := by
  rw [show f1_0 v0 = f1_43 v0 from if_neg (fun h => absurd ((own_lt (x := v0) (y := (128 : Int32))).mp h) (show ¬ v0.toInt < (128) by omega))]
  rw [show f1_43 v0 = f1_50 v0 from if_neg (fun h => absurd ((own_lt (x := v0) (y := (192 : Int32))).mp h) (show ¬ v0.toInt < (192) by omega))]
  rw [show f1_50 v0 = f1_57 v0 from if_pos ((own_lt (x := (214 : Int32)) (y := v0)).mpr (show (214) < v0.toInt by omega))]
  rw [show f1_57 v0 = f1_64 v0 from if_neg (fun h => absurd ((own_lt (x := v0) (y := (216 : Int32))).mp h) (show ¬ v0.toInt < (216) by omega))]
  rw [show f1_64 v0 = f1_71 v0 from if_pos ((own_lt (x := (246 : Int32)) (y := v0)).mpr (show (246) < v0.toInt by omega))]
  rw [show f1_71 v0 = f1_78 v0 from if_neg (fun h => absurd ((own_lt (x := v0) (y := (248 : Int32))).mp h) (show ¬ v0.toInt < (248) by omega))]
  rw [show f1_78 v0 = f1_85 v0 from if_pos ((own_lt (x := (767 : Int32)) (y := v0)).mpr (show (767) < v0.toInt by omega))]
  rw [show f1_85 v0 = f1_92 v0 from if_neg (fun h => absurd ((own_lt (x := v0) (y := (880 : Int32))).mp h) (show ¬ v0.toInt < (880) by omega))]
  rw [show f1_92 v0 = f1_99 v0 from if_pos ((own_lt (x := (893 : Int32)) (y := v0)).mpr (show (893) < v0.toInt by omega))]
  rw [show f1_99 v0 = f1_106 v0 from if_neg (fun h => absurd ((own_lt (x := v0) (y := (895 : Int32))).mp h) (show ¬ v0.toInt < (895) by omega))]
  rw [show f1_106 v0 = f1_113 v0 from if_pos ((own_lt (x := (8191 : Int32)) (y := v0)).mpr (show (8191) < v0.toInt by omega))]
  rw [show f1_113 v0 = f1_120 v0 from if_neg (fun h => absurd ((own_lt (x := v0) (y := (8204 : Int32))).mp h) (show ¬ v0.toInt < (8204) by omega))]
  rw [show f1_120 v0 = f1_127 v0 from if_pos ((own_lt (x := (8205 : Int32)) (y := v0)).mpr (show (8205) < v0.toInt by omega))]
  rw [show f1_127 v0 = f1_134 v0 from if_neg (fun h => absurd ((own_lt (x := v0) (y := (8304 : Int32))).mp h) (show ¬ v0.toInt < (8304) by omega))]
  rw [show f1_134 v0 = f1_204 v0 from if_neg (fun h => absurd ((own_lt (x := (8591 : Int32)) (y := v0)).mp h) (show ¬ (8591) < v0.toInt by omega))]
  rfl
theorem t1_22 (v0 : Int32) (h1 : (8592) ≤ v0.toInt) (h2 : v0.toInt ≤ 11263) : f1_0 v0 = (0 : Int32) := by
  rw [show f1_0 v0 = f1_43 v0 from if_neg (fun h => absurd ((own_lt (x := v0) (y := (128 : Int32))).mp h) (show ¬ v0.toInt < (128) by omega))]
  rw [show f1_43 v0 = f1_50 v0 from if_neg (fun h => absurd ((own_lt (x := v0) (y := (192 : Int32))).mp h) (show ¬ v0.toInt < (192) by omega))]
  rw [show f1_50 v0 = f1_57 v0 from if_pos ((own_lt (x := (214 : Int32)) (y := v0)).mpr (show (214) < v0.toInt by omega))]
  rw [show f1_57 v0 = f1_64 v0 from if_neg (fun h => absurd ((own_lt (x := v0) (y := (216 : Int32))).mp h) (show ¬ v0.toInt < (216) by omega))]
  rw [show f1_64 v0 = f1_71 v0 from if_pos ((own_lt (x := (246 : Int32)) (y := v0)).mpr (show (246) < v0.toInt by omega))]
  rw [show f1_71 v0 = f1_78 v0 from if_neg (fun h => absurd ((own_lt (x := v0) (y := (248 : Int32))).mp h) (show ¬ v0.toInt < (248) by omega))]
  rw [show f1_78 v0 = f1_85 v0 from if_pos ((own_lt (x := (767 : Int32)) (y := v0)).mpr (show (767) < v0.toInt by omega))]
  rw [show f1_85 v0 = f1_92 v0 from if_neg (fun h => absurd ((own_lt (x := v0) (y := (880 : Int32))).mp h) (show ¬ v0.toInt < (880) by omega))]
  rw [show f1_92 v0 = f1_99 v0 from if_pos ((own_lt (x := (893 : Int32)) (y := v0)).mpr (show (893) < v0.toInt by omega))]
  rw [show f1_99 v0 = f1_106 v0 from if_neg (fun h => absurd ((own_lt (x := v0) (y := (895 : Int32))).mp h) (show ¬ v0.toInt < (895) by omega))]
  rw [show f1_106 v0 = f1_113 v0 from if_pos ((own_lt (x := (8191 : Int32)) (y := v0)).mpr (show (8191) < v0.toInt by omega))]
  rw [show f1_113 v0 = f1_120 v0 from if_neg (fun h => absurd ((own_lt (x := v0) (y := (8204 : Int32))).mp h) (show ¬ v0.toInt < (8204) by omega))]
  rw [show f1_120 v0 = f1_127 v0 from if_pos ((own_lt (x := (8205 : Int32)) (y := v0)).mpr (show (8205) < v0.toInt by omega))]
  rw [show f1_127 v0 = f1_134 v0 from if_neg (fun h => absurd ((own_lt (x := v0) (y := (8304 : Int32))).mp h) (show ¬ v0.toInt < (8304) by omega))]
  rw [show f1_134 v0 = f1_141 v0 from if_pos ((own_lt (x := (8591 : Int32)) (y := v0)).mpr (show (8591) < v0.toInt by omega))]
  rw [show f1_141 v0 = f1_155 v0 from if_pos ((own_lt (x := v0) (y := (11264 : Int32))).mpr (show v0.toInt < (11264) by omega))]
  rw [show f1_155 v0 = f1_168 v0 from if_pos ((own_lt (x := v0) (y := (12289 : Int32))).mpr (show v0.toInt < (12289) by omega))]
  rw [show f1_168 v0 = f1_180 v0 from if_pos ((own_lt (x := v0) (y := (63744 : Int32))).mpr (show v0.toInt < (63744) by omega))]
  rw [show f1_180 v0 = f1_192 v0 from if_pos ((own_lt (x := v0) (y := (65008 : Int32))).mpr (show v0.toInt < (65008) by omega))]
  rw [show f1_192 v0 = f1_208 v0 from if_pos ((own_lt (x := v0) (y := (65536 : Int32))).mpr (show v0.toInt < (65536) by omega))]
  rfl
theorem t1_23 (v0 : Int32) (h1 : (11264) ≤ v0.toInt) (h2 : v0.toInt ≤ 12271) : f1_0 v0 = (1 : Int32) := by
  rw [show f1_0 v0 = f1_43 v0 from if_neg (fun h => absurd ((own_lt (x := v0) (y := (128 : Int32))).mp h) (show ¬ v0.toInt < (128) by omega))]
  rw [show f1_43 v0 = f1_50 v0 from if_neg (fun h => absurd ((own_lt (x := v0) (y := (192 : Int32))).mp h) (show ¬ v0.toInt < (192) by omega))]
  rw [show f1_50 v0 = f1_57 v0 from if_pos ((own_lt (x := (214 : Int32)) (y := v0)).mpr (show (214) < v0.toInt by omega))]
  rw [show f1_57 v0 = f1_64 v0 from if_neg (fun h => absurd ((own_lt (x := v0) (y := (216 : Int32))).mp h) (show ¬ v0.toInt < (216) by omega))]
  rw [show f1_64 v0 = f1_71 v0 from if_pos ((own_lt (x := (246 : Int32)) (y := v0)).mpr (show (246) < v0.toInt by omega))]
  rw [show f1_71 v0 = f1_78 v0 from if_neg (fun h => absurd ((own_lt (x := v0) (y := (248 : Int32))).mp h) (show ¬ v0.toInt < (248) by omega))]
  rw [show f1_78 v0 = f1_85 v0 from if_pos ((own_lt (x := (767 : Int32)) (y := v0)).mpr (show (767) < v0.toInt by omega))]
  rw [show f1_85 v0 = f1_92 v0 from if_neg (fun h => absurd ((own_lt (x := v0) (y := (880 : Int32))).mp h) (show ¬ v0.toInt < (880) by omega))]
  rw [show f1_92 v0 = f1_99 v0 from if_pos ((own_lt (x := (893 : Int32)) (y := v0)).mpr (show (893) < v0.toInt by omega))]
  rw [show f1_99 v0 = f1_106 v0 from if_neg (fun h => absurd ((own_lt (x := v0) (y := (895 : Int32))).mp h) (show ¬ v0.toInt < (895) by omega))]
  rw [show f1_106 v0 = f1_113 v0 from if_pos ((own_lt (x := (8191 : Int32)) (y := v0)).mpr (show (8191) < v0.toInt by omega))]
  rw [show f1_113 v0 = f1_120 v0 from if_neg (fun h => absurd ((own_lt (x := v0) (y := (8204 : Int32))).mp h) (show ¬ v0.toInt < (8204) by omega))]
  rw [show f1_120 v0 = f1_127 v0 from if_pos ((own_lt (x := (8205 : Int32)) (y := v0)).mpr (show (8205) < v0.toInt by omega))]
  rw [show f1_127 v0 = f1_134 v0 from if_neg (fun h => absurd ((own_lt (x := v0) (y := (8304 : Int32))).mp h) (show ¬ v0.toInt < (8304) by omega))]
  rw [show f1_134 v0 = f1_141 v0 from if_pos ((own_lt (x := (8591 : Int32)) (y := v0)).mpr (show (8591) < v0.toInt by omega))]
  rw [show f1_141 v0 = f1_148 v0 from if_neg (fun h => absurd ((own_lt (x := v0) (y := (11264 : Int32))).mp h) (show ¬ v0.toInt < (11264) by omega))]
  rw [show f1_148 v0 = f1_204 v0 from if_neg (fun h => absurd ((own_lt (x := (12271 : Int32)) (y := v0)).mp h) (show ¬ (12271) < v0.toInt by omega))]
  rfl
theorem t1_24 (v0 : Int32) (h1 : (12272) ≤ v0.toInt) (h2 : v0.toInt ≤ 12288) : f1_0 v0 = (0 : Int32) := by
  rw [show f1_0 v0 = f1_43 v0 from if_neg (fun h => absurd ((own_lt (x := v0) (y := (128 : Int32))).mp h) (show ¬ v0.toInt < (128) by omega))]
  rw [show f1_43 v0 = f1_50 v0 from if_neg (fun h => absurd ((own_lt (x := v0) (y := (192 : Int32))).mp h) (show ¬ v0.toInt < (192) by omega))]
  rw [show f1_50 v0 = f1_57 v0 from if_pos ((own_lt (x := (214 : Int32)) (y := v0)).mpr (show (214) < v0.toInt by omega))]
  rw [show f1_57 v0 = f1_64 v0 from if_neg (fun h => absurd ((own_lt (x := v0) (y := (216 : Int32))).mp h) (show ¬ v0.toInt < (216) by omega))]
  rw [show f1_64 v0 = f1_71 v0 from if_pos ((own_lt (x := (246 : Int32)) (y := v0)).mpr (show (246) < v0.toInt by omega))]
  rw [show f1_71 v0 = f1_78 v0 from if_neg (fun h => absurd ((own_lt (x := v0) (y := (248 : Int32))).mp h) (show ¬ v0.toInt < (248) by omega))]
  rw [show f1_78 v0 = f1_85 v0 from if_pos ((own_lt (x := (767 : Int32)) (y := v0)).mpr (show (767) < v0.toInt by omega))]
  rw [show f1_85 v0 = f1_92 v0 from if_neg (fun h => absurd ((own_lt (x := v0) (y := (880 : Int32))).mp h) (show ¬ v0.toInt < (880) by omega))]
  rw [show f1_92 v0 = f1_99 v0 from if_pos ((own_lt (x := (893 : Int32)) (y := v0)).mpr (show (893) < v0.toInt by omega))]
  rw [show f1_99 v0 = f1_106 v0 from if_neg (fun h => absurd ((own_lt (x := v0) (y := (895 : Int32))).mp h) (show ¬ v0.toInt < (895) by omega))]
  rw [show f1_106 v0 = f1_113 v0 from if_pos ((own_lt (x := (8191 : Int32)) (y := v0)).mpr (show (8191) < v0.toInt by omega))]
  rw [show f1_113 v0 = f1_120 v0 from if_neg (fun h => absurd ((own_lt (x := v0) (y := (8204 : Int32))).mp h) (show ¬ v0.toInt < (8204) by omega))]
  rw [show f1_120 v0 = f1_127 v0 from if_pos ((own_lt (x := (8205 : Int32)) (y := v0)).mpr (show (8205) < v0.toInt by omega))]
  rw [show f1_127 v0 = f1_134 v0 from if_neg (fun h => absurd ((own_lt (x := v0) (y := (8304 : Int32))).mp h) (show ¬ v0.toInt < (8304) by omega))]
  rw [show f1_134 v0 = f1_141 v0 from if_pos ((own_lt (x := (8591 : Int32)) (y := v0)).mpr (show (8591) < v0.toInt by omega))]
  rw [show f1_141 v0 = f1_148 v0 from if_neg (fun h => absurd ((own_lt (x := v0) (y := (11264 : Int32))).mp h) (show ¬ v0.toInt < (11264) by omega))]
  rw [show f1_148 v0 = f1_155 v0 from if_pos ((own_lt (x := (12271 : Int32)) (y := v0)).mpr (show (12271) < v0.toInt by omega))]
  rw [show f1_155 v0 = f1_168 v0 from if_pos ((own_lt (x := v0) (y := (12289 : Int32))).mpr (show v0.toInt < (12289) by omega))]
  rw [show f1_168 v0 = f1_180 v0 from if_pos ((own_lt (x := v0) (y := (63744 : Int32))).mpr (show v0.toInt < (63744) by omega))]
  rw [show f1_180 v0 = f1_192 v0 from if_pos ((own_lt (x := v0) (y := (65008 : Int32))).mpr (show v0.toInt < (65008) by omega))]
  rw [show f1_192 v0 = f1_208 v0 from if_pos ((own_lt (x := v0) (y := (65536 : Int32))).mpr (show v0.toInt < (65536) by omega))]
  rfl
theorem t1_25 (v0 : Int32) (h1 : (12289) ≤ v0.toInt) (h2 : v0.toInt ≤ 55295) : f1_0 v0 = (1 : Int32) := by
  rw [show f1_0 v0 = f1_43 v0 from if_neg (fun h => absurd ((own_lt (x := v0) (y := (128 : Int32))).mp h) (show ¬ v0.toInt < (128) by omega))]
  rw [show f1_43 v0 = f1_50 v0 from if_neg (fun h => absurd ((own_lt (x := v0) (y := (192 : Int32))).mp h) (show ¬ v0.toInt < (192) by omega))]
  rw [show f1_50 v0 = f1_57 v0 from if_pos ((own_lt (x := (214 : Int32)) (y := v0)).mpr (show (214) < v0.toInt by omega))]
  rw [show f1_57 v0 = f1_64 v0 from if_neg (fun h => absurd ((own_lt (x := v0) (y := (216 : Int32))).mp h) (show ¬ v0.toInt < (216) by omega))]
  rw [show f1_64 v0 = f1_71 v0 from if_pos ((own_lt (x := (246 : Int32)) (y := v0)).mpr (show (246) < v0.toInt by omega))]
  rw [show f1_71 v0 = f1_78 v0 from if_neg (fun h => absurd ((own_lt (x := v0) (y := (248 : Int32))).mp h) (show ¬ v0.toInt < (248) by omega))]
  rw [show f1_78 v0 = f1_85 v0 from if_pos ((own_lt (x := (767 : Int32)) (y := v0)).mpr (show (767) < v0.toInt by omega))]
  rw [show f1_85 v0 = f1_92 v0 from if_neg (fun h => absurd ((own_lt (x := v0) (y := (880 : Int32))).mp h) (show ¬ v0.toInt < (880) by omega))]
  rw [show f1_92 v0 = f1_99 v0 from if_pos ((own_lt (x := (893 : Int32)) (y := v0)).mpr (show (893) < v0.toInt by omega))]
  rw [show f1_99 v0 = f1_106 v0 from if_neg (fun h => absurd ((own_lt (x := v0) (y := (895 : Int32))).mp h) (show ¬ v0.toInt < (895) by omega))]
  rw [show f1_106 v0 = f1_113 v0 from if_pos ((own_lt (x := (8191 : Int32)) (y := v0)).mpr (show (8191) < v0.toInt by omega))]
  rw [show f1_113 v0 = f1_120 v0 from if_neg (fun h => absurd ((own_lt (x := v0) (y := (8204 : Int32))).mp h) (show ¬ v0.toInt < (8204) by omega))]
  rw [show f1_120 v0 = f1_127 v0 from if_pos ((own_lt (x := (8205 : Int32)) (y := v0)).mpr (show (8205) < v0.toInt by omega))]
  rw [show f1_127 v0 = f1_134 v0 from if_neg (fun h => absurd ((own_lt (x := v0) (y := (8304 : Int32))).mp h) (show ¬ v0.toInt < (8304) by omega))]
  rw [show f1_134 v0 = f1_141 v0 from if_pos ((own_lt (x := (8591 : Int32)) (y := v0)).mpr (show (8591) < v0.toInt by omega))]
  rw [show f1_141 v0 = f1_148 v0 from if_neg (fun h => absurd ((own_lt (x := v0) (y := (11264 : Int32))).mp h) (show ¬ v0.toInt < (11264) by omega))]
  rw [show f1_148 v0 = f1_155 v0 from if_pos ((own_lt (x := (12271 : Int32)) (y := v0)).mpr (show (12271) < v0.toInt by omega))]
  rw [show f1_155 v0 = f1_162 v0 from if_neg (fun h => absurd ((own_lt (x := v0) (y := (12289 : Int32))).mp h) (show ¬ v0.toInt < (12289) by omega))]
  rw [show f1_162 v0 = f1_204 v0 from if_neg (fun h => absurd ((own_lt (x := (55295 : Int32)) (y := v0)).mp h) (show ¬ (55295) < v0.toInt by omega))]
  rfl
theorem t1_26 (v0 : Int32) (h1 : (55296) ≤ v0.toInt) (h2 : v0.toInt ≤ 63743) : f1_0 v0 = (0 : Int32) := by
  rw [show f1_0 v0 = f1_43 v0 from if_neg (fun h => absurd ((own_lt (x := v0) (y := (128 : Int32))).mp h) (show ¬ v0.toInt < (128) by omega))]
  rw [show f1_43 v0 = f1_50 v0 from if_neg (fun h => absurd ((own_lt (x := v0) (y := (192 : Int32))).mp h) (show ¬ v0.toInt < (192) by omega))]
  rw [show f1_50 v0 = f1_57 v0 from if_pos ((own_lt (x := (214 : Int32)) (y := v0)).mpr (show (214) < v0.toInt by omega))]
  rw [show f1_57 v0 = f1_64 v0 from if_neg (fun h => absurd ((own_lt (x := v0) (y := (216 : Int32))).mp h) (show ¬ v0.toInt < (216) by omega))]
  rw [show f1_64 v0 = f1_71 v0 from if_pos ((own_lt (x := (246 : Int32)) (y := v0)).mpr (show (246) < v0.toInt by omega))]
  rw [show f1_71 v0 = f1_78 v0 from if_neg (fun h => absurd ((own_lt (x := v0) (y := (248 : Int32))).mp h) (show ¬ v0.toInt < (248) by omega))]
  rw [show f1_78 v0 = f1_85 v0 from if_pos ((own_lt (x := (767 : Int32)) (y := v0)).mpr (show (767) < v0.toInt by omega))]
  rw [show f1_85 v0 = f1_92 v0 from if_neg (fun h => absurd ((own_lt (x := v0) (y := (880 : Int32))).mp h) (show ¬ v0.toInt < (880) by omega))]
  rw [show f1_92 v0 = f1_99 v0 from if_pos ((own_lt (x := (893 : Int32)) (y := v0)).mpr (show (893) < v0.toInt by omega))]
  rw [show f1_99 v0 = f1_106 v0 from if_neg (fun h => absurd ((own_lt (x := v0) (y := (895 : Int32))).mp h) (show ¬ v0.toInt < (895) by omega))]
  rw [show f1_106 v0 = f1_113 v0 from if_pos ((own_lt (x := (8191 : Int32)) (y := v0)).mpr (show (8191) < v0.toInt by omega))]
  rw [show f1_113 v0 = f1_120 v0 from if_neg (fun h => absurd ((own_lt (x := v0) (y := (8204 : Int32))).mp h) (show ¬ v0.toInt < (8204) by omega))]
  rw [show f1_120 v0 = f1_127 v0 from if_pos ((own_lt (x := (8205 : Int32)) (y := v0)).mpr (show (8205) < v0.toInt by omega))]
  rw [show f1_127 v0 = f1_134 v0 from if_neg (fun h => absurd ((own_lt (x := v0) (y := (8304 : Int32))).mp h) (show ¬ v0.toInt < (8304) by omega))]
  rw [show f1_134 v0 = f1_141 v0 from if_pos ((own_lt (x := (8591 : Int32)) (y := v0)).mpr (show (8591) < v0.toInt by omega))]
  rw [show f1_141 v0 = f1_148 v0 from if_neg (fun h => absurd ((own_lt (x := v0) (y := (11264 : Int32))).mp h) (show ¬ v0.toInt < (11264) by omega))]
  rw [show f1_148 v0 = f1_155 v0 from if_pos ((own_lt (x := (12271 : Int32)) (y := v0)).mpr (show (12271) < v0.toInt by omega))]
  rw [show f1_155 v0 = f1_162 v0 from if_neg (fun h => absurd ((own_lt (x := v0) (y := (12289 : Int32))).mp h) (show ¬ v0.toInt < (12289) by omega))]
  rw [show f1_162 v0 = f1_168 v0 from if_pos ((own_lt (x := (55295 : Int32)) (y := v0)).mpr (show (55295) < v0.toInt by omega))]
  rw [show f1_168 v0 = f1_180 v0 from if_pos ((own_lt (x := v0) (y := (63744 : Int32))).mpr (show v0.toInt < (63744) by omega))]
  rw [show f1_180 v0 = f1_192 v0 from if_pos ((own_lt (x := v0) (y := (65008 : Int32))).mpr (show v0.toInt < (65008) by omega))]
  rw [show f1_192 v0 = f1_208 v0 from if_pos ((own_lt (x := v0) (y := (65536 : Int32))).mpr (show v0.toInt < (65536) by omega))]
  rfl
theorem t1_27 (v0 : Int32) (h1 : (63744) ≤ v0.toInt) (h2 : v0.toInt ≤ 64975) : f1_0 v0 = (1 : Int32) := by
  rw [show f1_0 v0 = f1_43 v0 from if_neg (fun h => absurd ((own_lt (x := v0) (y := (128 : Int32))).mp h) (show ¬ v0.toInt < (128) by omega))]
  rw [show f1_43 v0 = f1_50 v0 from if_neg (fun h => absurd ((own_lt (x := v0) (y := (192 : Int32))).mp h) (show ¬ v0.toInt < (192) by omega))]
  rw [show f1_50 v0 = f1_57 v0 from if_pos ((own_lt (x := (214 : Int32)) (y := v0)).mpr (show (214) < v0.toInt by omega))]
  rw [show f1_57 v0 = f1_64 v0 from if_neg (fun h => absurd ((own_lt (x := v0) (y := (216 : Int32))).mp h) (show ¬ v0.toInt < (216) by omega))]
  rw [show f1_64 v0 = f1_71 v0 from if_pos ((own_lt (x := (246 : Int32)) (y := v0)).mpr (show (246) < v0.toInt by omega))]
  rw [show f1_71 v0 = f1_78 v0 from if_neg (fun h => absurd ((own_lt (x := v0) (y := (248 : Int32))).mp h) (show ¬ v0.toInt < (248) by omega))]
  rw [show f1_78 v0 = f1_85 v0 from if_pos ((own_lt (x := (767 : Int32)) (y := v0)).mpr (show (767) < v0.toInt by omega))]
  rw [show f1_85 v0 = f1_92 v0 from if_neg (fun h => absurd ((own_lt (x := v0) (y := (880 : Int32))).mp h) (show ¬ v0.toInt < (880) by omega))]
  rw [show f1_92 v0 = f1_99 v0 from if_pos ((own_lt (x := (893 : Int32)) (y := v0)).mpr (show (893) < v0.toInt by omega))]
  rw [show f1_99 v0 = f1_106 v0 from if_neg (fun h => absurd ((own_lt (x := v0) (y := (895 : Int32))).mp h) (show ¬ v0.toInt < (895) by omega))]
  rw [show f1_106 v0 = f1_113 v0 from if_pos ((own_lt (x := (8191 : Int32)) (y := v0)).mpr (show (8191) < v0.toInt by omega))]
  rw [show f1_113 v0 = f1_120 v0 from if_neg (fun h => absurd ((own_lt (x := v0) (y := (8204 : Int32))).mp h) (show ¬ v0.toInt < (8204) by omega))]
  rw [show f1_120 v0 = f1_127 v0 from if_pos ((own_lt (x := (8205 : Int32)) (y := v0)).mpr (show (8205) < v0.toInt by omega))]
  rw [show f1_127 v0 = f1_134 v0 from if_neg (fun h => absurd ((own_lt (x := v0) (y := (8304 : Int32))).mp h) (show ¬ v0.toInt < (8304) by omega))]
  rw [show f1_134 v0 = f1_141 v0 from if_pos ((own_lt (x := (8591 : Int32)) (y := v0)).mpr (show (8591) < v0.toInt by omega))]
  rw [show f1_141 v0 = f1_148 v0 from if_neg (fun h => absurd ((own_lt (x := v0) (y := (11264 : Int32))).mp h) (show ¬ v0.toInt < (11264) by omega))]
  rw [show f1_148 v0 = f1_155 v0 from if_pos ((own_lt (x := (12271 : Int32)) (y := v0)).mpr (show (12271) < v0.toInt by omega))]
  rw [show f1_155 v0 = f1_162 v0 from if_neg (fun h => absurd ((own_lt (x := v0) (y := (12289 : Int32))).mp h) (show ¬ v0.toInt < (12289) by omega))]
  rw [show f1_162 v0 = f1_168 v0 from if_pos ((own_lt (x := (55295 : Int32)) (y := v0)).mpr (show (55295) < v0.toInt by omega))]
  rw [show f1_168 v0 = f1_174 v0 from if_neg (fun h => absurd ((own_lt (x := v0) (y := (63744 : Int32))).mp h) (show ¬ v0.toInt < (63744) by omega))]
  rw [show f1_174 v0 = f1_204 v0 from if_neg (fun h => absurd ((own_lt (x := (64975 : Int32)) (y := v0)).mp h) (show ¬ (64975) < v0.toInt by omega))]
  rfl
theorem t1_28 (v0 : Int32) (h1 : (64976) ≤ v0.toInt) (h2 : v0.toInt ≤ 65007) : f1_0 v0 = (0 : Int32) := by
  rw [show f1_0 v0 = f1_43 v0 from if_neg (fun h => absurd ((own_lt (x := v0) (y := (128 : Int32))).mp h) (show ¬ v0.toInt < (128) by omega))]
  rw [show f1_43 v0 = f1_50 v0 from if_neg (fun h => absurd ((own_lt (x := v0) (y := (192 : Int32))).mp h) (show ¬ v0.toInt < (192) by omega))]
  rw [show f1_50 v0 = f1_57 v0 from if_pos ((own_lt (x := (214 : Int32)) (y := v0)).mpr (show (214) < v0.toInt by omega))]
  rw [show f1_57 v0 = f1_64 v0 from if_neg (fun h => absurd ((own_lt (x := v0) (y := (216 : Int32))).mp h) (show ¬ v0.toInt < (216) by omega))]
  rw [show f1_64 v0 = f1_71 v0 from if_pos ((own_lt (x := (246 : Int32)) (y := v0)).mpr (show (246) < v0.toInt by omega))]
  rw [show f1_71 v0 = f1_78 v0 from if_neg (fun h => absurd ((own_lt (x := v0) (y := (248 : Int32))).mp h) (show ¬ v0.toInt < (248) by omega))]
  rw [show f1_78 v0 = f1_85 v0 from if_pos ((own_lt (x := (767 : Int32)) (y := v0)).mpr (show (767) < v0.toInt by omega))]
  rw [show f1_85 v0 = f1_92 v0 from if_neg (fun h => absurd ((own_lt (x := v0) (y := (880 : Int32))).mp h) (show ¬ v0.toInt < (880) by omega))]
  rw [show f1_92 v0 = f1_99 v0 from if_pos ((own_lt (x := (893 : Int32)) (y := v0)).mpr (show (893) < v0.toInt by omega))]
  rw [show f1_99 v0 = f1_106 v0 from if_neg (fun h => absurd ((own_lt (x := v0) (y := (895 : Int32))).mp h) (show ¬ v0.toInt < (895) by omega))]
  rw [show f1_106 v0 = f1_113 v0 from if_pos ((own_lt (x := (8191 : Int32)) (y := v0)).mpr (show (8191) < v0.toInt by omega))]
  rw [show f1_113 v0 = f1_120 v0 from if_neg (fun h => absurd ((own_lt (x := v0) (y := (8204 : Int32))).mp h) (show ¬ v0.toInt < (8204) by omega))]
  rw [show f1_120 v0 = f1_127 v0 from if_pos ((own_lt (x := (8205 : Int32)) (y := v0)).mpr (show (8205) < v0.toInt by omega))]
  rw [show f1_127 v0 = f1_134 v0 from if_neg (fun h => absurd ((own_lt (x := v0) (y := (8304 : Int32))).mp h) (show ¬ v0.toInt < (8304) by omega))]
  rw [show f1_134 v0 = f1_141 v0 from if_pos ((own_lt (x := (8591 : Int32)) (y := v0)).mpr (show (8591) < v0.toInt by omega))]
  rw [show f1_141 v0 = f1_148 v0 from if_neg (fun h => absurd ((own_lt (x := v0) (y := (11264 : Int32))).mp h) (show ¬ v0.toInt < (11264) by omega))]
  rw [show f1_148 v0 = f1_155 v0 from if_pos ((own_lt (x := (12271 : Int32)) (y := v0)).mpr (show (12271) < v0.toInt by omega))]
  rw [show f1_155 v0 = f1_162 v0 from if_neg (fun h => absurd ((own_lt (x := v0) (y := (12289 : Int32))).mp h) (show ¬ v0.toInt < (12289) by omega))]
  rw [show f1_162 v0 = f1_168 v0 from if_pos ((own_lt (x := (55295 : Int32)) (y := v0)).mpr (show (55295) < v0.toInt by omega))]
  rw [show f1_168 v0 = f1_174 v0 from if_neg (fun h => absurd ((own_lt (x := v0) (y := (63744 : Int32))).mp h) (show ¬ v0.toInt < (63744) by omega))]
  rw [show f1_174 v0 = f1_180 v0 from if_pos ((own_lt (x := (64975 : Int32)) (y := v0)).mpr (show (64975) < v0.toInt by omega))]
  rw [show f1_180 v0 = f1_192 v0 from if_pos ((own_lt (x := v0) (y := (65008 : Int32))).mpr (show v0.toInt < (65008) by omega))]
  rw [show f1_192 v0 = f1_208 v0 from if_pos ((own_lt (x := v0) (y := (65536 : Int32))).mpr (show v0.toInt < (65536) by omega))]
  rfl
theorem t1_29 (v0 : Int32) (h1 : (65008) ≤ v0.toInt) (h2 : v0.toInt ≤ 65533) : f1_0 v0 = (1 : Int32) := by
  rw [show f1_0 v0 = f1_43 v0 from if_neg (fun h => absurd ((own_lt (x := v0) (y := (128 : Int32))).mp h) (show ¬ v0.toInt < (128) by omega))]
  rw [show f1_43 v0 = f1_50 v0 from if_neg (fun h => absurd ((own_lt (x := v0) (y := (192 : Int32))).mp h) (show ¬ v0.toInt < (192) by omega))]
  rw [show f1_50 v0 = f1_57 v0 from if_pos ((own_lt (x := (214 : Int32)) (y := v0)).mpr (show (214) < v0.toInt by omega))]
  rw [show f1_57 v0 = f1_64 v0 from if_neg (fun h => absurd ((own_lt (x := v0) (y := (216 : Int32))).mp h) (show ¬ v0.toInt < (216) by omega))]
  rw [show f1_64 v0 = f1_71 v0 from if_pos ((own_lt (x := (246 : Int32)) (y := v0)).mpr (show (246) < v0.toInt by omega))]
  rw [show f1_71 v0 = f1_78 v0 from if_neg (fun h => absurd ((own_lt (x := v0) (y := (248 : Int32))).mp h) (show ¬ v0.toInt < (248) by omega))]
  rw [show f1_78 v0 = f1_85 v0 from if_pos ((own_lt (x := (767 : Int32)) (y := v0)).mpr (show (767) < v0.toInt by omega))]
  rw [show f1_85 v0 = f1_92 v0 from if_neg (fun h => absurd ((own_lt (x := v0) (y := (880 : Int32))).mp h) (show ¬ v0.toInt < (880) by omega))]
  rw [show f1_92 v0 = f1_99 v0 from if_pos ((own_lt (x := (893 : Int32)) (y := v0)).mpr (show (893) < v0.toInt by omega))]
  rw [show f1_99 v0 = f1_106 v0 from if_neg (fun h => absurd ((own_lt (x := v0) (y := (895 : Int32))).mp h) (show ¬ v0.toInt < (895) by omega))]
  rw [show f1_106 v0 = f1_113 v0 from if_pos ((own_lt (x := (8191 : Int32)) (y := v0)).mpr (show (8191) < v0.toInt by omega))]
  rw [show f1_113 v0 = f1_120 v0 from if_neg (fun h => absurd ((own_lt (x := v0) (y := (8204 : Int32))).mp h) (show ¬ v0.toInt < (8204) by omega))]
  rw [show f1_120 v0 = f1_127 v0 from if_pos ((own_lt (x := (8205 : Int32)) (y := v0)).mpr (show (8205) < v0.toInt by omega))]
  rw [show f1_127 v0 = f1_134 v0 from if_neg (fun h => absurd ((own_lt (x := v0) (y := (8304 : Int32))).mp h) (show ¬ v0.toInt < (8304) by omega))]
  rw [show f1_134 v0 = f1_141 v0 from if_pos ((own_lt (x := (8591 : Int32)) (y := v0)).mpr (show (8591) < v0.toInt by omega))]
  rw [show f1_141 v0 = f1_148 v0 from if_neg (fun h => absurd ((own_lt (x := v0) (y := (11264 : Int32))).mp h) (show ¬ v0.toInt < (11264) by omega))]
  rw [show f1_148 v0 = f1_155 v0 from if_pos ((own_lt (x := (12271 : Int32)) (y := v0)).mpr (show (12271) < v0.toInt by omega))]
  rw [show f1_155 v0 = f1_162 v0 from if_neg (fun h => absurd ((own_lt (x := v0) (y := (12289 : Int32))).mp h) (show ¬ v0.toInt < (12289) by omega))]
  rw [show f1_162 v0 = f1_168 v0 from if_pos ((own_lt (x := (55295 : Int32)) (y := v0)).mpr (show (55295) < v0.toInt by omega))]
  rw [show f1_168 v0 = f1_174 v0 from if_neg (fun h => absurd ((own_lt (x := v0) (y := (63744 : Int32))).mp h) (show ¬ v0.toInt < (63744) by omega))]
  rw [show f1_174 v0 = f1_180 v0 from if_pos ((own_lt (x := (64975 : Int32)) (y := v0)).mpr (show (64975) < v0.toInt by omega))]
  rw [show f1_180 v0 = f1_186 v0 from if_neg (fun h => absurd ((own_lt (x := v0) (y := (65008 : Int32))).mp h) (show ¬ v0.toInt < (65008) by omega))]
  rw [show f1_186 v0 = f1_204 v0 from if_neg (fun h => absurd ((own_lt (x := (65533 : Int32)) (y := v0)).mp h) (show ¬ (65533) < v0.toInt by omega))]
  rfl
theorem t1_30 (v0 : Int32) (h1 : (65534) ≤ v0.toInt) (h2 : v0.toInt ≤ 65534) : f1_0 v0 = (0 : Int32) := by
  rw [show f1_0 v0 = f1_43 v0 from if_neg (fun h => absurd ((own_lt (x := v0) (y := (128 : Int32))).mp h) (show ¬ v0.toInt < (128) by omega))]
  rw [show f1_43 v0 = f1_50 v0 from if_neg (fun h => absurd ((own_lt (x := v0) (y := (192 : Int32))).mp h) (show ¬ v0.toInt < (192) by omega))]
  rw [show f1_50 v0 = f1_57 v0 from if_pos ((own_lt (x := (214 : Int32)) (y := v0)).mpr (show (214) < v0.toInt by omega))]
  rw [show f1_57 v0 = f1_64 v0 from if_neg (fun h => absurd ((own_lt (x := v0) (y := (216 : Int32))).mp h) (show ¬ v0.toInt < (216) by omega))]
  rw [show f1_64 v0 = f1_71 v0 from if_pos ((own_lt (x := (246 : Int32)) (y := v0)).mpr (show (246) < v0.toInt by omega))]
  rw [show f1_71 v0 = f1_78 v0 from if_neg (fun h => absurd ((own_lt (x := v0) (y := (248 : Int32))).mp h) (show ¬ v0.toInt < (248) by omega))]
  rw [show f1_78 v0 = f1_85 v0 from if_pos ((own_lt (x := (767 : Int32)) (y := v0)).mpr (show (767) < v0.toInt by omega))]
  rw [show f1_85 v0 = f1_92 v0 from if_neg (fun h => absurd ((own_lt (x := v0) (y := (880 : Int32))).mp h) (show ¬ v0.toInt < (880) by omega))]
  rw [show f1_92 v0 = f1_99 v0 from if_pos ((own_lt (x := (893 : Int32)) (y := v0)).mpr (show (893) < v0.toInt by omega))]
  rw [show f1_99 v0 = f1_106 v0 from if_neg (fun h => absurd ((own_lt (x := v0) (y := (895 : Int32))).mp h) (show ¬ v0.toInt < (895) by omega))]
  rw [show f1_106 v0 = f1_113 v0 from if_pos ((own_lt (x := (8191 : Int32)) (y := v0)).mpr (show (8191) < v0.toInt by omega))]
  rw [show f1_113 v0 = f1_120 v0 from if_neg (fun h => absurd ((own_lt (x := v0) (y := (8204 : Int32))).mp h) (show ¬ v0.toInt < (8204) by omega))]
  rw [show f1_120 v0 = f1_127 v0 from if_pos ((own_lt (x := (8205 : Int32)) (y := v0)).mpr (show (8205) < v0.toInt by omega))]
  rw [show f1_127 v0 = f1_134 v0 from if_neg (fun h => absurd ((own_lt (x := v0) (y := (8304 : Int32))).mp h) (show ¬ v0.toInt < (8304) by omega))]
  rw [show f1_134 v0 = f1_141 v0 from if_pos ((own_lt (x := (8591 : Int32)) (y := v0)).mpr (show (8591) < v0.toInt by omega))]
  rw [show f1_141 v0 = f1_148 v0 from if_neg (fun h => absurd ((own_lt (x := v0) (y := (11264 : Int32))).mp h) (show ¬ v0.toInt < (11264) by omega))]
  rw [show f1_148 v0 = f1_155 v0 from if_pos ((own_lt (x := (12271 : Int32)) (y := v0)).mpr (show (12271) < v0.toInt by omega))]
  rw [show f1_155 v0 = f1_162 v0 from if_neg (fun h => absurd ((own_lt (x := v0) (y := (12289 : Int32))).mp h) (show ¬ v0.toInt < (12289) by omega))]
  rw [show f1_162 v0 = f1_168 v0 from if_pos ((own_lt (x := (55295 : Int32)) (y := v0)).mpr (show (55295) < v0.toInt by omega))]
  rw [show f1_168 v0 = f1_174 v0 from if_neg (fun h => absurd ((own_lt (x := v0) (y := (63744 : Int32))).mp h) (show ¬ v0.toInt < (63744) by omega))]
  rw [show f1_174 v0 = f1_180 v0 from if_pos ((own_lt (x := (64975 : Int32)) (y := v0)).mpr (show (64975) < v0.toInt by omega))]
  rw [show f1_180 v0 = f1_186 v0 from if_neg (fun h => absurd ((own_lt (x := v0) (y := (65008 : Int32))).mp h) (show ¬ v0.toInt < (65008) by omega))]
  rw [show f1_186 v0 = f1_192 v0 from if_pos ((own_lt (x := (65533 : Int32)) (y := v0)).mpr (show (65533) < v0.toInt by omega))]
  rw [show f1_192 v0 = f1_208 v0 from if_pos ((own_lt (x := v0) (y := (65536 : Int32))).mpr (show v0.toInt < (65536) by omega))]
  rfl
theorem t1_31 (v0 : Int32) (h1 : (65535) ≤ v0.toInt) (h2 : v0.toInt ≤ 65535) : f1_0 v0 = (0 : Int32) := by
  rw [show f1_0 v0 = f1_43 v0 from if_neg (fun h => absurd ((own_lt (x := v0) (y := (128 : Int32))).mp h) (show ¬ v0.toInt < (128) by omega))]
  rw [show f1_43 v0 = f1_50 v0 from if_neg (fun h => absurd ((own_lt (x := v0) (y := (192 : Int32))).mp h) (show ¬ v0.toInt < (192) by omega))]
  rw [show f1_50 v0 = f1_57 v0 from if_pos ((own_lt (x := (214 : Int32)) (y := v0)).mpr (show (214) < v0.toInt by omega))]
  rw [show f1_57 v0 = f1_64 v0 from if_neg (fun h => absurd ((own_lt (x := v0) (y := (216 : Int32))).mp h) (show ¬ v0.toInt < (216) by omega))]
  rw [show f1_64 v0 = f1_71 v0 from if_pos ((own_lt (x := (246 : Int32)) (y := v0)).mpr (show (246) < v0.toInt by omega))]
  rw [show f1_71 v0 = f1_78 v0 from if_neg (fun h => absurd ((own_lt (x := v0) (y := (248 : Int32))).mp h) (show ¬ v0.toInt < (248) by omega))]
  rw [show f1_78 v0 = f1_85 v0 from if_pos ((own_lt (x := (767 : Int32)) (y := v0)).mpr (show (767) < v0.toInt by omega))]
  rw [show f1_85 v0 = f1_92 v0 from if_neg (fun h => absurd ((own_lt (x := v0) (y := (880 : Int32))).mp h) (show ¬ v0.toInt < (880) by omega))]
  rw [show f1_92 v0 = f1_99 v0 from if_pos ((own_lt (x := (893 : Int32)) (y := v0)).mpr (show (893) < v0.toInt by omega))]
  rw [show f1_99 v0 = f1_106 v0 from if_neg (fun h => absurd ((own_lt (x := v0) (y := (895 : Int32))).mp h) (show ¬ v0.toInt < (895) by omega))]
  rw [show f1_106 v0 = f1_113 v0 from if_pos ((own_lt (x := (8191 : Int32)) (y := v0)).mpr (show (8191) < v0.toInt by omega))]
  rw [show f1_113 v0 = f1_120 v0 from if_neg (fun h => absurd ((own_lt (x := v0) (y := (8204 : Int32))).mp h) (show ¬ v0.toInt < (8204) by omega))]
  rw [show f1_120 v0 = f1_127 v0 from if_pos ((own_lt (x := (8205 : Int32)) (y := v0)).mpr (show (8205) < v0.toInt by omega))]
  rw [show f1_127 v0 = f1_134 v0 from if_neg (fun h => absurd ((own_lt (x := v0) (y := (8304 : Int32))).mp h) (show ¬ v0.toInt < (8304) by omega))]
  rw [show f1_134 v0 = f1_141 v0 from if_pos ((own_lt (x := (8591 : Int32)) (y := v0)).mpr (show (8591) < v0.toInt by omega))]
  rw [show f1_141 v0 = f1_148 v0 from if_neg (fun h => absurd ((own_lt (x := v0) (y := (11264 : Int32))).mp h) (show ¬ v0.toInt < (11264) by omega))]
  rw [show f1_148 v0 = f1_155 v0 from if_pos ((own_lt (x := (12271 : Int32)) (y := v0)).mpr (show (12271) < v0.toInt by omega))]
  rw [show f1_155 v0 = f1_162 v0 from if_neg (fun h => absurd ((own_lt (x := v0) (y := (12289 : Int32))).mp h) (show ¬ v0.toInt < (12289) by omega))]
  rw [show f1_162 v0 = f1_168 v0 from if_pos ((own_lt (x := (55295 : Int32)) (y := v0)).mpr (show (55295) < v0.toInt by omega))]
  rw [show f1_168 v0 = f1_174 v0 from if_neg (fun h => absurd ((own_lt (x := v0) (y := (63744 : Int32))).mp h) (show ¬ v0.toInt < (63744) by omega))]
  rw [show f1_174 v0 = f1_180 v0 from if_pos ((own_lt (x := (64975 : Int32)) (y := v0)).mpr (show (64975) < v0.toInt by omega))]
  rw [show f1_180 v0 = f1_186 v0 from if_neg (fun h => absurd ((own_lt (x := v0) (y := (65008 : Int32))).mp h) (show ¬ v0.toInt < (65008) by omega))]
  rw [show f1_186 v0 = f1_192 v0 from if_pos ((own_lt (x := (65533 : Int32)) (y := v0)).mpr (show (65533) < v0.toInt by omega))]
  rw [show f1_192 v0 = f1_208 v0 from if_pos ((own_lt (x := v0) (y := (65536 : Int32))).mpr (show v0.toInt < (65536) by omega))]
  rfl
theorem t1_32 (v0 : Int32) (h1 : (65536) ≤ v0.toInt) (h2 : v0.toInt ≤ 983039) : f1_0 v0 = (1 : Int32) := by
  rw [show f1_0 v0 = f1_43 v0 from if_neg (fun h => absurd ((own_lt (x := v0) (y := (128 : Int32))).mp h) (show ¬ v0.toInt < (128) by omega))]
  rw [show f1_43 v0 = f1_50 v0 from if_neg (fun h => absurd ((own_lt (x := v0) (y := (192 : Int32))).mp h) (show ¬ v0.toInt < (192) by omega))]
  rw [show f1_50 v0 = f1_57 v0 from if_pos ((own_lt (x := (214 : Int32)) (y := v0)).mpr (show (214) < v0.toInt by omega))]
  rw [show f1_57 v0 = f1_64 v0 from if_neg (fun h => absurd ((own_lt (x := v0) (y := (216 : Int32))).mp h) (show ¬ v0.toInt < (216) by omega))]
  rw [show f1_64 v0 = f1_71 v0 from if_pos ((own_lt (x := (246 : Int32)) (y := v0)).mpr (show (246) < v0.toInt by omega))]
  rw [show f1_71 v0 = f1_78 v0 from if_neg (fun h => absurd ((own_lt (x := v0) (y := (248 : Int32))).mp h) (show ¬ v0.toInt < (248) by omega))]
  rw [show f1_78 v0 = f1_85 v0 from if_pos ((own_lt (x := (767 : Int32)) (y := v0)).mpr (show (767) < v0.toInt by omega))]
  rw [show f1_85 v0 = f1_92 v0 from if_neg (fun h => absurd ((own_lt (x := v0) (y := (880 : Int32))).mp h) (show ¬ v0.toInt < (880) by omega))]
  rw [show f1_92 v0 = f1_99 v0 from if_pos ((own_lt (x := (893 : Int32)) (y := v0)).mpr (show (893) < v0.toInt by omega))]
  rw [show f1_99 v0 = f1_106 v0 from if_neg (fun h => absurd ((own_lt (x := v0) (y := (895 : Int32))).mp h) (show ¬ v0.toInt < (895) by omega))]
  rw [show f1_106 v0 = f1_113 v0 from if_pos ((own_lt (x := (8191 : Int32)) (y := v0)).mpr (show (8191) < v0.toInt by omega))]
  rw [show f1_113 v0 = f1_120 v0 from if_neg (fun h => absurd ((own_lt (x := v0) (y := (8204 : Int32))).mp h) (show ¬ v0.toInt < (8204) by omega))]
  rw [show f1_120 v0 = f1_127 v0 from if_pos ((own_lt (x := (8205 : Int32)) (y := v0)).mpr (show (8205) < v0.toInt by omega))]
  rw [show f1_127 v0 = f1_134 v0 from if_neg (fun h => absurd ((own_lt (x := v0) (y := (8304 : Int32))).mp h) (show ¬ v0.toInt < (8304) by omega))]
  rw [show f1_134 v0 = f1_141 v0 from if_pos ((own_lt (x := (8591 : Int32)) (y := v0)).mpr (show (8591) < v0.toInt by omega))]
  rw [show f1_141 v0 = f1_148 v0 from if_neg (fun h => absurd ((own_lt (x := v0) (y := (11264 : Int32))).mp h) (show ¬ v0.toInt < (11264) by omega))]
  rw [show f1_148 v0 = f1_155 v0 from if_pos ((own_lt (x := (12271 : Int32)) (y := v0)).mpr (show (12271) < v0.toInt by omega))]
  rw [show f1_155 v0 = f1_162 v0 from if_neg (fun h => absurd ((own_lt (x := v0) (y := (12289 : Int32))).mp h) (show ¬ v0.toInt < (12289) by omega))]
  rw [show f1_162 v0 = f1_168 v0 from if_pos ((own_lt (x := (55295 : Int32)) (y := v0)).mpr (show (55295) < v0.toInt by omega))]
  rw [show f1_168 v0 = f1_174 v0 from if_neg (fun h => absurd ((own_lt (x := v0) (y := (63744 : Int32))).mp h) (show ¬ v0.toInt < (63744) by omega))]
  rw [show f1_174 v0 = f1_180 v0 from if_pos ((own_lt (x := (64975 : Int32)) (y := v0)).mpr (show (64975) < v0.toInt by omega))]
  rw [show f1_180 v0 = f1_186 v0 from if_neg (fun h => absurd ((own_lt (x := v0) (y := (65008 : Int32))).mp h) (show ¬ v0.toInt < (65008) by omega))]
  rw [show f1_186 v0 = f1_192 v0 from if_pos ((own_lt (x := (65533 : Int32)) (y := v0)).mpr (show (65533) < v0.toInt by omega))]
  rw [show f1_192 v0 = f1_198 v0 from if_neg (fun h => absurd ((own_lt (x := v0) (y := (65536 : Int32))).mp h) (show ¬ v0.toInt < (65536) by omega))]
  rw [show f1_198 v0 = f1_204 v0 from if_neg (fun h => absurd ((own_lt (x := (983039 : Int32)) (y := v0)).mp h) (show ¬ (983039) < v0.toInt by omega))]
  rfl
theorem t1_33 (v0 : Int32) (h1 : (983040) ≤ v0.toInt) (h2 : v0.toInt ≤ 2147483647) : f1_0 v0 = (0 : Int32) := by
  rw [show f1_0 v0 = f1_43 v0 from if_neg (fun h => absurd ((own_lt (x := v0) (y := (128 : Int32))).mp h) (show ¬ v0.toInt < (128) by omega))]
  rw [show f1_43 v0 = f1_50 v0 from if_neg (fun h => absurd ((own_lt (x := v0) (y := (192 : Int32))).mp h) (show ¬ v0.toInt < (192) by omega))]
  rw [show f1_50 v0 = f1_57 v0 from if_pos ((own_lt (x := (214 : Int32)) (y := v0)).mpr (show (214) < v0.toInt by omega))]
  rw [show f1_57 v0 = f1_64 v0 from if_neg (fun h => absurd ((own_lt (x := v0) (y := (216 : Int32))).mp h) (show ¬ v0.toInt < (216) by omega))]
  rw [show f1_64 v0 = f1_71 v0 from if_pos ((own_lt (x := (246 : Int32)) (y := v0)).mpr (show (246) < v0.toInt by omega))]
  rw [show f1_71 v0 = f1_78 v0 from if_neg (fun h => absurd ((own_lt (x := v0) (y := (248 : Int32))).mp h) (show ¬ v0.toInt < (248) by omega))]
  rw [show f1_78 v0 = f1_85 v0 from if_pos ((own_lt (x := (767 : Int32)) (y := v0)).mpr (show (767) < v0.toInt by omega))]
  rw [show f1_85 v0 = f1_92 v0 from if_neg (fun h => absurd ((own_lt (x := v0) (y := (880 : Int32))).mp h) (show ¬ v0.toInt < (880) by omega))]
  rw [show f1_92 v0 = f1_99 v0 from if_pos ((own_lt (x := (893 : Int32)) (y := v0)).mpr (show (893) < v0.toInt by omega))]
  rw [show f1_99 v0 = f1_106 v0 from if_neg (fun h => absurd ((own_lt (x := v0) (y := (895 : Int32))).mp h) (show ¬ v0.toInt < (895) by omega))]
  rw [show f1_106 v0 = f1_113 v0 from if_pos ((own_lt (x := (8191 : Int32)) (y := v0)).mpr (show (8191) < v0.toInt by omega))]
  rw [show f1_113 v0 = f1_120 v0 from if_neg (fun h => absurd ((own_lt (x := v0) (y := (8204 : Int32))).mp h) (show ¬ v0.toInt < (8204) by omega))]
  rw [show f1_120 v0 = f1_127 v0 from if_pos ((own_lt (x := (8205 : Int32)) (y := v0)).mpr (show (8205) < v0.toInt by omega))]
  rw [show f1_127 v0 = f1_134 v0 from if_neg (fun h => absurd ((own_lt (x := v0) (y := (8304 : Int32))).mp h) (show ¬ v0.toInt < (8304) by omega))]
  rw [show f1_134 v0 = f1_141 v0 from if_pos ((own_lt (x := (8591 : Int32)) (y := v0)).mpr (show (8591) < v0.toInt by omega))]
  rw [show f1_141 v0 = f1_148 v0 from if_neg (fun h => absurd ((own_lt (x := v0) (y := (11264 : Int32))).mp h) (show ¬ v0.toInt < (11264) by omega))]
  rw [show f1_148 v0 = f1_155 v0 from if_pos ((own_lt (x := (12271 : Int32)) (y := v0)).mpr (show (12271) < v0.toInt by omega))]
  rw [show f1_155 v0 = f1_162 v0 from if_neg (fun h => absurd ((own_lt (x := v0) (y := (12289 : Int32))).mp h) (show ¬ v0.toInt < (12289) by omega))]
  rw [show f1_162 v0 = f1_168 v0 from if_pos ((own_lt (x := (55295 : Int32)) (y := v0)).mpr (show (55295) < v0.toInt by omega))]
  rw [show f1_168 v0 = f1_174 v0 from if_neg (fun h => absurd ((own_lt (x := v0) (y := (63744 : Int32))).mp h) (show ¬ v0.toInt < (63744) by omega))]
  rw [show f1_174 v0 = f1_180 v0 from if_pos ((own_lt (x := (64975 : Int32)) (y := v0)).mpr (show (64975) < v0.toInt by omega))]
  rw [show f1_180 v0 = f1_186 v0 from if_neg (fun h => absurd ((own_lt (x := v0) (y := (65008 : Int32))).mp h) (show ¬ v0.toInt < (65008) by omega))]
  rw [show f1_186 v0 = f1_192 v0 from if_pos ((own_lt (x := (65533 : Int32)) (y := v0)).mpr (show (65533) < v0.toInt by omega))]
  rw [show f1_192 v0 = f1_198 v0 from if_neg (fun h => absurd ((own_lt (x := v0) (y := (65536 : Int32))).mp h) (show ¬ v0.toInt < (65536) by omega))]
  rw [show f1_198 v0 = f1_208 v0 from if_pos ((own_lt (x := (983039 : Int32)) (y := v0)).mpr (show (983039) < v0.toInt by omega))]
  rfl
theorem t2_0 (v0 : Int32) (h1 : (-2147483648) ≤ v0.toInt) (h2 : v0.toInt ≤ -1) : f2_0 v0 = (1 : Int32) := by
  rw [show f2_0 v0 = f2_4 v0 from if_pos ((own_lt (x := v0) (y := (0 : Int32))).mpr (show v0.toInt < (0) by omega))]
  rfl
theorem t2_1 (v0 : Int32) (h1 : (0) ≤ v0.toInt) (h2 : v0.toInt ≤ 64) : f2_0 v0 = (1 : Int32) := by
  rw [show f2_0 v0 = f2_6 v0 from if_neg (fun h => absurd ((own_lt (x := v0) (y := (0 : Int32))).mp h) (show ¬ v0.toInt < (0) by omega))]
  rw [show f2_6 v0 = f2_12 v0 from if_neg (fun h => absurd ((own_lt (x := (64 : Int32)) (y := v0)).mp h) (show ¬ (64) < v0.toInt by omega))]
  rfl
theorem t2_2 (v0 : Int32) (h1 : (65) ≤ v0.toInt) (h2 : v0.toInt ≤ 90) : f2_0 v0 = (0 : Int32) := by
  rw [show f2_0 v0 = f2_6 v0 from if_neg (fun h => absurd ((own_lt (x := v0) (y := (0 : Int32))).mp h) (show ¬ v0.toInt < (0) by omega))]
  rw [show f2_6 v0 = f2_14 v0 from if_pos ((own_lt (x := (64 : Int32)) (y := v0)).mpr (show (64) < v0.toInt by omega))]
  rw [show f2_14 v0 = f2_28 v0 from if_pos ((own_lt (x := v0) (y := (91 : Int32))).mpr (show v0.toInt < (91) by omega))]
  rw [show f2_28 v0 = f2_36 v0 from if_neg (fun h => absurd ((own_eq (x := v0) (y := (96 : Int32))).mp h) (show ¬ v0.toInt = (96) by omega))]
  rw [show f2_36 v0 = f2_51 v0 from if_pos ((own_lt (x := v0) (y := (123 : Int32))).mpr (show v0.toInt < (123) by omega))]
  rw [show f2_51 v0 = f2_58 v0 from if_neg (fun h => absurd ((own_eq (x := v0) (y := (215 : Int32))).mp h) (show ¬ v0.toInt = (215) by omega))]
  rw [show f2_58 v0 = f2_67 v0 from if_neg (fun h => absurd ((own_eq (x := v0) (y := (247 : Int32))).mp h) (show ¬ v0.toInt = (247) by omega))]
  rw [show f2_67 v0 = f2_83 v0 from if_pos ((own_lt (x := v0) (y := (768 : Int32))).mpr (show v0.toInt < (768) by omega))]
  rw [show f2_83 v0 = f2_92 v0 from if_neg (fun h => absurd ((own_eq (x := v0) (y := (894 : Int32))).mp h) (show ¬ v0.toInt = (894) by omega))]
  rw [show f2_92 v0 = f2_108 v0 from if_pos ((own_lt (x := v0) (y := (8192 : Int32))).mpr (show v0.toInt < (8192) by omega))]
  rw [show f2_108 v0 = f2_124 v0 from if_pos ((own_lt (x := v0) (y := (8206 : Int32))).mpr (show v0.toInt < (8206) by omega))]
  rw [show f2_124 v0 = f2_140 v0 from if_pos ((own_lt (x := v0) (y := (8592 : Int32))).mpr (show v0.toInt < (8592) by omega))]
  rw [show f2_140 v0 = f2_156 v0 from if_pos ((own_lt (x := v0) (y := (12272 : Int32))).mpr (show v0.toInt < (12272) by omega))]
  rw [show f2_156 v0 = f2_170 v0 from if_pos ((own_lt (x := v0) (y := (55296 : Int32))).mpr (show v0.toInt < (55296) by omega))]
  rw [show f2_170 v0 = f2_184 v0 from if_pos ((own_lt (x := v0) (y := (64976 : Int32))).mpr (show v0.toInt < (64976) by omega))]
  rw [show f2_184 v0 = f2_190 v0 from if_neg (fun h => absurd ((own_eq (x := v0) (y := (65534 : Int32))).mp h) (show ¬ v0.toInt = (65534) by omega))]
  rw [show f2_190 v0 = f2_198 v0 from if_neg (fun h => absurd ((own_eq (x := v0) (y := (65535 : Int32))).mp h) (show ¬ v0.toInt = (65535) by omega))]
  rw [show f2_198 v0 = f2_206 v0 from if_pos ((own_lt (x := v0) (y := (983040 : Int32))).mpr (show v0.toInt < (983040) by omega))]
  rfl
theorem t2_3 (v0 : Int32) (h1 : (91) ≤ v0.toInt) (h2 : v0.toInt ≤ 94) : f2_0 v0 = (1 : Int32) := by
  rw [show f2_0 v0 = f2_6 v0 from if_neg (fun h => absurd ((own_lt (x := v0) (y := (0 : Int32))).mp h) (show ¬ v0.toInt < (0) by omega))]
  rw [show f2_6 v0 = f2_14 v0 from if_pos ((own_lt (x := (64 : Int32)) (y := v0)).mpr (show (64) < v0.toInt by omega))]
  rw [show f2_14 v0 = f2_20 v0 from if_neg (fun h => absurd ((own_lt (x := v0) (y := (91 : Int32))).mp h) (show ¬ v0.toInt < (91) by omega))]
  rw [show f2_20 v0 = f2_26 v0 from if_neg (fun h => absurd ((own_lt (x := (94 : Int32)) (y := v0)).mp h) (show ¬ (94) < v0.toInt by omega))]
  rfl
theorem t2_4 (v0 : Int32) (h1 : (95) ≤ v0.toInt) (h2 : v0.toInt ≤ 95) : f2_0 v0 = (0 : Int32) := by
  rw [show f2_0 v0 = f2_6 v0 from if_neg (fun h => absurd ((own_lt (x := v0) (y := (0 : Int32))).mp h) (show ¬ v0.toInt < (0) by omega))]
  rw [show f2_6 v0 = f2_14 v0 from if_pos ((own_lt (x := (64 : Int32)) (y := v0)).mpr (show (64) < v0.toInt by omega))]
  rw [show f2_14 v0 = f2_20 v0 from if_neg (fun h => absurd ((own_lt (x := v0) (y := (91 : Int32))).mp h) (show ¬ v0.toInt < (91) by omega))]
  rw [show f2_20 v0 = f2_28 v0 from if_pos ((own_lt (x := (94 : Int32)) (y := v0)).mpr (show (94) < v0.toInt by omega))]
  rw [show f2_28 v0 = f2_36 v0 from if_neg (fun h => absurd ((own_eq (x := v0) (y := (96 : Int32))).mp h) (show ¬ v0.toInt = (96) by omega))]
  rw [show f2_36 v0 = f2_51 v0 from if_pos ((own_lt (x := v0) (y := (123 : Int32))).mpr (show v0.toInt < (123) by omega))]
  rw [show f2_51 v0 = f2_58 v0 from if_neg (fun h => absurd ((own_eq (x := v0) (y := (215 : Int32))).mp h) (show ¬ v0.toInt = (215) by omega))]
  rw [show f2_58 v0 = f2_67 v0 from if_neg (fun h => absurd ((own_eq (x := v0) (y := (247 : Int32))).mp h) (show ¬ v0.toInt = (247) by omega))]
  rw [show f2_67 v0 = f2_83 v0 from if_pos ((own_lt (x := v0) (y := (768 : Int32))).mpr (show v0.toInt < (768) by omega))]
  rw [show f2_83 v0 = f2_92 v0 from if_neg (fun h => absurd ((own_eq (x := v0) (y := (894 : Int32))).mp h) (show ¬ v0.toInt = (894) by omega))]
  rw [show f2_92 v0 = f2_108 v0 from if_pos ((own_lt (x := v0) (y := (8192 : Int32))).mpr (show v0.toInt < (8192) by omega))]
  rw [show f2_108 v0 = f2_124 v0 from if_pos ((own_lt (x := v0) (y := (8206 : Int32))).mpr (show v0.toInt < (8206) by omega))]
  rw [show f2_124 v0 = f2_140 v0 from if_pos ((own_lt (x := v0) (y := (8592 : Int32))).mpr (show v0.toInt < (8592) by omega))]
  rw [show f2_140 v0 = f2_156 v0 from if_pos ((own_lt (x := v0) (y := (12272 : Int32))).mpr (show v0.toInt < (12272) by omega))]
  rw [show f2_156 v0 = f2_170 v0 from if_pos ((own_lt (x := v0) (y := (55296 : Int32))).mpr (show v0.toInt < (55296) by omega))]
  rw [show f2_170 v0 = f2_184 v0 from if_pos ((own_lt (x := v0) (y := (64976 : Int32))).mpr (show v0.toInt < (64976) by omega))]
  rw [show f2_184 v0 = f2_190 v0 from if_neg (fun h => absurd ((own_eq (x := v0) (y := (65534 : Int32))).mp h) (show ¬ v0.toInt = (65534) by omega))]
  rw [show f2_190 v0 = f2_198 v0 from if_neg (fun h => absurd ((own_eq (x := v0) (y := (65535 : Int32))).mp h) (show ¬ v0.toInt = (65535) by omega))]
  rw [show f2_198 v0 = f2_206 v0 from if_pos ((own_lt (x := v0) (y := (983040 : Int32))).mpr (show v0.toInt < (983040) by omega))]
  rfl
theorem t2_5 (v0 : Int32) (h1 : (96) ≤ v0.toInt) (h2 : v0.toInt ≤ 96) : f2_0 v0 = (1 : Int32) := by
  rw [show f2_0 v0 = f2_6 v0 from if_neg (fun h => absurd ((own_lt (x := v0) (y := (0 : Int32))).mp h) (show ¬ v0.toInt < (0) by omega))]
  rw [show f2_6 v0 = f2_14 v0 from if_pos ((own_lt (x := (64 : Int32)) (y := v0)).mpr (show (64) < v0.toInt by omega))]
  rw [show f2_14 v0 = f2_20 v0 from if_neg (fun h => absurd ((own_lt (x := v0) (y := (91 : Int32))).mp h) (show ¬ v0.toInt < (91) by omega))]
  rw [show f2_20 v0 = f2_28 v0 from if_pos ((own_lt (x := (94 : Int32)) (y := v0)).mpr (show (94) < v0.toInt by omega))]
  rw [show f2_28 v0 = f2_34 v0 from if_pos ((own_eq (x := v0) (y := (96 : Int32))).mpr (show v0.toInt = (96) by omega))]
  rfl
theorem t2_6 (v0 : Int32) (h1 : (97) ≤ v0.toInt) (h2 : v0.toInt ≤ 122) : f2_0 v0 = (0 : Int32) := by
  rw [show f2_0 v0 = f2_6 v0 from if_neg (fun h => absurd ((own_lt (x := v0) (y := (0 : Int32))).mp h) (show ¬ v0.toInt < (0) by omega))]
  rw [show f2_6 v0 = f2_14 v0 from if_pos ((own_lt (x := (64 : Int32)) (y := v0)).mpr (show (64) < v0.toInt by omega))]
  rw [show f2_14 v0 = f2_20 v0 from if_neg (fun h => absurd ((own_lt (x := v0) (y := (91 : Int32))).mp h) (show ¬ v0.toInt < (91) by omega))]
  rw [show f2_20 v0 = f2_28 v0 from if_pos ((own_lt (x := (94 : Int32)) (y := v0)).mpr (show (94) < v0.toInt by omega))]
  rw [show f2_28 v0 = f2_36 v0 from if_neg (fun h => absurd ((own_eq (x := v0) (y := (96 : Int32))).mp h) (show ¬ v0.toInt = (96) by omega))]
  rw [show f2_36 v0 = f2_51 v0 from if_pos ((own_lt (x := v0) (y := (123 : Int32))).mpr (show v0.toInt < (123) by omega))]
  rw [show f2_51 v0 = f2_58 v0 from if_neg (fun h => absurd ((own_eq (x := v0) (y := (215 : Int32))).mp h) (show ¬ v0.toInt = (215) by omega))]
  rw [show f2_58 v0 = f2_67 v0 from if_neg (fun h => absurd ((own_eq (x := v0) (y := (247 : Int32))).mp h) (show ¬ v0.toInt = (247) by omega))]
  rw [show f2_67 v0 = f2_83 v0 from if_pos ((own_lt (x := v0) (y := (768 : Int32))).mpr (show v0.toInt < (768) by omega))]
  rw [show f2_83 v0 = f2_92 v0 from if_neg (fun h => absurd ((own_eq (x := v0) (y := (894 : Int32))).mp h) (show ¬ v0.toInt = (894) by omega))]
  rw [show f2_92 v0 = f2_108 v0 from if_pos ((own_lt (x := v0) (y := (8192 : Int32))).mpr (show v0.toInt < (8192) by omega))]
  rw [show f2_108 v0 = f2_124 v0 from if_pos ((own_lt (x := v0) (y := (8206 : Int32))).mpr (show v0.toInt < (8206) by omega))]
  rw [show f2_124 v0 = f2_140 v0 from if_pos ((own_lt (x := v0) (y := (8592 : Int32))).mpr (show v0.toInt < (8592) by omega))]
  rw [show f2_140 v0 = f2_156 v0 from if_pos ((own_lt (x := v0) (y := (12272 : Int32))).mpr (show v0.toInt < (12272) by omega))]
  rw [show f2_156 v0 = f2_170 v0 from if_pos ((own_lt (x := v0) (y := (55296 : Int32))).mpr (show v0.toInt < (55296) by omega))]
  rw [show f2_170 v0 = f2_184 v0 from if_pos ((own_lt (x := v0) (y := (64976 : Int32))).mpr (show v0.toInt < (64976) by omega))]
  rw [show f2_184 v0 = f2_190 v0 from if_neg (fun h => absurd ((own_eq (x := v0) (y := (65534 : Int32))).mp h) (show ¬ v0.toInt = (65534) by omega))]
  rw [show f2_190 v0 = f2_198 v0 from if_neg (fun h => absurd ((own_eq (x := v0) (y := (65535 : Int32))).mp h) (show ¬ v0.toInt = (65535) by omega))]
  rw [show f2_198 v0 = f2_206 v0 from if_pos ((own_lt (x := v0) (y := (983040 : Int32))).mpr (show v0.toInt < (983040) by omega))]
  rfl
theorem t2_7 (v0 : Int32) (h1 : (123) ≤ v0.toInt) (h2 : v0.toInt ≤ 127) : f2_0 v0 = (1 : Int32) := by
  rw [show f2_0 v0 = f2_6 v0 from if_neg (fun h => absurd ((own_lt (x := v0) (y := (0 : Int32))).mp h) (show ¬ v0.toInt < (0) by omega))]
  rw [show f2_6 v0 = f2_14 v0 from if_pos ((own_lt (x := (64 : Int32)) (y := v0)).mpr (show (64) < v0.toInt by omega))]
  rw [show f2_14 v0 = f2_20 v0 from if_neg (fun h => absurd ((own_lt (x := v0) (y := (91 : Int32))).mp h) (show ¬ v0.toInt < (91) by omega))]
  rw [show f2_20 v0 = f2_28 v0 from if_pos ((own_lt (x := (94 : Int32)) (y := v0)).mpr (show (94) < v0.toInt by omega))]
  rw [show f2_28 v0 = f2_36 v0 from if_neg (fun h => absurd ((own_eq (x := v0) (y := (96 : Int32))).mp h) (show ¬ v0.toInt = (96) by omega))]
  rw [show f2_36 v0 = f2_42 v0 from if_neg (fun h => absurd ((own_lt (x := v0) (y := (123 : Int32))).mp h) (show ¬ v0.toInt < (123) by omega))]
  rw [show f2_42 v0 = f2_49 v0 from if_neg (fun h => absurd ((own_lt (x := (191 : Int32)) (y := v0)).mp h) (show ¬ (191) < v0.toInt by omega))]
  rfl
theorem t2_8 (v0 : Int32) (h1 : (128) ≤ v0.toInt) (h2 : v0.toInt ≤ 191) : f2_0 v0 = (1 : Int32) := by
  rw [show f2_0 v0 = f2_6 v0 from if_neg (fun h => absurd ((own_lt (x := v0) (y := (0 : Int32))).mp h) (show ¬ v0.toInt < (0) by omega))]
  rw [show f2_6 v0 = f2_14 v0 from if_pos ((own_lt (x := (64 : Int32)) (y := v0)).mpr (show (64) < v0.toInt by omega))]
  rw [show f2_14 v0 = f2_20 v0 from if_neg (fun h => absurd ((own_lt (x := v0) (y := (91 : Int32))).mp h) (show ¬ v0.toInt < (91) by omega))]
  rw [show f2_20 v0 = f2_28 v0 from if_pos ((own_lt (x := (94 : Int32)) (y := v0)).mpr (show (94) < v0.toInt by omega))]
  rw [show f2_28 v0 = f2_36 v0 from if_neg (fun h => absurd ((own_eq (x := v0) (y := (96 : Int32))).mp h) (show ¬ v0.toInt = (96) by omega))]
  rw [show f2_36 v0 = f2_42 v0 from if_neg (fun h => absurd ((own_lt (x := v0) (y := (123 : Int32))).mp h) (show ¬ v0.toInt < (123) by omega))]
  rw [show f2_42 v0 = f2_49 v0 from if_neg (fun h => absurd ((own_lt (x := (191 : Int32)) (y := v0)).mp h) (show ¬ (191) < v0.toInt by omega))]
  rfl
theorem t2_9 (v0 : Int32) (h1 : (192) ≤ v0.toInt) (h2 : v0.toInt ≤ 214) : f2_0 v0 = (0 : Int32) := by
  rw [show f2_0 v0 = f2_6 v0 from if_neg (fun h => absurd ((own_lt (x := v0) (y := (0 : Int32))).mp h) (show ¬ v0.toInt < (0) by omega))]
  rw [show f2_6 v0 = f2_14 v0 from if_pos ((own_lt (x := (64 : Int32)) (y := v0)).mpr (show (64) < v0.toInt by omega))]
  rw [show f2_14 v0 = f2_20 v0 from if_neg (fun h => absurd ((own_lt (x := v0) (y := (91 : Int32))).mp h) (show ¬ v0.toInt < (91) by omega))]
  rw [show f2_20 v0 = f2_28 v0 from if_pos ((own_lt (x := (94 : Int32)) (y := v0)).mpr (show (94) < v0.toInt by omega))]
  rw [show f2_28 v0 = f2_36 v0 from if_neg (fun h => absurd ((own_eq (x := v0) (y := (96 : Int32))).mp h) (show ¬ v0.toInt = (96) by omega))]
  rw [show f2_36 v0 = f2_42 v0 from if_neg (fun h => absurd ((own_lt (x := v0) (y := (123 : Int32))).mp h) (show ¬ v0.toInt < (123) by omega))]
  rw [show f2_42 v0 = f2_51 v0 from if_pos ((own_lt (x := (191 : Int32)) (y := v0)).mpr (show (191) < v0.toInt by omega))]
  rw [show f2_51 v0 = f2_58 v0 from if_neg (fun h => absurd ((own_eq (x := v0) (y := (215 : Int32))).mp h) (show ¬ v0.toInt = (215) by omega))]
  rw [show f2_58 v0 = f2_67 v0 from if_neg (fun h => absurd ((own_eq (x := v0) (y := (247 : Int32))).mp h) (show ¬ v0.toInt = (247) by omega))]
  rw [show f2_67 v0 = f2_83 v0 from if_pos ((own_lt (x := v0) (y := (768 : Int32))).mpr (show v0.toInt < (768) by omega))]
  rw [show f2_83 v0 = f2_92 v0 from if_neg (fun h => absurd ((own_eq (x := v0) (y := (894 : Int32))).mp h) (show ¬ v0.toInt = (894) by omega))]
  rw [show f2_92 v0 = f2_108 v0 from if_pos ((own_lt (x := v0) (y := (8192 : Int32))).mpr (show v0.toInt < (8192) by omega))]
  rw [show f2_108 v0 = f2_124 v0 from if_pos ((own_lt (x := v0) (y := (8206 : Int32))).mpr (show v0.toInt < (8206) by omega))]
  rw [show f2_124 v0 = f2_140 v0 from if_pos ((own_lt (x := v0) (y := (8592 : Int32))).mpr (show v0.toInt < (8592) by omega))]
  rw [show f2_140 v0 = f2_156 v0 from if_pos ((own_lt (x := v0) (y := (12272 : Int32))).mpr (show v0.toInt < (12272) by omega))]
  rw [show f2_156 v0 = f2_170 v0 from if_pos ((own_lt (x := v0) (y := (55296 : Int32))).mpr (show v0.toInt < (55296) by omega))]
  rw [show f2_170 v0 = f2_184 v0 from if_pos ((own_lt (x := v0) (y := (64976 : Int32))).mpr (show v0.toInt < (64976) by omega))]
  rw [show f2_184 v0 = f2_190 v0 from if_neg (fun h => absurd ((own_eq (x := v0) (y := (65534 : Int32))).mp h) (show ¬ v0.toInt = (65534) by omega))]
  rw [show f2_190 v0 = f2_198 v0 from if_neg (fun h => absurd ((own_eq (x := v0) (y := (65535 : Int32))).mp h) (show ¬ v0.toInt = (65535) by omega))]
  rw [show f2_198 v0 = f2_206 v0 from if_pos ((own_lt (x := v0) (y := (983040 : Int32))).mpr (show v0.toInt < (983040) by omega))]
  rfl
theorem t2_10 (v0 : Int32) (h1 : (215) ≤ v0.toInt) (h2 : v0.toInt ≤ 215) : f2_0 v0 = (1 : Int32) := by
  rw [show f2_0 v0 = f2_6 v0 from if_neg (fun h => absurd ((own_lt (x := v0) (y := (0 : Int32))).mp h) (show ¬ v0.toInt < (0) by omega))]
  rw [show f2_6 v0 = f2_14 v0 from if_pos ((own_lt (x := (64 : Int32)) (y := v0)).mpr (show (64) < v0.toInt by omega))]
  rw [show f2_14 v0 = f2_20 v0 from if_neg (fun h => absurd ((own_lt (x := v0) (y := (91 : Int32))).mp h) (show ¬ v0.toInt < (91) by omega))]
  rw [show f2_20 v0 = f2_28 v0 from if_pos ((own_lt (x := (94 : Int32)) (y := v0)).mpr (show (94) < v0.toInt by omega))]
  rw [show f2_28 v0 = f2_36 v0 from if_neg (fun h => absurd ((own_eq (x := v0) (y := (96 : Int32))).mp h) (show ¬ v0.toInt = (96) by omega))]
  rw [show f2_36 v0 = f2_42 v0 from if_neg (fun h => absurd ((own_lt (x := v0) (y := (123 : Int32))).mp h) (show ¬ v0.toInt < (123) by omega))]
  rw [show f2_42 v0 = f2_51 v0 from if_pos ((own_lt (x := (191 : Int32)) (y := v0)).mpr (show (191) < v0.toInt by omega))]
  rw [show f2_51 v0 = f2_65 v0 from if_pos ((own_eq (x := v0) (y := (215 : Int32))).mpr (show v0.toInt = (215) by omega))]
  rfl
theorem t2_11 (v0 : Int32) (h1 : (216) ≤ v0.toInt) (h2 : v0.toInt ≤ 246) : f2_0 v0 = (0 : Int32) := by
  rw [show f2_0 v0 = f2_6 v0 from if_neg (fun h => absurd ((own_lt (x := v0) (y := (0 : Int32))).mp h) (show ¬ v0.toInt < (0) by omega))]
  rw [show f2_6 v0 = f2_14 v0 from if_pos ((own_lt (x := (64 : Int32)) (y := v0)).mpr (show (64) < v0.toInt by omega))]
  rw [show f2_14 v0 = f2_20 v0 from if_neg (fun h => absurd ((own_lt (x := v0) (y := (91 : Int32))).mp h) (show ¬ v0.toInt < (91) by omega))]
  rw [show f2_20 v0 = f2_28 v0 from if_pos ((own_lt (x := (94 : Int32)) (y := v0)).mpr (show (94) < v0.toInt by omega))]
  rw [show f2_28 v0 = f2_36 v0 from if_neg (fun h => absurd ((own_eq (x := v0) (y := (96 : Int32))).mp h) (show ¬ v0.toInt = (96) by omega))]
  rw [show f2_36 v0 = f2_42 v0 from if_neg (fun h => absurd ((own_lt (x := v0) (y := (123 : Int32))).mp h) (show ¬ v0.toInt < (123) by omega))]
  rw [show f2_42 v0 = f2_51 v0 from if_pos ((own_lt (x := (191 : Int32)) (y := v0)).mpr (show (191) < v0.toInt by omega))]
  rw [show f2_51 v0 = f2_58 v0 from if_neg (fun h => absurd ((own_eq (x := v0) (y := (215 : Int32))).mp h) (show ¬ v0.toInt = (215) by omega))]
  rw [show f2_58 v0 = f2_67 v0 from if_neg (fun h => absurd ((own_eq (x := v0) (y := (247 : Int32))).mp h) (show ¬ v0.toInt = (247) by omega))]
  rw [show f2_67 v0 = f2_83 v0 from if_pos ((own_lt (x := v0) (y := (768 : Int32))).mpr (show v0.toInt < (768) by omega))]
  rw [show f2_83 v0 = f2_92 v0 from if_neg (fun h => absurd ((own_eq (x := v0) (y := (894 : Int32))).mp h) (show ¬ v0.toInt = (894) by omega))]
  rw [show f2_92 v0 = f2_108 v0 from if_pos ((own_lt (x := v0) (y := (8192 : Int32))).mpr (show v0.toInt < (8192) by omega))]
  rw [show f2_108 v0 = f2_124 v0 from if_pos ((own_lt (x := v0) (y := (8206 : Int32))).mpr (show v0.toInt < (8206) by omega))]
  rw [show f2_124 v0 = f2_140 v0 from if_pos ((own_lt (x := v0) (y := (8592 : Int32))).mpr (show v0.toInt < (8592) by omega))]
  rw [show f2_140 v0 = f2_156 v0 from if_pos ((own_lt (x := v0) (y := (12272 : Int32))).mpr (show v0.toInt < (12272) by omega))]
  rw [show f2_156 v0 = f2_170 v0 from if_pos ((own_lt (x := v0) (y := (55296 : Int32))).mpr (show v0.toInt < (55296) by omega))]
  rw [show f2_170 v0 = f2_184 v0 from if_pos ((own_lt (x := v0) (y := (64976 : Int32))).mpr (show v0.toInt < (64976) by omega))]
  rw [show f2_184 v0 = f2_190 v0 from if_neg (fun h => absurd ((own_eq (x := v0) (y := (65534 : Int32))).mp h) (show ¬ v0.toInt = (65534) by omega))]
  rw [show f2_190 v0 = f2_198 v0 from if_neg (fun h => absurd ((own_eq (x := v0) (y := (65535 : Int32))).mp h) (show ¬ v0.toInt = (65535) by omega))]
  rw [show f2_198 v0 = f2_206 v0 from if_pos ((own_lt (x := v0) (y := (983040 : Int32))).mpr (show v0.toInt < (983040) by omega))]
  rfl
theorem t2_12 (v0 : Int32) (h1 : (247) ≤ v0.toInt) (h2 : v0.toInt ≤ 247) : f2_0 v0 = (1 : Int32) := by
  rw [show f2_0 v0 = f2_6 v0 from if_neg (fun h => absurd ((own_lt (x := v0) (y := (0 : Int32))).mp h) (show ¬ v0.toInt < (0) by omega))]
  rw [show f2_6 v0 = f2_14 v0 from if_pos ((own_lt (x := (64 : Int32)) (y := v0)).mpr (show (64) < v0.toInt by omega))]
  rw [show f2_14 v0 = f2_20 v0 from if_neg (fun h => absurd ((own_lt (x := v0) (y := (91 : Int32))).mp h) (show ¬ v0.toInt < (91) by omega))]
  rw [show f2_20 v0 = f2_28 v0 from if_pos ((own_lt (x := (94 : Int32)) (y := v0)).mpr (show (94) < v0.toInt by omega))]
  rw [show f2_28 v0 = f2_36 v0 from if_neg (fun h => absurd ((own_eq (x := v0) (y := (96 : Int32))).mp h) (show ¬ v0.toInt = (96) by omega))]
  rw [show f2_36 v0 = f2_42 v0 from if_neg (fun h => absurd ((own_lt (x := v0) (y := (123 : Int32))).mp h) (show ¬ v0.toInt < (123) by omega))]
  rw [show f2_42 v0 = f2_51 v0 from if_pos ((own_lt (x := (191 : Int32)) (y := v0)).mpr (show (191) < v0.toInt by omega))]
  rw [show f2_51 v0 = f2_58 v0 from if_neg (fun h => absurd ((own_eq (x := v0) (y := (215 : Int32))).mp h) (show ¬ v0.toInt = (215) by omega))]
  rw [show f2_58 v0 = f2_65 v0 from if_pos ((own_eq (x := v0) (y := (247 : Int32))).mpr (show v0.toInt = (247) by omega))]
  rfl
theorem t2_13 (v0 : Int32) (h1 : (248) ≤ v0.toInt) (h2 : v0.toInt ≤ 767) : f2_0 v0 = (0 : Int32) := by
  rw [show f2_0 v0 = f2_6 v0 from if_neg (fun h => absurd ((own_lt (x := v0) (y := (0 : Int32))).mp h) (show ¬ v0.toInt < (0) by omega))]
  rw [show f2_6 v0 = f2_14 v0 from if_pos ((own_lt (x := (64 : Int32)) (y := v0)).mpr (show (64) < v0.toInt by omega))]
  rw [show f2_14 v0 = f2_20 v0 from if_neg (fun h => absurd ((own_lt (x := v0) (y := (91 : Int32))).mp h) (show ¬ v0.toInt < (91) by omega))]
  rw [show f2_20 v0 = f2_28 v0 from if_pos ((own_lt (x := (94 : Int32)) (y := v0)).mpr (show (94) < v0.toInt by omega))]
  rw [show f2_28 v0 = f2_36 v0 from if_neg (fun h => absurd ((own_eq (x := v0) (y := (96 : Int32))).mp h) (show ¬ v0.toInt = (96) by omega))]
  rw [show f2_36 v0 = f2_42 v0 from if_neg (fun h => absurd ((own_lt (x := v0) (y := (123 : Int32))).mp h) (show ¬ v0.toInt < (123) by omega))]
  rw [show f2_42 v0 = f2_51 v0 from if_pos ((own_lt (x := (191 : Int32)) (y := v0)).mpr (show (191) < v0.toInt by omega))]
  rw [show f2_51 v0 = f2_58 v0 from if_neg (fun h => absurd ((own_eq (x := v0) (y := (215 : Int32))).mp h) (show ¬ v0.toInt = (215) by omega))]
  rw [show f2_58 v0 = f2_67 v0 from if_neg (fun h => absurd ((own_eq (x := v0) (y := (247 : Int32))).mp h) (show ¬ v0.toInt = (247) by omega))]
  rw [show f2_67 v0 = f2_83 v0 from if_pos ((own_lt (x := v0) (y := (768 : Int32))).mpr (show v0.toInt < (768) by omega))]
  rw [show f2_83 v0 = f2_92 v0 from if_neg (fun h => absurd ((own_eq (x := v0) (y := (894 : Int32))).mp h) (show ¬ v0.toInt = (894) by omega))]
  rw [show f2_92 v0 = f2_108 v0 from if_pos ((own_lt (x := v0) (y := (8192 : Int32))).mpr (show v0.toInt < (8192) by omega))]
  rw [show f2_108 v0 = f2_124 v0 from if_pos ((own_lt (x := v0) (y := (8206 : Int32))).mpr (show v0.toInt < (8206) by omega))]
  rw [show f2_124 v0 = f2_140 v0 from if_pos ((own_lt (x := v0) (y := (8592 : Int32))).mpr (show v0.toInt < (8592) by omega))]
  rw [show f2_140 v0 = f2_156 v0 from if_pos ((own_lt (x := v0) (y := (12272 : Int32))).mpr (show v0.toInt < (12272) by omega))]
  rw [show f2_156 v0 = f2_170 v0 from if_pos ((own_lt (x := v0) (y := (55296 : Int32))).mpr (show v0.toInt < (55296) by omega))]
  rw [show f2_170 v0 = f2_184 v0 from if_pos ((own_lt (x := v0) (y := (64976 : Int32))).mpr (show v0.toInt < (64976) by omega))]
  rw [show f2_184 v0 = f2_190 v0 from if_neg (fun h => absurd ((own_eq (x := v0) (y := (65534 : Int32))).mp h) (show ¬ v0.toInt = (65534) by omega))]
  rw [show f2_190 v0 = f2_198 v0 from if_neg (fun h => absurd ((own_eq (x := v0) (y := (65535 : Int32))).mp h) (show ¬ v0.toInt = (65535) by omega))]
  rw [show f2_198 v0 = f2_206 v0 from if_pos ((own_lt (x := v0) (y := (983040 : Int32))).mpr (show v0.toInt < (983040) by omega))]
  rfl
theorem t2_14 (v0 : Int32) (h1 : (768) ≤ v0.toInt) (h2 : v0.toInt ≤ 879) : f2_0 v0 = (1 : Int32) := by
  rw [show f2_0 v0 = f2_6 v0 from if_neg (fun h => absurd ((own_lt (x := v0) (y := (0 : Int32))).mp h) (show ¬ v0.toInt < (0) by omega))]
  rw [show f2_6 v0 = f2_14 v0 from if_pos ((own_lt (x := (64 : Int32)) (y := v0)).mpr (show (64) < v0.toInt by omega))]
  rw [show f2_14 v0 = f2_20 v0 from if_neg (fun h => absurd ((own_lt (x := v0) (y := (91 : Int32))).mp h) (show ¬ v0.toInt < (91) by omega))]
  rw [show f2_20 v0 = f2_28 v0 from if_pos ((own_lt (x := (94 : Int32)) (y := v0)).mpr (show (94) < v0.toInt by omega))]
  rw [show f2_28 v0 = f2_36 v0 from if_neg (fun h => absurd ((own_eq (x := v0) (y := (96 : Int32))).mp h) (show ¬ v0.toInt = (96) by omega))]
  rw [show f2_36 v0 = f2_42 v0 from if_neg (fun h => absurd ((own_lt (x := v0) (y := (123 : Int32))).mp h) (show ¬ v0.toInt < (123) by omega))]
  rw [show f2_42 v0 = f2_51 v0 from if_pos ((own_lt (x := (191 : Int32)) (y := v0)).mpr (show (191) < v0.toInt by omega))]
  rw [show f2_51 v0 = f2_58 v0 from if_neg (fun h => absurd ((own_eq (x := v0) (y := (215 : Int32))).mp h) (show ¬ v0.toInt = (215) by omega))]
  rw [show f2_58 v0 = f2_67 v0 from if_neg (fun h => absurd ((own_eq (x := v0) (y := (247 : Int32))).mp h) (show ¬ v0.toInt = (247) by omega))]
  rw [show f2_67 v0 = f2_74 v0 from if_neg (fun h => absurd ((own_lt (x := v0) (y := (768 : Int32))).mp h) (show ¬ v0.toInt < (768) by omega))]
  rw [show f2_74 v0 = f2_81 v0 from if_neg (fun h => absurd ((own_lt (x := (879 : Int32)) (y := v0)).mp h) (show ¬ (879) < v0.toInt by omega))]
  rfl
theorem t2_15 (v0 : Int32) (h1 : (880) ≤ v0.toInt) (h2 : v0.toInt ≤ 893) : f2_0 v0 = (0 : Int32) := by
  rw [show f2_0 v0 = f2_6 v0 from if_neg (fun h => absurd ((own_lt (x := v0) (y := (0 : Int32))).mp h) (show ¬ v0.toInt < (0) by omega))]
  rw [show f2_6 v0 = f2_14 v0 from if_pos ((own_lt (x := (64 : Int32)) (y := v0)).mpr (show (64) < v0.toInt by omega))]
  rw [show f2_14 v0 = f2_20 v0 from if_neg (fun h => absurd ((own_lt (x := v0) (y := (91 : Int32))).mp h) (show ¬ v0.toInt < (91) by omega))]
  rw [show f2_20 v0 = f2_28 v0 from if_pos ((own_lt (x := (94 : Int32)) (y := v0)).mpr (show (94) < v0.toInt by omega))]
  rw [show f2_28 v0 = f2_36 v0 from if_neg (fun h => absurd ((own_eq (x := v0) (y := (96 : Int32))).mp h) (show ¬ v0.toInt = (96) by omega))]
  rw [show f2_36 v0 = f2_42 v0 from if_neg (fun h => absurd ((own_lt (x := v0) (y := (123 : Int32))).mp h) (show ¬ v0.toInt < (123) by omega))]
  rw [show f2_42 v0 = f2_51 v0 from if_pos ((own_lt (x := (191 : Int32)) (y := v0)).mpr (show (191) < v0.toInt by omega))]
  rw [show f2_51 v0 = f2_58 v0 from if_neg (fun h => absurd ((own_eq (x := v0) (y := (215 : Int32))).mp h) (show ¬ v0.toInt = (215) by omega))]
  rw [show f2_58 v0 = f2_67 v0 from if_neg (fun h => absurd ((own_eq (x := v0) (y := (247 : Int32))).mp h) (show ¬ v0.toInt = (247) by omega))]
  rw [show f2_67 v0 = f2_74 v0 from if_neg (fun h => absurd ((own_lt (x := v0) (y := (768 : Int32))).mp h) (show ¬ v0.toInt < (768) by omega))]
  rw [show f2_74 v0 = f2_83 v0 from if_pos ((own_lt (x := (879 : Int32)) (y := v0)).mpr (show (879) < v0.toInt by omega))]
  rw [show f2_83 v0 = f2_92 v0 from if_neg (fun h => absurd ((own_eq (x := v0) (y := (894 : Int32))).mp h) (show ¬ v0.toInt = (894) by omega))]
  rw [show f2_92 v0 = f2_108 v0 from if_pos ((own_lt (x := v0) (y := (8192 : Int32))).mpr (show v0.toInt < (8192) by omega))]
  rw [show f2_108 v0 = f2_124 v0 from if_pos ((own_lt (x := v0) (y := (8206 : Int32))).mpr (show v0.toInt < (8206) by omega))]
  rw [show f2_124 v0 = f2_140 v0 from if_pos ((own_lt (x := v0) (y := (8592 : Int32))).mpr (show v0.toInt < (8592) by omega))]
  rw [show f2_140 v0 = f2_156 v0 from if_pos ((own_lt (x := v0) (y := (12272 : Int32))).mpr (show v0.toInt < (12272) by omega))]
  rw [show f2_156 v0 = f2_170 v0 from if_pos ((own_lt (x := v0) (y := (55296 : Int32))).mpr (show v0.toInt < (55296) by omega))]
  rw [show f2_170 v0 = f2_184 v0 from if_pos ((own_lt (x := v0) (y := (64976 : Int32))).mpr (show v0.toInt < (64976) by omega))]
  rw [show f2_184 v0 = f2_190 v0 from if_neg (fun h => absurd ((own_eq (x := v0) (y := (65534 : Int32))).mp h) (show ¬ v0.toInt = (65534) by omega))]
  rw [show f2_190 v0 = f2_198 v0 from if_neg (fun h => absurd ((own_eq (x := v0) (y := (65535 : Int32))).mp h) (show ¬ v0.toInt = (65535) by omega))]
  rw [show f2_198 v0 = f2_206 v0 from if_pos ((own_lt (x := v0) (y := (983040 : Int32))).mpr (show v0.toInt < (983040) by omega))]
  rfl
theorem t2_16 (v0 : Int32) (h1 : (894) ≤ v0.toInt) (h2 : v0.toInt ≤ 894) : f2_0 v0 = (1 : Int32) := by
  rw [show f2_0 v0 = f2_6 v0 from if_neg (fun h => absurd ((own_lt (x := v0) (y := (0 : Int32))).mp h) (show ¬ v0.toInt < (0) by omega))]
  rw [show f2_6 v0 = f2_14 v0 from if_pos ((own_lt (x := (64 : Int32)) (y := v0)).mpr (show (64) < v0.toInt by omega))]
  rw [show f2_14 v0 = f2_20 v0 from if_neg (fun h => absurd ((own_lt (x := v0) (y := (91 : Int32))).mp h) (show ¬ v0.toInt < (91) by omega))]
  rw [show f2_20 v0 = f2_28 v0 from if_pos ((own_lt (x := (94 : Int32)) (y := v0)).mpr (show (94) < v0.toInt by omega))]
  rw [show f2_28 v0 = f2_36 v0 from if_neg (fun h => absurd ((own_eq (x := v0) (y := (96 : Int32))).mp h) (show ¬ v0.toInt = (96) by omega))]
  rw [show f2_36 v0 = f2_42 v0 from if_neg (fun h => absurd ((own_lt (x := v0) (y := (123 : Int32))).mp h) (show ¬ v0.toInt < (123) by omega))]
  rw [show f2_42 v0 = f2_51 v0 from if_pos ((own_lt (x := (191 : Int32)) (y := v0)).mpr (show (191) < v0.toInt by omega))]
  rw [show f2_51 v0 = f2_58 v0 from if_neg (fun h => absurd ((own_eq (x := v0) (y := (215 : Int32))).mp h) (show ¬ v0.toInt = (215) by omega))]
  rw [show f2_58 v0 = f2_67 v0 from if_neg (fun h => absurd ((own_eq (x := v0) (y := (247 : Int32))).mp h) (show ¬ v0.toInt = (247) by omega))]
  rw [show f2_67 v0 = f2_74 v0 from if_neg (fun h => absurd ((own_lt (x := v0) (y := (768 : Int32))).mp h) (show ¬ v0.toInt < (768) by omega))]
  rw [show f2_74 v0 = f2_83 v0 from if_pos ((own_lt (x := (879 : Int32)) (y := v0)).mpr (show (879) < v0.toInt by omega))]
  rw [show f2_83 v0 = f2_90 v0 from if_pos ((own_eq (x := v0) (y := (894 : Int32))).mpr (show v0.toInt = (894) by omega))]
  rfl
theorem t2_17 (v0 : Int32) (h1 : (895) ≤ v0.toInt) (h2 : v0.toInt ≤ 8191) : f2_0 v0 = (0 : Int32) := by
  rw [show f2_0 v0 = f2_6 v0 from if_neg (fun h => absurd ((own_lt (x := v0) (y := (0 : Int32))).mp h) (show ¬ v0.toInt < (0) by omega))]
  rw [show f2_6 v0 = f2_14 v0 from if_pos ((own_lt (x := (64 : Int32)) (y := v0)).mpr (show (64) < v0.toInt by omega))]
  rw [show f2_14 v0 = f2_20 v0 from if_neg (fun h => absurd ((own_lt (x := v0) (y := (91 : Int32))).mp h) (show ¬ v0.toInt < (91) by omega))]
  rw [show f2_20 v0 = f2_28 v0 from if_pos ((own_lt (x := (94 : Int32)) (y := v0)).mpr (show (94) < v0.toInt by omega))]
  rw [show f2_28 v0 = f2_36 v0 from if_neg (fun h => absurd ((own_eq (x := v0) (y := (96 : Int32))).mp h) (show ¬ v0.toInt = (96) by omega))]
  rw [show f2_36 v0 = f2_42 v0 from if_neg (fun h => absurd ((own_lt (x := v0) (y := (123 : Int32))).mp h) (show ¬ v0.toInt < (123) by omega))]
  rw [show f2_42 v0 = f2_51 v0 from if_pos ((own_lt (x := (191 : Int32)) (y := v0)).mpr (show (191) < v0.toInt by omega))]
  rw [show f2_51 v0 = f2_58 v0 from if_neg (fun h => absurd ((own_eq (x := v0) (y := (215 : Int32))).mp h) (show ¬ v0.toInt = (215) by omega))]
  rw [show f2_58 v0 = f2_67 v0 from if_neg (fun h => absurd ((own_eq (x := v0) (y := (247 : Int32))).mp h) (show ¬ v0.toInt = (247) by omega))]
  rw [show f2_67 v0 = f2_74 v0 from if_neg (fun h => absurd ((own_lt (x := v0) (y := (768 : Int32))).mp h) (show ¬ v0.toInt < (768) by omega))]
  rw [show f2_74 v0 = f2_83 v0 from if_pos ((own_lt (x := (879 : Int32)) (y := v0)).mpr (show (879) < v0.toInt by omega))]
  rw [show f2_83 v0 = f2_92 v0 from if_neg (fun h => absurd ((own_eq (x := v0) (y := (894 : Int32))).mp h) (show ¬ v0.toInt = (894) by omega))]
  rw [show f2_92 v0 = f2_108 v0 from if_pos ((own_lt (x := v0) (y := (8192 : Int32))).mpr (show v0.toInt < (8192) by omega))]
  rw [show f2_108 v0 = f2_124 v0 from if_pos ((own_lt (x := v0) (y := (8206 : Int32))).mpr (show v0.toInt < (8206) by omega))]
  rw [show f2_124 v0 = f2_140 v0 from if_pos ((own_lt (x := v0) (y := (8592 : Int32))).mpr (show v0.toInt < (8592) by omega))]
  rw [show f2_140 v0 = f2_156 v0 from if_pos ((own_lt (x := v0) (y := (12272 : Int32))).mpr (show v0.toInt < (12272) by omega))]
  rw [show f2_156 v0 = f2_170 v0 from if_pos ((own_lt (x := v0) (y := (55296 : Int32))).mpr (show v0.toInt < (55296) by omega))]
  rw [show f2_170 v0 = f2_184 v0 from if_pos ((own_lt (x := v0) (y := (64976 : Int32))).mpr (show v0.toInt < (64976) by omega))]
  rw [show f2_184 v0 = f2_190 v0 from if_neg (fun h => absurd ((own_eq (x := v0) (y := (65534 : Int32))).mp h) (show ¬ v0.toInt = (65534) by omega))]
  rw [show f2_190 v0 = f2_198 v0 from if_neg (fun h => absurd ((own_eq (x := v0) (y := (65535 : Int32))).mp h) (show ¬ v0.toInt = (65535) by omega))]
  rw [show f2_198 v0 = f2_206 v0 from if_pos ((own_lt (x := v0) (y := (983040 : Int32))).mpr (show v0.toInt < (983040) by omega))]
  rfl
theorem t2_18 (v0 : Int32) (h1 : (8192) ≤ v0.toInt) (h2 : v0.toInt ≤ 8203) : f2_0 v0 = (1 : Int32) := by
  rw [show f2_0 v0 = f2_6 v0 from if_neg (fun h => absurd ((own_lt (x := v0) (y := (0 : Int32))).mp h) (show ¬ v0.toInt < (0) by omega))]
  rw [show f2_6 v0 = f2_14 v0 from if_pos ((own_lt (x := (64 : Int32)) (y := v0)).mpr (show (64) < v0.toInt by omega))]
  rw [show f2_14 v0 = f2_20 v0 from if_neg (fun h => absurd ((own_lt (x := v0) (y := (91 : Int32))).mp h) (show ¬ v0.toInt < (91) by omega))]
  rw [show f2_20 v0 = f2_28 v0 from if_pos ((own_lt (x := (94 : Int32)) (y := v0)).mpr (show (94) < v0.toInt by omega))]
  rw [show f2_28 v0 = f2_36 v0 from if_neg (fun h => absurd ((own_eq (x := v0) (y := (96 : Int32))).mp h) (show ¬ v0.toInt = (96) by omega))]
  rw [show f2_36 v0 = f2_42 v0 from if_neg (fun h => absurd ((own_lt (x := v0) (y := (123 : Int32))).mp h) (show ¬ v0.toInt < (123) by omega))]
  rw [show f2_42 v0 = f2_51 v0 from if_pos ((own_lt (x := (191 : Int32)) (y := v0)).mpr (show (191) < v0.toInt by omega))]
  rw [show f2_51 v0 = f2_58 v0 from if_neg (fun h => absurd ((own_eq (x := v0) (y := (215 : Int32))).mp h) (show ¬ v0.toInt = (215) by omega))]
  rw [show f2_58 v0 = f2_67 v0 from if_neg (fun h => absurd ((own_eq (x := v0) (y := (247 : Int32))).mp h) (show ¬ v0.toInt = (247) by omega))]
  rw [show f2_67 v0 = f2_74 v0 from if_neg (fun h => absurd ((own_lt (x := v0) (y := (768 : Int32))).mp h) (show ¬ v0.toInt < (768) by omega))]
  rw [show f2_74 v0 = f2_83 v0 from if_pos ((own_lt (x := (879 : Int32)) (y := v0)).mpr (show (879) < v0.toInt by omega))]
  rw [show f2_83 v0 = f2_92 v0 from if_neg (fun h => absurd ((own_eq (x := v0) (y := (894 : Int32))).mp h) (show ¬ v0.toInt = (894) by omega))]
  rw [show f2_92 v0 = f2_99 v0 from if_neg (fun h => absurd ((own_lt (x := v0) (y := (8192 : Int32))).mp h) (show ¬ v0.toInt < (8192) by omega))]
  rw [show f2_99 v0 = f2_106 v0 from if_neg (fun h => absurd ((own_lt (x := (8203 : Int32)) (y := v0)).mp h) (show ¬ (8203) < v0.toInt by omega))]
  rfl
theorem t2_19 (v0 : Int32) (h1 : (8204) ≤ v0.toInt) (h2 : v0.toInt ≤ 8205) : f2_0 v0 = (0 : Int32) := by
  rw [show f2_0 v0 = f2_6 v0 from if_neg (fun h => absurd ((own_lt (x := v0) (y := (0 : Int32))).mp h) (show ¬ v0.toInt < (0) by omega))]
  rw [show f2_6 v0 = f2_14 v0 from if_pos ((own_lt (x := (64 : Int32)) (y := v0)).mpr (show (64) < v0.toInt by omega))]
  rw [show f2_14 v0 = f2_20 v0 from if_neg (fun h => absurd ((own_lt (x := v0) (y := (91 : Int32))).mp h) (show ¬ v0.toInt < (91) by omega))]
  rw [show f2_20 v0 = f2_28 v0 from if_pos ((own_lt (x := (94 : Int32)) (y := v0)).mpr (show (94) < v0.toInt by omega))]
  rw [show f2_28 v0 = f2_36 v0 from if_neg (fun h => absurd ((own_eq (x := v0) (y := (96 : Int32))).mp h) (show ¬ v0.toInt = (96) by omega))]
  rw [show f2_36 v0 = f2_42 v0 from if_neg (fun h => absurd ((own_lt (x := v0) (y := (123 : Int32))).mp h) (show ¬ v0.toInt < (123) by omega))]
  rw [show f2_42 v0 = f2_51 v0 from if_pos ((own_lt (x := (191 : Int32)) (y := v0)).mpr (show (191) < v0.toInt by omega))]
  rw [show f2_51 v0 = f2_58 v0 from if_neg (fun h => absurd ((own_eq (x := v0) (y := (215 : Int32))).mp h) (show ¬ v0.toInt = (215) by omega))]
  rw [show f2_58 v0 = f2_67 v0 from if_neg (fun h => absurd ((own_eq (x := v0) (y := (247 : Int32))).mp h) (show ¬ v0.toInt = (247) by omega))]
  rw [show f2_67 v0 = f2_74 v0 from if_neg (fun h => absurd ((own_lt (x := v0) (y := (768 : Int32))).mp h) (show ¬ v0.toInt < (768) by omega))]
  rw [show f2_74 v0 = f2_83 v0 from if_pos ((own_lt (x := (879 : Int32)) (y := v0)).mpr (show (879) < v0.toInt by omega))]
  rw [show f2_83 v0 = f2_92 v0 from if_neg (fun h => absurd ((own_eq (x := v0) (y := (894 : Int32))).mp h) (show ¬ v0.toInt = (894) by omega))]
  rw [show f2_92 v0 = f2_99 v0 from if_neg (fun h => absurd ((own_lt (x := v0) (y := (8192 : Int32))).mp h) (show ¬ v0.toInt < (8192) by omega))]
  rw [show f2_99 v0 = f2_108 v0 from if_pos ((own_lt (x := (8203 : Int32)) (y := v0)).mpr (show (8203) < v0.toInt by omega))]
  rw [show f2_108 v0 = f2_124 v0 from if_pos ((own_lt (x := v0) (y := (8206 : Int32))).mpr (show v0.toInt < (8206) by omega))]
  rw [show f2_124 v0 = f2_140 v0 from if_pos ((own_lt (x := v0) (y := (8592 : Int32))).mpr (show v0.toInt < (8592) by omega))]
  rw [show f2_140 v0 = f2_156 v0 from if_pos ((own_lt (x := v0) (y := (12272 : Int32))).mpr (show v0.toInt < (12272) by omega))]
  rw [show f2_156 v0 = f2_170 v0 from if_pos ((own_lt (x := v0) (y := (55296 : Int32))).mpr (show v0.toInt < (55296) by omega))]
  rw [show f2_170 v0 = f2_184 v0 from if_pos ((own_lt (x := v0) (y := (64976 : Int32))).mpr (show v0.toInt < (64976) by omega))]
  rw [show f2_184 v0 = f2_190 v0 from if_neg (fun h => absurd ((own_eq (x := v0) (y := (65534 : Int32))).mp h) (show ¬ v0.toInt = (65534) by omega))]
  rw [show f2_190 v0 = f2_198 v0 from if_neg (fun h => absurd ((own_eq (x := v0) (y := (65535 : Int32))).mp h) (show ¬ v0.toInt = (65535) by omega))]
  rw [show f2_198 v0 = f2_206 v0 from if_pos ((own_lt (x := v0) (y := (983040 : Int32))).mpr (show v0.toInt < (983040) by omega))]
  rfl
theorem t2_20 (v0 : Int32) (h1 : (8206) ≤ v0.toInt) (h2 : v0.toInt ≤ 8303) : f2_0 v0 = (1 : Int32) := by
  rw [show f2_0 v0 = f2_6 v0 from if_neg (fun h => absurd ((own_lt (x := v0) (y := (0 : Int32))).mp h) (show ¬ v0.toInt < (0) by omega))]
  rw [show f2_6 v0 = f2_14 v0 from if_pos ((own_lt (x := (64 : Int32)) (y := v0)).mpr (show (64) < v0.toInt by omega))]
  rw [show f2_14 v0 = f2_20 v0 from if_neg (fun h => absurd ((own_lt (x := v0) (y := (91 : Int32))).mp h) (show ¬ v0.toInt < (91) by omega))]
  rw [show f2_20 v0 = f2_28 v0 from if_pos ((own_lt (x := (94 : Int32)) (y := v0)).mpr (show (94) < v0.toInt by omega))]
  rw [show f2_28 v0 = f2_36 v0 from if_neg (fun h => absurd ((own_eq (x := v0) (y := (96 : Int32))).mp h) (show ¬ v0.toInt = (96) by omega))]
  rw [show f2_36 v0 = f2_42 v0 from if_neg (fun h => absurd ((own_lt (x := v0) (y := (123 : Int32))).mp h) (show ¬ v0.toInt < (123) by omega))]
  rw [show f2_42 v0 = f2_51 v0 from if_pos ((own_lt (x := (191 : Int32)) (y := v0)).mpr (show (191) < v0.toInt by omega))]
  rw [show f2_51 v0 = f2_58 v0 from if_neg (fun h => absurd ((own_eq (x := v0) (y := (215 : Int32))).mp h) (show ¬ v0.toInt = (215) by omega))]
  rw [show f2_58 v0 = f2_67 v0 from if_neg (fun h => absurd ((own_eq (x := v0) (y := (247 : Int32))).mp h) (show ¬ v0.toInt = (247) by omega))]
  rw [show f2_67 v0 = f2_74 v0 from if_neg (fun h => absurd ((own_lt (x := v0) (y := (768 : Int32))).mp h) (show ¬ v0.toInt < (768) by omega))]
  rw [show f2_74 v0 = f2_83 v0 from if_pos ((own_lt (x := (879 : Int32)) (y := v0)).mpr (show (879) < v0.toInt by omega))]
  rw [show f2_83 v0 = f2_92 v0 from if_neg (fun h => absurd ((own_eq (x := v0) (y := (894 : Int32))).mp h) (show ¬ v0.toInt = (894) by omega))]
  rw [show f2_92 v0 = f2_99 v0 from if_neg (fun h => absurd ((own_lt (x := v0) (y := (8192 : Int32))).mp h) (show ¬ v0.toInt < (8192) by omega))]
  rw [show f2_99 v0 = f2_108 v0 from if_pos ((own_lt (x := (8203 : Int32)) (y := v0)).mpr (show (8203) < v0.toInt by omega))]
  rw [show f2_108 v0 = f2_115 v0 from if_neg (fun h => absurd ((own_lt (x := v0) (y := (8206 : Int32))).mp h) (show ¬ v0.toInt < (8206) by omega))]
  rw [show f2_115 v0 = f2_122 v0 from if_neg (fun h => absurd ((own_lt (x := (8303 : Int32)) (y := v0)).mp h) (show ¬ (8303) < v0.toInt by omega))]
  rfl
theorem t2_21 (v0 : Int32) (h1 : (8304) ≤ v0.toInt) (h2 : v0.toInt ≤ 8591) : f2_0 v0 = (0 : Int32) := by
  rw [show f2_0 v0 = f2_6 v0 from if_neg (fun h => absurd ((own_lt (x := v0) (y := (0 : Int32))).mp h) (show ¬ v0.toInt < (0) by omega))]
  rw [show f2_6 v0 = f2_14 v0 from if_pos ((own_lt (x := (64 : Int32)) (y := v0)).mpr (show (64) < v0.toInt by omega))]
  rw [show f2_14 v0 = f2_20 v0 from if_neg (fun h => absurd ((own_lt (x := v0) (y := (91 : Int32))).mp h) (show ¬ v0.toInt < (91) by omega))]
  rw [show f2_20 v0 = f2_28 v0 from if_pos ((own_lt (x := (94 : Int32)) (y := v0)).mpr (show (94) < v0.toInt by omega))]
  rw [show f2_28 v0 = f2_36 v0 from if_neg (fun h => absurd ((own_eq (x := v0) (y := (96 : Int32))).mp h) (show ¬ v0.toInt = (96) by omega))]
  rw [show f2_36 v0 = f2_42 v0 from if_neg (fun h => absurd ((own_lt (x := v0) (y := (123 : Int32))).mp h) (show ¬ v0.toInt < (123) by omega))]
  rw [show f2_42 v0 = f2_51 v0 from if_pos ((own_lt (x := (191 : Int32)) (y := v0)).mpr (show (191) < v0.toInt by omega))]
  rw [show f2_51 v0 = f2_58 v0 from if_neg (fun h => absurd ((own_eq (x := v0) (y := (215 : Int32))).mp h) (show ¬ v0.toInt = (215) by omega))]
  rw [show f2_58 v0 = f2_67 v0 from if_neg (fun h => absurd ((own_eq (x := v0) (y := (247 : Int32))).mp h) (show ¬ v0.toInt = (247) by omega))]
  rw [show f2_67 v0 = f2_74 v0 from if_neg (fun h => absurd ((own_lt (x := v0) (y := (768 : Int32))).mp h) (show ¬ v0.toInt < (768) by omega))]
  rw [show f2_74 v0 = f2_83 v0 from if_pos ((own_lt (x := (879 : Int32)) (y := v0)).mpr (show (879) < v0.toInt by omega))]
  rw [show f2_83 v0 = f2_92 v0 from if_neg (fun h => absurd ((own_eq (x := v0) (y := (894 : Int32))).mp h) (show ¬ v0.toInt = (894) by omega))]
  rw [show f2_92 v0 = f2_99 v0 from if_neg (fun h => absurd ((own_lt (x := v0) (y := (8192 : Int32))).mp h) (show ¬ v0.toInt < (8192) by omega))]
  rw [show f2_99 v0 = f2_108 v0 from if_pos ((own_lt (x := (8203 : Int32)) (y := v0)).mpr (show (8203) < v0.toInt by omega))]
  rw [show f2_108 v0 = f2_115 v0 from if_neg (fun h => absurd ((own_lt (x := v0) (y := (8206 : Int32))).mp h) (show ¬ v0.toInt < (8206) by omega))]
  rw [show f2_115 v0 = f2_124 v0 from if_pos ((own_lt (x := (8303 : Int32)) (y := v0)).mpr (show (8303) < v0.toInt by omega))]
  rw [show f2_124 v0 = f2_140 v0 from if_pos ((own_lt (x := v0) (y := (8592 : Int32))).mpr (show v0.toInt < (8592) by omega))]
  rw [show f2_140 v0 = f2_156 v0 from if_pos ((own_lt (x := v0) (y := (12272 : Int32))).mpr (show v0.toInt < (12272) by omega))]
  rw [show f2_156 v0 = f2_170 v0 from if_pos ((own_lt (x := v0) (y := (55296 : Int32))).mpr (show v0.toInt < (55296) by omega))]
  rw [show f2_170 v0 = f2_184 v0 from if_pos ((own_lt (x := v0) (y := (64976 : Int32))).mpr (show v0.toInt < (64976) by omega))]
  rw [show f2_184 v0 = f2_190 v0 from if_neg (fun h => absurd ((own_eq (x := v0) (y := (65534 : Int32))).mp h) (show ¬ v0.toInt = (65534) by omega))]
  rw [show f2_190 v0 = f2_198 v0 from if_neg (fun h => absurd ((own_eq (x := v0) (y := (65535 : Int32))).mp h) (show ¬ v0.toInt = (65535) by omega))]
  rw [show f2_198 v0 = f2_206 v0 from if_pos ((own_lt (x := v0) (y := (983040 : Int32))).mpr (show v0.toInt < (983040) by omega))]
  rfl
theorem t2_22 (v0 : Int32) (h1 : (8592) ≤ v0.toInt) (h2 : v0.toInt ≤ 11263) : f2_0 v0 = (1 : Int32) := by
  rw [show f2_0 v0 = f2_6 v0 from if_neg (fun h => absurd ((own_lt (x := v0) (y := (0 : Int32))).mp h) (show ¬ v0.toInt < (0) by omega))]
  rw [show f2_6 v0 = f2_14 v0 from if_pos ((own_lt (x := (64 : Int32)) (y := v0)).mpr (show (64) < v0.toInt by omega))]
  rw [show f2_14 v0 = f2_20 v0 from if_neg (fun h => absurd ((own_lt (x := v0) (y := (91 : Int32))).mp h) (show ¬ v0.toInt < (91) by omega))]
  rw [show f2_20 v0 = f2_28 v0 from if_pos ((own_lt (x := (94 : Int32)) (y := v0)).mpr (show (94) < v0.toInt by omega))]
  rw [show f2_28 v0 = f2_36 v0 from if_neg (fun h => absurd ((own_eq (x := v0) (y := (96 : Int32))).mp h) (show ¬ v0.toInt = (96) by omega))]
  rw [show f2_36 v0 = f2_42 v0 from if_neg (fun h => absurd ((own_lt (x := v0) (y := (123 : Int32))).mp h) (show ¬ v0.toInt < (123) by omega))]
  rw [show f2_42 v0 = f2_51 v0 from if_pos ((own_lt (x := (191 : Int32)) (y := v0)).mpr (show (191) < v0.toInt by omega))]
  rw [show f2_51 v0 = f2_58 v0 from if_neg (fun h => absurd ((own_eq (x := v0) (y := (215 : Int32))).mp h) (show ¬ v0.toInt = (215) by omega))]
  rw [show f2_58 v0 = f2_67 v0 from if_neg (fun h => absurd ((own_eq (x := v0) (y := (247 : Int32))).mp h) (show ¬ v0.toInt = (247) by omega))]
  rw [show f2_67 v0 = f2_74 v0 from if_neg (fun h => absurd ((own_lt (x := v0) (y := (768 : Int32))).mp h) (show ¬ v0.toInt < (768) by omega))]
  rw [show f2_74 v0 = f2_83 v0 from if_pos ((own_lt (x := (879 : Int32)) (y := v0)).mpr (show (879) < v0.toInt by omega))]
  rw [show f2_83 v0 = f2_92 v0 from if_neg (fun h => absurd ((own_eq (x := v0) (y := (894 : Int32))).mp h) (show ¬ v0.toInt = (894) by omega))]
  rw [show f2_92 v0 = f2_99 v0 from if_neg (fun h => absurd ((own_lt (x := v0) (y := (8192 : Int32))).mp h) (show ¬ v0.toInt < (8192) by omega))]
  rw [show f2_99 v0 = f2_108 v0 from if_pos ((own_lt (x := (8203 : Int32)) (y := v0)).mpr (show (8203) < v0.toInt by omega))]
  rw [show f2_108 v0 = f2_115 v0 from if_neg (fun h => absurd ((own_lt (x := v0) (y := (8206 : Int32))).mp h) (show ¬ v0.toInt < (8206) by omega))]
  rw [show f2_115 v0 = f2_124 v0 from if_pos ((own_lt (x := (8303 : Int32)) (y := v0)).mpr (show (8303) < v0.toInt by omega))]
  rw [show f2_124 v0 = f2_131 v0 from if_neg (fun h => absurd ((own_lt (x := v0) (y := (8592 : Int32))).mp h) (show ¬ v0.toInt < (8592) by omega))]
  rw [show f2_131 v0 = f2_138 v0 from if_neg (fun h => absurd ((own_lt (x := (11263 : Int32)) (y := v0)).mp h) (show ¬ (11263) < v0.toInt by omega))]
  rfl
theorem t2_23 (v0 : Int32) (h1 : (11264) ≤ v0.toInt) (h2 : v0.toInt ≤ 12271) : f2_0 v0 = (0 : Int32) := by
  rw [show f2_0 v0 = f2_6 v0 from if_neg (fun h => absurd ((own_lt (x := v0) (y := (0 : Int32))).mp h) (show ¬ v0.toInt < (0) by omega))]
  rw [show f2_6 v0 = f2_14 v0 from if_pos ((own_lt (x := (64 : Int32)) (y := v0)).mpr (show (64) < v0.toInt by omega))]
  rw [show f2_14 v0 = f2_20 v0 from if_neg (fun h => absurd ((own_lt (x := v0) (y := (91 : Int32))).mp h) (show ¬ v0.toInt < (91) by omega))]
  rw [show f2_20 v0 = f2_28 v0 from if_pos ((own_lt (x := (94 : Int32)) (y := v0)).mpr (show (94) < v0.toInt by omega))]
  rw [show f2_28 v0 = f2_36 v0 from if_neg (fun h => absurd ((own_eq (x := v0) (y := (96 : Int32))).mp h) (show ¬ v0.toInt = (96) by omega))]
  rw [show f2_36 v0 = f2_42 v0 from if_neg (fun h => absurd ((own_lt (x := v0) (y := (123 : Int32))).mp h) (show ¬ v0.toInt < (123) by omega))]
  rw [show f2_42 v0 = f2_51 v0 from if_pos ((own_lt (x := (191 : Int32)) (y := v0)).mpr (show (191) < v0.toInt by omega))]
  rw [show f2_51 v0 = f2_58 v0 from if_neg (fun h => absurd ((own_eq (x := v0) (y := (215 : Int32))).mp h) (show ¬ v0.toInt = (215) by omega))]
  rw [show f2_58 v0 = f2_67 v0 from if_neg (fun h => absurd ((own_eq (x := v0) (y := (247 : Int32))).mp h) (show ¬ v0.toInt = (247) by omega))]
  rw [show f2_67 v0 = f2_74 v0 from if_neg (fun h => absurd ((own_lt (x := v0) (y := (768 : Int32))).mp h) (show ¬ v0.toInt < (768) by omega))]
  rw [show f2_74 v0 = f2_83 v0 from if_pos ((own_lt (x := (879 : Int32)) (y := v0)).mpr (show (879) < v0.toInt by omega))]
  rw [show f2_83 v0 = f2_92 v0 from if_neg (fun h => absurd ((own_eq (x := v0) (y := (894 : Int32))).mp h) (show ¬ v0.toInt = (894) by omega))]
  rw [show f2_92 v0 = f2_99 v0 from if_neg (fun h => absurd ((own_lt (x := v0) (y := (8192 : Int32))).mp h) (show ¬ v0.toInt < (8192) by omega))]
  rw [show f2_99 v0 = f2_108 v0 from if_pos ((own_lt (x := (8203 : Int32)) (y := v0)).mpr (show (8203) < v0.toInt by omega))]
  rw [show f2_108 v0 = f2_115 v0 from if_neg (fun h => absurd ((own_lt (x := v0) (y := (8206 : Int32))).mp h) (show ¬ v0.toInt < (8206) by omega))]
  rw [show f2_115 v0 = f2_124 v0 from if_pos ((own_lt (x := (8303 : Int32)) (y := v0)).mpr (show (8303) < v0.toInt by omega))]
  rw [show f2_124 v0 = f2_131 v0 from if_neg (fun h => absurd ((own_lt (x := v0) (y := (8592 : Int32))).mp h) (show ¬ v0.toInt < (8592) by omega))]
  rw [show f2_131 v0 = f2_140 v0 from if_pos ((own_lt (x := (11263 : Int32)) (y := v0)).mpr (show (11263) < v0.toInt by omega))]
  rw [show f2_140 v0 = f2_156 v0 from if_pos ((own_lt (x := v0) (y := (12272 : Int32))).mpr (show v0.toInt < (12272) by omega))]
  rw [show f2_156 v0 = f2_170 v0 from if_pos ((own_lt (x := v0) (y := (55296 : Int32))).mpr (show v0.toInt < (55296) by omega))]
  rw [show f2_170 v0 = f2_184 v0 from if_pos ((own_lt (x := v0) (y := (64976 : Int32))).mpr (show v0.toInt < (64976) by omega))]
  rw [show f2_184 v0 = f2_190 v0 from if_neg (fun h => absurd ((own_eq (x := v0) (y := (65534 : Int32))).mp h) (show ¬ v0.toInt = (65534) by omega))]
  rw [show f2_190 v0 = f2_198 v0 from if_neg (fun h => absurd ((own_eq (x := v0) (y := (65535 : Int32))).mp h) (show ¬ v0.toInt = (65535) by omega))]
  rw [show f2_198 v0 = f2_206 v0 from if_pos ((own_lt (x := v0) (y := (983040 : Int32))).mpr (show v0.toInt < (983040) by omega))]
  rfl
theorem t2_24 (v0 : Int32) (h1 : (12272) ≤ v0.toInt) (h2 : v0.toInt ≤ 12288) : f2_0 v0 = (1 : Int32) := by
  rw [show f2_0 v0 = f2_6 v0 from if_neg (fun h => absurd ((own_lt (x := v0) (y := (0 : Int32))).mp h) (show ¬ v0.toInt < (0) by omega))]
  rw [show f2_6 v0 = f2_14 v0 from if_pos ((own_lt (x := (64 : Int32)) (y := v0)).mpr (show (64) < v0.toInt by omega))]
  rw [show f2_14 v0 = f2_20 v0 from if_neg (fun h => absurd ((own_lt (x := v0) (y := (91 : Int32))).mp h) (show ¬ v0.toInt < (91) by omega))]
  rw [show f2_20 v0 = f2_28 v0 from if_pos ((own_lt (x := (94 : Int32)) (y := v0)).mpr (show (94) < v0.toInt by omega))]
  rw [show f2_28 v0 = f2_36 v0 from if_neg (fun h => absurd ((own_eq (x := v0) (y := (96 : Int32))).mp h) (show ¬ v0.toInt = (96) by omega))]
  rw [show f2_36 v0 = f2_42 v0 from if_neg (fun h => absurd ((own_lt (x := v0) (y := (123 : Int32))).mp h) (show ¬ v0.toInt < (123) by omega))]
  rw [show f2_42 v0 = f2_51 v0 from if_pos ((own_lt (x := (191 : Int32)) (y := v0)).mpr (show (191) < v0.toInt by omega))]
  rw [show f2_51 v0 = f2_58 v0 from if_neg (fun h => absurd ((own_eq (x := v0) (y := (215 : Int32))).mp h) (show ¬ v0.toInt = (215) by omega))]
  rw [show f2_58 v0 = f2_67 v0 from if_neg (fun h => absurd ((own_eq (x := v0) (y := (247 : Int32))).mp h) (show ¬ v0.toInt = (247) by omega))]
  rw [show f2_67 v0 = f2_74 v0 from if_neg (fun h => absurd ((own_lt (x := v0) (y := (768 : Int32))).mp h) (show ¬ v0.toInt < (768) by omega))]
  rw [show f2_74 v0 = f2_83 v0 from if_pos ((own_lt (x := (879 : Int32)) (y := v0)).mpr (show (879) < v0.toInt by omega))]
  rw [show f2_83 v0 = f2_92 v0 from if_neg (fun h => absurd ((own_eq (x := v0) (y := (894 : Int32))).mp h) (show ¬ v0.toInt = (894) by omega))]
  rw [show f2_92 v0 = f2_99 v0 from if_neg (fun h => absurd ((own_lt (x := v0) (y := (8192 : Int32))).mp h) (show ¬ v0.toInt < (8192) by omega))]
  rw [show f2_99 v0 = f2_108 v0 from if_pos ((own_lt (x := (8203 : Int32)) (y := v0)).mpr (show (8203) < v0.toInt by omega))]
  rw [show f2_108 v0 = f2_115 v0 from if_neg (fun h => absurd ((own_lt (x := v0) (y := (8206 : Int32))).mp h) (show ¬ v0.toInt < (8206) by omega))]
  rw [show f2_115 v0 = f2_124 v0 from if_pos ((own_lt (x := (8303 : Int32)) (y := v0)).mpr (show (8303) < v0.toInt by omega))]
  rw [show f2_124 v0 = f2_131 v0 from if_neg (fun h => absurd ((own_lt (x := v0) (y := (8592 : Int32))).mp h) (show ¬ v0.toInt < (8592) by omega))]
  rw [show f2_131 v0 = f2_140 v0 from if_pos ((own_lt (x := (11263 : Int32)) (y := v0)).mpr (show (11263) < v0.toInt by omega))]
  rw [show f2_140 v0 = f2_147 v0 from if_neg (fun h => absurd ((own_lt (x := v0) (y := (12272 : Int32))).mp h) (show ¬ v0.toInt < (12272) by omega))]
  rw [show f2_147 v0 = f2_154 v0 from if_neg (fun h => absurd ((own_lt (x := (12288 : Int32)) (y := v0)).mp h) (show ¬ (12288) < v0.toInt by omega))]
  rfl
theorem t2_25 (v0 : Int32) (h1 : (12289) ≤ v0.toInt) (h2 : v0.toInt ≤ 55295) : f2_0 v0 = (0 : Int32) := by
  rw [show f2_0 v0 = f2_6 v0 from if_neg (fun h => absurd ((own_lt (x := v0) (y := (0 : Int32))).mp h) (show ¬ v0.toInt < (0) by omega))]
  rw [show f2_6 v0 = f2_14 v0 from if_pos ((own_lt (x := (64 : Int32)) (y := v0)).mpr (show (64) < v0.toInt by omega))]
  rw [show f2_14 v0 = f2_20 v0 from if_neg (fun h => absurd ((own_lt (x := v0) (y := (91 : Int32))).mp h) (show ¬ v0.toInt < (91) by omega))]
  rw [show f2_20 v0 = f2_28 v0 from if_pos ((own_lt (x := (94 : Int32)) (y := v0)).mpr (show (94) < v0.toInt by omega))]
  rw [show f2_28 v0 = f2_36 v0 from if_neg (fun h => absurd ((own_eq (x := v0) (y := (96 : Int32))).mp h) (show ¬ v0.toInt = (96) by omega))]
  rw [show f2_36 v0 = f2_42 v0 from if_neg (fun h => absurd ((own_lt (x := v0) (y := (123 : Int32))).mp h) (show ¬ v0.toInt < (123) by omega))]
  rw [show f2_42 v0 = f2_51 v0 from if_pos ((own_lt (x := (191 : Int32)) (y := v0)).mpr (show (191) < v0.toInt by omega))]
  rw [show f2_51 v0 = f2_58 v0 from if_neg (fun h => absurd ((own_eq (x := v0) (y := (215 : Int32))).mp h) (show ¬ v0.toInt = (215) by omega))]
  rw [show f2_58 v0 = f2_67 v0 from if_neg (fun h => absurd ((own_eq (x := v0) (y := (247 : Int32))).mp h) (show ¬ v0.toInt = (247) by omega))]
  rw [show f2_67 v0 = f2_74 v0 from if_neg (fun h => absurd ((own_lt (x := v0) (y := (768 : Int32))).mp h) (show ¬ v0.toInt < (768) by omega))]
  rw [show f2_74 v0 = f2_83 v0 from if_pos ((own_lt (x := (879 : Int32)) (y := v0)).mpr (show (879) < v0.toInt by omega))]
  rw [show f2_83 v0 = f2_92 v0 from if_neg (fun h => absurd ((own_eq (x := v0) (y := (894 : Int32))).mp h) (show ¬ v0.toInt = (894) by omega))]
  rw [show f2_92 v0 = f2_99 v0 from if_neg (fun h => absurd ((own_lt (x := v0) (y := (8192 : Int32))).mp h) (show ¬ v0.toInt < (8192) by omega))]
  rw [show f2_99 v0 = f2_108 v0 from if_pos ((own_lt (x := (8203 : Int32)) (y := v0)).mpr (show (8203) < v0.toInt by omega))]
  rw [show f2_108 v0 = f2_115 v0 from if_neg (fun h => absurd ((own_lt (x := v0) (y := (8206 : Int32))).mp h) (show ¬ v0.toInt < (8206) by omega))]
  rw [show f2_115 v0 = f2_124 v0 from if_pos ((own_lt (x := (8303 : Int32)) (y := v0)).mpr (show (8303) < v0.toInt by omega))]
  rw [show f2_124 v0 = f2_131 v0 from if_neg (fun h => absurd ((own_lt (x := v0) (y := (8592 : Int32))).mp h) (show ¬ v0.toInt < (8592) by omega))]
  rw [show f2_131 v0 = f2_140 v0 from if_pos ((own_lt (x := (11263 : Int32)) (y := v0)).mpr (show (11263) < v0.toInt by omega))]
  rw [show f2_140 v0 = f2_147 v0 from if_neg (fun h => absurd ((own_lt (x := v0) (y := (12272 : Int32))).mp h) (show ¬ v0.toInt < (12272) by omega))]
  rw [show f2_147 v0 = f2_156 v0 from if_pos ((own_lt (x := (12288 : Int32)) (y := v0)).mpr (show (12288) < v0.toInt by omega))]
  rw [show f2_156 v0 = f2_170 v0 from if_pos ((own_lt (x := v0) (y := (55296 : Int32))).mpr (show v0.toInt < (55296) by omega))]
  rw [show f2_170 v0 = f2_184 v0 from if_pos ((own_lt (x := v0) (y := (64976 : Int32))).mpr (show v0.toInt < (64976) by omega))]
  rw [show f2_184 v0 = f2_190 v0 from if_neg (fun h => absurd ((own_eq (x := v0) (y := (65534 : Int32))).mp h) (show ¬ v0.toInt = (65534) by omega))]
  rw [show f2_190 v0 = f2_198 v0 from if_neg (fun h => absurd ((own_eq (x := v0) (y := (65535 : Int32))).mp h) (show ¬ v0.toInt = (65535) by omega))]
  rw [show f2_198 v0 = f2_206 v0 from if_pos ((own_lt (x := v0) (y := (983040 : Int32))).mpr (show v0.toInt < (983040) by omega))]
  rfl
theorem t2_26 (v0 : Int32) (h1 : (55296) ≤ v0.toInt) (h2 : v0.toInt ≤ 63743) : f2_0 v0 = (1 : Int32) := by
  rw [show f2_0 v0 = f2_6 v0 from if_neg (fun h => absurd ((own_lt (x := v0) (y := (0 : Int32))).mp h) (show ¬ v0.toInt < (0) by omega))]
  rw [show f2_6 v0 = f2_14 v0 from if_pos ((own_lt (x := (64 : Int32)) (y := v0)).mpr (show (64) < v0.toInt by omega))]
  rw [show f2_14 v0 = f2_20 v0 from if_neg (fun h => absurd ((own_lt (x := v0) (y := (91 : Int32))).mp h) (show ¬ v0.toInt < (91) by omega))]
  rw [show f2_20 v0 = f2_28 v0 from if_pos ((own_lt (x := (94 : Int32)) (y := v0)).mpr (show (94) < v0.toInt by omega))]
  rw [show f2_28 v0 = f2_36 v0 from if_neg (fun h => absurd ((own_eq (x := v0) (y := (96 : Int32))).mp h) (show ¬ v0.toInt = (96) by omega))]
  rw [show f2_36 v0 = f2_42 v0 from if_neg (fun h => absurd ((own_lt (x := v0) (y := (123 : Int32))).mp h) (show ¬ v0.toInt < (123) by omega))]
  rw [show f2_42 v0 = f2_51 v0 from if_pos ((own_lt (x := (191 : Int32)) (y := v0)).mpr (show (191) < v0.toInt by omega))]
  rw [show f2_51 v0 = f2_58 v0 from if_neg (fun h => absurd ((own_eq (x := v0) (y := (215 : Int32))).mp h) (show ¬ v0.toInt = (215) by omega))]
  rw [show f2_58 v0 = f2_67 v0 from if_neg (fun h => absurd ((own_eq (x := v0) (y := (247 : Int32))).mp h) (show ¬ v0.toInt = (247) by omega))]
  rw [show f2_67 v0 = f2_74 v0 from if_neg (fun h => absurd ((own_lt (x := v0) (y := (768 : Int32))).mp h) (show ¬ v0.toInt < (768) by omega))]
  rw [show f2_74 v0 = f2_83 v0 from if_pos ((own_lt (x := (879 : Int32)) (y := v0)).mpr (show (879) < v0.toInt by omega))]
  rw [show f2_83 v0 = f2_92 v0 from if_neg (fun h => absurd ((own_eq (x := v0) (y := (894 : Int32))).mp h) (show ¬ v0.toInt = (894) by omega))]
  rw [show f2_92 v0 = f2_99 v0 from if_neg (fun h => absurd ((own_lt (x := v0) (y := (8192 : Int32))).mp h) (show ¬ v0.toInt < (8192) by omega))]
  rw [show f2_99 v0 = f2_108 v0 from if_pos ((own_lt (x := (8203 : Int32)) (y := v0)).mpr (show (8203) < v0.toInt by omega))]
  rw [show f2_108 v0 = f2_115 v0 from if_neg (fun h => absurd ((own_lt (x := v0) (y := (8206 : Int32))).mp h) (show ¬ v0.toInt < (8206) by omega))]
  rw [show f2_115 v0 = f2_124 v0 from if_pos ((own_lt (x := (8303 : Int32)) (y := v0)).mpr (show (8303) < v0.toInt by omega))]
  rw [show f2_124 v0 = f2_131 v0 from if_neg (fun h => absurd ((own_lt (x := v0) (y := (8592 : Int32))).mp h) (show ¬ v0.toInt < (8592) by omega))]
  rw [show f2_131 v0 = f2_140 v0 from if_pos ((own_lt (x := (11263 : Int32)) (y := v0)).mpr (show (11263) < v0.toInt by omega))]
  rw [show f2_140 v0 = f2_147 v0 from if_neg (fun h => absurd ((own_lt (x := v0) (y := (12272 : Int32))).mp h) (show ¬ v0.toInt < (12272) by omega))]
  rw [show f2_147 v0 = f2_156 v0 from if_pos ((own_lt (x := (12288 : Int32)) (y := v0)).mpr (show (12288) < v0.toInt by omega))]
  rw [show f2_156 v0 = f2_162 v0 from if_neg (fun h => absurd ((own_lt (x := v0) (y := (55296 : Int32))).mp h) (show ¬ v0.toInt < (55296) by omega))]
  rw [show f2_162 v0 = f2_168 v0 from if_neg (fun h => absurd ((own_lt (x := (63743 : Int32)) (y := v0)).mp h) (show ¬ (63743) < v0.toInt by omega))]
  rfl
theorem t2_27 (v0 : Int32) (h1 : (63744) ≤ v0.toInt) (h2 : v0.toInt ≤ 64975) : f2_0 v0 = (0 : Int32) := by
  rw [show f2_0 v0 = f2_6 v0 from if_neg (fun h => absurd ((own_lt (x := v0) (y := (0 : Int32))).mp h) (show ¬ v0.toInt < (0) by omega))]
  rw [show f2_6 v0 = f2_14 v0 from if_pos ((own_lt (x := (64 : Int32)) (y := v0)).mpr (show (64) < v0.toInt by omega))]
  rw [show f2_14 v0 = f2_20 v0 from if_neg (fun h => absurd ((own_lt (x := v0) (y := (91 : Int32))).mp h) (show ¬ v0.toInt < (91) by omega))]
  rw [show f2_20 v0 = f2_28 v0 from if_pos ((own_lt (x := (94 : Int32)) (y := v0)).mpr (show (94) < v0.toInt by omega))]
  rw [show f2_28 v0 = f2_36 v0 from if_neg (fun h => absurd ((own_eq (x := v0) (y := (96 : Int32))).mp h) (show ¬ v0.toInt = (96) by omega))]
  rw [show f2_36 v0 = f2_42 v0 from if_neg (fun h => absurd ((own_lt (x := v0) (y := (123 : Int32))).mp h) (show ¬ v0.toInt < (123) by omega))]
  rw [show f2_42 v0 = f2_51 v0 from if_pos ((own_lt (x := (191 : Int32)) (y := v0)).mpr (show (191) < v0.toInt by omega))]
  rw [show f2_51 v0 = f2_58 v0 from if_neg (fun h => absurd ((own_eq (x := v0) (y := (215 : Int32))).mp h) (show ¬ v0.toInt = (215) by omega))]
  rw [show f2_58 v0 = f2_67 v0 from if_neg (fun h => absurd ((own_eq (x := v0) (y := (247 : Int32))).mp h) (show ¬ v0.toInt = (247) by omega))]
  rw [show f2_67 v0 = f2_74 v0 from if_neg (fun h => absurd ((own_lt (x := v0) (y := (768 : Int32))).mp h) (show ¬ v0.toInt < (768) by omega))]
  rw [show f2_74 v0 = f2_83 v0 from if_pos ((own_lt (x := (879 : Int32)) (y := v0)).mpr (show (879) < v0.toInt by omega))]
  rw [show f2_83 v0 = f2_92 v0 from if_neg (fun h => absurd ((own_eq (x := v0) (y := (894 : Int32))).mp h) (show ¬ v0.toInt = (894) by omega))]
  rw [show f2_92 v0 = f2_99 v0 from if_neg (fun h => absurd ((own_lt (x := v0) (y := (8192 : Int32))).mp h) (show ¬ v0.toInt < (8192) by omega))]
  rw [show f2_99 v0 = f2_108 v0 from if_pos ((own_lt (x := (8203 : Int32)) (y := v0)).mpr (show (8203) < v0.toInt by omega))]
  rw [show f2_108 v0 = f2_115 v0 from if_neg (fun h => absurd ((own_lt (x := v0) (y := (8206 : Int32))).mp h) (show ¬ v0.toInt < (8206) by omega))]
  rw [show f2_115 v0 = f2_124 v0 from if_pos ((own_lt (x := (8303 : Int32)) (y := v0)).mpr (show (8303) < v0.toInt by omega))]
  rw [show f2_124 v0 = f2_131 v0 from if_neg (fun h => absurd ((own_lt (x := v0) (y := (8592 : Int32))).mp h) (show ¬ v0.toInt < (8592) by omega))]
  rw [show f2_131 v0 = f2_140 v0 from if_pos ((own_lt (x := (11263 : Int32)) (y := v0)).mpr (show (11263) < v0.toInt by omega))]
  rw [show f2_140 v0 = f2_147 v0 from if_neg (fun h => absurd ((own_lt (x := v0) (y := (12272 : Int32))).mp h) (show ¬ v0.toInt < (12272) by omega))]
  rw [show f2_147 v0 = f2_156 v0 from if_pos ((own_lt (x := (12288 : Int32)) (y := v0)).mpr (show (12288) < v0.toInt by omega))]
  rw [show f2_156 v0 = f2_162 v0 from if_neg (fun h => absurd ((own_lt (x := v0) (y := (55296 : Int32))).mp h) (show ¬ v0.toInt < (55296) by omega))]
  rw [show f2_162 v0 = f2_170 v0 from if_pos ((own_lt (x := (63743 : Int32)) (y := v0)).mpr (show (63743) < v0.toInt by omega))]
  rw [show f2_170 v0 = f2_184 v0 from if_pos ((own_lt (x := v0) (y := (64976 : Int32))).mpr (show v0.toInt < (64976) by omega))]
  rw [show f2_184 v0 = f2_190 v0 from if_neg (fun h => absurd ((own_eq (x := v0) (y := (65534 : Int32))).mp h) (show ¬ v0.toInt = (65534) by omega))]
  rw [show f2_190 v0 = f2_198 v0 from if_neg (fun h => absurd ((own_eq (x := v0) (y := (65535 : Int32))).mp h) (show ¬ v0.toInt = (65535) by omega))]
  rw [show f2_198 v0 = f2_206 v0 from if_pos ((own_lt (x := v0) (y := (983040 : Int32))).mpr (show v0.toInt < (983040) by omega))]
  rfl
theorem t2_28 (v0 : Int32) (h1 : (64976) ≤ v0.toInt) (h2 : v0.toInt ≤ 65007) : f2_0 v0 = (1 : Int32) := by
  rw [show f2_0 v0 = f2_6 v0 from if_neg (fun h => absurd ((own_lt (x := v0) (y := (0 : Int32))).mp h) (show ¬ v0.toInt < (0) by omega))]
  rw [show f2_6 v0 = f2_14 v0 from if_pos ((own_lt (x := (64 : Int32)) (y := v0)).mpr (show (64) < v0.toInt by omega))]
  rw [show f2_14 v0 = f2_20 v0 from if_neg (fun h => absurd ((own_lt (x := v0) (y := (91 : Int32))).mp h) (show ¬ v0.toInt < (91) by omega))]
  rw [show f2_20 v0 = f2_28 v0 from if_pos ((own_lt (x := (94 : Int32)) (y := v0)).mpr (show (94) < v0.toInt by omega))]
  rw [show f2_28 v0 = f2_36 v0 from if_neg (fun h => absurd ((own_eq (x := v0) (y := (96 : Int32))).mp h) (show ¬ v0.toInt = (96) by omega))]
  rw [show f2_36 v0 = f2_42 v0 from if_neg (fun h => absurd ((own_lt (x := v0) (y := (123 : Int32))).mp h) (show ¬ v0.toInt < (123) by omega))]
  rw [show f2_42 v0 = f2_51 v0 from if_pos ((own_lt (x := (191 : Int32)) (y := v0)).mpr (show (191) < v0.toInt by omega))]
  rw [show f2_51 v0 = f2_58 v0 from if_neg (fun h => absurd ((own_eq (x := v0) (y := (215 : Int32))).mp h) (show ¬ v0.toInt = (215) by omega))]
  rw [show f2_58 v0 = f2_67 v0 from if_neg (fun h => absurd ((own_eq (x := v0) (y := (247 : Int32))).mp h) (show ¬ v0.toInt = (247) by omega))]
  rw [show f2_67 v0 = f2_74 v0 from if_neg (fun h => absurd ((own_lt (x := v0) (y := (768 : Int32))).mp h) (show ¬ v0.toInt < (768) by omega))]
  rw [show f2_74 v0 = f2_83 v0 from if_pos ((own_lt (x := (879 : Int32)) (y := v0)).mpr (show (879) < v0.toInt by omega))]
  rw [show f2_83 v0 = f2_92 v0 from if_neg (fun h => absurd ((own_eq (x := v0) (y := (894 : Int32))).mp h) (show ¬ v0.toInt = (894) by omega))]
  rw [show f2_92 v0 = f2_99 v0 from if_neg (fun h => absurd ((own_lt (x := v0) (y := (8192 : Int32))).mp h) (show ¬ v0.toInt < (8192) by omega))]
  rw [show f2_99 v0 = f2_108 v0 from if_pos ((own_lt (x := (8203 : Int32)) (y := v0)).mpr (show (8203) < v0.toInt by omega))]
  rw [show f2_108 v0 = f2_115 v0 from if_neg (fun h => absurd ((own_lt (x := v0) (y := (8206 : Int32))).mp h) (show ¬ v0.toInt < (8206) by omega))]
  rw [show f2_115 v0 = f2_124 v0 from if_pos ((own_lt (x := (8303 : Int32)) (y := v0)).mpr (show (8303) < v0.toInt by omega))]
  rw [show f2_124 v0 = f2_131 v0 from if_neg (fun h => absurd ((own_lt (x := v0) (y := (8592 : Int32))).mp h) (show ¬ v0.toInt < (8592) by omega))]
  rw [show f2_131 v0 = f2_140 v0 from if_pos ((own_lt (x := (11263 : Int32)) (y := v0)).mpr (show (11263) < v0.toInt by omega))]
  rw [show f2_140 v0 = f2_147 v0 from if_neg (fun h => absurd ((own_lt (x := v0) (y := (12272 : Int32))).mp h) (show ¬ v0.toInt < (12272) by omega))]
  rw [show f2_147 v0 = f2_156 v0 from if_pos ((own_lt (x := (12288 : Int32)) (y := v0)).mpr (show (12288) < v0.toInt by omega))]
  rw [show f2_156 v0 = f2_162 v0 from if_neg (fun h => absurd ((own_lt (x := v0) (y := (55296 : Int32))).mp h) (show ¬ v0.toInt < (55296) by omega))]
  rw [show f2_162 v0 = f2_170 v0 from if_pos ((own_lt (x := (63743 : Int32)) (y := v0)).mpr (show (63743) < v0.toInt by omega))]
  rw [show f2_170 v0 = f2_176 v0 from if_neg (fun h => absurd ((own_lt (x := v0) (y := (64976 : Int32))).mp h) (show ¬ v0.toInt < (64976) by omega))]
  rw [show f2_176 v0 = f2_182 v0 from if_neg (fun h => absurd ((own_lt (x := (65007 : Int32)) (y := v0)).mp h) (show ¬ (65007) < v0.toInt by omega))]
  rfl
theorem t2_29 (v0 : Int32) (h1 : (65008) ≤ v0.toInt) (h2 : v0.toInt ≤ 65533) : f2_0 v0 = (0 : Int32) := by
  rw [show f2_0 v0 = f2_6 v0 from if_neg (fun h => absurd ((own_lt (x := v0) (y := (0 : Int32))).mp h) (show ¬ v0.toInt < (0) by omega))]
  rw [show f2_6 v0 = f2_14 v0 from if_pos ((own_lt (x := (64 : Int32)) (y := v0)).mpr (show (64) < v0.toInt by omega))]
  rw [show f2_14 v0 = f2_20 v0 from if_neg (fun h => absurd ((own_lt (x := v0) (y := (91 : Int32))).mp h) (show ¬ v0.toInt < (91) by omega))]
  rw [show f2_20 v0 = f2_28 v0 from if_pos ((own_lt (x := (94 : Int32)) (y := v0)).mpr (show (94) < v0.toInt by omega))]
  rw [show f2_28 v0 = f2_36 v0 from if_neg (fun h => absurd ((own_eq (x := v0) (y := (96 : Int32))).mp h) (show ¬ v0.toInt = (96) by omega))]
  rw [show f2_36 v0 = f2_42 v0 from if_neg (fun h => absurd ((own_lt (x := v0) (y := (123 : Int32))).mp h) (show ¬ v0.toInt < (123) by omega))]
  rw [show f2_42 v0 = f2_51 v0 from if_pos ((own_lt (x := (191 : Int32)) (y := v0)).mpr (show (191) < v0.toInt by omega))]
  rw [show f2_51 v0 = f2_58 v0 from if_neg (fun h => absurd ((own_eq (x := v0) (y := (215 : Int32))).mp h) (show ¬ v0.toInt = (215) by omega))]
  rw [show f2_58 v0 = f2_67 v0 from if_neg (fun h => absurd ((own_eq (x := v0) (y := (247 : Int32))).mp h) (show ¬ v0.toInt = (247) by omega))]
  rw [show f2_67 v0 = f2_74 v0 from if_neg (fun h => absurd ((own_lt (x := v0) (y := (768 : Int32))).mp h) (show ¬ v0.toInt < (768) by omega))]
  rw [show f2_74 v0 = f2_83 v0 from if_pos ((own_lt (x := (879 : Int32)) (y := v0)).mpr (show (879) < v0.toInt by omega))]
  rw [show f2_83 v0 = f2_92 v0 from if_neg (fun h => absurd ((own_eq (x := v0) (y := (894 : Int32))).mp h) (show ¬ v0.toInt = (894) by omega))]
  rw [show f2_92 v0 = f2_99 v0 from if_neg (fun h => absurd ((own_lt (x := v0) (y := (8192 : Int32))).mp h) (show ¬ v0.toInt < (8192) by omega))]
  rw [show f2_99 v0 = f2_108 v0 from if_pos ((own_lt (x := (8203 : Int32)) (y := v0)).mpr (show (8203) < v0.toInt by omega))]
  rw [show f2_108 v0 = f2_115 v0 from if_neg (fun h => absurd ((own_lt (x := v0) (y := (8206 : Int32))).mp h) (show ¬ v0.toInt < (8206) by omega))]
  rw [show f2_115 v0 = f2_124 v0 from if_pos ((own_lt (x := (8303 : Int32)) (y := v0)).mpr (show (8303) < v0.toInt by omega))]
  rw [show f2_124 v0 = f2_131 v0 from if_neg (fun h => absurd ((own_lt (x := v0) (y := (8592 : Int32))).mp h) (show ¬ v0.toInt < (8592) by omega))]
  rw [show f2_131 v0 = f2_140 v0 from if_pos ((own_lt (x := (11263 : Int32)) (y := v0)).mpr (show (11263) < v0.toInt by omega))]
  rw [show f2_140 v0 = f2_147 v0 from if_neg (fun h => absurd ((own_lt (x := v0) (y := (12272 : Int32))).mp h) (show ¬ v0.toInt < (12272) by omega))]
  rw [show f2_147 v0 = f2_156 v0 from if_pos ((own_lt (x := (12288 : Int32)) (y := v0)).mpr (show (12288) < v0.toInt by omega))]
  rw [show f2_156 v0 = f2_162 v0 from if_neg (fun h => absurd ((own_lt (x := v0) (y := (55296 : Int32))).mp h) (show ¬ v0.toInt < (55296) by omega))]
  rw [show f2_162 v0 = f2_170 v0 from if_pos ((own_lt (x := (63743 : Int32)) (y := v0)).mpr (show (63743) < v0.toInt by omega))]
  rw [show f2_170 v0 = f2_176 v0 from if_neg (fun h => absurd ((own_lt (x := v0) (y := (64976 : Int32))).mp h) (show ¬ v0.toInt < (64976) by omega))]
  rw [show f2_176 v0 = f2_184 v0 from if_pos ((own_lt (x := (65007 : Int32)) (y := v0)).mpr (show (65007) < v0.toInt by omega))]
  rw [show f2_184 v0 = f2_190 v0 from if_neg (fun h => absurd ((own_eq (x := v0) (y := (65534 : Int32))).mp h) (show ¬ v0.toInt = (65534) by omega))]
  rw [show f2_190 v0 = f2_198 v0 from if_neg (fun h => absurd ((own_eq (x := v0) (y := (65535 : Int32))).mp h) (show ¬ v0.toInt = (65535) by omega))]
  rw [show f2_198 v0 = f2_206 v0 from if_pos ((own_lt (x := v0) (y := (983040 : Int32))).mpr (show v0.toInt < (983040) by omega))]
  rfl
theorem t2_30 (v0 : Int32) (h1 : (65534) ≤ v0.toInt) (h2 : v0.toInt ≤ 65534) : f2_0 v0 = (1 : Int32) := by
  rw [show f2_0 v0 = f2_6 v0 from if_neg (fun h => absurd ((own_lt (x := v0) (y := (0 : Int32))).mp h) (show ¬ v0.toInt < (0) by omega))]
  rw [show f2_6 v0 = f2_14 v0 from if_pos ((own_lt (x := (64 : Int32)) (y := v0)).mpr (show (64) < v0.toInt by omega))]
  rw [show f2_14 v0 = f2_20 v0 from if_neg (fun h => absurd ((own_lt (x := v0) (y := (91 : Int32))).mp h) (show ¬ v0.toInt < (91) by omega))]
  rw [show f2_20 v0 = f2_28 v0 from if_pos ((own_lt (x := (94 : Int32)) (y := v0)).mpr (show (94) < v0.toInt by omega))]
  rw [show f2_28 v0 = f2_36 v0 from if_neg (fun h => absurd ((own_eq (x := v0) (y := (96 : Int32))).mp h) (show ¬ v0.toInt = (96) by omega))]
  rw [show f2_36 v0 = f2_42 v0 from if_neg (fun h => absurd ((own_lt (x := v0) (y := (123 : Int32))).mp h) (show ¬ v0.toInt < (123) by omega))]
  rw [show f2_42 v0 = f2_51 v0 from if_pos ((own_lt (x := (191 : Int32)) (y := v0)).mpr (show (191) < v0.toInt by omega))]
  rw [show f2_51 v0 = f2_58 v0 from if_neg (fun h => absurd ((own_eq (x := v0) (y := (215 : Int32))).mp h) (show ¬ v0.toInt = (215) by omega))]
  rw [show f2_58 v0 = f2_67 v0 from if_neg (fun h => absurd ((own_eq (x := v0) (y := (247 : Int32))).mp h) (show ¬ v0.toInt = (247) by omega))]
  rw [show f2_67 v0 = f2_74 v0 from if_neg (fun h => absurd ((own_lt (x := v0) (y := (768 : Int32))).mp h) (show ¬ v0.toInt < (768) by omega))]
  rw [show f2_74 v0 = f2_83 v0 from if_pos ((own_lt (x := (879 : Int32)) (y := v0)).mpr (show (879) < v0.toInt by omega))]
  rw [show f2_83 v0 = f2_92 v0 from if_neg (fun h => absurd ((own_eq (x := v0) (y := (894 : Int32))).mp h) (show ¬ v0.toInt = (894) by omega))]
  rw [show f2_92 v0 = f2_99 v0 from if_neg (fun h => absurd ((own_lt (x := v0) (y := (8192 : Int32))).mp h) (show ¬ v0.toInt < (8192) by omega))]
  rw [show f2_99 v0 = f2_108 v0 from if_pos ((own_lt (x := (8203 : Int32)) (y := v0)).mpr (show (8203) < v0.toInt by omega))]
  rw [show f2_108 v0 = f2_115 v0 from if_neg (fun h => absurd ((own_lt (x := v0) (y := (8206 : Int32))).mp h) (show ¬ v0.toInt < (8206) by omega))]
  rw [show f2_115 v0 = f2_124 v0 from if_pos ((own_lt (x := (8303 : Int32)) (y := v0)).mpr (show (8303) < v0.toInt by omega))]
  rw [show f2_124 v0 = f2_131 v0 from if_neg (fun h => absurd ((own_lt (x := v0) (y := (8592 : Int32))).mp h) (show ¬ v0.toInt < (8592) by omega))]
  rw [show f2_131 v0 = f2_140 v0 from if_pos ((own_lt (x := (11263 : Int32)) (y := v0)).mpr (show (11263) < v0.toInt by omega))]
  rw [show f2_140 v0 = f2_147 v0 from if_neg (fun h => absurd ((own_lt (x := v0) (y := (12272 : Int32))).mp h) (show ¬ v0.toInt < (12272) by omega))]
  rw [show f2_147 v0 = f2_156 v0 from if_pos ((own_lt (x := (12288 : Int32)) (y := v0)).mpr (show (12288) < v0.toInt by omega))]
  rw [show f2_156 v0 = f2_162 v0 from if_neg (fun h => absurd ((own_lt (x := v0) (y := (55296 : Int32))).mp h) (show ¬ v0.toInt < (55296) by omega))]
  rw [show f2_162 v0 = f2_170 v0 from if_pos ((own_lt (x := (63743 : Int32)) (y := v0)).mpr (show (63743) < v0.toInt by omega))]
  rw [show f2_170 v0 = f2_176 v0 from if_neg (fun h => absurd ((own_lt (x := v0) (y := (64976 : Int32))).mp h) (show ¬ v0.toInt < (64976) by omega))]
  rw [show f2_176 v0 = f2_184 v0 from if_pos ((own_lt (x := (65007 : Int32)) (y := v0)).mpr (show (65007) < v0.toInt by omega))]
  rw [show f2_184 v0 = f2_196 v0 from if_pos ((own_eq (x := v0) (y := (65534 : Int32))).mpr (show v0.toInt = (65534) by omega))]
  rfl
theorem t2_31 (v0 : Int32) (h1 : (65535) ≤ v0.toInt) (h2 : v0.toInt ≤ 65535) : f2_0 v0 = (1 : Int32) := by
  rw [show f2_0 v0 = f2_6 v0 from if_neg (fun h => absurd ((own_lt (x := v0) (y := (0 : Int32))).mp h) (show ¬ v0.toInt < (0) by omega))]
  rw [show f2_6 v0 = f2_14 v0 from if_pos ((own_lt (x := (64 : Int32)) (y := v0)).mpr (show (64) < v0.toInt by omega))]
  rw [show f2_14 v0 = f2_20 v0 from if_neg (fun h => absurd ((own_lt (x := v0) (y := (91 : Int32))).mp h) (show ¬ v0.toInt < (91) by omega))]
  rw [show f2_20 v0 = f2_28 v0 from if_pos ((own_lt (x := (94 : Int32)) (y := v0)).mpr (show (94) < v0.toInt by omega))]
  rw [show f2_28 v0 = f2_36 v0 from if_neg (fun h => absurd ((own_eq (x := v0) (y := (96 : Int32))).mp h) (show ¬ v0.toInt = (96) by omega))]
  rw [show f2_36 v0 = f2_42 v0 from if_neg (fun h => absurd ((own_lt (x := v0) (y := (123 : Int32))).mp h) (show ¬ v0.toInt < (123) by omega))]
  rw [show f2_42 v0 = f2_51 v0 from if_pos ((own_lt (x := (191 : Int32)) (y := v0)).mpr (show (191) < v0.toInt by omega))]
  rw [show f2_51 v0 = f2_58 v0 from if_neg (fun h => absurd ((own_eq (x := v0) (y := (215 : Int32))).mp h) (show ¬ v0.toInt = (215) by omega))]
  rw [show f2_58 v0 = f2_67 v0 from if_neg (fun h => absurd ((own_eq (x := v0) (y := (247 : Int32))).mp h) (show ¬ v0.toInt = (247) by omega))]
  rw [show f2_67 v0 = f2_74 v0 from if_neg (fun h => absurd ((own_lt (x := v0) (y := (768 : Int32))).mp h) (show ¬ v0.toInt < (768) by omega))]
  rw [show f2_74 v0 = f2_83 v0 from if_pos ((own_lt (x := (879 : Int32)) (y := v0)).mpr (show (879) < v0.toInt by omega))]
  rw [show f2_83 v0 = f2_92 v0 from if_neg (fun h => absurd ((own_eq (x := v0) (y := (894 : Int32))).mp h) (show ¬ v0.toInt = (894) by omega))]
  rw [show f2_92 v0 = f2_99 v0 from if_neg (fun h => absurd ((own_lt (x := v0) (y := (8192 : Int32))).mp h) (show ¬ v0.toInt < (8192) by omega))]
  rw [show f2_99 v0 = f2_108 v0 from if_pos ((own_lt (x := (8203 : Int32)) (y := v0)).mpr (show (8203) < v0.toInt by omega))]
  rw [show f2_108 v0 = f2_115 v0 from if_neg (fun h => absurd ((own_lt (x := v0) (y := (8206 : Int32))).mp h) (show ¬ v0.toInt < (8206) by omega))]
  rw [show f2_115 v0 = f2_124 v0 from if_pos ((own_lt (x := (8303 : Int32)) (y := v0)).mpr (show (8303) < v0.toInt by omega))]
  rw [show f2_124 v0 = f2_131 v0 from if_neg (fun h => absurd ((own_lt (x := v0) (y := (8592 : Int32))).mp h) (show ¬ v0.toInt < (8592) by omega))]
  rw [show f2_131 v0 = f2_140 v0 from if_pos ((own_lt (x := (11263 : Int32)) (y := v0)).mpr (show (11263) < v0.toInt by omega))]
  rw [show f2_140 v0 = f2_147 v0 from if_neg (fun h => absurd ((own_lt (x := v0) (y := (12272 : Int32))).mp h) (show ¬ v0.toInt < (12272) by omega))]
  rw [show f2_147 v0 = f2_156 v0 from if_pos ((own_lt (x := (12288 : Int32)) (y := v0)).mpr (show (12288) < v0.toInt by omega))]
  rw [show f2_156 v0 = f2_162 v0 from if_neg (fun h => absurd ((own_lt (x := v0) (y := (55296 : Int32))).mp h) (show ¬ v0.toInt < (55296) by omega))]
  rw [show f2_162 v0 = f2_170 v0 from if_pos ((own_lt (x := (63743 : Int32)) (y := v0)).mpr (show (63743) < v0.toInt by omega))]
  rw [show f2_170 v0 = f2_176 v0 from if_neg (fun h => absurd ((own_lt (x := v0) (y := (64976 : Int32))).mp h) (show ¬ v0.toInt < (64976) by omega))]
  rw [show f2_176 v0 = f2_184 v0 from if_pos ((own_lt (x := (65007 : Int32)) (y := v0)).mpr (show (65007) < v0.toInt by omega))]
  rw [show f2_184 v0 = f2_190 v0 from if_neg (fun h => absurd ((own_eq (x := v0) (y := (65534 : Int32))).mp h) (show ¬ v0.toInt = (65534) by omega))]
  rw [show f2_190 v0 = f2_196 v0 from if_pos ((own_eq (x := v0) (y := (65535 : Int32))).mpr (show v0.toInt = (65535) by omega))]
  rfl
theorem t2_32 (v0 : Int32) (h1 : (65536) ≤ v0.toInt) (h2 : v0.toInt ≤ 983039) : f2_0 v0 = (0 : Int32) := by
  rw [show f2_0 v0 = f2_6 v0 from if_neg (fun h => absurd ((own_lt (x := v0) (y := (0 : Int32))).mp h) (show ¬ v0.toInt < (0) by omega))]
  rw [show f2_6 v0 = f2_14 v0 from if_pos ((own_lt (x := (64 : Int32)) (y := v0)).mpr (show (64) < v0.toInt by omega))]
  rw [show f2_14 v0 = f2_20 v0 from if_neg (fun h => absurd ((own_lt (x := v0) (y := (91 : Int32))).mp h) (show ¬ v0.toInt < (91) by omega))]
  rw [show f2_20 v0 = f2_28 v0 from if_pos ((own_lt (x := (94 : Int32)) (y := v0)).mpr (show (94) < v0.toInt by omega))]
  rw [show f2_28 v0 = f2_36 v0 from if_neg (fun h => absurd ((own_eq (x := v0) (y := (96 : Int32))).mp h) (show ¬ v0.toInt = (96) by omega))]
  rw [show f2_36 v0 = f2_42 v0 from if_neg (fun h => absurd ((own_lt (x := v0) (y := (123 : Int32))).mp h) (show ¬ v0.toInt < (123) by omega))]
  rw [show f2_42 v0 = f2_51 v0 from if_pos ((own_lt (x := (191 : Int32)) (y := v0)).mpr (show (191) < v0.toInt by omega))]
  rw [show f2_51 v0 = f2_58 v0 from if_neg (fun h => absurd ((own_eq (x := v0) (y := (215 : Int32))).mp h) (show ¬ v0.toInt = (215) by omega))]
  rw [show f2_58 v0 = f2_67 v0 from if_neg (fun h => absurd ((own_eq (x := v0) (y := (247 : Int32))).mp h) (show ¬ v0.toInt = (247) by omega))]
  rw [show f2_67 v0 = f2_74 v0 from if_neg (fun h => absurd ((own_lt (x := v0) (y := (768 : Int32))).mp h) (show ¬ v0.toInt < (768) by omega))]
  rw [show f2_74 v0 = f2_83 v0 from if_pos ((own_lt (x := (879 : Int32)) (y := v0)).mpr (show (879) < v0.toInt by omega))]
  rw [show f2_83 v0 = f2_92 v0 from if_neg (fun h => absurd ((own_eq (x := v0) (y := (894 : Int32))).mp h) (show ¬ v0.toInt = (894) by omega))]
  rw [show f2_92 v0 = f2_99 v0 from if_neg (fun h => absurd ((own_lt (x := v0) (y := (8192 : Int32))).mp h) (show ¬ v0.toInt < (8192) by omega))]
  rw [show f2_99 v0 = f2_108 v0 from if_pos ((own_lt (x := (8203 : Int32)) (y := v0)).mpr (show (8203) < v0.toInt by omega))]
  rw [show f2_108 v0 = f2_115 v0 from if_neg (fun h => absurd ((own_lt (x := v0) (y := (8206 : Int32))).mp h) (show ¬ v0.toInt < (8206) by omega))]
  rw [show f2_115 v0 = f2_124 v0 from if_pos ((own_lt (x := (8303 : Int32)) (y := v0)).mpr (show (8303) < v0.toInt by omega))]
  rw [show f2_124 v0 = f2_131 v0 from if_neg (fun h => absurd ((own_lt (x := v0) (y := (8592 : Int32))).mp h) (show ¬ v0.toInt < (8592) by omega))]
  rw [show f2_131 v0 = f2_140 v0 from if_pos ((own_lt (x := (11263 : Int32)) (y := v0)).mpr (show (11263) < v0.toInt by omega))]
  rw [show f2_140 v0 = f2_147 v0 from if_neg (fun h => absurd ((own_lt (x := v0) (y := (12272 : Int32))).mp h) (show ¬ v0.toInt < (12272) by omega))]
  rw [show f2_147 v0 = f2_156 v0 from if_pos ((own_lt (x := (12288 : Int32)) (y := v0)).mpr (show (12288) < v0.toInt by omega))]
  rw [show f2_156 v0 = f2_162 v0 from if_neg (fun h => absurd ((own_lt (x := v0) (y := (55296 : Int32))).mp h) (show ¬ v0.toInt < (55296) by omega))]
  rw [show f2_162 v0 = f2_170 v0 from if_pos ((own_lt (x := (63743 : Int32)) (y := v0)).mpr (show (63743) < v0.toInt by omega))]
  rw [show f2_170 v0 = f2_176 v0 from if_neg (fun h => absurd ((own_lt (x := v0) (y := (64976 : Int32))).mp h) (show ¬ v0.toInt < (64976) by omega))]
  rw [show f2_176 v0 = f2_184 v0 from if_pos ((own_lt (x := (65007 : Int32)) (y := v0)).mpr (show (65007) < v0.toInt by omega))]
  rw [show f2_184 v0 = f2_190 v0 from if_neg (fun h => absurd ((own_eq (x := v0) (y := (65534 : Int32))).mp h) (show ¬ v0.toInt = (65534) by omega))]
  rw [show f2_190 v0 = f2_198 v0 from if_neg (fun h => absurd ((own_eq (x := v0) (y := (65535 : Int32))).mp h) (show ¬ v0.toInt = (65535) by omega))]
  rw [show f2_198 v0 = f2_206 v0 from if_pos ((own_lt (x := v0) (y := (983040 : Int32))).mpr (show v0.toInt < (983040) by omega))]
  rfl
theorem t2_33 (v0 : Int32) (h1 : (983040) ≤ v0.toInt) (h2 : v0.toInt ≤ 2147483647) : f2_0 v0 = (1 : Int32) := by
  rw [show f2_0 v0 = f2_6 v0 from if_neg (fun h => absurd ((own_lt (x := v0) (y := (0 : Int32))).mp h) (show ¬ v0.toInt < (0) by omega))]
  rw [show f2_6 v0 = f2_14 v0 from if_pos ((own_lt (x := (64 : Int32)) (y := v0)).mpr (show (64) < v0.toInt by omega))]
  rw [show f2_14 v0 = f2_20 v0 from if_neg (fun h => absurd ((own_lt (x := v0) (y := (91 : Int32))).mp h) (show ¬ v0.toInt < (91) by omega))]
  rw [show f2_20 v0 = f2_28 v0 from if_pos ((own_lt (x := (94 : Int32)) (y := v0)).mpr (show (94) < v0.toInt by omega))]
  rw [show f2_28 v0 = f2_36 v0 from if_neg (fun h => absurd ((own_eq (x := v0) (y := (96 : Int32))).mp h) (show ¬ v0.toInt = (96) by omega))]
  rw [show f2_36 v0 = f2_42 v0 from if_neg (fun h => absurd ((own_lt (x := v0) (y := (123 : Int32))).mp h) (show ¬ v0.toInt < (123) by omega))]
  rw [show f2_42 v0 = f2_51 v0 from if_pos ((own_lt (x := (191 : Int32)) (y := v0)).mpr (show (191) < v0.toInt by omega))]
  rw [show f2_51 v0 = f2_58 v0 from if_neg (fun h => absurd ((own_eq (x := v0) (y := (215 : Int32))).mp h) (show ¬ v0.toInt = (215) by omega))]
  rw [show f2_58 v0 = f2_67 v0 from if_neg (fun h => absurd ((own_eq (x := v0) (y := (247 : Int32))).mp h) (show ¬ v0.toInt = (247) by omega))]
  rw [show f2_67 v0 = f2_74 v0 from if_neg (fun h => absurd ((own_lt (x := v0) (y := (768 : Int32))).mp h) (show ¬ v0.toInt < (768) by omega))]
  rw [show f2_74 v0 = f2_83 v0 from if_pos ((own_lt (x := (879 : Int32)) (y := v0)).mpr (show (879) < v0.toInt by omega))]
  rw [show f2_83 v0 = f2_92 v0 from if_neg (fun h => absurd ((own_eq (x := v0) (y := (894 : Int32))).mp h) (show ¬ v0.toInt = (894) by omega))]
  rw [show f2_92 v0 = f2_99 v0 from if_neg (fun h => absurd ((own_lt (x := v0) (y := (8192 : Int32))).mp h) (show ¬ v0.toInt < (8192) by omega))]
  rw [show f2_99 v0 = f2_108 v0 from if_pos ((own_lt (x := (8203 : Int32)) (y := v0)).mpr (show (8203) < v0.toInt by omega))]
  rw [show f2_108 v0 = f2_115 v0 from if_neg (fun h => absurd ((own_lt (x := v0) (y := (8206 : Int32))).mp h) (show ¬ v0.toInt < (8206) by omega))]
  rw [show f2_115 v0 = f2_124 v0 from if_pos ((own_lt (x := (8303 : Int32)) (y := v0)).mpr (show (8303) < v0.toInt by omega))]
  rw [show f2_124 v0 = f2_131 v0 from if_neg (fun h => absurd ((own_lt (x := v0) (y := (8592 : Int32))).mp h) (show ¬ v0.toInt < (8592) by omega))]
  rw [show f2_131 v0 = f2_140 v0 from if_pos ((own_lt (x := (11263 : Int32)) (y := v0)).mpr (show (11263) < v0.toInt by omega))]
  rw [show f2_140 v0 = f2_147 v0 from if_neg (fun h => absurd ((own_lt (x := v0) (y := (12272 : Int32))).mp h) (show ¬ v0.toInt < (12272) by omega))]
  rw [show f2_147 v0 = f2_156 v0 from if_pos ((own_lt (x := (12288 : Int32)) (y := v0)).mpr (show (12288) < v0.toInt by omega))]
  rw [show f2_156 v0 = f2_162 v0 from if_neg (fun h => absurd ((own_lt (x := v0) (y := (55296 : Int32))).mp h) (show ¬ v0.toInt < (55296) by omega))]
  rw [show f2_162 v0 = f2_170 v0 from if_pos ((own_lt (x := (63743 : Int32)) (y := v0)).mpr (show (63743) < v0.toInt by omega))]
  rw [show f2_170 v0 = f2_176 v0 from if_neg (fun h => absurd ((own_lt (x := v0) (y := (64976 : Int32))).mp h) (show ¬ v0.toInt < (64976) by omega))]
  rw [show f2_176 v0 = f2_184 v0 from if_pos ((own_lt (x := (65007 : Int32)) (y := v0)).mpr (show (65007) < v0.toInt by omega))]
  rw [show f2_184 v0 = f2_190 v0 from if_neg (fun h => absurd ((own_eq (x := v0) (y := (65534 : Int32))).mp h) (show ¬ v0.toInt = (65534) by omega))]
  rw [show f2_190 v0 = f2_198 v0 from if_neg (fun h => absurd ((own_eq (x := v0) (y := (65535 : Int32))).mp h) (show ¬ v0.toInt = (65535) by omega))]
  rw [show f2_198 v0 = f2_204 v0 from if_neg (fun h => absurd ((own_lt (x := v0) (y := (983040 : Int32))).mp h) (show ¬ v0.toInt < (983040) by omega))]
  rfl
theorem own_law (v0 : Int32) : (f1_0 v0 = 1 ∧ f2_0 v0 = 0) ∨ (f1_0 v0 = 0 ∧ f2_0 v0 = 1) := by
  have hlo := v0.le_toInt
  have hhi := v0.toInt_lt
  by_cases c0 : v0.toInt ≤ -1
  · exact Or.inr ⟨t1_0 v0 (by omega) c0, t2_0 v0 (by omega) c0⟩
  by_cases c1 : v0.toInt ≤ 64
  · exact Or.inr ⟨t1_1 v0 (by omega) c1, t2_1 v0 (by omega) c1⟩
  by_cases c2 : v0.toInt ≤ 90
  · exact Or.inl ⟨t1_2 v0 (by omega) c2, t2_2 v0 (by omega) c2⟩
  by_cases c3 : v0.toInt ≤ 94
  · exact Or.inr ⟨t1_3 v0 (by omega) c3, t2_3 v0 (by omega) c3⟩
  by_cases c4 : v0.toInt ≤ 95
  · exact Or.inl ⟨t1_4 v0 (by omega) c4, t2_4 v0 (by omega) c4⟩
  by_cases c5 : v0.toInt ≤ 96
  · exact Or.inr ⟨t1_5 v0 (by omega) c5, t2_5 v0 (by omega) c5⟩
  by_cases c6 : v0.toInt ≤ 122
  · exact Or.inl ⟨t1_6 v0 (by omega) c6, t2_6 v0 (by omega) c6⟩
  by_cases c7 : v0.toInt ≤ 127
  · exact Or.inr ⟨t1_7 v0 (by omega) c7, t2_7 v0 (by omega) c7⟩
  by_cases c8 : v0.toInt ≤ 191
  · exact Or.inr ⟨t1_8 v0 (by omega) c8, t2_8 v0 (by omega) c8⟩
  by_cases c9 : v0.toInt ≤ 214
  · exact Or.inl ⟨t1_9 v0 (by omega) c9, t2_9 v0 (by omega) c9⟩
  by_cases c10 : v0.toInt ≤ 215
  · exact Or.inr ⟨t1_10 v0 (by omega) c10, t2_10 v0 (by omega) c10⟩
  by_cases c11 : v0.toInt ≤ 246
  · exact Or.inl ⟨t1_11 v0 (by omega) c11, t2_11 v0 (by omega) c11⟩
  by_cases c12 : v0.toInt ≤ 247
  · exact Or.inr ⟨t1_12 v0 (by omega) c12, t2_12 v0 (by omega) c12⟩
  by_cases c13 : v0.toInt ≤ 767
  · exact Or.inl ⟨t1_13 v0 (by omega) c13, t2_13 v0 (by omega) c13⟩
  by_cases c14 : v0.toInt ≤ 879
  · exact Or.inr ⟨t1_14 v0 (by omega) c14, t2_14 v0 (by omega) c14⟩
  by_cases c15 : v0.toInt ≤ 893
  · exact Or.inl ⟨t1_15 v0 (by omega) c15, t2_15 v0 (by omega) c15⟩
  by_cases c16 : v0.toInt ≤ 894
  · exact Or.inr ⟨t1_16 v0 (by omega) c16, t2_16 v0 (by omega) c16⟩
  by_cases c17 : v0.toInt ≤ 8191
  · exact Or.inl ⟨t1_17 v0 (by omega) c17, t2_17 v0 (by omega) c17⟩
  by_cases c18 : v0.toInt ≤ 8203
  · exact Or.inr ⟨t1_18 v0 (by omega) c18, t2_18 v0 (by omega) c18⟩
  by_cases c19 : v0.toInt ≤ 8205
  · exact Or.inl ⟨t1_19 v0 (by omega) c19, t2_19 v0 (by omega) c19⟩
  by_cases c20 : v0.toInt ≤ 8303
  · exact Or.inr ⟨t1_20 v0 (by omega) c20, t2_20 v0 (by omega) c20⟩
  by_cases c21 : v0.toInt ≤ 8591
  · exact Or.inl ⟨t1_21 v0 (by omega) c21, t2_21 v0 (by omega) c21⟩
  by_cases c22 : v0.toInt ≤ 11263
  · exact Or.inr ⟨t1_22 v0 (by omega) c22, t2_22 v0 (by omega) c22⟩
  by_cases c23 : v0.toInt ≤ 12271
  · exact Or.inl ⟨t1_23 v0 (by omega) c23, t2_23 v0 (by omega) c23⟩
  by_cases c24 : v0.toInt ≤ 12288
  · exact Or.inr ⟨t1_24 v0 (by omega) c24, t2_24 v0 (by omega) c24⟩
  by_cases c25 : v0.toInt ≤ 55295
  · exact Or.inl ⟨t1_25 v0 (by omega) c25, t2_25 v0 (by omega) c25⟩
  by_cases c26 : v0.toInt ≤ 63743
  · exact Or.inr ⟨t1_26 v0 (by omega) c26, t2_26 v0 (by omega) c26⟩
  by_cases c27 : v0.toInt ≤ 64975
  · exact Or.inl ⟨t1_27 v0 (by omega) c27, t2_27 v0 (by omega) c27⟩
  by_cases c28 : v0.toInt ≤ 65007
  · exact Or.inr ⟨t1_28 v0 (by omega) c28, t2_28 v0 (by omega) c28⟩
  by_cases c29 : v0.toInt ≤ 65533
  · exact Or.inl ⟨t1_29 v0 (by omega) c29, t2_29 v0 (by omega) c29⟩
  by_cases c30 : v0.toInt ≤ 65534
  · exact Or.inr ⟨t1_30 v0 (by omega) c30, t2_30 v0 (by omega) c30⟩
  by_cases c31 : v0.toInt ≤ 65535
  · exact Or.inr ⟨t1_31 v0 (by omega) c31, t2_31 v0 (by omega) c31⟩
  by_cases c32 : v0.toInt ≤ 983039
  · exact Or.inl ⟨t1_32 v0 (by omega) c32, t2_32 v0 (by omega) c32⟩
  exact Or.inr ⟨t1_33 v0 (by omega) (by omega), t2_33 v0 (by omega) (by omega)⟩
theorem pn_0 : plainName "com/example/homespun_functions/homespunfunctions/xml/XmlNamesIsNCNameStartCharPinLaw" = true := by first | (simp [plainName, overriddenIn]; done) | decide +kernel
theorem ef_0 (m : MethodId) (x0 : Int32) (x1 : Int32) : entryFrame m #[(.int x0), (.int x1)] maxLocals = (mkF m 0 #[.val (.int x0), .val (.int x1), .unset, .unset, .unset] []) := by first | (simp [entryFrame, mkF, argsToLocals, Value.category, maxLocals]; done) | rfl
def Q0 (n0 : Nat) (v : Option Value) (L : List Loc) : Prop := v = some (.int (1 : Int32)) ∧ Fr n0 L
set_option maxRecDepth 65536 in
set_option maxHeartbeats 40000000 in
theorem rm0 (l : Launch) (Z : State) (a0 : Array Value) (hw : ∀ d ∈ tables_1, d.before a0 Z = true) (ws : List Jvm.Cond) (v0 : Int32) (v1 : Int32) (h0 : Heap) (n0 : Nat) (Z0 : n0 ≤ h0.size) :
    MetFree l x (head1 (Jvm.Cond.code x code maxLocals ret :: ws) room_1) (fun a U => a = #[(.int v0), (.int v1)] ∧ Z.Warmed39 U.vm ∧ U.heap = h0) (fun _ _ _ _ _ => True) (fun _ U o U' => ∃ v L, o = .returned v ∧ Q0 n0 v L ∧ FrameEnd U o U' L room_1.cells room_1.slots) := by
  refine MetFree.of_bodySF (plainFor_of_name pn_0) hisR ?_
  intro p e s m args below meth c s₁ Bd hml0 hP hK
  obtain ⟨rfl, hZ, hh⟩ := hP
  have hx := Bd.exec
  have hby := Bd.bytes
  have hml : c.maxLocals = 5 := hml0
  have hown : s.vm.findClass "com/example/homespun_functions/homespunfunctions/xml/XmlNamesIsNCNameStartCharPinLaw" = some m.cls := findClass_of_methodNamed Bd.named
  have X0 : Stand p l e room_1 s m #[(.int v0), (.int v1)] below meth c s₁ [] 0 0 := Stand.of_body Bd
  have e0 : s₁.heap = h0 := by rw [← hh, Bd.state]; rfl
  have N0 := Fr.nil n0
  have pre0 : ∀ t, Steps p.tables e below (s₁.setTop (mkF m 0 #[.val (.int v0), .val (.int v1), .unset, .unset, .unset] [])) t → Steps p.tables e below (s₁.setTop (entryFrame m #[(.int v0), (.int v1)] maxLocals)) t := fun t k => castTop (ef_0 m v0 v1) k
  obtain ⟨cc, sg1⟩ : ∃ cc : Int32, ∀ t, Steps p.tables e below (s₁.setTop (mkF m 45 #[.val (.int v0), .val (.int v1), .val (.int (v1 &&& (3 : Int32))), .val (.int cc), .unset] [])) t → Steps p.tables e below (s₁.setTop (mkF m 0 #[.val (.int v0), .val (.int v1), .unset, .unset, .unset] [])) t := by
    by_cases hc5 : (v1 &&& (3 : Int32)) = (0 : Int32)
    · refine ⟨v0, fun t k => ?_⟩
      show Steps p.tables e below (s₁.setTop (mkF m 0 #[.val (.int v0), .val (.int v1), .unset, .unset, .unset] [])) _
      refine XS.iloadN X0.here hx rfl (hb hby at_0) rfl ?_
      show Steps p.tables e below (s₁.setTop (mkF m 1 #[.val (.int v0), .val (.int v1), .unset, .unset, .unset] [(.int v1)])) _
      refine XS.iconst X0.here hx rfl (hb hby at_1) ?_
      show Steps p.tables e below (s₁.setTop (mkF m 2 #[.val (.int v0), .val (.int v1), .unset, .unset, .unset] [(.int (3 : Int32)), (.int v1)])) _
      refine XS.iand X0.here hx rfl (hb hby at_2) rfl ?_
      show Steps p.tables e below (s₁.setTop (mkF m 3 #[.val (.int v0), .val (.int v1), .unset, .unset, .unset] [(.int (v1 &&& (3 : Int32)))])) _
      refine XS.istoreN X0.here hx rfl (hb hby at_3) rfl (l' := #[.val (.int v0), .val (.int v1), .val (.int (v1 &&& (3 : Int32))), .unset, .unset]) rfl ?_
      show Steps p.tables e below (s₁.setTop (mkF m 4 #[.val (.int v0), .val (.int v1), .val (.int (v1 &&& (3 : Int32))), .unset, .unset] [])) _
      refine XS.iloadN X0.here hx rfl (hb hby at_4) rfl ?_
      show Steps p.tables e below (s₁.setTop (mkF m 5 #[.val (.int v0), .val (.int v1), .val (.int (v1 &&& (3 : Int32))), .unset, .unset] [(.int (v1 &&& (3 : Int32)))])) _
      refine XS.ifNo X0.here hx rfl (hb hby at_5) rfl ((if0 _ _).trans (teq hc5).2) ?_
      show Steps p.tables e below (s₁.setTop (mkF m 8 #[.val (.int v0), .val (.int v1), .val (.int (v1 &&& (3 : Int32))), .unset, .unset] [])) _
      refine XS.iloadN X0.here hx rfl (hb hby at_8) rfl ?_
      show Steps p.tables e below (s₁.setTop (mkF m 9 #[.val (.int v0), .val (.int v1), .val (.int (v1 &&& (3 : Int32))), .unset, .unset] [(.int v0)])) _
      refine XS.istoreN X0.here hx rfl (hb hby at_9) rfl (l' := #[.val (.int v0), .val (.int v1), .val (.int (v1 &&& (3 : Int32))), .val (.int v0), .unset]) rfl ?_
      show Steps p.tables e below (s₁.setTop (mkF m 10 #[.val (.int v0), .val (.int v1), .val (.int (v1 &&& (3 : Int32))), .val (.int v0), .unset] [])) _
      refine XS.goto X0.here hx rfl (pc0 := 10) (pc' := 45) rfl (hb hby at_10) (by decide) (by decide) ?_
      show Steps p.tables e below (s₁.setTop (mkF m 45 #[.val (.int v0), .val (.int v1), .val (.int (v1 &&& (3 : Int32))), .val (.int v0), .unset] [])) _
      exact k
    · by_cases hc15 : (v1 &&& (3 : Int32)) = (1 : Int32)
      · refine ⟨(v0 &&& (255 : Int32)), fun t k => ?_⟩
        show Steps p.tables e below (s₁.setTop (mkF m 0 #[.val (.int v0), .val (.int v1), .unset, .unset, .unset] [])) _
        refine XS.iloadN X0.here hx rfl (hb hby at_0) rfl ?_
        show Steps p.tables e below (s₁.setTop (mkF m 1 #[.val (.int v0), .val (.int v1), .unset, .unset, .unset] [(.int v1)])) _
        refine XS.iconst X0.here hx rfl (hb hby at_1) ?_
        show Steps p.tables e below (s₁.setTop (mkF m 2 #[.val (.int v0), .val (.int v1), .unset, .unset, .unset] [(.int (3 : Int32)), (.int v1)])) _
        refine XS.iand X0.here hx rfl (hb hby at_2) rfl ?_
        show Steps p.tables e below (s₁.setTop (mkF m 3 #[.val (.int v0), .val (.int v1), .unset, .unset, .unset] [(.int (v1 &&& (3 : Int32)))])) _
        refine XS.istoreN X0.here hx rfl (hb hby at_3) rfl (l' := #[.val (.int v0), .val (.int v1), .val (.int (v1 &&& (3 : Int32))), .unset, .unset]) rfl ?_
        show Steps p.tables e below (s₁.setTop (mkF m 4 #[.val (.int v0), .val (.int v1), .val (.int (v1 &&& (3 : Int32))), .unset, .unset] [])) _
        refine XS.iloadN X0.here hx rfl (hb hby at_4) rfl ?_
        show Steps p.tables e below (s₁.setTop (mkF m 5 #[.val (.int v0), .val (.int v1), .val (.int (v1 &&& (3 : Int32))), .unset, .unset] [(.int (v1 &&& (3 : Int32)))])) _
        refine XS.ifYes X0.here hx rfl (pc0 := 5) (pc' := 13) rfl (hb hby at_5) rfl ((if0 _ _).trans (feq hc5).2) (by decide) (by decide) ?_
        show Steps p.tables e below (s₁.setTop (mkF m 13 #[.val (.int v0), .val (.int v1), .val (.int (v1 &&& (3 : Int32))), .unset, .unset] [])) _
        refine XS.iloadN X0.here hx rfl (hb hby at_13) rfl ?_
        show Steps p.tables e below (s₁.setTop (mkF m 14 #[.val (.int v0), .val (.int v1), .val (.int (v1 &&& (3 : Int32))), .unset, .unset] [(.int (v1 &&& (3 : Int32)))])) _
        refine XS.iconst X0.here hx rfl (hb hby at_14) ?_
        show Steps p.tables e below (s₁.setTop (mkF m 15 #[.val (.int v0), .val (.int v1), .val (.int (v1 &&& (3 : Int32))), .unset, .unset] [(.int (1 : Int32)), (.int (v1 &&& (3 : Int32)))])) _
        refine XS.icmpNo X0.here hx rfl (hb hby at_15) rfl (teq hc15).2 ?_
        show Steps p.tables e below (s₁.setTop (mkF m 18 #[.val (.int v0), .val (.int v1), .val (.int (v1 &&& (3 : Int32))), .unset, .unset] [])) _
        refine XS.iloadN X0.here hx rfl (hb hby at_18) rfl ?_
        show Steps p.tables e below (s₁.setTop (mkF m 19 #[.val (.int v0), .val (.int v1), .val (.int (v1 &&& (3 : Int32))), .unset, .unset] [(.int v0)])) _
        refine XS.sipush X0.here hx rfl (hb hby at_19) ?_
        show Steps p.tables e below (s₁.setTop (mkF m 22 #[.val (.int v0), .val (.int v1), .val (.int (v1 &&& (3 : Int32))), .unset, .unset] [(.int (255 : Int32)), (.int v0)])) _
        refine XS.iand X0.here hx rfl (hb hby at_22) rfl ?_
        show Steps p.tables e below (s₁.setTop (mkF m 23 #[.val (.int v0), .val (.int v1), .val (.int (v1 &&& (3 : Int32))), .unset, .unset] [(.int (v0 &&& (255 : Int32)))])) _
        refine XS.istoreN X0.here hx rfl (hb hby at_23) rfl (l' := #[.val (.int v0), .val (.int v1), .val (.int (v1 &&& (3 : Int32))), .val (.int (v0 &&& (255 : Int32))), .unset]) rfl ?_
        show Steps p.tables e below (s₁.setTop (mkF m 24 #[.val (.int v0), .val (.int v1), .val (.int (v1 &&& (3 : Int32))), .val (.int (v0 &&& (255 : Int32))), .unset] [])) _
        refine XS.goto X0.here hx rfl (pc0 := 24) (pc' := 45) rfl (hb hby at_24) (by decide) (by decide) ?_
        show Steps p.tables e below (s₁.setTop (mkF m 45 #[.val (.int v0), .val (.int v1), .val (.int (v1 &&& (3 : Int32))), .val (.int (v0 &&& (255 : Int32))), .unset] [])) _
        exact k
      · by_cases hc29 : (v1 &&& (3 : Int32)) = (2 : Int32)
        · refine ⟨(v0 &&& (65535 : Int32)), fun t k => ?_⟩
          show Steps p.tables e below (s₁.setTop (mkF m 0 #[.val (.int v0), .val (.int v1), .unset, .unset, .unset] [])) _
          refine XS.iloadN X0.here hx rfl (hb hby at_0) rfl ?_
          show Steps p.tables e below (s₁.setTop (mkF m 1 #[.val (.int v0), .val (.int v1), .unset, .unset, .unset] [(.int v1)])) _
          refine XS.iconst X0.here hx rfl (hb hby at_1) ?_
          show Steps p.tables e below (s₁.setTop (mkF m 2 #[.val (.int v0), .val (.int v1), .unset, .unset, .unset] [(.int (3 : Int32)), (.int v1)])) _
          refine XS.iand X0.here hx rfl (hb hby at_2) rfl ?_
          show Steps p.tables e below (s₁.setTop (mkF m 3 #[.val (.int v0), .val (.int v1), .unset, .unset, .unset] [(.int (v1 &&& (3 : Int32)))])) _
          refine XS.istoreN X0.here hx rfl (hb hby at_3) rfl (l' := #[.val (.int v0), .val (.int v1), .val (.int (v1 &&& (3 : Int32))), .unset, .unset]) rfl ?_
          show Steps p.tables e below (s₁.setTop (mkF m 4 #[.val (.int v0), .val (.int v1), .val (.int (v1 &&& (3 : Int32))), .unset, .unset] [])) _
          refine XS.iloadN X0.here hx rfl (hb hby at_4) rfl ?_
          show Steps p.tables e below (s₁.setTop (mkF m 5 #[.val (.int v0), .val (.int v1), .val (.int (v1 &&& (3 : Int32))), .unset, .unset] [(.int (v1 &&& (3 : Int32)))])) _
          refine XS.ifYes X0.here hx rfl (pc0 := 5) (pc' := 13) rfl (hb hby at_5) rfl ((if0 _ _).trans (feq hc5).2) (by decide) (by decide) ?_
          show Steps p.tables e below (s₁.setTop (mkF m 13 #[.val (.int v0), .val (.int v1), .val (.int (v1 &&& (3 : Int32))), .unset, .unset] [])) _
          refine XS.iloadN X0.here hx rfl (hb hby at_13) rfl ?_
          show Steps p.tables e below (s₁.setTop (mkF m 14 #[.val (.int v0), .val (.int v1), .val (.int (v1 &&& (3 : Int32))), .unset, .unset] [(.int (v1 &&& (3 : Int32)))])) _
          refine XS.iconst X0.here hx rfl (hb hby at_14) ?_
          show Steps p.tables e below (s₁.setTop (mkF m 15 #[.val (.int v0), .val (.int v1), .val (.int (v1 &&& (3 : Int32))), .unset, .unset] [(.int (1 : Int32)), (.int (v1 &&& (3 : Int32)))])) _
          refine XS.icmpYes X0.here hx rfl (pc0 := 15) (pc' := 27) rfl (hb hby at_15) rfl (feq hc15).2 (by decide) (by decide) ?_
          show Steps p.tables e below (s₁.setTop (mkF m 27 #[.val (.int v0), .val (.int v1), .val (.int (v1 &&& (3 : Int32))), .unset, .unset] [])) _
          refine XS.iloadN X0.here hx rfl (hb hby at_27) rfl ?_
          show Steps p.tables e below (s₁.setTop (mkF m 28 #[.val (.int v0), .val (.int v1), .val (.int (v1 &&& (3 : Int32))), .unset, .unset] [(.int (v1 &&& (3 : Int32)))])) _
          refine XS.iconst X0.here hx rfl (hb hby at_28) ?_
          show Steps p.tables e below (s₁.setTop (mkF m 29 #[.val (.int v0), .val (.int v1), .val (.int (v1 &&& (3 : Int32))), .unset, .unset] [(.int (2 : Int32)), (.int (v1 &&& (3 : Int32)))])) _
          refine XS.icmpNo X0.here hx rfl (hb hby at_29) rfl (teq hc29).2 ?_
          show Steps p.tables e below (s₁.setTop (mkF m 32 #[.val (.int v0), .val (.int v1), .val (.int (v1 &&& (3 : Int32))), .unset, .unset] [])) _
          refine XS.iloadN X0.here hx rfl (hb hby at_32) rfl ?_
          show Steps p.tables e below (s₁.setTop (mkF m 33 #[.val (.int v0), .val (.int v1), .val (.int (v1 &&& (3 : Int32))), .unset, .unset] [(.int v0)])) _
          refine X0.ldcI hx hown (mv hZ (hw _ (List.mem_of_getElem? (i := 12) rfl))) rfl (hb hby at_33) ?_
          show Steps p.tables e below (s₁.setTop (mkF m 35 #[.val (.int v0), .val (.int v1), .val (.int (v1 &&& (3 : Int32))), .unset, .unset] [(.int (65535 : Int32)), (.int v0)])) _
          refine XS.iand X0.here hx rfl (hb hby at_35) rfl ?_
          show Steps p.tables e below (s₁.setTop (mkF m 36 #[.val (.int v0), .val (.int v1), .val (.int (v1 &&& (3 : Int32))), .unset, .unset] [(.int (v0 &&& (65535 : Int32)))])) _
          refine XS.istoreN X0.here hx rfl (hb hby at_36) rfl (l' := #[.val (.int v0), .val (.int v1), .val (.int (v1 &&& (3 : Int32))), .val (.int (v0 &&& (65535 : Int32))), .unset]) rfl ?_
          show Steps p.tables e below (s₁.setTop (mkF m 37 #[.val (.int v0), .val (.int v1), .val (.int (v1 &&& (3 : Int32))), .val (.int (v0 &&& (65535 : Int32))), .unset] [])) _
          refine XS.goto X0.here hx rfl (pc0 := 37) (pc' := 45) rfl (hb hby at_37) (by decide) (by decide) ?_
          show Steps p.tables e below (s₁.setTop (mkF m 45 #[.val (.int v0), .val (.int v1), .val (.int (v1 &&& (3 : Int32))), .val (.int (v0 &&& (65535 : Int32))), .unset] [])) _
          exact k
        · refine ⟨(v0 &&& (1048575 : Int32)), fun t k => ?_⟩
          show Steps p.tables e below (s₁.setTop (mkF m 0 #[.val (.int v0), .val (.int v1), .unset, .unset, .unset] [])) _
          refine XS.iloadN X0.here hx rfl (hb hby at_0) rfl ?_
          show Steps p.tables e below (s₁.setTop (mkF m 1 #[.val (.int v0), .val (.int v1), .unset, .unset, .unset] [(.int v1)])) _
          refine XS.iconst X0.here hx rfl (hb hby at_1) ?_
          show Steps p.tables e below (s₁.setTop (mkF m 2 #[.val (.int v0), .val (.int v1), .unset, .unset, .unset] [(.int (3 : Int32)), (.int v1)])) _
          refine XS.iand X0.here hx rfl (hb hby at_2) rfl ?_
          show Steps p.tables e below (s₁.setTop (mkF m 3 #[.val (.int v0), .val (.int v1), .unset, .unset, .unset] [(.int (v1 &&& (3 : Int32)))])) _
          refine XS.istoreN X0.here hx rfl (hb hby at_3) rfl (l' := #[.val (.int v0), .val (.int v1), .val (.int (v1 &&& (3 : Int32))), .unset, .unset]) rfl ?_
          show Steps p.tables e below (s₁.setTop (mkF m 4 #[.val (.int v0), .val (.int v1), .val (.int (v1 &&& (3 : Int32))), .unset, .unset] [])) _
          refine XS.iloadN X0.here hx rfl (hb hby at_4) rfl ?_
          show Steps p.tables e below (s₁.setTop (mkF m 5 #[.val (.int v0), .val (.int v1), .val (.int (v1 &&& (3 : Int32))), .unset, .unset] [(.int (v1 &&& (3 : Int32)))])) _
          refine XS.ifYes X0.here hx rfl (pc0 := 5) (pc' := 13) rfl (hb hby at_5) rfl ((if0 _ _).trans (feq hc5).2) (by decide) (by decide) ?_
          show Steps p.tables e below (s₁.setTop (mkF m 13 #[.val (.int v0), .val (.int v1), .val (.int (v1 &&& (3 : Int32))), .unset, .unset] [])) _
          refine XS.iloadN X0.here hx rfl (hb hby at_13) rfl ?_
          show Steps p.tables e below (s₁.setTop (mkF m 14 #[.val (.int v0), .val (.int v1), .val (.int (v1 &&& (3 : Int32))), .unset, .unset] [(.int (v1 &&& (3 : Int32)))])) _
          refine XS.iconst X0.here hx rfl (hb hby at_14) ?_
          show Steps p.tables e below (s₁.setTop (mkF m 15 #[.val (.int v0), .val (.int v1), .val (.int (v1 &&& (3 : Int32))), .unset, .unset] [(.int (1 : Int32)), (.int (v1 &&& (3 : Int32)))])) _
          refine XS.icmpYes X0.here hx rfl (pc0 := 15) (pc' := 27) rfl (hb hby at_15) rfl (feq hc15).2 (by decide) (by decide) ?_
          show Steps p.tables e below (s₁.setTop (mkF m 27 #[.val (.int v0), .val (.int v1), .val (.int (v1 &&& (3 : Int32))), .unset, .unset] [])) _
          refine XS.iloadN X0.here hx rfl (hb hby at_27) rfl ?_
          show Steps p.tables e below (s₁.setTop (mkF m 28 #[.val (.int v0), .val (.int v1), .val (.int (v1 &&& (3 : Int32))), .unset, .unset] [(.int (v1 &&& (3 : Int32)))])) _
          refine XS.iconst X0.here hx rfl (hb hby at_28) ?_
          show Steps p.tables e below (s₁.setTop (mkF m 29 #[.val (.int v0), .val (.int v1), .val (.int (v1 &&& (3 : Int32))), .unset, .unset] [(.int (2 : Int32)), (.int (v1 &&& (3 : Int32)))])) _
          refine XS.icmpYes X0.here hx rfl (pc0 := 29) (pc' := 40) rfl (hb hby at_29) rfl (feq hc29).2 (by decide) (by decide) ?_
          show Steps p.tables e below (s₁.setTop (mkF m 40 #[.val (.int v0), .val (.int v1), .val (.int (v1 &&& (3 : Int32))), .unset, .unset] [])) _
          refine XS.iloadN X0.here hx rfl (hb hby at_40) rfl ?_
          show Steps p.tables e below (s₁.setTop (mkF m 41 #[.val (.int v0), .val (.int v1), .val (.int (v1 &&& (3 : Int32))), .unset, .unset] [(.int v0)])) _
          refine X0.ldcI hx hown (mv hZ (hw _ (List.mem_of_getElem? (i := 0) rfl))) rfl (hb hby at_41) ?_
          show Steps p.tables e below (s₁.setTop (mkF m 43 #[.val (.int v0), .val (.int v1), .val (.int (v1 &&& (3 : Int32))), .unset, .unset] [(.int (1048575 : Int32)), (.int v0)])) _
          refine XS.iand X0.here hx rfl (hb hby at_43) rfl ?_
          show Steps p.tables e below (s₁.setTop (mkF m 44 #[.val (.int v0), .val (.int v1), .val (.int (v1 &&& (3 : Int32))), .unset, .unset] [(.int (v0 &&& (1048575 : Int32)))])) _
          refine XS.istoreN X0.here hx rfl (hb hby at_44) rfl (l' := #[.val (.int v0), .val (.int v1), .val (.int (v1 &&& (3 : Int32))), .val (.int (v0 &&& (1048575 : Int32))), .unset]) rfl ?_
          show Steps p.tables e below (s₁.setTop (mkF m 45 #[.val (.int v0), .val (.int v1), .val (.int (v1 &&& (3 : Int32))), .val (.int (v0 &&& (1048575 : Int32))), .unset] [])) _
          exact k
  have sg2 : ∀ t, Steps p.tables e below (s₁.setTop (mkF m 46 #[.val (.int v0), .val (.int v1), .val (.int (v1 &&& (3 : Int32))), .val (.int cc), .unset] [(.int cc)])) t → Steps p.tables e below (s₁.setTop (mkF m 45 #[.val (.int v0), .val (.int v1), .val (.int (v1 &&& (3 : Int32))), .val (.int cc), .unset] [])) t := by
    intro t k
    show Steps p.tables e below (s₁.setTop (mkF m 45 #[.val (.int v0), .val (.int v1), .val (.int (v1 &&& (3 : Int32))), .val (.int cc), .unset] [])) _
    refine XS.iloadN X0.here hx rfl (hb hby at_45) rfl ?_
    show Steps p.tables e below (s₁.setTop (mkF m 46 #[.val (.int v0), .val (.int v1), .val (.int (v1 &&& (3 : Int32))), .val (.int cc), .unset] [(.int cc)])) _
    exact k
  obtain ⟨_, _, ⟨T3, L3, k3, n3⟩, -, X3, ⟨Lc3, hQ3, l3, y3, z3⟩, st3⟩ := Jvm.LawKit.callS X0 hx (y := (⟨"com/example/homespun_functions/homespunfunctions/xml/XmlNames", "isNCNameStartChar", "(I)Z"⟩ : MethodName)) hown (mvT hZ (hw _ (List.mem_of_getElem? (i := 1) rfl))) (mvT hZ (hw _ (List.mem_of_getElem? (i := 2) rfl))) (mvT hZ (hw _ (List.mem_of_getElem? (i := 3) rfl))) (mvT hZ (hw _ (List.mem_of_getElem? (i := 4) rfl))) (by decide) (backOf (W := 0) (rm1 l Z a0 hw [] cc h0 n0 Z0) hZ (hw _ (List.mem_of_getElem? (i := 4) rfl)) (hw _ (List.mem_of_getElem? (i := 3) rfl)) (by decide) (by decide)) (g := (mkF m 46 #[.val (.int v0), .val (.int v1), .val (.int (v1 &&& (3 : Int32))), .val (.int cc), .unset] [(.int cc)])) rfl (by rw [hml]; rfl) (argsL := [(.int cc)]) (rest := []) (lenOf pd_1 rfl) rfl (by show 2 * 0 + _ ≤ _; exact Nat.le_of_eq rfl) (hb hby at_46) (fun _ _ => ⟨rfl, e0, (by decide : 0 + 0 ≤ _), (by decide : 0 + 0 ≤ _)⟩)
  dsimp only [Pt.U, Pt.locs, Pt.cells, Pt.slots] at X3 l3 y3 z3 st3 hQ3
  subst l3 y3 z3
  obtain ⟨rfl, Nc3, e3⟩ := hQ3
  have N3 := Fr.app N0 Nc3
  have sg4 : ∀ t, Steps p.tables e below (T3.setTop (mkF m 54 #[.val (.int v0), .val (.int v1), .val (.int (v1 &&& (3 : Int32))), .val (.int cc), .val (.int (f1_0 cc))] [(.int cc), (.int (f1_0 cc))])) t → Steps p.tables e below (T3.setTop (mkF m 49 #[.val (.int v0), .val (.int v1), .val (.int (v1 &&& (3 : Int32))), .val (.int cc), .unset] [(.int (f1_0 cc))])) t := by
    intro t k
    show Steps p.tables e below (T3.setTop (mkF m 49 #[.val (.int v0), .val (.int v1), .val (.int (v1 &&& (3 : Int32))), .val (.int cc), .unset] [(.int (f1_0 cc))])) _
    refine XS.istore X3.here hx rfl (hb hby at_49) rfl (l' := #[.val (.int v0), .val (.int v1), .val (.int (v1 &&& (3 : Int32))), .val (.int cc), .val (.int (f1_0 cc))]) rfl ?_
    show Steps p.tables e below (T3.setTop (mkF m 51 #[.val (.int v0), .val (.int v1), .val (.int (v1 &&& (3 : Int32))), .val (.int cc), .val (.int (f1_0 cc))] [])) _
    refine XS.iload X3.here hx rfl (hb hby at_51) rfl ?_
    show Steps p.tables e below (T3.setTop (mkF m 53 #[.val (.int v0), .val (.int v1), .val (.int (v1 &&& (3 : Int32))), .val (.int cc), .val (.int (f1_0 cc))] [(.int (f1_0 cc))])) _
    refine XS.iloadN X3.here hx rfl (hb hby at_53) rfl ?_
    show Steps p.tables e below (T3.setTop (mkF m 54 #[.val (.int v0), .val (.int v1), .val (.int (v1 &&& (3 : Int32))), .val (.int cc), .val (.int (f1_0 cc))] [(.int cc), (.int (f1_0 cc))])) _
    exact k
  obtain ⟨_, _, ⟨T5, L5, k5, n5⟩, -, X5, ⟨Lc5, hQ5, l5, y5, z5⟩, st5⟩ := Jvm.LawKit.callS X3 hx (y := (⟨"com/example/homespun_functions/homespunfunctions/xml/XmlNamesIsNCNameStartCharPinLaw", "excluded", "(I)Z"⟩ : MethodName)) hown (mvT hZ (hw _ (List.mem_of_getElem? (i := 5) rfl))) (mvT hZ (hw _ (List.mem_of_getElem? (i := 6) rfl))) (mvT hZ (hw _ (List.mem_of_getElem? (i := 7) rfl))) (mvT hZ (hw _ (List.mem_of_getElem? (i := 8) rfl))) (by decide) (backOf (W := 1) (rm2 l Z a0 hw [] cc h0 n0 Z0) hZ (hw _ (List.mem_of_getElem? (i := 8) rfl)) (hw _ (List.mem_of_getElem? (i := 7) rfl)) (by decide) (by decide)) (g := (mkF m 54 #[.val (.int v0), .val (.int v1), .val (.int (v1 &&& (3 : Int32))), .val (.int cc), .val (.int (f1_0 cc))] [(.int cc), (.int (f1_0 cc))])) rfl (by rw [hml]; rfl) (argsL := [(.int cc)]) (rest := [(.int (f1_0 cc))]) (lenOf pd_2 rfl) rfl (by show 2 * 0 + _ ≤ _; exact Nat.le_of_eq rfl) (hb hby at_54) (fun _ _ => ⟨rfl, e3, (by decide : 0 + 0 ≤ _), (by decide : 0 + 0 ≤ _)⟩)
  dsimp only [Pt.U, Pt.locs, Pt.cells, Pt.slots] at X5 l5 y5 z5 st5 hQ5
  subst l5 y5 z5
  obtain ⟨rfl, Nc5, e5⟩ := hQ5
  have N5 := Fr.app N3 Nc5
  have sg6 : ∀ t, Steps p.tables e below (T5.setTop (mkF m 73 #[.val (.int v0), .val (.int v1), .val (.int (v1 &&& (3 : Int32))), .val (.int cc), .val (.int (f1_0 cc))] [(.int (1 : Int32))])) t → Steps p.tables e below (T5.setTop (mkF m 57 #[.val (.int v0), .val (.int v1), .val (.int (v1 &&& (3 : Int32))), .val (.int cc), .val (.int (f1_0 cc))] [(.int (f2_0 cc)), (.int (f1_0 cc))])) t := by
    intro t k
    rcases own_law cc with ⟨q1, q2⟩ | ⟨q1, q2⟩
    · show Steps p.tables e below (T5.setTop (mkF m 57 #[.val (.int v0), .val (.int v1), .val (.int (v1 &&& (3 : Int32))), .val (.int cc), .val (.int (f1_0 cc))] [(.int (f2_0 cc)), (.int (f1_0 cc))])) _
      refine XS.ifNo X5.here hx rfl (hb hby at_57) rfl ((if0 _ _).trans (teq q2).2) ?_
      show Steps p.tables e below (T5.setTop (mkF m 60 #[.val (.int v0), .val (.int v1), .val (.int (v1 &&& (3 : Int32))), .val (.int cc), .val (.int (f1_0 cc))] [(.int (f1_0 cc))])) _
      refine XS.iconst X5.here hx rfl (hb hby at_60) ?_
      show Steps p.tables e below (T5.setTop (mkF m 61 #[.val (.int v0), .val (.int v1), .val (.int (v1 &&& (3 : Int32))), .val (.int cc), .val (.int (f1_0 cc))] [(.int (1 : Int32)), (.int (f1_0 cc))])) _
      refine XS.goto X5.here hx rfl (pc0 := 61) (pc' := 65) rfl (hb hby at_61) (by decide) (by decide) ?_
      show Steps p.tables e below (T5.setTop (mkF m 65 #[.val (.int v0), .val (.int v1), .val (.int (v1 &&& (3 : Int32))), .val (.int cc), .val (.int (f1_0 cc))] [(.int (1 : Int32)), (.int (f1_0 cc))])) _
      refine XS.icmpNo X5.here hx rfl (hb hby at_65) rfl (teq q1).2 ?_
      show Steps p.tables e below (T5.setTop (mkF m 68 #[.val (.int v0), .val (.int v1), .val (.int (v1 &&& (3 : Int32))), .val (.int cc), .val (.int (f1_0 cc))] [])) _
      refine XS.iconst X5.here hx rfl (hb hby at_68) ?_
      show Steps p.tables e below (T5.setTop (mkF m 69 #[.val (.int v0), .val (.int v1), .val (.int (v1 &&& (3 : Int32))), .val (.int cc), .val (.int (f1_0 cc))] [(.int (1 : Int32))])) _
      refine XS.goto X5.here hx rfl (pc0 := 69) (pc' := 73) rfl (hb hby at_69) (by decide) (by decide) ?_
      show Steps p.tables e below (T5.setTop (mkF m 73 #[.val (.int v0), .val (.int v1), .val (.int (v1 &&& (3 : Int32))), .val (.int cc), .val (.int (f1_0 cc))] [(.int (1 : Int32))])) _
      exact k
    · show Steps p.tables e below (T5.setTop (mkF m 57 #[.val (.int v0), .val (.int v1), .val (.int (v1 &&& (3 : Int32))), .val (.int cc), .val (.int (f1_0 cc))] [(.int (f2_0 cc)), (.int (f1_0 cc))])) _
      refine XS.ifYes X5.here hx rfl (pc0 := 57) (pc' := 64) rfl (hb hby at_57) rfl ((if0 _ _).trans (feq (by rw [q2]; decide)).2) (by decide) (by decide) ?_
      show Steps p.tables e below (T5.setTop (mkF m 64 #[.val (.int v0), .val (.int v1), .val (.int (v1 &&& (3 : Int32))), .val (.int cc), .val (.int (f1_0 cc))] [(.int (f1_0 cc))])) _
      refine XS.iconst X5.here hx rfl (hb hby at_64) ?_
      show Steps p.tables e below (T5.setTop (mkF m 65 #[.val (.int v0), .val (.int v1), .val (.int (v1 &&& (3 : Int32))), .val (.int cc), .val (.int (f1_0 cc))] [(.int (0 : Int32)), (.int (f1_0 cc))])) _
      refine XS.icmpNo X5.here hx rfl (hb hby at_65) rfl (teq q1).2 ?_
      show Steps p.tables e below (T5.setTop (mkF m 68 #[.val (.int v0), .val (.int v1), .val (.int (v1 &&& (3 : Int32))), .val (.int cc), .val (.int (f1_0 cc))] [])) _
      refine XS.iconst X5.here hx rfl (hb hby at_68) ?_
      show Steps p.tables e below (T5.setTop (mkF m 69 #[.val (.int v0), .val (.int v1), .val (.int (v1 &&& (3 : Int32))), .val (.int cc), .val (.int (f1_0 cc))] [(.int (1 : Int32))])) _
      refine XS.goto X5.here hx rfl (pc0 := 69) (pc' := 73) rfl (hb hby at_69) (by decide) (by decide) ?_
      show Steps p.tables e below (T5.setTop (mkF m 73 #[.val (.int v0), .val (.int v1), .val (.int (v1 &&& (3 : Int32))), .val (.int cc), .val (.int (f1_0 cc))] [(.int (1 : Int32))])) _
      exact k
  obtain ⟨fs, hr, hrun, hended, hW, hsame⟩ := X5.leave (v := some (.int (1 : Int32))) (fun h => by rw [Bd.returns] at h; cases h)
  refine ⟨_, _, pre0 _ ?_, hrun, hended, _, _, rfl, ?_, ⟨_, rfl⟩, hW, hsame.mono (by decide) (by decide)⟩
  · refine sg1 _ ?_
    refine sg2 _ ?_
    refine st3 _ ?_
    refine sg4 _ ?_
    refine st5 _ ?_
    refine sg6 _ ?_
    show Steps p.tables e below (T5.setTop (mkF m 73 #[.val (.int v0), .val (.int v1), .val (.int (v1 &&& (3 : Int32))), .val (.int cc), .val (.int (f1_0 cc))] [(.int (1 : Int32))])) _
    exact retN X5 hx (t := .boolean) Bd.returns (by simp) (hb hby at_73) hr
  · exact ⟨rfl, N5⟩
set_option maxRecDepth 65536 in
set_option maxHeartbeats 40000000 in
theorem comes_1 {Post : Tables → Env → Array Value → State → Outcome → State → Prop} (hpost : ∀ tb e args s v u, (limb_1_1.after args s (.returned v) u = true ∧ limb_1_2.after args s (.returned v) u = true ∧ True) → FrameEnd s (.returned v) u (Jvm.fieldLocs frame_1_writes args s ++ Jvm.arrayLocs frame_1_arrays args s ++ Jvm.staticLocs frame_1_statics s) 0 0 → Post tb e args s (.returned v) u) :
    ArmFor flags0 classFile x code maxLocals ret World_1 tables_1 room_1 Calls_1 rest_1 Pre_1 Post := by
  intro l hfl _ _ p e ha hc hk s m args below hf hA hF happ hP
  obtain ⟨hcalls, hrest, hpre⟩ := hP
  obtain ⟨-, -, -, hnamed, -, -, -, hat⟩ := (Spec.applies_iff hf).mp happ
  obtain ⟨hg, hn⟩ := and_e (Cond.before_iff.mp (show (Jvm.Cond.and given_1 narrow_1).before args s = true from hpre))
  obtain ⟨hcount, q0⟩ := and_e hg
  obtain ⟨g0, q1⟩ := and_e q0
  obtain ⟨w0, w1, rfl⟩ : ∃ w0 w1 : Value, args = #[w0, w1] := by
    have hs : args.size = 2 := by simpa [Cond.value, given_1] using hcount
    obtain ⟨L⟩ := args
    match L, hs with
    | [w0, w1], _ => exact ⟨w0, w1, rfl⟩
  have hw := fun d (hd : d ∈ tables_1) => atoms_spec (ws := Jvm.Cond.code x code maxLocals ret :: tables_1) hat d (List.mem_cons_of_mem _ hd)
  obtain ⟨i0, r0⟩ := is_v g0
  obtain rfl : w0 = (.int i0) := Option.some.inj r0
  obtain ⟨i1, r1⟩ := is_v q1
  obtain rfl : w1 = (.int i1) := Option.some.inj r1
  obtain ⟨n, o, h1, h2, h3, _, L, rfl, ⟨rfl, N⟩, hq⟩ := rm0 l s _ hw tables_1 i0 i1 s.heap s.heap.size (Nat.le_refl _)  p e ha hc hk s m _ below hf ((Spec.applies_iff_loose hf).mp happ).1 ⟨rfl, State.Warmed39.refl s, rfl⟩ trivial
  refine ⟨n, _, h1, h2, h3, hpost _ _ _ _ _ _ ⟨Cond.after_iff.mpr rfl, Cond.after_iff.mpr (eq_i res_at (Term.int_eval (1)) rfl), trivial⟩ ⟨hq.1, hq.2.1, (hq.2.2.sift fun y hy => Or.inr (N y hy)).mono (by decide) (by decide)⟩⟩
theorem main_1_1 : Claimed_1_1 := comes_1 fun _ _ _ _ _ _ h hF => ⟨h.1, hF⟩
theorem main_1_2 : Claimed_1_2 := comes_1 fun _ _ _ _ _ _ h hF => ⟨h.2.1, hF⟩
end Jvm.Pilot.@@N@@
namespace Jvm.Pilot.@@N@@
open Jvm Jvm.ClassFile Sem Op Lib Jvm.Free Jvm.Stand Jvm.Pilot.@@N@@.Jvm.D
/-! MADE BY PROGRAM (witnessworld.py) out of the Statement's table words and the real class files: 9 classes; the members and pool entries that the words name. The judged class is class 1, her method 2. -/
namespace start1
open Jvm.ClassFile
def u (s : String) : CpInfo := .utf8 (stringToUtf16 s)
/-- a pool by its gaps: so many unusable entries, then the entry; so many at the end -/
def gap : Nat → List CpInfo → List CpInfo
  | 0, r => r
  | n + 1, r => .unusable :: gap n r
def poolList (es : List (Nat × CpInfo)) (last : Nat) : List CpInfo := es.foldr (fun e r => gap e.1 (e.2 :: r)) (gap last [])
def pool (es : List (Nat × CpInfo)) (last : Nat) : Array CpInfo := ⟨poolList es last⟩
def fileOf (pool : Array CpInfo) (this : Nat) (attrs : Array Attribute := #[]) (ms : Array MethodInfo := #[]) (fl : Nat := 33) (sup : Nat := 0) (ifs : Array Nat := #[]) (fds : Array FieldInfo := #[]) : ClassFile where
  minorVersion := 0
  majorVersion := 65
  constantPool := pool
  accessFlags := fl
  thisClass := this
  superClass := sup
  interfaces := ifs
  fields := fds
  methods := ms
  attributes := attrs
def plain (name : String) (sup : Option ClassId) : Class where
  name := name
  kind := .ordinary
  loader := none
  accessFlags := 33
  super := sup
  interfaces := #[]
  cf := none
  fields := #[]
  methods := #[]
  instanceTypes := #[]
  staticTypes := #[]
  resolved := #[]
  callSites := []
  init := .initialized
  statics := none
  mirror := none

def pool0 : Array CpInfo := pool [(5, u "<init>"), (0, u "()V"), (1, .class_ 10), (1, u "java/lang/Object")] 113

def k0m0 : Method := { name := "<init>", desc := "()V", sig := { parameters := [], returnType := none }, accessFlags := 1, code := none }
/-- java/lang/Object -/
def k0 : Class := { plain "java/lang/Object" none with
  accessFlags := 33
  interfaces := #[]
  cf := some (fileOf pool0 8 #[] #[{ accessFlags := 1, nameIndex := 5, descriptorIndex := 6, attributes := #[] }] 33 0 #[] #[])
  fields := #[]
  methods := #[k0m0]
  instanceTypes := #[]
  staticTypes := #[]
  resolved := Array.replicate 124 none
  statics := none }

def pool1 : Array CpInfo := pool [(2, .class_ 4), (1, u "java/lang/Object"), (0, u "<init>"), (0, u "()V"), (0, .integer 55296), (0, .integer 63743), (0, .integer 64976), (0, .integer 65007), (0, .integer 65534), (0, .integer 65535), (0, .integer 983040), (0, .integer 1048575), (0, .methodref 16 17), (0, .class_ 18), (0, .nameAndType 19 20), (0, u "com/example/homespun_functions/homespunfunctions/xml/XmlNames"), (0, u "isNCNameStartChar"), (0, u "(I)Z"), (0, .methodref 22 23), (0, .class_ 24), (0, .nameAndType 25 20), (0, u "com/example/homespun_functions/homespunfunctions/xml/XmlNamesIsNCNameStartCharPinLaw"), (0, u "excluded"), (3, u "law"), (0, u "(II)Z")] 2

def k1m0 : Method := { name := "<init>", desc := "()V", sig := { parameters := [], returnType := none }, accessFlags := 2, code := none }
def k1c1 : Code := { maxStack := 2, maxLocals := 1, code := method_2_code, exceptionTable := #[], attributes := #[] }
def k1m1 : Method := { name := "excluded", desc := "(I)Z", sig := { parameters := [.int], returnType := some .boolean }, accessFlags := 10, code := some k1c1 }
def k1c2 : Code := { maxStack := 2, maxLocals := 5, code := code, exceptionTable := #[], attributes := #[] }
def k1m2 : Method := { name := "law", desc := "(II)Z", sig := { parameters := [.int, .int], returnType := some .boolean }, accessFlags := 9, code := some k1c2 }
/-- com/example/homespun_functions/homespunfunctions/xml/XmlNamesIsNCNameStartCharPinLaw -/
def k1 : Class := { plain "com/example/homespun_functions/homespunfunctions/xml/XmlNamesIsNCNameStartCharPinLaw" (some 0) with
  accessFlags := 49
  interfaces := #[]
  cf := some (fileOf pool1 22 #[] #[{ accessFlags := 2, nameIndex := 5, descriptorIndex := 6, attributes := #[] }, { accessFlags := 10, nameIndex := 25, descriptorIndex := 20, attributes := #[] }, { accessFlags := 9, nameIndex := 29, descriptorIndex := 30, attributes := #[] }] 49 2 #[] #[])
  fields := #[]
  methods := #[k1m0, k1m1, k1m2]
  instanceTypes := #[]
  staticTypes := #[]
  resolved := Array.replicate 33 none
  statics := none }

def pool2 : Array CpInfo := pool [(2, .class_ 4), (1, u "java/lang/Object"), (0, u "<init>"), (0, u "()V"), (0, .integer 55295), (0, .integer 63744), (0, .integer 64975), (0, .integer 65008), (0, .integer 65533), (0, .integer 65536), (0, .integer 983039), (1, .class_ 17), (1, u "com/example/homespun_functions/homespunfunctions/xml/XmlNames"), (0, u "isNCNameStartChar"), (0, u "(I)Z"), (35, u "XML_NAMESPACE"), (0, u "Ljava/lang/String;")] 11

def k2m0 : Method := { name := "<init>", desc := "()V", sig := { parameters := [], returnType := none }, accessFlags := 2, code := none }
def k2c1 : Code := { maxStack := 2, maxLocals := 1, code := prog_79_method_2_code, exceptionTable := #[], attributes := #[] }
def k2m1 : Method := { name := "isNCNameStartChar", desc := "(I)Z", sig := { parameters := [.int], returnType := some .boolean }, accessFlags := 9, code := some k2c1 }
/-- com/example/homespun_functions/homespunfunctions/xml/XmlNames -/
def k2 : Class := { plain "com/example/homespun_functions/homespunfunctions/xml/XmlNames" (some 0) with
  accessFlags := 49
  interfaces := #[]
  cf := some (fileOf pool2 15 #[] #[{ accessFlags := 2, nameIndex := 5, descriptorIndex := 6, attributes := #[] }, { accessFlags := 9, nameIndex := 18, descriptorIndex := 19, attributes := #[] }] 49 2 #[] #[{ accessFlags := 25, nameIndex := 55, descriptorIndex := 56, attributes := #[] }])
  fields := #[{ name := "XML_NAMESPACE", type := (.object "java/lang/String"), accessFlags := 25, slot := 0, constantValue := 0 }]
  methods := #[k2m0, k2m1]
  instanceTypes := #[]
  staticTypes := #[(.object "java/lang/String")]
  resolved := Array.replicate 68 none
  statics := none }

def pool3 : Array CpInfo := pool [(1, u "java/lang/Cloneable"), (0, .class_ 1), (0, u "java/lang/Object"), (0, .class_ 3)] 3

/-- java/lang/Cloneable -/
def k3 : Class := { plain "java/lang/Cloneable" (some 0) with
  accessFlags := 1537
  interfaces := #[]
  cf := some (fileOf pool3 2 #[] #[] 1537 4 #[] #[])
  fields := #[]
  methods := #[]
  instanceTypes := #[]
  staticTypes := #[]
  resolved := Array.replicate 8 none
  statics := none }

def pool4 : Array CpInfo := pool [(1, u "java/io/Serializable"), (0, .class_ 1), (0, u "java/lang/Object"), (0, .class_ 3)] 3

/-- java/io/Serializable -/
def k4 : Class := { plain "java/io/Serializable" (some 0) with
  accessFlags := 1537
  interfaces := #[]
  cf := some (fileOf pool4 2 #[] #[] 1537 4 #[] #[])
  fields := #[]
  methods := #[]
  instanceTypes := #[]
  staticTypes := #[]
  resolved := Array.replicate 8 none
  statics := none }

/-- the primitive byte -/
def k5 : Class := { plain "byte" none with kind := .primitive 'B', accessFlags := 0x411 }
/-- [B -/
def k6 : Class := { plain "[B" (some 0) with kind := .array 5 .byte, interfaces := #[3, 4], accessFlags := 1041 }

/-- the primitive int -/
def k7 : Class := { plain "int" none with kind := .primitive 'I', accessFlags := 0x411 }
/-- [I -/
def k8 : Class := { plain "[I" (some 0) with kind := .array 7 .int, interfaces := #[3, 4], accessFlags := 1041 }

def heap : Heap := #[]
def classes : Array Class := #[k0, k1, k2, k3, k4, k5, k6, k7, k8]
def interned : List (Array UInt16 × Addr) := []
def slotsUsed : Nat := 0
def theMethod : MethodId := ⟨1, 2⟩
def args0 : Array Value := #[.int 5, .int 6]
def aboutOver (below : List Frame) : State where
  vm := { classes := classes, interned := interned.toArray }
  heap := heap
  slotsUsed := slotsUsed
  threads := #[{ frames := .invoking theMethod args0 :: below }]
def below0 : List Frame := [.native { method := ⟨0, 0⟩, args := #[] }]
def about1 : State := aboutOver below0
def p0 : Program := .bare "" "" ""
def e0 : Env := launch0.env 0 0 0
theorem w_frames : about1.frames = Frame.invoking theMethod args0 :: below0 := rfl
set_option maxRecDepth 65536 in
theorem w_args : argsFit about1.vm theMethod args0 = true := by decide +kernel
set_option maxRecDepth 65536 in
theorem w_heap : heapFits about1 = true := by decide +kernel
set_option maxRecDepth 65536 in
theorem w_runnable : about1.curStatus? = some .runnable := by decide +kernel
set_option maxRecDepth 65536 in
theorem w_alone : about1.alone = true := by decide +kernel
set_option maxRecDepth 65536 in
theorem w_named : about1.methodNamed? x = some theMethod := by decide +kernel
set_option maxRecDepth 65536 in
theorem w_hears : about1.hears theMethod below0 = true := by decide +kernel
set_option maxRecDepth 65536 in
theorem w_ripe : about1.ripe theMethod args0 below0 = true := by decide +kernel
theorem w_running : about1.status = .running := rfl
set_option maxRecDepth 65536 in
theorem w_room : about1.hasRoom e0.platform room_1 = true :=
  launch0.hasRoom_least _ room_1 (by decide +kernel) (by decide +kernel) (by decide +kernel) (by decide +kernel) (by decide +kernel) (by decide +kernel)
theorem allAtoms_all (ts : List Jvm.Cond) (a : Array Jvm.Value) (st : Jvm.State) : (allAtoms ts).before a st = ts.all (fun c => c.before a st) := by
  induction ts with
  | nil => rfl
  | cons c t ih =>
    show (Jvm.Cond.and c (allAtoms t)).before a st = _
    rw [Jvm.Cond.before_and, ih, List.all_cons]
def words1 : List Jvm.Cond := Jvm.Cond.code x code maxLocals ret :: tables_1
/-- a 'code' word, met by the world's own term for the bytes: nothing is compared byte by byte -/
theorem code_word {y : MethodName} {bytes : ByteArray} {mx : Nat} {rt : Option FieldType} {a : Array Value} {s : State} {m : MethodId} {meth : Method} {c : Code} (h1 : s.methodNamed? y = some m) (h2 : s.vm.method? m = some meth) (h3 : meth.code = some c) (h4 : c.code = bytes)
    (h5 : (c.maxLocals == mx && c.exceptionTable.isEmpty && decide (c.maxStack ≤ mostOperands) && decide (meth.sig.returnType = rt) && !meth.locks && decide (parseMethodDescriptor y.desc = some meth.sig)) = true) : (Jvm.Cond.code y bytes mx rt).before a s = true := by
  simp only [Bool.and_eq_true, beq_iff_eq, Bool.not_eq_true', decide_eq_true_eq] at h5
  obtain ⟨⟨⟨⟨⟨g1, g2⟩, g3⟩, g4⟩, g5⟩, g6⟩ := h5
  simp [Cond.before, Cond.holds, Cond.value, h1, h2, h3, h4, g1, g2, g3, g4, g5, g6]
def isCode : Jvm.Cond → Bool
  | .code _ _ _ _ => true
  | _ => false
theorem all_split {L : List Jvm.Cond} {P : Jvm.Cond → Bool} (h1 : L.all (fun c => isCode c || P c) = true) (h2 : ∀ c ∈ L.filter isCode, P c = true) : L.all P = true := by
  refine List.all_eq_true.mpr fun c hc => ?_
  have h := List.all_eq_true.mp h1 c hc
  rcases Bool.eq_false_or_eq_true (isCode c) with hi | hi
  · exact h2 c (List.mem_filter.mpr ⟨hc, hi⟩)
  · simpa [hi] using h
set_option maxRecDepth 65536 in
theorem w_c0 : (Jvm.Cond.code x code maxLocals ret).before args0 about1 = true := code_word (m := ⟨1, 2⟩) (meth := k1m2) (c := k1c2) (by decide +kernel) rfl rfl rfl (by decide +kernel)
set_option maxRecDepth 65536 in
theorem w_c1 : (Jvm.Cond.code ({ cls := "com/example/homespun_functions/homespunfunctions/xml/XmlNames", name := "isNCNameStartChar", desc := "(I)Z" } : Jvm.MethodName) prog_79_method_2_code (1 : Nat) (Option.some Jvm.ClassFile.FieldType.boolean)).before args0 about1 = true := code_word (m := ⟨2, 1⟩) (meth := k2m1) (c := k2c1) (by decide +kernel) rfl rfl rfl (by decide +kernel)
set_option maxRecDepth 65536 in
theorem w_c2 : (Jvm.Cond.code ({ cls := "com/example/homespun_functions/homespunfunctions/xml/XmlNamesIsNCNameStartCharPinLaw", name := "excluded", desc := "(I)Z" } : Jvm.MethodName) method_2_code (1 : Nat) (Option.some Jvm.ClassFile.FieldType.boolean)).before args0 about1 = true := code_word (m := ⟨1, 1⟩) (meth := k1m1) (c := k1c1) (by decide +kernel) rfl rfl rfl (by decide +kernel)
def codes1 : List Jvm.Cond := [Jvm.Cond.code x code maxLocals ret, Jvm.Cond.code ({ cls := "com/example/homespun_functions/homespunfunctions/xml/XmlNames", name := "isNCNameStartChar", desc := "(I)Z" } : Jvm.MethodName) prog_79_method_2_code (1 : Nat) (Option.some Jvm.ClassFile.FieldType.boolean), Jvm.Cond.code ({ cls := "com/example/homespun_functions/homespunfunctions/xml/XmlNamesIsNCNameStartCharPinLaw", name := "excluded", desc := "(I)Z" } : Jvm.MethodName) method_2_code (1 : Nat) (Option.some Jvm.ClassFile.FieldType.boolean)]
set_option maxRecDepth 65536 in
theorem codes_eq : words1.filter isCode = codes1 := rfl
theorem w_codes : ∀ c ∈ words1.filter isCode, c.before args0 about1 = true := by
  rw [codes_eq]
  intro c hc
  simp only [codes1, List.mem_cons, List.not_mem_nil, or_false] at hc
  rcases hc with rfl | rfl | rfl
  · exact w_c0
  · exact w_c1
  · exact w_c2
set_option maxRecDepth 65536 in
theorem w_t1 : words1.all (fun c => isCode c || c.before args0 about1) = true := by decide +kernel
theorem w_tables : (allAtoms (Jvm.Cond.code x code maxLocals ret :: tables_1)).before args0 about1 = true := by
  rw [allAtoms_all]
  show words1.all (fun c => c.before args0 about1) = true
  refine all_split ?_ w_codes
  rw [w_t1]
set_option maxRecDepth 65536 in
theorem w_case : (Jvm.Cond.and given_1 narrow_1).before args0 about1 = true := by decide +kernel
theorem w_applies : (headSpec (Jvm.Cond.code x code maxLocals ret :: tables_1) room_1).applies x e0.platform about1 = true :=
  (Spec.applies_iff w_frames).mpr ⟨w_running, w_runnable, w_alone, w_named, w_hears, w_ripe, w_room, w_tables⟩
theorem atStart : AtStart classFile x code maxLocals ret World_1 tables_1 room_1 Calls_1 rest_1 Pre_1 launch0 p0 e0 about1 theMethod args0 below0 :=
  ⟨lists_1, trivial, launch0.admits_env _ _ _, launch0.least_env, fairChoices_fair.cas, fairChoices_fair.clock, w_frames, w_args, w_heap, w_applies, trivial, trivial, w_case⟩
end start1
theorem witness_1 : WitnessClaimed_1 := ⟨start1.p0, start1.e0, start1.about1, start1.theMethod, start1.args0, start1.below0, start1.atStart⟩
end Jvm.Pilot.@@N@@
