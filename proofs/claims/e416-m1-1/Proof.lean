import JvmDerived
import JvmDerived.Pilot.@@N@@Statement
import JvmDerived.Pilot.@@N@@Code
set_option linter.unusedVariables false
set_option linter.unusedSimpArgs false
namespace Jvm.Pilot.@@N@@
open Jvm Jvm.ClassFile Sem Op Lib Jvm.Free Jvm.Stand Jvm.LawKit Jvm.RoadKit Bundle Jvm.Pilot.@@N@@.Jvm.D
/-- what a return of the int z asks of the frames below -/
abbrev own_Rt (e : Env) (T : State) (m : MethodId) (fs : List Frame) (w : Value) : Prop := ∀ (f : JFrame) (acts : List Action), f.method = m → f.locked = none → f.entered = [] → (doReturn e (T.setTop f) acts (some w)).1 = T.setFrames fs
theorem d1_0 : decode prog_202_method_10_code 0 = .ok (.iload_n 0, 1) := by decide +kernel
theorem d1_1 : decode prog_202_method_10_code 1 = .ok (.bipush 97, 2) := by decide +kernel
theorem d1_3 : decode prog_202_method_10_code 3 = .ok (.if_icmp .lt 9, 3) := by decide +kernel
theorem d1_6 : decode prog_202_method_10_code 6 = .ok (.iload_n 0, 1) := by decide +kernel
theorem d1_7 : decode prog_202_method_10_code 7 = .ok (.bipush 122, 2) := by decide +kernel
theorem d1_9 : decode prog_202_method_10_code 9 = .ok (.if_icmp .le 182, 3) := by decide +kernel
theorem d1_12 : decode prog_202_method_10_code 12 = .ok (.iload_n 0, 1) := by decide +kernel
theorem d1_13 : decode prog_202_method_10_code 13 = .ok (.bipush 65, 2) := by decide +kernel
theorem d1_15 : decode prog_202_method_10_code 15 = .ok (.if_icmp .lt 9, 3) := by decide +kernel
theorem d1_18 : decode prog_202_method_10_code 18 = .ok (.iload_n 0, 1) := by decide +kernel
theorem d1_19 : decode prog_202_method_10_code 19 = .ok (.bipush 90, 2) := by decide +kernel
theorem d1_21 : decode prog_202_method_10_code 21 = .ok (.if_icmp .le 170, 3) := by decide +kernel
theorem d1_24 : decode prog_202_method_10_code 24 = .ok (.iload_n 0, 1) := by decide +kernel
theorem d1_25 : decode prog_202_method_10_code 25 = .ok (.bipush 95, 2) := by decide +kernel
theorem d1_27 : decode prog_202_method_10_code 27 = .ok (.if_icmp .eq 164, 3) := by decide +kernel
theorem d1_30 : decode prog_202_method_10_code 30 = .ok (.iload_n 0, 1) := by decide +kernel
theorem d1_31 : decode prog_202_method_10_code 31 = .ok (.sipush 192, 3) := by decide +kernel
theorem d1_34 : decode prog_202_method_10_code 34 = .ok (.if_icmp .lt 10, 3) := by decide +kernel
theorem d1_37 : decode prog_202_method_10_code 37 = .ok (.iload_n 0, 1) := by decide +kernel
theorem d1_38 : decode prog_202_method_10_code 38 = .ok (.sipush 214, 3) := by decide +kernel
theorem d1_41 : decode prog_202_method_10_code 41 = .ok (.if_icmp .le 150, 3) := by decide +kernel
theorem d1_44 : decode prog_202_method_10_code 44 = .ok (.iload_n 0, 1) := by decide +kernel
theorem d1_45 : decode prog_202_method_10_code 45 = .ok (.sipush 216, 3) := by decide +kernel
theorem d1_48 : decode prog_202_method_10_code 48 = .ok (.if_icmp .lt 10, 3) := by decide +kernel
theorem d1_51 : decode prog_202_method_10_code 51 = .ok (.iload_n 0, 1) := by decide +kernel
theorem d1_52 : decode prog_202_method_10_code 52 = .ok (.sipush 246, 3) := by decide +kernel
theorem d1_55 : decode prog_202_method_10_code 55 = .ok (.if_icmp .le 136, 3) := by decide +kernel
theorem d1_58 : decode prog_202_method_10_code 58 = .ok (.iload_n 0, 1) := by decide +kernel
theorem d1_59 : decode prog_202_method_10_code 59 = .ok (.sipush 248, 3) := by decide +kernel
theorem d1_62 : decode prog_202_method_10_code 62 = .ok (.if_icmp .lt 10, 3) := by decide +kernel
theorem d1_65 : decode prog_202_method_10_code 65 = .ok (.iload_n 0, 1) := by decide +kernel
theorem d1_66 : decode prog_202_method_10_code 66 = .ok (.sipush 767, 3) := by decide +kernel
theorem d1_69 : decode prog_202_method_10_code 69 = .ok (.if_icmp .le 122, 3) := by decide +kernel
theorem d1_72 : decode prog_202_method_10_code 72 = .ok (.iload_n 0, 1) := by decide +kernel
theorem d1_73 : decode prog_202_method_10_code 73 = .ok (.sipush 880, 3) := by decide +kernel
theorem d1_76 : decode prog_202_method_10_code 76 = .ok (.if_icmp .lt 10, 3) := by decide +kernel
theorem d1_79 : decode prog_202_method_10_code 79 = .ok (.iload_n 0, 1) := by decide +kernel
theorem d1_80 : decode prog_202_method_10_code 80 = .ok (.sipush 893, 3) := by decide +kernel
theorem d1_83 : decode prog_202_method_10_code 83 = .ok (.if_icmp .le 108, 3) := by decide +kernel
theorem d1_86 : decode prog_202_method_10_code 86 = .ok (.iload_n 0, 1) := by decide +kernel
theorem d1_87 : decode prog_202_method_10_code 87 = .ok (.sipush 895, 3) := by decide +kernel
theorem d1_90 : decode prog_202_method_10_code 90 = .ok (.if_icmp .lt 10, 3) := by decide +kernel
theorem d1_93 : decode prog_202_method_10_code 93 = .ok (.iload_n 0, 1) := by decide +kernel
theorem d1_94 : decode prog_202_method_10_code 94 = .ok (.sipush 8191, 3) := by decide +kernel
theorem d1_97 : decode prog_202_method_10_code 97 = .ok (.if_icmp .le 94, 3) := by decide +kernel
theorem d1_100 : decode prog_202_method_10_code 100 = .ok (.iload_n 0, 1) := by decide +kernel
theorem d1_101 : decode prog_202_method_10_code 101 = .ok (.sipush 8204, 3) := by decide +kernel
theorem d1_104 : decode prog_202_method_10_code 104 = .ok (.if_icmp .lt 10, 3) := by decide +kernel
theorem d1_107 : decode prog_202_method_10_code 107 = .ok (.iload_n 0, 1) := by decide +kernel
theorem d1_108 : decode prog_202_method_10_code 108 = .ok (.sipush 8205, 3) := by decide +kernel
theorem d1_111 : decode prog_202_method_10_code 111 = .ok (.if_icmp .le 80, 3) := by decide +kernel
theorem d1_114 : decode prog_202_method_10_code 114 = .ok (.iload_n 0, 1) := by decide +kernel
theorem d1_115 : decode prog_202_method_10_code 115 = .ok (.sipush 8304, 3) := by decide +kernel
theorem d1_118 : decode prog_202_method_10_code 118 = .ok (.if_icmp .lt 10, 3) := by decide +kernel
theorem d1_121 : decode prog_202_method_10_code 121 = .ok (.iload_n 0, 1) := by decide +kernel
theorem d1_122 : decode prog_202_method_10_code 122 = .ok (.sipush 8591, 3) := by decide +kernel
theorem d1_125 : decode prog_202_method_10_code 125 = .ok (.if_icmp .le 66, 3) := by decide +kernel
theorem d1_128 : decode prog_202_method_10_code 128 = .ok (.iload_n 0, 1) := by decide +kernel
theorem d1_129 : decode prog_202_method_10_code 129 = .ok (.sipush 11264, 3) := by decide +kernel
theorem d1_132 : decode prog_202_method_10_code 132 = .ok (.if_icmp .lt 10, 3) := by decide +kernel
theorem d1_135 : decode prog_202_method_10_code 135 = .ok (.iload_n 0, 1) := by decide +kernel
theorem d1_136 : decode prog_202_method_10_code 136 = .ok (.sipush 12271, 3) := by decide +kernel
theorem d1_139 : decode prog_202_method_10_code 139 = .ok (.if_icmp .le 52, 3) := by decide +kernel
theorem d1_142 : decode prog_202_method_10_code 142 = .ok (.iload_n 0, 1) := by decide +kernel
theorem d1_143 : decode prog_202_method_10_code 143 = .ok (.sipush 12289, 3) := by decide +kernel
theorem d1_146 : decode prog_202_method_10_code 146 = .ok (.if_icmp .lt 9, 3) := by decide +kernel
theorem d1_149 : decode prog_202_method_10_code 149 = .ok (.iload_n 0, 1) := by decide +kernel
theorem d1_150 : decode prog_202_method_10_code 150 = .ok (.ldc 63, 2) := by decide +kernel
theorem d1_152 : decode prog_202_method_10_code 152 = .ok (.if_icmp .le 39, 3) := by decide +kernel
theorem d1_155 : decode prog_202_method_10_code 155 = .ok (.iload_n 0, 1) := by decide +kernel
theorem d1_156 : decode prog_202_method_10_code 156 = .ok (.ldc 64, 2) := by decide +kernel
theorem d1_158 : decode prog_202_method_10_code 158 = .ok (.if_icmp .lt 9, 3) := by decide +kernel
theorem d1_161 : decode prog_202_method_10_code 161 = .ok (.iload_n 0, 1) := by decide +kernel
theorem d1_162 : decode prog_202_method_10_code 162 = .ok (.ldc 65, 2) := by decide +kernel
theorem d1_164 : decode prog_202_method_10_code 164 = .ok (.if_icmp .le 27, 3) := by decide +kernel
theorem d1_167 : decode prog_202_method_10_code 167 = .ok (.iload_n 0, 1) := by decide +kernel
theorem d1_168 : decode prog_202_method_10_code 168 = .ok (.ldc 66, 2) := by decide +kernel
theorem d1_170 : decode prog_202_method_10_code 170 = .ok (.if_icmp .lt 9, 3) := by decide +kernel
theorem d1_173 : decode prog_202_method_10_code 173 = .ok (.iload_n 0, 1) := by decide +kernel
theorem d1_174 : decode prog_202_method_10_code 174 = .ok (.ldc 67, 2) := by decide +kernel
theorem d1_176 : decode prog_202_method_10_code 176 = .ok (.if_icmp .le 15, 3) := by decide +kernel
theorem d1_179 : decode prog_202_method_10_code 179 = .ok (.iload_n 0, 1) := by decide +kernel
theorem d1_180 : decode prog_202_method_10_code 180 = .ok (.ldc 68, 2) := by decide +kernel
theorem d1_182 : decode prog_202_method_10_code 182 = .ok (.if_icmp .lt 13, 3) := by decide +kernel
theorem d1_185 : decode prog_202_method_10_code 185 = .ok (.iload_n 0, 1) := by decide +kernel
theorem d1_186 : decode prog_202_method_10_code 186 = .ok (.ldc 69, 2) := by decide +kernel
theorem d1_188 : decode prog_202_method_10_code 188 = .ok (.if_icmp .gt 7, 3) := by decide +kernel
theorem d1_191 : decode prog_202_method_10_code 191 = .ok (.iconst 1, 1) := by decide +kernel
theorem d1_192 : decode prog_202_method_10_code 192 = .ok (.goto 4, 3) := by decide +kernel
theorem d1_195 : decode prog_202_method_10_code 195 = .ok (.iconst 0, 1) := by decide +kernel
theorem d1_196 : decode prog_202_method_10_code 196 = .ok (.ireturn, 1) := by decide +kernel
theorem pn_1 : plainName "com/example/riddle/riddle/xdm/QName" = true := by first | (simp [plainName, overriddenIn]; done) | decide +kernel
theorem ef_1 (m : MethodId) (x0 : Int32) : entryFrame m #[(.int x0)] 1 = (mkF m 0 #[.val (.int x0)] []) := by first | (simp [entryFrame, mkF, argsToLocals, Value.category]; done) | rfl
def f1_195 (v0 : Int32) : Int32 := (0 : Int32)
def f1_191 (v0 : Int32) : Int32 := (1 : Int32)
def f1_185 (v0 : Int32) : Int32 := if (983039 : Int32) < v0 then f1_195 v0 else f1_191 v0
def f1_179 (v0 : Int32) : Int32 := if v0 < (65536 : Int32) then f1_195 v0 else f1_185 v0
def f1_173 (v0 : Int32) : Int32 := if (65533 : Int32) < v0 then f1_179 v0 else f1_191 v0
def f1_167 (v0 : Int32) : Int32 := if v0 < (65008 : Int32) then f1_179 v0 else f1_173 v0
def f1_161 (v0 : Int32) : Int32 := if (64975 : Int32) < v0 then f1_167 v0 else f1_191 v0
def f1_155 (v0 : Int32) : Int32 := if v0 < (63744 : Int32) then f1_167 v0 else f1_161 v0
def f1_149 (v0 : Int32) : Int32 := if (55295 : Int32) < v0 then f1_155 v0 else f1_191 v0
def f1_142 (v0 : Int32) : Int32 := if v0 < (12289 : Int32) then f1_155 v0 else f1_149 v0
def f1_135 (v0 : Int32) : Int32 := if (12271 : Int32) < v0 then f1_142 v0 else f1_191 v0
def f1_128 (v0 : Int32) : Int32 := if v0 < (11264 : Int32) then f1_142 v0 else f1_135 v0
def f1_121 (v0 : Int32) : Int32 := if (8591 : Int32) < v0 then f1_128 v0 else f1_191 v0
def f1_114 (v0 : Int32) : Int32 := if v0 < (8304 : Int32) then f1_128 v0 else f1_121 v0
def f1_107 (v0 : Int32) : Int32 := if (8205 : Int32) < v0 then f1_114 v0 else f1_191 v0
def f1_100 (v0 : Int32) : Int32 := if v0 < (8204 : Int32) then f1_114 v0 else f1_107 v0
def f1_93 (v0 : Int32) : Int32 := if (8191 : Int32) < v0 then f1_100 v0 else f1_191 v0
def f1_86 (v0 : Int32) : Int32 := if v0 < (895 : Int32) then f1_100 v0 else f1_93 v0
def f1_79 (v0 : Int32) : Int32 := if (893 : Int32) < v0 then f1_86 v0 else f1_191 v0
def f1_72 (v0 : Int32) : Int32 := if v0 < (880 : Int32) then f1_86 v0 else f1_79 v0
def f1_65 (v0 : Int32) : Int32 := if (767 : Int32) < v0 then f1_72 v0 else f1_191 v0
def f1_58 (v0 : Int32) : Int32 := if v0 < (248 : Int32) then f1_72 v0 else f1_65 v0
def f1_51 (v0 : Int32) : Int32 := if (246 : Int32) < v0 then f1_58 v0 else f1_191 v0
def f1_44 (v0 : Int32) : Int32 := if v0 < (216 : Int32) then f1_58 v0 else f1_51 v0
def f1_37 (v0 : Int32) : Int32 := if (214 : Int32) < v0 then f1_44 v0 else f1_191 v0
def f1_30 (v0 : Int32) : Int32 := if v0 < (192 : Int32) then f1_44 v0 else f1_37 v0
def f1_24 (v0 : Int32) : Int32 := if v0 = (95 : Int32) then f1_191 v0 else f1_30 v0
def f1_18 (v0 : Int32) : Int32 := if (90 : Int32) < v0 then f1_24 v0 else f1_191 v0
def f1_12 (v0 : Int32) : Int32 := if v0 < (65 : Int32) then f1_24 v0 else f1_18 v0
def f1_6 (v0 : Int32) : Int32 := if (122 : Int32) < v0 then f1_12 v0 else f1_191 v0
def f1_0 (v0 : Int32) : Int32 := if v0 < (97 : Int32) then f1_12 v0 else f1_6 v0
section Own1
variable {p : Program} {l : Launch} {e : Env} {R : Room} {s : State} {m : MethodId} {args : Array Value} {below : List Frame} {meth : Method} {c : Code} {T : State} {locs : List Loc} {cells slots : Nat} {Z : State} {a0 : Array Value}
theorem g1_195 (X : Stand p l e R s m args below meth c T locs cells slots) (hx : p.tables.exec = Jvm.exec) (hby : c.code = prog_202_method_10_code) (hret : meth.sig.returnType = some .boolean) (hZ : Z.Warmed39 s.vm) (hown : s.vm.findClass "com/example/riddle/riddle/xdm/QName" = some m.cls) (hw : ∀ d ∈ tables_1, d.before a0 Z = true) (v0 : Int32) {fs : List Frame} (hl : own_Rt e T m fs (.int (f1_195 v0))) : Steps p.tables e below (T.setTop (mkF m 195 #[.val (.int v0)] [])) (T.setFrames fs) := by
  show Steps p.tables e below (T.setTop (mkF m 195 #[.val (.int v0)] [])) _
  refine XS.iconst X.here hx rfl (hb hby d1_195) ?_
  show Steps p.tables e below (T.setTop (mkF m 196 #[.val (.int v0)] [(.int (0 : Int32))])) _
  exact retN X hx (t := .boolean) hret (by simp) (hb hby d1_196) hl
theorem g1_191 (X : Stand p l e R s m args below meth c T locs cells slots) (hx : p.tables.exec = Jvm.exec) (hby : c.code = prog_202_method_10_code) (hret : meth.sig.returnType = some .boolean) (hZ : Z.Warmed39 s.vm) (hown : s.vm.findClass "com/example/riddle/riddle/xdm/QName" = some m.cls) (hw : ∀ d ∈ tables_1, d.before a0 Z = true) (v0 : Int32) {fs : List Frame} (hl : own_Rt e T m fs (.int (f1_191 v0))) : Steps p.tables e below (T.setTop (mkF m 191 #[.val (.int v0)] [])) (T.setFrames fs) := by
  show Steps p.tables e below (T.setTop (mkF m 191 #[.val (.int v0)] [])) _
  refine XS.iconst X.here hx rfl (hb hby d1_191) ?_
  show Steps p.tables e below (T.setTop (mkF m 192 #[.val (.int v0)] [(.int (1 : Int32))])) _
  refine XS.goto X.here hx rfl (pc0 := 192) (pc' := 196) rfl (hb hby d1_192) (by decide) (by decide) ?_
  show Steps p.tables e below (T.setTop (mkF m 196 #[.val (.int v0)] [(.int (1 : Int32))])) _
  exact retN X hx (t := .boolean) hret (by simp) (hb hby d1_196) hl
theorem g1_185 (X : Stand p l e R s m args below meth c T locs cells slots) (hx : p.tables.exec = Jvm.exec) (hby : c.code = prog_202_method_10_code) (hret : meth.sig.returnType = some .boolean) (hZ : Z.Warmed39 s.vm) (hown : s.vm.findClass "com/example/riddle/riddle/xdm/QName" = some m.cls) (hw : ∀ d ∈ tables_1, d.before a0 Z = true) (v0 : Int32) {fs : List Frame} (hl : own_Rt e T m fs (.int (f1_185 v0))) : Steps p.tables e below (T.setTop (mkF m 185 #[.val (.int v0)] [])) (T.setFrames fs) := by
  show Steps p.tables e below (T.setTop (mkF m 185 #[.val (.int v0)] [])) _
  refine XS.iloadN X.here hx rfl (hb hby d1_185) rfl ?_
  show Steps p.tables e below (T.setTop (mkF m 186 #[.val (.int v0)] [(.int v0)])) _
  refine X.ldcI hx hown (mv hZ (hw _ (List.mem_of_getElem? (i := 26) rfl))) rfl (hb hby d1_186) ?_
  show Steps p.tables e below (T.setTop (mkF m 188 #[.val (.int v0)] [(.int (983039 : Int32)), (.int v0)])) _
  by_cases hc : (983039 : Int32) < v0
  · rw [show f1_185 v0 = f1_195 v0 from if_pos hc] at hl
    refine XS.icmpYes X.here hx rfl (pc0 := 188) (pc' := 195) rfl (hb hby d1_188) rfl (tlt hc).2.2.1 (by decide) (by decide) ?_
    exact g1_195 X hx hby hret hZ hown hw v0 hl
  · rw [show f1_185 v0 = f1_191 v0 from if_neg hc] at hl
    refine XS.icmpNo X.here hx rfl (hb hby d1_188) rfl (flt hc).2.2.1 ?_
    exact g1_191 X hx hby hret hZ hown hw v0 hl
theorem g1_179 (X : Stand p l e R s m args below meth c T locs cells slots) (hx : p.tables.exec = Jvm.exec) (hby : c.code = prog_202_method_10_code) (hret : meth.sig.returnType = some .boolean) (hZ : Z.Warmed39 s.vm) (hown : s.vm.findClass "com/example/riddle/riddle/xdm/QName" = some m.cls) (hw : ∀ d ∈ tables_1, d.before a0 Z = true) (v0 : Int32) {fs : List Frame} (hl : own_Rt e T m fs (.int (f1_179 v0))) : Steps p.tables e below (T.setTop (mkF m 179 #[.val (.int v0)] [])) (T.setFrames fs) := by
  show Steps p.tables e below (T.setTop (mkF m 179 #[.val (.int v0)] [])) _
  refine XS.iloadN X.here hx rfl (hb hby d1_179) rfl ?_
  show Steps p.tables e below (T.setTop (mkF m 180 #[.val (.int v0)] [(.int v0)])) _
  refine X.ldcI hx hown (mv hZ (hw _ (List.mem_of_getElem? (i := 17) rfl))) rfl (hb hby d1_180) ?_
  show Steps p.tables e below (T.setTop (mkF m 182 #[.val (.int v0)] [(.int (65536 : Int32)), (.int v0)])) _
  by_cases hc : v0 < (65536 : Int32)
  · rw [show f1_179 v0 = f1_195 v0 from if_pos hc] at hl
    refine XS.icmpYes X.here hx rfl (pc0 := 182) (pc' := 195) rfl (hb hby d1_182) rfl (tlt hc).1 (by decide) (by decide) ?_
    exact g1_195 X hx hby hret hZ hown hw v0 hl
  · rw [show f1_179 v0 = f1_185 v0 from if_neg hc] at hl
    refine XS.icmpNo X.here hx rfl (hb hby d1_182) rfl (flt hc).1 ?_
    exact g1_185 X hx hby hret hZ hown hw v0 hl
theorem g1_173 (X : Stand p l e R s m args below meth c T locs cells slots) (hx : p.tables.exec = Jvm.exec) (hby : c.code = prog_202_method_10_code) (hret : meth.sig.returnType = some .boolean) (hZ : Z.Warmed39 s.vm) (hown : s.vm.findClass "com/example/riddle/riddle/xdm/QName" = some m.cls) (hw : ∀ d ∈ tables_1, d.before a0 Z = true) (v0 : Int32) {fs : List Frame} (hl : own_Rt e T m fs (.int (f1_173 v0))) : Steps p.tables e below (T.setTop (mkF m 173 #[.val (.int v0)] [])) (T.setFrames fs) := by
  show Steps p.tables e below (T.setTop (mkF m 173 #[.val (.int v0)] [])) _
  refine XS.iloadN X.here hx rfl (hb hby d1_173) rfl ?_
  show Steps p.tables e below (T.setTop (mkF m 174 #[.val (.int v0)] [(.int v0)])) _
  refine X.ldcI hx hown (mv hZ (hw _ (List.mem_of_getElem? (i := 25) rfl))) rfl (hb hby d1_174) ?_
  show Steps p.tables e below (T.setTop (mkF m 176 #[.val (.int v0)] [(.int (65533 : Int32)), (.int v0)])) _
  by_cases hc : (65533 : Int32) < v0
  · rw [show f1_173 v0 = f1_179 v0 from if_pos hc] at hl
    refine XS.icmpNo X.here hx rfl (hb hby d1_176) rfl (tlt hc).2.2.2 ?_
    exact g1_179 X hx hby hret hZ hown hw v0 hl
  · rw [show f1_173 v0 = f1_191 v0 from if_neg hc] at hl
    refine XS.icmpYes X.here hx rfl (pc0 := 176) (pc' := 191) rfl (hb hby d1_176) rfl (flt hc).2.2.2 (by decide) (by decide) ?_
    exact g1_191 X hx hby hret hZ hown hw v0 hl
theorem g1_167 (X : Stand p l e R s m args below meth c T locs cells slots) (hx : p.tables.exec = Jvm.exec) (hby : c.code = prog_202_method_10_code) (hret : meth.sig.returnType = some .boolean) (hZ : Z.Warmed39 s.vm) (hown : s.vm.findClass "com/example/riddle/riddle/xdm/QName" = some m.cls) (hw : ∀ d ∈ tables_1, d.before a0 Z = true) (v0 : Int32) {fs : List Frame} (hl : own_Rt e T m fs (.int (f1_167 v0))) : Steps p.tables e below (T.setTop (mkF m 167 #[.val (.int v0)] [])) (T.setFrames fs) := by
  show Steps p.tables e below (T.setTop (mkF m 167 #[.val (.int v0)] [])) _
  refine XS.iloadN X.here hx rfl (hb hby d1_167) rfl ?_
  show Steps p.tables e below (T.setTop (mkF m 168 #[.val (.int v0)] [(.int v0)])) _
  refine X.ldcI hx hown (mv hZ (hw _ (List.mem_of_getElem? (i := 16) rfl))) rfl (hb hby d1_168) ?_
  show Steps p.tables e below (T.setTop (mkF m 170 #[.val (.int v0)] [(.int (65008 : Int32)), (.int v0)])) _
  by_cases hc : v0 < (65008 : Int32)
  · rw [show f1_167 v0 = f1_179 v0 from if_pos hc] at hl
    refine XS.icmpYes X.here hx rfl (pc0 := 170) (pc' := 179) rfl (hb hby d1_170) rfl (tlt hc).1 (by decide) (by decide) ?_
    exact g1_179 X hx hby hret hZ hown hw v0 hl
  · rw [show f1_167 v0 = f1_173 v0 from if_neg hc] at hl
    refine XS.icmpNo X.here hx rfl (hb hby d1_170) rfl (flt hc).1 ?_
    exact g1_173 X hx hby hret hZ hown hw v0 hl
theorem g1_161 (X : Stand p l e R s m args below meth c T locs cells slots) (hx : p.tables.exec = Jvm.exec) (hby : c.code = prog_202_method_10_code) (hret : meth.sig.returnType = some .boolean) (hZ : Z.Warmed39 s.vm) (hown : s.vm.findClass "com/example/riddle/riddle/xdm/QName" = some m.cls) (hw : ∀ d ∈ tables_1, d.before a0 Z = true) (v0 : Int32) {fs : List Frame} (hl : own_Rt e T m fs (.int (f1_161 v0))) : Steps p.tables e below (T.setTop (mkF m 161 #[.val (.int v0)] [])) (T.setFrames fs) := by
  show Steps p.tables e below (T.setTop (mkF m 161 #[.val (.int v0)] [])) _
  refine XS.iloadN X.here hx rfl (hb hby d1_161) rfl ?_
  show Steps p.tables e below (T.setTop (mkF m 162 #[.val (.int v0)] [(.int v0)])) _
  refine X.ldcI hx hown (mv hZ (hw _ (List.mem_of_getElem? (i := 24) rfl))) rfl (hb hby d1_162) ?_
  show Steps p.tables e below (T.setTop (mkF m 164 #[.val (.int v0)] [(.int (64975 : Int32)), (.int v0)])) _
  by_cases hc : (64975 : Int32) < v0
  · rw [show f1_161 v0 = f1_167 v0 from if_pos hc] at hl
    refine XS.icmpNo X.here hx rfl (hb hby d1_164) rfl (tlt hc).2.2.2 ?_
    exact g1_167 X hx hby hret hZ hown hw v0 hl
  · rw [show f1_161 v0 = f1_191 v0 from if_neg hc] at hl
    refine XS.icmpYes X.here hx rfl (pc0 := 164) (pc' := 191) rfl (hb hby d1_164) rfl (flt hc).2.2.2 (by decide) (by decide) ?_
    exact g1_191 X hx hby hret hZ hown hw v0 hl
theorem g1_155 (X : Stand p l e R s m args below meth c T locs cells slots) (hx : p.tables.exec = Jvm.exec) (hby : c.code = prog_202_method_10_code) (hret : meth.sig.returnType = some .boolean) (hZ : Z.Warmed39 s.vm) (hown : s.vm.findClass "com/example/riddle/riddle/xdm/QName" = some m.cls) (hw : ∀ d ∈ tables_1, d.before a0 Z = true) (v0 : Int32) {fs : List Frame} (hl : own_Rt e T m fs (.int (f1_155 v0))) : Steps p.tables e below (T.setTop (mkF m 155 #[.val (.int v0)] [])) (T.setFrames fs) := by
  show Steps p.tables e below (T.setTop (mkF m 155 #[.val (.int v0)] [])) _
  refine XS.iloadN X.here hx rfl (hb hby d1_155) rfl ?_
  show Steps p.tables e below (T.setTop (mkF m 156 #[.val (.int v0)] [(.int v0)])) _
  refine X.ldcI hx hown (mv hZ (hw _ (List.mem_of_getElem? (i := 15) rfl))) rfl (hb hby d1_156) ?_
  show Steps p.tables e below (T.setTop (mkF m 158 #[.val (.int v0)] [(.int (63744 : Int32)), (.int v0)])) _
  by_cases hc : v0 < (63744 : Int32)
  · rw [show f1_155 v0 = f1_167 v0 from if_pos hc] at hl
    refine XS.icmpYes X.here hx rfl (pc0 := 158) (pc' := 167) rfl (hb hby d1_158) rfl (tlt hc).1 (by decide) (by decide) ?_
    exact g1_167 X hx hby hret hZ hown hw v0 hl
  · rw [show f1_155 v0 = f1_161 v0 from if_neg hc] at hl
    refine XS.icmpNo X.here hx rfl (hb hby d1_158) rfl (flt hc).1 ?_
    exact g1_161 X hx hby hret hZ hown hw v0 hl
theorem g1_149 (X : Stand p l e R s m args below meth c T locs cells slots) (hx : p.tables.exec = Jvm.exec) (hby : c.code = prog_202_method_10_code) (hret : meth.sig.returnType = some .boolean) (hZ : Z.Warmed39 s.vm) (hown : s.vm.findClass "com/example/riddle/riddle/xdm/QName" = some m.cls) (hw : ∀ d ∈ tables_1, d.before a0 Z = true) (v0 : Int32) {fs : List Frame} (hl : own_Rt e T m fs (.int (f1_149 v0))) : Steps p.tables e below (T.setTop (mkF m 149 #[.val (.int v0)] [])) (T.setFrames fs) := by
  show Steps p.tables e below (T.setTop (mkF m 149 #[.val (.int v0)] [])) _
  refine XS.iloadN X.here hx rfl (hb hby d1_149) rfl ?_
  show Steps p.tables e below (T.setTop (mkF m 150 #[.val (.int v0)] [(.int v0)])) _
  refine X.ldcI hx hown (mv hZ (hw _ (List.mem_of_getElem? (i := 23) rfl))) rfl (hb hby d1_150) ?_
  show Steps p.tables e below (T.setTop (mkF m 152 #[.val (.int v0)] [(.int (55295 : Int32)), (.int v0)])) _
  by_cases hc : (55295 : Int32) < v0
  · rw [show f1_149 v0 = f1_155 v0 from if_pos hc] at hl
    refine XS.icmpNo X.here hx rfl (hb hby d1_152) rfl (tlt hc).2.2.2 ?_
    exact g1_155 X hx hby hret hZ hown hw v0 hl
  · rw [show f1_149 v0 = f1_191 v0 from if_neg hc] at hl
    refine XS.icmpYes X.here hx rfl (pc0 := 152) (pc' := 191) rfl (hb hby d1_152) rfl (flt hc).2.2.2 (by decide) (by decide) ?_
    exact g1_191 X hx hby hret hZ hown hw v0 hl
theorem g1_142 (X : Stand p l e R s m args below meth c T locs cells slots) (hx : p.tables.exec = Jvm.exec) (hby : c.code = prog_202_method_10_code) (hret : meth.sig.returnType = some .boolean) (hZ : Z.Warmed39 s.vm) (hown : s.vm.findClass "com/example/riddle/riddle/xdm/QName" = some m.cls) (hw : ∀ d ∈ tables_1, d.before a0 Z = true) (v0 : Int32) {fs : List Frame} (hl : own_Rt e T m fs (.int (f1_142 v0))) : Steps p.tables e below (T.setTop (mkF m 142 #[.val (.int v0)] [])) (T.setFrames fs) := by
  show Steps p.tables e below (T.setTop (mkF m 142 #[.val (.int v0)] [])) _
  refine XS.iloadN X.here hx rfl (hb hby d1_142) rfl ?_
  show Steps p.tables e below (T.setTop (mkF m 143 #[.val (.int v0)] [(.int v0)])) _
  refine XS.sipush X.here hx rfl (hb hby d1_143) ?_
  show Steps p.tables e below (T.setTop (mkF m 146 #[.val (.int v0)] [(.int (12289 : Int32)), (.int v0)])) _
  by_cases hc : v0 < (12289 : Int32)
  · rw [show f1_142 v0 = f1_155 v0 from if_pos hc] at hl
    refine XS.icmpYes X.here hx rfl (pc0 := 146) (pc' := 155) rfl (hb hby d1_146) rfl (tlt hc).1 (by decide) (by decide) ?_
    exact g1_155 X hx hby hret hZ hown hw v0 hl
  · rw [show f1_142 v0 = f1_149 v0 from if_neg hc] at hl
    refine XS.icmpNo X.here hx rfl (hb hby d1_146) rfl (flt hc).1 ?_
    exact g1_149 X hx hby hret hZ hown hw v0 hl
theorem g1_135 (X : Stand p l e R s m args below meth c T locs cells slots) (hx : p.tables.exec = Jvm.exec) (hby : c.code = prog_202_method_10_code) (hret : meth.sig.returnType = some .boolean) (hZ : Z.Warmed39 s.vm) (hown : s.vm.findClass "com/example/riddle/riddle/xdm/QName" = some m.cls) (hw : ∀ d ∈ tables_1, d.before a0 Z = true) (v0 : Int32) {fs : List Frame} (hl : own_Rt e T m fs (.int (f1_135 v0))) : Steps p.tables e below (T.setTop (mkF m 135 #[.val (.int v0)] [])) (T.setFrames fs) := by
  show Steps p.tables e below (T.setTop (mkF m 135 #[.val (.int v0)] [])) _
  refine XS.iloadN X.here hx rfl (hb hby d1_135) rfl ?_
  show Steps p.tables e below (T.setTop (mkF m 136 #[.val (.int v0)] [(.int v0)])) _
  refine XS.sipush X.here hx rfl (hb hby d1_136) ?_
  show Steps p.tables e below (T.setTop (mkF m 139 #[.val (.int v0)] [(.int (12271 : Int32)), (.int v0)])) _
  by_cases hc : (12271 : Int32) < v0
  · rw [show f1_135 v0 = f1_142 v0 from if_pos hc] at hl
    refine XS.icmpNo X.here hx rfl (hb hby d1_139) rfl (tlt hc).2.2.2 ?_
    exact g1_142 X hx hby hret hZ hown hw v0 hl
  · rw [show f1_135 v0 = f1_191 v0 from if_neg hc] at hl
    refine XS.icmpYes X.here hx rfl (pc0 := 139) (pc' := 191) rfl (hb hby d1_139) rfl (flt hc).2.2.2 (by decide) (by decide) ?_
    exact g1_191 X hx hby hret hZ hown hw v0 hl
theorem g1_128 (X : Stand p l e R s m args below meth c T locs cells slots) (hx : p.tables.exec = Jvm.exec) (hby : c.code = prog_202_method_10_code) (hret : meth.sig.returnType = some .boolean) (hZ : Z.Warmed39 s.vm) (hown : s.vm.findClass "com/example/riddle/riddle/xdm/QName" = some m.cls) (hw : ∀ d ∈ tables_1, d.before a0 Z = true) (v0 : Int32) {fs : List Frame} (hl : own_Rt e T m fs (.int (f1_128 v0))) : Steps p.tables e below (T.setTop (mkF m 128 #[.val (.int v0)] [])) (T.setFrames fs) := by
  show Steps p.tables e below (T.setTop (mkF m 128 #[.val (.int v0)] [])) _
  refine XS.iloadN X.here hx rfl (hb hby d1_128) rfl ?_
  show Steps p.tables e below (T.setTop (mkF m 129 #[.val (.int v0)] [(.int v0)])) _
  refine XS.sipush X.here hx rfl (hb hby d1_129) ?_
  show Steps p.tables e below (T.setTop (mkF m 132 #[.val (.int v0)] [(.int (11264 : Int32)), (.int v0)])) _
  by_cases hc : v0 < (11264 : Int32)
  · rw [show f1_128 v0 = f1_142 v0 from if_pos hc] at hl
    refine XS.icmpYes X.here hx rfl (pc0 := 132) (pc' := 142) rfl (hb hby d1_132) rfl (tlt hc).1 (by decide) (by decide) ?_
    exact g1_142 X hx hby hret hZ hown hw v0 hl
  · rw [show f1_128 v0 = f1_135 v0 from if_neg hc] at hl
    refine XS.icmpNo X.here hx rfl (hb hby d1_132) rfl (flt hc).1 ?_
    exact g1_135 X hx hby hret hZ hown hw v0 hl
theorem g1_121 (X : Stand p l e R s m args below meth c T locs cells slots) (hx : p.tables.exec = Jvm.exec) (hby : c.code = prog_202_method_10_code) (hret : meth.sig.returnType = some .boolean) (hZ : Z.Warmed39 s.vm) (hown : s.vm.findClass "com/example/riddle/riddle/xdm/QName" = some m.cls) (hw : ∀ d ∈ tables_1, d.before a0 Z = true) (v0 : Int32) {fs : List Frame} (hl : own_Rt e T m fs (.int (f1_121 v0))) : Steps p.tables e below (T.setTop (mkF m 121 #[.val (.int v0)] [])) (T.setFrames fs) := by
  show Steps p.tables e below (T.setTop (mkF m 121 #[.val (.int v0)] [])) _
  refine XS.iloadN X.here hx rfl (hb hby d1_121) rfl ?_
  show Steps p.tables e below (T.setTop (mkF m 122 #[.val (.int v0)] [(.int v0)])) _
  refine XS.sipush X.here hx rfl (hb hby d1_122) ?_
  show Steps p.tables e below (T.setTop (mkF m 125 #[.val (.int v0)] [(.int (8591 : Int32)), (.int v0)])) _
  by_cases hc : (8591 : Int32) < v0
  · rw [show f1_121 v0 = f1_128 v0 from if_pos hc] at hl
    refine XS.icmpNo X.here hx rfl (hb hby d1_125) rfl (tlt hc).2.2.2 ?_
    exact g1_128 X hx hby hret hZ hown hw v0 hl
  · rw [show f1_121 v0 = f1_191 v0 from if_neg hc] at hl
    refine XS.icmpYes X.here hx rfl (pc0 := 125) (pc' := 191) rfl (hb hby d1_125) rfl (flt hc).2.2.2 (by decide) (by decide) ?_
    exact g1_191 X hx hby hret hZ hown hw v0 hl
theorem g1_114 (X : Stand p l e R s m args below meth c T locs cells slots) (hx : p.tables.exec = Jvm.exec) (hby : c.code = prog_202_method_10_code) (hret : meth.sig.returnType = some .boolean) (hZ : Z.Warmed39 s.vm) (hown : s.vm.findClass "com/example/riddle/riddle/xdm/QName" = some m.cls) (hw : ∀ d ∈ tables_1, d.before a0 Z = true) (v0 : Int32) {fs : List Frame} (hl : own_Rt e T m fs (.int (f1_114 v0))) : Steps p.tables e below (T.setTop (mkF m 114 #[.val (.int v0)] [])) (T.setFrames fs) := by
  show Steps p.tables e below (T.setTop (mkF m 114 #[.val (.int v0)] [])) _
  refine XS.iloadN X.here hx rfl (hb hby d1_114) rfl ?_
  show Steps p.tables e below (T.setTop (mkF m 115 #[.val (.int v0)] [(.int v0)])) _
  refine XS.sipush X.here hx rfl (hb hby d1_115) ?_
  show Steps p.tables e below (T.setTop (mkF m 118 #[.val (.int v0)] [(.int (8304 : Int32)), (.int v0)])) _
  by_cases hc : v0 < (8304 : Int32)
  · rw [show f1_114 v0 = f1_128 v0 from if_pos hc] at hl
    refine XS.icmpYes X.here hx rfl (pc0 := 118) (pc' := 128) rfl (hb hby d1_118) rfl (tlt hc).1 (by decide) (by decide) ?_
    exact g1_128 X hx hby hret hZ hown hw v0 hl
  · rw [show f1_114 v0 = f1_121 v0 from if_neg hc] at hl
    refine XS.icmpNo X.here hx rfl (hb hby d1_118) rfl (flt hc).1 ?_
    exact g1_121 X hx hby hret hZ hown hw v0 hl
theorem g1_107 (X : Stand p l e R s m args below meth c T locs cells slots) (hx : p.tables.exec = Jvm.exec) (hby : c.code = prog_202_method_10_code) (hret : meth.sig.returnType = some .boolean) (hZ : Z.Warmed39 s.vm) (hown : s.vm.findClass "com/example/riddle/riddle/xdm/QName" = some m.cls) (hw : ∀ d ∈ tables_1, d.before a0 Z = true) (v0 : Int32) {fs : List Frame} (hl : own_Rt e T m fs (.int (f1_107 v0))) : Steps p.tables e below (T.setTop (mkF m 107 #[.val (.int v0)] [])) (T.setFrames fs) := by
  show Steps p.tables e below (T.setTop (mkF m 107 #[.val (.int v0)] [])) _
  refine XS.iloadN X.here hx rfl (hb hby d1_107) rfl ?_
  show Steps p.tables e below (T.setTop (mkF m 108 #[.val (.int v0)] [(.int v0)])) _
  refine XS.sipush X.here hx rfl (hb hby d1_108) ?_
  show Steps p.tables e below (T.setTop (mkF m 111 #[.val (.int v0)] [(.int (8205 : Int32)), (.int v0)])) _
  by_cases hc : (8205 : Int32) < v0
  · rw [show f1_107 v0 = f1_114 v0 from if_pos hc] at hl
    refine XS.icmpNo X.here hx rfl (hb hby d1_111) rfl (tlt hc).2.2.2 ?_
    exact g1_114 X hx hby hret hZ hown hw v0 hl
  · rw [show f1_107 v0 = f1_191 v0 from if_neg hc] at hl
    refine XS.icmpYes X.here hx rfl (pc0 := 111) (pc' := 191) rfl (hb hby d1_111) rfl (flt hc).2.2.2 (by decide) (by decide) ?_
    exact g1_191 X hx hby hret hZ hown hw v0 hl
theorem g1_100 (X : Stand p l e R s m args below meth c T locs cells slots) (hx : p.tables.exec = Jvm.exec) (hby : c.code = prog_202_method_10_code) (hret : meth.sig.returnType = some .boolean) (hZ : Z.Warmed39 s.vm) (hown : s.vm.findClass "com/example/riddle/riddle/xdm/QName" = some m.cls) (hw : ∀ d ∈ tables_1, d.before a0 Z = true) (v0 : Int32) {fs : List Frame} (hl : own_Rt e T m fs (.int (f1_100 v0))) : Steps p.tables e below (T.setTop (mkF m 100 #[.val (.int v0)] [])) (T.setFrames fs) := by
  show Steps p.tables e below (T.setTop (mkF m 100 #[.val (.int v0)] [])) _
  refine XS.iloadN X.here hx rfl (hb hby d1_100) rfl ?_
  show Steps p.tables e below (T.setTop (mkF m 101 #[.val (.int v0)] [(.int v0)])) _
  refine XS.sipush X.here hx rfl (hb hby d1_101) ?_
  show Steps p.tables e below (T.setTop (mkF m 104 #[.val (.int v0)] [(.int (8204 : Int32)), (.int v0)])) _
  by_cases hc : v0 < (8204 : Int32)
  · rw [show f1_100 v0 = f1_114 v0 from if_pos hc] at hl
    refine XS.icmpYes X.here hx rfl (pc0 := 104) (pc' := 114) rfl (hb hby d1_104) rfl (tlt hc).1 (by decide) (by decide) ?_
    exact g1_114 X hx hby hret hZ hown hw v0 hl
  · rw [show f1_100 v0 = f1_107 v0 from if_neg hc] at hl
    refine XS.icmpNo X.here hx rfl (hb hby d1_104) rfl (flt hc).1 ?_
    exact g1_107 X hx hby hret hZ hown hw v0 hl
theorem g1_93 (X : Stand p l e R s m args below meth c T locs cells slots) (hx : p.tables.exec = Jvm.exec) (hby : c.code = prog_202_method_10_code) (hret : meth.sig.returnType = some .boolean) (hZ : Z.Warmed39 s.vm) (hown : s.vm.findClass "com/example/riddle/riddle/xdm/QName" = some m.cls) (hw : ∀ d ∈ tables_1, d.before a0 Z = true) (v0 : Int32) {fs : List Frame} (hl : own_Rt e T m fs (.int (f1_93 v0))) : Steps p.tables e below (T.setTop (mkF m 93 #[.val (.int v0)] [])) (T.setFrames fs) := by
  show Steps p.tables e below (T.setTop (mkF m 93 #[.val (.int v0)] [])) _
  refine XS.iloadN X.here hx rfl (hb hby d1_93) rfl ?_
  show Steps p.tables e below (T.setTop (mkF m 94 #[.val (.int v0)] [(.int v0)])) _
  refine XS.sipush X.here hx rfl (hb hby d1_94) ?_
  show Steps p.tables e below (T.setTop (mkF m 97 #[.val (.int v0)] [(.int (8191 : Int32)), (.int v0)])) _
  by_cases hc : (8191 : Int32) < v0
  · rw [show f1_93 v0 = f1_100 v0 from if_pos hc] at hl
    refine XS.icmpNo X.here hx rfl (hb hby d1_97) rfl (tlt hc).2.2.2 ?_
    exact g1_100 X hx hby hret hZ hown hw v0 hl
  · rw [show f1_93 v0 = f1_191 v0 from if_neg hc] at hl
    refine XS.icmpYes X.here hx rfl (pc0 := 97) (pc' := 191) rfl (hb hby d1_97) rfl (flt hc).2.2.2 (by decide) (by decide) ?_
    exact g1_191 X hx hby hret hZ hown hw v0 hl
theorem g1_86 (X : Stand p l e R s m args below meth c T locs cells slots) (hx : p.tables.exec = Jvm.exec) (hby : c.code = prog_202_method_10_code) (hret : meth.sig.returnType = some .boolean) (hZ : Z.Warmed39 s.vm) (hown : s.vm.findClass "com/example/riddle/riddle/xdm/QName" = some m.cls) (hw : ∀ d ∈ tables_1, d.before a0 Z = true) (v0 : Int32) {fs : List Frame} (hl : own_Rt e T m fs (.int (f1_86 v0))) : Steps p.tables e below (T.setTop (mkF m 86 #[.val (.int v0)] [])) (T.setFrames fs) := by
  show Steps p.tables e below (T.setTop (mkF m 86 #[.val (.int v0)] [])) _
  refine XS.iloadN X.here hx rfl (hb hby d1_86) rfl ?_
  show Steps p.tables e below (T.setTop (mkF m 87 #[.val (.int v0)] [(.int v0)])) _
  refine XS.sipush X.here hx rfl (hb hby d1_87) ?_
  show Steps p.tables e below (T.setTop (mkF m 90 #[.val (.int v0)] [(.int (895 : Int32)), (.int v0)])) _
  by_cases hc : v0 < (895 : Int32)
  · rw [show f1_86 v0 = f1_100 v0 from if_pos hc] at hl
    refine XS.icmpYes X.here hx rfl (pc0 := 90) (pc' := 100) rfl (hb hby d1_90) rfl (tlt hc).1 (by decide) (by decide) ?_
    exact g1_100 X hx hby hret hZ hown hw v0 hl
  · rw [show f1_86 v0 = f1_93 v0 from if_neg hc] at hl
    refine XS.icmpNo X.here hx rfl (hb hby d1_90) rfl (flt hc).1 ?_
    exact g1_93 X hx hby hret hZ hown hw v0 hl
theorem g1_79 (X : Stand p l e R s m args below meth c T locs cells slots) (hx : p.tables.exec = Jvm.exec) (hby : c.code = prog_202_method_10_code) (hret : meth.sig.returnType = some .boolean) (hZ : Z.Warmed39 s.vm) (hown : s.vm.findClass "com/example/riddle/riddle/xdm/QName" = some m.cls) (hw : ∀ d ∈ tables_1, d.before a0 Z = true) (v0 : Int32) {fs : List Frame} (hl : own_Rt e T m fs (.int (f1_79 v0))) : Steps p.tables e below (T.setTop (mkF m 79 #[.val (.int v0)] [])) (T.setFrames fs) := by
  show Steps p.tables e below (T.setTop (mkF m 79 #[.val (.int v0)] [])) _
  refine XS.iloadN X.here hx rfl (hb hby d1_79) rfl ?_
  show Steps p.tables e below (T.setTop (mkF m 80 #[.val (.int v0)] [(.int v0)])) _
  refine XS.sipush X.here hx rfl (hb hby d1_80) ?_
  show Steps p.tables e below (T.setTop (mkF m 83 #[.val (.int v0)] [(.int (893 : Int32)), (.int v0)])) _
  by_cases hc : (893 : Int32) < v0
  · rw [show f1_79 v0 = f1_86 v0 from if_pos hc] at hl
    refine XS.icmpNo X.here hx rfl (hb hby d1_83) rfl (tlt hc).2.2.2 ?_
    exact g1_86 X hx hby hret hZ hown hw v0 hl
  · rw [show f1_79 v0 = f1_191 v0 from if_neg hc] at hl
    refine XS.icmpYes X.here hx rfl (pc0 := 83) (pc' := 191) rfl (hb hby d1_83) rfl (flt hc).2.2.2 (by decide) (by decide) ?_
    exact g1_191 X hx hby hret hZ hown hw v0 hl
theorem g1_72 (X : Stand p l e R s m args below meth c T locs cells slots) (hx : p.tables.exec = Jvm.exec) (hby : c.code = prog_202_method_10_code) (hret : meth.sig.returnType = some .boolean) (hZ : Z.Warmed39 s.vm) (hown : s.vm.findClass "com/example/riddle/riddle/xdm/QName" = some m.cls) (hw : ∀ d ∈ tables_1, d.before a0 Z = true) (v0 : Int32) {fs : List Frame} (hl : own_Rt e T m fs (.int (f1_72 v0))) : Steps p.tables e below (T.setTop (mkF m 72 #[.val (.int v0)] [])) (T.setFrames fs) := by
  show Steps p.tables e below (T.setTop (mkF m 72 #[.val (.int v0)] [])) _
  refine XS.iloadN X.here hx rfl (hb hby d1_72) rfl ?_
  show Steps p.tables e below (T.setTop (mkF m 73 #[.val (.int v0)] [(.int v0)])) _
  refine XS.sipush X.here hx rfl (hb hby d1_73) ?_
  show Steps p.tables e below (T.setTop (mkF m 76 #[.val (.int v0)] [(.int (880 : Int32)), (.int v0)])) _
  by_cases hc : v0 < (880 : Int32)
  · rw [show f1_72 v0 = f1_86 v0 from if_pos hc] at hl
    refine XS.icmpYes X.here hx rfl (pc0 := 76) (pc' := 86) rfl (hb hby d1_76) rfl (tlt hc).1 (by decide) (by decide) ?_
    exact g1_86 X hx hby hret hZ hown hw v0 hl
  · rw [show f1_72 v0 = f1_79 v0 from if_neg hc] at hl
    refine XS.icmpNo X.here hx rfl (hb hby d1_76) rfl (flt hc).1 ?_
    exact g1_79 X hx hby hret hZ hown hw v0 hl
theorem g1_65 (X : Stand p l e R s m args below meth c T locs cells slots) (hx : p.tables.exec = Jvm.exec) (hby : c.code = prog_202_method_10_code) (hret : meth.sig.returnType = some .boolean) (hZ : Z.Warmed39 s.vm) (hown : s.vm.findClass "com/example/riddle/riddle/xdm/QName" = some m.cls) (hw : ∀ d ∈ tables_1, d.before a0 Z = true) (v0 : Int32) {fs : List Frame} (hl : own_Rt e T m fs (.int (f1_65 v0))) : Steps p.tables e below (T.setTop (mkF m 65 #[.val (.int v0)] [])) (T.setFrames fs) := by
  show Steps p.tables e below (T.setTop (mkF m 65 #[.val (.int v0)] [])) _
  refine XS.iloadN X.here hx rfl (hb hby d1_65) rfl ?_
  show Steps p.tables e below (T.setTop (mkF m 66 #[.val (.int v0)] [(.int v0)])) _
  refine XS.sipush X.here hx rfl (hb hby d1_66) ?_
  show Steps p.tables e below (T.setTop (mkF m 69 #[.val (.int v0)] [(.int (767 : Int32)), (.int v0)])) _
  by_cases hc : (767 : Int32) < v0
  · rw [show f1_65 v0 = f1_72 v0 from if_pos hc] at hl
    refine XS.icmpNo X.here hx rfl (hb hby d1_69) rfl (tlt hc).2.2.2 ?_
    exact g1_72 X hx hby hret hZ hown hw v0 hl
  · rw [show f1_65 v0 = f1_191 v0 from if_neg hc] at hl
    refine XS.icmpYes X.here hx rfl (pc0 := 69) (pc' := 191) rfl (hb hby d1_69) rfl (flt hc).2.2.2 (by decide) (by decide) ?_
    exact g1_191 X hx hby hret hZ hown hw v0 hl
theorem g1_58 (X : Stand p l e R s m args below meth c T locs cells slots) (hx : p.tables.exec = Jvm.exec) (hby : c.code = prog_202_method_10_code) (hret : meth.sig.returnType = some .boolean) (hZ : Z.Warmed39 s.vm) (hown : s.vm.findClass "com/example/riddle/riddle/xdm/QName" = some m.cls) (hw : ∀ d ∈ tables_1, d.before a0 Z = true) (v0 : Int32) {fs : List Frame} (hl : own_Rt e T m fs (.int (f1_58 v0))) : Steps p.tables e below (T.setTop (mkF m 58 #[.val (.int v0)] [])) (T.setFrames fs) := by
  show Steps p.tables e below (T.setTop (mkF m 58 #[.val (.int v0)] [])) _
  refine XS.iloadN X.here hx rfl (hb hby d1_58) rfl ?_
  show Steps p.tables e below (T.setTop (mkF m 59 #[.val (.int v0)] [(.int v0)])) _
  refine XS.sipush X.here hx rfl (hb hby d1_59) ?_
  show Steps p.tables e below (T.setTop (mkF m 62 #[.val (.int v0)] [(.int (248 : Int32)), (.int v0)])) _
  by_cases hc : v0 < (248 : Int32)
  · rw [show f1_58 v0 = f1_72 v0 from if_pos hc] at hl
    refine XS.icmpYes X.here hx rfl (pc0 := 62) (pc' := 72) rfl (hb hby d1_62) rfl (tlt hc).1 (by decide) (by decide) ?_
    exact g1_72 X hx hby hret hZ hown hw v0 hl
  · rw [show f1_58 v0 = f1_65 v0 from if_neg hc] at hl
    refine XS.icmpNo X.here hx rfl (hb hby d1_62) rfl (flt hc).1 ?_
    exact g1_65 X hx hby hret hZ hown hw v0 hl
theorem g1_51 (X : Stand p l e R s m args below meth c T locs cells slots) (hx : p.tables.exec = Jvm.exec) (hby : c.code = prog_202_method_10_code) (hret : meth.sig.returnType = some .boolean) (hZ : Z.Warmed39 s.vm) (hown : s.vm.findClass "com/example/riddle/riddle/xdm/QName" = some m.cls) (hw : ∀ d ∈ tables_1, d.before a0 Z = true) (v0 : Int32) {fs : List Frame} (hl : own_Rt e T m fs (.int (f1_51 v0))) : Steps p.tables e below (T.setTop (mkF m 51 #[.val (.int v0)] [])) (T.setFrames fs) := by
  show Steps p.tables e below (T.setTop (mkF m 51 #[.val (.int v0)] [])) _
  refine XS.iloadN X.here hx rfl (hb hby d1_51) rfl ?_
  show Steps p.tables e below (T.setTop (mkF m 52 #[.val (.int v0)] [(.int v0)])) _
  refine XS.sipush X.here hx rfl (hb hby d1_52) ?_
  show Steps p.tables e below (T.setTop (mkF m 55 #[.val (.int v0)] [(.int (246 : Int32)), (.int v0)])) _
  by_cases hc : (246 : Int32) < v0
  · rw [show f1_51 v0 = f1_58 v0 from if_pos hc] at hl
    refine XS.icmpNo X.here hx rfl (hb hby d1_55) rfl (tlt hc).2.2.2 ?_
    exact g1_58 X hx hby hret hZ hown hw v0 hl
  · rw [show f1_51 v0 = f1_191 v0 from if_neg hc] at hl
    refine XS.icmpYes X.here hx rfl (pc0 := 55) (pc' := 191) rfl (hb hby d1_55) rfl (flt hc).2.2.2 (by decide) (by decide) ?_
    exact g1_191 X hx hby hret hZ hown hw v0 hl
theorem g1_44 (X : Stand p l e R s m args below meth c T locs cells slots) (hx : p.tables.exec = Jvm.exec) (hby : c.code = prog_202_method_10_code) (hret : meth.sig.returnType = some .boolean) (hZ : Z.Warmed39 s.vm) (hown : s.vm.findClass "com/example/riddle/riddle/xdm/QName" = some m.cls) (hw : ∀ d ∈ tables_1, d.before a0 Z = true) (v0 : Int32) {fs : List Frame} (hl : own_Rt e T m fs (.int (f1_44 v0))) : Steps p.tables e below (T.setTop (mkF m 44 #[.val (.int v0)] [])) (T.setFrames fs) := by
  show Steps p.tables e below (T.setTop (mkF m 44 #[.val (.int v0)] [])) _
  refine XS.iloadN X.here hx rfl (hb hby d1_44) rfl ?_
  show Steps p.tables e below (T.setTop (mkF m 45 #[.val (.int v0)] [(.int v0)])) _
  refine XS.sipush X.here hx rfl (hb hby d1_45) ?_
  show Steps p.tables e below (T.setTop (mkF m 48 #[.val (.int v0)] [(.int (216 : Int32)), (.int v0)])) _
  by_cases hc : v0 < (216 : Int32)
  · rw [show f1_44 v0 = f1_58 v0 from if_pos hc] at hl
    refine XS.icmpYes X.here hx rfl (pc0 := 48) (pc' := 58) rfl (hb hby d1_48) rfl (tlt hc).1 (by decide) (by decide) ?_
    exact g1_58 X hx hby hret hZ hown hw v0 hl
  · rw [show f1_44 v0 = f1_51 v0 from if_neg hc] at hl
    refine XS.icmpNo X.here hx rfl (hb hby d1_48) rfl (flt hc).1 ?_
    exact g1_51 X hx hby hret hZ hown hw v0 hl
theorem g1_37 (X : Stand p l e R s m args below meth c T locs cells slots) (hx : p.tables.exec = Jvm.exec) (hby : c.code = prog_202_method_10_code) (hret : meth.sig.returnType = some .boolean) (hZ : Z.Warmed39 s.vm) (hown : s.vm.findClass "com/example/riddle/riddle/xdm/QName" = some m.cls) (hw : ∀ d ∈ tables_1, d.before a0 Z = true) (v0 : Int32) {fs : List Frame} (hl : own_Rt e T m fs (.int (f1_37 v0))) : Steps p.tables e below (T.setTop (mkF m 37 #[.val (.int v0)] [])) (T.setFrames fs) := by
  show Steps p.tables e below (T.setTop (mkF m 37 #[.val (.int v0)] [])) _
  refine XS.iloadN X.here hx rfl (hb hby d1_37) rfl ?_
  show Steps p.tables e below (T.setTop (mkF m 38 #[.val (.int v0)] [(.int v0)])) _
  refine XS.sipush X.here hx rfl (hb hby d1_38) ?_
  show Steps p.tables e below (T.setTop (mkF m 41 #[.val (.int v0)] [(.int (214 : Int32)), (.int v0)])) _
  by_cases hc : (214 : Int32) < v0
  · rw [show f1_37 v0 = f1_44 v0 from if_pos hc] at hl
    refine XS.icmpNo X.here hx rfl (hb hby d1_41) rfl (tlt hc).2.2.2 ?_
    exact g1_44 X hx hby hret hZ hown hw v0 hl
  · rw [show f1_37 v0 = f1_191 v0 from if_neg hc] at hl
    refine XS.icmpYes X.here hx rfl (pc0 := 41) (pc' := 191) rfl (hb hby d1_41) rfl (flt hc).2.2.2 (by decide) (by decide) ?_
    exact g1_191 X hx hby hret hZ hown hw v0 hl
theorem g1_30 (X : Stand p l e R s m args below meth c T locs cells slots) (hx : p.tables.exec = Jvm.exec) (hby : c.code = prog_202_method_10_code) (hret : meth.sig.returnType = some .boolean) (hZ : Z.Warmed39 s.vm) (hown : s.vm.findClass "com/example/riddle/riddle/xdm/QName" = some m.cls) (hw : ∀ d ∈ tables_1, d.before a0 Z = true) (v0 : Int32) {fs : List Frame} (hl : own_Rt e T m fs (.int (f1_30 v0))) : Steps p.tables e below (T.setTop (mkF m 30 #[.val (.int v0)] [])) (T.setFrames fs) := by
  show Steps p.tables e below (T.setTop (mkF m 30 #[.val (.int v0)] [])) _
  refine XS.iloadN X.here hx rfl (hb hby d1_30) rfl ?_
  show Steps p.tables e below (T.setTop (mkF m 31 #[.val (.int v0)] [(.int v0)])) _
  refine XS.sipush X.here hx rfl (hb hby d1_31) ?_
  show Steps p.tables e below (T.setTop (mkF m 34 #[.val (.int v0)] [(.int (192 : Int32)), (.int v0)])) _
  by_cases hc : v0 < (192 : Int32)
  · rw [show f1_30 v0 = f1_44 v0 from if_pos hc] at hl
    refine XS.icmpYes X.here hx rfl (pc0 := 34) (pc' := 44) rfl (hb hby d1_34) rfl (tlt hc).1 (by decide) (by decide) ?_
    exact g1_44 X hx hby hret hZ hown hw v0 hl
  · rw [show f1_30 v0 = f1_37 v0 from if_neg hc] at hl
    refine XS.icmpNo X.here hx rfl (hb hby d1_34) rfl (flt hc).1 ?_
    exact g1_37 X hx hby hret hZ hown hw v0 hl
theorem g1_24 (X : Stand p l e R s m args below meth c T locs cells slots) (hx : p.tables.exec = Jvm.exec) (hby : c.code = prog_202_method_10_code) (hret : meth.sig.returnType = some .boolean) (hZ : Z.Warmed39 s.vm) (hown : s.vm.findClass "com/example/riddle/riddle/xdm/QName" = some m.cls) (hw : ∀ d ∈ tables_1, d.before a0 Z = true) (v0 : Int32) {fs : List Frame} (hl : own_Rt e T m fs (.int (f1_24 v0))) : Steps p.tables e below (T.setTop (mkF m 24 #[.val (.int v0)] [])) (T.setFrames fs) := by
  show Steps p.tables e below (T.setTop (mkF m 24 #[.val (.int v0)] [])) _
  refine XS.iloadN X.here hx rfl (hb hby d1_24) rfl ?_
  show Steps p.tables e below (T.setTop (mkF m 25 #[.val (.int v0)] [(.int v0)])) _
  refine XS.bipush X.here hx rfl (hb hby d1_25) ?_
  show Steps p.tables e below (T.setTop (mkF m 27 #[.val (.int v0)] [(.int (95 : Int32)), (.int v0)])) _
  by_cases hc : v0 = (95 : Int32)
  · rw [show f1_24 v0 = f1_191 v0 from if_pos hc] at hl
    refine XS.icmpYes X.here hx rfl (pc0 := 27) (pc' := 191) rfl (hb hby d1_27) rfl (teq hc).1 (by decide) (by decide) ?_
    exact g1_191 X hx hby hret hZ hown hw v0 hl
  · rw [show f1_24 v0 = f1_30 v0 from if_neg hc] at hl
    refine XS.icmpNo X.here hx rfl (hb hby d1_27) rfl (feq hc).1 ?_
    exact g1_30 X hx hby hret hZ hown hw v0 hl
theorem g1_18 (X : Stand p l e R s m args below meth c T locs cells slots) (hx : p.tables.exec = Jvm.exec) (hby : c.code = prog_202_method_10_code) (hret : meth.sig.returnType = some .boolean) (hZ : Z.Warmed39 s.vm) (hown : s.vm.findClass "com/example/riddle/riddle/xdm/QName" = some m.cls) (hw : ∀ d ∈ tables_1, d.before a0 Z = true) (v0 : Int32) {fs : List Frame} (hl : own_Rt e T m fs (.int (f1_18 v0))) : Steps p.tables e below (T.setTop (mkF m 18 #[.val (.int v0)] [])) (T.setFrames fs) := by
  show Steps p.tables e below (T.setTop (mkF m 18 #[.val (.int v0)] [])) _
  refine XS.iloadN X.here hx rfl (hb hby d1_18) rfl ?_
  show Steps p.tables e below (T.setTop (mkF m 19 #[.val (.int v0)] [(.int v0)])) _
  refine XS.bipush X.here hx rfl (hb hby d1_19) ?_
  show Steps p.tables e below (T.setTop (mkF m 21 #[.val (.int v0)] [(.int (90 : Int32)), (.int v0)])) _
  by_cases hc : (90 : Int32) < v0
  · rw [show f1_18 v0 = f1_24 v0 from if_pos hc] at hl
    refine XS.icmpNo X.here hx rfl (hb hby d1_21) rfl (tlt hc).2.2.2 ?_
    exact g1_24 X hx hby hret hZ hown hw v0 hl
  · rw [show f1_18 v0 = f1_191 v0 from if_neg hc] at hl
    refine XS.icmpYes X.here hx rfl (pc0 := 21) (pc' := 191) rfl (hb hby d1_21) rfl (flt hc).2.2.2 (by decide) (by decide) ?_
    exact g1_191 X hx hby hret hZ hown hw v0 hl
theorem g1_12 (X : Stand p l e R s m args below meth c T locs cells slots) (hx : p.tables.exec = Jvm.exec) (hby : c.code = prog_202_method_10_code) (hret : meth.sig.returnType = some .boolean) (hZ : Z.Warmed39 s.vm) (hown : s.vm.findClass "com/example/riddle/riddle/xdm/QName" = some m.cls) (hw : ∀ d ∈ tables_1, d.before a0 Z = true) (v0 : Int32) {fs : List Frame} (hl : own_Rt e T m fs (.int (f1_12 v0))) : Steps p.tables e below (T.setTop (mkF m 12 #[.val (.int v0)] [])) (T.setFrames fs) := by
  show Steps p.tables e below (T.setTop (mkF m 12 #[.val (.int v0)] [])) _
  refine XS.iloadN X.here hx rfl (hb hby d1_12) rfl ?_
  show Steps p.tables e below (T.setTop (mkF m 13 #[.val (.int v0)] [(.int v0)])) _
  refine XS.bipush X.here hx rfl (hb hby d1_13) ?_
  show Steps p.tables e below (T.setTop (mkF m 15 #[.val (.int v0)] [(.int (65 : Int32)), (.int v0)])) _
  by_cases hc : v0 < (65 : Int32)
  · rw [show f1_12 v0 = f1_24 v0 from if_pos hc] at hl
    refine XS.icmpYes X.here hx rfl (pc0 := 15) (pc' := 24) rfl (hb hby d1_15) rfl (tlt hc).1 (by decide) (by decide) ?_
    exact g1_24 X hx hby hret hZ hown hw v0 hl
  · rw [show f1_12 v0 = f1_18 v0 from if_neg hc] at hl
    refine XS.icmpNo X.here hx rfl (hb hby d1_15) rfl (flt hc).1 ?_
    exact g1_18 X hx hby hret hZ hown hw v0 hl
theorem g1_6 (X : Stand p l e R s m args below meth c T locs cells slots) (hx : p.tables.exec = Jvm.exec) (hby : c.code = prog_202_method_10_code) (hret : meth.sig.returnType = some .boolean) (hZ : Z.Warmed39 s.vm) (hown : s.vm.findClass "com/example/riddle/riddle/xdm/QName" = some m.cls) (hw : ∀ d ∈ tables_1, d.before a0 Z = true) (v0 : Int32) {fs : List Frame} (hl : own_Rt e T m fs (.int (f1_6 v0))) : Steps p.tables e below (T.setTop (mkF m 6 #[.val (.int v0)] [])) (T.setFrames fs) := by
  show Steps p.tables e below (T.setTop (mkF m 6 #[.val (.int v0)] [])) _
  refine XS.iloadN X.here hx rfl (hb hby d1_6) rfl ?_
  show Steps p.tables e below (T.setTop (mkF m 7 #[.val (.int v0)] [(.int v0)])) _
  refine XS.bipush X.here hx rfl (hb hby d1_7) ?_
  show Steps p.tables e below (T.setTop (mkF m 9 #[.val (.int v0)] [(.int (122 : Int32)), (.int v0)])) _
  by_cases hc : (122 : Int32) < v0
  · rw [show f1_6 v0 = f1_12 v0 from if_pos hc] at hl
    refine XS.icmpNo X.here hx rfl (hb hby d1_9) rfl (tlt hc).2.2.2 ?_
    exact g1_12 X hx hby hret hZ hown hw v0 hl
  · rw [show f1_6 v0 = f1_191 v0 from if_neg hc] at hl
    refine XS.icmpYes X.here hx rfl (pc0 := 9) (pc' := 191) rfl (hb hby d1_9) rfl (flt hc).2.2.2 (by decide) (by decide) ?_
    exact g1_191 X hx hby hret hZ hown hw v0 hl
theorem g1_0 (X : Stand p l e R s m args below meth c T locs cells slots) (hx : p.tables.exec = Jvm.exec) (hby : c.code = prog_202_method_10_code) (hret : meth.sig.returnType = some .boolean) (hZ : Z.Warmed39 s.vm) (hown : s.vm.findClass "com/example/riddle/riddle/xdm/QName" = some m.cls) (hw : ∀ d ∈ tables_1, d.before a0 Z = true) (v0 : Int32) {fs : List Frame} (hl : own_Rt e T m fs (.int (f1_0 v0))) : Steps p.tables e below (T.setTop (mkF m 0 #[.val (.int v0)] [])) (T.setFrames fs) := by
  show Steps p.tables e below (T.setTop (mkF m 0 #[.val (.int v0)] [])) _
  refine XS.iloadN X.here hx rfl (hb hby d1_0) rfl ?_
  show Steps p.tables e below (T.setTop (mkF m 1 #[.val (.int v0)] [(.int v0)])) _
  refine XS.bipush X.here hx rfl (hb hby d1_1) ?_
  show Steps p.tables e below (T.setTop (mkF m 3 #[.val (.int v0)] [(.int (97 : Int32)), (.int v0)])) _
  by_cases hc : v0 < (97 : Int32)
  · rw [show f1_0 v0 = f1_12 v0 from if_pos hc] at hl
    refine XS.icmpYes X.here hx rfl (pc0 := 3) (pc' := 12) rfl (hb hby d1_3) rfl (tlt hc).1 (by decide) (by decide) ?_
    exact g1_12 X hx hby hret hZ hown hw v0 hl
  · rw [show f1_0 v0 = f1_6 v0 from if_neg hc] at hl
    refine XS.icmpNo X.here hx rfl (hb hby d1_3) rfl (flt hc).1 ?_
    exact g1_6 X hx hby hret hZ hown hw v0 hl
end Own1
def Q1 (v0 : Int32) (h0 : Heap) (n0 : Nat) (v : Option Value) (h : Heap) (L : List Loc) : Prop := v = some (.int (f1_0 v0)) ∧ Fr n0 L ∧ h = h0
set_option maxRecDepth 65536 in
set_option maxHeartbeats 40000000 in
theorem rm1 (l : Launch) (Z : State) (a0 : Array Value) (hw : ∀ d ∈ tables_1, d.before a0 Z = true) (ws : List Jvm.Cond) (v0 : Int32) (h0 : Heap) (n0 : Nat) (Z0 : n0 ≤ h0.size) :
    MetFree l (⟨"com/example/riddle/riddle/xdm/QName", "isNameStart", "(I)Z"⟩ : MethodName) (head1 (Jvm.Cond.code (⟨"com/example/riddle/riddle/xdm/QName", "isNameStart", "(I)Z"⟩ : MethodName) prog_202_method_10_code 1 (some .boolean) :: ws) ({ frames := 0, cells := 0, slots := 0, locals := 0 } : Room)) (fun a U => a = #[(.int v0)] ∧ Z.Warmed39 U.vm ∧ U.heap = h0) (fun _ _ _ _ _ => True) (fun _ U o U' => ∃ v L, o = .returned v ∧ Q1 v0 h0 n0 v U'.heap L ∧ FrameEnd U o U' L ({ frames := 0, cells := 0, slots := 0, locals := 0 } : Room).cells ({ frames := 0, cells := 0, slots := 0, locals := 0 } : Room).slots) := by
  refine MetFree.of_bodySF (plainFor_of_name pn_1) hisR ?_
  intro p e s m args below meth c s₁ Bd hml0 hP hK
  obtain ⟨rfl, hZ, hh⟩ := hP
  have hx := Bd.exec
  have hby := Bd.bytes
  have hown : s.vm.findClass "com/example/riddle/riddle/xdm/QName" = some m.cls := findClass_of_methodNamed Bd.named
  have X0 : Stand p l e ({ frames := 0, cells := 0, slots := 0, locals := 0 } : Room) s m #[(.int v0)] below meth c s₁ [] 0 0 := Stand.of_body Bd
  have e0 : s₁.heap = h0 := by rw [← hh, Bd.state]; rfl
  have N0 := Fr.nil n0
  have pre0 : ∀ t, Steps p.tables e below (s₁.setTop (mkF m 0 #[.val (.int v0)] [])) t → Steps p.tables e below (s₁.setTop (entryFrame m #[(.int v0)] 1)) t := fun t k => castTop (ef_1 m v0) k
  obtain ⟨fs, hr, hrun, hended, hW, hsame⟩ := X0.leave (v := some (.int (f1_0 v0))) (fun h => by rw [Bd.returns] at h; cases h)
  refine ⟨_, _, pre0 _ ?_, hrun, hended, _, _, rfl, ?_, ⟨_, rfl⟩, hW, hsame.mono (by decide) (by decide)⟩
  · exact g1_0 X0 hx hby Bd.returns hZ hown hw v0 hr
  · show Q1 v0 h0 n0 _ s₁.heap _
    rw [e0]
    exact ⟨rfl, N0, rfl⟩
theorem pd_1 : parseMethodDescriptor "(I)Z" = some ⟨[.int], some .boolean⟩ := by decide +kernel
theorem d2_0 : decode method_2_code 0 = .ok (.iload_n 0, 1) := by decide +kernel
theorem d2_1 : decode method_2_code 1 = .ok (.bipush 65, 2) := by decide +kernel
theorem d2_3 : decode method_2_code 3 = .ok (.if_icmp .ge 5, 3) := by decide +kernel
theorem d2_6 : decode method_2_code 6 = .ok (.iconst 0, 1) := by decide +kernel
theorem d2_7 : decode method_2_code 7 = .ok (.ireturn, 1) := by decide +kernel
theorem d2_8 : decode method_2_code 8 = .ok (.iload_n 0, 1) := by decide +kernel
theorem d2_9 : decode method_2_code 9 = .ok (.ldc 7, 2) := by decide +kernel
theorem d2_11 : decode method_2_code 11 = .ok (.if_icmp .le 5, 3) := by decide +kernel
theorem d2_14 : decode method_2_code 14 = .ok (.iconst 0, 1) := by decide +kernel
theorem d2_15 : decode method_2_code 15 = .ok (.ireturn, 1) := by decide +kernel
theorem d2_16 : decode method_2_code 16 = .ok (.iload_n 0, 1) := by decide +kernel
theorem d2_17 : decode method_2_code 17 = .ok (.ldc 8, 2) := by decide +kernel
theorem d2_19 : decode method_2_code 19 = .ok (.if_icmp .lt 5, 3) := by decide +kernel
theorem d2_22 : decode method_2_code 22 = .ok (.iconst 1, 1) := by decide +kernel
theorem d2_23 : decode method_2_code 23 = .ok (.ireturn, 1) := by decide +kernel
theorem d2_24 : decode method_2_code 24 = .ok (.iload_n 0, 1) := by decide +kernel
theorem d2_25 : decode method_2_code 25 = .ok (.bipush 90, 2) := by decide +kernel
theorem d2_27 : decode method_2_code 27 = .ok (.if_icmp .gt 5, 3) := by decide +kernel
theorem d2_30 : decode method_2_code 30 = .ok (.iconst 1, 1) := by decide +kernel
theorem d2_31 : decode method_2_code 31 = .ok (.ireturn, 1) := by decide +kernel
theorem d2_32 : decode method_2_code 32 = .ok (.iload_n 0, 1) := by decide +kernel
theorem d2_33 : decode method_2_code 33 = .ok (.bipush 97, 2) := by decide +kernel
theorem d2_35 : decode method_2_code 35 = .ok (.if_icmp .ge 15, 3) := by decide +kernel
theorem d2_38 : decode method_2_code 38 = .ok (.iload_n 0, 1) := by decide +kernel
theorem d2_39 : decode method_2_code 39 = .ok (.bipush 95, 2) := by decide +kernel
theorem d2_41 : decode method_2_code 41 = .ok (.if_icmp .ne 7, 3) := by decide +kernel
theorem d2_44 : decode method_2_code 44 = .ok (.iconst 1, 1) := by decide +kernel
theorem d2_45 : decode method_2_code 45 = .ok (.goto 4, 3) := by decide +kernel
theorem d2_48 : decode method_2_code 48 = .ok (.iconst 0, 1) := by decide +kernel
theorem d2_49 : decode method_2_code 49 = .ok (.ireturn, 1) := by decide +kernel
theorem d2_50 : decode method_2_code 50 = .ok (.iload_n 0, 1) := by decide +kernel
theorem d2_51 : decode method_2_code 51 = .ok (.bipush 122, 2) := by decide +kernel
theorem d2_53 : decode method_2_code 53 = .ok (.if_icmp .gt 5, 3) := by decide +kernel
theorem d2_56 : decode method_2_code 56 = .ok (.iconst 1, 1) := by decide +kernel
theorem d2_57 : decode method_2_code 57 = .ok (.ireturn, 1) := by decide +kernel
theorem d2_58 : decode method_2_code 58 = .ok (.iload_n 0, 1) := by decide +kernel
theorem d2_59 : decode method_2_code 59 = .ok (.sipush 192, 3) := by decide +kernel
theorem d2_62 : decode method_2_code 62 = .ok (.if_icmp .ge 5, 3) := by decide +kernel
theorem d2_65 : decode method_2_code 65 = .ok (.iconst 0, 1) := by decide +kernel
theorem d2_66 : decode method_2_code 66 = .ok (.ireturn, 1) := by decide +kernel
theorem d2_67 : decode method_2_code 67 = .ok (.iload_n 0, 1) := by decide +kernel
theorem d2_68 : decode method_2_code 68 = .ok (.sipush 768, 3) := by decide +kernel
theorem d2_71 : decode method_2_code 71 = .ok (.if_icmp .ge 23, 3) := by decide +kernel
theorem d2_74 : decode method_2_code 74 = .ok (.iload_n 0, 1) := by decide +kernel
theorem d2_75 : decode method_2_code 75 = .ok (.sipush 215, 3) := by decide +kernel
theorem d2_78 : decode method_2_code 78 = .ok (.if_icmp .eq 14, 3) := by decide +kernel
theorem d2_81 : decode method_2_code 81 = .ok (.iload_n 0, 1) := by decide +kernel
theorem d2_82 : decode method_2_code 82 = .ok (.sipush 247, 3) := by decide +kernel
theorem d2_85 : decode method_2_code 85 = .ok (.if_icmp .eq 7, 3) := by decide +kernel
theorem d2_88 : decode method_2_code 88 = .ok (.iconst 1, 1) := by decide +kernel
theorem d2_89 : decode method_2_code 89 = .ok (.goto 4, 3) := by decide +kernel
theorem d2_92 : decode method_2_code 92 = .ok (.iconst 0, 1) := by decide +kernel
theorem d2_93 : decode method_2_code 93 = .ok (.ireturn, 1) := by decide +kernel
theorem d2_94 : decode method_2_code 94 = .ok (.iload_n 0, 1) := by decide +kernel
theorem d2_95 : decode method_2_code 95 = .ok (.sipush 880, 3) := by decide +kernel
theorem d2_98 : decode method_2_code 98 = .ok (.if_icmp .ge 5, 3) := by decide +kernel
theorem d2_101 : decode method_2_code 101 = .ok (.iconst 0, 1) := by decide +kernel
theorem d2_102 : decode method_2_code 102 = .ok (.ireturn, 1) := by decide +kernel
theorem d2_103 : decode method_2_code 103 = .ok (.iload_n 0, 1) := by decide +kernel
theorem d2_104 : decode method_2_code 104 = .ok (.sipush 8192, 3) := by decide +kernel
theorem d2_107 : decode method_2_code 107 = .ok (.if_icmp .ge 16, 3) := by decide +kernel
theorem d2_110 : decode method_2_code 110 = .ok (.iload_n 0, 1) := by decide +kernel
theorem d2_111 : decode method_2_code 111 = .ok (.sipush 894, 3) := by decide +kernel
theorem d2_114 : decode method_2_code 114 = .ok (.if_icmp .eq 7, 3) := by decide +kernel
theorem d2_117 : decode method_2_code 117 = .ok (.iconst 1, 1) := by decide +kernel
theorem d2_118 : decode method_2_code 118 = .ok (.goto 4, 3) := by decide +kernel
theorem d2_121 : decode method_2_code 121 = .ok (.iconst 0, 1) := by decide +kernel
theorem d2_122 : decode method_2_code 122 = .ok (.ireturn, 1) := by decide +kernel
theorem d2_123 : decode method_2_code 123 = .ok (.iload_n 0, 1) := by decide +kernel
theorem d2_124 : decode method_2_code 124 = .ok (.sipush 8304, 3) := by decide +kernel
theorem d2_127 : decode method_2_code 127 = .ok (.if_icmp .ge 23, 3) := by decide +kernel
theorem d2_130 : decode method_2_code 130 = .ok (.iload_n 0, 1) := by decide +kernel
theorem d2_131 : decode method_2_code 131 = .ok (.sipush 8204, 3) := by decide +kernel
theorem d2_134 : decode method_2_code 134 = .ok (.if_icmp .eq 10, 3) := by decide +kernel
theorem d2_137 : decode method_2_code 137 = .ok (.iload_n 0, 1) := by decide +kernel
theorem d2_138 : decode method_2_code 138 = .ok (.sipush 8205, 3) := by decide +kernel
theorem d2_141 : decode method_2_code 141 = .ok (.if_icmp .ne 7, 3) := by decide +kernel
theorem d2_144 : decode method_2_code 144 = .ok (.iconst 1, 1) := by decide +kernel
theorem d2_145 : decode method_2_code 145 = .ok (.goto 4, 3) := by decide +kernel
theorem d2_148 : decode method_2_code 148 = .ok (.iconst 0, 1) := by decide +kernel
theorem d2_149 : decode method_2_code 149 = .ok (.ireturn, 1) := by decide +kernel
theorem d2_150 : decode method_2_code 150 = .ok (.iload_n 0, 1) := by decide +kernel
theorem d2_151 : decode method_2_code 151 = .ok (.sipush 8592, 3) := by decide +kernel
theorem d2_154 : decode method_2_code 154 = .ok (.if_icmp .ge 5, 3) := by decide +kernel
theorem d2_157 : decode method_2_code 157 = .ok (.iconst 1, 1) := by decide +kernel
theorem d2_158 : decode method_2_code 158 = .ok (.ireturn, 1) := by decide +kernel
theorem d2_159 : decode method_2_code 159 = .ok (.iload_n 0, 1) := by decide +kernel
theorem d2_160 : decode method_2_code 160 = .ok (.sipush 11264, 3) := by decide +kernel
theorem d2_163 : decode method_2_code 163 = .ok (.if_icmp .ge 5, 3) := by decide +kernel
theorem d2_166 : decode method_2_code 166 = .ok (.iconst 0, 1) := by decide +kernel
theorem d2_167 : decode method_2_code 167 = .ok (.ireturn, 1) := by decide +kernel
theorem d2_168 : decode method_2_code 168 = .ok (.iload_n 0, 1) := by decide +kernel
theorem d2_169 : decode method_2_code 169 = .ok (.sipush 12272, 3) := by decide +kernel
theorem d2_172 : decode method_2_code 172 = .ok (.if_icmp .ge 5, 3) := by decide +kernel
theorem d2_175 : decode method_2_code 175 = .ok (.iconst 1, 1) := by decide +kernel
theorem d2_176 : decode method_2_code 176 = .ok (.ireturn, 1) := by decide +kernel
theorem d2_177 : decode method_2_code 177 = .ok (.iload_n 0, 1) := by decide +kernel
theorem d2_178 : decode method_2_code 178 = .ok (.sipush 12288, 3) := by decide +kernel
theorem d2_181 : decode method_2_code 181 = .ok (.if_icmp .gt 5, 3) := by decide +kernel
theorem d2_184 : decode method_2_code 184 = .ok (.iconst 0, 1) := by decide +kernel
theorem d2_185 : decode method_2_code 185 = .ok (.ireturn, 1) := by decide +kernel
theorem d2_186 : decode method_2_code 186 = .ok (.iload_n 0, 1) := by decide +kernel
theorem d2_187 : decode method_2_code 187 = .ok (.ldc 9, 2) := by decide +kernel
theorem d2_189 : decode method_2_code 189 = .ok (.if_icmp .ge 5, 3) := by decide +kernel
theorem d2_192 : decode method_2_code 192 = .ok (.iconst 1, 1) := by decide +kernel
theorem d2_193 : decode method_2_code 193 = .ok (.ireturn, 1) := by decide +kernel
theorem d2_194 : decode method_2_code 194 = .ok (.iload_n 0, 1) := by decide +kernel
theorem d2_195 : decode method_2_code 195 = .ok (.ldc 10, 2) := by decide +kernel
theorem d2_197 : decode method_2_code 197 = .ok (.if_icmp .ge 5, 3) := by decide +kernel
theorem d2_200 : decode method_2_code 200 = .ok (.iconst 0, 1) := by decide +kernel
theorem d2_201 : decode method_2_code 201 = .ok (.ireturn, 1) := by decide +kernel
theorem d2_202 : decode method_2_code 202 = .ok (.iload_n 0, 1) := by decide +kernel
theorem d2_203 : decode method_2_code 203 = .ok (.ldc 11, 2) := by decide +kernel
theorem d2_205 : decode method_2_code 205 = .ok (.if_icmp .ge 5, 3) := by decide +kernel
theorem d2_208 : decode method_2_code 208 = .ok (.iconst 1, 1) := by decide +kernel
theorem d2_209 : decode method_2_code 209 = .ok (.ireturn, 1) := by decide +kernel
theorem d2_210 : decode method_2_code 210 = .ok (.iload_n 0, 1) := by decide +kernel
theorem d2_211 : decode method_2_code 211 = .ok (.ldc 12, 2) := by decide +kernel
theorem d2_213 : decode method_2_code 213 = .ok (.if_icmp .ge 5, 3) := by decide +kernel
theorem d2_216 : decode method_2_code 216 = .ok (.iconst 0, 1) := by decide +kernel
theorem d2_217 : decode method_2_code 217 = .ok (.ireturn, 1) := by decide +kernel
theorem d2_218 : decode method_2_code 218 = .ok (.iload_n 0, 1) := by decide +kernel
theorem d2_219 : decode method_2_code 219 = .ok (.ldc 13, 2) := by decide +kernel
theorem d2_221 : decode method_2_code 221 = .ok (.if_icmp .ge 7, 3) := by decide +kernel
theorem d2_224 : decode method_2_code 224 = .ok (.iconst 1, 1) := by decide +kernel
theorem d2_225 : decode method_2_code 225 = .ok (.goto 4, 3) := by decide +kernel
theorem d2_228 : decode method_2_code 228 = .ok (.iconst 0, 1) := by decide +kernel
theorem d2_229 : decode method_2_code 229 = .ok (.ireturn, 1) := by decide +kernel
theorem pn_2 : plainName "com/example/riddle/riddle/xdm/QNameIsNameStartPinLaw" = true := by first | (simp [plainName, overriddenIn]; done) | decide +kernel
theorem ef_2 (m : MethodId) (x0 : Int32) : entryFrame m #[(.int x0)] 1 = (mkF m 0 #[.val (.int x0)] []) := by first | (simp [entryFrame, mkF, argsToLocals, Value.category]; done) | rfl
def f2_228 (v0 : Int32) : Int32 := (0 : Int32)
def f2_224 (v0 : Int32) : Int32 := (1 : Int32)
def f2_218 (v0 : Int32) : Int32 := if v0 < (65534 : Int32) then f2_224 v0 else f2_228 v0
def f2_216 (v0 : Int32) : Int32 := (0 : Int32)
def f2_210 (v0 : Int32) : Int32 := if v0 < (65008 : Int32) then f2_216 v0 else f2_218 v0
def f2_208 (v0 : Int32) : Int32 := (1 : Int32)
def f2_202 (v0 : Int32) : Int32 := if v0 < (64976 : Int32) then f2_208 v0 else f2_210 v0
def f2_200 (v0 : Int32) : Int32 := (0 : Int32)
def f2_194 (v0 : Int32) : Int32 := if v0 < (63744 : Int32) then f2_200 v0 else f2_202 v0
def f2_192 (v0 : Int32) : Int32 := (1 : Int32)
def f2_186 (v0 : Int32) : Int32 := if v0 < (55296 : Int32) then f2_192 v0 else f2_194 v0
def f2_184 (v0 : Int32) : Int32 := (0 : Int32)
def f2_177 (v0 : Int32) : Int32 := if (12288 : Int32) < v0 then f2_186 v0 else f2_184 v0
def f2_175 (v0 : Int32) : Int32 := (1 : Int32)
def f2_168 (v0 : Int32) : Int32 := if v0 < (12272 : Int32) then f2_175 v0 else f2_177 v0
def f2_166 (v0 : Int32) : Int32 := (0 : Int32)
def f2_159 (v0 : Int32) : Int32 := if v0 < (11264 : Int32) then f2_166 v0 else f2_168 v0
def f2_157 (v0 : Int32) : Int32 := (1 : Int32)
def f2_150 (v0 : Int32) : Int32 := if v0 < (8592 : Int32) then f2_157 v0 else f2_159 v0
def f2_148 (v0 : Int32) : Int32 := (0 : Int32)
def f2_144 (v0 : Int32) : Int32 := (1 : Int32)
def f2_137 (v0 : Int32) : Int32 := if v0 = (8205 : Int32) then f2_144 v0 else f2_148 v0
def f2_130 (v0 : Int32) : Int32 := if v0 = (8204 : Int32) then f2_144 v0 else f2_137 v0
def f2_123 (v0 : Int32) : Int32 := if v0 < (8304 : Int32) then f2_130 v0 else f2_150 v0
def f2_121 (v0 : Int32) : Int32 := (0 : Int32)
def f2_117 (v0 : Int32) : Int32 := (1 : Int32)
def f2_110 (v0 : Int32) : Int32 := if v0 = (894 : Int32) then f2_121 v0 else f2_117 v0
def f2_103 (v0 : Int32) : Int32 := if v0 < (8192 : Int32) then f2_110 v0 else f2_123 v0
def f2_101 (v0 : Int32) : Int32 := (0 : Int32)
def f2_94 (v0 : Int32) : Int32 := if v0 < (880 : Int32) then f2_101 v0 else f2_103 v0
def f2_92 (v0 : Int32) : Int32 := (0 : Int32)
def f2_88 (v0 : Int32) : Int32 := (1 : Int32)
def f2_81 (v0 : Int32) : Int32 := if v0 = (247 : Int32) then f2_92 v0 else f2_88 v0
def f2_74 (v0 : Int32) : Int32 := if v0 = (215 : Int32) then f2_92 v0 else f2_81 v0
def f2_67 (v0 : Int32) : Int32 := if v0 < (768 : Int32) then f2_74 v0 else f2_94 v0
def f2_65 (v0 : Int32) : Int32 := (0 : Int32)
def f2_58 (v0 : Int32) : Int32 := if v0 < (192 : Int32) then f2_65 v0 else f2_67 v0
def f2_56 (v0 : Int32) : Int32 := (1 : Int32)
def f2_50 (v0 : Int32) : Int32 := if (122 : Int32) < v0 then f2_58 v0 else f2_56 v0
def f2_48 (v0 : Int32) : Int32 := (0 : Int32)
def f2_44 (v0 : Int32) : Int32 := (1 : Int32)
def f2_38 (v0 : Int32) : Int32 := if v0 = (95 : Int32) then f2_44 v0 else f2_48 v0
def f2_32 (v0 : Int32) : Int32 := if v0 < (97 : Int32) then f2_38 v0 else f2_50 v0
def f2_30 (v0 : Int32) : Int32 := (1 : Int32)
def f2_24 (v0 : Int32) : Int32 := if (90 : Int32) < v0 then f2_32 v0 else f2_30 v0
def f2_22 (v0 : Int32) : Int32 := (1 : Int32)
def f2_16 (v0 : Int32) : Int32 := if v0 < (65536 : Int32) then f2_24 v0 else f2_22 v0
def f2_14 (v0 : Int32) : Int32 := (0 : Int32)
def f2_8 (v0 : Int32) : Int32 := if (983039 : Int32) < v0 then f2_14 v0 else f2_16 v0
def f2_6 (v0 : Int32) : Int32 := (0 : Int32)
def f2_0 (v0 : Int32) : Int32 := if v0 < (65 : Int32) then f2_6 v0 else f2_8 v0
section Own2
variable {p : Program} {l : Launch} {e : Env} {R : Room} {s : State} {m : MethodId} {args : Array Value} {below : List Frame} {meth : Method} {c : Code} {T : State} {locs : List Loc} {cells slots : Nat} {Z : State} {a0 : Array Value}
theorem g2_228 (X : Stand p l e R s m args below meth c T locs cells slots) (hx : p.tables.exec = Jvm.exec) (hby : c.code = method_2_code) (hret : meth.sig.returnType = some .boolean) (hZ : Z.Warmed39 s.vm) (hown : s.vm.findClass "com/example/riddle/riddle/xdm/QNameIsNameStartPinLaw" = some m.cls) (hw : ∀ d ∈ tables_1, d.before a0 Z = true) (v0 : Int32) {fs : List Frame} (hl : own_Rt e T m fs (.int (f2_228 v0))) : Steps p.tables e below (T.setTop (mkF m 228 #[.val (.int v0)] [])) (T.setFrames fs) := by
  show Steps p.tables e below (T.setTop (mkF m 228 #[.val (.int v0)] [])) _
  refine XS.iconst X.here hx rfl (hb hby d2_228) ?_
  show Steps p.tables e below (T.setTop (mkF m 229 #[.val (.int v0)] [(.int (0 : Int32))])) _
  exact retN X hx (t := .boolean) hret (by simp) (hb hby d2_229) hl
theorem g2_224 (X : Stand p l e R s m args below meth c T locs cells slots) (hx : p.tables.exec = Jvm.exec) (hby : c.code = method_2_code) (hret : meth.sig.returnType = some .boolean) (hZ : Z.Warmed39 s.vm) (hown : s.vm.findClass "com/example/riddle/riddle/xdm/QNameIsNameStartPinLaw" = some m.cls) (hw : ∀ d ∈ tables_1, d.before a0 Z = true) (v0 : Int32) {fs : List Frame} (hl : own_Rt e T m fs (.int (f2_224 v0))) : Steps p.tables e below (T.setTop (mkF m 224 #[.val (.int v0)] [])) (T.setFrames fs) := by
  show Steps p.tables e below (T.setTop (mkF m 224 #[.val (.int v0)] [])) _
  refine XS.iconst X.here hx rfl (hb hby d2_224) ?_
  show Steps p.tables e below (T.setTop (mkF m 225 #[.val (.int v0)] [(.int (1 : Int32))])) _
  refine XS.goto X.here hx rfl (pc0 := 225) (pc' := 229) rfl (hb hby d2_225) (by decide) (by decide) ?_
  show Steps p.tables e below (T.setTop (mkF m 229 #[.val (.int v0)] [(.int (1 : Int32))])) _
  exact retN X hx (t := .boolean) hret (by simp) (hb hby d2_229) hl
theorem g2_218 (X : Stand p l e R s m args below meth c T locs cells slots) (hx : p.tables.exec = Jvm.exec) (hby : c.code = method_2_code) (hret : meth.sig.returnType = some .boolean) (hZ : Z.Warmed39 s.vm) (hown : s.vm.findClass "com/example/riddle/riddle/xdm/QNameIsNameStartPinLaw" = some m.cls) (hw : ∀ d ∈ tables_1, d.before a0 Z = true) (v0 : Int32) {fs : List Frame} (hl : own_Rt e T m fs (.int (f2_218 v0))) : Steps p.tables e below (T.setTop (mkF m 218 #[.val (.int v0)] [])) (T.setFrames fs) := by
  show Steps p.tables e below (T.setTop (mkF m 218 #[.val (.int v0)] [])) _
  refine XS.iloadN X.here hx rfl (hb hby d2_218) rfl ?_
  show Steps p.tables e below (T.setTop (mkF m 219 #[.val (.int v0)] [(.int v0)])) _
  refine X.ldcI hx hown (mv hZ (hw _ (List.mem_of_getElem? (i := 5) rfl))) rfl (hb hby d2_219) ?_
  show Steps p.tables e below (T.setTop (mkF m 221 #[.val (.int v0)] [(.int (65534 : Int32)), (.int v0)])) _
  by_cases hc : v0 < (65534 : Int32)
  · rw [show f2_218 v0 = f2_224 v0 from if_pos hc] at hl
    refine XS.icmpNo X.here hx rfl (hb hby d2_221) rfl (tlt hc).2.1 ?_
    exact g2_224 X hx hby hret hZ hown hw v0 hl
  · rw [show f2_218 v0 = f2_228 v0 from if_neg hc] at hl
    refine XS.icmpYes X.here hx rfl (pc0 := 221) (pc' := 228) rfl (hb hby d2_221) rfl (flt hc).2.1 (by decide) (by decide) ?_
    exact g2_228 X hx hby hret hZ hown hw v0 hl
theorem g2_216 (X : Stand p l e R s m args below meth c T locs cells slots) (hx : p.tables.exec = Jvm.exec) (hby : c.code = method_2_code) (hret : meth.sig.returnType = some .boolean) (hZ : Z.Warmed39 s.vm) (hown : s.vm.findClass "com/example/riddle/riddle/xdm/QNameIsNameStartPinLaw" = some m.cls) (hw : ∀ d ∈ tables_1, d.before a0 Z = true) (v0 : Int32) {fs : List Frame} (hl : own_Rt e T m fs (.int (f2_216 v0))) : Steps p.tables e below (T.setTop (mkF m 216 #[.val (.int v0)] [])) (T.setFrames fs) := by
  show Steps p.tables e below (T.setTop (mkF m 216 #[.val (.int v0)] [])) _
  refine XS.iconst X.here hx rfl (hb hby d2_216) ?_
  show Steps p.tables e below (T.setTop (mkF m 217 #[.val (.int v0)] [(.int (0 : Int32))])) _
  exact retN X hx (t := .boolean) hret (by simp) (hb hby d2_217) hl
theorem g2_210 (X : Stand p l e R s m args below meth c T locs cells slots) (hx : p.tables.exec = Jvm.exec) (hby : c.code = method_2_code) (hret : meth.sig.returnType = some .boolean) (hZ : Z.Warmed39 s.vm) (hown : s.vm.findClass "com/example/riddle/riddle/xdm/QNameIsNameStartPinLaw" = some m.cls) (hw : ∀ d ∈ tables_1, d.before a0 Z = true) (v0 : Int32) {fs : List Frame} (hl : own_Rt e T m fs (.int (f2_210 v0))) : Steps p.tables e below (T.setTop (mkF m 210 #[.val (.int v0)] [])) (T.setFrames fs) := by
  show Steps p.tables e below (T.setTop (mkF m 210 #[.val (.int v0)] [])) _
  refine XS.iloadN X.here hx rfl (hb hby d2_210) rfl ?_
  show Steps p.tables e below (T.setTop (mkF m 211 #[.val (.int v0)] [(.int v0)])) _
  refine X.ldcI hx hown (mv hZ (hw _ (List.mem_of_getElem? (i := 4) rfl))) rfl (hb hby d2_211) ?_
  show Steps p.tables e below (T.setTop (mkF m 213 #[.val (.int v0)] [(.int (65008 : Int32)), (.int v0)])) _
  by_cases hc : v0 < (65008 : Int32)
  · rw [show f2_210 v0 = f2_216 v0 from if_pos hc] at hl
    refine XS.icmpNo X.here hx rfl (hb hby d2_213) rfl (tlt hc).2.1 ?_
    exact g2_216 X hx hby hret hZ hown hw v0 hl
  · rw [show f2_210 v0 = f2_218 v0 from if_neg hc] at hl
    refine XS.icmpYes X.here hx rfl (pc0 := 213) (pc' := 218) rfl (hb hby d2_213) rfl (flt hc).2.1 (by decide) (by decide) ?_
    exact g2_218 X hx hby hret hZ hown hw v0 hl
theorem g2_208 (X : Stand p l e R s m args below meth c T locs cells slots) (hx : p.tables.exec = Jvm.exec) (hby : c.code = method_2_code) (hret : meth.sig.returnType = some .boolean) (hZ : Z.Warmed39 s.vm) (hown : s.vm.findClass "com/example/riddle/riddle/xdm/QNameIsNameStartPinLaw" = some m.cls) (hw : ∀ d ∈ tables_1, d.before a0 Z = true) (v0 : Int32) {fs : List Frame} (hl : own_Rt e T m fs (.int (f2_208 v0))) : Steps p.tables e below (T.setTop (mkF m 208 #[.val (.int v0)] [])) (T.setFrames fs) := by
  show Steps p.tables e below (T.setTop (mkF m 208 #[.val (.int v0)] [])) _
  refine XS.iconst X.here hx rfl (hb hby d2_208) ?_
  show Steps p.tables e below (T.setTop (mkF m 209 #[.val (.int v0)] [(.int (1 : Int32))])) _
  exact retN X hx (t := .boolean) hret (by simp) (hb hby d2_209) hl
theorem g2_202 (X : Stand p l e R s m args below meth c T locs cells slots) (hx : p.tables.exec = Jvm.exec) (hby : c.code = method_2_code) (hret : meth.sig.returnType = some .boolean) (hZ : Z.Warmed39 s.vm) (hown : s.vm.findClass "com/example/riddle/riddle/xdm/QNameIsNameStartPinLaw" = some m.cls) (hw : ∀ d ∈ tables_1, d.before a0 Z = true) (v0 : Int32) {fs : List Frame} (hl : own_Rt e T m fs (.int (f2_202 v0))) : Steps p.tables e below (T.setTop (mkF m 202 #[.val (.int v0)] [])) (T.setFrames fs) := by
  show Steps p.tables e below (T.setTop (mkF m 202 #[.val (.int v0)] [])) _
  refine XS.iloadN X.here hx rfl (hb hby d2_202) rfl ?_
  show Steps p.tables e below (T.setTop (mkF m 203 #[.val (.int v0)] [(.int v0)])) _
  refine X.ldcI hx hown (mv hZ (hw _ (List.mem_of_getElem? (i := 3) rfl))) rfl (hb hby d2_203) ?_
  show Steps p.tables e below (T.setTop (mkF m 205 #[.val (.int v0)] [(.int (64976 : Int32)), (.int v0)])) _
  by_cases hc : v0 < (64976 : Int32)
  · rw [show f2_202 v0 = f2_208 v0 from if_pos hc] at hl
    refine XS.icmpNo X.here hx rfl (hb hby d2_205) rfl (tlt hc).2.1 ?_
    exact g2_208 X hx hby hret hZ hown hw v0 hl
  · rw [show f2_202 v0 = f2_210 v0 from if_neg hc] at hl
    refine XS.icmpYes X.here hx rfl (pc0 := 205) (pc' := 210) rfl (hb hby d2_205) rfl (flt hc).2.1 (by decide) (by decide) ?_
    exact g2_210 X hx hby hret hZ hown hw v0 hl
theorem g2_200 (X : Stand p l e R s m args below meth c T locs cells slots) (hx : p.tables.exec = Jvm.exec) (hby : c.code = method_2_code) (hret : meth.sig.returnType = some .boolean) (hZ : Z.Warmed39 s.vm) (hown : s.vm.findClass "com/example/riddle/riddle/xdm/QNameIsNameStartPinLaw" = some m.cls) (hw : ∀ d ∈ tables_1, d.before a0 Z = true) (v0 : Int32) {fs : List Frame} (hl : own_Rt e T m fs (.int (f2_200 v0))) : Steps p.tables e below (T.setTop (mkF m 200 #[.val (.int v0)] [])) (T.setFrames fs) := by
  show Steps p.tables e below (T.setTop (mkF m 200 #[.val (.int v0)] [])) _
  refine XS.iconst X.here hx rfl (hb hby d2_200) ?_
  show Steps p.tables e below (T.setTop (mkF m 201 #[.val (.int v0)] [(.int (0 : Int32))])) _
  exact retN X hx (t := .boolean) hret (by simp) (hb hby d2_201) hl
theorem g2_194 (X : Stand p l e R s m args below meth c T locs cells slots) (hx : p.tables.exec = Jvm.exec) (hby : c.code = method_2_code) (hret : meth.sig.returnType = some .boolean) (hZ : Z.Warmed39 s.vm) (hown : s.vm.findClass "com/example/riddle/riddle/xdm/QNameIsNameStartPinLaw" = some m.cls) (hw : ∀ d ∈ tables_1, d.before a0 Z = true) (v0 : Int32) {fs : List Frame} (hl : own_Rt e T m fs (.int (f2_194 v0))) : Steps p.tables e below (T.setTop (mkF m 194 #[.val (.int v0)] [])) (T.setFrames fs) := by
  show Steps p.tables e below (T.setTop (mkF m 194 #[.val (.int v0)] [])) _
  refine XS.iloadN X.here hx rfl (hb hby d2_194) rfl ?_
  show Steps p.tables e below (T.setTop (mkF m 195 #[.val (.int v0)] [(.int v0)])) _
  refine X.ldcI hx hown (mv hZ (hw _ (List.mem_of_getElem? (i := 2) rfl))) rfl (hb hby d2_195) ?_
  show Steps p.tables e below (T.setTop (mkF m 197 #[.val (.int v0)] [(.int (63744 : Int32)), (.int v0)])) _
  by_cases hc : v0 < (63744 : Int32)
  · rw [show f2_194 v0 = f2_200 v0 from if_pos hc] at hl
    refine XS.icmpNo X.here hx rfl (hb hby d2_197) rfl (tlt hc).2.1 ?_
    exact g2_200 X hx hby hret hZ hown hw v0 hl
  · rw [show f2_194 v0 = f2_202 v0 from if_neg hc] at hl
    refine XS.icmpYes X.here hx rfl (pc0 := 197) (pc' := 202) rfl (hb hby d2_197) rfl (flt hc).2.1 (by decide) (by decide) ?_
    exact g2_202 X hx hby hret hZ hown hw v0 hl
theorem g2_192 (X : Stand p l e R s m args below meth c T locs cells slots) (hx : p.tables.exec = Jvm.exec) (hby : c.code = method_2_code) (hret : meth.sig.returnType = some .boolean) (hZ : Z.Warmed39 s.vm) (hown : s.vm.findClass "com/example/riddle/riddle/xdm/QNameIsNameStartPinLaw" = some m.cls) (hw : ∀ d ∈ tables_1, d.before a0 Z = true) (v0 : Int32) {fs : List Frame} (hl : own_Rt e T m fs (.int (f2_192 v0))) : Steps p.tables e below (T.setTop (mkF m 192 #[.val (.int v0)] [])) (T.setFrames fs) := by
  show Steps p.tables e below (T.setTop (mkF m 192 #[.val (.int v0)] [])) _
  refine XS.iconst X.here hx rfl (hb hby d2_192) ?_
  show Steps p.tables e below (T.setTop (mkF m 193 #[.val (.int v0)] [(.int (1 : Int32))])) _
  exact retN X hx (t := .boolean) hret (by simp) (hb hby d2_193) hl
theorem g2_186 (X : Stand p l e R s m args below meth c T locs cells slots) (hx : p.tables.exec = Jvm.exec) (hby : c.code = method_2_code) (hret : meth.sig.returnType = some .boolean) (hZ : Z.Warmed39 s.vm) (hown : s.vm.findClass "com/example/riddle/riddle/xdm/QNameIsNameStartPinLaw" = some m.cls) (hw : ∀ d ∈ tables_1, d.before a0 Z = true) (v0 : Int32) {fs : List Frame} (hl : own_Rt e T m fs (.int (f2_186 v0))) : Steps p.tables e below (T.setTop (mkF m 186 #[.val (.int v0)] [])) (T.setFrames fs) := by
  show Steps p.tables e below (T.setTop (mkF m 186 #[.val (.int v0)] [])) _
  refine XS.iloadN X.here hx rfl (hb hby d2_186) rfl ?_
  show Steps p.tables e below (T.setTop (mkF m 187 #[.val (.int v0)] [(.int v0)])) _
  refine X.ldcI hx hown (mv hZ (hw _ (List.mem_of_getElem? (i := 1) rfl))) rfl (hb hby d2_187) ?_
  show Steps p.tables e below (T.setTop (mkF m 189 #[.val (.int v0)] [(.int (55296 : Int32)), (.int v0)])) _
  by_cases hc : v0 < (55296 : Int32)
  · rw [show f2_186 v0 = f2_192 v0 from if_pos hc] at hl
    refine XS.icmpNo X.here hx rfl (hb hby d2_189) rfl (tlt hc).2.1 ?_
    exact g2_192 X hx hby hret hZ hown hw v0 hl
  · rw [show f2_186 v0 = f2_194 v0 from if_neg hc] at hl
    refine XS.icmpYes X.here hx rfl (pc0 := 189) (pc' := 194) rfl (hb hby d2_189) rfl (flt hc).2.1 (by decide) (by decide) ?_
    exact g2_194 X hx hby hret hZ hown hw v0 hl
theorem g2_184 (X : Stand p l e R s m args below meth c T locs cells slots) (hx : p.tables.exec = Jvm.exec) (hby : c.code = method_2_code) (hret : meth.sig.returnType = some .boolean) (hZ : Z.Warmed39 s.vm) (hown : s.vm.findClass "com/example/riddle/riddle/xdm/QNameIsNameStartPinLaw" = some m.cls) (hw : ∀ d ∈ tables_1, d.before a0 Z = true) (v0 : Int32) {fs : List Frame} (hl : own_Rt e T m fs (.int (f2_184 v0))) : Steps p.tables e below (T.setTop (mkF m 184 #[.val (.int v0)] [])) (T.setFrames fs) := by
  show Steps p.tables e below (T.setTop (mkF m 184 #[.val (.int v0)] [])) _
  refine XS.iconst X.here hx rfl (hb hby d2_184) ?_
  show Steps p.tables e below (T.setTop (mkF m 185 #[.val (.int v0)] [(.int (0 : Int32))])) _
  exact retN X hx (t := .boolean) hret (by simp) (hb hby d2_185) hl
theorem g2_177 (X : Stand p l e R s m args below meth c T locs cells slots) (hx : p.tables.exec = Jvm.exec) (hby : c.code = method_2_code) (hret : meth.sig.returnType = some .boolean) (hZ : Z.Warmed39 s.vm) (hown : s.vm.findClass "com/example/riddle/riddle/xdm/QNameIsNameStartPinLaw" = some m.cls) (hw : ∀ d ∈ tables_1, d.before a0 Z = true) (v0 : Int32) {fs : List Frame} (hl : own_Rt e T m fs (.int (f2_177 v0))) : Steps p.tables e below (T.setTop (mkF m 177 #[.val (.int v0)] [])) (T.setFrames fs) := by
  show Steps p.tables e below (T.setTop (mkF m 177 #[.val (.int v0)] [])) _
  refine XS.iloadN X.here hx rfl (hb hby d2_177) rfl ?_
  show Steps p.tables e below (T.setTop (mkF m 178 #[.val (.int v0)] [(.int v0)])) _
  refine XS.sipush X.here hx rfl (hb hby d2_178) ?_
  show Steps p.tables e below (T.setTop (mkF m 181 #[.val (.int v0)] [(.int (12288 : Int32)), (.int v0)])) _
  by_cases hc : (12288 : Int32) < v0
  · rw [show f2_177 v0 = f2_186 v0 from if_pos hc] at hl
    refine XS.icmpYes X.here hx rfl (pc0 := 181) (pc' := 186) rfl (hb hby d2_181) rfl (tlt hc).2.2.1 (by decide) (by decide) ?_
    exact g2_186 X hx hby hret hZ hown hw v0 hl
  · rw [show f2_177 v0 = f2_184 v0 from if_neg hc] at hl
    refine XS.icmpNo X.here hx rfl (hb hby d2_181) rfl (flt hc).2.2.1 ?_
    exact g2_184 X hx hby hret hZ hown hw v0 hl
theorem g2_175 (X : Stand p l e R s m args below meth c T locs cells slots) (hx : p.tables.exec = Jvm.exec) (hby : c.code = method_2_code) (hret : meth.sig.returnType = some .boolean) (hZ : Z.Warmed39 s.vm) (hown : s.vm.findClass "com/example/riddle/riddle/xdm/QNameIsNameStartPinLaw" = some m.cls) (hw : ∀ d ∈ tables_1, d.before a0 Z = true) (v0 : Int32) {fs : List Frame} (hl : own_Rt e T m fs (.int (f2_175 v0))) : Steps p.tables e below (T.setTop (mkF m 175 #[.val (.int v0)] [])) (T.setFrames fs) := by
  show Steps p.tables e below (T.setTop (mkF m 175 #[.val (.int v0)] [])) _
  refine XS.iconst X.here hx rfl (hb hby d2_175) ?_
  show Steps p.tables e below (T.setTop (mkF m 176 #[.val (.int v0)] [(.int (1 : Int32))])) _
  exact retN X hx (t := .boolean) hret (by simp) (hb hby d2_176) hl
theorem g2_168 (X : Stand p l e R s m args below meth c T locs cells slots) (hx : p.tables.exec = Jvm.exec) (hby : c.code = method_2_code) (hret : meth.sig.returnType = some .boolean) (hZ : Z.Warmed39 s.vm) (hown : s.vm.findClass "com/example/riddle/riddle/xdm/QNameIsNameStartPinLaw" = some m.cls) (hw : ∀ d ∈ tables_1, d.before a0 Z = true) (v0 : Int32) {fs : List Frame} (hl : own_Rt e T m fs (.int (f2_168 v0))) : Steps p.tables e below (T.setTop (mkF m 168 #[.val (.int v0)] [])) (T.setFrames fs) := by
  show Steps p.tables e below (T.setTop (mkF m 168 #[.val (.int v0)] [])) _
  refine XS.iloadN X.here hx rfl (hb hby d2_168) rfl ?_
  show Steps p.tables e below (T.setTop (mkF m 169 #[.val (.int v0)] [(.int v0)])) _
  refine XS.sipush X.here hx rfl (hb hby d2_169) ?_
  show Steps p.tables e below (T.setTop (mkF m 172 #[.val (.int v0)] [(.int (12272 : Int32)), (.int v0)])) _
  by_cases hc : v0 < (12272 : Int32)
  · rw [show f2_168 v0 = f2_175 v0 from if_pos hc] at hl
    refine XS.icmpNo X.here hx rfl (hb hby d2_172) rfl (tlt hc).2.1 ?_
    exact g2_175 X hx hby hret hZ hown hw v0 hl
  · rw [show f2_168 v0 = f2_177 v0 from if_neg hc] at hl
    refine XS.icmpYes X.here hx rfl (pc0 := 172) (pc' := 177) rfl (hb hby d2_172) rfl (flt hc).2.1 (by decide) (by decide) ?_
    exact g2_177 X hx hby hret hZ hown hw v0 hl
theorem g2_166 (X : Stand p l e R s m args below meth c T locs cells slots) (hx : p.tables.exec = Jvm.exec) (hby : c.code = method_2_code) (hret : meth.sig.returnType = some .boolean) (hZ : Z.Warmed39 s.vm) (hown : s.vm.findClass "com/example/riddle/riddle/xdm/QNameIsNameStartPinLaw" = some m.cls) (hw : ∀ d ∈ tables_1, d.before a0 Z = true) (v0 : Int32) {fs : List Frame} (hl : own_Rt e T m fs (.int (f2_166 v0))) : Steps p.tables e below (T.setTop (mkF m 166 #[.val (.int v0)] [])) (T.setFrames fs) := by
  show Steps p.tables e below (T.setTop (mkF m 166 #[.val (.int v0)] [])) _
  refine XS.iconst X.here hx rfl (hb hby d2_166) ?_
  show Steps p.tables e below (T.setTop (mkF m 167 #[.val (.int v0)] [(.int (0 : Int32))])) _
  exact retN X hx (t := .boolean) hret (by simp) (hb hby d2_167) hl
theorem g2_159 (X : Stand p l e R s m args below meth c T locs cells slots) (hx : p.tables.exec = Jvm.exec) (hby : c.code = method_2_code) (hret : meth.sig.returnType = some .boolean) (hZ : Z.Warmed39 s.vm) (hown : s.vm.findClass "com/example/riddle/riddle/xdm/QNameIsNameStartPinLaw" = some m.cls) (hw : ∀ d ∈ tables_1, d.before a0 Z = true) (v0 : Int32) {fs : List Frame} (hl : own_Rt e T m fs (.int (f2_159 v0))) : Steps p.tables e below (T.setTop (mkF m 159 #[.val (.int v0)] [])) (T.setFrames fs) := by
  show Steps p.tables e below (T.setTop (mkF m 159 #[.val (.int v0)] [])) _
  refine XS.iloadN X.here hx rfl (hb hby d2_159) rfl ?_
  show Steps p.tables e below (T.setTop (mkF m 160 #[.val (.int v0)] [(.int v0)])) _
  refine XS.sipush X.here hx rfl (hb hby d2_160) ?_
  show Steps p.tables e below (T.setTop (mkF m 163 #[.val (.int v0)] [(.int (11264 : Int32)), (.int v0)])) _
  by_cases hc : v0 < (11264 : Int32)
  · rw [show f2_159 v0 = f2_166 v0 from if_pos hc] at hl
    refine XS.icmpNo X.here hx rfl (hb hby d2_163) rfl (tlt hc).2.1 ?_
    exact g2_166 X hx hby hret hZ hown hw v0 hl
  · rw [show f2_159 v0 = f2_168 v0 from if_neg hc] at hl
    refine XS.icmpYes X.here hx rfl (pc0 := 163) (pc' := 168) rfl (hb hby d2_163) rfl (flt hc).2.1 (by decide) (by decide) ?_
    exact g2_168 X hx hby hret hZ hown hw v0 hl
theorem g2_157 (X : Stand p l e R s m args below meth c T locs cells slots) (hx : p.tables.exec = Jvm.exec) (hby : c.code = method_2_code) (hret : meth.sig.returnType = some .boolean) (hZ : Z.Warmed39 s.vm) (hown : s.vm.findClass "com/example/riddle/riddle/xdm/QNameIsNameStartPinLaw" = some m.cls) (hw : ∀ d ∈ tables_1, d.before a0 Z = true) (v0 : Int32) {fs : List Frame} (hl : own_Rt e T m fs (.int (f2_157 v0))) : Steps p.tables e below (T.setTop (mkF m 157 #[.val (.int v0)] [])) (T.setFrames fs) := by
  show Steps p.tables e below (T.setTop (mkF m 157 #[.val (.int v0)] [])) _
  refine XS.iconst X.here hx rfl (hb hby d2_157) ?_
  show Steps p.tables e below (T.setTop (mkF m 158 #[.val (.int v0)] [(.int (1 : Int32))])) _
  exact retN X hx (t := .boolean) hret (by simp) (hb hby d2_158) hl
theorem g2_150 (X : Stand p l e R s m args below meth c T locs cells slots) (hx : p.tables.exec = Jvm.exec) (hby : c.code = method_2_code) (hret : meth.sig.returnType = some .boolean) (hZ : Z.Warmed39 s.vm) (hown : s.vm.findClass "com/example/riddle/riddle/xdm/QNameIsNameStartPinLaw" = some m.cls) (hw : ∀ d ∈ tables_1, d.before a0 Z = true) (v0 : Int32) {fs : List Frame} (hl : own_Rt e T m fs (.int (f2_150 v0))) : Steps p.tables e below (T.setTop (mkF m 150 #[.val (.int v0)] [])) (T.setFrames fs) := by
  show Steps p.tables e below (T.setTop (mkF m 150 #[.val (.int v0)] [])) _
  refine XS.iloadN X.here hx rfl (hb hby d2_150) rfl ?_
  show Steps p.tables e below (T.setTop (mkF m 151 #[.val (.int v0)] [(.int v0)])) _
  refine XS.sipush X.here hx rfl (hb hby d2_151) ?_
  show Steps p.tables e below (T.setTop (mkF m 154 #[.val (.int v0)] [(.int (8592 : Int32)), (.int v0)])) _
  by_cases hc : v0 < (8592 : Int32)
  · rw [show f2_150 v0 = f2_157 v0 from if_pos hc] at hl
    refine XS.icmpNo X.here hx rfl (hb hby d2_154) rfl (tlt hc).2.1 ?_
    exact g2_157 X hx hby hret hZ hown hw v0 hl
  · rw [show f2_150 v0 = f2_159 v0 from if_neg hc] at hl
    refine XS.icmpYes X.here hx rfl (pc0 := 154) (pc' := 159) rfl (hb hby d2_154) rfl (flt hc).2.1 (by decide) (by decide) ?_
    exact g2_159 X hx hby hret hZ hown hw v0 hl
theorem g2_148 (X : Stand p l e R s m args below meth c T locs cells slots) (hx : p.tables.exec = Jvm.exec) (hby : c.code = method_2_code) (hret : meth.sig.returnType = some .boolean) (hZ : Z.Warmed39 s.vm) (hown : s.vm.findClass "com/example/riddle/riddle/xdm/QNameIsNameStartPinLaw" = some m.cls) (hw : ∀ d ∈ tables_1, d.before a0 Z = true) (v0 : Int32) {fs : List Frame} (hl : own_Rt e T m fs (.int (f2_148 v0))) : Steps p.tables e below (T.setTop (mkF m 148 #[.val (.int v0)] [])) (T.setFrames fs) := by
  show Steps p.tables e below (T.setTop (mkF m 148 #[.val (.int v0)] [])) _
  refine XS.iconst X.here hx rfl (hb hby d2_148) ?_
  show Steps p.tables e below (T.setTop (mkF m 149 #[.val (.int v0)] [(.int (0 : Int32))])) _
  exact retN X hx (t := .boolean) hret (by simp) (hb hby d2_149) hl
theorem g2_144 (X : Stand p l e R s m args below meth c T locs cells slots) (hx : p.tables.exec = Jvm.exec) (hby : c.code = method_2_code) (hret : meth.sig.returnType = some .boolean) (hZ : Z.Warmed39 s.vm) (hown : s.vm.findClass "com/example/riddle/riddle/xdm/QNameIsNameStartPinLaw" = some m.cls) (hw : ∀ d ∈ tables_1, d.before a0 Z = true) (v0 : Int32) {fs : List Frame} (hl : own_Rt e T m fs (.int (f2_144 v0))) : Steps p.tables e below (T.setTop (mkF m 144 #[.val (.int v0)] [])) (T.setFrames fs) := by
  show Steps p.tables e below (T.setTop (mkF m 144 #[.val (.int v0)] [])) _
  refine XS.iconst X.here hx rfl (hb hby d2_144) ?_
  show Steps p.tables e below (T.setTop (mkF m 145 #[.val (.int v0)] [(.int (1 : Int32))])) _
  refine XS.goto X.here hx rfl (pc0 := 145) (pc' := 149) rfl (hb hby d2_145) (by decide) (by decide) ?_
  show Steps p.tables e below (T.setTop (mkF m 149 #[.val (.int v0)] [(.int (1 : Int32))])) _
  exact retN X hx (t := .boolean) hret (by simp) (hb hby d2_149) hl
theorem g2_137 (X : Stand p l e R s m args below meth c T locs cells slots) (hx : p.tables.exec = Jvm.exec) (hby : c.code = method_2_code) (hret : meth.sig.returnType = some .boolean) (hZ : Z.Warmed39 s.vm) (hown : s.vm.findClass "com/example/riddle/riddle/xdm/QNameIsNameStartPinLaw" = some m.cls) (hw : ∀ d ∈ tables_1, d.before a0 Z = true) (v0 : Int32) {fs : List Frame} (hl : own_Rt e T m fs (.int (f2_137 v0))) : Steps p.tables e below (T.setTop (mkF m 137 #[.val (.int v0)] [])) (T.setFrames fs) := by
  show Steps p.tables e below (T.setTop (mkF m 137 #[.val (.int v0)] [])) _
  refine XS.iloadN X.here hx rfl (hb hby d2_137) rfl ?_
  show Steps p.tables e below (T.setTop (mkF m 138 #[.val (.int v0)] [(.int v0)])) _
  refine XS.sipush X.here hx rfl (hb hby d2_138) ?_
  show Steps p.tables e below (T.setTop (mkF m 141 #[.val (.int v0)] [(.int (8205 : Int32)), (.int v0)])) _
  by_cases hc : v0 = (8205 : Int32)
  · rw [show f2_137 v0 = f2_144 v0 from if_pos hc] at hl
    refine XS.icmpNo X.here hx rfl (hb hby d2_141) rfl (teq hc).2 ?_
    exact g2_144 X hx hby hret hZ hown hw v0 hl
  · rw [show f2_137 v0 = f2_148 v0 from if_neg hc] at hl
    refine XS.icmpYes X.here hx rfl (pc0 := 141) (pc' := 148) rfl (hb hby d2_141) rfl (feq hc).2 (by decide) (by decide) ?_
    exact g2_148 X hx hby hret hZ hown hw v0 hl
theorem g2_130 (X : Stand p l e R s m args below meth c T locs cells slots) (hx : p.tables.exec = Jvm.exec) (hby : c.code = method_2_code) (hret : meth.sig.returnType = some .boolean) (hZ : Z.Warmed39 s.vm) (hown : s.vm.findClass "com/example/riddle/riddle/xdm/QNameIsNameStartPinLaw" = some m.cls) (hw : ∀ d ∈ tables_1, d.before a0 Z = true) (v0 : Int32) {fs : List Frame} (hl : own_Rt e T m fs (.int (f2_130 v0))) : Steps p.tables e below (T.setTop (mkF m 130 #[.val (.int v0)] [])) (T.setFrames fs) := by
  show Steps p.tables e below (T.setTop (mkF m 130 #[.val (.int v0)] [])) _
  refine XS.iloadN X.here hx rfl (hb hby d2_130) rfl ?_
  show Steps p.tables e below (T.setTop (mkF m 131 #[.val (.int v0)] [(.int v0)])) _
  refine XS.sipush X.here hx rfl (hb hby d2_131) ?_
  show Steps p.tables e below (T.setTop (mkF m 134 #[.val (.int v0)] [(.int (8204 : Int32)), (.int v0)])) _
  by_cases hc : v0 = (8204 : Int32)
  · rw [show f2_130 v0 = f2_144 v0 from if_pos hc] at hl
    refine XS.icmpYes X.here hx rfl (pc0 := 134) (pc' := 144) rfl (hb hby d2_134) rfl (teq hc).1 (by decide) (by decide) ?_
    exact g2_144 X hx hby hret hZ hown hw v0 hl
  · rw [show f2_130 v0 = f2_137 v0 from if_neg hc] at hl
    refine XS.icmpNo X.here hx rfl (hb hby d2_134) rfl (feq hc).1 ?_
    exact g2_137 X hx hby hret hZ hown hw v0 hl
theorem g2_123 (X : Stand p l e R s m args below meth c T locs cells slots) (hx : p.tables.exec = Jvm.exec) (hby : c.code = method_2_code) (hret : meth.sig.returnType = some .boolean) (hZ : Z.Warmed39 s.vm) (hown : s.vm.findClass "com/example/riddle/riddle/xdm/QNameIsNameStartPinLaw" = some m.cls) (hw : ∀ d ∈ tables_1, d.before a0 Z = true) (v0 : Int32) {fs : List Frame} (hl : own_Rt e T m fs (.int (f2_123 v0))) : Steps p.tables e below (T.setTop (mkF m 123 #[.val (.int v0)] [])) (T.setFrames fs) := by
  show Steps p.tables e below (T.setTop (mkF m 123 #[.val (.int v0)] [])) _
  refine XS.iloadN X.here hx rfl (hb hby d2_123) rfl ?_
  show Steps p.tables e below (T.setTop (mkF m 124 #[.val (.int v0)] [(.int v0)])) _
  refine XS.sipush X.here hx rfl (hb hby d2_124) ?_
  show Steps p.tables e below (T.setTop (mkF m 127 #[.val (.int v0)] [(.int (8304 : Int32)), (.int v0)])) _
  by_cases hc : v0 < (8304 : Int32)
  · rw [show f2_123 v0 = f2_130 v0 from if_pos hc] at hl
    refine XS.icmpNo X.here hx rfl (hb hby d2_127) rfl (tlt hc).2.1 ?_
    exact g2_130 X hx hby hret hZ hown hw v0 hl
  · rw [show f2_123 v0 = f2_150 v0 from if_neg hc] at hl
    refine XS.icmpYes X.here hx rfl (pc0 := 127) (pc' := 150) rfl (hb hby d2_127) rfl (flt hc).2.1 (by decide) (by decide) ?_
    exact g2_150 X hx hby hret hZ hown hw v0 hl
theorem g2_121 (X : Stand p l e R s m args below meth c T locs cells slots) (hx : p.tables.exec = Jvm.exec) (hby : c.code = method_2_code) (hret : meth.sig.returnType = some .boolean) (hZ : Z.Warmed39 s.vm) (hown : s.vm.findClass "com/example/riddle/riddle/xdm/QNameIsNameStartPinLaw" = some m.cls) (hw : ∀ d ∈ tables_1, d.before a0 Z = true) (v0 : Int32) {fs : List Frame} (hl : own_Rt e T m fs (.int (f2_121 v0))) : Steps p.tables e below (T.setTop (mkF m 121 #[.val (.int v0)] [])) (T.setFrames fs) := by
  show Steps p.tables e below (T.setTop (mkF m 121 #[.val (.int v0)] [])) _
  refine XS.iconst X.here hx rfl (hb hby d2_121) ?_
  show Steps p.tables e below (T.setTop (mkF m 122 #[.val (.int v0)] [(.int (0 : Int32))])) _
  exact retN X hx (t := .boolean) hret (by simp) (hb hby d2_122) hl
theorem g2_117 (X : Stand p l e R s m args below meth c T locs cells slots) (hx : p.tables.exec = Jvm.exec) (hby : c.code = method_2_code) (hret : meth.sig.returnType = some .boolean) (hZ : Z.Warmed39 s.vm) (hown : s.vm.findClass "com/example/riddle/riddle/xdm/QNameIsNameStartPinLaw" = some m.cls) (hw : ∀ d ∈ tables_1, d.before a0 Z = true) (v0 : Int32) {fs : List Frame} (hl : own_Rt e T m fs (.int (f2_117 v0))) : Steps p.tables e below (T.setTop (mkF m 117 #[.val (.int v0)] [])) (T.setFrames fs) := by
  show Steps p.tables e below (T.setTop (mkF m 117 #[.val (.int v0)] [])) _
  refine XS.iconst X.here hx rfl (hb hby d2_117) ?_
  show Steps p.tables e below (T.setTop (mkF m 118 #[.val (.int v0)] [(.int (1 : Int32))])) _
  refine XS.goto X.here hx rfl (pc0 := 118) (pc' := 122) rfl (hb hby d2_118) (by decide) (by decide) ?_
  show Steps p.tables e below (T.setTop (mkF m 122 #[.val (.int v0)] [(.int (1 : Int32))])) _
  exact retN X hx (t := .boolean) hret (by simp) (hb hby d2_122) hl
theorem g2_110 (X : Stand p l e R s m args below meth c T locs cells slots) (hx : p.tables.exec = Jvm.exec) (hby : c.code = method_2_code) (hret : meth.sig.returnType = some .boolean) (hZ : Z.Warmed39 s.vm) (hown : s.vm.findClass "com/example/riddle/riddle/xdm/QNameIsNameStartPinLaw" = some m.cls) (hw : ∀ d ∈ tables_1, d.before a0 Z = true) (v0 : Int32) {fs : List Frame} (hl : own_Rt e T m fs (.int (f2_110 v0))) : Steps p.tables e below (T.setTop (mkF m 110 #[.val (.int v0)] [])) (T.setFrames fs) := by
  show Steps p.tables e below (T.setTop (mkF m 110 #[.val (.int v0)] [])) _
  refine XS.iloadN X.here hx rfl (hb hby d2_110) rfl ?_
  show Steps p.tables e below (T.setTop (mkF m 111 #[.val (.int v0)] [(.int v0)])) _
  refine XS.sipush X.here hx rfl (hb hby d2_111) ?_
  show Steps p.tables e below (T.setTop (mkF m 114 #[.val (.int v0)] [(.int (894 : Int32)), (.int v0)])) _
  by_cases hc : v0 = (894 : Int32)
  · rw [show f2_110 v0 = f2_121 v0 from if_pos hc] at hl
    refine XS.icmpYes X.here hx rfl (pc0 := 114) (pc' := 121) rfl (hb hby d2_114) rfl (teq hc).1 (by decide) (by decide) ?_
    exact g2_121 X hx hby hret hZ hown hw v0 hl
  · rw [show f2_110 v0 = f2_117 v0 from if_neg hc] at hl
    refine XS.icmpNo X.here hx rfl (hb hby d2_114) rfl (feq hc).1 ?_
    exact g2_117 X hx hby hret hZ hown hw v0 hl
theorem g2_103 (X : Stand p l e R s m args below meth c T locs cells slots) (hx : p.tables.exec = Jvm.exec) (hby : c.code = method_2_code) (hret : meth.sig.returnType = some .boolean) (hZ : Z.Warmed39 s.vm) (hown : s.vm.findClass "com/example/riddle/riddle/xdm/QNameIsNameStartPinLaw" = some m.cls) (hw : ∀ d ∈ tables_1, d.before a0 Z = true) (v0 : Int32) {fs : List Frame} (hl : own_Rt e T m fs (.int (f2_103 v0))) : Steps p.tables e below (T.setTop (mkF m 103 #[.val (.int v0)] [])) (T.setFrames fs) := by
  show Steps p.tables e below (T.setTop (mkF m 103 #[.val (.int v0)] [])) _
  refine XS.iloadN X.here hx rfl (hb hby d2_103) rfl ?_
  show Steps p.tables e below (T.setTop (mkF m 104 #[.val (.int v0)] [(.int v0)])) _
  refine XS.sipush X.here hx rfl (hb hby d2_104) ?_
  show Steps p.tables e below (T.setTop (mkF m 107 #[.val (.int v0)] [(.int (8192 : Int32)), (.int v0)])) _
  by_cases hc : v0 < (8192 : Int32)
  · rw [show f2_103 v0 = f2_110 v0 from if_pos hc] at hl
    refine XS.icmpNo X.here hx rfl (hb hby d2_107) rfl (tlt hc).2.1 ?_
    exact g2_110 X hx hby hret hZ hown hw v0 hl
  · rw [show f2_103 v0 = f2_123 v0 from if_neg hc] at hl
    refine XS.icmpYes X.here hx rfl (pc0 := 107) (pc' := 123) rfl (hb hby d2_107) rfl (flt hc).2.1 (by decide) (by decide) ?_
    exact g2_123 X hx hby hret hZ hown hw v0 hl
theorem g2_101 (X : Stand p l e R s m args below meth c T locs cells slots) (hx : p.tables.exec = Jvm.exec) (hby : c.code = method_2_code) (hret : meth.sig.returnType = some .boolean) (hZ : Z.Warmed39 s.vm) (hown : s.vm.findClass "com/example/riddle/riddle/xdm/QNameIsNameStartPinLaw" = some m.cls) (hw : ∀ d ∈ tables_1, d.before a0 Z = true) (v0 : Int32) {fs : List Frame} (hl : own_Rt e T m fs (.int (f2_101 v0))) : Steps p.tables e below (T.setTop (mkF m 101 #[.val (.int v0)] [])) (T.setFrames fs) := by
  show Steps p.tables e below (T.setTop (mkF m 101 #[.val (.int v0)] [])) _
  refine XS.iconst X.here hx rfl (hb hby d2_101) ?_
  show Steps p.tables e below (T.setTop (mkF m 102 #[.val (.int v0)] [(.int (0 : Int32))])) _
  exact retN X hx (t := .boolean) hret (by simp) (hb hby d2_102) hl
theorem g2_94 (X : Stand p l e R s m args below meth c T locs cells slots) (hx : p.tables.exec = Jvm.exec) (hby : c.code = method_2_code) (hret : meth.sig.returnType = some .boolean) (hZ : Z.Warmed39 s.vm) (hown : s.vm.findClass "com/example/riddle/riddle/xdm/QNameIsNameStartPinLaw" = some m.cls) (hw : ∀ d ∈ tables_1, d.before a0 Z = true) (v0 : Int32) {fs : List Frame} (hl : own_Rt e T m fs (.int (f2_94 v0))) : Steps p.tables e below (T.setTop (mkF m 94 #[.val (.int v0)] [])) (T.setFrames fs) := by
  show Steps p.tables e below (T.setTop (mkF m 94 #[.val (.int v0)] [])) _
  refine XS.iloadN X.here hx rfl (hb hby d2_94) rfl ?_
  show Steps p.tables e below (T.setTop (mkF m 95 #[.val (.int v0)] [(.int v0)])) _
  refine XS.sipush X.here hx rfl (hb hby d2_95) ?_
  show Steps p.tables e below (T.setTop (mkF m 98 #[.val (.int v0)] [(.int (880 : Int32)), (.int v0)])) _
  by_cases hc : v0 < (880 : Int32)
  · rw [show f2_94 v0 = f2_101 v0 from if_pos hc] at hl
    refine XS.icmpNo X.here hx rfl (hb hby d2_98) rfl (tlt hc).2.1 ?_
    exact g2_101 X hx hby hret hZ hown hw v0 hl
  · rw [show f2_94 v0 = f2_103 v0 from if_neg hc] at hl
    refine XS.icmpYes X.here hx rfl (pc0 := 98) (pc' := 103) rfl (hb hby d2_98) rfl (flt hc).2.1 (by decide) (by decide) ?_
    exact g2_103 X hx hby hret hZ hown hw v0 hl
theorem g2_92 (X : Stand p l e R s m args below meth c T locs cells slots) (hx : p.tables.exec = Jvm.exec) (hby : c.code = method_2_code) (hret : meth.sig.returnType = some .boolean) (hZ : Z.Warmed39 s.vm) (hown : s.vm.findClass "com/example/riddle/riddle/xdm/QNameIsNameStartPinLaw" = some m.cls) (hw : ∀ d ∈ tables_1, d.before a0 Z = true) (v0 : Int32) {fs : List Frame} (hl : own_Rt e T m fs (.int (f2_92 v0))) : Steps p.tables e below (T.setTop (mkF m 92 #[.val (.int v0)] [])) (T.setFrames fs) := by
  show Steps p.tables e below (T.setTop (mkF m 92 #[.val (.int v0)] [])) _
  refine XS.iconst X.here hx rfl (hb hby d2_92) ?_
  show Steps p.tables e below (T.setTop (mkF m 93 #[.val (.int v0)] [(.int (0 : Int32))])) _
  exact retN X hx (t := .boolean) hret (by simp) (hb hby d2_93) hl
theorem g2_88 (X : Stand p l e R s m args below meth c T locs cells slots) (hx : p.tables.exec = Jvm.exec) (hby : c.code = method_2_code) (hret : meth.sig.returnType = some .boolean) (hZ : Z.Warmed39 s.vm) (hown : s.vm.findClass "com/example/riddle/riddle/xdm/QNameIsNameStartPinLaw" = some m.cls) (hw : ∀ d ∈ tables_1, d.before a0 Z = true) (v0 : Int32) {fs : List Frame} (hl : own_Rt e T m fs (.int (f2_88 v0))) : Steps p.tables e below (T.setTop (mkF m 88 #[.val (.int v0)] [])) (T.setFrames fs) := by
  show Steps p.tables e below (T.setTop (mkF m 88 #[.val (.int v0)] [])) _
  refine XS.iconst X.here hx rfl (hb hby d2_88) ?_
  show Steps p.tables e below (T.setTop (mkF m 89 #[.val (.int v0)] [(.int (1 : Int32))])) _
  refine XS.goto X.here hx rfl (pc0 := 89) (pc' := 93) rfl (hb hby d2_89) (by decide) (by decide) ?_
  show Steps p.tables e below (T.setTop (mkF m 93 #[.val (.int v0)] [(.int (1 : Int32))])) _
  exact retN X hx (t := .boolean) hret (by simp) (hb hby d2_93) hl
theorem g2_81 (X : Stand p l e R s m args below meth c T locs cells slots) (hx : p.tables.exec = Jvm.exec) (hby : c.code = method_2_code) (hret : meth.sig.returnType = some .boolean) (hZ : Z.Warmed39 s.vm) (hown : s.vm.findClass "com/example/riddle/riddle/xdm/QNameIsNameStartPinLaw" = some m.cls) (hw : ∀ d ∈ tables_1, d.before a0 Z = true) (v0 : Int32) {fs : List Frame} (hl : own_Rt e T m fs (.int (f2_81 v0))) : Steps p.tables e below (T.setTop (mkF m 81 #[.val (.int v0)] [])) (T.setFrames fs) := by
  show Steps p.tables e below (T.setTop (mkF m 81 #[.val (.int v0)] [])) _
  refine XS.iloadN X.here hx rfl (hb hby d2_81) rfl ?_
  show Steps p.tables e below (T.setTop (mkF m 82 #[.val (.int v0)] [(.int v0)])) _
  refine XS.sipush X.here hx rfl (hb hby d2_82) ?_
  show Steps p.tables e below (T.setTop (mkF m 85 #[.val (.int v0)] [(.int (247 : Int32)), (.int v0)])) _
  by_cases hc : v0 = (247 : Int32)
  · rw [show f2_81 v0 = f2_92 v0 from if_pos hc] at hl
    refine XS.icmpYes X.here hx rfl (pc0 := 85) (pc' := 92) rfl (hb hby d2_85) rfl (teq hc).1 (by decide) (by decide) ?_
    exact g2_92 X hx hby hret hZ hown hw v0 hl
  · rw [show f2_81 v0 = f2_88 v0 from if_neg hc] at hl
    refine XS.icmpNo X.here hx rfl (hb hby d2_85) rfl (feq hc).1 ?_
    exact g2_88 X hx hby hret hZ hown hw v0 hl
theorem g2_74 (X : Stand p l e R s m args below meth c T locs cells slots) (hx : p.tables.exec = Jvm.exec) (hby : c.code = method_2_code) (hret : meth.sig.returnType = some .boolean) (hZ : Z.Warmed39 s.vm) (hown : s.vm.findClass "com/example/riddle/riddle/xdm/QNameIsNameStartPinLaw" = some m.cls) (hw : ∀ d ∈ tables_1, d.before a0 Z = true) (v0 : Int32) {fs : List Frame} (hl : own_Rt e T m fs (.int (f2_74 v0))) : Steps p.tables e below (T.setTop (mkF m 74 #[.val (.int v0)] [])) (T.setFrames fs) := by
  show Steps p.tables e below (T.setTop (mkF m 74 #[.val (.int v0)] [])) _
  refine XS.iloadN X.here hx rfl (hb hby d2_74) rfl ?_
  show Steps p.tables e below (T.setTop (mkF m 75 #[.val (.int v0)] [(.int v0)])) _
  refine XS.sipush X.here hx rfl (hb hby d2_75) ?_
  show Steps p.tables e below (T.setTop (mkF m 78 #[.val (.int v0)] [(.int (215 : Int32)), (.int v0)])) _
  by_cases hc : v0 = (215 : Int32)
  · rw [show f2_74 v0 = f2_92 v0 from if_pos hc] at hl
    refine XS.icmpYes X.here hx rfl (pc0 := 78) (pc' := 92) rfl (hb hby d2_78) rfl (teq hc).1 (by decide) (by decide) ?_
    exact g2_92 X hx hby hret hZ hown hw v0 hl
  · rw [show f2_74 v0 = f2_81 v0 from if_neg hc] at hl
    refine XS.icmpNo X.here hx rfl (hb hby d2_78) rfl (feq hc).1 ?_
    exact g2_81 X hx hby hret hZ hown hw v0 hl
theorem g2_67 (X : Stand p l e R s m args below meth c T locs cells slots) (hx : p.tables.exec = Jvm.exec) (hby : c.code = method_2_code) (hret : meth.sig.returnType = some .boolean) (hZ : Z.Warmed39 s.vm) (hown : s.vm.findClass "com/example/riddle/riddle/xdm/QNameIsNameStartPinLaw" = some m.cls) (hw : ∀ d ∈ tables_1, d.before a0 Z = true) (v0 : Int32) {fs : List Frame} (hl : own_Rt e T m fs (.int (f2_67 v0))) : Steps p.tables e below (T.setTop (mkF m 67 #[.val (.int v0)] [])) (T.setFrames fs) := by
  show Steps p.tables e below (T.setTop (mkF m 67 #[.val (.int v0)] [])) _
  refine XS.iloadN X.here hx rfl (hb hby d2_67) rfl ?_
  show Steps p.tables e below (T.setTop (mkF m 68 #[.val (.int v0)] [(.int v0)])) _
  refine XS.sipush X.here hx rfl (hb hby d2_68) ?_
  show Steps p.tables e below (T.setTop (mkF m 71 #[.val (.int v0)] [(.int (768 : Int32)), (.int v0)])) _
  by_cases hc : v0 < (768 : Int32)
  · rw [show f2_67 v0 = f2_74 v0 from if_pos hc] at hl
    refine XS.icmpNo X.here hx rfl (hb hby d2_71) rfl (tlt hc).2.1 ?_
    exact g2_74 X hx hby hret hZ hown hw v0 hl
  · rw [show f2_67 v0 = f2_94 v0 from if_neg hc] at hl
    refine XS.icmpYes X.here hx rfl (pc0 := 71) (pc' := 94) rfl (hb hby d2_71) rfl (flt hc).2.1 (by decide) (by decide) ?_
    exact g2_94 X hx hby hret hZ hown hw v0 hl
theorem g2_65 (X : Stand p l e R s m args below meth c T locs cells slots) (hx : p.tables.exec = Jvm.exec) (hby : c.code = method_2_code) (hret : meth.sig.returnType = some .boolean) (hZ : Z.Warmed39 s.vm) (hown : s.vm.findClass "com/example/riddle/riddle/xdm/QNameIsNameStartPinLaw" = some m.cls) (hw : ∀ d ∈ tables_1, d.before a0 Z = true) (v0 : Int32) {fs : List Frame} (hl : own_Rt e T m fs (.int (f2_65 v0))) : Steps p.tables e below (T.setTop (mkF m 65 #[.val (.int v0)] [])) (T.setFrames fs) := by
  show Steps p.tables e below (T.setTop (mkF m 65 #[.val (.int v0)] [])) _
  refine XS.iconst X.here hx rfl (hb hby d2_65) ?_
  show Steps p.tables e below (T.setTop (mkF m 66 #[.val (.int v0)] [(.int (0 : Int32))])) _
  exact retN X hx (t := .boolean) hret (by simp) (hb hby d2_66) hl
theorem g2_58 (X : Stand p l e R s m args below meth c T locs cells slots) (hx : p.tables.exec = Jvm.exec) (hby : c.code = method_2_code) (hret : meth.sig.returnType = some .boolean) (hZ : Z.Warmed39 s.vm) (hown : s.vm.findClass "com/example/riddle/riddle/xdm/QNameIsNameStartPinLaw" = some m.cls) (hw : ∀ d ∈ tables_1, d.before a0 Z = true) (v0 : Int32) {fs : List Frame} (hl : own_Rt e T m fs (.int (f2_58 v0))) : Steps p.tables e below (T.setTop (mkF m 58 #[.val (.int v0)] [])) (T.setFrames fs) := by
  show Steps p.tables e below (T.setTop (mkF m 58 #[.val (.int v0)] [])) _
  refine XS.iloadN X.here hx rfl (hb hby d2_58) rfl ?_
  show Steps p.tables e below (T.setTop (mkF m 59 #[.val (.int v0)] [(.int v0)])) _
  refine XS.sipush X.here hx rfl (hb hby d2_59) ?_
  show Steps p.tables e below (T.setTop (mkF m 62 #[.val (.int v0)] [(.int (192 : Int32)), (.int v0)])) _
  by_cases hc : v0 < (192 : Int32)
  · rw [show f2_58 v0 = f2_65 v0 from if_pos hc] at hl
    refine XS.icmpNo X.here hx rfl (hb hby d2_62) rfl (tlt hc).2.1 ?_
    exact g2_65 X hx hby hret hZ hown hw v0 hl
  · rw [show f2_58 v0 = f2_67 v0 from if_neg hc] at hl
    refine XS.icmpYes X.here hx rfl (pc0 := 62) (pc' := 67) rfl (hb hby d2_62) rfl (flt hc).2.1 (by decide) (by decide) ?_
    exact g2_67 X hx hby hret hZ hown hw v0 hl
theorem g2_56 (X : Stand p l e R s m args below meth c T locs cells slots) (hx : p.tables.exec = Jvm.exec) (hby : c.code = method_2_code) (hret : meth.sig.returnType = some .boolean) (hZ : Z.Warmed39 s.vm) (hown : s.vm.findClass "com/example/riddle/riddle/xdm/QNameIsNameStartPinLaw" = some m.cls) (hw : ∀ d ∈ tables_1, d.before a0 Z = true) (v0 : Int32) {fs : List Frame} (hl : own_Rt e T m fs (.int (f2_56 v0))) : Steps p.tables e below (T.setTop (mkF m 56 #[.val (.int v0)] [])) (T.setFrames fs) := by
  show Steps p.tables e below (T.setTop (mkF m 56 #[.val (.int v0)] [])) _
  refine XS.iconst X.here hx rfl (hb hby d2_56) ?_
  show Steps p.tables e below (T.setTop (mkF m 57 #[.val (.int v0)] [(.int (1 : Int32))])) _
  exact retN X hx (t := .boolean) hret (by simp) (hb hby d2_57) hl
theorem g2_50 (X : Stand p l e R s m args below meth c T locs cells slots) (hx : p.tables.exec = Jvm.exec) (hby : c.code = method_2_code) (hret : meth.sig.returnType = some .boolean) (hZ : Z.Warmed39 s.vm) (hown : s.vm.findClass "com/example/riddle/riddle/xdm/QNameIsNameStartPinLaw" = some m.cls) (hw : ∀ d ∈ tables_1, d.before a0 Z = true) (v0 : Int32) {fs : List Frame} (hl : own_Rt e T m fs (.int (f2_50 v0))) : Steps p.tables e below (T.setTop (mkF m 50 #[.val (.int v0)] [])) (T.setFrames fs) := by
  show Steps p.tables e below (T.setTop (mkF m 50 #[.val (.int v0)] [])) _
  refine XS.iloadN X.here hx rfl (hb hby d2_50) rfl ?_
  show Steps p.tables e below (T.setTop (mkF m 51 #[.val (.int v0)] [(.int v0)])) _
  refine XS.bipush X.here hx rfl (hb hby d2_51) ?_
  show Steps p.tables e below (T.setTop (mkF m 53 #[.val (.int v0)] [(.int (122 : Int32)), (.int v0)])) _
  by_cases hc : (122 : Int32) < v0
  · rw [show f2_50 v0 = f2_58 v0 from if_pos hc] at hl
    refine XS.icmpYes X.here hx rfl (pc0 := 53) (pc' := 58) rfl (hb hby d2_53) rfl (tlt hc).2.2.1 (by decide) (by decide) ?_
    exact g2_58 X hx hby hret hZ hown hw v0 hl
  · rw [show f2_50 v0 = f2_56 v0 from if_neg hc] at hl
    refine XS.icmpNo X.here hx rfl (hb hby d2_53) rfl (flt hc).2.2.1 ?_
    exact g2_56 X hx hby hret hZ hown hw v0 hl
theorem g2_48 (X : Stand p l e R s m args below meth c T locs cells slots) (hx : p.tables.exec = Jvm.exec) (hby : c.code = method_2_code) (hret : meth.sig.returnType = some .boolean) (hZ : Z.Warmed39 s.vm) (hown : s.vm.findClass "com/example/riddle/riddle/xdm/QNameIsNameStartPinLaw" = some m.cls) (hw : ∀ d ∈ tables_1, d.before a0 Z = true) (v0 : Int32) {fs : List Frame} (hl : own_Rt e T m fs (.int (f2_48 v0))) : Steps p.tables e below (T.setTop (mkF m 48 #[.val (.int v0)] [])) (T.setFrames fs) := by
  show Steps p.tables e below (T.setTop (mkF m 48 #[.val (.int v0)] [])) _
  refine XS.iconst X.here hx rfl (hb hby d2_48) ?_
  show Steps p.tables e below (T.setTop (mkF m 49 #[.val (.int v0)] [(.int (0 : Int32))])) _
  exact retN X hx (t := .boolean) hret (by simp) (hb hby d2_49) hl
theorem g2_44 (X : Stand p l e R s m args below meth c T locs cells slots) (hx : p.tables.exec = Jvm.exec) (hby : c.code = method_2_code) (hret : meth.sig.returnType = some .boolean) (hZ : Z.Warmed39 s.vm) (hown : s.vm.findClass "com/example/riddle/riddle/xdm/QNameIsNameStartPinLaw" = some m.cls) (hw : ∀ d ∈ tables_1, d.before a0 Z = true) (v0 : Int32) {fs : List Frame} (hl : own_Rt e T m fs (.int (f2_44 v0))) : Steps p.tables e below (T.setTop (mkF m 44 #[.val (.int v0)] [])) (T.setFrames fs) := by
  show Steps p.tables e below (T.setTop (mkF m 44 #[.val (.int v0)] [])) _
  refine XS.iconst X.here hx rfl (hb hby d2_44) ?_
  show Steps p.tables e below (T.setTop (mkF m 45 #[.val (.int v0)] [(.int (1 : Int32))])) _
  refine XS.goto X.here hx rfl (pc0 := 45) (pc' := 49) rfl (hb hby d2_45) (by decide) (by decide) ?_
  show Steps p.tables e below (T.setTop (mkF m 49 #[.val (.int v0)] [(.int (1 : Int32))])) _
  exact retN X hx (t := .boolean) hret (by simp) (hb hby d2_49) hl
theorem g2_38 (X : Stand p l e R s m args below meth c T locs cells slots) (hx : p.tables.exec = Jvm.exec) (hby : c.code = method_2_code) (hret : meth.sig.returnType = some .boolean) (hZ : Z.Warmed39 s.vm) (hown : s.vm.findClass "com/example/riddle/riddle/xdm/QNameIsNameStartPinLaw" = some m.cls) (hw : ∀ d ∈ tables_1, d.before a0 Z = true) (v0 : Int32) {fs : List Frame} (hl : own_Rt e T m fs (.int (f2_38 v0))) : Steps p.tables e below (T.setTop (mkF m 38 #[.val (.int v0)] [])) (T.setFrames fs) := by
  show Steps p.tables e below (T.setTop (mkF m 38 #[.val (.int v0)] [])) _
  refine XS.iloadN X.here hx rfl (hb hby d2_38) rfl ?_
  show Steps p.tables e below (T.setTop (mkF m 39 #[.val (.int v0)] [(.int v0)])) _
  refine XS.bipush X.here hx rfl (hb hby d2_39) ?_
  show Steps p.tables e below (T.setTop (mkF m 41 #[.val (.int v0)] [(.int (95 : Int32)), (.int v0)])) _
  by_cases hc : v0 = (95 : Int32)
  · rw [show f2_38 v0 = f2_44 v0 from if_pos hc] at hl
    refine XS.icmpNo X.here hx rfl (hb hby d2_41) rfl (teq hc).2 ?_
    exact g2_44 X hx hby hret hZ hown hw v0 hl
  · rw [show f2_38 v0 = f2_48 v0 from if_neg hc] at hl
    refine XS.icmpYes X.here hx rfl (pc0 := 41) (pc' := 48) rfl (hb hby d2_41) rfl (feq hc).2 (by decide) (by decide) ?_
    exact g2_48 X hx hby hret hZ hown hw v0 hl
theorem g2_32 (X : Stand p l e R s m args below meth c T locs cells slots) (hx : p.tables.exec = Jvm.exec) (hby : c.code = method_2_code) (hret : meth.sig.returnType = some .boolean) (hZ : Z.Warmed39 s.vm) (hown : s.vm.findClass "com/example/riddle/riddle/xdm/QNameIsNameStartPinLaw" = some m.cls) (hw : ∀ d ∈ tables_1, d.before a0 Z = true) (v0 : Int32) {fs : List Frame} (hl : own_Rt e T m fs (.int (f2_32 v0))) : Steps p.tables e below (T.setTop (mkF m 32 #[.val (.int v0)] [])) (T.setFrames fs) := by
  show Steps p.tables e below (T.setTop (mkF m 32 #[.val (.int v0)] [])) _
  refine XS.iloadN X.here hx rfl (hb hby d2_32) rfl ?_
  show Steps p.tables e below (T.setTop (mkF m 33 #[.val (.int v0)] [(.int v0)])) _
  refine XS.bipush X.here hx rfl (hb hby d2_33) ?_
  show Steps p.tables e below (T.setTop (mkF m 35 #[.val (.int v0)] [(.int (97 : Int32)), (.int v0)])) _
  by_cases hc : v0 < (97 : Int32)
  · rw [show f2_32 v0 = f2_38 v0 from if_pos hc] at hl
    refine XS.icmpNo X.here hx rfl (hb hby d2_35) rfl (tlt hc).2.1 ?_
    exact g2_38 X hx hby hret hZ hown hw v0 hl
  · rw [show f2_32 v0 = f2_50 v0 from if_neg hc] at hl
    refine XS.icmpYes X.here hx rfl (pc0 := 35) (pc' := 50) rfl (hb hby d2_35) rfl (flt hc).2.1 (by decide) (by decide) ?_
    exact g2_50 X hx hby hret hZ hown hw v0 hl
theorem g2_30 (X : Stand p l e R s m args below meth c T locs cells slots) (hx : p.tables.exec = Jvm.exec) (hby : c.code = method_2_code) (hret : meth.sig.returnType = some .boolean) (hZ : Z.Warmed39 s.vm) (hown : s.vm.findClass "com/example/riddle/riddle/xdm/QNameIsNameStartPinLaw" = some m.cls) (hw : ∀ d ∈ tables_1, d.before a0 Z = true) (v0 : Int32) {fs : List Frame} (hl : own_Rt e T m fs (.int (f2_30 v0))) : Steps p.tables e below (T.setTop (mkF m 30 #[.val (.int v0)] [])) (T.setFrames fs) := by
  show Steps p.tables e below (T.setTop (mkF m 30 #[.val (.int v0)] [])) _
  refine XS.iconst X.here hx rfl (hb hby d2_30) ?_
  show Steps p.tables e below (T.setTop (mkF m 31 #[.val (.int v0)] [(.int (1 : Int32))])) _
  exact retN X hx (t := .boolean) hret (by simp) (hb hby d2_31) hl
theorem g2_24 (X : Stand p l e R s m args below meth c T locs cells slots) (hx : p.tables.exec = Jvm.exec) (hby : c.code = method_2_code) (hret : meth.sig.returnType = some .boolean) (hZ : Z.Warmed39 s.vm) (hown : s.vm.findClass "com/example/riddle/riddle/xdm/QNameIsNameStartPinLaw" = some m.cls) (hw : ∀ d ∈ tables_1, d.before a0 Z = true) (v0 : Int32) {fs : List Frame} (hl : own_Rt e T m fs (.int (f2_24 v0))) : Steps p.tables e below (T.setTop (mkF m 24 #[.val (.int v0)] [])) (T.setFrames fs) := by
  show Steps p.tables e below (T.setTop (mkF m 24 #[.val (.int v0)] [])) _
  refine XS.iloadN X.here hx rfl (hb hby d2_24) rfl ?_
  show Steps p.tables e below (T.setTop (mkF m 25 #[.val (.int v0)] [(.int v0)])) _
  refine XS.bipush X.here hx rfl (hb hby d2_25) ?_
  show Steps p.tables e below (T.setTop (mkF m 27 #[.val (.int v0)] [(.int (90 : Int32)), (.int v0)])) _
  by_cases hc : (90 : Int32) < v0
  · rw [show f2_24 v0 = f2_32 v0 from if_pos hc] at hl
    refine XS.icmpYes X.here hx rfl (pc0 := 27) (pc' := 32) rfl (hb hby d2_27) rfl (tlt hc).2.2.1 (by decide) (by decide) ?_
    exact g2_32 X hx hby hret hZ hown hw v0 hl
  · rw [show f2_24 v0 = f2_30 v0 from if_neg hc] at hl
    refine XS.icmpNo X.here hx rfl (hb hby d2_27) rfl (flt hc).2.2.1 ?_
    exact g2_30 X hx hby hret hZ hown hw v0 hl
theorem g2_22 (X : Stand p l e R s m args below meth c T locs cells slots) (hx : p.tables.exec = Jvm.exec) (hby : c.code = method_2_code) (hret : meth.sig.returnType = some .boolean) (hZ : Z.Warmed39 s.vm) (hown : s.vm.findClass "com/example/riddle/riddle/xdm/QNameIsNameStartPinLaw" = some m.cls) (hw : ∀ d ∈ tables_1, d.before a0 Z = true) (v0 : Int32) {fs : List Frame} (hl : own_Rt e T m fs (.int (f2_22 v0))) : Steps p.tables e below (T.setTop (mkF m 22 #[.val (.int v0)] [])) (T.setFrames fs) := by
  show Steps p.tables e below (T.setTop (mkF m 22 #[.val (.int v0)] [])) _
  refine XS.iconst X.here hx rfl (hb hby d2_22) ?_
  show Steps p.tables e below (T.setTop (mkF m 23 #[.val (.int v0)] [(.int (1 : Int32))])) _
  exact retN X hx (t := .boolean) hret (by simp) (hb hby d2_23) hl
theorem g2_16 (X : Stand p l e R s m args below meth c T locs cells slots) (hx : p.tables.exec = Jvm.exec) (hby : c.code = method_2_code) (hret : meth.sig.returnType = some .boolean) (hZ : Z.Warmed39 s.vm) (hown : s.vm.findClass "com/example/riddle/riddle/xdm/QNameIsNameStartPinLaw" = some m.cls) (hw : ∀ d ∈ tables_1, d.before a0 Z = true) (v0 : Int32) {fs : List Frame} (hl : own_Rt e T m fs (.int (f2_16 v0))) : Steps p.tables e below (T.setTop (mkF m 16 #[.val (.int v0)] [])) (T.setFrames fs) := by
  show Steps p.tables e below (T.setTop (mkF m 16 #[.val (.int v0)] [])) _
  refine XS.iloadN X.here hx rfl (hb hby d2_16) rfl ?_
  show Steps p.tables e below (T.setTop (mkF m 17 #[.val (.int v0)] [(.int v0)])) _
  refine X.ldcI hx hown (mv hZ (hw _ (List.mem_of_getElem? (i := 6) rfl))) rfl (hb hby d2_17) ?_
  show Steps p.tables e below (T.setTop (mkF m 19 #[.val (.int v0)] [(.int (65536 : Int32)), (.int v0)])) _
  by_cases hc : v0 < (65536 : Int32)
  · rw [show f2_16 v0 = f2_24 v0 from if_pos hc] at hl
    refine XS.icmpYes X.here hx rfl (pc0 := 19) (pc' := 24) rfl (hb hby d2_19) rfl (tlt hc).1 (by decide) (by decide) ?_
    exact g2_24 X hx hby hret hZ hown hw v0 hl
  · rw [show f2_16 v0 = f2_22 v0 from if_neg hc] at hl
    refine XS.icmpNo X.here hx rfl (hb hby d2_19) rfl (flt hc).1 ?_
    exact g2_22 X hx hby hret hZ hown hw v0 hl
theorem g2_14 (X : Stand p l e R s m args below meth c T locs cells slots) (hx : p.tables.exec = Jvm.exec) (hby : c.code = method_2_code) (hret : meth.sig.returnType = some .boolean) (hZ : Z.Warmed39 s.vm) (hown : s.vm.findClass "com/example/riddle/riddle/xdm/QNameIsNameStartPinLaw" = some m.cls) (hw : ∀ d ∈ tables_1, d.before a0 Z = true) (v0 : Int32) {fs : List Frame} (hl : own_Rt e T m fs (.int (f2_14 v0))) : Steps p.tables e below (T.setTop (mkF m 14 #[.val (.int v0)] [])) (T.setFrames fs) := by
  show Steps p.tables e below (T.setTop (mkF m 14 #[.val (.int v0)] [])) _
  refine XS.iconst X.here hx rfl (hb hby d2_14) ?_
  show Steps p.tables e below (T.setTop (mkF m 15 #[.val (.int v0)] [(.int (0 : Int32))])) _
  exact retN X hx (t := .boolean) hret (by simp) (hb hby d2_15) hl
theorem g2_8 (X : Stand p l e R s m args below meth c T locs cells slots) (hx : p.tables.exec = Jvm.exec) (hby : c.code = method_2_code) (hret : meth.sig.returnType = some .boolean) (hZ : Z.Warmed39 s.vm) (hown : s.vm.findClass "com/example/riddle/riddle/xdm/QNameIsNameStartPinLaw" = some m.cls) (hw : ∀ d ∈ tables_1, d.before a0 Z = true) (v0 : Int32) {fs : List Frame} (hl : own_Rt e T m fs (.int (f2_8 v0))) : Steps p.tables e below (T.setTop (mkF m 8 #[.val (.int v0)] [])) (T.setFrames fs) := by
  show Steps p.tables e below (T.setTop (mkF m 8 #[.val (.int v0)] [])) _
  refine XS.iloadN X.here hx rfl (hb hby d2_8) rfl ?_
  show Steps p.tables e below (T.setTop (mkF m 9 #[.val (.int v0)] [(.int v0)])) _
  refine X.ldcI hx hown (mv hZ (hw _ (List.mem_of_getElem? (i := 22) rfl))) rfl (hb hby d2_9) ?_
  show Steps p.tables e below (T.setTop (mkF m 11 #[.val (.int v0)] [(.int (983039 : Int32)), (.int v0)])) _
  by_cases hc : (983039 : Int32) < v0
  · rw [show f2_8 v0 = f2_14 v0 from if_pos hc] at hl
    refine XS.icmpNo X.here hx rfl (hb hby d2_11) rfl (tlt hc).2.2.2 ?_
    exact g2_14 X hx hby hret hZ hown hw v0 hl
  · rw [show f2_8 v0 = f2_16 v0 from if_neg hc] at hl
    refine XS.icmpYes X.here hx rfl (pc0 := 11) (pc' := 16) rfl (hb hby d2_11) rfl (flt hc).2.2.2 (by decide) (by decide) ?_
    exact g2_16 X hx hby hret hZ hown hw v0 hl
theorem g2_6 (X : Stand p l e R s m args below meth c T locs cells slots) (hx : p.tables.exec = Jvm.exec) (hby : c.code = method_2_code) (hret : meth.sig.returnType = some .boolean) (hZ : Z.Warmed39 s.vm) (hown : s.vm.findClass "com/example/riddle/riddle/xdm/QNameIsNameStartPinLaw" = some m.cls) (hw : ∀ d ∈ tables_1, d.before a0 Z = true) (v0 : Int32) {fs : List Frame} (hl : own_Rt e T m fs (.int (f2_6 v0))) : Steps p.tables e below (T.setTop (mkF m 6 #[.val (.int v0)] [])) (T.setFrames fs) := by
  show Steps p.tables e below (T.setTop (mkF m 6 #[.val (.int v0)] [])) _
  refine XS.iconst X.here hx rfl (hb hby d2_6) ?_
  show Steps p.tables e below (T.setTop (mkF m 7 #[.val (.int v0)] [(.int (0 : Int32))])) _
  exact retN X hx (t := .boolean) hret (by simp) (hb hby d2_7) hl
theorem g2_0 (X : Stand p l e R s m args below meth c T locs cells slots) (hx : p.tables.exec = Jvm.exec) (hby : c.code = method_2_code) (hret : meth.sig.returnType = some .boolean) (hZ : Z.Warmed39 s.vm) (hown : s.vm.findClass "com/example/riddle/riddle/xdm/QNameIsNameStartPinLaw" = some m.cls) (hw : ∀ d ∈ tables_1, d.before a0 Z = true) (v0 : Int32) {fs : List Frame} (hl : own_Rt e T m fs (.int (f2_0 v0))) : Steps p.tables e below (T.setTop (mkF m 0 #[.val (.int v0)] [])) (T.setFrames fs) := by
  show Steps p.tables e below (T.setTop (mkF m 0 #[.val (.int v0)] [])) _
  refine XS.iloadN X.here hx rfl (hb hby d2_0) rfl ?_
  show Steps p.tables e below (T.setTop (mkF m 1 #[.val (.int v0)] [(.int v0)])) _
  refine XS.bipush X.here hx rfl (hb hby d2_1) ?_
  show Steps p.tables e below (T.setTop (mkF m 3 #[.val (.int v0)] [(.int (65 : Int32)), (.int v0)])) _
  by_cases hc : v0 < (65 : Int32)
  · rw [show f2_0 v0 = f2_6 v0 from if_pos hc] at hl
    refine XS.icmpNo X.here hx rfl (hb hby d2_3) rfl (tlt hc).2.1 ?_
    exact g2_6 X hx hby hret hZ hown hw v0 hl
  · rw [show f2_0 v0 = f2_8 v0 from if_neg hc] at hl
    refine XS.icmpYes X.here hx rfl (pc0 := 3) (pc' := 8) rfl (hb hby d2_3) rfl (flt hc).2.1 (by decide) (by decide) ?_
    exact g2_8 X hx hby hret hZ hown hw v0 hl
end Own2
def Q2 (v0 : Int32) (h0 : Heap) (n0 : Nat) (v : Option Value) (h : Heap) (L : List Loc) : Prop := v = some (.int (f2_0 v0)) ∧ Fr n0 L ∧ h = h0
set_option maxRecDepth 65536 in
set_option maxHeartbeats 40000000 in
theorem rm2 (l : Launch) (Z : State) (a0 : Array Value) (hw : ∀ d ∈ tables_1, d.before a0 Z = true) (ws : List Jvm.Cond) (v0 : Int32) (h0 : Heap) (n0 : Nat) (Z0 : n0 ≤ h0.size) :
    MetFree l (⟨"com/example/riddle/riddle/xdm/QNameIsNameStartPinLaw", "ref", "(I)Z"⟩ : MethodName) (head1 (Jvm.Cond.code (⟨"com/example/riddle/riddle/xdm/QNameIsNameStartPinLaw", "ref", "(I)Z"⟩ : MethodName) method_2_code 1 (some .boolean) :: ws) ({ frames := 0, cells := 0, slots := 0, locals := 0 } : Room)) (fun a U => a = #[(.int v0)] ∧ Z.Warmed39 U.vm ∧ U.heap = h0) (fun _ _ _ _ _ => True) (fun _ U o U' => ∃ v L, o = .returned v ∧ Q2 v0 h0 n0 v U'.heap L ∧ FrameEnd U o U' L ({ frames := 0, cells := 0, slots := 0, locals := 0 } : Room).cells ({ frames := 0, cells := 0, slots := 0, locals := 0 } : Room).slots) := by
  refine MetFree.of_bodySF (plainFor_of_name pn_2) hisR ?_
  intro p e s m args below meth c s₁ Bd hml0 hP hK
  obtain ⟨rfl, hZ, hh⟩ := hP
  have hx := Bd.exec
  have hby := Bd.bytes
  have hown : s.vm.findClass "com/example/riddle/riddle/xdm/QNameIsNameStartPinLaw" = some m.cls := findClass_of_methodNamed Bd.named
  have X0 : Stand p l e ({ frames := 0, cells := 0, slots := 0, locals := 0 } : Room) s m #[(.int v0)] below meth c s₁ [] 0 0 := Stand.of_body Bd
  have e0 : s₁.heap = h0 := by rw [← hh, Bd.state]; rfl
  have N0 := Fr.nil n0
  have pre0 : ∀ t, Steps p.tables e below (s₁.setTop (mkF m 0 #[.val (.int v0)] [])) t → Steps p.tables e below (s₁.setTop (entryFrame m #[(.int v0)] 1)) t := fun t k => castTop (ef_2 m v0) k
  obtain ⟨fs, hr, hrun, hended, hW, hsame⟩ := X0.leave (v := some (.int (f2_0 v0))) (fun h => by rw [Bd.returns] at h; cases h)
  refine ⟨_, _, pre0 _ ?_, hrun, hended, _, _, rfl, ?_, ⟨_, rfl⟩, hW, hsame.mono (by decide) (by decide)⟩
  · exact g2_0 X0 hx hby Bd.returns hZ hown hw v0 hr
  · show Q2 v0 h0 n0 _ s₁.heap _
    rw [e0]
    exact ⟨rfl, N0, rfl⟩
theorem pd_2 : parseMethodDescriptor "(I)Z" = some ⟨[.int], some .boolean⟩ := by decide +kernel
theorem own_eq {x y : Int32} : x = y ↔ x.toInt = y.toInt := Int32.toInt_inj.symm
theorem own_lt {x y : Int32} : x < y ↔ x.toInt < y.toInt := Int32.lt_iff_toInt_lt
theorem t1_0 (v0 : Int32) (h1 : (-2147483648) ≤ v0.toInt) (h2 : v0.toInt ≤ 64) : f1_0 v0 = (0 : Int32) := by
  rw [show f1_0 v0 = f1_12 v0 from if_pos ((own_lt (x := v0) (y := (97 : Int32))).mpr (show v0.toInt < (97) by omega))]
  rw [show f1_12 v0 = f1_24 v0 from if_pos ((own_lt (x := v0) (y := (65 : Int32))).mpr (show v0.toInt < (65) by omega))]
  rw [show f1_24 v0 = f1_30 v0 from if_neg (fun h => absurd ((own_eq (x := v0) (y := (95 : Int32))).mp h) (show ¬ v0.toInt = (95) by omega))]
  rw [show f1_30 v0 = f1_44 v0 from if_pos ((own_lt (x := v0) (y := (192 : Int32))).mpr (show v0.toInt < (192) by omega))]
  rw [show f1_44 v0 = f1_58 v0 from if_pos ((own_lt (x := v0) (y := (216 : Int32))).mpr (show v0.toInt < (216) by omega))]
  rw [show f1_58 v0 = f1_72 v0 from if_pos ((own_lt (x := v0) (y := (248 : Int32))).mpr (show v0.toInt < (248) by omega))]
  rw [show f1_72 v0 = f1_86 v0 from if_pos ((own_lt (x := v0) (y := (880 : Int32))).mpr (show v0.toInt < (880) by omega))]
  rw [show f1_86 v0 = f1_100 v0 from if_pos ((own_lt (x := v0) (y := (895 : Int32))).mpr (show v0.toInt < (895) by omega))]
  rw [show f1_100 v0 = f1_114 v0 from if_pos ((own_lt (x := v0) (y := (8204 : Int32))).mpr (show v0.toInt < (8204) by omega))]
  rw [show f1_114 v0 = f1_128 v0 from if_pos ((own_lt (x := v0) (y := (8304 : Int32))).mpr (show v0.toInt < (8304) by omega))]
  rw [show f1_128 v0 = f1_142 v0 from if_pos ((own_lt (x := v0) (y := (11264 : Int32))).mpr (show v0.toInt < (11264) by omega))]
  rw [show f1_142 v0 = f1_155 v0 from if_pos ((own_lt (x := v0) (y := (12289 : Int32))).mpr (show v0.toInt < (12289) by omega))]
  rw [show f1_155 v0 = f1_167 v0 from if_pos ((own_lt (x := v0) (y := (63744 : Int32))).mpr (show v0.toInt < (63744) by omega))]
  rw [show f1_167 v0 = f1_179 v0 from if_pos ((own_lt (x := v0) (y := (65008 : Int32))).mpr (show v0.toInt < (65008) by omega))]
  rw [show f1_179 v0 = f1_195 v0 from if_pos ((own_lt (x := v0) (y := (65536 : Int32))).mpr (show v0.toInt < (65536) by omega))]
  rfl
theorem t1_1 (v0 : Int32) (h1 : (65) ≤ v0.toInt) (h2 : v0.toInt ≤ 90) : f1_0 v0 = (1 : Int32) := by
  rw [show f1_0 v0 = f1_12 v0 from if_pos ((own_lt (x := v0) (y := (97 : Int32))).mpr (show v0.toInt < (97) by omega))]
  rw [show f1_12 v0 = f1_18 v0 from if_neg (fun h => absurd ((own_lt (x := v0) (y := (65 : Int32))).mp h) (show ¬ v0.toInt < (65) by omega))]
  rw [show f1_18 v0 = f1_191 v0 from if_neg (fun h => absurd ((own_lt (x := (90 : Int32)) (y := v0)).mp h) (show ¬ (90) < v0.toInt by omega))]
  rfl
theorem t1_2 (v0 : Int32) (h1 : (91) ≤ v0.toInt) (h2 : v0.toInt ≤ 94) : f1_0 v0 = (0 : Int32) := by
  rw [show f1_0 v0 = f1_12 v0 from if_pos ((own_lt (x := v0) (y := (97 : Int32))).mpr (show v0.toInt < (97) by omega))]
  rw [show f1_12 v0 = f1_18 v0 from if_neg (fun h => absurd ((own_lt (x := v0) (y := (65 : Int32))).mp h) (show ¬ v0.toInt < (65) by omega))]
  rw [show f1_18 v0 = f1_24 v0 from if_pos ((own_lt (x := (90 : Int32)) (y := v0)).mpr (show (90) < v0.toInt by omega))]
  rw [show f1_24 v0 = f1_30 v0 from if_neg (fun h => absurd ((own_eq (x := v0) (y := (95 : Int32))).mp h) (show ¬ v0.toInt = (95) by omega))]
  rw [show f1_30 v0 = f1_44 v0 from if_pos ((own_lt (x := v0) (y := (192 : Int32))).mpr (show v0.toInt < (192) by omega))]
  rw [show f1_44 v0 = f1_58 v0 from if_pos ((own_lt (x := v0) (y := (216 : Int32))).mpr (show v0.toInt < (216) by omega))]
  rw [show f1_58 v0 = f1_72 v0 from if_pos ((own_lt (x := v0) (y := (248 : Int32))).mpr (show v0.toInt < (248) by omega))]
  rw [show f1_72 v0 = f1_86 v0 from if_pos ((own_lt (x := v0) (y := (880 : Int32))).mpr (show v0.toInt < (880) by omega))]
  rw [show f1_86 v0 = f1_100 v0 from if_pos ((own_lt (x := v0) (y := (895 : Int32))).mpr (show v0.toInt < (895) by omega))]
  rw [show f1_100 v0 = f1_114 v0 from if_pos ((own_lt (x := v0) (y := (8204 : Int32))).mpr (show v0.toInt < (8204) by omega))]
  rw [show f1_114 v0 = f1_128 v0 from if_pos ((own_lt (x := v0) (y := (8304 : Int32))).mpr (show v0.toInt < (8304) by omega))]
  rw [show f1_128 v0 = f1_142 v0 from if_pos ((own_lt (x := v0) (y := (11264 : Int32))).mpr (show v0.toInt < (11264) by omega))]
  rw [show f1_142 v0 = f1_155 v0 from if_pos ((own_lt (x := v0) (y := (12289 : Int32))).mpr (show v0.toInt < (12289) by omega))]
  rw [show f1_155 v0 = f1_167 v0 from if_pos ((own_lt (x := v0) (y := (63744 : Int32))).mpr (show v0.toInt < (63744) by omega))]
  rw [show f1_167 v0 = f1_179 v0 from if_pos ((own_lt (x := v0) (y := (65008 : Int32))).mpr (show v0.toInt < (65008) by omega))]
  rw [show f1_179 v0 = f1_195 v0 from if_pos ((own_lt (x := v0) (y := (65536 : Int32))).mpr (show v0.toInt < (65536) by omega))]
  rfl
theorem t1_3 (v0 : Int32) (h1 : (95) ≤ v0.toInt) (h2 : v0.toInt ≤ 95) : f1_0 v0 = (1 : Int32) := by
  rw [show f1_0 v0 = f1_12 v0 from if_pos ((own_lt (x := v0) (y := (97 : Int32))).mpr (show v0.toInt < (97) by omega))]
  rw [show f1_12 v0 = f1_18 v0 from if_neg (fun h => absurd ((own_lt (x := v0) (y := (65 : Int32))).mp h) (show ¬ v0.toInt < (65) by omega))]
  rw [show f1_18 v0 = f1_24 v0 from if_pos ((own_lt (x := (90 : Int32)) (y := v0)).mpr (show (90) < v0.toInt by omega))]
  rw [show f1_24 v0 = f1_191 v0 from if_pos ((own_eq (x := v0) (y := (95 : Int32))).mpr (show v0.toInt = (95) by omega))]
  rfl
theorem t1_4 (v0 : Int32) (h1 : (96) ≤ v0.toInt) (h2 : v0.toInt ≤ 96) : f1_0 v0 = (0 : Int32) := by
  rw [show f1_0 v0 = f1_12 v0 from if_pos ((own_lt (x := v0) (y := (97 : Int32))).mpr (show v0.toInt < (97) by omega))]
  rw [show f1_12 v0 = f1_18 v0 from if_neg (fun h => absurd ((own_lt (x := v0) (y := (65 : Int32))).mp h) (show ¬ v0.toInt < (65) by omega))]
  rw [show f1_18 v0 = f1_24 v0 from if_pos ((own_lt (x := (90 : Int32)) (y := v0)).mpr (show (90) < v0.toInt by omega))]
  rw [show f1_24 v0 = f1_30 v0 from if_neg (fun h => absurd ((own_eq (x := v0) (y := (95 : Int32))).mp h) (show ¬ v0.toInt = (95) by omega))]
  rw [show f1_30 v0 = f1_44 v0 from if_pos ((own_lt (x := v0) (y := (192 : Int32))).mpr (show v0.toInt < (192) by omega))]
  rw [show f1_44 v0 = f1_58 v0 from if_pos ((own_lt (x := v0) (y := (216 : Int32))).mpr (show v0.toInt < (216) by omega))]
  rw [show f1_58 v0 = f1_72 v0 from if_pos ((own_lt (x := v0) (y := (248 : Int32))).mpr (show v0.toInt < (248) by omega))]
  rw [show f1_72 v0 = f1_86 v0 from if_pos ((own_lt (x := v0) (y := (880 : Int32))).mpr (show v0.toInt < (880) by omega))]
  rw [show f1_86 v0 = f1_100 v0 from if_pos ((own_lt (x := v0) (y := (895 : Int32))).mpr (show v0.toInt < (895) by omega))]
  rw [show f1_100 v0 = f1_114 v0 from if_pos ((own_lt (x := v0) (y := (8204 : Int32))).mpr (show v0.toInt < (8204) by omega))]
  rw [show f1_114 v0 = f1_128 v0 from if_pos ((own_lt (x := v0) (y := (8304 : Int32))).mpr (show v0.toInt < (8304) by omega))]
  rw [show f1_128 v0 = f1_142 v0 from if_pos ((own_lt (x := v0) (y := (11264 : Int32))).mpr (show v0.toInt < (11264) by omega))]
  rw [show f1_142 v0 = f1_155 v0 from if_pos ((own_lt (x := v0) (y := (12289 : Int32))).mpr (show v0.toInt < (12289) by omega))]
  rw [show f1_155 v0 = f1_167 v0 from if_pos ((own_lt (x := v0) (y := (63744 : Int32))).mpr (show v0.toInt < (63744) by omega))]
  rw [show f1_167 v0 = f1_179 v0 from if_pos ((own_lt (x := v0) (y := (65008 : Int32))).mpr (show v0.toInt < (65008) by omega))]
  rw [show f1_179 v0 = f1_195 v0 from if_pos ((own_lt (x := v0) (y := (65536 : Int32))).mpr (show v0.toInt < (65536) by omega))]
  rfl
theorem t1_5 (v0 : Int32) (h1 : (97) ≤ v0.toInt) (h2 : v0.toInt ≤ 122) : f1_0 v0 = (1 : Int32) := by
  rw [show f1_0 v0 = f1_6 v0 from if_neg (fun h => absurd ((own_lt (x := v0) (y := (97 : Int32))).mp h) (show ¬ v0.toInt < (97) by omega))]
  rw [show f1_6 v0 = f1_191 v0 from if_neg (fun h => absurd ((own_lt (x := (122 : Int32)) (y := v0)).mp h) (show ¬ (122) < v0.toInt by omega))]
  rfl
theorem t1_6 (v0 : Int32) (h1 : (123) ≤ v0.toInt) (h2 : v0.toInt ≤ 191) : f1_0 v0 = (0 : Int32) := by
  rw [show f1_0 v0 = f1_6 v0 from if_neg (fun h => absurd ((own_lt (x := v0) (y := (97 : Int32))).mp h) (show ¬ v0.toInt < (97) by omega))]
  rw [show f1_6 v0 = f1_12 v0 from if_pos ((own_lt (x := (122 : Int32)) (y := v0)).mpr (show (122) < v0.toInt by omega))]
  rw [show f1_12 v0 = f1_18 v0 from if_neg (fun h => absurd ((own_lt (x := v0) (y := (65 : Int32))).mp h) (show ¬ v0.toInt < (65) by omega))]
  rw [show f1_18 v0 = f1_24 v0 from if_pos ((own_lt (x := (90 : Int32)) (y := v0)).mpr (show (90) < v0.toInt by omega))]
  rw [show f1_24 v0 = f1_30 v0 from if_neg (fun h => absurd ((own_eq (x := v0) (y := (95 : Int32))).mp h) (show ¬ v0.toInt = (95) by omega))]
  rw [show f1_30 v0 = f1_44 v0 from if_pos ((own_lt (x := v0) (y := (192 : Int32))).mpr (show v0.toInt < (192) by omega))]
  rw [show f1_44 v0 = f1_58 v0 from if_pos ((own_lt (x := v0) (y := (216 : Int32))).mpr (show v0.toInt < (216) by omega))]
  rw [show f1_58 v0 = f1_72 v0 from if_pos ((own_lt (x := v0) (y := (248 : Int32))).mpr (show v0.toInt < (248) by omega))]
  rw [show f1_72 v0 = f1_86 v0 from if_pos ((own_lt (x := v0) (y := (880 : Int32))).mpr (show v0.toInt < (880) by omega))]
  rw [show f1_86 v0 = f1_100 v0 from if_pos ((own_lt (x := v0) (y := (895 : Int32))).mpr (show v0.toInt < (895) by omega))]
  rw [show f1_100 v0 = f1_114 v0 from if_pos ((own_lt (x := v0) (y := (8204 : Int32))).mpr (show v0.toInt < (8204) by omega))]
  rw [show f1_114 v0 = f1_128 v0 from if_pos ((own_lt (x := v0) (y := (8304 : Int32))).mpr (show v0.toInt < (8304) by omega))]
  rw [show f1_128 v0 = f1_142 v0 from if_pos ((own_lt (x := v0) (y := (11264 : Int32))).mpr (show v0.toInt < (11264) by omega))]
  rw [show f1_142 v0 = f1_155 v0 from if_pos ((own_lt (x := v0) (y := (12289 : Int32))).mpr (show v0.toInt < (12289) by omega))]
  rw [show f1_155 v0 = f1_167 v0 from if_pos ((own_lt (x := v0) (y := (63744 : Int32))).mpr (show v0.toInt < (63744) by omega))]
  rw [show f1_167 v0 = f1_179 v0 from if_pos ((own_lt (x := v0) (y := (65008 : Int32))).mpr (show v0.toInt < (65008) by omega))]
  rw [show f1_179 v0 = f1_195 v0 from if_pos ((own_lt (x := v0) (y := (65536 : Int32))).mpr (show v0.toInt < (65536) by omega))]
  rfl
theorem t1_7 (v0 : Int32) (h1 : (192) ≤ v0.toInt) (h2 : v0.toInt ≤ 214) : f1_0 v0 = (1 : Int32) := by
  rw [show f1_0 v0 = f1_6 v0 from if_neg (fun h => absurd ((own_lt (x := v0) (y := (97 : Int32))).mp h) (show ¬ v0.toInt < (97) by omega))]
  rw [show f1_6 v0 = f1_12 v0 from if_pos ((own_lt (x := (122 : Int32)) (y := v0)).mpr (show (122) < v0.toInt by omega))]
  rw [show f1_12 v0 = f1_18 v0 from if_neg (fun h => absurd ((own_lt (x := v0) (y := (65 : Int32))).mp h) (show ¬ v0.toInt < (65) by omega))]
  rw [show f1_18 v0 = f1_24 v0 from if_pos ((own_lt (x := (90 : Int32)) (y := v0)).mpr (show (90) < v0.toInt by omega))]
  rw [show f1_24 v0 = f1_30 v0 from if_neg (fun h => absurd ((own_eq (x := v0) (y := (95 : Int32))).mp h) (show ¬ v0.toInt = (95) by omega))]
  rw [show f1_30 v0 = f1_37 v0 from if_neg (fun h => absurd ((own_lt (x := v0) (y := (192 : Int32))).mp h) (show ¬ v0.toInt < (192) by omega))]
  rw [show f1_37 v0 = f1_191 v0 from if_neg (fun h => absurd ((own_lt (x := (214 : Int32)) (y := v0)).mp h) (show ¬ (214) < v0.toInt by omega))]
  rfl
theorem t1_8 (v0 : Int32) (h1 : (215) ≤ v0.toInt) (h2 : v0.toInt ≤ 215) : f1_0 v0 = (0 : Int32) := by
  rw [show f1_0 v0 = f1_6 v0 from if_neg (fun h => absurd ((own_lt (x := v0) (y := (97 : Int32))).mp h) (show ¬ v0.toInt < (97) by omega))]
  rw [show f1_6 v0 = f1_12 v0 from if_pos ((own_lt (x := (122 : Int32)) (y := v0)).mpr (show (122) < v0.toInt by omega))]
  rw [show f1_12 v0 = f1_18 v0 from if_neg (fun h => absurd ((own_lt (x := v0) (y := (65 : Int32))).mp h) (show ¬ v0.toInt < (65) by omega))]
  rw [show f1_18 v0 = f1_24 v0 from if_pos ((own_lt (x := (90 : Int32)) (y := v0)).mpr (show (90) < v0.toInt by omega))]
  rw [show f1_24 v0 = f1_30 v0 from if_neg (fun h => absurd ((own_eq (x := v0) (y := (95 : Int32))).mp h) (show ¬ v0.toInt = (95) by omega))]
  rw [show f1_30 v0 = f1_37 v0 from if_neg (fun h => absurd ((own_lt (x := v0) (y := (192 : Int32))).mp h) (show ¬ v0.toInt < (192) by omega))]
  rw [show f1_37 v0 = f1_44 v0 from if_pos ((own_lt (x := (214 : Int32)) (y := v0)).mpr (show (214) < v0.toInt by omega))]
  rw [show f1_44 v0 = f1_58 v0 from if_pos ((own_lt (x := v0) (y := (216 : Int32))).mpr (show v0.toInt < (216) by omega))]
  rw [show f1_58 v0 = f1_72 v0 from if_pos ((own_lt (x := v0) (y := (248 : Int32))).mpr (show v0.toInt < (248) by omega))]
  rw [show f1_72 v0 = f1_86 v0 from if_pos ((own_lt (x := v0) (y := (880 : Int32))).mpr (show v0.toInt < (880) by omega))]
  rw [show f1_86 v0 = f1_100 v0 from if_pos ((own_lt (x := v0) (y := (895 : Int32))).mpr (show v0.toInt < (895) by omega))]
  rw [show f1_100 v0 = f1_114 v0 from if_pos ((own_lt (x := v0) (y := (8204 : Int32))).mpr (show v0.toInt < (8204) by omega))]
  rw [show f1_114 v0 = f1_128 v0 from if_pos ((own_lt (x := v0) (y := (8304 : Int32))).mpr (show v0.toInt < (8304) by omega))]
  rw [show f1_128 v0 = f1_142 v0 from if_pos ((own_lt (x := v0) (y := (11264 : Int32))).mpr (show v0.toInt < (11264) by omega))]
  rw [show f1_142 v0 = f1_155 v0 from if_pos ((own_lt (x := v0) (y := (12289 : Int32))).mpr (show v0.toInt < (12289) by omega))]
  rw [show f1_155 v0 = f1_167 v0 from if_pos ((own_lt (x := v0) (y := (63744 : Int32))).mpr (show v0.toInt < (63744) by omega))]
  rw [show f1_167 v0 = f1_179 v0 from if_pos ((own_lt (x := v0) (y := (65008 : Int32))).mpr (show v0.toInt < (65008) by omega))]
  rw [show f1_179 v0 = f1_195 v0 from if_pos ((own_lt (x := v0) (y := (65536 : Int32))).mpr (show v0.toInt < (65536) by omega))]
  rfl
theorem t1_9 (v0 : Int32) (h1 : (216) ≤ v0.toInt) (h2 : v0.toInt ≤ 246) : f1_0 v0 = (1 : Int32) := by
  rw [show f1_0 v0 = f1_6 v0 from if_neg (fun h => absurd ((own_lt (x := v0) (y := (97 : Int32))).mp h) (show ¬ v0.toInt < (97) by omega))]
  rw [show f1_6 v0 = f1_12 v0 from if_pos ((own_lt (x := (122 : Int32)) (y := v0)).mpr (show (122) < v0.toInt by omega))]
  rw [show f1_12 v0 = f1_18 v0 from if_neg (fun h => absurd ((own_lt (x := v0) (y := (65 : Int32))).mp h) (show ¬ v0.toInt < (65) by omega))]
  rw [show f1_18 v0 = f1_24 v0 from if_pos ((own_lt (x := (90 : Int32)) (y := v0)).mpr (show (90) < v0.toInt by omega))]
  rw [show f1_24 v0 = f1_30 v0 from if_neg (fun h => absurd ((own_eq (x := v0) (y := (95 : Int32))).mp h) (show ¬ v0.toInt = (95) by omega))]
  rw [show f1_30 v0 = f1_37 v0 from if_neg (fun h => absurd ((own_lt (x := v0) (y := (192 : Int32))).mp h) (show ¬ v0.toInt < (192) by omega))]
  rw [show f1_37 v0 = f1_44 v0 from if_pos ((own_lt (x := (214 : Int32)) (y := v0)).mpr (show (214) < v0.toInt by omega))]
  rw [show f1_44 v0 = f1_51 v0 from if_neg (fun h => absurd ((own_lt (x := v0) (y := (216 : Int32))).mp h) (show ¬ v0.toInt < (216) by omega))]
  rw [show f1_51 v0 = f1_191 v0 from if_neg (fun h => absurd ((own_lt (x := (246 : Int32)) (y := v0)).mp h) (show ¬ (246) < v0.toInt by omega))]
  rfl
theorem t1_10 (v0 : Int32) (h1 : (247) ≤ v0.toInt) (h2 : v0.toInt ≤ 247) : f1_0 v0 = (0 : Int32) := by
  rw [show f1_0 v0 = f1_6 v0 from if_neg (fun h => absurd ((own_lt (x := v0) (y := (97 : Int32))).mp h) (show ¬ v0.toInt < (97) by omega))]
  rw [show f1_6 v0 = f1_12 v0 from if_pos ((own_lt (x := (122 : Int32)) (y := v0)).mpr (show (122) < v0.toInt by omega))]
  rw [show f1_12 v0 = f1_18 v0 from if_neg (fun h => absurd ((own_lt (x := v0) (y := (65 : Int32))).mp h) (show ¬ v0.toInt < (65) by omega))]
  rw [show f1_18 v0 = f1_24 v0 from if_pos ((own_lt (x := (90 : Int32)) (y := v0)).mpr (show (90) < v0.toInt by omega))]
  rw [show f1_24 v0 = f1_30 v0 from if_neg (fun h => absurd ((own_eq (x := v0) (y := (95 : Int32))).mp h) (show ¬ v0.toInt = (95) by omega))]
  rw [show f1_30 v0 = f1_37 v0 from if_neg (fun h => absurd ((own_lt (x := v0) (y := (192 : Int32))).mp h) (show ¬ v0.toInt < (192) by omega))]
  rw [show f1_37 v0 = f1_44 v0 from if_pos ((own_lt (x := (214 : Int32)) (y := v0)).mpr (show (214) < v0.toInt by omega))]
  rw [show f1_44 v0 = f1_51 v0 from if_neg (fun h => absurd ((own_lt (x := v0) (y := (216 : Int32))).mp h) (show ¬ v0.toInt < (216) by omega))]
  rw [show f1_51 v0 = f1_58 v0 from if_pos ((own_lt (x := (246 : Int32)) (y := v0)).mpr (show (246) < v0.toInt by omega))]
  rw [show f1_58 v0 = f1_72 v0 from if_pos ((own_lt (x := v0) (y := (248 : Int32))).mpr (show v0.toInt < (248) by omega))]
  rw [show f1_72 v0 = f1_86 v0 from if_pos ((own_lt (x := v0) (y := (880 : Int32))).mpr (show v0.toInt < (880) by omega))]
  rw [show f1_86 v0 = f1_100 v0 from if_pos ((own_lt (x := v0) (y := (895 : Int32))).mpr (show v0.toInt < (895) by omega))]
  rw [show f1_100 v0 = f1_114 v0 from if_pos ((own_lt (x := v0) (y := (8204 : Int32))).mpr (show v0.toInt < (8204) by omega))]
  rw [show f1_114 v0 = f1_128 v0 from if_pos ((own_lt (x := v0) (y := (8304 : Int32))).mpr (show v0.toInt < (8304) by omega))]
  rw [show f1_128 v0 = f1_142 v0 from if_pos ((own_lt (x := v0) (y := (11264 : Int32))).mpr (show v0.toInt < (11264) by omega))]
  rw [show f1_142 v0 = f1_155 v0 from if_pos ((own_lt (x := v0) (y := (12289 : Int32))).mpr (show v0.toInt < (12289) by omega))]
  rw [show f1_155 v0 = f1_167 v0 from if_pos ((own_lt (x := v0) (y := (63744 : Int32))).mpr (show v0.toInt < (63744) by omega))]
  rw [show f1_167 v0 = f1_179 v0 from if_pos ((own_lt (x := v0) (y := (65008 : Int32))).mpr (show v0.toInt < (65008) by omega))]
  rw [show f1_179 v0 = f1_195 v0 from if_pos ((own_lt (x := v0) (y := (65536 : Int32))).mpr (show v0.toInt < (65536) by omega))]
  rfl
theorem t1_11 (v0 : Int32) (h1 : (248) ≤ v0.toInt) (h2 : v0.toInt ≤ 767) : f1_0 v0 = (1 : Int32) := by
  rw [show f1_0 v0 = f1_6 v0 from if_neg (fun h => absurd ((own_lt (x := v0) (y := (97 : Int32))).mp h) (show ¬ v0.toInt < (97) by omega))]
  rw [show f1_6 v0 = f1_12 v0 from if_pos ((own_lt (x := (122 : Int32)) (y := v0)).mpr (show (122) < v0.toInt by omega))]
  rw [show f1_12 v0 = f1_18 v0 from if_neg (fun h => absurd ((own_lt (x := v0) (y := (65 : Int32))).mp h) (show ¬ v0.toInt < (65) by omega))]
  rw [show f1_18 v0 = f1_24 v0 from if_pos ((own_lt (x := (90 : Int32)) (y := v0)).mpr (show (90) < v0.toInt by omega))]
  rw [show f1_24 v0 = f1_30 v0 from if_neg (fun h => absurd ((own_eq (x := v0) (y := (95 : Int32))).mp h) (show ¬ v0.toInt = (95) by omega))]
  rw [show f1_30 v0 = f1_37 v0 from if_neg (fun h => absurd ((own_lt (x := v0) (y := (192 : Int32))).mp h) (show ¬ v0.toInt < (192) by omega))]
  rw [show f1_37 v0 = f1_44 v0 from if_pos ((own_lt (x := (214 : Int32)) (y := v0)).mpr (show (214) < v0.toInt by omega))]
  rw [show f1_44 v0 = f1_51 v0 from if_neg (fun h => absurd ((own_lt (x := v0) (y := (216 : Int32))).mp h) (show ¬ v0.toInt < (216) by omega))]
  rw [show f1_51 v0 = f1_58 v0 from if_pos ((own_lt (x := (246 : Int32)) (y := v0)).mpr (show (246) < v0.toInt by omega))]
  rw [show f1_58 v0 = f1_65 v0 from if_neg (fun h => absurd ((own_lt (x := v0) (y := (248 : Int32))).mp h) (show ¬ v0.toInt < (248) by omega))]
  rw [show f1_65 v0 = f1_191 v0 from if_neg (fun h => absurd ((own_lt (x := (767 : Int32)) (y := v0)).mp h) (show ¬ (767) < v0.toInt by omega))]
  rfl
theorem t1_12 (v0 : Int32) (h1 : (768) ≤ v0.toInt) (h2 : v0.toInt ≤ 879) : f1_0 v0 = (0 : Int32) := by
  rw [show f1_0 v0 = f1_6 v0 from if_neg (fun h => absurd ((own_lt (x := v0) (y := (97 : Int32))).mp h) (show ¬ v0.toInt < (97) by omega))]
  rw [show f1_6 v0 = f1_12 v0 from if_pos ((own_lt (x := (122 : Int32)) (y := v0)).mpr (show (122) < v0.toInt by omega))]
  rw [show f1_12 v0 = f1_18 v0 from if_neg (fun h => absurd ((own_lt (x := v0) (y := (65 : Int32))).mp h) (show ¬ v0.toInt < (65) by omega))]
  rw [show f1_18 v0 = f1_24 v0 from if_pos ((own_lt (x := (90 : Int32)) (y := v0)).mpr (show (90) < v0.toInt by omega))]
  rw [show f1_24 v0 = f1_30 v0 from if_neg (fun h => absurd ((own_eq (x := v0) (y := (95 : Int32))).mp h) (show ¬ v0.toInt = (95) by omega))]
  rw [show f1_30 v0 = f1_37 v0 from if_neg (fun h => absurd ((own_lt (x := v0) (y := (192 : Int32))).mp h) (show ¬ v0.toInt < (192) by omega))]
  rw [show f1_37 v0 = f1_44 v0 from if_pos ((own_lt (x := (214 : Int32)) (y := v0)).mpr (show (214) < v0.toInt by omega))]
  rw [show f1_44 v0 = f1_51 v0 from if_neg (fun h => absurd ((own_lt (x := v0) (y := (216 : Int32))).mp h) (show ¬ v0.toInt < (216) by omega))]
  rw [show f1_51 v0 = f1_58 v0 from if_pos ((own_lt (x := (246 : Int32)) (y := v0)).mpr (show (246) < v0.toInt by omega))]
  rw [show f1_58 v0 = f1_65 v0 from if_neg (fun h => absurd ((own_lt (x := v0) (y := (248 : Int32))).mp h) (show ¬ v0.toInt < (248) by omega))]
  rw [show f1_65 v0 = f1_72 v0 from if_pos ((own_lt (x := (767 : Int32)) (y := v0)).mpr (show (767) < v0.toInt by omega))]
  rw [show f1_72 v0 = f1_86 v0 from if_pos ((own_lt (x := v0) (y := (880 : Int32))).mpr (show v0.toInt < (880) by omega))]
  rw [show f1_86 v0 = f1_100 v0 from if_pos ((own_lt (x := v0) (y := (895 : Int32))).mpr (show v0.toInt < (895) by omega))]
  rw [show f1_100 v0 = f1_114 v0 from if_pos ((own_lt (x := v0) (y := (8204 : Int32))).mpr (show v0.toInt < (8204) by omega))]
  rw [show f1_114 v0 = f1_128 v0 from if_pos ((own_lt (x := v0) (y := (8304 : Int32))).mpr (show v0.toInt < (8304) by omega))]
  rw [show f1_128 v0 = f1_142 v0 from if_pos ((own_lt (x := v0) (y := (11264 : Int32))).mpr (show v0.toInt < (11264) by omega))]
  rw [show f1_142 v0 = f1_155 v0 from if_pos ((own_lt (x := v0) (y := (12289 : Int32))).mpr (show v0.toInt < (12289) by omega))]
  rw [show f1_155 v0 = f1_167 v0 from if_pos ((own_lt (x := v0) (y := (63744 : Int32))).mpr (show v0.toInt < (63744) by omega))]
  rw [show f1_167 v0 = f1_179 v0 from if_pos ((own_lt (x := v0) (y := (65008 : Int32))).mpr (show v0.toInt < (65008) by omega))]
  rw [show f1_179 v0 = f1_195 v0 from if_pos ((own_lt (x := v0) (y := (65536 : Int32))).mpr (show v0.toInt < (65536) by omega))]
  rfl
theorem t1_13 (v0 : Int32) (h1 : (880) ≤ v0.toInt) (h2 : v0.toInt ≤ 893) : f1_0 v0 = (1 : Int32) := by
  rw [show f1_0 v0 = f1_6 v0 from if_neg (fun h => absurd ((own_lt (x := v0) (y := (97 : Int32))).mp h) (show ¬ v0.toInt < (97) by omega))]
  rw [show f1_6 v0 = f1_12 v0 from if_pos ((own_lt (x := (122 : Int32)) (y := v0)).mpr (show (122) < v0.toInt by omega))]
  rw [show f1_12 v0 = f1_18 v0 from if_neg (fun h => absurd ((own_lt (x := v0) (y := (65 : Int32))).mp h) (show ¬ v0.toInt < (65) by omega))]
  rw [show f1_18 v0 = f1_24 v0 from if_pos ((own_lt (x := (90 : Int32)) (y := v0)).mpr (show (90) < v0.toInt by omega))]
  rw [show f1_24 v0 = f1_30 v0 from if_neg (fun h => absurd ((own_eq (x := v0) (y := (95 : Int32))).mp h) (show ¬ v0.toInt = (95) by omega))]
  rw [show f1_30 v0 = f1_37 v0 from if_neg (fun h => absurd ((own_lt (x := v0) (y := (192 : Int32))).mp h) (show ¬ v0.toInt < (192) by omega))]
  rw [show f1_37 v0 = f1_44 v0 from if_pos ((own_lt (x := (214 : Int32)) (y := v0)).mpr (show (214) < v0.toInt by omega))]
  rw [show f1_44 v0 = f1_51 v0 from if_neg (fun h => absurd ((own_lt (x := v0) (y := (216 : Int32))).mp h) (show ¬ v0.toInt < (216) by omega))]
  rw [show f1_51 v0 = f1_58 v0 from if_pos ((own_lt (x := (246 : Int32)) (y := v0)).mpr (show (246) < v0.toInt by omega))]
  rw [show f1_58 v0 = f1_65 v0 from if_neg (fun h => absurd ((own_lt (x := v0) (y := (248 : Int32))).mp h) (show ¬ v0.toInt < (248) by omega))]
  rw [show f1_65 v0 = f1_72 v0 from if_pos ((own_lt (x := (767 : Int32)) (y := v0)).mpr (show (767) < v0.toInt by omega))]
  rw [show f1_72 v0 = f1_79 v0 from if_neg (fun h => absurd ((own_lt (x := v0) (y := (880 : Int32))).mp h) (show ¬ v0.toInt < (880) by omega))]
  rw [show f1_79 v0 = f1_191 v0 from if_neg (fun h => absurd ((own_lt (x := (893 : Int32)) (y := v0)).mp h) (show ¬ (893) < v0.toInt by omega))]
  rfl
theorem t1_14 (v0 : Int32) (h1 : (894) ≤ v0.toInt) (h2 : v0.toInt ≤ 894) : f1_0 v0 = (0 : Int32) := by
  rw [show f1_0 v0 = f1_6 v0 from if_neg (fun h => absurd ((own_lt (x := v0) (y := (97 : Int32))).mp h) (show ¬ v0.toInt < (97) by omega))]
  rw [show f1_6 v0 = f1_12 v0 from if_pos ((own_lt (x := (122 : Int32)) (y := v0)).mpr (show (122) < v0.toInt by omega))]
  rw [show f1_12 v0 = f1_18 v0 from if_neg (fun h => absurd ((own_lt (x := v0) (y := (65 : Int32))).mp h) (show ¬ v0.toInt < (65) by omega))]
  rw [show f1_18 v0 = f1_24 v0 from if_pos ((own_lt (x := (90 : Int32)) (y := v0)).mpr (show (90) < v0.toInt by omega))]
  rw [show f1_24 v0 = f1_30 v0 from if_neg (fun h => absurd ((own_eq (x := v0) (y := (95 : Int32))).mp h) (show ¬ v0.toInt = (95) by omega))]
  rw [show f1_30 v0 = f1_37 v0 from if_neg (fun h => absurd ((own_lt (x := v0) (y := (192 : Int32))).mp h) (show ¬ v0.toInt < (192) by omega))]
  rw [show f1_37 v0 = f1_44 v0 from if_pos ((own_lt (x := (214 : Int32)) (y := v0)).mpr (show (214) < v0.toInt by omega))]
  rw [show f1_44 v0 = f1_51 v0 from if_neg (fun h => absurd ((own_lt (x := v0) (y := (216 : Int32))).mp h) (show ¬ v0.toInt < (216) by omega))]
  rw [show f1_51 v0 = f1_58 v0 from if_pos ((own_lt (x := (246 : Int32)) (y := v0)).mpr (show (246) < v0.toInt by omega))]
  rw [show f1_58 v0 = f1_65 v0 from if_neg (fun h => absurd ((own_lt (x := v0) (y := (248 : Int32))).mp h) (show ¬ v0.toInt < (248) by omega))]
  rw [show f1_65 v0 = f1_72 v0 from if_pos ((own_lt (x := (767 : Int32)) (y := v0)).mpr (show (767) < v0.toInt by omega))]
  rw [show f1_72 v0 = f1_79 v0 from if_neg (fun h => absurd ((own_lt (x := v0) (y := (880 : Int32))).mp h) (show ¬ v0.toInt < (880) by omega))]
  rw [show f1_79 v0 = f1_86 v0 from if_pos ((own_lt (x := (893 : Int32)) (y := v0)).mpr (show (893) < v0.toInt by omega))]
  rw [show f1_86 v0 = f1_100 v0 from if_pos ((own_lt (x := v0) (y := (895 : Int32))).mpr (show v0.toInt < (895) by omega))]
  rw [show f1_100 v0 = f1_114 v0 from if_pos ((own_lt (x := v0) (y := (8204 : Int32))).mpr (show v0.toInt < (8204) by omega))]
  rw [show f1_114 v0 = f1_128 v0 from if_pos ((own_lt (x := v0) (y := (8304 : Int32))).mpr (show v0.toInt < (8304) by omega))]
  rw [show f1_128 v0 = f1_142 v0 from if_pos ((own_lt (x := v0) (y := (11264 : Int32))).mpr (show v0.toInt < (11264) by omega))]
  rw [show f1_142 v0 = f1_155 v0 from if_pos ((own_lt (x := v0) (y := (12289 : Int32))).mpr (show v0.toInt < (12289) by omega))]
  rw [show f1_155 v0 = f1_167 v0 from if_pos ((own_lt (x := v0) (y := (63744 : Int32))).mpr (show v0.toInt < (63744) by omega))]
  rw [show f1_167 v0 = f1_179 v0 from if_pos ((own_lt (x := v0) (y := (65008 : Int32))).mpr (show v0.toInt < (65008) by omega))]
  rw [show f1_179 v0 = f1_195 v0 from if_pos ((own_lt (x := v0) (y := (65536 : Int32))).mpr (show v0.toInt < (65536) by omega))]
  rfl
theorem t1_15 (v0 : Int32) (h1 : (895) ≤ v0.toInt) (h2 : v0.toInt ≤ 8191) : f1_0 v0 = (1 : Int32) := by
  rw [show f1_0 v0 = f1_6 v0 from if_neg (fun h => absurd ((own_lt (x := v0) (y := (97 : Int32))).mp h) (show ¬ v0.toInt < (97) by omega))]
  rw [show f1_6 v0 = f1_12 v0 from if_pos ((own_lt (x := (122 : Int32)) (y := v0)).mpr (show (122) < v0.toInt by omega))]
  rw [show f1_12 v0 = f1_18 v0 from if_neg (fun h => absurd ((own_lt (x := v0) (y := (65 : Int32))).mp h) (show ¬ v0.toInt < (65) by omega))]
  rw [show f1_18 v0 = f1_24 v0 from if_pos ((own_lt (x := (90 : Int32)) (y := v0)).mpr (show (90) < v0.toInt by omega))]
  rw [show f1_24 v0 = f1_30 v0 from if_neg (fun h => absurd ((own_eq (x := v0) (y := (95 : Int32))).mp h) (show ¬ v0.toInt = (95) by omega))]
  rw [show f1_30 v0 = f1_37 v0 from if_neg (fun h => absurd ((own_lt (x := v0) (y := (192 : Int32))).mp h) (show ¬ v0.toInt < (192) by omega))]
  rw [show f1_37 v0 = f1_44 v0 from if_pos ((own_lt (x := (214 : Int32)) (y := v0)).mpr (show (214) < v0.toInt by omega))]
  rw [show f1_44 v0 = f1_51 v0 from if_neg (fun h => absurd ((own_lt (x := v0) (y := (216 : Int32))).mp h) (show ¬ v0.toInt < (216) by omega))]
  rw [show f1_51 v0 = f1_58 v0 from if_pos ((own_lt (x := (246 : Int32)) (y := v0)).mpr (show (246) < v0.toInt by omega))]
  rw [show f1_58 v0 = f1_65 v0 from if_neg (fun h => absurd ((own_lt (x := v0) (y := (248 : Int32))).mp h) (show ¬ v0.toInt < (248) by omega))]
  rw [show f1_65 v0 = f1_72 v0 from if_pos ((own_lt (x := (767 : Int32)) (y := v0)).mpr (show (767) < v0.toInt by omega))]
  rw [show f1_72 v0 = f1_79 v0 from if_neg (fun h => absurd ((own_lt (x := v0) (y := (880 : Int32))).mp h) (show ¬ v0.toInt < (880) by omega))]
  rw [show f1_79 v0 = f1_86 v0 from if_pos ((own_lt (x := (893 : Int32)) (y := v0)).mpr (show (893) < v0.toInt by omega))]
  rw [show f1_86 v0 = f1_93 v0 from if_neg (fun h => absurd ((own_lt (x := v0) (y := (895 : Int32))).mp h) (show ¬ v0.toInt < (895) by omega))]
  rw [show f1_93 v0 = f1_191 v0 from if_neg (fun h => absurd ((own_lt (x := (8191 : Int32)) (y := v0)).mp h) (show ¬ (8191) < v0.toInt by omega))]
  rfl
theorem t1_16 (v0 : Int32) (h1 : (8192) ≤ v0.toInt) (h2 : v0.toInt ≤ 8203) : f1_0 v0 = (0 : Int32) := by
  rw [show f1_0 v0 = f1_6 v0 from if_neg (fun h => absurd ((own_lt (x := v0) (y := (97 : Int32))).mp h) (show ¬ v0.toInt < (97) by omega))]
  rw [show f1_6 v0 = f1_12 v0 from if_pos ((own_lt (x := (122 : Int32)) (y := v0)).mpr (show (122) < v0.toInt by omega))]
  rw [show f1_12 v0 = f1_18 v0 from if_neg (fun h => absurd ((own_lt (x := v0) (y := (65 : Int32))).mp h) (show ¬ v0.toInt < (65) by omega))]
  rw [show f1_18 v0 = f1_24 v0 from if_pos ((own_lt (x := (90 : Int32)) (y := v0)).mpr (show (90) < v0.toInt by omega))]
  rw [show f1_24 v0 = f1_30 v0 from if_neg (fun h => absurd ((own_eq (x := v0) (y := (95 : Int32))).mp h) (show ¬ v0.toInt = (95) by omega))]
  rw [show f1_30 v0 = f1_37 v0 from if_neg (fun h => absurd ((own_lt (x := v0) (y := (192 : Int32))).mp h) (show ¬ v0.toInt < (192) by omega))]
  rw [show f1_37 v0 = f1_44 v0 from if_pos ((own_lt (x := (214 : Int32)) (y := v0)).mpr (show (214) < v0.toInt by omega))]
  rw [show f1_44 v0 = f1_51 v0 from if_neg (fun h => absurd ((own_lt (x := v0) (y := (216 : Int32))).mp h) (show ¬ v0.toInt < (216) by omega))]
  rw [show f1_51 v0 = f1_58 v0 from if_pos ((own_lt (x := (246 : Int32)) (y := v0)).mpr (show (246) < v0.toInt by omega))]
  rw [show f1_58 v0 = f1_65 v0 from if_neg (fun h => absurd ((own_lt (x := v0) (y := (248 : Int32))).mp h) (show ¬ v0.toInt < (248) by omega))]
  rw [show f1_65 v0 = f1_72 v0 from if_pos ((own_lt (x := (767 : Int32)) (y := v0)).mpr (show (767) < v0.toInt by omega))]
  rw [show f1_72 v0 = f1_79 v0 from if_neg (fun h => absurd ((own_lt (x := v0) (y := (880 : Int32))).mp h) (show ¬ v0.toInt < (880) by omega))]
  rw [show f1_79 v0 = f1_86 v0 from if_pos ((own_lt (x := (893 : Int32)) (y := v0)).mpr (show (893) < v0.toInt by omega))]
  rw [show f1_86 v0 = f1_93 v0 from if_neg (fun h => absurd ((own_lt (x := v0) (y := (895 : Int32))).mp h) (show ¬ v0.toInt < (895) by omega))]
  rw [show f1_93 v0 = f1_100 v0 from if_pos ((own_lt (x := (8191 : Int32)) (y := v0)).mpr (show (8191) < v0.toInt by omega))]
  rw [show f1_100 v0 = f1_114 v0 from if_pos ((own_lt (x := v0) (y := (8204 : Int32))).mpr (show v0.toInt < (8204) by omega))]
  rw [show f1_114 v0 = f1_128 v0 from if_pos ((own_lt (x := v0) (y := (8304 : Int32))).mpr (show v0.toInt < (8304) by omega))]
  rw [show f1_128 v0 = f1_142 v0 from if_pos ((own_lt (x := v0) (y := (11264 : Int32))).mpr (show v0.toInt < (11264) by omega))]
  rw [show f1_142 v0 = f1_155 v0 from if_pos ((own_lt (x := v0) (y := (12289 : Int32))).mpr (show v0.toInt < (12289) by omega))]
  rw [show f1_155 v0 = f1_167 v0 from if_pos ((own_lt (x := v0) (y := (63744 : Int32))).mpr (show v0.toInt < (63744) by omega))]
  rw [show f1_167 v0 = f1_179 v0 from if_pos ((own_lt (x := v0) (y := (65008 : Int32))).mpr (show v0.toInt < (65008) by omega))]
  rw [show f1_179 v0 = f1_195 v0 from if_pos ((own_lt (x := v0) (y := (65536 : Int32))).mpr (show v0.toInt < (65536) by omega))]
  rfl
theorem t1_17 (v0 : Int32) (h1 : (8204) ≤ v0.toInt) (h2 : v0.toInt ≤ 8204) : f1_0 v0 = (1 : Int32) := by
  rw [show f1_0 v0 = f1_6 v0 from if_neg (fun h => absurd ((own_lt (x := v0) (y := (97 : Int32))).mp h) (show ¬ v0.toInt < (97) by omega))]
  rw [show f1_6 v0 = f1_12 v0 from if_pos ((own_lt (x := (122 : Int32)) (y := v0)).mpr (show (122) < v0.toInt by omega))]
  rw [show f1_12 v0 = f1_18 v0 from if_neg (fun h => absurd ((own_lt (x := v0) (y := (65 : Int32))).mp h) (show ¬ v0.toInt < (65) by omega))]
  rw [show f1_18 v0 = f1_24 v0 from if_pos ((own_lt (x := (90 : Int32)) (y := v0)).mpr (show (90) < v0.toInt by omega))]
  rw [show f1_24 v0 = f1_30 v0 from if_neg (fun h => absurd ((own_eq (x := v0) (y := (95 : Int32))).mp h) (show ¬ v0.toInt = (95) by omega))]
  rw [show f1_30 v0 = f1_37 v0 from if_neg (fun h => absurd ((own_lt (x := v0) (y := (192 : Int32))).mp h) (show ¬ v0.toInt < (192) by omega))]
  rw [show f1_37 v0 = f1_44 v0 from if_pos ((own_lt (x := (214 : Int32)) (y := v0)).mpr (show (214) < v0.toInt by omega))]
  rw [show f1_44 v0 = f1_51 v0 from if_neg (fun h => absurd ((own_lt (x := v0) (y := (216 : Int32))).mp h) (show ¬ v0.toInt < (216) by omega))]
  rw [show f1_51 v0 = f1_58 v0 from if_pos ((own_lt (x := (246 : Int32)) (y := v0)).mpr (show (246) < v0.toInt by omega))]
  rw [show f1_58 v0 = f1_65 v0 from if_neg (fun h => absurd ((own_lt (x := v0) (y := (248 : Int32))).mp h) (show ¬ v0.toInt < (248) by omega))]
  rw [show f1_65 v0 = f1_72 v0 from if_pos ((own_lt (x := (767 : Int32)) (y := v0)).mpr (show (767) < v0.toInt by omega))]
  rw [show f1_72 v0 = f1_79 v0 from if_neg (fun h => absurd ((own_lt (x := v0) (y := (880 : Int32))).mp h) (show ¬ v0.toInt < (880) by omega))]
  rw [show f1_79 v0 = f1_86 v0 from if_pos ((own_lt (x := (893 : Int32)) (y := v0)).mpr (show (893) < v0.toInt by omega))]
  rw [show f1_86 v0 = f1_93 v0 from if_neg (fun h => absurd ((own_lt (x := v0) (y := (895 : Int32))).mp h) (show ¬ v0.toInt < (895) by omega))]
  rw [show f1_93 v0 = f1_100 v0 from if_pos ((own_lt (x := (8191 : Int32)) (y := v0)).mpr (show (8191) < v0.toInt by omega))]
  rw [show f1_100 v0 = f1_107 v0 from if_neg (fun h => absurd ((own_lt (x := v0) (y := (8204 : Int32))).mp h) (show ¬ v0.toInt < (8204) by omega))]
  rw [show f1_107 v0 = f1_191 v0 from if_neg (fun h => absurd ((own_lt (x := (8205 : Int32)) (y := v0)).mp h) (show ¬ (8205) < v0.toInt by omega))]
  rfl
theorem t1_18 (v0 : Int32) (h1 : (8205) ≤ v0.toInt) (h2 : v0.toInt ≤ 8205) : f1_0 v0 = (1 : Int32) := by
  rw [show f1_0 v0 = f1_6 v0 from if_neg (fun h => absurd ((own_lt (x := v0) (y := (97 : Int32))).mp h) (show ¬ v0.toInt < (97) by omega))]
  rw [show f1_6 v0 = f1_12 v0 from if_pos ((own_lt (x := (122 : Int32)) (y := v0)).mpr (show (122) < v0.toInt by omega))]
  rw [show f1_12 v0 = f1_18 v0 from if_neg (fun h => absurd ((own_lt (x := v0) (y := (65 : Int32))).mp h) (show ¬ v0.toInt < (65) by omega))]
  rw [show f1_18 v0 = f1_24 v0 from if_pos ((own_lt (x := (90 : Int32)) (y := v0)).mpr (show (90) < v0.toInt by omega))]
  rw [show f1_24 v0 = f1_30 v0 from if_neg (fun h => absurd ((own_eq (x := v0) (y := (95 : Int32))).mp h) (show ¬ v0.toInt = (95) by omega))]
  rw [show f1_30 v0 = f1_37 v0 from if_neg (fun h => absurd ((own_lt (x := v0) (y := (192 : Int32))).mp h) (show ¬ v0.toInt < (192) by omega))]
  rw [show f1_37 v0 = f1_44 v0 from if_pos ((own_lt (x := (214 : Int32)) (y := v0)).mpr (show (214) < v0.toInt by omega))]
  rw [show f1_44 v0 = f1_51 v0 from if_neg (fun h => absurd ((own_lt (x := v0) (y := (216 : Int32))).mp h) (show ¬ v0.toInt < (216) by omega))]
  rw [show f1_51 v0 = f1_58 v0 from if_pos ((own_lt (x := (246 : Int32)) (y := v0)).mpr (show (246) < v0.toInt by omega))]
  rw [show f1_58 v0 = f1_65 v0 from if_neg (fun h => absurd ((own_lt (x := v0) (y := (248 : Int32))).mp h) (show ¬ v0.toInt < (248) by omega))]
  rw [show f1_65 v0 = f1_72 v0 from if_pos ((own_lt (x := (767 : Int32)) (y := v0)).mpr (show (767) < v0.toInt by omega))]
  rw [show f1_72 v0 = f1_79 v0 from if_neg (fun h => absurd ((own_lt (x := v0) (y := (880 : Int32))).mp h) (show ¬ v0.toInt < (880) by omega))]
  rw [show f1_79 v0 = f1_86 v0 from if_pos ((own_lt (x := (893 : Int32)) (y := v0)).mpr (show (893) < v0.toInt by omega))]
  rw [show f1_86 v0 = f1_93 v0 from if_neg (fun h => absurd ((own_lt (x := v0) (y := (895 : Int32))).mp h) (show ¬ v0.toInt < (895) by omega))]
  rw [show f1_93 v0 = f1_100 v0 from if_pos ((own_lt (x := (8191 : Int32)) (y := v0)).mpr (show (8191) < v0.toInt by omega))]
  rw [show f1_100 v0 = f1_107 v0 from if_neg (fun h => absurd ((own_lt (x := v0) (y := (8204 : Int32))).mp h) (show ¬ v0.toInt < (8204) by omega))]
  rw [show f1_107 v0 = f1_191 v0 from if_neg (fun h => absurd ((own_lt (x := (8205 : Int32)) (y := v0)).mp h) (show ¬ (8205) < v0.toInt by omega))]
  rfl
theorem t1_19 (v0 : Int32) (h1 : (8206) ≤ v0.toInt) (h2 : v0.toInt ≤ 8303) : f1_0 v0 = (0 : Int32) := by
  rw [show f1_0 v0 = f1_6 v0 from if_neg (fun h => absurd ((own_lt (x := v0) (y := (97 : Int32))).mp h) (show ¬ v0.toInt < (97) by omega))]
  rw [show f1_6 v0 = f1_12 v0 from if_pos ((own_lt (x := (122 : Int32)) (y := v0)).mpr (show (122) < v0.toInt by omega))]
  rw [show f1_12 v0 = f1_18 v0 from if_neg (fun h => absurd ((own_lt (x := v0) (y := (65 : Int32))).mp h) (show ¬ v0.toInt < (65) by omega))]
  rw [show f1_18 v0 = f1_24 v0 from if_pos ((own_lt (x := (90 : Int32)) (y := v0)).mpr (show (90) < v0.toInt by omega))]
  rw [show f1_24 v0 = f1_30 v0 from if_neg (fun h => absurd ((own_eq (x := v0) (y := (95 : Int32))).mp h) (show ¬ v0.toInt = (95) by omega))]
  rw [show f1_30 v0 = f1_37 v0 from if_neg (fun h => absurd ((own_lt (x := v0) (y := (192 : Int32))).mp h) (show ¬ v0.toInt < (192) by omega))]
  rw [show f1_37 v0 = f1_44 v0 from if_pos ((own_lt (x := (214 : Int32)) (y := v0)).mpr (show (214) < v0.toInt by omega))]
  rw [show f1_44 v0 = f1_51 v0 from if_neg (fun h => absurd ((own_lt (x := v0) (y := (216 : Int32))).mp h) (show ¬ v0.toInt < (216) by omega))]
  rw [show f1_51 v0 = f1_58 v0 from if_pos ((own_lt (x := (246 : Int32)) (y := v0)).mpr (show (246) < v0.toInt by omega))]
  rw [show f1_58 v0 = f1_65 v0 from if_neg (fun h => absurd ((own_lt (x := v0) (y := (248 : Int32))).mp h) (show ¬ v0.toInt < (248) by omega))]
  rw [show f1_65 v0 = f1_72 v0 from if_pos ((own_lt (x := (767 : Int32)) (y := v0)).mpr (show (767) < v0.toInt by omega))]
  rw [show f1_72 v0 = f1_79 v0 from if_neg (fun h => absurd ((own_lt (x := v0) (y := (880 : Int32))).mp h) (show ¬ v0.toInt < (880) by omega))]
  rw [show f1_79 v0 = f1_86 v0 from if_pos ((own_lt (x := (893 : Int32)) (y := v0)).mpr (show (893) < v0.toInt by omega))]
  rw [show f1_86 v0 = f1_93 v0 from if_neg (fun h => absurd ((own_lt (x := v0) (y := (895 : Int32))).mp h) (show ¬ v0.toInt < (895) by omega))]
  rw [show f1_93 v0 = f1_100 v0 from if_pos ((own_lt (x := (8191 : Int32)) (y := v0)).mpr (show (8191) < v0.toInt by omega))]
  rw [show f1_100 v0 = f1_107 v0 from if_neg (fun h => absurd ((own_lt (x := v0) (y := (8204 : Int32))).mp h) (show ¬ v0.toInt < (8204) by omega))]
  rw [show f1_107 v0 = f1_114 v0 from if_pos ((own_lt (x := (8205 : Int32)) (y := v0)).mpr (show (8205) < v0.toInt by omega))]
  rw [show f1_114 v0 = f1_128 v0 from if_pos ((own_lt (x := v0) (y := (8304 : Int32))).mpr (show v0.toInt < (8304) by omega))]
  rw [show f1_128 v0 = f1_142 v0 from if_pos ((own_lt (x := v0) (y := (11264 : Int32))).mpr (show v0.toInt < (11264) by omega))]
  rw [show f1_142 v0 = f1_155 v0 from if_pos ((own_lt (x := v0) (y := (12289 : Int32))).mpr (show v0.toInt < (12289) by omega))]
  rw [show f1_155 v0 = f1_167 v0 from if_pos ((own_lt (x := v0) (y := (63744 : Int32))).mpr (show v0.toInt < (63744) by omega))]
  rw [show f1_167 v0 = f1_179 v0 from if_pos ((own_lt (x := v0) (y := (65008 : Int32))).mpr (show v0.toInt < (65008) by omega))]
  rw [show f1_179 v0 = f1_195 v0 from if_pos ((own_lt (x := v0) (y := (65536 : Int32))).mpr (show v0.toInt < (65536) by omega))]
  rfl
theorem t1_20 (v0 : Int32) (h1 : (8304) ≤ v0.toInt) (h2 : v0.toInt ≤ 8591) : f1_0 v0 = (1 : Int32) := by
  rw [show f1_0 v0 = f1_6 v0 from if_neg (fun h => absurd ((own_lt (x := v0) (y := (97 : Int32))).mp h) (show ¬ v0.toInt < (97) by omega))]
  rw [show f1_6 v0 = f1_12 v0 from if_pos ((own_lt (x := (122 : Int32)) (y := v0)).mpr (show (122) < v0.toInt by omega))]
  rw [show f1_12 v0 = f1_18 v0 from if_neg (fun h => absurd ((own_lt (x := v0) (y := (65 : Int32))).mp h) (show ¬ v0.toInt < (65) by omega))]
  rw [show f1_18 v0 = f1_24 v0 from if_pos ((own_lt (x := (90 : Int32)) (y := v0)).mpr (show (90) < v0.toInt by omega))]
  rw [show f1_24 v0 = f1_30 v0 from if_neg (fun h => absurd ((own_eq (x := v0) (y := (95 : Int32))).mp h) (show ¬ v0.toInt = (95) by omega))]
  rw [show f1_30 v0 = f1_37 v0 from if_neg (fun h => absurd ((own_lt (x := v0) (y := (192 : Int32))).mp h) (show ¬ v0.toInt < (192) by omega))]
  rw [show f1_37 v0 = f1_44 v0 from if_pos ((own_lt (x := (214 : Int32)) (y := v0)).mpr (show (214) < v0.toInt by omega))]
  rw [show f1_44 v0 = f1_51 v0 from if_neg (fun h => absurd ((own_lt (x := v0) (y := (216 : Int32))).mp h) (show ¬ v0.toInt < (216) by omega))]
  rw [show f1_51 v0 = f1_58 v0 from if_pos ((own_lt (x := (246 : Int32)) (y := v0)).mpr (show (246) < v0.toInt by omega))]
  rw [show f1_58 v0 = f1_65 v0 from if_neg (fun h => absurd ((own_lt (x := v0) (y := (248 : Int32))).mp h) (show ¬ v0.toInt < (248) by omega))]
  rw [show f1_65 v0 = f1_72 v0 from if_pos ((own_lt (x := (767 : Int32)) (y := v0)).mpr (show (767) < v0.toInt by omega))]
  rw [show f1_72 v0 = f1_79 v0 from if_neg (fun h => absurd ((own_lt (x := v0) (y := (880 : Int32))).mp h) (show ¬ v0.toInt < (880) by omega))]
  rw [show f1_79 v0 = f1_86 v0 from if_pos ((own_lt (x := (893 : Int32)) (y := v0)).mpr (show (893) < v0.toInt by omega))]
  rw [show f1_86 v0 = f1_93 v0 from if_neg (fun h => absurd ((own_lt (x := v0) (y := (895 : Int32))).mp h) (show ¬ v0.toInt < (895) by omega))]
  rw [show f1_93 v0 = f1_100 v0 from if_pos ((own_lt (x := (8191 : Int32)) (y := v0)).mpr (show (8191) < v0.toInt by omega))]
  rw [show f1_100 v0 = f1_107 v0 from if_neg (fun h => absurd ((own_lt (x := v0) (y := (8204 : Int32))).mp h) (show ¬ v0.toInt < (8204) by omega))]
  rw [show f1_107 v0 = f1_114 v0 from if_pos ((own_lt (x := (8205 : Int32)) (y := v0)).mpr (show (8205) < v0.toInt by omega))]
  rw [show f1_114 v0 = f1_121 v0 from if_neg (fun h => absurd ((own_lt (x := v0) (y := (8304 : Int32))).mp h) (show ¬ v0.toInt < (8304) by omega))]
  rw [show f1_121 v0 = f1_191 v0 from if_neg (fun h => absurd ((own_lt (x := (8591 : Int32)) (y := v0)).mp h) (show ¬ (8591) < v0.toInt by omega))]
  rfl
theorem t1_21 (v0 : Int32) (h1 : (8592) ≤ v0.toInt) (h2 : v0.toInt ≤ 11263) : f1_0 v0 = (0 : Int32) := by
  rw [show f1_0 v0 = f1_6 v0 from if_neg (fun h => absurd ((own_lt (x := v0) (y := (97 : Int32))).mp h) (show ¬ v0.toInt < (97) by omega))]
  rw [show f1_6 v0 = f1_12 v0 from if_pos ((own_lt (x := (122 : Int32)) (y := v0)).mpr (show (122) < v0.toInt by omega))]
  rw [show f1_12 v0 = f1_18 v0 from if_neg (fun h => absurd ((own_lt (x := v0) (y := (65 : Int32))).mp h) (show ¬ v0.toInt < (65) by omega))]
  rw [show f1_18 v0 = f1_24 v0 from if_pos ((own_lt (x := (90 : Int32)) (y := v0)).mpr (show (90) < v0.toInt by omega))]
  rw [show f1_24 v0 = f1_30 v0 from if_neg (fun h => absurd ((own_eq (x := v0) (y := (95 : Int32))).mp h) (show ¬ v0.toInt = (95) by omega))]
  rw [show f1_30 v0 = f1_37 v0 from if_neg (fun h => absurd ((own_lt (x := v0) (y := (192 : Int32))).mp h) (show ¬ v0.toInt < (192) by omega))]
  rw [show f1_37 v0 = f1_44 v0 from if_pos ((own_lt (x := (214 : Int32)) (y := v0)).mpr (show (214) < v0.toInt by omega))]
  rw [show f1_44 v0 = f1_51 v0 from if_neg (fun h => absurd ((own_lt (x := v0) (y := (216 : Int32))).mp h) (show ¬ v0.toInt < (216) by omega))]
  rw [show f1_51 v0 = f1_58 v0 from if_pos ((own_lt (x := (246 : Int32)) (y := v0)).mpr (show (246) < v0.toInt by omega))]
  rw [show f1_58 v0 = f1_65 v0 from if_neg (fun h => absurd ((own_lt (x := v0) (y := (248 : Int32))).mp h) (show ¬ v0.toInt < (248) by omega))]
  rw [show f1_65 v0 = f1_72 v0 from if_pos ((own_lt (x := (767 : Int32)) (y := v0)).mpr (show (767) < v0.toInt by omega))]
  rw [show f1_72 v0 = f1_79 v0 from if_neg (fun h => absurd ((own_lt (x := v0) (y := (880 : Int32))).mp h) (show ¬ v0.toInt < (880) by omega))]
  rw [show f1_79 v0 = f1_86 v0 from if_pos ((own_lt (x := (893 : Int32)) (y := v0)).mpr (show (893) < v0.toInt by omega))]
  rw [show f1_86 v0 = f1_93 v0 from if_neg (fun h => absurd ((own_lt (x := v0) (y := (895 : Int32))).mp h) (show ¬ v0.toInt < (895) by omega))]
  rw [show f1_93 v0 = f1_100 v0 from if_pos ((own_lt (x := (8191 : Int32)) (y := v0)).mpr (show (8191) < v0.toInt by omega))]
  rw [show f1_100 v0 = f1_107 v0 from if_neg (fun h => absurd ((own_lt (x := v0) (y := (8204 : Int32))).mp h) (show ¬ v0.toInt < (8204) by omega))]
  rw [show f1_107 v0 = f1_114 v0 from if_pos ((own_lt (x := (8205 : Int32)) (y := v0)).mpr (show (8205) < v0.toInt by omega))]
  rw [show f1_114 v0 = f1_121 v0 from if_neg (fun h => absurd ((own_lt (x := v0) (y := (8304 : Int32))).mp h) (show ¬ v0.toInt < (8304) by omega))]
  rw [show f1_121 v0 = f1_128 v0 from if_pos ((own_lt (x := (8591 : Int32)) (y := v0)).mpr (show (8591) < v0.toInt by omega))]
  rw [show f1_128 v0 = f1_142 v0 from if_pos ((own_lt (x := v0) (y := (11264 : Int32))).mpr (show v0.toInt < (11264) by omega))]
  rw [show f1_142 v0 = f1_155 v0 from if_pos ((own_lt (x := v0) (y := (12289 : Int32))).mpr (show v0.toInt < (12289) by omega))]
  rw [show f1_155 v0 = f1_167 v0 from if_pos ((own_lt (x := v0) (y := (63744 : Int32))).mpr (show v0.toInt < (63744) by omega))]
  rw [show f1_167 v0 = f1_179 v0 from if_pos ((own_lt (x := v0) (y := (65008 : Int32))).mpr (show v0.toInt < (65008) by omega))]
  rw [show f1_179 v0 = f1_195 v0 from if_pos ((own_lt (x := v0) (y := (65536 : Int32))).mpr (show v0.toInt < (65536) by omega))]
  rfl
theorem t1_22 (v0 : Int32) (h1 : (11264) ≤ v0.toInt) (h2 : v0.toInt ≤ 12271) : f1_0 v0 = (1 : Int32) := by
  rw [show f1_0 v0 = f1_6 v0 from if_neg (fun h => absurd ((own_lt (x := v0) (y := (97 : Int32))).mp h) (show ¬ v0.toInt < (97) by omega))]
  rw [show f1_6 v0 = f1_12 v0 from if_pos ((own_lt (x := (122 : Int32)) (y := v0)).mpr (show (122) < v0.toInt by omega))]
  rw [show f1_12 v0 = f1_18 v0 from if_neg (fun h => absurd ((own_lt (x := v0) (y := (65 : Int32))).mp h) (show ¬ v0.toInt < (65) by omega))]
  rw [show f1_18 v0 = f1_24 v0 from if_pos ((own_lt (x := (90 : Int32)) (y := v0)).mpr (show (90) < v0.toInt by omega))]
  rw [show f1_24 v0 = f1_30 v0 from if_neg (fun h => absurd ((own_eq (x := v0) (y := (95 : Int32))).mp h) (show ¬ v0.toInt = (95) by omega))]
  rw [show f1_30 v0 = f1_37 v0 from if_neg (fun h => absurd ((own_lt (x := v0) (y := (192 : Int32))).mp h) (show ¬ v0.toInt < (192) by omega))]
  rw [show f1_37 v0 = f1_44 v0 from if_pos ((own_lt (x := (214 : Int32)) (y := v0)).mpr (show (214) < v0.toInt by omega))]
  rw [show f1_44 v0 = f1_51 v0 from if_neg (fun h => absurd ((own_lt (x := v0) (y := (216 : Int32))).mp h) (show ¬ v0.toInt < (216) by omega))]
  rw [show f1_51 v0 = f1_58 v0 from if_pos ((own_lt (x := (246 : Int32)) (y := v0)).mpr (show (246) < v0.toInt by omega))]
  rw [show f1_58 v0 = f1_65 v0 from if_neg (fun h => absurd ((own_lt (x := v0) (y := (248 : Int32))).mp h) (show ¬ v0.toInt < (248) by omega))]
  rw [show f1_65 v0 = f1_72 v0 from if_pos ((own_lt (x := (767 : Int32)) (y := v0)).mpr (show (767) < v0.toInt by omega))]
  rw [show f1_72 v0 = f1_79 v0 from if_neg (fun h => absurd ((own_lt (x := v0) (y := (880 : Int32))).mp h) (show ¬ v0.toInt < (880) by omega))]
  rw [show f1_79 v0 = f1_86 v0 from if_pos ((own_lt (x := (893 : Int32)) (y := v0)).mpr (show (893) < v0.toInt by omega))]
  rw [show f1_86 v0 = f1_93 v0 from if_neg (fun h => absurd ((own_lt (x := v0) (y := (895 : Int32))).mp h) (show ¬ v0.toInt < (895) by omega))]
  rw [show f1_93 v0 = f1_100 v0 from if_pos ((own_lt (x := (8191 : Int32)) (y := v0)).mpr (show (8191) < v0.toInt by omega))]
  rw [show f1_100 v0 = f1_107 v0 from if_neg (fun h => absurd ((own_lt (x := v0) (y := (8204 : Int32))).mp h) (show ¬ v0.toInt < (8204) by omega))]
  rw [show f1_107 v0 = f1_114 v0 from if_pos ((own_lt (x := (8205 : Int32)) (y := v0)).mpr (show (8205) < v0.toInt by omega))]
  rw [show f1_114 v0 = f1_121 v0 from if_neg (fun h => absurd ((own_lt (x := v0) (y := (8304 : Int32))).mp h) (show ¬ v0.toInt < (8304) by omega))]
  rw [show f1_121 v0 = f1_128 v0 from if_pos ((own_lt (x := (8591 : Int32)) (y := v0)).mpr (show (8591) < v0.toInt by omega))]
  rw [show f1_128 v0 = f1_135 v0 from if_neg (fun h => absurd ((own_lt (x := v0) (y := (11264 : Int32))).mp h) (show ¬ v0.toInt < (11264) by omega))]
  rw [show f1_135 v0 = f1_191 v0 from if_neg (fun h => absurd ((own_lt (x := (12271 : Int32)) (y := v0)).mp h) (show ¬ (12271) < v0.toInt by omega))]
  rfl
theorem t1_23 (v0 : Int32) (h1 : (12272) ≤ v0.toInt) (h2 : v0.toInt ≤ 12288) : f1_0 v0 = (0 : Int32) := by
  rw [show f1_0 v0 = f1_6 v0 from if_neg (fun h => absurd ((own_lt (x := v0) (y := (97 : Int32))).mp h) (show ¬ v0.toInt < (97) by omega))]
  rw [show f1_6 v0 = f1_12 v0 from if_pos ((own_lt (x := (122 : Int32)) (y := v0)).mpr (show (122) < v0.toInt by omega))]
  rw [show f1_12 v0 = f1_18 v0 from if_neg (fun h => absurd ((own_lt (x := v0) (y := (65 : Int32))).mp h) (show ¬ v0.toInt < (65) by omega))]
  rw [show f1_18 v0 = f1_24 v0 from if_pos ((own_lt (x := (90 : Int32)) (y := v0)).mpr (show (90) < v0.toInt by omega))]
  rw [show f1_24 v0 = f1_30 v0 from if_neg (fun h => absurd ((own_eq (x := v0) (y := (95 : Int32))).mp h) (show ¬ v0.toInt = (95) by omega))]
  rw [show f1_30 v0 = f1_37 v0 from if_neg (fun h => absurd ((own_lt (x := v0) (y := (192 : Int32))).mp h) (show ¬ v0.toInt < (192) by omega))]
  rw [show f1_37 v0 = f1_44 v0 from if_pos ((own_lt (x := (214 : Int32)) (y := v0)).mpr (show (214) < v0.toInt by omega))]
  rw [show f1_44 v0 = f1_51 v0 from if_neg (fun h => absurd ((own_lt (x := v0) (y := (216 : Int32))).mp h) (show ¬ v0.toInt < (216) by omega))]
  rw [show f1_51 v0 = f1_58 v0 from if_pos ((own_lt (x := (246 : Int32)) (y := v0)).mpr (show (246) < v0.toInt by omega))]
  rw [show f1_58 v0 = f1_65 v0 from if_neg (fun h => absurd ((own_lt (x := v0) (y := (248 : Int32))).mp h) (show ¬ v0.toInt < (248) by omega))]
  rw [show f1_65 v0 = f1_72 v0 from if_pos ((own_lt (x := (767 : Int32)) (y := v0)).mpr (show (767) < v0.toInt by omega))]
  rw [show f1_72 v0 = f1_79 v0 from if_neg (fun h => absurd ((own_lt (x := v0) (y := (880 : Int32))).mp h) (show ¬ v0.toInt < (880) by omega))]
  rw [show f1_79 v0 = f1_86 v0 from if_pos ((own_lt (x := (893 : Int32)) (y := v0)).mpr (show (893) < v0.toInt by omega))]
  rw [show f1_86 v0 = f1_93 v0 from if_neg (fun h => absurd ((own_lt (x := v0) (y := (895 : Int32))).mp h) (show ¬ v0.toInt < (895) by omega))]
  rw [show f1_93 v0 = f1_100 v0 from if_pos ((own_lt (x := (8191 : Int32)) (y := v0)).mpr (show (8191) < v0.toInt by omega))]
  rw [show f1_100 v0 = f1_107 v0 from if_neg (fun h => absurd ((own_lt (x := v0) (y := (8204 : Int32))).mp h) (show ¬ v0.toInt < (8204) by omega))]
  rw [show f1_107 v0 = f1_114 v0 from if_pos ((own_lt (x := (8205 : Int32)) (y := v0)).mpr (show (8205) < v0.toInt by omega))]
  rw [show f1_114 v0 = f1_121 v0 from if_neg (fun h => absurd ((own_lt (x := v0) (y := (8304 : Int32))).mp h) (show ¬ v0.toInt < (8304) by omega))]
  rw [show f1_121 v0 = f1_128 v0 from if_pos ((own_lt (x := (8591 : Int32)) (y := v0)).mpr (show (8591) < v0.toInt by omega))]
  rw [show f1_128 v0 = f1_135 v0 from if_neg (fun h => absurd ((own_lt (x := v0) (y := (11264 : Int32))).mp h) (show ¬ v0.toInt < (11264) by omega))]
  rw [show f1_135 v0 = f1_142 v0 from if_pos ((own_lt (x := (12271 : Int32)) (y := v0)).mpr (show (12271) < v0.toInt by omega))]
  rw [show f1_142 v0 = f1_155 v0 from if_pos ((own_lt (x := v0) (y := (12289 : Int32))).mpr (show v0.toInt < (12289) by omega))]
  rw [show f1_155 v0 = f1_167 v0 from if_pos ((own_lt (x := v0) (y := (63744 : Int32))).mpr (show v0.toInt < (63744) by omega))]
  rw [show f1_167 v0 = f1_179 v0 from if_pos ((own_lt (x := v0) (y := (65008 : Int32))).mpr (show v0.toInt < (65008) by omega))]
  rw [show f1_179 v0 = f1_195 v0 from if_pos ((own_lt (x := v0) (y := (65536 : Int32))).mpr (show v0.toInt < (65536) by omega))]
  rfl
theorem t1_24 (v0 : Int32) (h1 : (12289) ≤ v0.toInt) (h2 : v0.toInt ≤ 55295) : f1_0 v0 = (1 : Int32) := by
  rw [show f1_0 v0 = f1_6 v0 from if_neg (fun h => absurd ((own_lt (x := v0) (y := (97 : Int32))).mp h) (show ¬ v0.toInt < (97) by omega))]
  rw [show f1_6 v0 = f1_12 v0 from if_pos ((own_lt (x := (122 : Int32)) (y := v0)).mpr (show (122) < v0.toInt by omega))]
  rw [show f1_12 v0 = f1_18 v0 from if_neg (fun h => absurd ((own_lt (x := v0) (y := (65 : Int32))).mp h) (show ¬ v0.toInt < (65) by omega))]
  rw [show f1_18 v0 = f1_24 v0 from if_pos ((own_lt (x := (90 : Int32)) (y := v0)).mpr (show (90) < v0.toInt by omega))]
  rw [show f1_24 v0 = f1_30 v0 from if_neg (fun h => absurd ((own_eq (x := v0) (y := (95 : Int32))).mp h) (show ¬ v0.toInt = (95) by omega))]
  rw [show f1_30 v0 = f1_37 v0 from if_neg (fun h => absurd ((own_lt (x := v0) (y := (192 : Int32))).mp h) (show ¬ v0.toInt < (192) by omega))]
  rw [show f1_37 v0 = f1_44 v0 from if_pos ((own_lt (x := (214 : Int32)) (y := v0)).mpr (show (214) < v0.toInt by omega))]
  rw [show f1_44 v0 = f1_51 v0 from if_neg (fun h => absurd ((own_lt (x := v0) (y := (216 : Int32))).mp h) (show ¬ v0.toInt < (216) by omega))]
  rw [show f1_51 v0 = f1_58 v0 from if_pos ((own_lt (x := (246 : Int32)) (y := v0)).mpr (show (246) < v0.toInt by omega))]
  rw [show f1_58 v0 = f1_65 v0 from if_neg (fun h => absurd ((own_lt (x := v0) (y := (248 : Int32))).mp h) (show ¬ v0.toInt < (248) by omega))]
  rw [show f1_65 v0 = f1_72 v0 from if_pos ((own_lt (x := (767 : Int32)) (y := v0)).mpr (show (767) < v0.toInt by omega))]
  rw [show f1_72 v0 = f1_79 v0 from if_neg (fun h => absurd ((own_lt (x := v0) (y := (880 : Int32))).mp h) (show ¬ v0.toInt < (880) by omega))]
  rw [show f1_79 v0 = f1_86 v0 from if_pos ((own_lt (x := (893 : Int32)) (y := v0)).mpr (show (893) < v0.toInt by omega))]
  rw [show f1_86 v0 = f1_93 v0 from if_neg (fun h => absurd ((own_lt (x := v0) (y := (895 : Int32))).mp h) (show ¬ v0.toInt < (895) by omega))]
  rw [show f1_93 v0 = f1_100 v0 from if_pos ((own_lt (x := (8191 : Int32)) (y := v0)).mpr (show (8191) < v0.toInt by omega))]
  rw [show f1_100 v0 = f1_107 v0 from if_neg (fun h => absurd ((own_lt (x := v0) (y := (8204 : Int32))).mp h) (show ¬ v0.toInt < (8204) by omega))]
  rw [show f1_107 v0 = f1_114 v0 from if_pos ((own_lt (x := (8205 : Int32)) (y := v0)).mpr (show (8205) < v0.toInt by omega))]
  rw [show f1_114 v0 = f1_121 v0 from if_neg (fun h => absurd ((own_lt (x := v0) (y := (8304 : Int32))).mp h) (show ¬ v0.toInt < (8304) by omega))]
  rw [show f1_121 v0 = f1_128 v0 from if_pos ((own_lt (x := (8591 : Int32)) (y := v0)).mpr (show (8591) < v0.toInt by omega))]
  rw [show f1_128 v0 = f1_135 v0 from if_neg (fun h => absurd ((own_lt (x := v0) (y := (11264 : Int32))).mp h) (show ¬ v0.toInt < (11264) by omega))]
  rw [show f1_135 v0 = f1_142 v0 from if_pos ((own_lt (x := (12271 : Int32)) (y := v0)).mpr (show (12271) < v0.toInt by omega))]
  rw [show f1_142 v0 = f1_149 v0 from if_neg (fun h => absurd ((own_lt (x := v0) (y := (12289 : Int32))).mp h) (show ¬ v0.toInt < (12289) by omega))]
  rw [show f1_149 v0 = f1_191 v0 from if_neg (fun h => absurd ((own_lt (x := (55295 : Int32)) (y := v0)).mp h) (show ¬ (55295) < v0.toInt by omega))]
  rfl
theorem t1_25 (v0 : Int32) (h1 : (55296) ≤ v0.toInt) (h2 : v0.toInt ≤ 63743) : f1_0 v0 = (0 : Int32) := by
  rw [show f1_0 v0 = f1_6 v0 from if_neg (fun h => absurd ((own_lt (x := v0) (y := (97 : Int32))).mp h) (show ¬ v0.toInt < (97) by omega))]
  rw [show f1_6 v0 = f1_12 v0 from if_pos ((own_lt (x := (122 : Int32)) (y := v0)).mpr (show (122) < v0.toInt by omega))]
  rw [show f1_12 v0 = f1_18 v0 from if_neg (fun h => absurd ((own_lt (x := v0) (y := (65 : Int32))).mp h) (show ¬ v0.toInt < (65) by omega))]
  rw [show f1_18 v0 = f1_24 v0 from if_pos ((own_lt (x := (90 : Int32)) (y := v0)).mpr (show (90) < v0.toInt by omega))]
  rw [show f1_24 v0 = f1_30 v0 from if_neg (fun h => absurd ((own_eq (x := v0) (y := (95 : Int32))).mp h) (show ¬ v0.toInt = (95) by omega))]
  rw [show f1_30 v0 = f1_37 v0 from if_neg (fun h => absurd ((own_lt (x := v0) (y := (192 : Int32))).mp h) (show ¬ v0.toInt < (192) by omega))]
  rw [show f1_37 v0 = f1_44 v0 from if_pos ((own_lt (x := (214 : Int32)) (y := v0)).mpr (show (214) < v0.toInt by omega))]
  rw [show f1_44 v0 = f1_51 v0 from if_neg (fun h => absurd ((own_lt (x := v0) (y := (216 : Int32))).mp h) (show ¬ v0.toInt < (216) by omega))]
  rw [show f1_51 v0 = f1_58 v0 from if_pos ((own_lt (x := (246 : Int32)) (y := v0)).mpr (show (246) < v0.toInt by omega))]
  rw [show f1_58 v0 = f1_65 v0 from if_neg (fun h => absurd ((own_lt (x := v0) (y := (248 : Int32))).mp h) (show ¬ v0.toInt < (248) by omega))]
  rw [show f1_65 v0 = f1_72 v0 from if_pos ((own_lt (x := (767 : Int32)) (y := v0)).mpr (show (767) < v0.toInt by omega))]
  rw [show f1_72 v0 = f1_79 v0 from if_neg (fun h => absurd ((own_lt (x := v0) (y := (880 : Int32))).mp h) (show ¬ v0.toInt < (880) by omega))]
  rw [show f1_79 v0 = f1_86 v0 from if_pos ((own_lt (x := (893 : Int32)) (y := v0)).mpr (show (893) < v0.toInt by omega))]
  rw [show f1_86 v0 = f1_93 v0 from if_neg (fun h => absurd ((own_lt (x := v0) (y := (895 : Int32))).mp h) (show ¬ v0.toInt < (895) by omega))]
  rw [show f1_93 v0 = f1_100 v0 from if_pos ((own_lt (x := (8191 : Int32)) (y := v0)).mpr (show (8191) < v0.toInt by omega))]
  rw [show f1_100 v0 = f1_107 v0 from if_neg (fun h => absurd ((own_lt (x := v0) (y := (8204 : Int32))).mp h) (show ¬ v0.toInt < (8204) by omega))]
  rw [show f1_107 v0 = f1_114 v0 from if_pos ((own_lt (x := (8205 : Int32)) (y := v0)).mpr (show (8205) < v0.toInt by omega))]
  rw [show f1_114 v0 = f1_121 v0 from if_neg (fun h => absurd ((own_lt (x := v0) (y := (8304 : Int32))).mp h) (show ¬ v0.toInt < (8304) by omega))]
  rw [show f1_121 v0 = f1_128 v0 from if_pos ((own_lt (x := (8591 : Int32)) (y := v0)).mpr (show (8591) < v0.toInt by omega))]
  rw [show f1_128 v0 = f1_135 v0 from if_neg (fun h => absurd ((own_lt (x := v0) (y := (11264 : Int32))).mp h) (show ¬ v0.toInt < (11264) by omega))]
  rw [show f1_135 v0 = f1_142 v0 from if_pos ((own_lt (x := (12271 : Int32)) (y := v0)).mpr (show (12271) < v0.toInt by omega))]
  rw [show f1_142 v0 = f1_149 v0 from if_neg (fun h => absurd ((own_lt (x := v0) (y := (12289 : Int32))).mp h) (show ¬ v0.toInt < (12289) by omega))]
  rw [show f1_149 v0 = f1_155 v0 from if_pos ((own_lt (x := (55295 : Int32)) (y := v0)).mpr (show (55295) < v0.toInt by omega))]
  rw [show f1_155 v0 = f1_167 v0 from if_pos ((own_lt (x := v0) (y := (63744 : Int32))).mpr (show v0.toInt < (63744) by omega))]
  rw [show f1_167 v0 = f1_179 v0 from if_pos ((own_lt (x := v0) (y := (65008 : Int32))).mpr (show v0.toInt < (65008) by omega))]
  rw [show f1_179 v0 = f1_195 v0 from if_pos ((own_lt (x := v0) (y := (65536 : Int32))).mpr (show v0.toInt < (65536) by omega))]
  rfl
theorem t1_26 (v0 : Int32) (h1 : (63744) ≤ v0.toInt) (h2 : v0.toInt ≤ 64975) : f1_0 v0 = (1 : Int32) := by
  rw [show f1_0 v0 = f1_6 v0 from if_neg (fun h => absurd ((own_lt (x := v0) (y := (97 : Int32))).mp h) (show ¬ v0.toInt < (97) by omega))]
  rw [show f1_6 v0 = f1_12 v0 from if_pos ((own_lt (x := (122 : Int32)) (y := v0)).mpr (show (122) < v0.toInt by omega))]
  rw [show f1_12 v0 = f1_18 v0 from if_neg (fun h => absurd ((own_lt (x := v0) (y := (65 : Int32))).mp h) (show ¬ v0.toInt < (65) by omega))]
  rw [show f1_18 v0 = f1_24 v0 from if_pos ((own_lt (x := (90 : Int32)) (y := v0)).mpr (show (90) < v0.toInt by omega))]
  rw [show f1_24 v0 = f1_30 v0 from if_neg (fun h => absurd ((own_eq (x := v0) (y := (95 : Int32))).mp h) (show ¬ v0.toInt = (95) by omega))]
  rw [show f1_30 v0 = f1_37 v0 from if_neg (fun h => absurd ((own_lt (x := v0) (y := (192 : Int32))).mp h) (show ¬ v0.toInt < (192) by omega))]
  rw [show f1_37 v0 = f1_44 v0 from if_pos ((own_lt (x := (214 : Int32)) (y := v0)).mpr (show (214) < v0.toInt by omega))]
  rw [show f1_44 v0 = f1_51 v0 from if_neg (fun h => absurd ((own_lt (x := v0) (y := (216 : Int32))).mp h) (show ¬ v0.toInt < (216) by omega))]
  rw [show f1_51 v0 = f1_58 v0 from if_pos ((own_lt (x := (246 : Int32)) (y := v0)).mpr (show (246) < v0.toInt by omega))]
  rw [show f1_58 v0 = f1_65 v0 from if_neg (fun h => absurd ((own_lt (x := v0) (y := (248 : Int32))).mp h) (show ¬ v0.toInt < (248) by omega))]
  rw [show f1_65 v0 = f1_72 v0 from if_pos ((own_lt (x := (767 : Int32)) (y := v0)).mpr (show (767) < v0.toInt by omega))]
  rw [show f1_72 v0 = f1_79 v0 from if_neg (fun h => absurd ((own_lt (x := v0) (y := (880 : Int32))).mp h) (show ¬ v0.toInt < (880) by omega))]
  rw [show f1_79 v0 = f1_86 v0 from if_pos ((own_lt (x := (893 : Int32)) (y := v0)).mpr (show (893) < v0.toInt by omega))]
  rw [show f1_86 v0 = f1_93 v0 from if_neg (fun h => absurd ((own_lt (x := v0) (y := (895 : Int32))).mp h) (show ¬ v0.toInt < (895) by omega))]
  rw [show f1_93 v0 = f1_100 v0 from if_pos ((own_lt (x := (8191 : Int32)) (y := v0)).mpr (show (8191) < v0.toInt by omega))]
  rw [show f1_100 v0 = f1_107 v0 from if_neg (fun h => absurd ((own_lt (x := v0) (y := (8204 : Int32))).mp h) (show ¬ v0.toInt < (8204) by omega))]
  rw [show f1_107 v0 = f1_114 v0 from if_pos ((own_lt (x := (8205 : Int32)) (y := v0)).mpr (show (8205) < v0.toInt by omega))]
  rw [show f1_114 v0 = f1_121 v0 from if_neg (fun h => absurd ((own_lt (x := v0) (y := (8304 : Int32))).mp h) (show ¬ v0.toInt < (8304) by omega))]
  rw [show f1_121 v0 = f1_128 v0 from if_pos ((own_lt (x := (8591 : Int32)) (y := v0)).mpr (show (8591) < v0.toInt by omega))]
  rw [show f1_128 v0 = f1_135 v0 from if_neg (fun h => absurd ((own_lt (x := v0) (y := (11264 : Int32))).mp h) (show ¬ v0.toInt < (11264) by omega))]
  rw [show f1_135 v0 = f1_142 v0 from if_pos ((own_lt (x := (12271 : Int32)) (y := v0)).mpr (show (12271) < v0.toInt by omega))]
  rw [show f1_142 v0 = f1_149 v0 from if_neg (fun h => absurd ((own_lt (x := v0) (y := (12289 : Int32))).mp h) (show ¬ v0.toInt < (12289) by omega))]
  rw [show f1_149 v0 = f1_155 v0 from if_pos ((own_lt (x := (55295 : Int32)) (y := v0)).mpr (show (55295) < v0.toInt by omega))]
  rw [show f1_155 v0 = f1_161 v0 from if_neg (fun h => absurd ((own_lt (x := v0) (y := (63744 : Int32))).mp h) (show ¬ v0.toInt < (63744) by omega))]
  rw [show f1_161 v0 = f1_191 v0 from if_neg (fun h => absurd ((own_lt (x := (64975 : Int32)) (y := v0)).mp h) (show ¬ (64975) < v0.toInt by omega))]
  rfl
theorem t1_27 (v0 : Int32) (h1 : (64976) ≤ v0.toInt) (h2 : v0.toInt ≤ 65007) : f1_0 v0 = (0 : Int32) := by
  rw [show f1_0 v0 = f1_6 v0 from if_neg (fun h => absurd ((own_lt (x := v0) (y := (97 : Int32))).mp h) (show ¬ v0.toInt < (97) by omega))]
  rw [show f1_6 v0 = f1_12 v0 from if_pos ((own_lt (x := (122 : Int32)) (y := v0)).mpr (show (122) < v0.toInt by omega))]
  rw [show f1_12 v0 = f1_18 v0 from if_neg (fun h => absurd ((own_lt (x := v0) (y := (65 : Int32))).mp h) (show ¬ v0.toInt < (65) by omega))]
  rw [show f1_18 v0 = f1_24 v0 from if_pos ((own_lt (x := (90 : Int32)) (y := v0)).mpr (show (90) < v0.toInt by omega))]
  rw [show f1_24 v0 = f1_30 v0 from if_neg (fun h => absurd ((own_eq (x := v0) (y := (95 : Int32))).mp h) (show ¬ v0.toInt = (95) by omega))]
  rw [show f1_30 v0 = f1_37 v0 from if_neg (fun h => absurd ((own_lt (x := v0) (y := (192 : Int32))).mp h) (show ¬ v0.toInt < (192) by omega))]
  rw [show f1_37 v0 = f1_44 v0 from if_pos ((own_lt (x := (214 : Int32)) (y := v0)).mpr (show (214) < v0.toInt by omega))]
  rw [show f1_44 v0 = f1_51 v0 from if_neg (fun h => absurd ((own_lt (x := v0) (y := (216 : Int32))).mp h) (show ¬ v0.toInt < (216) by omega))]
  rw [show f1_51 v0 = f1_58 v0 from if_pos ((own_lt (x := (246 : Int32)) (y := v0)).mpr (show (246) < v0.toInt by omega))]
  rw [show f1_58 v0 = f1_65 v0 from if_neg (fun h => absurd ((own_lt (x := v0) (y := (248 : Int32))).mp h) (show ¬ v0.toInt < (248) by omega))]
  rw [show f1_65 v0 = f1_72 v0 from if_pos ((own_lt (x := (767 : Int32)) (y := v0)).mpr (show (767) < v0.toInt by omega))]
  rw [show f1_72 v0 = f1_79 v0 from if_neg (fun h => absurd ((own_lt (x := v0) (y := (880 : Int32))).mp h) (show ¬ v0.toInt < (880) by omega))]
  rw [show f1_79 v0 = f1_86 v0 from if_pos ((own_lt (x := (893 : Int32)) (y := v0)).mpr (show (893) < v0.toInt by omega))]
  rw [show f1_86 v0 = f1_93 v0 from if_neg (fun h => absurd ((own_lt (x := v0) (y := (895 : Int32))).mp h) (show ¬ v0.toInt < (895) by omega))]
  rw [show f1_93 v0 = f1_100 v0 from if_pos ((own_lt (x := (8191 : Int32)) (y := v0)).mpr (show (8191) < v0.toInt by omega))]
  rw [show f1_100 v0 = f1_107 v0 from if_neg (fun h => absurd ((own_lt (x := v0) (y := (8204 : Int32))).mp h) (show ¬ v0.toInt < (8204) by omega))]
  rw [show f1_107 v0 = f1_114 v0 from if_pos ((own_lt (x := (8205 : Int32)) (y := v0)).mpr (show (8205) < v0.toInt by omega))]
  rw [show f1_114 v0 = f1_121 v0 from if_neg (fun h => absurd ((own_lt (x := v0) (y := (8304 : Int32))).mp h) (show ¬ v0.toInt < (8304) by omega))]
  rw [show f1_121 v0 = f1_128 v0 from if_pos ((own_lt (x := (8591 : Int32)) (y := v0)).mpr (show (8591) < v0.toInt by omega))]
  rw [show f1_128 v0 = f1_135 v0 from if_neg (fun h => absurd ((own_lt (x := v0) (y := (11264 : Int32))).mp h) (show ¬ v0.toInt < (11264) by omega))]
  rw [show f1_135 v0 = f1_142 v0 from if_pos ((own_lt (x := (12271 : Int32)) (y := v0)).mpr (show (12271) < v0.toInt by omega))]
  rw [show f1_142 v0 = f1_149 v0 from if_neg (fun h => absurd ((own_lt (x := v0) (y := (12289 : Int32))).mp h) (show ¬ v0.toInt < (12289) by omega))]
  rw [show f1_149 v0 = f1_155 v0 from if_pos ((own_lt (x := (55295 : Int32)) (y := v0)).mpr (show (55295) < v0.toInt by omega))]
  rw [show f1_155 v0 = f1_161 v0 from if_neg (fun h => absurd ((own_lt (x := v0) (y := (63744 : Int32))).mp h) (show ¬ v0.toInt < (63744) by omega))]
  rw [show f1_161 v0 = f1_167 v0 from if_pos ((own_lt (x := (64975 : Int32)) (y := v0)).mpr (show (64975) < v0.toInt by omega))]
  rw [show f1_167 v0 = f1_179 v0 from if_pos ((own_lt (x := v0) (y := (65008 : Int32))).mpr (show v0.toInt < (65008) by omega))]
  rw [show f1_179 v0 = f1_195 v0 from if_pos ((own_lt (x := v0) (y := (65536 : Int32))).mpr (show v0.toInt < (65536) by omega))]
  rfl
theorem t1_28 (v0 : Int32) (h1 : (65008) ≤ v0.toInt) (h2 : v0.toInt ≤ 65533) : f1_0 v0 = (1 : Int32) := by
  rw [show f1_0 v0 = f1_6 v0 from if_neg (fun h => absurd ((own_lt (x := v0) (y := (97 : Int32))).mp h) (show ¬ v0.toInt < (97) by omega))]
  rw [show f1_6 v0 = f1_12 v0 from if_pos ((own_lt (x := (122 : Int32)) (y := v0)).mpr (show (122) < v0.toInt by omega))]
  rw [show f1_12 v0 = f1_18 v0 from if_neg (fun h => absurd ((own_lt (x := v0) (y := (65 : Int32))).mp h) (show ¬ v0.toInt < (65) by omega))]
  rw [show f1_18 v0 = f1_24 v0 from if_pos ((own_lt (x := (90 : Int32)) (y := v0)).mpr (show (90) < v0.toInt by omega))]
  rw [show f1_24 v0 = f1_30 v0 from if_neg (fun h => absurd ((own_eq (x := v0) (y := (95 : Int32))).mp h) (show ¬ v0.toInt = (95) by omega))]
  rw [show f1_30 v0 = f1_37 v0 from if_neg (fun h => absurd ((own_lt (x := v0) (y := (192 : Int32))).mp h) (show ¬ v0.toInt < (192) by omega))]
  rw [show f1_37 v0 = f1_44 v0 from if_pos ((own_lt (x := (214 : Int32)) (y := v0)).mpr (show (214) < v0.toInt by omega))]
  rw [show f1_44 v0 = f1_51 v0 from if_neg (fun h => absurd ((own_lt (x := v0) (y := (216 : Int32))).mp h) (show ¬ v0.toInt < (216) by omega))]
  rw [show f1_51 v0 = f1_58 v0 from if_pos ((own_lt (x := (246 : Int32)) (y := v0)).mpr (show (246) < v0.toInt by omega))]
  rw [show f1_58 v0 = f1_65 v0 from if_neg (fun h => absurd ((own_lt (x := v0) (y := (248 : Int32))).mp h) (show ¬ v0.toInt < (248) by omega))]
  rw [show f1_65 v0 = f1_72 v0 from if_pos ((own_lt (x := (767 : Int32)) (y := v0)).mpr (show (767) < v0.toInt by omega))]
  rw [show f1_72 v0 = f1_79 v0 from if_neg (fun h => absurd ((own_lt (x := v0) (y := (880 : Int32))).mp h) (show ¬ v0.toInt < (880) by omega))]
  rw [show f1_79 v0 = f1_86 v0 from if_pos ((own_lt (x := (893 : Int32)) (y := v0)).mpr (show (893) < v0.toInt by omega))]
  rw [show f1_86 v0 = f1_93 v0 from if_neg (fun h => absurd ((own_lt (x := v0) (y := (895 : Int32))).mp h) (show ¬ v0.toInt < (895) by omega))]
  rw [show f1_93 v0 = f1_100 v0 from if_pos ((own_lt (x := (8191 : Int32)) (y := v0)).mpr (show (8191) < v0.toInt by omega))]
  rw [show f1_100 v0 = f1_107 v0 from if_neg (fun h => absurd ((own_lt (x := v0) (y := (8204 : Int32))).mp h) (show ¬ v0.toInt < (8204) by omega))]
  rw [show f1_107 v0 = f1_114 v0 from if_pos ((own_lt (x := (8205 : Int32)) (y := v0)).mpr (show (8205) < v0.toInt by omega))]
  rw [show f1_114 v0 = f1_121 v0 from if_neg (fun h => absurd ((own_lt (x := v0) (y := (8304 : Int32))).mp h) (show ¬ v0.toInt < (8304) by omega))]
  rw [show f1_121 v0 = f1_128 v0 from if_pos ((own_lt (x := (8591 : Int32)) (y := v0)).mpr (show (8591) < v0.toInt by omega))]
  rw [show f1_128 v0 = f1_135 v0 from if_neg (fun h => absurd ((own_lt (x := v0) (y := (11264 : Int32))).mp h) (show ¬ v0.toInt < (11264) by omega))]
  rw [show f1_135 v0 = f1_142 v0 from if_pos ((own_lt (x := (12271 : Int32)) (y := v0)).mpr (show (12271) < v0.toInt by omega))]
  rw [show f1_142 v0 = f1_149 v0 from if_neg (fun h => absurd ((own_lt (x := v0) (y := (12289 : Int32))).mp h) (show ¬ v0.toInt < (12289) by omega))]
  rw [show f1_149 v0 = f1_155 v0 from if_pos ((own_lt (x := (55295 : Int32)) (y := v0)).mpr (show (55295) < v0.toInt by omega))]
  rw [show f1_155 v0 = f1_161 v0 from if_neg (fun h => absurd ((own_lt (x := v0) (y := (63744 : Int32))).mp h) (show ¬ v0.toInt < (63744) by omega))]
  rw [show f1_161 v0 = f1_167 v0 from if_pos ((own_lt (x := (64975 : Int32)) (y := v0)).mpr (show (64975) < v0.toInt by omega))]
  rw [show f1_167 v0 = f1_173 v0 from if_neg (fun h => absurd ((own_lt (x := v0) (y := (65008 : Int32))).mp h) (show ¬ v0.toInt < (65008) by omega))]
  rw [show f1_173 v0 = f1_191 v0 from if_neg (fun h => absurd ((own_lt (x := (65533 : Int32)) (y := v0)).mp h) (show ¬ (65533) < v0.toInt by omega))]
  rfl
theorem t1_29 (v0 : Int32) (h1 : (65534) ≤ v0.toInt) (h2 : v0.toInt ≤ 65535) : f1_0 v0 = (0 : Int32) := by
  rw [show f1_0 v0 = f1_6 v0 from if_neg (fun h => absurd ((own_lt (x := v0) (y := (97 : Int32))).mp h) (show ¬ v0.toInt < (97) by omega))]
  rw [show f1_6 v0 = f1_12 v0 from if_pos ((own_lt (x := (122 : Int32)) (y := v0)).mpr (show (122) < v0.toInt by omega))]
  rw [show f1_12 v0 = f1_18 v0 from if_neg (fun h => absurd ((own_lt (x := v0) (y := (65 : Int32))).mp h) (show ¬ v0.toInt < (65) by omega))]
  rw [show f1_18 v0 = f1_24 v0 from if_pos ((own_lt (x := (90 : Int32)) (y := v0)).mpr (show (90) < v0.toInt by omega))]
  rw [show f1_24 v0 = f1_30 v0 from if_neg (fun h => absurd ((own_eq (x := v0) (y := (95 : Int32))).mp h) (show ¬ v0.toInt = (95) by omega))]
  rw [show f1_30 v0 = f1_37 v0 from if_neg (fun h => absurd ((own_lt (x := v0) (y := (192 : Int32))).mp h) (show ¬ v0.toInt < (192) by omega))]
  rw [show f1_37 v0 = f1_44 v0 from if_pos ((own_lt (x := (214 : Int32)) (y := v0)).mpr (show (214) < v0.toInt by omega))]
  rw [show f1_44 v0 = f1_51 v0 from if_neg (fun h => absurd ((own_lt (x := v0) (y := (216 : Int32))).mp h) (show ¬ v0.toInt < (216) by omega))]
  rw [show f1_51 v0 = f1_58 v0 from if_pos ((own_lt (x := (246 : Int32)) (y := v0)).mpr (show (246) < v0.toInt by omega))]
  rw [show f1_58 v0 = f1_65 v0 from if_neg (fun h => absurd ((own_lt (x := v0) (y := (248 : Int32))).mp h) (show ¬ v0.toInt < (248) by omega))]
  rw [show f1_65 v0 = f1_72 v0 from if_pos ((own_lt (x := (767 : Int32)) (y := v0)).mpr (show (767) < v0.toInt by omega))]
  rw [show f1_72 v0 = f1_79 v0 from if_neg (fun h => absurd ((own_lt (x := v0) (y := (880 : Int32))).mp h) (show ¬ v0.toInt < (880) by omega))]
  rw [show f1_79 v0 = f1_86 v0 from if_pos ((own_lt (x := (893 : Int32)) (y := v0)).mpr (show (893) < v0.toInt by omega))]
  rw [show f1_86 v0 = f1_93 v0 from if_neg (fun h => absurd ((own_lt (x := v0) (y := (895 : Int32))).mp h) (show ¬ v0.toInt < (895) by omega))]
  rw [show f1_93 v0 = f1_100 v0 from if_pos ((own_lt (x := (8191 : Int32)) (y := v0)).mpr (show (8191) < v0.toInt by omega))]
  rw [show f1_100 v0 = f1_107 v0 from if_neg (fun h => absurd ((own_lt (x := v0) (y := (8204 : Int32))).mp h) (show ¬ v0.toInt < (8204) by omega))]
  rw [show f1_107 v0 = f1_114 v0 from if_pos ((own_lt (x := (8205 : Int32)) (y := v0)).mpr (show (8205) < v0.toInt by omega))]
  rw [show f1_114 v0 = f1_121 v0 from if_neg (fun h => absurd ((own_lt (x := v0) (y := (8304 : Int32))).mp h) (show ¬ v0.toInt < (8304) by omega))]
  rw [show f1_121 v0 = f1_128 v0 from if_pos ((own_lt (x := (8591 : Int32)) (y := v0)).mpr (show (8591) < v0.toInt by omega))]
  rw [show f1_128 v0 = f1_135 v0 from if_neg (fun h => absurd ((own_lt (x := v0) (y := (11264 : Int32))).mp h) (show ¬ v0.toInt < (11264) by omega))]
  rw [show f1_135 v0 = f1_142 v0 from if_pos ((own_lt (x := (12271 : Int32)) (y := v0)).mpr (show (12271) < v0.toInt by omega))]
  rw [show f1_142 v0 = f1_149 v0 from if_neg (fun h => absurd ((own_lt (x := v0) (y := (12289 : Int32))).mp h) (show ¬ v0.toInt < (12289) by omega))]
  rw [show f1_149 v0 = f1_155 v0 from if_pos ((own_lt (x := (55295 : Int32)) (y := v0)).mpr (show (55295) < v0.toInt by omega))]
  rw [show f1_155 v0 = f1_161 v0 from if_neg (fun h => absurd ((own_lt (x := v0) (y := (63744 : Int32))).mp h) (show ¬ v0.toInt < (63744) by omega))]
  rw [show f1_161 v0 = f1_167 v0 from if_pos ((own_lt (x := (64975 : Int32)) (y := v0)).mpr (show (64975) < v0.toInt by omega))]
  rw [show f1_167 v0 = f1_173 v0 from if_neg (fun h => absurd ((own_lt (x := v0) (y := (65008 : Int32))).mp h) (show ¬ v0.toInt < (65008) by omega))]
  rw [show f1_173 v0 = f1_179 v0 from if_pos ((own_lt (x := (65533 : Int32)) (y := v0)).mpr (show (65533) < v0.toInt by omega))]
  rw [show f1_179 v0 = f1_195 v0 from if_pos ((own_lt (x := v0) (y := (65536 : Int32))).mpr (show v0.toInt < (65536) by omega))]
  rfl
theorem t1_30 (v0 : Int32) (h1 : (65536) ≤ v0.toInt) (h2 : v0.toInt ≤ 983039) : f1_0 v0 = (1 : Int32) := by
  rw [show f1_0 v0 = f1_6 v0 from if_neg (fun h => absurd ((own_lt (x := v0) (y := (97 : Int32))).mp h) (show ¬ v0.toInt < (97) by omega))]
  rw [show f1_6 v0 = f1_12 v0 from if_pos ((own_lt (x := (122 : Int32)) (y := v0)).mpr (show (122) < v0.toInt by omega))]
  rw [show f1_12 v0 = f1_18 v0 from if_neg (fun h => absurd ((own_lt (x := v0) (y := (65 : Int32))).mp h) (show ¬ v0.toInt < (65) by omega))]
  rw [show f1_18 v0 = f1_24 v0 from if_pos ((own_lt (x := (90 : Int32)) (y := v0)).mpr (show (90) < v0.toInt by omega))]
  rw [show f1_24 v0 = f1_30 v0 from if_neg (fun h => absurd ((own_eq (x := v0) (y := (95 : Int32))).mp h) (show ¬ v0.toInt = (95) by omega))]
  rw [show f1_30 v0 = f1_37 v0 from if_neg (fun h => absurd ((own_lt (x := v0) (y := (192 : Int32))).mp h) (show ¬ v0.toInt < (192) by omega))]
  rw [show f1_37 v0 = f1_44 v0 from if_pos ((own_lt (x := (214 : Int32)) (y := v0)).mpr (show (214) < v0.toInt by omega))]
  rw [show f1_44 v0 = f1_51 v0 from if_neg (fun h => absurd ((own_lt (x := v0) (y := (216 : Int32))).mp h) (show ¬ v0.toInt < (216) by omega))]
  rw [show f1_51 v0 = f1_58 v0 from if_pos ((own_lt (x := (246 : Int32)) (y := v0)).mpr (show (246) < v0.toInt by omega))]
  rw [show f1_58 v0 = f1_65 v0 from if_neg (fun h => absurd ((own_lt (x := v0) (y := (248 : Int32))).mp h) (show ¬ v0.toInt < (248) by omega))]
  rw [show f1_65 v0 = f1_72 v0 from if_pos ((own_lt (x := (767 : Int32)) (y := v0)).mpr (show (767) < v0.toInt by omega))]
  rw [show f1_72 v0 = f1_79 v0 from if_neg (fun h => absurd ((own_lt (x := v0) (y := (880 : Int32))).mp h) (show ¬ v0.toInt < (880) by omega))]
  rw [show f1_79 v0 = f1_86 v0 from if_pos ((own_lt (x := (893 : Int32)) (y := v0)).mpr (show (893) < v0.toInt by omega))]
  rw [show f1_86 v0 = f1_93 v0 from if_neg (fun h => absurd ((own_lt (x := v0) (y := (895 : Int32))).mp h) (show ¬ v0.toInt < (895) by omega))]
  rw [show f1_93 v0 = f1_100 v0 from if_pos ((own_lt (x := (8191 : Int32)) (y := v0)).mpr (show (8191) < v0.toInt by omega))]
  rw [show f1_100 v0 = f1_107 v0 from if_neg (fun h => absurd ((own_lt (x := v0) (y := (8204 : Int32))).mp h) (show ¬ v0.toInt < (8204) by omega))]
  rw [show f1_107 v0 = f1_114 v0 from if_pos ((own_lt (x := (8205 : Int32)) (y := v0)).mpr (show (8205) < v0.toInt by omega))]
  rw [show f1_114 v0 = f1_121 v0 from if_neg (fun h => absurd ((own_lt (x := v0) (y := (8304 : Int32))).mp h) (show ¬ v0.toInt < (8304) by omega))]
  rw [show f1_121 v0 = f1_128 v0 from if_pos ((own_lt (x := (8591 : Int32)) (y := v0)).mpr (show (8591) < v0.toInt by omega))]
  rw [show f1_128 v0 = f1_135 v0 from if_neg (fun h => absurd ((own_lt (x := v0) (y := (11264 : Int32))).mp h) (show ¬ v0.toInt < (11264) by omega))]
  rw [show f1_135 v0 = f1_142 v0 from if_pos ((own_lt (x := (12271 : Int32)) (y := v0)).mpr (show (12271) < v0.toInt by omega))]
  rw [show f1_142 v0 = f1_149 v0 from if_neg (fun h => absurd ((own_lt (x := v0) (y := (12289 : Int32))).mp h) (show ¬ v0.toInt < (12289) by omega))]
  rw [show f1_149 v0 = f1_155 v0 from if_pos ((own_lt (x := (55295 : Int32)) (y := v0)).mpr (show (55295) < v0.toInt by omega))]
  rw [show f1_155 v0 = f1_161 v0 from if_neg (fun h => absurd ((own_lt (x := v0) (y := (63744 : Int32))).mp h) (show ¬ v0.toInt < (63744) by omega))]
  rw [show f1_161 v0 = f1_167 v0 from if_pos ((own_lt (x := (64975 : Int32)) (y := v0)).mpr (show (64975) < v0.toInt by omega))]
  rw [show f1_167 v0 = f1_173 v0 from if_neg (fun h => absurd ((own_lt (x := v0) (y := (65008 : Int32))).mp h) (show ¬ v0.toInt < (65008) by omega))]
  rw [show f1_173 v0 = f1_179 v0 from if_pos ((own_lt (x := (65533 : Int32)) (y := v0)).mpr (show (65533) < v0.toInt by omega))]
  rw [show f1_179 v0 = f1_185 v0 from if_neg (fun h => absurd ((own_lt (x := v0) (y := (65536 : Int32))).mp h) (show ¬ v0.toInt < (65536) by omega))]
  rw [show f1_185 v0 = f1_191 v0 from if_neg (fun h => absurd ((own_lt (x := (983039 : Int32)) (y := v0)).mp h) (show ¬ (983039) < v0.toInt by omega))]
  rfl
theorem t1_31 (v0 : Int32) (h1 : (983040) ≤ v0.toInt) (h2 : v0.toInt ≤ 2147483647) : f1_0 v0 = (0 : Int32) := by
  rw [show f1_0 v0 = f1_6 v0 from if_neg (fun h => absurd ((own_lt (x := v0) (y := (97 : Int32))).mp h) (show ¬ v0.toInt < (97) by omega))]
  rw [show f1_6 v0 = f1_12 v0 from if_pos ((own_lt (x := (122 : Int32)) (y := v0)).mpr (show (122) < v0.toInt by omega))]
  rw [show f1_12 v0 = f1_18 v0 from if_neg (fun h => absurd ((own_lt (x := v0) (y := (65 : Int32))).mp h) (show ¬ v0.toInt < (65) by omega))]
  rw [show f1_18 v0 = f1_24 v0 from if_pos ((own_lt (x := (90 : Int32)) (y := v0)).mpr (show (90) < v0.toInt by omega))]
  rw [show f1_24 v0 = f1_30 v0 from if_neg (fun h => absurd ((own_eq (x := v0) (y := (95 : Int32))).mp h) (show ¬ v0.toInt = (95) by omega))]
  rw [show f1_30 v0 = f1_37 v0 from if_neg (fun h => absurd ((own_lt (x := v0) (y := (192 : Int32))).mp h) (show ¬ v0.toInt < (192) by omega))]
  rw [show f1_37 v0 = f1_44 v0 from if_pos ((own_lt (x := (214 : Int32)) (y := v0)).mpr (show (214) < v0.toInt by omega))]
  rw [show f1_44 v0 = f1_51 v0 from if_neg (fun h => absurd ((own_lt (x := v0) (y := (216 : Int32))).mp h) (show ¬ v0.toInt < (216) by omega))]
  rw [show f1_51 v0 = f1_58 v0 from if_pos ((own_lt (x := (246 : Int32)) (y := v0)).mpr (show (246) < v0.toInt by omega))]
  rw [show f1_58 v0 = f1_65 v0 from if_neg (fun h => absurd ((own_lt (x := v0) (y := (248 : Int32))).mp h) (show ¬ v0.toInt < (248) by omega))]
  rw [show f1_65 v0 = f1_72 v0 from if_pos ((own_lt (x := (767 : Int32)) (y := v0)).mpr (show (767) < v0.toInt by omega))]
  rw [show f1_72 v0 = f1_79 v0 from if_neg (fun h => absurd ((own_lt (x := v0) (y := (880 : Int32))).mp h) (show ¬ v0.toInt < (880) by omega))]
  rw [show f1_79 v0 = f1_86 v0 from if_pos ((own_lt (x := (893 : Int32)) (y := v0)).mpr (show (893) < v0.toInt by omega))]
  rw [show f1_86 v0 = f1_93 v0 from if_neg (fun h => absurd ((own_lt (x := v0) (y := (895 : Int32))).mp h) (show ¬ v0.toInt < (895) by omega))]
  rw [show f1_93 v0 = f1_100 v0 from if_pos ((own_lt (x := (8191 : Int32)) (y := v0)).mpr (show (8191) < v0.toInt by omega))]
  rw [show f1_100 v0 = f1_107 v0 from if_neg (fun h => absurd ((own_lt (x := v0) (y := (8204 : Int32))).mp h) (show ¬ v0.toInt < (8204) by omega))]
  rw [show f1_107 v0 = f1_114 v0 from if_pos ((own_lt (x := (8205 : Int32)) (y := v0)).mpr (show (8205) < v0.toInt by omega))]
  rw [show f1_114 v0 = f1_121 v0 from if_neg (fun h => absurd ((own_lt (x := v0) (y := (8304 : Int32))).mp h) (show ¬ v0.toInt < (8304) by omega))]
  rw [show f1_121 v0 = f1_128 v0 from if_pos ((own_lt (x := (8591 : Int32)) (y := v0)).mpr (show (8591) < v0.toInt by omega))]
  rw [show f1_128 v0 = f1_135 v0 from if_neg (fun h => absurd ((own_lt (x := v0) (y := (11264 : Int32))).mp h) (show ¬ v0.toInt < (11264) by omega))]
  rw [show f1_135 v0 = f1_142 v0 from if_pos ((own_lt (x := (12271 : Int32)) (y := v0)).mpr (show (12271) < v0.toInt by omega))]
  rw [show f1_142 v0 = f1_149 v0 from if_neg (fun h => absurd ((own_lt (x := v0) (y := (12289 : Int32))).mp h) (show ¬ v0.toInt < (12289) by omega))]
  rw [show f1_149 v0 = f1_155 v0 from if_pos ((own_lt (x := (55295 : Int32)) (y := v0)).mpr (show (55295) < v0.toInt by omega))]
  rw [show f1_155 v0 = f1_161 v0 from if_neg (fun h => absurd ((own_lt (x := v0) (y := (63744 : Int32))).mp h) (show ¬ v0.toInt < (63744) by omega))]
  rw [show f1_161 v0 = f1_167 v0 from if_pos ((own_lt (x := (64975 : Int32)) (y := v0)).mpr (show (64975) < v0.toInt by omega))]
  rw [show f1_167 v0 = f1_173 v0 from if_neg (fun h => absurd ((own_lt (x := v0) (y := (65008 : Int32))).mp h) (show ¬ v0.toInt < (65008) by omega))]
  rw [show f1_173 v0 = f1_179 v0 from if_pos ((own_lt (x := (65533 : Int32)) (y := v0)).mpr (show (65533) < v0.toInt by omega))]
  rw [show f1_179 v0 = f1_185 v0 from if_neg (fun h => absurd ((own_lt (x := v0) (y := (65536 : Int32))).mp h) (show ¬ v0.toInt < (65536) by omega))]
  rw [show f1_185 v0 = f1_195 v0 from if_pos ((own_lt (x := (983039 : Int32)) (y := v0)).mpr (show (983039) < v0.toInt by omega))]
  rfl
theorem t2_0 (v0 : Int32) (h1 : (-2147483648) ≤ v0.toInt) (h2 : v0.toInt ≤ 64) : f2_0 v0 = (0 : Int32) := by
  rw [show f2_0 v0 = f2_6 v0 from if_pos ((own_lt (x := v0) (y := (65 : Int32))).mpr (show v0.toInt < (65) by omega))]
  rfl
theorem t2_1 (v0 : Int32) (h1 : (65) ≤ v0.toInt) (h2 : v0.toInt ≤ 90) : f2_0 v0 = (1 : Int32) := by
  rw [show f2_0 v0 = f2_8 v0 from if_neg (fun h => absurd ((own_lt (x := v0) (y := (65 : Int32))).mp h) (show ¬ v0.toInt < (65) by omega))]
  rw [show f2_8 v0 = f2_16 v0 from if_neg (fun h => absurd ((own_lt (x := (983039 : Int32)) (y := v0)).mp h) (show ¬ (983039) < v0.toInt by omega))]
  rw [show f2_16 v0 = f2_24 v0 from if_pos ((own_lt (x := v0) (y := (65536 : Int32))).mpr (show v0.toInt < (65536) by omega))]
  rw [show f2_24 v0 = f2_30 v0 from if_neg (fun h => absurd ((own_lt (x := (90 : Int32)) (y := v0)).mp h) (show ¬ (90) < v0.toInt by omega))]
  rfl
theorem t2_2 (v0 : Int32) (h1 : (91) ≤ v0.toInt) (h2 : v0.toInt ≤ 94) : f2_0 v0 = (0 : Int32) := by
  rw [show f2_0 v0 = f2_8 v0 from if_neg (fun h => absurd ((own_lt (x := v0) (y := (65 : Int32))).mp h) (show ¬ v0.toInt < (65) by omega))]
  rw [show f2_8 v0 = f2_16 v0 from if_neg (fun h => absurd ((own_lt (x := (983039 : Int32)) (y := v0)).mp h) (show ¬ (983039) < v0.toInt by omega))]
  rw [show f2_16 v0 = f2_24 v0 from if_pos ((own_lt (x := v0) (y := (65536 : Int32))).mpr (show v0.toInt < (65536) by omega))]
  rw [show f2_24 v0 = f2_32 v0 from if_pos ((own_lt (x := (90 : Int32)) (y := v0)).mpr (show (90) < v0.toInt by omega))]
  rw [show f2_32 v0 = f2_38 v0 from if_pos ((own_lt (x := v0) (y := (97 : Int32))).mpr (show v0.toInt < (97) by omega))]
  rw [show f2_38 v0 = f2_48 v0 from if_neg (fun h => absurd ((own_eq (x := v0) (y := (95 : Int32))).mp h) (show ¬ v0.toInt = (95) by omega))]
  rfl
theorem t2_3 (v0 : Int32) (h1 : (95) ≤ v0.toInt) (h2 : v0.toInt ≤ 95) : f2_0 v0 = (1 : Int32) := by
  rw [show f2_0 v0 = f2_8 v0 from if_neg (fun h => absurd ((own_lt (x := v0) (y := (65 : Int32))).mp h) (show ¬ v0.toInt < (65) by omega))]
  rw [show f2_8 v0 = f2_16 v0 from if_neg (fun h => absurd ((own_lt (x := (983039 : Int32)) (y := v0)).mp h) (show ¬ (983039) < v0.toInt by omega))]
  rw [show f2_16 v0 = f2_24 v0 from if_pos ((own_lt (x := v0) (y := (65536 : Int32))).mpr (show v0.toInt < (65536) by omega))]
  rw [show f2_24 v0 = f2_32 v0 from if_pos ((own_lt (x := (90 : Int32)) (y := v0)).mpr (show (90) < v0.toInt by omega))]
  rw [show f2_32 v0 = f2_38 v0 from if_pos ((own_lt (x := v0) (y := (97 : Int32))).mpr (show v0.toInt < (97) by omega))]
  rw [show f2_38 v0 = f2_44 v0 from if_pos ((own_eq (x := v0) (y := (95 : Int32))).mpr (show v0.toInt = (95) by omega))]
  rfl
theorem t2_4 (v0 : Int32) (h1 : (96) ≤ v0.toInt) (h2 : v0.toInt ≤ 96) : f2_0 v0 = (0 : Int32) := by
  rw [show f2_0 v0 = f2_8 v0 from if_neg (fun h => absurd ((own_lt (x := v0) (y := (65 : Int32))).mp h) (show ¬ v0.toInt < (65) by omega))]
  rw [show f2_8 v0 = f2_16 v0 from if_neg (fun h => absurd ((own_lt (x := (983039 : Int32)) (y := v0)).mp h) (show ¬ (983039) < v0.toInt by omega))]
  rw [show f2_16 v0 = f2_24 v0 from if_pos ((own_lt (x := v0) (y := (65536 : Int32))).mpr (show v0.toInt < (65536) by omega))]
  rw [show f2_24 v0 = f2_32 v0 from if_pos ((own_lt (x := (90 : Int32)) (y := v0)).mpr (show (90) < v0.toInt by omega))]
  rw [show f2_32 v0 = f2_38 v0 from if_pos ((own_lt (x := v0) (y := (97 : Int32))).mpr (show v0.toInt < (97) by omega))]
  rw [show f2_38 v0 = f2_48 v0 from if_neg (fun h => absurd ((own_eq (x := v0) (y := (95 : Int32))).mp h) (show ¬ v0.toInt = (95) by omega))]
  rfl
theorem t2_5 (v0 : Int32) (h1 : (97) ≤ v0.toInt) (h2 : v0.toInt ≤ 122) : f2_0 v0 = (1 : Int32) := by
  rw [show f2_0 v0 = f2_8 v0 from if_neg (fun h => absurd ((own_lt (x := v0) (y := (65 : Int32))).mp h) (show ¬ v0.toInt < (65) by omega))]
  rw [show f2_8 v0 = f2_16 v0 from if_neg (fun h => absurd ((own_lt (x := (983039 : Int32)) (y := v0)).mp h) (show ¬ (983039) < v0.toInt by omega))]
  rw [show f2_16 v0 = f2_24 v0 from if_pos ((own_lt (x := v0) (y := (65536 : Int32))).mpr (show v0.toInt < (65536) by omega))]
  rw [show f2_24 v0 = f2_32 v0 from if_pos ((own_lt (x := (90 : Int32)) (y := v0)).mpr (show (90) < v0.toInt by omega))]
  rw [show f2_32 v0 = f2_50 v0 from if_neg (fun h => absurd ((own_lt (x := v0) (y := (97 : Int32))).mp h) (show ¬ v0.toInt < (97) by omega))]
  rw [show f2_50 v0 = f2_56 v0 from if_neg (fun h => absurd ((own_lt (x := (122 : Int32)) (y := v0)).mp h) (show ¬ (122) < v0.toInt by omega))]
  rfl
theorem t2_6 (v0 : Int32) (h1 : (123) ≤ v0.toInt) (h2 : v0.toInt ≤ 191) : f2_0 v0 = (0 : Int32) := by
  rw [show f2_0 v0 = f2_8 v0 from if_neg (fun h => absurd ((own_lt (x := v0) (y := (65 : Int32))).mp h) (show ¬ v0.toInt < (65) by omega))]
  rw [show f2_8 v0 = f2_16 v0 from if_neg (fun h => absurd ((own_lt (x := (983039 : Int32)) (y := v0)).mp h) (show ¬ (983039) < v0.toInt by omega))]
  rw [show f2_16 v0 = f2_24 v0 from if_pos ((own_lt (x := v0) (y := (65536 : Int32))).mpr (show v0.toInt < (65536) by omega))]
  rw [show f2_24 v0 = f2_32 v0 from if_pos ((own_lt (x := (90 : Int32)) (y := v0)).mpr (show (90) < v0.toInt by omega))]
  rw [show f2_32 v0 = f2_50 v0 from if_neg (fun h => absurd ((own_lt (x := v0) (y := (97 : Int32))).mp h) (show ¬ v0.toInt < (97) by omega))]
  rw [show f2_50 v0 = f2_58 v0 from if_pos ((own_lt (x := (122 : Int32)) (y := v0)).mpr (show (122) < v0.toInt by omega))]
  rw [show f2_58 v0 = f2_65 v0 from if_pos ((own_lt (x := v0) (y := (192 : Int32))).mpr (show v0.toInt < (192) by omega))]
  rfl
theorem t2_7 (v0 : Int32) (h1 : (192) ≤ v0.toInt) (h2 : v0.toInt ≤ 214) : f2_0 v0 = (1 : Int32) := by
  rw [show f2_0 v0 = f2_8 v0 from if_neg (fun h => absurd ((own_lt (x := v0) (y := (65 : Int32))).mp h) (show ¬ v0.toInt < (65) by omega))]
  rw [show f2_8 v0 = f2_16 v0 from if_neg (fun h => absurd ((own_lt (x := (983039 : Int32)) (y := v0)).mp h) (show ¬ (983039) < v0.toInt by omega))]
  rw [show f2_16 v0 = f2_24 v0 from if_pos ((own_lt (x := v0) (y := (65536 : Int32))).mpr (show v0.toInt < (65536) by omega))]
  rw [show f2_24 v0 = f2_32 v0 from if_pos ((own_lt (x := (90 : Int32)) (y := v0)).mpr (show (90) < v0.toInt by omega))]
  rw [show f2_32 v0 = f2_50 v0 from if_neg (fun h => absurd ((own_lt (x := v0) (y := (97 : Int32))).mp h) (show ¬ v0.toInt < (97) by omega))]
  rw [show f2_50 v0 = f2_58 v0 from if_pos ((own_lt (x := (122 : Int32)) (y := v0)).mpr (show (122) < v0.toInt by omega))]
  rw [show f2_58 v0 = f2_67 v0 from if_neg (fun h => absurd ((own_lt (x := v0) (y := (192 : Int32))).mp h) (show ¬ v0.toInt < (192) by omega))]
  rw [show f2_67 v0 = f2_74 v0 from if_pos ((own_lt (x := v0) (y := (768 : Int32))).mpr (show v0.toInt < (768) by omega))]
  rw [show f2_74 v0 = f2_81 v0 from if_neg (fun h => absurd ((own_eq (x := v0) (y := (215 : Int32))).mp h) (show ¬ v0.toInt = (215) by omega))]
  rw [show f2_81 v0 = f2_88 v0 from if_neg (fun h => absurd ((own_eq (x := v0) (y := (247 : Int32))).mp h) (show ¬ v0.toInt = (247) by omega))]
  rfl
theorem t2_8 (v0 : Int32) (h1 : (215) ≤ v0.toInt) (h2 : v0.toInt ≤ 215) : f2_0 v0 = (0 : Int32) := by
  rw [show f2_0 v0 = f2_8 v0 from if_neg (fun h => absurd ((own_lt (x := v0) (y := (65 : Int32))).mp h) (show ¬ v0.toInt < (65) by omega))]
  rw [show f2_8 v0 = f2_16 v0 from if_neg (fun h => absurd ((own_lt (x := (983039 : Int32)) (y := v0)).mp h) (show ¬ (983039) < v0.toInt by omega))]
  rw [show f2_16 v0 = f2_24 v0 from if_pos ((own_lt (x := v0) (y := (65536 : Int32))).mpr (show v0.toInt < (65536) by omega))]
  rw [show f2_24 v0 = f2_32 v0 from if_pos ((own_lt (x := (90 : Int32)) (y := v0)).mpr (show (90) < v0.toInt by omega))]
  rw [show f2_32 v0 = f2_50 v0 from if_neg (fun h => absurd ((own_lt (x := v0) (y := (97 : Int32))).mp h) (show ¬ v0.toInt < (97) by omega))]
  rw [show f2_50 v0 = f2_58 v0 from if_pos ((own_lt (x := (122 : Int32)) (y := v0)).mpr (show (122) < v0.toInt by omega))]
  rw [show f2_58 v0 = f2_67 v0 from if_neg (fun h => absurd ((own_lt (x := v0) (y := (192 : Int32))).mp h) (show ¬ v0.toInt < (192) by omega))]
  rw [show f2_67 v0 = f2_74 v0 from if_pos ((own_lt (x := v0) (y := (768 : Int32))).mpr (show v0.toInt < (768) by omega))]
  rw [show f2_74 v0 = f2_92 v0 from if_pos ((own_eq (x := v0) (y := (215 : Int32))).mpr (show v0.toInt = (215) by omega))]
  rfl
theorem t2_9 (v0 : Int32) (h1 : (216) ≤ v0.toInt) (h2 : v0.toInt ≤ 246) : f2_0 v0 = (1 : Int32) := by
  rw [show f2_0 v0 = f2_8 v0 from if_neg (fun h => absurd ((own_lt (x := v0) (y := (65 : Int32))).mp h) (show ¬ v0.toInt < (65) by omega))]
  rw [show f2_8 v0 = f2_16 v0 from if_neg (fun h => absurd ((own_lt (x := (983039 : Int32)) (y := v0)).mp h) (show ¬ (983039) < v0.toInt by omega))]
  rw [show f2_16 v0 = f2_24 v0 from if_pos ((own_lt (x := v0) (y := (65536 : Int32))).mpr (show v0.toInt < (65536) by omega))]
  rw [show f2_24 v0 = f2_32 v0 from if_pos ((own_lt (x := (90 : Int32)) (y := v0)).mpr (show (90) < v0.toInt by omega))]
  rw [show f2_32 v0 = f2_50 v0 from if_neg (fun h => absurd ((own_lt (x := v0) (y := (97 : Int32))).mp h) (show ¬ v0.toInt < (97) by omega))]
  rw [show f2_50 v0 = f2_58 v0 from if_pos ((own_lt (x := (122 : Int32)) (y := v0)).mpr (show (122) < v0.toInt by omega))]
  rw [show f2_58 v0 = f2_67 v0 from if_neg (fun h => absurd ((own_lt (x := v0) (y := (192 : Int32))).mp h) (show ¬ v0.toInt < (192) by omega))]
  rw [show f2_67 v0 = f2_74 v0 from if_pos ((own_lt (x := v0) (y := (768 : Int32))).mpr (show v0.toInt < (768) by omega))]
  rw [show f2_74 v0 = f2_81 v0 from if_neg (fun h => absurd ((own_eq (x := v0) (y := (215 : Int32))).mp h) (show ¬ v0.toInt = (215) by omega))]
  rw [show f2_81 v0 = f2_88 v0 from if_neg (fun h => absurd ((own_eq (x := v0) (y := (247 : Int32))).mp h) (show ¬ v0.toInt = (247) by omega))]
  rfl
theorem t2_10 (v0 : Int32) (h1 : (247) ≤ v0.toInt) (h2 : v0.toInt ≤ 247) : f2_0 v0 = (0 : Int32) := by
  rw [show f2_0 v0 = f2_8 v0 from if_neg (fun h => absurd ((own_lt (x := v0) (y := (65 : Int32))).mp h) (show ¬ v0.toInt < (65) by omega))]
  rw [show f2_8 v0 = f2_16 v0 from if_neg (fun h => absurd ((own_lt (x := (983039 : Int32)) (y := v0)).mp h) (show ¬ (983039) < v0.toInt by omega))]
  rw [show f2_16 v0 = f2_24 v0 from if_pos ((own_lt (x := v0) (y := (65536 : Int32))).mpr (show v0.toInt < (65536) by omega))]
  rw [show f2_24 v0 = f2_32 v0 from if_pos ((own_lt (x := (90 : Int32)) (y := v0)).mpr (show (90) < v0.toInt by omega))]
  rw [show f2_32 v0 = f2_50 v0 from if_neg (fun h => absurd ((own_lt (x := v0) (y := (97 : Int32))).mp h) (show ¬ v0.toInt < (97) by omega))]
  rw [show f2_50 v0 = f2_58 v0 from if_pos ((own_lt (x := (122 : Int32)) (y := v0)).mpr (show (122) < v0.toInt by omega))]
  rw [show f2_58 v0 = f2_67 v0 from if_neg (fun h => absurd ((own_lt (x := v0) (y := (192 : Int32))).mp h) (show ¬ v0.toInt < (192) by omega))]
  rw [show f2_67 v0 = f2_74 v0 from if_pos ((own_lt (x := v0) (y := (768 : Int32))).mpr (show v0.toInt < (768) by omega))]
  rw [show f2_74 v0 = f2_81 v0 from if_neg (fun h => absurd ((own_eq (x := v0) (y := (215 : Int32))).mp h) (show ¬ v0.toInt = (215) by omega))]
  rw [show f2_81 v0 = f2_92 v0 from if_pos ((own_eq (x := v0) (y := (247 : Int32))).mpr (show v0.toInt = (247) by omega))]
  rfl
theorem t2_11 (v0 : Int32) (h1 : (248) ≤ v0.toInt) (h2 : v0.toInt ≤ 767) : f2_0 v0 = (1 : Int32) := by
  rw [show f2_0 v0 = f2_8 v0 from if_neg (fun h => absurd ((own_lt (x := v0) (y := (65 : Int32))).mp h) (show ¬ v0.toInt < (65) by omega))]
  rw [show f2_8 v0 = f2_16 v0 from if_neg (fun h => absurd ((own_lt (x := (983039 : Int32)) (y := v0)).mp h) (show ¬ (983039) < v0.toInt by omega))]
  rw [show f2_16 v0 = f2_24 v0 from if_pos ((own_lt (x := v0) (y := (65536 : Int32))).mpr (show v0.toInt < (65536) by omega))]
  rw [show f2_24 v0 = f2_32 v0 from if_pos ((own_lt (x := (90 : Int32)) (y := v0)).mpr (show (90) < v0.toInt by omega))]
  rw [show f2_32 v0 = f2_50 v0 from if_neg (fun h => absurd ((own_lt (x := v0) (y := (97 : Int32))).mp h) (show ¬ v0.toInt < (97) by omega))]
  rw [show f2_50 v0 = f2_58 v0 from if_pos ((own_lt (x := (122 : Int32)) (y := v0)).mpr (show (122) < v0.toInt by omega))]
  rw [show f2_58 v0 = f2_67 v0 from if_neg (fun h => absurd ((own_lt (x := v0) (y := (192 : Int32))).mp h) (show ¬ v0.toInt < (192) by omega))]
  rw [show f2_67 v0 = f2_74 v0 from if_pos ((own_lt (x := v0) (y := (768 : Int32))).mpr (show v0.toInt < (768) by omega))]
  rw [show f2_74 v0 = f2_81 v0 from if_neg (fun h => absurd ((own_eq (x := v0) (y := (215 : Int32))).mp h) (show ¬ v0.toInt = (215) by omega))]
  rw [show f2_81 v0 = f2_88 v0 from if_neg (fun h => absurd ((own_eq (x := v0) (y := (247 : Int32))).mp h) (show ¬ v0.toInt = (247) by omega))]
  rfl
theorem t2_12 (v0 : Int32) (h1 : (768) ≤ v0.toInt) (h2 : v0.toInt ≤ 879) : f2_0 v0 = (0 : Int32) := by
  rw [show f2_0 v0 = f2_8 v0 from if_neg (fun h => absurd ((own_lt (x := v0) (y := (65 : Int32))).mp h) (show ¬ v0.toInt < (65) by omega))]
  rw [show f2_8 v0 = f2_16 v0 from if_neg (fun h => absurd ((own_lt (x := (983039 : Int32)) (y := v0)).mp h) (show ¬ (983039) < v0.toInt by omega))]
  rw [show f2_16 v0 = f2_24 v0 from if_pos ((own_lt (x := v0) (y := (65536 : Int32))).mpr (show v0.toInt < (65536) by omega))]
  rw [show f2_24 v0 = f2_32 v0 from if_pos ((own_lt (x := (90 : Int32)) (y := v0)).mpr (show (90) < v0.toInt by omega))]
  rw [show f2_32 v0 = f2_50 v0 from if_neg (fun h => absurd ((own_lt (x := v0) (y := (97 : Int32))).mp h) (show ¬ v0.toInt < (97) by omega))]
  rw [show f2_50 v0 = f2_58 v0 from if_pos ((own_lt (x := (122 : Int32)) (y := v0)).mpr (show (122) < v0.toInt by omega))]
  rw [show f2_58 v0 = f2_67 v0 from if_neg (fun h => absurd ((own_lt (x := v0) (y := (192 : Int32))).mp h) (show ¬ v0.toInt < (192) by omega))]
  rw [show f2_67 v0 = f2_94 v0 from if_neg (fun h => absurd ((own_lt (x := v0) (y := (768 : Int32))).mp h) (show ¬ v0.toInt < (768) by omega))]
  rw [show f2_94 v0 = f2_101 v0 from if_pos ((own_lt (x := v0) (y := (880 : Int32))).mpr (show v0.toInt < (880) by omega))]
  rfl
theorem t2_13 (v0 : Int32) (h1 : (880) ≤ v0.toInt) (h2 : v0.toInt ≤ 893) : f2_0 v0 = (1 : Int32) := by
  rw [show f2_0 v0 = f2_8 v0 from if_neg (fun h => absurd ((own_lt (x := v0) (y := (65 : Int32))).mp h) (show ¬ v0.toInt < (65) by omega))]
  rw [show f2_8 v0 = f2_16 v0 from if_neg (fun h => absurd ((own_lt (x := (983039 : Int32)) (y := v0)).mp h) (show ¬ (983039) < v0.toInt by omega))]
  rw [show f2_16 v0 = f2_24 v0 from if_pos ((own_lt (x := v0) (y := (65536 : Int32))).mpr (show v0.toInt < (65536) by omega))]
  rw [show f2_24 v0 = f2_32 v0 from if_pos ((own_lt (x := (90 : Int32)) (y := v0)).mpr (show (90) < v0.toInt by omega))]
  rw [show f2_32 v0 = f2_50 v0 from if_neg (fun h => absurd ((own_lt (x := v0) (y := (97 : Int32))).mp h) (show ¬ v0.toInt < (97) by omega))]
  rw [show f2_50 v0 = f2_58 v0 from if_pos ((own_lt (x := (122 : Int32)) (y := v0)).mpr (show (122) < v0.toInt by omega))]
  rw [show f2_58 v0 = f2_67 v0 from if_neg (fun h => absurd ((own_lt (x := v0) (y := (192 : Int32))).mp h) (show ¬ v0.toInt < (192) by omega))]
  rw [show f2_67 v0 = f2_94 v0 from if_neg (fun h => absurd ((own_lt (x := v0) (y := (768 : Int32))).mp h) (show ¬ v0.toInt < (768) by omega))]
  rw [show f2_94 v0 = f2_103 v0 from if_neg (fun h => absurd ((own_lt (x := v0) (y := (880 : Int32))).mp h) (show ¬ v0.toInt < (880) by omega))]
  rw [show f2_103 v0 = f2_110 v0 from if_pos ((own_lt (x := v0) (y := (8192 : Int32))).mpr (show v0.toInt < (8192) by omega))]
  rw [show f2_110 v0 = f2_117 v0 from if_neg (fun h => absurd ((own_eq (x := v0) (y := (894 : Int32))).mp h) (show ¬ v0.toInt = (894) by omega))]
  rfl
theorem t2_14 (v0 : Int32) (h1 : (894) ≤ v0.toInt) (h2 : v0.toInt ≤ 894) : f2_0 v0 = (0 : Int32) := by
  rw [show f2_0 v0 = f2_8 v0 from if_neg (fun h => absurd ((own_lt (x := v0) (y := (65 : Int32))).mp h) (show ¬ v0.toInt < (65) by omega))]
  rw [show f2_8 v0 = f2_16 v0 from if_neg (fun h => absurd ((own_lt (x := (983039 : Int32)) (y := v0)).mp h) (show ¬ (983039) < v0.toInt by omega))]
  rw [show f2_16 v0 = f2_24 v0 from if_pos ((own_lt (x := v0) (y := (65536 : Int32))).mpr (show v0.toInt < (65536) by omega))]
  rw [show f2_24 v0 = f2_32 v0 from if_pos ((own_lt (x := (90 : Int32)) (y := v0)).mpr (show (90) < v0.toInt by omega))]
  rw [show f2_32 v0 = f2_50 v0 from if_neg (fun h => absurd ((own_lt (x := v0) (y := (97 : Int32))).mp h) (show ¬ v0.toInt < (97) by omega))]
  rw [show f2_50 v0 = f2_58 v0 from if_pos ((own_lt (x := (122 : Int32)) (y := v0)).mpr (show (122) < v0.toInt by omega))]
  rw [show f2_58 v0 = f2_67 v0 from if_neg (fun h => absurd ((own_lt (x := v0) (y := (192 : Int32))).mp h) (show ¬ v0.toInt < (192) by omega))]
  rw [show f2_67 v0 = f2_94 v0 from if_neg (fun h => absurd ((own_lt (x := v0) (y := (768 : Int32))).mp h) (show ¬ v0.toInt < (768) by omega))]
  rw [show f2_94 v0 = f2_103 v0 from if_neg (fun h => absurd ((own_lt (x := v0) (y := (880 : Int32))).mp h) (show ¬ v0.toInt < (880) by omega))]
  rw [show f2_103 v0 = f2_110 v0 from if_pos ((own_lt (x := v0) (y := (8192 : Int32))).mpr (show v0.toInt < (8192) by omega))]
  rw [show f2_110 v0 = f2_121 v0 from if_pos ((own_eq (x := v0) (y := (894 : Int32))).mpr (show v0.toInt = (894) by omega))]
  rfl
theorem t2_15 (v0 : Int32) (h1 : (895) ≤ v0.toInt) (h2 : v0.toInt ≤ 8191) : f2_0 v0 = (1 : Int32) := by
  rw [show f2_0 v0 = f2_8 v0 from if_neg (fun h => absurd ((own_lt (x := v0) (y := (65 : Int32))).mp h) (show ¬ v0.toInt < (65) by omega))]
  rw [show f2_8 v0 = f2_16 v0 from if_neg (fun h => absurd ((own_lt (x := (983039 : Int32)) (y := v0)).mp h) (show ¬ (983039) < v0.toInt by omega))]
  rw [show f2_16 v0 = f2_24 v0 from if_pos ((own_lt (x := v0) (y := (65536 : Int32))).mpr (show v0.toInt < (65536) by omega))]
  rw [show f2_24 v0 = f2_32 v0 from if_pos ((own_lt (x := (90 : Int32)) (y := v0)).mpr (show (90) < v0.toInt by omega))]
  rw [show f2_32 v0 = f2_50 v0 from if_neg (fun h => absurd ((own_lt (x := v0) (y := (97 : Int32))).mp h) (show ¬ v0.toInt < (97) by omega))]
  rw [show f2_50 v0 = f2_58 v0 from if_pos ((own_lt (x := (122 : Int32)) (y := v0)).mpr (show (122) < v0.toInt by omega))]
  rw [show f2_58 v0 = f2_67 v0 from if_neg (fun h => absurd ((own_lt (x := v0) (y := (192 : Int32))).mp h) (show ¬ v0.toInt < (192) by omega))]
  rw [show f2_67 v0 = f2_94 v0 from if_neg (fun h => absurd ((own_lt (x := v0) (y := (768 : Int32))).mp h) (show ¬ v0.toInt < (768) by omega))]
  rw [show f2_94 v0 = f2_103 v0 from if_neg (fun h => absurd ((own_lt (x := v0) (y := (880 : Int32))).mp h) (show ¬ v0.toInt < (880) by omega))]
  rw [show f2_103 v0 = f2_110 v0 from if_pos ((own_lt (x := v0) (y := (8192 : Int32))).mpr (show v0.toInt < (8192) by omega))]
  rw [show f2_110 v0 = f2_117 v0 from if_neg (fun h => absurd ((own_eq (x := v0) (y := (894 : Int32))).mp h) (show ¬ v0.toInt = (894) by omega))]
  rfl
theorem t2_16 (v0 : Int32) (h1 : (8192) ≤ v0.toInt) (h2 : v0.toInt ≤ 8203) : f2_0 v0 = (0 : Int32) := by
  rw [show f2_0 v0 = f2_8 v0 from if_neg (fun h => absurd ((own_lt (x := v0) (y := (65 : Int32))).mp h) (show ¬ v0.toInt < (65) by omega))]
  rw [show f2_8 v0 = f2_16 v0 from if_neg (fun h => absurd ((own_lt (x := (983039 : Int32)) (y := v0)).mp h) (show ¬ (983039) < v0.toInt by omega))]
  rw [show f2_16 v0 = f2_24 v0 from if_pos ((own_lt (x := v0) (y := (65536 : Int32))).mpr (show v0.toInt < (65536) by omega))]
  rw [show f2_24 v0 = f2_32 v0 from if_pos ((own_lt (x := (90 : Int32)) (y := v0)).mpr (show (90) < v0.toInt by omega))]
  rw [show f2_32 v0 = f2_50 v0 from if_neg (fun h => absurd ((own_lt (x := v0) (y := (97 : Int32))).mp h) (show ¬ v0.toInt < (97) by omega))]
  rw [show f2_50 v0 = f2_58 v0 from if_pos ((own_lt (x := (122 : Int32)) (y := v0)).mpr (show (122) < v0.toInt by omega))]
  rw [show f2_58 v0 = f2_67 v0 from if_neg (fun h => absurd ((own_lt (x := v0) (y := (192 : Int32))).mp h) (show ¬ v0.toInt < (192) by omega))]
  rw [show f2_67 v0 = f2_94 v0 from if_neg (fun h => absurd ((own_lt (x := v0) (y := (768 : Int32))).mp h) (show ¬ v0.toInt < (768) by omega))]
  rw [show f2_94 v0 = f2_103 v0 from if_neg (fun h => absurd ((own_lt (x := v0) (y := (880 : Int32))).mp h) (show ¬ v0.toInt < (880) by omega))]
  rw [show f2_103 v0 = f2_123 v0 from if_neg (fun h => absurd ((own_lt (x := v0) (y := (8192 : Int32))).mp h) (show ¬ v0.toInt < (8192) by omega))]
  rw [show f2_123 v0 = f2_130 v0 from if_pos ((own_lt (x := v0) (y := (8304 : Int32))).mpr (show v0.toInt < (8304) by omega))]
  rw [show f2_130 v0 = f2_137 v0 from if_neg (fun h => absurd ((own_eq (x := v0) (y := (8204 : Int32))).mp h) (show ¬ v0.toInt = (8204) by omega))]
  rw [show f2_137 v0 = f2_148 v0 from if_neg (fun h => absurd ((own_eq (x := v0) (y := (8205 : Int32))).mp h) (show ¬ v0.toInt = (8205) by omega))]
  rfl
theorem t2_17 (v0 : Int32) (h1 : (8204) ≤ v0.toInt) (h2 : v0.toInt ≤ 8204) : f2_0 v0 = (1 : Int32) := by
  rw [show f2_0 v0 = f2_8 v0 from if_neg (fun h => absurd ((own_lt (x := v0) (y := (65 : Int32))).mp h) (show ¬ v0.toInt < (65) by omega))]
  rw [show f2_8 v0 = f2_16 v0 from if_neg (fun h => absurd ((own_lt (x := (983039 : Int32)) (y := v0)).mp h) (show ¬ (983039) < v0.toInt by omega))]
  rw [show f2_16 v0 = f2_24 v0 from if_pos ((own_lt (x := v0) (y := (65536 : Int32))).mpr (show v0.toInt < (65536) by omega))]
  rw [show f2_24 v0 = f2_32 v0 from if_pos ((own_lt (x := (90 : Int32)) (y := v0)).mpr (show (90) < v0.toInt by omega))]
  rw [show f2_32 v0 = f2_50 v0 from if_neg (fun h => absurd ((own_lt (x := v0) (y := (97 : Int32))).mp h) (show ¬ v0.toInt < (97) by omega))]
  rw [show f2_50 v0 = f2_58 v0 from if_pos ((own_lt (x := (122 : Int32)) (y := v0)).mpr (show (122) < v0.toInt by omega))]
  rw [show f2_58 v0 = f2_67 v0 from if_neg (fun h => absurd ((own_lt (x := v0) (y := (192 : Int32))).mp h) (show ¬ v0.toInt < (192) by omega))]
  rw [show f2_67 v0 = f2_94 v0 from if_neg (fun h => absurd ((own_lt (x := v0) (y := (768 : Int32))).mp h) (show ¬ v0.toInt < (768) by omega))]
  rw [show f2_94 v0 = f2_103 v0 from if_neg (fun h => absurd ((own_lt (x := v0) (y := (880 : Int32))).mp h) (show ¬ v0.toInt < (880) by omega))]
  rw [show f2_103 v0 = f2_123 v0 from if_neg (fun h => absurd ((own_lt (x := v0) (y := (8192 : Int32))).mp h) (show ¬ v0.toInt < (8192) by omega))]
  rw [show f2_123 v0 = f2_130 v0 from if_pos ((own_lt (x := v0) (y := (8304 : Int32))).mpr (show v0.toInt < (8304) by omega))]
  rw [show f2_130 v0 = f2_144 v0 from if_pos ((own_eq (x := v0) (y := (8204 : Int32))).mpr (show v0.toInt = (8204) by omega))]
  rfl
theorem t2_18 (v0 : Int32) (h1 : (8205) ≤ v0.toInt) (h2 : v0.toInt ≤ 8205) : f2_0 v0 = (1 : Int32) := by
  rw [show f2_0 v0 = f2_8 v0 from if_neg (fun h => absurd ((own_lt (x := v0) (y := (65 : Int32))).mp h) (show ¬ v0.toInt < (65) by omega))]
  rw [show f2_8 v0 = f2_16 v0 from if_neg (fun h => absurd ((own_lt (x := (983039 : Int32)) (y := v0)).mp h) (show ¬ (983039) < v0.toInt by omega))]
  rw [show f2_16 v0 = f2_24 v0 from if_pos ((own_lt (x := v0) (y := (65536 : Int32))).mpr (show v0.toInt < (65536) by omega))]
  rw [show f2_24 v0 = f2_32 v0 from if_pos ((own_lt (x := (90 : Int32)) (y := v0)).mpr (show (90) < v0.toInt by omega))]
  rw [show f2_32 v0 = f2_50 v0 from if_neg (fun h => absurd ((own_lt (x := v0) (y := (97 : Int32))).mp h) (show ¬ v0.toInt < (97) by omega))]
  rw [show f2_50 v0 = f2_58 v0 from if_pos ((own_lt (x := (122 : Int32)) (y := v0)).mpr (show (122) < v0.toInt by omega))]
  rw [show f2_58 v0 = f2_67 v0 from if_neg (fun h => absurd ((own_lt (x := v0) (y := (192 : Int32))).mp h) (show ¬ v0.toInt < (192) by omega))]
  rw [show f2_67 v0 = f2_94 v0 from if_neg (fun h => absurd ((own_lt (x := v0) (y := (768 : Int32))).mp h) (show ¬ v0.toInt < (768) by omega))]
  rw [show f2_94 v0 = f2_103 v0 from if_neg (fun h => absurd ((own_lt (x := v0) (y := (880 : Int32))).mp h) (show ¬ v0.toInt < (880) by omega))]
  rw [show f2_103 v0 = f2_123 v0 from if_neg (fun h => absurd ((own_lt (x := v0) (y := (8192 : Int32))).mp h) (show ¬ v0.toInt < (8192) by omega))]
  rw [show f2_123 v0 = f2_130 v0 from if_pos ((own_lt (x := v0) (y := (8304 : Int32))).mpr (show v0.toInt < (8304) by omega))]
  rw [show f2_130 v0 = f2_137 v0 from if_neg (fun h => absurd ((own_eq (x := v0) (y := (8204 : Int32))).mp h) (show ¬ v0.toInt = (8204) by omega))]
  rw [show f2_137 v0 = f2_144 v0 from if_pos ((own_eq (x := v0) (y := (8205 : Int32))).mpr (show v0.toInt = (8205) by omega))]
  rfl
theorem t2_19 (v0 : Int32) (h1 : (8206) ≤ v0.toInt) (h2 : v0.toInt ≤ 8303) : f2_0 v0 = (0 : Int32) := by
  rw [show f2_0 v0 = f2_8 v0 from if_neg (fun h => absurd ((own_lt (x := v0) (y := (65 : Int32))).mp h) (show ¬ v0.toInt < (65) by omega))]
  rw [show f2_8 v0 = f2_16 v0 from if_neg (fun h => absurd ((own_lt (x := (983039 : Int32)) (y := v0)).mp h) (show ¬ (983039) < v0.toInt by omega))]
  rw [show f2_16 v0 = f2_24 v0 from if_pos ((own_lt (x := v0) (y := (65536 : Int32))).mpr (show v0.toInt < (65536) by omega))]
  rw [show f2_24 v0 = f2_32 v0 from if_pos ((own_lt (x := (90 : Int32)) (y := v0)).mpr (show (90) < v0.toInt by omega))]
  rw [show f2_32 v0 = f2_50 v0 from if_neg (fun h => absurd ((own_lt (x := v0) (y := (97 : Int32))).mp h) (show ¬ v0.toInt < (97) by omega))]
  rw [show f2_50 v0 = f2_58 v0 from if_pos ((own_lt (x := (122 : Int32)) (y := v0)).mpr (show (122) < v0.toInt by omega))]
  rw [show f2_58 v0 = f2_67 v0 from if_neg (fun h => absurd ((own_lt (x := v0) (y := (192 : Int32))).mp h) (show ¬ v0.toInt < (192) by omega))]
  rw [show f2_67 v0 = f2_94 v0 from if_neg (fun h => absurd ((own_lt (x := v0) (y := (768 : Int32))).mp h) (show ¬ v0.toInt < (768) by omega))]
  rw [show f2_94 v0 = f2_103 v0 from if_neg (fun h => absurd ((own_lt (x := v0) (y := (880 : Int32))).mp h) (show ¬ v0.toInt < (880) by omega))]
  rw [show f2_103 v0 = f2_123 v0 from if_neg (fun h => absurd ((own_lt (x := v0) (y := (8192 : Int32))).mp h) (show ¬ v0.toInt < (8192) by omega))]
  rw [show f2_123 v0 = f2_130 v0 from if_pos ((own_lt (x := v0) (y := (8304 : Int32))).mpr (show v0.toInt < (8304) by omega))]
  rw [show f2_130 v0 = f2_137 v0 from if_neg (fun h => absurd ((own_eq (x := v0) (y := (8204 : Int32))).mp h) (show ¬ v0.toInt = (8204) by omega))]
  rw [show f2_137 v0 = f2_148 v0 from if_neg (fun h => absurd ((own_eq (x := v0) (y := (8205 : Int32))).mp h) (show ¬ v0.toInt = (8205) by omega))]
  rfl
theorem t2_20 (v0 : Int32) (h1 : (8304) ≤ v0.toInt) (h2 : v0.toInt ≤ 8591) : f2_0 v0 = (1 : Int32) := by
  rw [show f2_0 v0 = f2_8 v0 from if_neg (fun h => absurd ((own_lt (x := v0) (y := (65 : Int32))).mp h) (show ¬ v0.toInt < (65) by omega))]
  rw [show f2_8 v0 = f2_16 v0 from if_neg (fun h => absurd ((own_lt (x := (983039 : Int32)) (y := v0)).mp h) (show ¬ (983039) < v0.toInt by omega))]
  rw [show f2_16 v0 = f2_24 v0 from if_pos ((own_lt (x := v0) (y := (65536 : Int32))).mpr (show v0.toInt < (65536) by omega))]
  rw [show f2_24 v0 = f2_32 v0 from if_pos ((own_lt (x := (90 : Int32)) (y := v0)).mpr (show (90) < v0.toInt by omega))]
  rw [show f2_32 v0 = f2_50 v0 from if_neg (fun h => absurd ((own_lt (x := v0) (y := (97 : Int32))).mp h) (show ¬ v0.toInt < (97) by omega))]
  rw [show f2_50 v0 = f2_58 v0 from if_pos ((own_lt (x := (122 : Int32)) (y := v0)).mpr (show (122) < v0.toInt by omega))]
  rw [show f2_58 v0 = f2_67 v0 from if_neg (fun h => absurd ((own_lt (x := v0) (y := (192 : Int32))).mp h) (show ¬ v0.toInt < (192) by omega))]
  rw [show f2_67 v0 = f2_94 v0 from if_neg (fun h => absurd ((own_lt (x := v0) (y := (768 : Int32))).mp h) (show ¬ v0.toInt < (768) by omega))]
  rw [show f2_94 v0 = f2_103 v0 from if_neg (fun h => absurd ((own_lt (x := v0) (y := (880 : Int32))).mp h) (show ¬ v0.toInt < (880) by omega))]
  rw [show f2_103 v0 = f2_123 v0 from if_neg (fun h => absurd ((own_lt (x := v0) (y := (8192 : Int32))).mp h) (show ¬ v0.toInt < (8192) by omega))]
  rw [show f2_123 v0 = f2_150 v0 from if_neg (fun h => absurd ((own_lt (x := v0) (y := (8304 : Int32))).mp h) (show ¬ v0.toInt < (8304) by omega))]
  rw [show f2_150 v0 = f2_157 v0 from if_pos ((own_lt (x := v0) (y := (8592 : Int32))).mpr (show v0.toInt < (8592) by omega))]
  rfl
theorem t2_21 (v0 : Int32) (h1 : (8592) ≤ v0.toInt) (h2 : v0.toInt ≤ 11263) : f2_0 v0 = (0 : Int32) := by
  rw [show f2_0 v0 = f2_8 v0 from if_neg (fun h => absurd ((own_lt (x := v0) (y := (65 : Int32))).mp h) (show ¬ v0.toInt < (65) by omega))]
  rw [show f2_8 v0 = f2_16 v0 from if_neg (fun h => absurd ((own_lt (x := (983039 : Int32)) (y := v0)).mp h) (show ¬ (983039) < v0.toInt by omega))]
  rw [show f2_16 v0 = f2_24 v0 from if_pos ((own_lt (x := v0) (y := (65536 : Int32))).mpr (show v0.toInt < (65536) by omega))]
  rw [show f2_24 v0 = f2_32 v0 from if_pos ((own_lt (x := (90 : Int32)) (y := v0)).mpr (show (90) < v0.toInt by omega))]
  rw [show f2_32 v0 = f2_50 v0 from if_neg (fun h => absurd ((own_lt (x := v0) (y := (97 : Int32))).mp h) (show ¬ v0.toInt < (97) by omega))]
  rw [show f2_50 v0 = f2_58 v0 from if_pos ((own_lt (x := (122 : Int32)) (y := v0)).mpr (show (122) < v0.toInt by omega))]
  rw [show f2_58 v0 = f2_67 v0 from if_neg (fun h => absurd ((own_lt (x := v0) (y := (192 : Int32))).mp h) (show ¬ v0.toInt < (192) by omega))]
  rw [show f2_67 v0 = f2_94 v0 from if_neg (fun h => absurd ((own_lt (x := v0) (y := (768 : Int32))).mp h) (show ¬ v0.toInt < (768) by omega))]
  rw [show f2_94 v0 = f2_103 v0 from if_neg (fun h => absurd ((own_lt (x := v0) (y := (880 : Int32))).mp h) (show ¬ v0.toInt < (880) by omega))]
  rw [show f2_103 v0 = f2_123 v0 from if_neg (fun h => absurd ((own_lt (x := v0) (y := (8192 : Int32))).mp h) (show ¬ v0.toInt < (8192) by omega))]
  rw [show f2_123 v0 = f2_150 v0 from if_neg (fun h => absurd ((own_lt (x := v0) (y := (8304 : Int32))).mp h) (show ¬ v0.toInt < (8304) by omega))]
  rw [show f2_150 v0 = f2_159 v0 from if_neg (fun h => absurd ((own_lt (x := v0) (y := (8592 : Int32))).mp h) (show ¬ v0.toInt < (8592) by omega))]
  rw [show f2_159 v0 = f2_166 v0 from if_pos ((own_lt (x := v0) (y := (11264 : Int32))).mpr (show v0.toInt < (11264) by omega))]
  rfl
theorem t2_22 (v0 : Int32) (h1 : (11264) ≤ v0.toInt) (h2 : v0.toInt ≤ 12271) : f2_0 v0 = (1 : Int32) := by
  rw [show f2_0 v0 = f2_8 v0 from if_neg (fun h => absurd ((own_lt (x := v0) (y := (65 : Int32))).mp h) (show ¬ v0.toInt < (65) by omega))]
  rw [show f2_8 v0 = f2_16 v0 from if_neg (fun h => absurd ((own_lt (x := (983039 : Int32)) (y := v0)).mp h) (show ¬ (983039) < v0.toInt by omega))]
  rw [show f2_16 v0 = f2_24 v0 from if_pos ((own_lt (x := v0) (y := (65536 : Int32))).mpr (show v0.toInt < (65536) by omega))]
  rw [show f2_24 v0 = f2_32 v0 from if_pos ((own_lt (x := (90 : Int32)) (y := v0)).mpr (show (90) < v0.toInt by omega))]
  rw [show f2_32 v0 = f2_50 v0 from if_neg (fun h => absurd ((own_lt (x := v0) (y := (97 : Int32))).mp h) (show ¬ v0.toInt < (97) by omega))]
  rw [show f2_50 v0 = f2_58 v0 from if_pos ((own_lt (x := (122 : Int32)) (y := v0)).mpr (show (122) < v0.toInt by omega))]
  rw [show f2_58 v0 = f2_67 v0 from if_neg (fun h => absurd ((own_lt (x := v0) (y := (192 : Int32))).mp h) (show ¬ v0.toInt < (192) by omega))]
  rw [show f2_67 v0 = f2_94 v0 from if_neg (fun h => absurd ((own_lt (x := v0) (y := (768 : Int32))).mp h) (show ¬ v0.toInt < (768) by omega))]
  rw [show f2_94 v0 = f2_103 v0 from if_neg (fun h => absurd ((own_lt (x := v0) (y := (880 : Int32))).mp h) (show ¬ v0.toInt < (880) by omega))]
  rw [show f2_103 v0 = f2_123 v0 from if_neg (fun h => absurd ((own_lt (x := v0) (y := (8192 : Int32))).mp h) (show ¬ v0.toInt < (8192) by omega))]
  rw [show f2_123 v0 = f2_150 v0 from if_neg (fun h => absurd ((own_lt (x := v0) (y := (8304 : Int32))).mp h) (show ¬ v0.toInt < (8304) by omega))]
  rw [show f2_150 v0 = f2_159 v0 from if_neg (fun h => absurd ((own_lt (x := v0) (y := (8592 : Int32))).mp h) (show ¬ v0.toInt < (8592) by omega))]
  rw [show f2_159 v0 = f2_168 v0 from if_neg (fun h => absurd ((own_lt (x := v0) (y := (11264 : Int32))).mp h) (show ¬ v0.toInt < (11264) by omega))]
  rw [show f2_168 v0 = f2_175 v0 from if_pos ((own_lt (x := v0) (y := (12272 : Int32))).mpr (show v0.toInt < (12272) by omega))]
  rfl
theorem t2_23 (v0 : Int32) (h1 : (12272) ≤ v0.toInt) (h2 : v0.toInt ≤ 12288) : f2_0 v0 = (0 : Int32) := by
  rw [show f2_0 v0 = f2_8 v0 from if_neg (fun h => absurd ((own_lt (x := v0) (y := (65 : Int32))).mp h) (show ¬ v0.toInt < (65) by omega))]
  rw [show f2_8 v0 = f2_16 v0 from if_neg (fun h => absurd ((own_lt (x := (983039 : Int32)) (y := v0)).mp h) (show ¬ (983039) < v0.toInt by omega))]
  rw [show f2_16 v0 = f2_24 v0 from if_pos ((own_lt (x := v0) (y := (65536 : Int32))).mpr (show v0.toInt < (65536) by omega))]
  rw [show f2_24 v0 = f2_32 v0 from if_pos ((own_lt (x := (90 : Int32)) (y := v0)).mpr (show (90) < v0.toInt by omega))]
  rw [show f2_32 v0 = f2_50 v0 from if_neg (fun h => absurd ((own_lt (x := v0) (y := (97 : Int32))).mp h) (show ¬ v0.toInt < (97) by omega))]
  rw [show f2_50 v0 = f2_58 v0 from if_pos ((own_lt (x := (122 : Int32)) (y := v0)).mpr (show (122) < v0.toInt by omega))]
  rw [show f2_58 v0 = f2_67 v0 from if_neg (fun h => absurd ((own_lt (x := v0) (y := (192 : Int32))).mp h) (show ¬ v0.toInt < (192) by omega))]
  rw [show f2_67 v0 = f2_94 v0 from if_neg (fun h => absurd ((own_lt (x := v0) (y := (768 : Int32))).mp h) (show ¬ v0.toInt < (768) by omega))]
  rw [show f2_94 v0 = f2_103 v0 from if_neg (fun h => absurd ((own_lt (x := v0) (y := (880 : Int32))).mp h) (show ¬ v0.toInt < (880) by omega))]
  rw [show f2_103 v0 = f2_123 v0 from if_neg (fun h => absurd ((own_lt (x := v0) (y := (8192 : Int32))).mp h) (show ¬ v0.toInt < (8192) by omega))]
  rw [show f2_123 v0 = f2_150 v0 from if_neg (fun h => absurd ((own_lt (x := v0) (y := (8304 : Int32))).mp h) (show ¬ v0.toInt < (8304) by omega))]
  rw [show f2_150 v0 = f2_159 v0 from if_neg (fun h => absurd ((own_lt (x := v0) (y := (8592 : Int32))).mp h) (show ¬ v0.toInt < (8592) by omega))]
  rw [show f2_159 v0 = f2_168 v0 from if_neg (fun h => absurd ((own_lt (x := v0) (y := (11264 : Int32))).mp h) (show ¬ v0.toInt < (11264) by omega))]
  rw [show f2_168 v0 = f2_177 v0 from if_neg (fun h => absurd ((own_lt (x := v0) (y := (12272 : Int32))).mp h) (show ¬ v0.toInt < (12272) by omega))]
  rw [show f2_177 v0 = f2_184 v0 from if_neg (fun h => absurd ((own_lt (x := (12288 : Int32)) (y := v0)).mp h) (show ¬ (12288) < v0.toInt by omega))]
  rfl
theorem t2_24 (v0 : Int32) (h1 : (12289) ≤ v0.toInt) (h2 : v0.toInt ≤ 55295) : f2_0 v0 = (1 : Int32) := by
  rw [show f2_0 v0 = f2_8 v0 from if_neg (fun h => absurd ((own_lt (x := v0) (y := (65 : Int32))).mp h) (show ¬ v0.toInt < (65) by omega))]
  rw [show f2_8 v0 = f2_16 v0 from if_neg (fun h => absurd ((own_lt (x := (983039 : Int32)) (y := v0)).mp h) (show ¬ (983039) < v0.toInt by omega))]
  rw [show f2_16 v0 = f2_24 v0 from if_pos ((own_lt (x := v0) (y := (65536 : Int32))).mpr (show v0.toInt < (65536) by omega))]
  rw [show f2_24 v0 = f2_32 v0 from if_pos ((own_lt (x := (90 : Int32)) (y := v0)).mpr (show (90) < v0.toInt by omega))]
  rw [show f2_32 v0 = f2_50 v0 from if_neg (fun h => absurd ((own_lt (x := v0) (y := (97 : Int32))).mp h) (show ¬ v0.toInt < (97) by omega))]
  rw [show f2_50 v0 = f2_58 v0 from if_pos ((own_lt (x := (122 : Int32)) (y := v0)).mpr (show (122) < v0.toInt by omega))]
  rw [show f2_58 v0 = f2_67 v0 from if_neg (fun h => absurd ((own_lt (x := v0) (y := (192 : Int32))).mp h) (show ¬ v0.toInt < (192) by omega))]
  rw [show f2_67 v0 = f2_94 v0 from if_neg (fun h => absurd ((own_lt (x := v0) (y := (768 : Int32))).mp h) (show ¬ v0.toInt < (768) by omega))]
  rw [show f2_94 v0 = f2_103 v0 from if_neg (fun h => absurd ((own_lt (x := v0) (y := (880 : Int32))).mp h) (show ¬ v0.toInt < (880) by omega))]
  rw [show f2_103 v0 = f2_123 v0 from if_neg (fun h => absurd ((own_lt (x := v0) (y := (8192 : Int32))).mp h) (show ¬ v0.toInt < (8192) by omega))]
  rw [show f2_123 v0 = f2_150 v0 from if_neg (fun h => absurd ((own_lt (x := v0) (y := (8304 : Int32))).mp h) (show ¬ v0.toInt < (8304) by omega))]
  rw [show f2_150 v0 = f2_159 v0 from if_neg (fun h => absurd ((own_lt (x := v0) (y := (8592 : Int32))).mp h) (show ¬ v0.toInt < (8592) by omega))]
  rw [show f2_159 v0 = f2_168 v0 from if_neg (fun h => absurd ((own_lt (x := v0) (y := (11264 : Int32))).mp h) (show ¬ v0.toInt < (11264) by omega))]
  rw [show f2_168 v0 = f2_177 v0 from if_neg (fun h => absurd ((own_lt (x := v0) (y := (12272 : Int32))).mp h) (show ¬ v0.toInt < (12272) by omega))]
  rw [show f2_177 v0 = f2_186 v0 from if_pos ((own_lt (x := (12288 : Int32)) (y := v0)).mpr (show (12288) < v0.toInt by omega))]
  rw [show f2_186 v0 = f2_192 v0 from if_pos ((own_lt (x := v0) (y := (55296 : Int32))).mpr (show v0.toInt < (55296) by omega))]
  rfl
theorem t2_25 (v0 : Int32) (h1 : (55296) ≤ v0.toInt) (h2 : v0.toInt ≤ 63743) : f2_0 v0 = (0 : Int32) := by
  rw [show f2_0 v0 = f2_8 v0 from if_neg (fun h => absurd ((own_lt (x := v0) (y := (65 : Int32))).mp h) (show ¬ v0.toInt < (65) by omega))]
  rw [show f2_8 v0 = f2_16 v0 from if_neg (fun h => absurd ((own_lt (x := (983039 : Int32)) (y := v0)).mp h) (show ¬ (983039) < v0.toInt by omega))]
  rw [show f2_16 v0 = f2_24 v0 from if_pos ((own_lt (x := v0) (y := (65536 : Int32))).mpr (show v0.toInt < (65536) by omega))]
  rw [show f2_24 v0 = f2_32 v0 from if_pos ((own_lt (x := (90 : Int32)) (y := v0)).mpr (show (90) < v0.toInt by omega))]
  rw [show f2_32 v0 = f2_50 v0 from if_neg (fun h => absurd ((own_lt (x := v0) (y := (97 : Int32))).mp h) (show ¬ v0.toInt < (97) by omega))]
  rw [show f2_50 v0 = f2_58 v0 from if_pos ((own_lt (x := (122 : Int32)) (y := v0)).mpr (show (122) < v0.toInt by omega))]
  rw [show f2_58 v0 = f2_67 v0 from if_neg (fun h => absurd ((own_lt (x := v0) (y := (192 : Int32))).mp h) (show ¬ v0.toInt < (192) by omega))]
  rw [show f2_67 v0 = f2_94 v0 from if_neg (fun h => absurd ((own_lt (x := v0) (y := (768 : Int32))).mp h) (show ¬ v0.toInt < (768) by omega))]
  rw [show f2_94 v0 = f2_103 v0 from if_neg (fun h => absurd ((own_lt (x := v0) (y := (880 : Int32))).mp h) (show ¬ v0.toInt < (880) by omega))]
  rw [show f2_103 v0 = f2_123 v0 from if_neg (fun h => absurd ((own_lt (x := v0) (y := (8192 : Int32))).mp h) (show ¬ v0.toInt < (8192) by omega))]
  rw [show f2_123 v0 = f2_150 v0 from if_neg (fun h => absurd ((own_lt (x := v0) (y := (8304 : Int32))).mp h) (show ¬ v0.toInt < (8304) by omega))]
  rw [show f2_150 v0 = f2_159 v0 from if_neg (fun h => absurd ((own_lt (x := v0) (y := (8592 : Int32))).mp h) (show ¬ v0.toInt < (8592) by omega))]
  rw [show f2_159 v0 = f2_168 v0 from if_neg (fun h => absurd ((own_lt (x := v0) (y := (11264 : Int32))).mp h) (show ¬ v0.toInt < (11264) by omega))]
  rw [show f2_168 v0 = f2_177 v0 from if_neg (fun h => absurd ((own_lt (x := v0) (y := (12272 : Int32))).mp h) (show ¬ v0.toInt < (12272) by omega))]
  rw [show f2_177 v0 = f2_186 v0 from if_pos ((own_lt (x := (12288 : Int32)) (y := v0)).mpr (show (12288) < v0.toInt by omega))]
  rw [show f2_186 v0 = f2_194 v0 from if_neg (fun h => absurd ((own_lt (x := v0) (y := (55296 : Int32))).mp h) (show ¬ v0.toInt < (55296) by omega))]
  rw [show f2_194 v0 = f2_200 v0 from if_pos ((own_lt (x := v0) (y := (63744 : Int32))).mpr (show v0.toInt < (63744) by omega))]
  rfl
theorem t2_26 (v0 : Int32) (h1 : (63744) ≤ v0.toInt) (h2 : v0.toInt ≤ 64975) : f2_0 v0 = (1 : Int32) := by
  rw [show f2_0 v0 = f2_8 v0 from if_neg (fun h => absurd ((own_lt (x := v0) (y := (65 : Int32))).mp h) (show ¬ v0.toInt < (65) by omega))]
  rw [show f2_8 v0 = f2_16 v0 from if_neg (fun h => absurd ((own_lt (x := (983039 : Int32)) (y := v0)).mp h) (show ¬ (983039) < v0.toInt by omega))]
  rw [show f2_16 v0 = f2_24 v0 from if_pos ((own_lt (x := v0) (y := (65536 : Int32))).mpr (show v0.toInt < (65536) by omega))]
  rw [show f2_24 v0 = f2_32 v0 from if_pos ((own_lt (x := (90 : Int32)) (y := v0)).mpr (show (90) < v0.toInt by omega))]
  rw [show f2_32 v0 = f2_50 v0 from if_neg (fun h => absurd ((own_lt (x := v0) (y := (97 : Int32))).mp h) (show ¬ v0.toInt < (97) by omega))]
  rw [show f2_50 v0 = f2_58 v0 from if_pos ((own_lt (x := (122 : Int32)) (y := v0)).mpr (show (122) < v0.toInt by omega))]
  rw [show f2_58 v0 = f2_67 v0 from if_neg (fun h => absurd ((own_lt (x := v0) (y := (192 : Int32))).mp h) (show ¬ v0.toInt < (192) by omega))]
  rw [show f2_67 v0 = f2_94 v0 from if_neg (fun h => absurd ((own_lt (x := v0) (y := (768 : Int32))).mp h) (show ¬ v0.toInt < (768) by omega))]
  rw [show f2_94 v0 = f2_103 v0 from if_neg (fun h => absurd ((own_lt (x := v0) (y := (880 : Int32))).mp h) (show ¬ v0.toInt < (880) by omega))]
  rw [show f2_103 v0 = f2_123 v0 from if_neg (fun h => absurd ((own_lt (x := v0) (y := (8192 : Int32))).mp h) (show ¬ v0.toInt < (8192) by omega))]
  rw [show f2_123 v0 = f2_150 v0 from if_neg (fun h => absurd ((own_lt (x := v0) (y := (8304 : Int32))).mp h) (show ¬ v0.toInt < (8304) by omega))]
  rw [show f2_150 v0 = f2_159 v0 from if_neg (fun h => absurd ((own_lt (x := v0) (y := (8592 : Int32))).mp h) (show ¬ v0.toInt < (8592) by omega))]
  rw [show f2_159 v0 = f2_168 v0 from if_neg (fun h => absurd ((own_lt (x := v0) (y := (11264 : Int32))).mp h) (show ¬ v0.toInt < (11264) by omega))]
  rw [show f2_168 v0 = f2_177 v0 from if_neg (fun h => absurd ((own_lt (x := v0) (y := (12272 : Int32))).mp h) (show ¬ v0.toInt < (12272) by omega))]
  rw [show f2_177 v0 = f2_186 v0 from if_pos ((own_lt (x := (12288 : Int32)) (y := v0)).mpr (show (12288) < v0.toInt by omega))]
  rw [show f2_186 v0 = f2_194 v0 from if_neg (fun h => absurd ((own_lt (x := v0) (y := (55296 : Int32))).mp h) (show ¬ v0.toInt < (55296) by omega))]
  rw [show f2_194 v0 = f2_202 v0 from if_neg (fun h => absurd ((own_lt (x := v0) (y := (63744 : Int32))).mp h) (show ¬ v0.toInt < (63744) by omega))]
  rw [show f2_202 v0 = f2_208 v0 from if_pos ((own_lt (x := v0) (y := (64976 : Int32))).mpr (show v0.toInt < (64976) by omega))]
  rfl
theorem t2_27 (v0 : Int32) (h1 : (64976) ≤ v0.toInt) (h2 : v0.toInt ≤ 65007) : f2_0 v0 = (0 : Int32) := by
  rw [show f2_0 v0 = f2_8 v0 from if_neg (fun h => absurd ((own_lt (x := v0) (y := (65 : Int32))).mp h) (show ¬ v0.toInt < (65) by omega))]
  rw [show f2_8 v0 = f2_16 v0 from if_neg (fun h => absurd ((own_lt (x := (983039 : Int32)) (y := v0)).mp h) (show ¬ (983039) < v0.toInt by omega))]
  rw [show f2_16 v0 = f2_24 v0 from if_pos ((own_lt (x := v0) (y := (65536 : Int32))).mpr (show v0.toInt < (65536) by omega))]
  rw [show f2_24 v0 = f2_32 v0 from if_pos ((own_lt (x := (90 : Int32)) (y := v0)).mpr (show (90) < v0.toInt by omega))]
  rw [show f2_32 v0 = f2_50 v0 from if_neg (fun h => absurd ((own_lt (x := v0) (y := (97 : Int32))).mp h) (show ¬ v0.toInt < (97) by omega))]
  rw [show f2_50 v0 = f2_58 v0 from if_pos ((own_lt (x := (122 : Int32)) (y := v0)).mpr (show (122) < v0.toInt by omega))]
  rw [show f2_58 v0 = f2_67 v0 from if_neg (fun h => absurd ((own_lt (x := v0) (y := (192 : Int32))).mp h) (show ¬ v0.toInt < (192) by omega))]
  rw [show f2_67 v0 = f2_94 v0 from if_neg (fun h => absurd ((own_lt (x := v0) (y := (768 : Int32))).mp h) (show ¬ v0.toInt < (768) by omega))]
  rw [show f2_94 v0 = f2_103 v0 from if_neg (fun h => absurd ((own_lt (x := v0) (y := (880 : Int32))).mp h) (show ¬ v0.toInt < (880) by omega))]
  rw [show f2_103 v0 = f2_123 v0 from if_neg (fun h => absurd ((own_lt (x := v0) (y := (8192 : Int32))).mp h) (show ¬ v0.toInt < (8192) by omega))]
  rw [show f2_123 v0 = f2_150 v0 from if_neg (fun h => absurd ((own_lt (x := v0) (y := (8304 : Int32))).mp h) (show ¬ v0.toInt < (8304) by omega))]
  rw [show f2_150 v0 = f2_159 v0 from if_neg (fun h => absurd ((own_lt (x := v0) (y := (8592 : Int32))).mp h) (show ¬ v0.toInt < (8592) by omega))]
  rw [show f2_159 v0 = f2_168 v0 from if_neg (fun h => absurd ((own_lt (x := v0) (y := (11264 : Int32))).mp h) (show ¬ v0.toInt < (11264) by omega))]
  rw [show f2_168 v0 = f2_177 v0 from if_neg (fun h => absurd ((own_lt (x := v0) (y := (12272 : Int32))).mp h) (show ¬ v0.toInt < (12272) by omega))]
  rw [show f2_177 v0 = f2_186 v0 from if_pos ((own_lt (x := (12288 : Int32)) (y := v0)).mpr (show (12288) < v0.toInt by omega))]
  rw [show f2_186 v0 = f2_194 v0 from if_neg (fun h => absurd ((own_lt (x := v0) (y := (55296 : Int32))).mp h) (show ¬ v0.toInt < (55296) by omega))]
  rw [show f2_194 v0 = f2_202 v0 from if_neg (fun h => absurd ((own_lt (x := v0) (y := (63744 : Int32))).mp h) (show ¬ v0.toInt < (63744) by omega))]
  rw [show f2_202 v0 = f2_210 v0 from if_neg (fun h => absurd ((own_lt (x := v0) (y := (64976 : Int32))).mp h) (show ¬ v0.toInt < (64976) by omega))]
  rw [show f2_210 v0 = f2_216 v0 from if_pos ((own_lt (x := v0) (y := (65008 : Int32))).mpr (show v0.toInt < (65008) by omega))]
  rfl
theorem t2_28 (v0 : Int32) (h1 : (65008) ≤ v0.toInt) (h2 : v0.toInt ≤ 65533) : f2_0 v0 = (1 : Int32) := by
  rw [show f2_0 v0 = f2_8 v0 from if_neg (fun h => absurd ((own_lt (x := v0) (y := (65 : Int32))).mp h) (show ¬ v0.toInt < (65) by omega))]
  rw [show f2_8 v0 = f2_16 v0 from if_neg (fun h => absurd ((own_lt (x := (983039 : Int32)) (y := v0)).mp h) (show ¬ (983039) < v0.toInt by omega))]
  rw [show f2_16 v0 = f2_24 v0 from if_pos ((own_lt (x := v0) (y := (65536 : Int32))).mpr (show v0.toInt < (65536) by omega))]
  rw [show f2_24 v0 = f2_32 v0 from if_pos ((own_lt (x := (90 : Int32)) (y := v0)).mpr (show (90) < v0.toInt by omega))]
  rw [show f2_32 v0 = f2_50 v0 from if_neg (fun h => absurd ((own_lt (x := v0) (y := (97 : Int32))).mp h) (show ¬ v0.toInt < (97) by omega))]
  rw [show f2_50 v0 = f2_58 v0 from if_pos ((own_lt (x := (122 : Int32)) (y := v0)).mpr (show (122) < v0.toInt by omega))]
  rw [show f2_58 v0 = f2_67 v0 from if_neg (fun h => absurd ((own_lt (x := v0) (y := (192 : Int32))).mp h) (show ¬ v0.toInt < (192) by omega))]
  rw [show f2_67 v0 = f2_94 v0 from if_neg (fun h => absurd ((own_lt (x := v0) (y := (768 : Int32))).mp h) (show ¬ v0.toInt < (768) by omega))]
  rw [show f2_94 v0 = f2_103 v0 from if_neg (fun h => absurd ((own_lt (x := v0) (y := (880 : Int32))).mp h) (show ¬ v0.toInt < (880) by omega))]
  rw [show f2_103 v0 = f2_123 v0 from if_neg (fun h => absurd ((own_lt (x := v0) (y := (8192 : Int32))).mp h) (show ¬ v0.toInt < (8192) by omega))]
  rw [show f2_123 v0 = f2_150 v0 from if_neg (fun h => absurd ((own_lt (x := v0) (y := (8304 : Int32))).mp h) (show ¬ v0.toInt < (8304) by omega))]
  rw [show f2_150 v0 = f2_159 v0 from if_neg (fun h => absurd ((own_lt (x := v0) (y := (8592 : Int32))).mp h) (show ¬ v0.toInt < (8592) by omega))]
  rw [show f2_159 v0 = f2_168 v0 from if_neg (fun h => absurd ((own_lt (x := v0) (y := (11264 : Int32))).mp h) (show ¬ v0.toInt < (11264) by omega))]
  rw [show f2_168 v0 = f2_177 v0 from if_neg (fun h => absurd ((own_lt (x := v0) (y := (12272 : Int32))).mp h) (show ¬ v0.toInt < (12272) by omega))]
  rw [show f2_177 v0 = f2_186 v0 from if_pos ((own_lt (x := (12288 : Int32)) (y := v0)).mpr (show (12288) < v0.toInt by omega))]
  rw [show f2_186 v0 = f2_194 v0 from if_neg (fun h => absurd ((own_lt (x := v0) (y := (55296 : Int32))).mp h) (show ¬ v0.toInt < (55296) by omega))]
  rw [show f2_194 v0 = f2_202 v0 from if_neg (fun h => absurd ((own_lt (x := v0) (y := (63744 : Int32))).mp h) (show ¬ v0.toInt < (63744) by omega))]
  rw [show f2_202 v0 = f2_210 v0 from if_neg (fun h => absurd ((own_lt (x := v0) (y := (64976 : Int32))).mp h) (show ¬ v0.toInt < (64976) by omega))]
  rw [show f2_210 v0 = f2_218 v0 from if_neg (fun h => absurd ((own_lt (x := v0) (y := (65008 : Int32))).mp h) (show ¬ v0.toInt < (65008) by omega))]
  rw [show f2_218 v0 = f2_224 v0 from if_pos ((own_lt (x := v0) (y := (65534 : Int32))).mpr (show v0.toInt < (65534) by omega))]
  rfl
theorem t2_29 (v0 : Int32) (h1 : (65534) ≤ v0.toInt) (h2 : v0.toInt ≤ 65535) : f2_0 v0 = (0 : Int32) := by
  rw [show f2_0 v0 = f2_8 v0 from if_neg (fun h => absurd ((own_lt (x := v0) (y := (65 : Int32))).mp h) (show ¬ v0.toInt < (65) by omega))]
  rw [show f2_8 v0 = f2_16 v0 from if_neg (fun h => absurd ((own_lt (x := (983039 : Int32)) (y := v0)).mp h) (show ¬ (983039) < v0.toInt by omega))]
  rw [show f2_16 v0 = f2_24 v0 from if_pos ((own_lt (x := v0) (y := (65536 : Int32))).mpr (show v0.toInt < (65536) by omega))]
  rw [show f2_24 v0 = f2_32 v0 from if_pos ((own_lt (x := (90 : Int32)) (y := v0)).mpr (show (90) < v0.toInt by omega))]
  rw [show f2_32 v0 = f2_50 v0 from if_neg (fun h => absurd ((own_lt (x := v0) (y := (97 : Int32))).mp h) (show ¬ v0.toInt < (97) by omega))]
  rw [show f2_50 v0 = f2_58 v0 from if_pos ((own_lt (x := (122 : Int32)) (y := v0)).mpr (show (122) < v0.toInt by omega))]
  rw [show f2_58 v0 = f2_67 v0 from if_neg (fun h => absurd ((own_lt (x := v0) (y := (192 : Int32))).mp h) (show ¬ v0.toInt < (192) by omega))]
  rw [show f2_67 v0 = f2_94 v0 from if_neg (fun h => absurd ((own_lt (x := v0) (y := (768 : Int32))).mp h) (show ¬ v0.toInt < (768) by omega))]
  rw [show f2_94 v0 = f2_103 v0 from if_neg (fun h => absurd ((own_lt (x := v0) (y := (880 : Int32))).mp h) (show ¬ v0.toInt < (880) by omega))]
  rw [show f2_103 v0 = f2_123 v0 from if_neg (fun h => absurd ((own_lt (x := v0) (y := (8192 : Int32))).mp h) (show ¬ v0.toInt < (8192) by omega))]
  rw [show f2_123 v0 = f2_150 v0 from if_neg (fun h => absurd ((own_lt (x := v0) (y := (8304 : Int32))).mp h) (show ¬ v0.toInt < (8304) by omega))]
  rw [show f2_150 v0 = f2_159 v0 from if_neg (fun h => absurd ((own_lt (x := v0) (y := (8592 : Int32))).mp h) (show ¬ v0.toInt < (8592) by omega))]
  rw [show f2_159 v0 = f2_168 v0 from if_neg (fun h => absurd ((own_lt (x := v0) (y := (11264 : Int32))).mp h) (show ¬ v0.toInt < (11264) by omega))]
  rw [show f2_168 v0 = f2_177 v0 from if_neg (fun h => absurd ((own_lt (x := v0) (y := (12272 : Int32))).mp h) (show ¬ v0.toInt < (12272) by omega))]
  rw [show f2_177 v0 = f2_186 v0 from if_pos ((own_lt (x := (12288 : Int32)) (y := v0)).mpr (show (12288) < v0.toInt by omega))]
  rw [show f2_186 v0 = f2_194 v0 from if_neg (fun h => absurd ((own_lt (x := v0) (y := (55296 : Int32))).mp h) (show ¬ v0.toInt < (55296) by omega))]
  rw [show f2_194 v0 = f2_202 v0 from if_neg (fun h => absurd ((own_lt (x := v0) (y := (63744 : Int32))).mp h) (show ¬ v0.toInt < (63744) by omega))]
  rw [show f2_202 v0 = f2_210 v0 from if_neg (fun h => absurd ((own_lt (x := v0) (y := (64976 : Int32))).mp h) (show ¬ v0.toInt < (64976) by omega))]
  rw [show f2_210 v0 = f2_218 v0 from if_neg (fun h => absurd ((own_lt (x := v0) (y := (65008 : Int32))).mp h) (show ¬ v0.toInt < (65008) by omega))]
  rw [show f2_218 v0 = f2_228 v0 from if_neg (fun h => absurd ((own_lt (x := v0) (y := (65534 : Int32))).mp h) (show ¬ v0.toInt < (65534) by omega))]
  rfl
theorem t2_30 (v0 : Int32) (h1 : (65536) ≤ v0.toInt) (h2 : v0.toInt ≤ 983039) : f2_0 v0 = (1 : Int32) := by
  rw [show f2_0 v0 = f2_8 v0 from if_neg (fun h => absurd ((own_lt (x := v0) (y := (65 : Int32))).mp h) (show ¬ v0.toInt < (65) by omega))]
  rw [show f2_8 v0 = f2_16 v0 from if_neg (fun h => absurd ((own_lt (x := (983039 : Int32)) (y := v0)).mp h) (show ¬ (983039) < v0.toInt by omega))]
  rw [show f2_16 v0 = f2_22 v0 from if_neg (fun h => absurd ((own_lt (x := v0) (y := (65536 : Int32))).mp h) (show ¬ v0.toInt < (65536) by omega))]
  rfl
theorem t2_31 (v0 : Int32) (h1 : (983040) ≤ v0.toInt) (h2 : v0.toInt ≤ 2147483647) : f2_0 v0 = (0 : Int32) := by
  rw [show f2_0 v0 = f2_8 v0 from if_neg (fun h => absurd ((own_lt (x := v0) (y := (65 : Int32))).mp h) (show ¬ v0.toInt < (65) by omega))]
  rw [show f2_8 v0 = f2_14 v0 from if_pos ((own_lt (x := (983039 : Int32)) (y := v0)).mpr (show (983039) < v0.toInt by omega))]
  rfl
theorem own_law (v0 : Int32) : f1_0 v0 = f2_0 v0 := by
  have hlo := v0.le_toInt
  have hhi := v0.toInt_lt
  by_cases c0 : v0.toInt ≤ 64
  · exact (t1_0 v0 (by omega) c0).trans (t2_0 v0 (by omega) c0).symm
  by_cases c1 : v0.toInt ≤ 90
  · exact (t1_1 v0 (by omega) c1).trans (t2_1 v0 (by omega) c1).symm
  by_cases c2 : v0.toInt ≤ 94
  · exact (t1_2 v0 (by omega) c2).trans (t2_2 v0 (by omega) c2).symm
  by_cases c3 : v0.toInt ≤ 95
  · exact (t1_3 v0 (by omega) c3).trans (t2_3 v0 (by omega) c3).symm
  by_cases c4 : v0.toInt ≤ 96
  · exact (t1_4 v0 (by omega) c4).trans (t2_4 v0 (by omega) c4).symm
  by_cases c5 : v0.toInt ≤ 122
  · exact (t1_5 v0 (by omega) c5).trans (t2_5 v0 (by omega) c5).symm
  by_cases c6 : v0.toInt ≤ 191
  · exact (t1_6 v0 (by omega) c6).trans (t2_6 v0 (by omega) c6).symm
  by_cases c7 : v0.toInt ≤ 214
  · exact (t1_7 v0 (by omega) c7).trans (t2_7 v0 (by omega) c7).symm
  by_cases c8 : v0.toInt ≤ 215
  · exact (t1_8 v0 (by omega) c8).trans (t2_8 v0 (by omega) c8).symm
  by_cases c9 : v0.toInt ≤ 246
  · exact (t1_9 v0 (by omega) c9).trans (t2_9 v0 (by omega) c9).symm
  by_cases c10 : v0.toInt ≤ 247
  · exact (t1_10 v0 (by omega) c10).trans (t2_10 v0 (by omega) c10).symm
  by_cases c11 : v0.toInt ≤ 767
  · exact (t1_11 v0 (by omega) c11).trans (t2_11 v0 (by omega) c11).symm
  by_cases c12 : v0.toInt ≤ 879
  · exact (t1_12 v0 (by omega) c12).trans (t2_12 v0 (by omega) c12).symm
  by_cases c13 : v0.toInt ≤ 893
  · exact (t1_13 v0 (by omega) c13).trans (t2_13 v0 (by omega) c13).symm
  by_cases c14 : v0.toInt ≤ 894
  · exact (t1_14 v0 (by omega) c14).trans (t2_14 v0 (by omega) c14).symm
  by_cases c15 : v0.toInt ≤ 8191
  · exact (t1_15 v0 (by omega) c15).trans (t2_15 v0 (by omega) c15).symm
  by_cases c16 : v0.toInt ≤ 8203
  · exact (t1_16 v0 (by omega) c16).trans (t2_16 v0 (by omega) c16).symm
  by_cases c17 : v0.toInt ≤ 8204
  · exact (t1_17 v0 (by omega) c17).trans (t2_17 v0 (by omega) c17).symm
  by_cases c18 : v0.toInt ≤ 8205
  · exact (t1_18 v0 (by omega) c18).trans (t2_18 v0 (by omega) c18).symm
  by_cases c19 : v0.toInt ≤ 8303
  · exact (t1_19 v0 (by omega) c19).trans (t2_19 v0 (by omega) c19).symm
  by_cases c20 : v0.toInt ≤ 8591
  · exact (t1_20 v0 (by omega) c20).trans (t2_20 v0 (by omega) c20).symm
  by_cases c21 : v0.toInt ≤ 11263
  · exact (t1_21 v0 (by omega) c21).trans (t2_21 v0 (by omega) c21).symm
  by_cases c22 : v0.toInt ≤ 12271
  · exact (t1_22 v0 (by omega) c22).trans (t2_22 v0 (by omega) c22).symm
  by_cases c23 : v0.toInt ≤ 12288
  · exact (t1_23 v0 (by omega) c23).trans (t2_23 v0 (by omega) c23).symm
  by_cases c24 : v0.toInt ≤ 55295
  · exact (t1_24 v0 (by omega) c24).trans (t2_24 v0 (by omega) c24).symm
  by_cases c25 : v0.toInt ≤ 63743
  · exact (t1_25 v0 (by omega) c25).trans (t2_25 v0 (by omega) c25).symm
  by_cases c26 : v0.toInt ≤ 64975
  · exact (t1_26 v0 (by omega) c26).trans (t2_26 v0 (by omega) c26).symm
  by_cases c27 : v0.toInt ≤ 65007
  · exact (t1_27 v0 (by omega) c27).trans (t2_27 v0 (by omega) c27).symm
  by_cases c28 : v0.toInt ≤ 65533
  · exact (t1_28 v0 (by omega) c28).trans (t2_28 v0 (by omega) c28).symm
  by_cases c29 : v0.toInt ≤ 65535
  · exact (t1_29 v0 (by omega) c29).trans (t2_29 v0 (by omega) c29).symm
  by_cases c30 : v0.toInt ≤ 983039
  · exact (t1_30 v0 (by omega) c30).trans (t2_30 v0 (by omega) c30).symm
  exact (t1_31 v0 (by omega) (by omega)).trans (t2_31 v0 (by omega) (by omega)).symm
/-- an array of n ints, whatever they are -/
def own_Ar (Z : State) (h : Heap) (a : Addr) (n : Nat) : Prop := ∃ cl : Cell, Arr Z h a cl .int ∧ cl.slots.size = n ∧ ∀ j, j < n → ∃ y : Int32, cl.slots[j]? = some (.int y)
theorem own_Ar_new {Z : State} {h : Heap} {a : Addr} {k : ClassId} {n : Int32} (A : Arr Z h a (newA k .int n) .int) : own_Ar Z h a n.toNatClampNeg :=
  ⟨_, A, sz_new _ _ _, fun j hj => ⟨0, by simp [newA, hj, defaultValue]⟩⟩
section OwnArr
variable {p : Program} {l : Launch} {e : Env} {R : Room} {s : State} {m : MethodId} {args : Array Value} {below : List Frame} {meth : Method} {c : Code} {T : State} {locs : List Loc} {cells slots : Nat} {Z : State} {h : Heap}
theorem own_st (X : Stand p l e R s m args below meth c T locs cells slots) (hx : p.tables.exec = Jvm.exec) (hZ : Z.Warmed39 s.vm) (eT : T.heap = h) {a : Addr} {n n0 : Nat} (A : own_Ar Z h a n) (N : Fr n0 locs) (ha : n0 ≤ a) (Z0 : n0 ≤ h.size) {j x : Int32} (hj0 : ¬ j < 0) (hj : j.toNatClampNeg < n) {g : JFrame} (hg : g.method = m) {rest : List Value} (hs : g.stack = .int x :: .int j :: .ref a :: rest) (hd : decode c.code g.pc = .ok (.iastore, 1)) :
    ∃ T' h' locs', Stand p l e R s m args below meth c T' locs' cells slots ∧ T'.heap = h' ∧ own_Ar Z h' a n ∧ Fr n0 locs' ∧ n0 ≤ h'.size ∧ ∀ target, Steps p.tables e below (T'.setTop { g with pc := g.pc + 1, stack := rest }) target → Steps p.tables e below (T.setTop g) target := by
  obtain ⟨cl, A1, S, V⟩ := A
  obtain ⟨T', h', X', e', W, st⟩ := stI X hx hZ eT A1 (j := j) (x := x) (fun q => q.elim hj0 (fun q => by omega)) hg hs hd
  refine ⟨T', h', _, X', e', ⟨_, A1.same W, by rw [sz_set]; exact S, fun i hi => ?_⟩, Fr.snoc X' N ha, by rw [W.size]; exact Z0, st⟩
  by_cases u : j.toNatClampNeg = i
  · exact ⟨x, by subst u; simp [Cell.setSlot, S, hi]⟩
  · obtain ⟨y, hy⟩ := V i hi
    exact ⟨y, by simp only [Cell.setSlot]; rw [Array.getElem?_setIfInBounds_ne u]; exact hy⟩
theorem own_ld (X : Stand p l e R s m args below meth c T locs cells slots) (hx : p.tables.exec = Jvm.exec) (hZ : Z.Warmed39 s.vm) (eT : T.heap = h) {a : Addr} {n : Nat} (A : own_Ar Z h a n) {j : Int32} (hj0 : ¬ j < 0) (hj : j.toNatClampNeg < n) {g : JFrame} (hg : g.method = m) {rest : List Value} (hs : g.stack = .int j :: .ref a :: rest) (hd : decode c.code g.pc = .ok (.iaload, 1)) :
    ∃ y : Int32, ∀ target, Steps p.tables e below (T.setTop { g with pc := g.pc + 1, stack := .int y :: rest }) target → Steps p.tables e below (T.setTop g) target := by
  obtain ⟨cl, A1, S, V⟩ := A
  obtain ⟨y, hy⟩ := V _ hj
  exact ⟨y, fun target k => X.iaload hx (by rw [eT]; exact A1.1) (State.isArrayOf_alike hZ.alike A1.2.1) A1.2.2 (fun q => q.elim hj0 (fun q => by omega)) hy hg hs hd target k⟩
theorem own_len (X : Stand p l e R s m args below meth c T locs cells slots) (hx : p.tables.exec = Jvm.exec) (hZ : Z.Warmed39 s.vm) (eT : T.heap = h) {a : Addr} {n : Nat} (A : own_Ar Z h a n) {g : JFrame} (hg : g.method = m) {rest : List Value} (hs : g.stack = .ref a :: rest) (hd : decode c.code g.pc = .ok (.arraylength, 1)) :
    ∀ target, Steps p.tables e below (T.setTop { g with pc := g.pc + 1, stack := .int n.toInt32 :: rest }) target → Steps p.tables e below (T.setTop g) target := by
  obtain ⟨cl, A1, rfl, V⟩ := A
  intro target k
  exact X.arraylength hx (by rw [eT]; exact A1.1) (State.isArrayOf_alike hZ.alike A1.2.1) hg hs hd target k
end OwnArr
/-- (v & MAX) % d lies in 0 .. d - 1 -/
theorem own_rem (v y : Int32) (d : Int) (hy : y.toInt = d) (hd : 1 < d) : (v &&& (2147483647 : Int32)) - ((v &&& (2147483647 : Int32)) / y) * y = (v &&& (2147483647 : Int32)) - ((v &&& (2147483647 : Int32)) / y) * y ∧ 0 ≤ ((v &&& (2147483647 : Int32)) - ((v &&& (2147483647 : Int32)) / y) * y).toInt ∧ ((v &&& (2147483647 : Int32)) - ((v &&& (2147483647 : Int32)) / y) * y).toInt < d := by
  refine ⟨rfl, ?_⟩
  have h0 := (c_andS v 2147483647).2.2 (by decide)
  generalize (v &&& (2147483647 : Int32)) = x at *
  have h1 := (c_idiv x y d hy (fun q => by rw [q] at hy; have : (-1 : Int32).toInt = -1 := by decide
                                           omega)).1 h0
  have h2 := c_imul (x / y) y
  have h3 := c_isub x ((x / y) * y)
  rw [h1, hy] at h2
  have h4 := rng32 x
  have h5 := rng32 ((x / y) * y)
  have h6 := rng32 (x - (x / y) * y)
  have h7 : x.toInt / d * d = x.toInt - x.toInt % d := by have := Int.mul_ediv_add_emod x.toInt d; rw [Int.mul_comm] at this; omega
  have h8 := Int.emod_nonneg x.toInt (show d ≠ 0 by omega)
  have h9 := Int.emod_lt_of_pos x.toInt (show 0 < d by omega)
  have hA : 0 ≤ x.toInt / d * d := Int.mul_nonneg (Int.ediv_nonneg h0 (by omega)) (by omega)
  generalize x.toInt / d * d = B at *
  omega
theorem pn_0 : plainName "com/example/riddle/riddle/xdm/QNameIsNameStartPinLaw" = true := by first | (simp [plainName, overriddenIn]; done) | decide +kernel
theorem ef_0 (m : MethodId) (x0 : Int32) (x1 : Int32) (x2 : Int32) : entryFrame m #[(.int x0), (.int x1), (.int x2)] maxLocals = (mkF m 0 #[.val (.int x0), .val (.int x1), .val (.int x2), .unset, .unset] []) := by first | (simp [entryFrame, mkF, argsToLocals, Value.category, maxLocals]; done) | rfl
def Q0 (n0 : Nat) (v : Option Value) (L : List Loc) : Prop := v = some (.int (1 : Int32)) ∧ Fr n0 L
set_option maxRecDepth 65536 in
set_option maxHeartbeats 40000000 in
theorem rm0 (l : Launch) (Z : State) (a0 : Array Value) (hw : ∀ d ∈ tables_1, d.before a0 Z = true) (ws : List Jvm.Cond) (v0 : Int32) (v1 : Int32) (v2 : Int32) (h0 : Heap) (n0 : Nat) (Z0 : n0 ≤ h0.size) :
    MetFree l x (head1 (Jvm.Cond.code x code maxLocals ret :: ws) room_1) (fun a U => a = #[(.int v0), (.int v1), (.int v2)] ∧ Z.Warmed39 U.vm ∧ U.heap = h0) (fun _ _ _ _ _ => True) (fun _ U o U' => ∃ v L, o = .returned v ∧ Q0 n0 v L ∧ FrameEnd U o U' L room_1.cells room_1.slots) := by
  refine MetFree.of_bodySF (plainFor_of_name pn_0) hisR ?_
  intro p e s m args below meth c s₁ Bd hml0 hP hK
  obtain ⟨rfl, hZ, hh⟩ := hP
  have hx := Bd.exec
  have hby := Bd.bytes
  have hml : c.maxLocals = 5 := hml0
  have hown : s.vm.findClass "com/example/riddle/riddle/xdm/QNameIsNameStartPinLaw" = some m.cls := findClass_of_methodNamed Bd.named
  have X0 : Stand p l e room_1 s m #[(.int v0), (.int v1), (.int v2)] below meth c s₁ [] 0 0 := Stand.of_body Bd
  have e0 : s₁.heap = h0 := by rw [← hh, Bd.state]; rfl
  have N0 := Fr.nil n0
  have pre0 : ∀ t, Steps p.tables e below (s₁.setTop (mkF m 0 #[.val (.int v0), .val (.int v1), .val (.int v2), .unset, .unset] [])) t → Steps p.tables e below (s₁.setTop (entryFrame m #[(.int v0), (.int v1), (.int v2)] maxLocals)) t := fun t k => castTop (ef_0 m v0 v1 v2) k
  have sg1 : ∀ t, Steps p.tables e below (s₁.setTop (mkF m 2 #[.val (.int v0), .val (.int v1), .val (.int v2), .unset, .unset] [(.int (34 : Int32))])) t → Steps p.tables e below (s₁.setTop (mkF m 0 #[.val (.int v0), .val (.int v1), .val (.int v2), .unset, .unset] [])) t := by
    intro t k
    show Steps p.tables e below (s₁.setTop (mkF m 0 #[.val (.int v0), .val (.int v1), .val (.int v2), .unset, .unset] [])) _
    refine XS.bipush X0.here hx rfl (hb hby at_0) ?_
    show Steps p.tables e below (s₁.setTop (mkF m 2 #[.val (.int v0), .val (.int v1), .val (.int v2), .unset, .unset] [(.int (34 : Int32))])) _
    exact k
  obtain ⟨T2, h2, k2, X2, e2, E2, A2, st2⟩ := newP X0 hx hZ (hw _ (List.mem_of_getElem? (i := 0) rfl)) e0 (g := (mkF m 2 #[.val (.int v0), .val (.int v1), .val (.int v2), .unset, .unset] [(.int (34 : Int32))])) rfl (hb hby at_2) rfl (by decide : ¬ ((34 : Int32) < (0 : Int32))) (cap := 34) (by decide : (34 : Int32).toNatClampNeg ≤ 34) (by decide) (by decide) (by decide)
  obtain ⟨aa, ga⟩ : ∃ z, z = h0.size := ⟨_, rfl⟩
  rw [← ga] at A2 st2
  have V2 : own_Ar Z h2 aa 34 := own_Ar_new A2
  have Za2 : n0 ≤ h2.size := Nat.le_trans Z0 E2.1
  have ha : n0 ≤ aa := Nat.le_trans Z0 (Nat.le_of_eq ga.symm)
  have sg3 : ∀ t, Steps p.tables e below (T2.setTop (mkF m 7 #[.val (.int v0), .val (.int v1), .val (.int v2), .unset, .unset] [(.int (0 : Int32)), (.int (0 : Int32)), (.ref aa), (.ref aa)])) t → Steps p.tables e below (T2.setTop (mkF m 4 #[.val (.int v0), .val (.int v1), .val (.int v2), .unset, .unset] [(.ref aa)])) t := by
    intro t k
    show Steps p.tables e below (T2.setTop (mkF m 4 #[.val (.int v0), .val (.int v1), .val (.int v2), .unset, .unset] [(.ref aa)])) _
    refine XS.dup X2.here hx rfl (hb hby at_4) rfl rfl ?_
    show Steps p.tables e below (T2.setTop (mkF m 5 #[.val (.int v0), .val (.int v1), .val (.int v2), .unset, .unset] [(.ref aa), (.ref aa)])) _
    refine XS.iconst X2.here hx rfl (hb hby at_5) ?_
    show Steps p.tables e below (T2.setTop (mkF m 6 #[.val (.int v0), .val (.int v1), .val (.int v2), .unset, .unset] [(.int (0 : Int32)), (.ref aa), (.ref aa)])) _
    refine XS.iconst X2.here hx rfl (hb hby at_6) ?_
    show Steps p.tables e below (T2.setTop (mkF m 7 #[.val (.int v0), .val (.int v1), .val (.int v2), .unset, .unset] [(.int (0 : Int32)), (.int (0 : Int32)), (.ref aa), (.ref aa)])) _
    exact k
  obtain ⟨T4, h4, L4, X4, e4, V4, N4, Za4, st4⟩ := own_st X2 hx hZ e2 V2 N0 ha Za2 (j := (0 : Int32)) (x := (0 : Int32)) (by decide) (by decide) (g := (mkF m 7 #[.val (.int v0), .val (.int v1), .val (.int v2), .unset, .unset] [(.int (0 : Int32)), (.int (0 : Int32)), (.ref aa), (.ref aa)])) rfl rfl (hb hby at_7)
  have sg5 : ∀ t, Steps p.tables e below (T4.setTop (mkF m 12 #[.val (.int v0), .val (.int v1), .val (.int v2), .unset, .unset] [(.int (58 : Int32)), (.int (1 : Int32)), (.ref aa), (.ref aa)])) t → Steps p.tables e below (T4.setTop (mkF m 8 #[.val (.int v0), .val (.int v1), .val (.int v2), .unset, .unset] [(.ref aa)])) t := by
    intro t k
    show Steps p.tables e below (T4.setTop (mkF m 8 #[.val (.int v0), .val (.int v1), .val (.int v2), .unset, .unset] [(.ref aa)])) _
    refine XS.dup X4.here hx rfl (hb hby at_8) rfl rfl ?_
    show Steps p.tables e below (T4.setTop (mkF m 9 #[.val (.int v0), .val (.int v1), .val (.int v2), .unset, .unset] [(.ref aa), (.ref aa)])) _
    refine XS.iconst X4.here hx rfl (hb hby at_9) ?_
    show Steps p.tables e below (T4.setTop (mkF m 10 #[.val (.int v0), .val (.int v1), .val (.int v2), .unset, .unset] [(.int (1 : Int32)), (.ref aa), (.ref aa)])) _
    refine XS.bipush X4.here hx rfl (hb hby at_10) ?_
    show Steps p.tables e below (T4.setTop (mkF m 12 #[.val (.int v0), .val (.int v1), .val (.int v2), .unset, .unset] [(.int (58 : Int32)), (.int (1 : Int32)), (.ref aa), (.ref aa)])) _
    exact k
  obtain ⟨T6, h6, L6, X6, e6, V6, N6, Za6, st6⟩ := own_st X4 hx hZ e4 V4 N4 ha Za4 (j := (1 : Int32)) (x := (58 : Int32)) (by decide) (by decide) (g := (mkF m 12 #[.val (.int v0), .val (.int v1), .val (.int v2), .unset, .unset] [(.int (58 : Int32)), (.int (1 : Int32)), (.ref aa), (.ref aa)])) rfl rfl (hb hby at_12)
  have sg7 : ∀ t, Steps p.tables e below (T6.setTop (mkF m 17 #[.val (.int v0), .val (.int v1), .val (.int v2), .unset, .unset] [(.int (65 : Int32)), (.int (2 : Int32)), (.ref aa), (.ref aa)])) t → Steps p.tables e below (T6.setTop (mkF m 13 #[.val (.int v0), .val (.int v1), .val (.int v2), .unset, .unset] [(.ref aa)])) t := by
    intro t k
    show Steps p.tables e below (T6.setTop (mkF m 13 #[.val (.int v0), .val (.int v1), .val (.int v2), .unset, .unset] [(.ref aa)])) _
    refine XS.dup X6.here hx rfl (hb hby at_13) rfl rfl ?_
    show Steps p.tables e below (T6.setTop (mkF m 14 #[.val (.int v0), .val (.int v1), .val (.int v2), .unset, .unset] [(.ref aa), (.ref aa)])) _
    refine XS.iconst X6.here hx rfl (hb hby at_14) ?_
    show Steps p.tables e below (T6.setTop (mkF m 15 #[.val (.int v0), .val (.int v1), .val (.int v2), .unset, .unset] [(.int (2 : Int32)), (.ref aa), (.ref aa)])) _
    refine XS.bipush X6.here hx rfl (hb hby at_15) ?_
    show Steps p.tables e below (T6.setTop (mkF m 17 #[.val (.int v0), .val (.int v1), .val (.int v2), .unset, .unset] [(.int (65 : Int32)), (.int (2 : Int32)), (.ref aa), (.ref aa)])) _
    exact k
  obtain ⟨T8, h8, L8, X8, e8, V8, N8, Za8, st8⟩ := own_st X6 hx hZ e6 V6 N6 ha Za6 (j := (2 : Int32)) (x := (65 : Int32)) (by decide) (by decide) (g := (mkF m 17 #[.val (.int v0), .val (.int v1), .val (.int v2), .unset, .unset] [(.int (65 : Int32)), (.int (2 : Int32)), (.ref aa), (.ref aa)])) rfl rfl (hb hby at_17)
  have sg9 : ∀ t, Steps p.tables e below (T8.setTop (mkF m 22 #[.val (.int v0), .val (.int v1), .val (.int v2), .unset, .unset] [(.int (91 : Int32)), (.int (3 : Int32)), (.ref aa), (.ref aa)])) t → Steps p.tables e below (T8.setTop (mkF m 18 #[.val (.int v0), .val (.int v1), .val (.int v2), .unset, .unset] [(.ref aa)])) t := by
    intro t k
    show Steps p.tables e below (T8.setTop (mkF m 18 #[.val (.int v0), .val (.int v1), .val (.int v2), .unset, .unset] [(.ref aa)])) _
    refine XS.dup X8.here hx rfl (hb hby at_18) rfl rfl ?_
    show Steps p.tables e below (T8.setTop (mkF m 19 #[.val (.int v0), .val (.int v1), .val (.int v2), .unset, .unset] [(.ref aa), (.ref aa)])) _
    refine XS.iconst X8.here hx rfl (hb hby at_19) ?_
    show Steps p.tables e below (T8.setTop (mkF m 20 #[.val (.int v0), .val (.int v1), .val (.int v2), .unset, .unset] [(.int (3 : Int32)), (.ref aa), (.ref aa)])) _
    refine XS.bipush X8.here hx rfl (hb hby at_20) ?_
    show Steps p.tables e below (T8.setTop (mkF m 22 #[.val (.int v0), .val (.int v1), .val (.int v2), .unset, .unset] [(.int (91 : Int32)), (.int (3 : Int32)), (.ref aa), (.ref aa)])) _
    exact k
  obtain ⟨T10, h10, L10, X10, e10, V10, N10, Za10, st10⟩ := own_st X8 hx hZ e8 V8 N8 ha Za8 (j := (3 : Int32)) (x := (91 : Int32)) (by decide) (by decide) (g := (mkF m 22 #[.val (.int v0), .val (.int v1), .val (.int v2), .unset, .unset] [(.int (91 : Int32)), (.int (3 : Int32)), (.ref aa), (.ref aa)])) rfl rfl (hb hby at_22)
  have sg11 : ∀ t, Steps p.tables e below (T10.setTop (mkF m 27 #[.val (.int v0), .val (.int v1), .val (.int v2), .unset, .unset] [(.int (95 : Int32)), (.int (4 : Int32)), (.ref aa), (.ref aa)])) t → Steps p.tables e below (T10.setTop (mkF m 23 #[.val (.int v0), .val (.int v1), .val (.int v2), .unset, .unset] [(.ref aa)])) t := by
    intro t k
    show Steps p.tables e below (T10.setTop (mkF m 23 #[.val (.int v0), .val (.int v1), .val (.int v2), .unset, .unset] [(.ref aa)])) _
    refine XS.dup X10.here hx rfl (hb hby at_23) rfl rfl ?_
    show Steps p.tables e below (T10.setTop (mkF m 24 #[.val (.int v0), .val (.int v1), .val (.int v2), .unset, .unset] [(.ref aa), (.ref aa)])) _
    refine XS.iconst X10.here hx rfl (hb hby at_24) ?_
    show Steps p.tables e below (T10.setTop (mkF m 25 #[.val (.int v0), .val (.int v1), .val (.int v2), .unset, .unset] [(.int (4 : Int32)), (.ref aa), (.ref aa)])) _
    refine XS.bipush X10.here hx rfl (hb hby at_25) ?_
    show Steps p.tables e below (T10.setTop (mkF m 27 #[.val (.int v0), .val (.int v1), .val (.int v2), .unset, .unset] [(.int (95 : Int32)), (.int (4 : Int32)), (.ref aa), (.ref aa)])) _
    exact k
  obtain ⟨T12, h12, L12, X12, e12, V12, N12, Za12, st12⟩ := own_st X10 hx hZ e10 V10 N10 ha Za10 (j := (4 : Int32)) (x := (95 : Int32)) (by decide) (by decide) (g := (mkF m 27 #[.val (.int v0), .val (.int v1), .val (.int v2), .unset, .unset] [(.int (95 : Int32)), (.int (4 : Int32)), (.ref aa), (.ref aa)])) rfl rfl (hb hby at_27)
  have sg13 : ∀ t, Steps p.tables e below (T12.setTop (mkF m 32 #[.val (.int v0), .val (.int v1), .val (.int v2), .unset, .unset] [(.int (96 : Int32)), (.int (5 : Int32)), (.ref aa), (.ref aa)])) t → Steps p.tables e below (T12.setTop (mkF m 28 #[.val (.int v0), .val (.int v1), .val (.int v2), .unset, .unset] [(.ref aa)])) t := by
    intro t k
    show Steps p.tables e below (T12.setTop (mkF m 28 #[.val (.int v0), .val (.int v1), .val (.int v2), .unset, .unset] [(.ref aa)])) _
    refine XS.dup X12.here hx rfl (hb hby at_28) rfl rfl ?_
    show Steps p.tables e below (T12.setTop (mkF m 29 #[.val (.int v0), .val (.int v1), .val (.int v2), .unset, .unset] [(.ref aa), (.ref aa)])) _
    refine XS.iconst X12.here hx rfl (hb hby at_29) ?_
    show Steps p.tables e below (T12.setTop (mkF m 30 #[.val (.int v0), .val (.int v1), .val (.int v2), .unset, .unset] [(.int (5 : Int32)), (.ref aa), (.ref aa)])) _
    refine XS.bipush X12.here hx rfl (hb hby at_30) ?_
    show Steps p.tables e below (T12.setTop (mkF m 32 #[.val (.int v0), .val (.int v1), .val (.int v2), .unset, .unset] [(.int (96 : Int32)), (.int (5 : Int32)), (.ref aa), (.ref aa)])) _
    exact k
  obtain ⟨T14, h14, L14, X14, e14, V14, N14, Za14, st14⟩ := own_st X12 hx hZ e12 V12 N12 ha Za12 (j := (5 : Int32)) (x := (96 : Int32)) (by decide) (by decide) (g := (mkF m 32 #[.val (.int v0), .val (.int v1), .val (.int v2), .unset, .unset] [(.int (96 : Int32)), (.int (5 : Int32)), (.ref aa), (.ref aa)])) rfl rfl (hb hby at_32)
  have sg15 : ∀ t, Steps p.tables e below (T14.setTop (mkF m 38 #[.val (.int v0), .val (.int v1), .val (.int v2), .unset, .unset] [(.int (97 : Int32)), (.int (6 : Int32)), (.ref aa), (.ref aa)])) t → Steps p.tables e below (T14.setTop (mkF m 33 #[.val (.int v0), .val (.int v1), .val (.int v2), .unset, .unset] [(.ref aa)])) t := by
    intro t k
    show Steps p.tables e below (T14.setTop (mkF m 33 #[.val (.int v0), .val (.int v1), .val (.int v2), .unset, .unset] [(.ref aa)])) _
    refine XS.dup X14.here hx rfl (hb hby at_33) rfl rfl ?_
    show Steps p.tables e below (T14.setTop (mkF m 34 #[.val (.int v0), .val (.int v1), .val (.int v2), .unset, .unset] [(.ref aa), (.ref aa)])) _
    refine XS.bipush X14.here hx rfl (hb hby at_34) ?_
    show Steps p.tables e below (T14.setTop (mkF m 36 #[.val (.int v0), .val (.int v1), .val (.int v2), .unset, .unset] [(.int (6 : Int32)), (.ref aa), (.ref aa)])) _
    refine XS.bipush X14.here hx rfl (hb hby at_36) ?_
    show Steps p.tables e below (T14.setTop (mkF m 38 #[.val (.int v0), .val (.int v1), .val (.int v2), .unset, .unset] [(.int (97 : Int32)), (.int (6 : Int32)), (.ref aa), (.ref aa)])) _
    exact k
  obtain ⟨T16, h16, L16, X16, e16, V16, N16, Za16, st16⟩ := own_st X14 hx hZ e14 V14 N14 ha Za14 (j := (6 : Int32)) (x := (97 : Int32)) (by decide) (by decide) (g := (mkF m 38 #[.val (.int v0), .val (.int v1), .val (.int v2), .unset, .unset] [(.int (97 : Int32)), (.int (6 : Int32)), (.ref aa), (.ref aa)])) rfl rfl (hb hby at_38)
  have sg17 : ∀ t, Steps p.tables e below (T16.setTop (mkF m 44 #[.val (.int v0), .val (.int v1), .val (.int v2), .unset, .unset] [(.int (123 : Int32)), (.int (7 : Int32)), (.ref aa), (.ref aa)])) t → Steps p.tables e below (T16.setTop (mkF m 39 #[.val (.int v0), .val (.int v1), .val (.int v2), .unset, .unset] [(.ref aa)])) t := by
    intro t k
    show Steps p.tables e below (T16.setTop (mkF m 39 #[.val (.int v0), .val (.int v1), .val (.int v2), .unset, .unset] [(.ref aa)])) _
    refine XS.dup X16.here hx rfl (hb hby at_39) rfl rfl ?_
    show Steps p.tables e below (T16.setTop (mkF m 40 #[.val (.int v0), .val (.int v1), .val (.int v2), .unset, .unset] [(.ref aa), (.ref aa)])) _
    refine XS.bipush X16.here hx rfl (hb hby at_40) ?_
    show Steps p.tables e below (T16.setTop (mkF m 42 #[.val (.int v0), .val (.int v1), .val (.int v2), .unset, .unset] [(.int (7 : Int32)), (.ref aa), (.ref aa)])) _
    refine XS.bipush X16.here hx rfl (hb hby at_42) ?_
    show Steps p.tables e below (T16.setTop (mkF m 44 #[.val (.int v0), .val (.int v1), .val (.int v2), .unset, .unset] [(.int (123 : Int32)), (.int (7 : Int32)), (.ref aa), (.ref aa)])) _
    exact k
  obtain ⟨T18, h18, L18, X18, e18, V18, N18, Za18, st18⟩ := own_st X16 hx hZ e16 V16 N16 ha Za16 (j := (7 : Int32)) (x := (123 : Int32)) (by decide) (by decide) (g := (mkF m 44 #[.val (.int v0), .val (.int v1), .val (.int v2), .unset, .unset] [(.int (123 : Int32)), (.int (7 : Int32)), (.ref aa), (.ref aa)])) rfl rfl (hb hby at_44)
  have sg19 : ∀ t, Steps p.tables e below (T18.setTop (mkF m 51 #[.val (.int v0), .val (.int v1), .val (.int v2), .unset, .unset] [(.int (192 : Int32)), (.int (8 : Int32)), (.ref aa), (.ref aa)])) t → Steps p.tables e below (T18.setTop (mkF m 45 #[.val (.int v0), .val (.int v1), .val (.int v2), .unset, .unset] [(.ref aa)])) t := by
    intro t k
    show Steps p.tables e below (T18.setTop (mkF m 45 #[.val (.int v0), .val (.int v1), .val (.int v2), .unset, .unset] [(.ref aa)])) _
    refine XS.dup X18.here hx rfl (hb hby at_45) rfl rfl ?_
    show Steps p.tables e below (T18.setTop (mkF m 46 #[.val (.int v0), .val (.int v1), .val (.int v2), .unset, .unset] [(.ref aa), (.ref aa)])) _
    refine XS.bipush X18.here hx rfl (hb hby at_46) ?_
    show Steps p.tables e below (T18.setTop (mkF m 48 #[.val (.int v0), .val (.int v1), .val (.int v2), .unset, .unset] [(.int (8 : Int32)), (.ref aa), (.ref aa)])) _
    refine XS.sipush X18.here hx rfl (hb hby at_48) ?_
    show Steps p.tables e below (T18.setTop (mkF m 51 #[.val (.int v0), .val (.int v1), .val (.int v2), .unset, .unset] [(.int (192 : Int32)), (.int (8 : Int32)), (.ref aa), (.ref aa)])) _
    exact k
  obtain ⟨T20, h20, L20, X20, e20, V20, N20, Za20, st20⟩ := own_st X18 hx hZ e18 V18 N18 ha Za18 (j := (8 : Int32)) (x := (192 : Int32)) (by decide) (by decide) (g := (mkF m 51 #[.val (.int v0), .val (.int v1), .val (.int v2), .unset, .unset] [(.int (192 : Int32)), (.int (8 : Int32)), (.ref aa), (.ref aa)])) rfl rfl (hb hby at_51)
  have sg21 : ∀ t, Steps p.tables e below (T20.setTop (mkF m 58 #[.val (.int v0), .val (.int v1), .val (.int v2), .unset, .unset] [(.int (215 : Int32)), (.int (9 : Int32)), (.ref aa), (.ref aa)])) t → Steps p.tables e below (T20.setTop (mkF m 52 #[.val (.int v0), .val (.int v1), .val (.int v2), .unset, .unset] [(.ref aa)])) t := by
    intro t k
    show Steps p.tables e below (T20.setTop (mkF m 52 #[.val (.int v0), .val (.int v1), .val (.int v2), .unset, .unset] [(.ref aa)])) _
    refine XS.dup X20.here hx rfl (hb hby at_52) rfl rfl ?_
    show Steps p.tables e below (T20.setTop (mkF m 53 #[.val (.int v0), .val (.int v1), .val (.int v2), .unset, .unset] [(.ref aa), (.ref aa)])) _
    refine XS.bipush X20.here hx rfl (hb hby at_53) ?_
    show Steps p.tables e below (T20.setTop (mkF m 55 #[.val (.int v0), .val (.int v1), .val (.int v2), .unset, .unset] [(.int (9 : Int32)), (.ref aa), (.ref aa)])) _
    refine XS.sipush X20.here hx rfl (hb hby at_55) ?_
    show Steps p.tables e below (T20.setTop (mkF m 58 #[.val (.int v0), .val (.int v1), .val (.int v2), .unset, .unset] [(.int (215 : Int32)), (.int (9 : Int32)), (.ref aa), (.ref aa)])) _
    exact k
  obtain ⟨T22, h22, L22, X22, e22, V22, N22, Za22, st22⟩ := own_st X20 hx hZ e20 V20 N20 ha Za20 (j := (9 : Int32)) (x := (215 : Int32)) (by decide) (by decide) (g := (mkF m 58 #[.val (.int v0), .val (.int v1), .val (.int v2), .unset, .unset] [(.int (215 : Int32)), (.int (9 : Int32)), (.ref aa), (.ref aa)])) rfl rfl (hb hby at_58)
  have sg23 : ∀ t, Steps p.tables e below (T22.setTop (mkF m 65 #[.val (.int v0), .val (.int v1), .val (.int v2), .unset, .unset] [(.int (216 : Int32)), (.int (10 : Int32)), (.ref aa), (.ref aa)])) t → Steps p.tables e below (T22.setTop (mkF m 59 #[.val (.int v0), .val (.int v1), .val (.int v2), .unset, .unset] [(.ref aa)])) t := by
    intro t k
    show Steps p.tables e below (T22.setTop (mkF m 59 #[.val (.int v0), .val (.int v1), .val (.int v2), .unset, .unset] [(.ref aa)])) _
    refine XS.dup X22.here hx rfl (hb hby at_59) rfl rfl ?_
    show Steps p.tables e below (T22.setTop (mkF m 60 #[.val (.int v0), .val (.int v1), .val (.int v2), .unset, .unset] [(.ref aa), (.ref aa)])) _
    refine XS.bipush X22.here hx rfl (hb hby at_60) ?_
    show Steps p.tables e below (T22.setTop (mkF m 62 #[.val (.int v0), .val (.int v1), .val (.int v2), .unset, .unset] [(.int (10 : Int32)), (.ref aa), (.ref aa)])) _
    refine XS.sipush X22.here hx rfl (hb hby at_62) ?_
    show Steps p.tables e below (T22.setTop (mkF m 65 #[.val (.int v0), .val (.int v1), .val (.int v2), .unset, .unset] [(.int (216 : Int32)), (.int (10 : Int32)), (.ref aa), (.ref aa)])) _
    exact k
  obtain ⟨T24, h24, L24, X24, e24, V24, N24, Za24, st24⟩ := own_st X22 hx hZ e22 V22 N22 ha Za22 (j := (10 : Int32)) (x := (216 : Int32)) (by decide) (by decide) (g := (mkF m 65 #[.val (.int v0), .val (.int v1), .val (.int v2), .unset, .unset] [(.int (216 : Int32)), (.int (10 : Int32)), (.ref aa), (.ref aa)])) rfl rfl (hb hby at_65)
  have sg25 : ∀ t, Steps p.tables e below (T24.setTop (mkF m 72 #[.val (.int v0), .val (.int v1), .val (.int v2), .unset, .unset] [(.int (247 : Int32)), (.int (11 : Int32)), (.ref aa), (.ref aa)])) t → Steps p.tables e below (T24.setTop (mkF m 66 #[.val (.int v0), .val (.int v1), .val (.int v2), .unset, .unset] [(.ref aa)])) t := by
    intro t k
    show Steps p.tables e below (T24.setTop (mkF m 66 #[.val (.int v0), .val (.int v1), .val (.int v2), .unset, .unset] [(.ref aa)])) _
    refine XS.dup X24.here hx rfl (hb hby at_66) rfl rfl ?_
    show Steps p.tables e below (T24.setTop (mkF m 67 #[.val (.int v0), .val (.int v1), .val (.int v2), .unset, .unset] [(.ref aa), (.ref aa)])) _
    refine XS.bipush X24.here hx rfl (hb hby at_67) ?_
    show Steps p.tables e below (T24.setTop (mkF m 69 #[.val (.int v0), .val (.int v1), .val (.int v2), .unset, .unset] [(.int (11 : Int32)), (.ref aa), (.ref aa)])) _
    refine XS.sipush X24.here hx rfl (hb hby at_69) ?_
    show Steps p.tables e below (T24.setTop (mkF m 72 #[.val (.int v0), .val (.int v1), .val (.int v2), .unset, .unset] [(.int (247 : Int32)), (.int (11 : Int32)), (.ref aa), (.ref aa)])) _
    exact k
  obtain ⟨T26, h26, L26, X26, e26, V26, N26, Za26, st26⟩ := own_st X24 hx hZ e24 V24 N24 ha Za24 (j := (11 : Int32)) (x := (247 : Int32)) (by decide) (by decide) (g := (mkF m 72 #[.val (.int v0), .val (.int v1), .val (.int v2), .unset, .unset] [(.int (247 : Int32)), (.int (11 : Int32)), (.ref aa), (.ref aa)])) rfl rfl (hb hby at_72)
  have sg27 : ∀ t, Steps p.tables e below (T26.setTop (mkF m 79 #[.val (.int v0), .val (.int v1), .val (.int v2), .unset, .unset] [(.int (248 : Int32)), (.int (12 : Int32)), (.ref aa), (.ref aa)])) t → Steps p.tables e below (T26.setTop (mkF m 73 #[.val (.int v0), .val (.int v1), .val (.int v2), .unset, .unset] [(.ref aa)])) t := by
    intro t k
    show Steps p.tables e below (T26.setTop (mkF m 73 #[.val (.int v0), .val (.int v1), .val (.int v2), .unset, .unset] [(.ref aa)])) _
    refine XS.dup X26.here hx rfl (hb hby at_73) rfl rfl ?_
    show Steps p.tables e below (T26.setTop (mkF m 74 #[.val (.int v0), .val (.int v1), .val (.int v2), .unset, .unset] [(.ref aa), (.ref aa)])) _
    refine XS.bipush X26.here hx rfl (hb hby at_74) ?_
    show Steps p.tables e below (T26.setTop (mkF m 76 #[.val (.int v0), .val (.int v1), .val (.int v2), .unset, .unset] [(.int (12 : Int32)), (.ref aa), (.ref aa)])) _
    refine XS.sipush X26.here hx rfl (hb hby at_76) ?_
    show Steps p.tables e below (T26.setTop (mkF m 79 #[.val (.int v0), .val (.int v1), .val (.int v2), .unset, .unset] [(.int (248 : Int32)), (.int (12 : Int32)), (.ref aa), (.ref aa)])) _
    exact k
  obtain ⟨T28, h28, L28, X28, e28, V28, N28, Za28, st28⟩ := own_st X26 hx hZ e26 V26 N26 ha Za26 (j := (12 : Int32)) (x := (248 : Int32)) (by decide) (by decide) (g := (mkF m 79 #[.val (.int v0), .val (.int v1), .val (.int v2), .unset, .unset] [(.int (248 : Int32)), (.int (12 : Int32)), (.ref aa), (.ref aa)])) rfl rfl (hb hby at_79)
  have sg29 : ∀ t, Steps p.tables e below (T28.setTop (mkF m 86 #[.val (.int v0), .val (.int v1), .val (.int v2), .unset, .unset] [(.int (768 : Int32)), (.int (13 : Int32)), (.ref aa), (.ref aa)])) t → Steps p.tables e below (T28.setTop (mkF m 80 #[.val (.int v0), .val (.int v1), .val (.int v2), .unset, .unset] [(.ref aa)])) t := by
    intro t k
    show Steps p.tables e below (T28.setTop (mkF m 80 #[.val (.int v0), .val (.int v1), .val (.int v2), .unset, .unset] [(.ref aa)])) _
    refine XS.dup X28.here hx rfl (hb hby at_80) rfl rfl ?_
    show Steps p.tables e below (T28.setTop (mkF m 81 #[.val (.int v0), .val (.int v1), .val (.int v2), .unset, .unset] [(.ref aa), (.ref aa)])) _
    refine XS.bipush X28.here hx rfl (hb hby at_81) ?_
    show Steps p.tables e below (T28.setTop (mkF m 83 #[.val (.int v0), .val (.int v1), .val (.int v2), .unset, .unset] [(.int (13 : Int32)), (.ref aa), (.ref aa)])) _
    refine XS.sipush X28.here hx rfl (hb hby at_83) ?_
    show Steps p.tables e below (T28.setTop (mkF m 86 #[.val (.int v0), .val (.int v1), .val (.int v2), .unset, .unset] [(.int (768 : Int32)), (.int (13 : Int32)), (.ref aa), (.ref aa)])) _
    exact k
  obtain ⟨T30, h30, L30, X30, e30, V30, N30, Za30, st30⟩ := own_st X28 hx hZ e28 V28 N28 ha Za28 (j := (13 : Int32)) (x := (768 : Int32)) (by decide) (by decide) (g := (mkF m 86 #[.val (.int v0), .val (.int v1), .val (.int v2), .unset, .unset] [(.int (768 : Int32)), (.int (13 : Int32)), (.ref aa), (.ref aa)])) rfl rfl (hb hby at_86)
  have sg31 : ∀ t, Steps p.tables e below (T30.setTop (mkF m 93 #[.val (.int v0), .val (.int v1), .val (.int v2), .unset, .unset] [(.int (880 : Int32)), (.int (14 : Int32)), (.ref aa), (.ref aa)])) t → Steps p.tables e below (T30.setTop (mkF m 87 #[.val (.int v0), .val (.int v1), .val (.int v2), .unset, .unset] [(.ref aa)])) t := by
    intro t k
    show Steps p.tables e below (T30.setTop (mkF m 87 #[.val (.int v0), .val (.int v1), .val (.int v2), .unset, .unset] [(.ref aa)])) _
    refine XS.dup X30.here hx rfl (hb hby at_87) rfl rfl ?_
    show Steps p.tables e below (T30.setTop (mkF m 88 #[.val (.int v0), .val (.int v1), .val (.int v2), .unset, .unset] [(.ref aa), (.ref aa)])) _
    refine XS.bipush X30.here hx rfl (hb hby at_88) ?_
    show Steps p.tables e below (T30.setTop (mkF m 90 #[.val (.int v0), .val (.int v1), .val (.int v2), .unset, .unset] [(.int (14 : Int32)), (.ref aa), (.ref aa)])) _
    refine XS.sipush X30.here hx rfl (hb hby at_90) ?_
    show Steps p.tables e below (T30.setTop (mkF m 93 #[.val (.int v0), .val (.int v1), .val (.int v2), .unset, .unset] [(.int (880 : Int32)), (.int (14 : Int32)), (.ref aa), (.ref aa)])) _
    exact k
  obtain ⟨T32, h32, L32, X32, e32, V32, N32, Za32, st32⟩ := own_st X30 hx hZ e30 V30 N30 ha Za30 (j := (14 : Int32)) (x := (880 : Int32)) (by decide) (by decide) (g := (mkF m 93 #[.val (.int v0), .val (.int v1), .val (.int v2), .unset, .unset] [(.int (880 : Int32)), (.int (14 : Int32)), (.ref aa), (.ref aa)])) rfl rfl (hb hby at_93)
  have sg33 : ∀ t, Steps p.tables e below (T32.setTop (mkF m 100 #[.val (.int v0), .val (.int v1), .val (.int v2), .unset, .unset] [(.int (894 : Int32)), (.int (15 : Int32)), (.ref aa), (.ref aa)])) t → Steps p.tables e below (T32.setTop (mkF m 94 #[.val (.int v0), .val (.int v1), .val (.int v2), .unset, .unset] [(.ref aa)])) t := by
    intro t k
    show Steps p.tables e below (T32.setTop (mkF m 94 #[.val (.int v0), .val (.int v1), .val (.int v2), .unset, .unset] [(.ref aa)])) _
    refine XS.dup X32.here hx rfl (hb hby at_94) rfl rfl ?_
    show Steps p.tables e below (T32.setTop (mkF m 95 #[.val (.int v0), .val (.int v1), .val (.int v2), .unset, .unset] [(.ref aa), (.ref aa)])) _
    refine XS.bipush X32.here hx rfl (hb hby at_95) ?_
    show Steps p.tables e below (T32.setTop (mkF m 97 #[.val (.int v0), .val (.int v1), .val (.int v2), .unset, .unset] [(.int (15 : Int32)), (.ref aa), (.ref aa)])) _
    refine XS.sipush X32.here hx rfl (hb hby at_97) ?_
    show Steps p.tables e below (T32.setTop (mkF m 100 #[.val (.int v0), .val (.int v1), .val (.int v2), .unset, .unset] [(.int (894 : Int32)), (.int (15 : Int32)), (.ref aa), (.ref aa)])) _
    exact k
  obtain ⟨T34, h34, L34, X34, e34, V34, N34, Za34, st34⟩ := own_st X32 hx hZ e32 V32 N32 ha Za32 (j := (15 : Int32)) (x := (894 : Int32)) (by decide) (by decide) (g := (mkF m 100 #[.val (.int v0), .val (.int v1), .val (.int v2), .unset, .unset] [(.int (894 : Int32)), (.int (15 : Int32)), (.ref aa), (.ref aa)])) rfl rfl (hb hby at_100)
  have sg35 : ∀ t, Steps p.tables e below (T34.setTop (mkF m 107 #[.val (.int v0), .val (.int v1), .val (.int v2), .unset, .unset] [(.int (895 : Int32)), (.int (16 : Int32)), (.ref aa), (.ref aa)])) t → Steps p.tables e below (T34.setTop (mkF m 101 #[.val (.int v0), .val (.int v1), .val (.int v2), .unset, .unset] [(.ref aa)])) t := by
    intro t k
    show Steps p.tables e below (T34.setTop (mkF m 101 #[.val (.int v0), .val (.int v1), .val (.int v2), .unset, .unset] [(.ref aa)])) _
    refine XS.dup X34.here hx rfl (hb hby at_101) rfl rfl ?_
    show Steps p.tables e below (T34.setTop (mkF m 102 #[.val (.int v0), .val (.int v1), .val (.int v2), .unset, .unset] [(.ref aa), (.ref aa)])) _
    refine XS.bipush X34.here hx rfl (hb hby at_102) ?_
    show Steps p.tables e below (T34.setTop (mkF m 104 #[.val (.int v0), .val (.int v1), .val (.int v2), .unset, .unset] [(.int (16 : Int32)), (.ref aa), (.ref aa)])) _
    refine XS.sipush X34.here hx rfl (hb hby at_104) ?_
    show Steps p.tables e below (T34.setTop (mkF m 107 #[.val (.int v0), .val (.int v1), .val (.int v2), .unset, .unset] [(.int (895 : Int32)), (.int (16 : Int32)), (.ref aa), (.ref aa)])) _
    exact k
  obtain ⟨T36, h36, L36, X36, e36, V36, N36, Za36, st36⟩ := own_st X34 hx hZ e34 V34 N34 ha Za34 (j := (16 : Int32)) (x := (895 : Int32)) (by decide) (by decide) (g := (mkF m 107 #[.val (.int v0), .val (.int v1), .val (.int v2), .unset, .unset] [(.int (895 : Int32)), (.int (16 : Int32)), (.ref aa), (.ref aa)])) rfl rfl (hb hby at_107)
  have sg37 : ∀ t, Steps p.tables e below (T36.setTop (mkF m 114 #[.val (.int v0), .val (.int v1), .val (.int v2), .unset, .unset] [(.int (8192 : Int32)), (.int (17 : Int32)), (.ref aa), (.ref aa)])) t → Steps p.tables e below (T36.setTop (mkF m 108 #[.val (.int v0), .val (.int v1), .val (.int v2), .unset, .unset] [(.ref aa)])) t := by
    intro t k
    show Steps p.tables e below (T36.setTop (mkF m 108 #[.val (.int v0), .val (.int v1), .val (.int v2), .unset, .unset] [(.ref aa)])) _
    refine XS.dup X36.here hx rfl (hb hby at_108) rfl rfl ?_
    show Steps p.tables e below (T36.setTop (mkF m 109 #[.val (.int v0), .val (.int v1), .val (.int v2), .unset, .unset] [(.ref aa), (.ref aa)])) _
    refine XS.bipush X36.here hx rfl (hb hby at_109) ?_
    show Steps p.tables e below (T36.setTop (mkF m 111 #[.val (.int v0), .val (.int v1), .val (.int v2), .unset, .unset] [(.int (17 : Int32)), (.ref aa), (.ref aa)])) _
    refine XS.sipush X36.here hx rfl (hb hby at_111) ?_
    show Steps p.tables e below (T36.setTop (mkF m 114 #[.val (.int v0), .val (.int v1), .val (.int v2), .unset, .unset] [(.int (8192 : Int32)), (.int (17 : Int32)), (.ref aa), (.ref aa)])) _
    exact k
  obtain ⟨T38, h38, L38, X38, e38, V38, N38, Za38, st38⟩ := own_st X36 hx hZ e36 V36 N36 ha Za36 (j := (17 : Int32)) (x := (8192 : Int32)) (by decide) (by decide) (g := (mkF m 114 #[.val (.int v0), .val (.int v1), .val (.int v2), .unset, .unset] [(.int (8192 : Int32)), (.int (17 : Int32)), (.ref aa), (.ref aa)])) rfl rfl (hb hby at_114)
  have sg39 : ∀ t, Steps p.tables e below (T38.setTop (mkF m 121 #[.val (.int v0), .val (.int v1), .val (.int v2), .unset, .unset] [(.int (8204 : Int32)), (.int (18 : Int32)), (.ref aa), (.ref aa)])) t → Steps p.tables e below (T38.setTop (mkF m 115 #[.val (.int v0), .val (.int v1), .val (.int v2), .unset, .unset] [(.ref aa)])) t := by
    intro t k
    show Steps p.tables e below (T38.setTop (mkF m 115 #[.val (.int v0), .val (.int v1), .val (.int v2), .unset, .unset] [(.ref aa)])) _
    refine XS.dup X38.here hx rfl (hb hby at_115) rfl rfl ?_
    show Steps p.tables e below (T38.setTop (mkF m 116 #[.val (.int v0), .val (.int v1), .val (.int v2), .unset, .unset] [(.ref aa), (.ref aa)])) _
    refine XS.bipush X38.here hx rfl (hb hby at_116) ?_
    show Steps p.tables e below (T38.setTop (mkF m 118 #[.val (.int v0), .val (.int v1), .val (.int v2), .unset, .unset] [(.int (18 : Int32)), (.ref aa), (.ref aa)])) _
    refine XS.sipush X38.here hx rfl (hb hby at_118) ?_
    show Steps p.tables e below (T38.setTop (mkF m 121 #[.val (.int v0), .val (.int v1), .val (.int v2), .unset, .unset] [(.int (8204 : Int32)), (.int (18 : Int32)), (.ref aa), (.ref aa)])) _
    exact k
  obtain ⟨T40, h40, L40, X40, e40, V40, N40, Za40, st40⟩ := own_st X38 hx hZ e38 V38 N38 ha Za38 (j := (18 : Int32)) (x := (8204 : Int32)) (by decide) (by decide) (g := (mkF m 121 #[.val (.int v0), .val (.int v1), .val (.int v2), .unset, .unset] [(.int (8204 : Int32)), (.int (18 : Int32)), (.ref aa), (.ref aa)])) rfl rfl (hb hby at_121)
  have sg41 : ∀ t, Steps p.tables e below (T40.setTop (mkF m 128 #[.val (.int v0), .val (.int v1), .val (.int v2), .unset, .unset] [(.int (8206 : Int32)), (.int (19 : Int32)), (.ref aa), (.ref aa)])) t → Steps p.tables e below (T40.setTop (mkF m 122 #[.val (.int v0), .val (.int v1), .val (.int v2), .unset, .unset] [(.ref aa)])) t := by
    intro t k
    show Steps p.tables e below (T40.setTop (mkF m 122 #[.val (.int v0), .val (.int v1), .val (.int v2), .unset, .unset] [(.ref aa)])) _
    refine XS.dup X40.here hx rfl (hb hby at_122) rfl rfl ?_
    show Steps p.tables e below (T40.setTop (mkF m 123 #[.val (.int v0), .val (.int v1), .val (.int v2), .unset, .unset] [(.ref aa), (.ref aa)])) _
    refine XS.bipush X40.here hx rfl (hb hby at_123) ?_
    show Steps p.tables e below (T40.setTop (mkF m 125 #[.val (.int v0), .val (.int v1), .val (.int v2), .unset, .unset] [(.int (19 : Int32)), (.ref aa), (.ref aa)])) _
    refine XS.sipush X40.here hx rfl (hb hby at_125) ?_
    show Steps p.tables e below (T40.setTop (mkF m 128 #[.val (.int v0), .val (.int v1), .val (.int v2), .unset, .unset] [(.int (8206 : Int32)), (.int (19 : Int32)), (.ref aa), (.ref aa)])) _
    exact k
  obtain ⟨T42, h42, L42, X42, e42, V42, N42, Za42, st42⟩ := own_st X40 hx hZ e40 V40 N40 ha Za40 (j := (19 : Int32)) (x := (8206 : Int32)) (by decide) (by decide) (g := (mkF m 128 #[.val (.int v0), .val (.int v1), .val (.int v2), .unset, .unset] [(.int (8206 : Int32)), (.int (19 : Int32)), (.ref aa), (.ref aa)])) rfl rfl (hb hby at_128)
  have sg43 : ∀ t, Steps p.tables e below (T42.setTop (mkF m 135 #[.val (.int v0), .val (.int v1), .val (.int v2), .unset, .unset] [(.int (8304 : Int32)), (.int (20 : Int32)), (.ref aa), (.ref aa)])) t → Steps p.tables e below (T42.setTop (mkF m 129 #[.val (.int v0), .val (.int v1), .val (.int v2), .unset, .unset] [(.ref aa)])) t := by
    intro t k
    show Steps p.tables e below (T42.setTop (mkF m 129 #[.val (.int v0), .val (.int v1), .val (.int v2), .unset, .unset] [(.ref aa)])) _
    refine XS.dup X42.here hx rfl (hb hby at_129) rfl rfl ?_
    show Steps p.tables e below (T42.setTop (mkF m 130 #[.val (.int v0), .val (.int v1), .val (.int v2), .unset, .unset] [(.ref aa), (.ref aa)])) _
    refine XS.bipush X42.here hx rfl (hb hby at_130) ?_
    show Steps p.tables e below (T42.setTop (mkF m 132 #[.val (.int v0), .val (.int v1), .val (.int v2), .unset, .unset] [(.int (20 : Int32)), (.ref aa), (.ref aa)])) _
    refine XS.sipush X42.here hx rfl (hb hby at_132) ?_
    show Steps p.tables e below (T42.setTop (mkF m 135 #[.val (.int v0), .val (.int v1), .val (.int v2), .unset, .unset] [(.int (8304 : Int32)), (.int (20 : Int32)), (.ref aa), (.ref aa)])) _
    exact k
  obtain ⟨T44, h44, L44, X44, e44, V44, N44, Za44, st44⟩ := own_st X42 hx hZ e42 V42 N42 ha Za42 (j := (20 : Int32)) (x := (8304 : Int32)) (by decide) (by decide) (g := (mkF m 135 #[.val (.int v0), .val (.int v1), .val (.int v2), .unset, .unset] [(.int (8304 : Int32)), (.int (20 : Int32)), (.ref aa), (.ref aa)])) rfl rfl (hb hby at_135)
  have sg45 : ∀ t, Steps p.tables e below (T44.setTop (mkF m 142 #[.val (.int v0), .val (.int v1), .val (.int v2), .unset, .unset] [(.int (8592 : Int32)), (.int (21 : Int32)), (.ref aa), (.ref aa)])) t → Steps p.tables e below (T44.setTop (mkF m 136 #[.val (.int v0), .val (.int v1), .val (.int v2), .unset, .unset] [(.ref aa)])) t := by
    intro t k
    show Steps p.tables e below (T44.setTop (mkF m 136 #[.val (.int v0), .val (.int v1), .val (.int v2), .unset, .unset] [(.ref aa)])) _
    refine XS.dup X44.here hx rfl (hb hby at_136) rfl rfl ?_
    show Steps p.tables e below (T44.setTop (mkF m 137 #[.val (.int v0), .val (.int v1), .val (.int v2), .unset, .unset] [(.ref aa), (.ref aa)])) _
    refine XS.bipush X44.here hx rfl (hb hby at_137) ?_
    show Steps p.tables e below (T44.setTop (mkF m 139 #[.val (.int v0), .val (.int v1), .val (.int v2), .unset, .unset] [(.int (21 : Int32)), (.ref aa), (.ref aa)])) _
    refine XS.sipush X44.here hx rfl (hb hby at_139) ?_
    show Steps p.tables e below (T44.setTop (mkF m 142 #[.val (.int v0), .val (.int v1), .val (.int v2), .unset, .unset] [(.int (8592 : Int32)), (.int (21 : Int32)), (.ref aa), (.ref aa)])) _
    exact k
  obtain ⟨T46, h46, L46, X46, e46, V46, N46, Za46, st46⟩ := own_st X44 hx hZ e44 V44 N44 ha Za44 (j := (21 : Int32)) (x := (8592 : Int32)) (by decide) (by decide) (g := (mkF m 142 #[.val (.int v0), .val (.int v1), .val (.int v2), .unset, .unset] [(.int (8592 : Int32)), (.int (21 : Int32)), (.ref aa), (.ref aa)])) rfl rfl (hb hby at_142)
  have sg47 : ∀ t, Steps p.tables e below (T46.setTop (mkF m 149 #[.val (.int v0), .val (.int v1), .val (.int v2), .unset, .unset] [(.int (11264 : Int32)), (.int (22 : Int32)), (.ref aa), (.ref aa)])) t → Steps p.tables e below (T46.setTop (mkF m 143 #[.val (.int v0), .val (.int v1), .val (.int v2), .unset, .unset] [(.ref aa)])) t := by
    intro t k
    show Steps p.tables e below (T46.setTop (mkF m 143 #[.val (.int v0), .val (.int v1), .val (.int v2), .unset, .unset] [(.ref aa)])) _
    refine XS.dup X46.here hx rfl (hb hby at_143) rfl rfl ?_
    show Steps p.tables e below (T46.setTop (mkF m 144 #[.val (.int v0), .val (.int v1), .val (.int v2), .unset, .unset] [(.ref aa), (.ref aa)])) _
    refine XS.bipush X46.here hx rfl (hb hby at_144) ?_
    show Steps p.tables e below (T46.setTop (mkF m 146 #[.val (.int v0), .val (.int v1), .val (.int v2), .unset, .unset] [(.int (22 : Int32)), (.ref aa), (.ref aa)])) _
    refine XS.sipush X46.here hx rfl (hb hby at_146) ?_
    show Steps p.tables e below (T46.setTop (mkF m 149 #[.val (.int v0), .val (.int v1), .val (.int v2), .unset, .unset] [(.int (11264 : Int32)), (.int (22 : Int32)), (.ref aa), (.ref aa)])) _
    exact k
  obtain ⟨T48, h48, L48, X48, e48, V48, N48, Za48, st48⟩ := own_st X46 hx hZ e46 V46 N46 ha Za46 (j := (22 : Int32)) (x := (11264 : Int32)) (by decide) (by decide) (g := (mkF m 149 #[.val (.int v0), .val (.int v1), .val (.int v2), .unset, .unset] [(.int (11264 : Int32)), (.int (22 : Int32)), (.ref aa), (.ref aa)])) rfl rfl (hb hby at_149)
  have sg49 : ∀ t, Steps p.tables e below (T48.setTop (mkF m 156 #[.val (.int v0), .val (.int v1), .val (.int v2), .unset, .unset] [(.int (12272 : Int32)), (.int (23 : Int32)), (.ref aa), (.ref aa)])) t → Steps p.tables e below (T48.setTop (mkF m 150 #[.val (.int v0), .val (.int v1), .val (.int v2), .unset, .unset] [(.ref aa)])) t := by
    intro t k
    show Steps p.tables e below (T48.setTop (mkF m 150 #[.val (.int v0), .val (.int v1), .val (.int v2), .unset, .unset] [(.ref aa)])) _
    refine XS.dup X48.here hx rfl (hb hby at_150) rfl rfl ?_
    show Steps p.tables e below (T48.setTop (mkF m 151 #[.val (.int v0), .val (.int v1), .val (.int v2), .unset, .unset] [(.ref aa), (.ref aa)])) _
    refine XS.bipush X48.here hx rfl (hb hby at_151) ?_
    show Steps p.tables e below (T48.setTop (mkF m 153 #[.val (.int v0), .val (.int v1), .val (.int v2), .unset, .unset] [(.int (23 : Int32)), (.ref aa), (.ref aa)])) _
    refine XS.sipush X48.here hx rfl (hb hby at_153) ?_
    show Steps p.tables e below (T48.setTop (mkF m 156 #[.val (.int v0), .val (.int v1), .val (.int v2), .unset, .unset] [(.int (12272 : Int32)), (.int (23 : Int32)), (.ref aa), (.ref aa)])) _
    exact k
  obtain ⟨T50, h50, L50, X50, e50, V50, N50, Za50, st50⟩ := own_st X48 hx hZ e48 V48 N48 ha Za48 (j := (23 : Int32)) (x := (12272 : Int32)) (by decide) (by decide) (g := (mkF m 156 #[.val (.int v0), .val (.int v1), .val (.int v2), .unset, .unset] [(.int (12272 : Int32)), (.int (23 : Int32)), (.ref aa), (.ref aa)])) rfl rfl (hb hby at_156)
  have sg51 : ∀ t, Steps p.tables e below (T50.setTop (mkF m 163 #[.val (.int v0), .val (.int v1), .val (.int v2), .unset, .unset] [(.int (12289 : Int32)), (.int (24 : Int32)), (.ref aa), (.ref aa)])) t → Steps p.tables e below (T50.setTop (mkF m 157 #[.val (.int v0), .val (.int v1), .val (.int v2), .unset, .unset] [(.ref aa)])) t := by
    intro t k
    show Steps p.tables e below (T50.setTop (mkF m 157 #[.val (.int v0), .val (.int v1), .val (.int v2), .unset, .unset] [(.ref aa)])) _
    refine XS.dup X50.here hx rfl (hb hby at_157) rfl rfl ?_
    show Steps p.tables e below (T50.setTop (mkF m 158 #[.val (.int v0), .val (.int v1), .val (.int v2), .unset, .unset] [(.ref aa), (.ref aa)])) _
    refine XS.bipush X50.here hx rfl (hb hby at_158) ?_
    show Steps p.tables e below (T50.setTop (mkF m 160 #[.val (.int v0), .val (.int v1), .val (.int v2), .unset, .unset] [(.int (24 : Int32)), (.ref aa), (.ref aa)])) _
    refine XS.sipush X50.here hx rfl (hb hby at_160) ?_
    show Steps p.tables e below (T50.setTop (mkF m 163 #[.val (.int v0), .val (.int v1), .val (.int v2), .unset, .unset] [(.int (12289 : Int32)), (.int (24 : Int32)), (.ref aa), (.ref aa)])) _
    exact k
  obtain ⟨T52, h52, L52, X52, e52, V52, N52, Za52, st52⟩ := own_st X50 hx hZ e50 V50 N50 ha Za50 (j := (24 : Int32)) (x := (12289 : Int32)) (by decide) (by decide) (g := (mkF m 163 #[.val (.int v0), .val (.int v1), .val (.int v2), .unset, .unset] [(.int (12289 : Int32)), (.int (24 : Int32)), (.ref aa), (.ref aa)])) rfl rfl (hb hby at_163)
  have sg53 : ∀ t, Steps p.tables e below (T52.setTop (mkF m 169 #[.val (.int v0), .val (.int v1), .val (.int v2), .unset, .unset] [(.int (55296 : Int32)), (.int (25 : Int32)), (.ref aa), (.ref aa)])) t → Steps p.tables e below (T52.setTop (mkF m 164 #[.val (.int v0), .val (.int v1), .val (.int v2), .unset, .unset] [(.ref aa)])) t := by
    intro t k
    show Steps p.tables e below (T52.setTop (mkF m 164 #[.val (.int v0), .val (.int v1), .val (.int v2), .unset, .unset] [(.ref aa)])) _
    refine XS.dup X52.here hx rfl (hb hby at_164) rfl rfl ?_
    show Steps p.tables e below (T52.setTop (mkF m 165 #[.val (.int v0), .val (.int v1), .val (.int v2), .unset, .unset] [(.ref aa), (.ref aa)])) _
    refine XS.bipush X52.here hx rfl (hb hby at_165) ?_
    show Steps p.tables e below (T52.setTop (mkF m 167 #[.val (.int v0), .val (.int v1), .val (.int v2), .unset, .unset] [(.int (25 : Int32)), (.ref aa), (.ref aa)])) _
    refine X52.ldcI hx hown (mv hZ (hw _ (List.mem_of_getElem? (i := 1) rfl))) rfl (hb hby at_167) ?_
    show Steps p.tables e below (T52.setTop (mkF m 169 #[.val (.int v0), .val (.int v1), .val (.int v2), .unset, .unset] [(.int (55296 : Int32)), (.int (25 : Int32)), (.ref aa), (.ref aa)])) _
    exact k
  obtain ⟨T54, h54, L54, X54, e54, V54, N54, Za54, st54⟩ := own_st X52 hx hZ e52 V52 N52 ha Za52 (j := (25 : Int32)) (x := (55296 : Int32)) (by decide) (by decide) (g := (mkF m 169 #[.val (.int v0), .val (.int v1), .val (.int v2), .unset, .unset] [(.int (55296 : Int32)), (.int (25 : Int32)), (.ref aa), (.ref aa)])) rfl rfl (hb hby at_169)
  have sg55 : ∀ t, Steps p.tables e below (T54.setTop (mkF m 175 #[.val (.int v0), .val (.int v1), .val (.int v2), .unset, .unset] [(.int (63744 : Int32)), (.int (26 : Int32)), (.ref aa), (.ref aa)])) t → Steps p.tables e below (T54.setTop (mkF m 170 #[.val (.int v0), .val (.int v1), .val (.int v2), .unset, .unset] [(.ref aa)])) t := by
    intro t k
    show Steps p.tables e below (T54.setTop (mkF m 170 #[.val (.int v0), .val (.int v1), .val (.int v2), .unset, .unset] [(.ref aa)])) _
    refine XS.dup X54.here hx rfl (hb hby at_170) rfl rfl ?_
    show Steps p.tables e below (T54.setTop (mkF m 171 #[.val (.int v0), .val (.int v1), .val (.int v2), .unset, .unset] [(.ref aa), (.ref aa)])) _
    refine XS.bipush X54.here hx rfl (hb hby at_171) ?_
    show Steps p.tables e below (T54.setTop (mkF m 173 #[.val (.int v0), .val (.int v1), .val (.int v2), .unset, .unset] [(.int (26 : Int32)), (.ref aa), (.ref aa)])) _
    refine X54.ldcI hx hown (mv hZ (hw _ (List.mem_of_getElem? (i := 2) rfl))) rfl (hb hby at_173) ?_
    show Steps p.tables e below (T54.setTop (mkF m 175 #[.val (.int v0), .val (.int v1), .val (.int v2), .unset, .unset] [(.int (63744 : Int32)), (.int (26 : Int32)), (.ref aa), (.ref aa)])) _
    exact k
  obtain ⟨T56, h56, L56, X56, e56, V56, N56, Za56, st56⟩ := own_st X54 hx hZ e54 V54 N54 ha Za54 (j := (26 : Int32)) (x := (63744 : Int32)) (by decide) (by decide) (g := (mkF m 175 #[.val (.int v0), .val (.int v1), .val (.int v2), .unset, .unset] [(.int (63744 : Int32)), (.int (26 : Int32)), (.ref aa), (.ref aa)])) rfl rfl (hb hby at_175)
  have sg57 : ∀ t, Steps p.tables e below (T56.setTop (mkF m 181 #[.val (.int v0), .val (.int v1), .val (.int v2), .unset, .unset] [(.int (64976 : Int32)), (.int (27 : Int32)), (.ref aa), (.ref aa)])) t → Steps p.tables e below (T56.setTop (mkF m 176 #[.val (.int v0), .val (.int v1), .val (.int v2), .unset, .unset] [(.ref aa)])) t := by
    intro t k
    show Steps p.tables e below (T56.setTop (mkF m 176 #[.val (.int v0), .val (.int v1), .val (.int v2), .unset, .unset] [(.ref aa)])) _
    refine XS.dup X56.here hx rfl (hb hby at_176) rfl rfl ?_
    show Steps p.tables e below (T56.setTop (mkF m 177 #[.val (.int v0), .val (.int v1), .val (.int v2), .unset, .unset] [(.ref aa), (.ref aa)])) _
    refine XS.bipush X56.here hx rfl (hb hby at_177) ?_
    show Steps p.tables e below (T56.setTop (mkF m 179 #[.val (.int v0), .val (.int v1), .val (.int v2), .unset, .unset] [(.int (27 : Int32)), (.ref aa), (.ref aa)])) _
    refine X56.ldcI hx hown (mv hZ (hw _ (List.mem_of_getElem? (i := 3) rfl))) rfl (hb hby at_179) ?_
    show Steps p.tables e below (T56.setTop (mkF m 181 #[.val (.int v0), .val (.int v1), .val (.int v2), .unset, .unset] [(.int (64976 : Int32)), (.int (27 : Int32)), (.ref aa), (.ref aa)])) _
    exact k
  obtain ⟨T58, h58, L58, X58, e58, V58, N58, Za58, st58⟩ := own_st X56 hx hZ e56 V56 N56 ha Za56 (j := (27 : Int32)) (x := (64976 : Int32)) (by decide) (by decide) (g := (mkF m 181 #[.val (.int v0), .val (.int v1), .val (.int v2), .unset, .unset] [(.int (64976 : Int32)), (.int (27 : Int32)), (.ref aa), (.ref aa)])) rfl rfl (hb hby at_181)
  have sg59 : ∀ t, Steps p.tables e below (T58.setTop (mkF m 187 #[.val (.int v0), .val (.int v1), .val (.int v2), .unset, .unset] [(.int (65008 : Int32)), (.int (28 : Int32)), (.ref aa), (.ref aa)])) t → Steps p.tables e below (T58.setTop (mkF m 182 #[.val (.int v0), .val (.int v1), .val (.int v2), .unset, .unset] [(.ref aa)])) t := by
    intro t k
    show Steps p.tables e below (T58.setTop (mkF m 182 #[.val (.int v0), .val (.int v1), .val (.int v2), .unset, .unset] [(.ref aa)])) _
    refine XS.dup X58.here hx rfl (hb hby at_182) rfl rfl ?_
    show Steps p.tables e below (T58.setTop (mkF m 183 #[.val (.int v0), .val (.int v1), .val (.int v2), .unset, .unset] [(.ref aa), (.ref aa)])) _
    refine XS.bipush X58.here hx rfl (hb hby at_183) ?_
    show Steps p.tables e below (T58.setTop (mkF m 185 #[.val (.int v0), .val (.int v1), .val (.int v2), .unset, .unset] [(.int (28 : Int32)), (.ref aa), (.ref aa)])) _
    refine X58.ldcI hx hown (mv hZ (hw _ (List.mem_of_getElem? (i := 4) rfl))) rfl (hb hby at_185) ?_
    show Steps p.tables e below (T58.setTop (mkF m 187 #[.val (.int v0), .val (.int v1), .val (.int v2), .unset, .unset] [(.int (65008 : Int32)), (.int (28 : Int32)), (.ref aa), (.ref aa)])) _
    exact k
  obtain ⟨T60, h60, L60, X60, e60, V60, N60, Za60, st60⟩ := own_st X58 hx hZ e58 V58 N58 ha Za58 (j := (28 : Int32)) (x := (65008 : Int32)) (by decide) (by decide) (g := (mkF m 187 #[.val (.int v0), .val (.int v1), .val (.int v2), .unset, .unset] [(.int (65008 : Int32)), (.int (28 : Int32)), (.ref aa), (.ref aa)])) rfl rfl (hb hby at_187)
  have sg61 : ∀ t, Steps p.tables e below (T60.setTop (mkF m 193 #[.val (.int v0), .val (.int v1), .val (.int v2), .unset, .unset] [(.int (65534 : Int32)), (.int (29 : Int32)), (.ref aa), (.ref aa)])) t → Steps p.tables e below (T60.setTop (mkF m 188 #[.val (.int v0), .val (.int v1), .val (.int v2), .unset, .unset] [(.ref aa)])) t := by
    intro t k
    show Steps p.tables e below (T60.setTop (mkF m 188 #[.val (.int v0), .val (.int v1), .val (.int v2), .unset, .unset] [(.ref aa)])) _
    refine XS.dup X60.here hx rfl (hb hby at_188) rfl rfl ?_
    show Steps p.tables e below (T60.setTop (mkF m 189 #[.val (.int v0), .val (.int v1), .val (.int v2), .unset, .unset] [(.ref aa), (.ref aa)])) _
    refine XS.bipush X60.here hx rfl (hb hby at_189) ?_
    show Steps p.tables e below (T60.setTop (mkF m 191 #[.val (.int v0), .val (.int v1), .val (.int v2), .unset, .unset] [(.int (29 : Int32)), (.ref aa), (.ref aa)])) _
    refine X60.ldcI hx hown (mv hZ (hw _ (List.mem_of_getElem? (i := 5) rfl))) rfl (hb hby at_191) ?_
    show Steps p.tables e below (T60.setTop (mkF m 193 #[.val (.int v0), .val (.int v1), .val (.int v2), .unset, .unset] [(.int (65534 : Int32)), (.int (29 : Int32)), (.ref aa), (.ref aa)])) _
    exact k
  obtain ⟨T62, h62, L62, X62, e62, V62, N62, Za62, st62⟩ := own_st X60 hx hZ e60 V60 N60 ha Za60 (j := (29 : Int32)) (x := (65534 : Int32)) (by decide) (by decide) (g := (mkF m 193 #[.val (.int v0), .val (.int v1), .val (.int v2), .unset, .unset] [(.int (65534 : Int32)), (.int (29 : Int32)), (.ref aa), (.ref aa)])) rfl rfl (hb hby at_193)
  have sg63 : ∀ t, Steps p.tables e below (T62.setTop (mkF m 199 #[.val (.int v0), .val (.int v1), .val (.int v2), .unset, .unset] [(.int (65536 : Int32)), (.int (30 : Int32)), (.ref aa), (.ref aa)])) t → Steps p.tables e below (T62.setTop (mkF m 194 #[.val (.int v0), .val (.int v1), .val (.int v2), .unset, .unset] [(.ref aa)])) t := by
    intro t k
    show Steps p.tables e below (T62.setTop (mkF m 194 #[.val (.int v0), .val (.int v1), .val (.int v2), .unset, .unset] [(.ref aa)])) _
    refine XS.dup X62.here hx rfl (hb hby at_194) rfl rfl ?_
    show Steps p.tables e below (T62.setTop (mkF m 195 #[.val (.int v0), .val (.int v1), .val (.int v2), .unset, .unset] [(.ref aa), (.ref aa)])) _
    refine XS.bipush X62.here hx rfl (hb hby at_195) ?_
    show Steps p.tables e below (T62.setTop (mkF m 197 #[.val (.int v0), .val (.int v1), .val (.int v2), .unset, .unset] [(.int (30 : Int32)), (.ref aa), (.ref aa)])) _
    refine X62.ldcI hx hown (mv hZ (hw _ (List.mem_of_getElem? (i := 6) rfl))) rfl (hb hby at_197) ?_
    show Steps p.tables e below (T62.setTop (mkF m 199 #[.val (.int v0), .val (.int v1), .val (.int v2), .unset, .unset] [(.int (65536 : Int32)), (.int (30 : Int32)), (.ref aa), (.ref aa)])) _
    exact k
  obtain ⟨T64, h64, L64, X64, e64, V64, N64, Za64, st64⟩ := own_st X62 hx hZ e62 V62 N62 ha Za62 (j := (30 : Int32)) (x := (65536 : Int32)) (by decide) (by decide) (g := (mkF m 199 #[.val (.int v0), .val (.int v1), .val (.int v2), .unset, .unset] [(.int (65536 : Int32)), (.int (30 : Int32)), (.ref aa), (.ref aa)])) rfl rfl (hb hby at_199)
  have sg65 : ∀ t, Steps p.tables e below (T64.setTop (mkF m 205 #[.val (.int v0), .val (.int v1), .val (.int v2), .unset, .unset] [(.int (983040 : Int32)), (.int (31 : Int32)), (.ref aa), (.ref aa)])) t → Steps p.tables e below (T64.setTop (mkF m 200 #[.val (.int v0), .val (.int v1), .val (.int v2), .unset, .unset] [(.ref aa)])) t := by
    intro t k
    show Steps p.tables e below (T64.setTop (mkF m 200 #[.val (.int v0), .val (.int v1), .val (.int v2), .unset, .unset] [(.ref aa)])) _
    refine XS.dup X64.here hx rfl (hb hby at_200) rfl rfl ?_
    show Steps p.tables e below (T64.setTop (mkF m 201 #[.val (.int v0), .val (.int v1), .val (.int v2), .unset, .unset] [(.ref aa), (.ref aa)])) _
    refine XS.bipush X64.here hx rfl (hb hby at_201) ?_
    show Steps p.tables e below (T64.setTop (mkF m 203 #[.val (.int v0), .val (.int v1), .val (.int v2), .unset, .unset] [(.int (31 : Int32)), (.ref aa), (.ref aa)])) _
    refine X64.ldcI hx hown (mv hZ (hw _ (List.mem_of_getElem? (i := 7) rfl))) rfl (hb hby at_203) ?_
    show Steps p.tables e below (T64.setTop (mkF m 205 #[.val (.int v0), .val (.int v1), .val (.int v2), .unset, .unset] [(.int (983040 : Int32)), (.int (31 : Int32)), (.ref aa), (.ref aa)])) _
    exact k
  obtain ⟨T66, h66, L66, X66, e66, V66, N66, Za66, st66⟩ := own_st X64 hx hZ e64 V64 N64 ha Za64 (j := (31 : Int32)) (x := (983040 : Int32)) (by decide) (by decide) (g := (mkF m 205 #[.val (.int v0), .val (.int v1), .val (.int v2), .unset, .unset] [(.int (983040 : Int32)), (.int (31 : Int32)), (.ref aa), (.ref aa)])) rfl rfl (hb hby at_205)
  have sg67 : ∀ t, Steps p.tables e below (T66.setTop (mkF m 211 #[.val (.int v0), .val (.int v1), .val (.int v2), .unset, .unset] [(.int (-2147483644 : Int32)), (.int (32 : Int32)), (.ref aa), (.ref aa)])) t → Steps p.tables e below (T66.setTop (mkF m 206 #[.val (.int v0), .val (.int v1), .val (.int v2), .unset, .unset] [(.ref aa)])) t := by
    intro t k
    show Steps p.tables e below (T66.setTop (mkF m 206 #[.val (.int v0), .val (.int v1), .val (.int v2), .unset, .unset] [(.ref aa)])) _
    refine XS.dup X66.here hx rfl (hb hby at_206) rfl rfl ?_
    show Steps p.tables e below (T66.setTop (mkF m 207 #[.val (.int v0), .val (.int v1), .val (.int v2), .unset, .unset] [(.ref aa), (.ref aa)])) _
    refine XS.bipush X66.here hx rfl (hb hby at_207) ?_
    show Steps p.tables e below (T66.setTop (mkF m 209 #[.val (.int v0), .val (.int v1), .val (.int v2), .unset, .unset] [(.int (32 : Int32)), (.ref aa), (.ref aa)])) _
    refine X66.ldcI hx hown (mv hZ (hw _ (List.mem_of_getElem? (i := 8) rfl))) rfl (hb hby at_209) ?_
    show Steps p.tables e below (T66.setTop (mkF m 211 #[.val (.int v0), .val (.int v1), .val (.int v2), .unset, .unset] [(.int (-2147483644 : Int32)), (.int (32 : Int32)), (.ref aa), (.ref aa)])) _
    exact k
  obtain ⟨T68, h68, L68, X68, e68, V68, N68, Za68, st68⟩ := own_st X66 hx hZ e66 V66 N66 ha Za66 (j := (32 : Int32)) (x := (-2147483644 : Int32)) (by decide) (by decide) (g := (mkF m 211 #[.val (.int v0), .val (.int v1), .val (.int v2), .unset, .unset] [(.int (-2147483644 : Int32)), (.int (32 : Int32)), (.ref aa), (.ref aa)])) rfl rfl (hb hby at_211)
  have sg69 : ∀ t, Steps p.tables e below (T68.setTop (mkF m 217 #[.val (.int v0), .val (.int v1), .val (.int v2), .unset, .unset] [(.int (2147483644 : Int32)), (.int (33 : Int32)), (.ref aa), (.ref aa)])) t → Steps p.tables e below (T68.setTop (mkF m 212 #[.val (.int v0), .val (.int v1), .val (.int v2), .unset, .unset] [(.ref aa)])) t := by
    intro t k
    show Steps p.tables e below (T68.setTop (mkF m 212 #[.val (.int v0), .val (.int v1), .val (.int v2), .unset, .unset] [(.ref aa)])) _
    refine XS.dup X68.here hx rfl (hb hby at_212) rfl rfl ?_
    show Steps p.tables e below (T68.setTop (mkF m 213 #[.val (.int v0), .val (.int v1), .val (.int v2), .unset, .unset] [(.ref aa), (.ref aa)])) _
    refine XS.bipush X68.here hx rfl (hb hby at_213) ?_
    show Steps p.tables e below (T68.setTop (mkF m 215 #[.val (.int v0), .val (.int v1), .val (.int v2), .unset, .unset] [(.int (33 : Int32)), (.ref aa), (.ref aa)])) _
    refine X68.ldcI hx hown (mv hZ (hw _ (List.mem_of_getElem? (i := 9) rfl))) rfl (hb hby at_215) ?_
    show Steps p.tables e below (T68.setTop (mkF m 217 #[.val (.int v0), .val (.int v1), .val (.int v2), .unset, .unset] [(.int (2147483644 : Int32)), (.int (33 : Int32)), (.ref aa), (.ref aa)])) _
    exact k
  obtain ⟨T70, h70, L70, X70, e70, V70, N70, Za70, st70⟩ := own_st X68 hx hZ e68 V68 N68 ha Za68 (j := (33 : Int32)) (x := (2147483644 : Int32)) (by decide) (by decide) (g := (mkF m 217 #[.val (.int v0), .val (.int v1), .val (.int v2), .unset, .unset] [(.int (2147483644 : Int32)), (.int (33 : Int32)), (.ref aa), (.ref aa)])) rfl rfl (hb hby at_217)
  have sg71 : ∀ t, Steps p.tables e below (T70.setTop (mkF m 225 #[.val (.int v0), .val (.int v1), .val (.int v2), .val (.ref aa), .unset] [(.ref aa), (.int (v1 &&& (2147483647 : Int32))), (.ref aa)])) t → Steps p.tables e below (T70.setTop (mkF m 218 #[.val (.int v0), .val (.int v1), .val (.int v2), .unset, .unset] [(.ref aa)])) t := by
    intro t k
    show Steps p.tables e below (T70.setTop (mkF m 218 #[.val (.int v0), .val (.int v1), .val (.int v2), .unset, .unset] [(.ref aa)])) _
    refine XS.astoreN X70.here hx rfl (hb hby at_218) rfl rfl (l' := #[.val (.int v0), .val (.int v1), .val (.int v2), .val (.ref aa), .unset]) rfl ?_
    show Steps p.tables e below (T70.setTop (mkF m 219 #[.val (.int v0), .val (.int v1), .val (.int v2), .val (.ref aa), .unset] [])) _
    refine XS.aloadN X70.here hx rfl (hb hby at_219) rfl rfl ?_
    show Steps p.tables e below (T70.setTop (mkF m 220 #[.val (.int v0), .val (.int v1), .val (.int v2), .val (.ref aa), .unset] [(.ref aa)])) _
    refine XS.iloadN X70.here hx rfl (hb hby at_220) rfl ?_
    show Steps p.tables e below (T70.setTop (mkF m 221 #[.val (.int v0), .val (.int v1), .val (.int v2), .val (.ref aa), .unset] [(.int v1), (.ref aa)])) _
    refine X70.ldcI hx hown (mv hZ (hw _ (List.mem_of_getElem? (i := 10) rfl))) rfl (hb hby at_221) ?_
    show Steps p.tables e below (T70.setTop (mkF m 223 #[.val (.int v0), .val (.int v1), .val (.int v2), .val (.ref aa), .unset] [(.int (2147483647 : Int32)), (.int v1), (.ref aa)])) _
    refine XS.iand X70.here hx rfl (hb hby at_223) rfl ?_
    show Steps p.tables e below (T70.setTop (mkF m 224 #[.val (.int v0), .val (.int v1), .val (.int v2), .val (.ref aa), .unset] [(.int (v1 &&& (2147483647 : Int32))), (.ref aa)])) _
    refine XS.aloadN X70.here hx rfl (hb hby at_224) rfl rfl ?_
    show Steps p.tables e below (T70.setTop (mkF m 225 #[.val (.int v0), .val (.int v1), .val (.int v2), .val (.ref aa), .unset] [(.ref aa), (.int (v1 &&& (2147483647 : Int32))), (.ref aa)])) _
    exact k
  have st72 := own_len X70 hx hZ e70 V70 (g := (mkF m 225 #[.val (.int v0), .val (.int v1), .val (.int v2), .val (.ref aa), .unset] [(.ref aa), (.int (v1 &&& (2147483647 : Int32))), (.ref aa)])) rfl (rest := [(.int (v1 &&& (2147483647 : Int32))), (.ref aa)]) rfl (hb hby at_225)
  have sg73 : ∀ t, Steps p.tables e below (T70.setTop (mkF m 227 #[.val (.int v0), .val (.int v1), .val (.int v2), .val (.ref aa), .unset] [(.int ((v1 &&& (2147483647 : Int32)) - ((v1 &&& (2147483647 : Int32)) / (34 : Int32)) * (34 : Int32))), (.ref aa)])) t → Steps p.tables e below (T70.setTop (mkF m 226 #[.val (.int v0), .val (.int v1), .val (.int v2), .val (.ref aa), .unset] [(.int (34 : Int32)), (.int (v1 &&& (2147483647 : Int32))), (.ref aa)])) t := by
    intro t k
    show Steps p.tables e below (T70.setTop (mkF m 226 #[.val (.int v0), .val (.int v1), .val (.int v2), .val (.ref aa), .unset] [(.int (34 : Int32)), (.int (v1 &&& (2147483647 : Int32))), (.ref aa)])) _
    refine XS.irem X70.here hx rfl (hb hby at_226) rfl (by decide) ?_
    show Steps p.tables e below (T70.setTop (mkF m 227 #[.val (.int v0), .val (.int v1), .val (.int v2), .val (.ref aa), .unset] [(.int ((v1 &&& (2147483647 : Int32)) - ((v1 &&& (2147483647 : Int32)) / (34 : Int32)) * (34 : Int32))), (.ref aa)])) _
    exact k
  have hj := (own_rem v1 (34 : Int32) 34 (by decide) (by decide)).2
  obtain ⟨yy, st74⟩ := own_ld X70 hx hZ e70 V70 (j := ((v1 &&& (2147483647 : Int32)) - ((v1 &&& (2147483647 : Int32)) / (34 : Int32)) * (34 : Int32))) (by rw [Int32.lt_iff_toInt_lt]; show ¬ _ < (0 : Int); omega) (by rw [Int32.toNatClampNeg]; omega) (g := (mkF m 227 #[.val (.int v0), .val (.int v1), .val (.int v2), .val (.ref aa), .unset] [(.int ((v1 &&& (2147483647 : Int32)) - ((v1 &&& (2147483647 : Int32)) / (34 : Int32)) * (34 : Int32))), (.ref aa)])) rfl rfl (hb hby at_227)
  have sg75 : ∀ t, Steps p.tables e below (T70.setTop (mkF m 238 #[.val (.int v0), .val (.int v1), .val (.int v2), .val (.ref aa), .val (.int (yy + ((v2 &&& (7 : Int32)) - (4 : Int32))))] [(.int v0)])) t → Steps p.tables e below (T70.setTop (mkF m 228 #[.val (.int v0), .val (.int v1), .val (.int v2), .val (.ref aa), .unset] [(.int yy)])) t := by
    intro t k
    show Steps p.tables e below (T70.setTop (mkF m 228 #[.val (.int v0), .val (.int v1), .val (.int v2), .val (.ref aa), .unset] [(.int yy)])) _
    refine XS.iloadN X70.here hx rfl (hb hby at_228) rfl ?_
    show Steps p.tables e below (T70.setTop (mkF m 229 #[.val (.int v0), .val (.int v1), .val (.int v2), .val (.ref aa), .unset] [(.int v2), (.int yy)])) _
    refine XS.bipush X70.here hx rfl (hb hby at_229) ?_
    show Steps p.tables e below (T70.setTop (mkF m 231 #[.val (.int v0), .val (.int v1), .val (.int v2), .val (.ref aa), .unset] [(.int (7 : Int32)), (.int v2), (.int yy)])) _
    refine XS.iand X70.here hx rfl (hb hby at_231) rfl ?_
    show Steps p.tables e below (T70.setTop (mkF m 232 #[.val (.int v0), .val (.int v1), .val (.int v2), .val (.ref aa), .unset] [(.int (v2 &&& (7 : Int32))), (.int yy)])) _
    refine XS.iconst X70.here hx rfl (hb hby at_232) ?_
    show Steps p.tables e below (T70.setTop (mkF m 233 #[.val (.int v0), .val (.int v1), .val (.int v2), .val (.ref aa), .unset] [(.int (4 : Int32)), (.int (v2 &&& (7 : Int32))), (.int yy)])) _
    refine XS.isub X70.here hx rfl (hb hby at_233) rfl ?_
    show Steps p.tables e below (T70.setTop (mkF m 234 #[.val (.int v0), .val (.int v1), .val (.int v2), .val (.ref aa), .unset] [(.int ((v2 &&& (7 : Int32)) - (4 : Int32))), (.int yy)])) _
    refine XS.iadd X70.here hx rfl (hb hby at_234) rfl ?_
    show Steps p.tables e below (T70.setTop (mkF m 235 #[.val (.int v0), .val (.int v1), .val (.int v2), .val (.ref aa), .unset] [(.int (yy + ((v2 &&& (7 : Int32)) - (4 : Int32))))])) _
    refine XS.istore X70.here hx rfl (hb hby at_235) rfl (l' := #[.val (.int v0), .val (.int v1), .val (.int v2), .val (.ref aa), .val (.int (yy + ((v2 &&& (7 : Int32)) - (4 : Int32))))]) rfl ?_
    show Steps p.tables e below (T70.setTop (mkF m 237 #[.val (.int v0), .val (.int v1), .val (.int v2), .val (.ref aa), .val (.int (yy + ((v2 &&& (7 : Int32)) - (4 : Int32))))] [])) _
    refine XS.iloadN X70.here hx rfl (hb hby at_237) rfl ?_
    show Steps p.tables e below (T70.setTop (mkF m 238 #[.val (.int v0), .val (.int v1), .val (.int v2), .val (.ref aa), .val (.int (yy + ((v2 &&& (7 : Int32)) - (4 : Int32))))] [(.int v0)])) _
    exact k
  obtain ⟨_, _, ⟨T76, L76, k76, n76⟩, -, X76, ⟨Lc76, hQ76, l76, y76, z76⟩, st76⟩ := Jvm.LawKit.callS X70 hx (y := (⟨"com/example/riddle/riddle/xdm/QName", "isNameStart", "(I)Z"⟩ : MethodName)) hown (mvT hZ (hw _ (List.mem_of_getElem? (i := 11) rfl))) (mvT hZ (hw _ (List.mem_of_getElem? (i := 12) rfl))) (mvT hZ (hw _ (List.mem_of_getElem? (i := 13) rfl))) (mvT hZ (hw _ (List.mem_of_getElem? (i := 14) rfl))) (by decide) (backOf (W := 0) (rm1 l Z a0 hw [] v0 h70 n0 Za70) hZ (hw _ (List.mem_of_getElem? (i := 14) rfl)) (hw _ (List.mem_of_getElem? (i := 13) rfl)) (by decide) (by decide)) (g := (mkF m 238 #[.val (.int v0), .val (.int v1), .val (.int v2), .val (.ref aa), .val (.int (yy + ((v2 &&& (7 : Int32)) - (4 : Int32))))] [(.int v0)])) rfl (by rw [hml]; rfl) (argsL := [(.int v0)]) (rest := []) (lenOf pd_1 rfl) rfl (by show 2 * 0 + _ ≤ _; exact Nat.le_of_eq rfl) (hb hby at_238) (fun _ _ => ⟨rfl, e70, (by decide : 1 + 0 ≤ _), (by decide : 34 + 0 ≤ _)⟩)
  dsimp only [Pt.U, Pt.locs, Pt.cells, Pt.slots] at X76 l76 y76 z76 st76 hQ76
  subst l76 y76 z76
  obtain ⟨rfl, Nc76, e76⟩ := hQ76
  have N76 := Fr.app N70 Nc76
  have sg77 : ∀ t, Steps p.tables e below (T76.setTop (mkF m 242 #[.val (.int v0), .val (.int v1), .val (.int v2), .val (.ref aa), .val (.int (yy + ((v2 &&& (7 : Int32)) - (4 : Int32))))] [(.int v0), (.int (f1_0 v0))])) t → Steps p.tables e below (T76.setTop (mkF m 241 #[.val (.int v0), .val (.int v1), .val (.int v2), .val (.ref aa), .val (.int (yy + ((v2 &&& (7 : Int32)) - (4 : Int32))))] [(.int (f1_0 v0))])) t := by
    intro t k
    show Steps p.tables e below (T76.setTop (mkF m 241 #[.val (.int v0), .val (.int v1), .val (.int v2), .val (.ref aa), .val (.int (yy + ((v2 &&& (7 : Int32)) - (4 : Int32))))] [(.int (f1_0 v0))])) _
    refine XS.iloadN X76.here hx rfl (hb hby at_241) rfl ?_
    show Steps p.tables e below (T76.setTop (mkF m 242 #[.val (.int v0), .val (.int v1), .val (.int v2), .val (.ref aa), .val (.int (yy + ((v2 &&& (7 : Int32)) - (4 : Int32))))] [(.int v0), (.int (f1_0 v0))])) _
    exact k
  obtain ⟨_, _, ⟨T78, L78, k78, n78⟩, -, X78, ⟨Lc78, hQ78, l78, y78, z78⟩, st78⟩ := Jvm.LawKit.callS X76 hx (y := (⟨"com/example/riddle/riddle/xdm/QNameIsNameStartPinLaw", "ref", "(I)Z"⟩ : MethodName)) hown (mvT hZ (hw _ (List.mem_of_getElem? (i := 18) rfl))) (mvT hZ (hw _ (List.mem_of_getElem? (i := 19) rfl))) (mvT hZ (hw _ (List.mem_of_getElem? (i := 20) rfl))) (mvT hZ (hw _ (List.mem_of_getElem? (i := 21) rfl))) (by decide) (backOf (W := 1) (rm2 l Z a0 hw [] v0 h70 n0 Za70) hZ (hw _ (List.mem_of_getElem? (i := 21) rfl)) (hw _ (List.mem_of_getElem? (i := 20) rfl)) (by decide) (by decide)) (g := (mkF m 242 #[.val (.int v0), .val (.int v1), .val (.int v2), .val (.ref aa), .val (.int (yy + ((v2 &&& (7 : Int32)) - (4 : Int32))))] [(.int v0), (.int (f1_0 v0))])) rfl (by rw [hml]; rfl) (argsL := [(.int v0)]) (rest := [(.int (f1_0 v0))]) (lenOf pd_2 rfl) rfl (by show 2 * 0 + _ ≤ _; exact Nat.le_of_eq rfl) (hb hby at_242) (fun _ _ => ⟨rfl, e76, (by decide : 1 + 0 ≤ _), (by decide : 34 + 0 ≤ _)⟩)
  dsimp only [Pt.U, Pt.locs, Pt.cells, Pt.slots] at X78 l78 y78 z78 st78 hQ78
  subst l78 y78 z78
  obtain ⟨rfl, Nc78, e78⟩ := hQ78
  have N78 := Fr.app N76 Nc78
  have heq0 : f1_0 v0 = f2_0 v0 := own_law _
  have sg79 : ∀ t, Steps p.tables e below (T78.setTop (mkF m 248 #[.val (.int v0), .val (.int v1), .val (.int v2), .val (.ref aa), .val (.int (yy + ((v2 &&& (7 : Int32)) - (4 : Int32))))] [])) t → Steps p.tables e below (T78.setTop (mkF m 245 #[.val (.int v0), .val (.int v1), .val (.int v2), .val (.ref aa), .val (.int (yy + ((v2 &&& (7 : Int32)) - (4 : Int32))))] [(.int (f2_0 v0)), (.int (f1_0 v0))])) t := by
    intro t k
    show Steps p.tables e below (T78.setTop (mkF m 245 #[.val (.int v0), .val (.int v1), .val (.int v2), .val (.ref aa), .val (.int (yy + ((v2 &&& (7 : Int32)) - (4 : Int32))))] [(.int (f2_0 v0)), (.int (f1_0 v0))])) _
    refine XS.icmpNo X78.here hx rfl (hb hby at_245) rfl (teq heq0).2 ?_
    show Steps p.tables e below (T78.setTop (mkF m 248 #[.val (.int v0), .val (.int v1), .val (.int v2), .val (.ref aa), .val (.int (yy + ((v2 &&& (7 : Int32)) - (4 : Int32))))] [])) _
    exact k
  have sg80 : ∀ t, Steps p.tables e below (T78.setTop (mkF m 250 #[.val (.int v0), .val (.int v1), .val (.int v2), .val (.ref aa), .val (.int (yy + ((v2 &&& (7 : Int32)) - (4 : Int32))))] [(.int (yy + ((v2 &&& (7 : Int32)) - (4 : Int32))))])) t → Steps p.tables e below (T78.setTop (mkF m 248 #[.val (.int v0), .val (.int v1), .val (.int v2), .val (.ref aa), .val (.int (yy + ((v2 &&& (7 : Int32)) - (4 : Int32))))] [])) t := by
    intro t k
    show Steps p.tables e below (T78.setTop (mkF m 248 #[.val (.int v0), .val (.int v1), .val (.int v2), .val (.ref aa), .val (.int (yy + ((v2 &&& (7 : Int32)) - (4 : Int32))))] [])) _
    refine XS.iload X78.here hx rfl (hb hby at_248) rfl ?_
    show Steps p.tables e below (T78.setTop (mkF m 250 #[.val (.int v0), .val (.int v1), .val (.int v2), .val (.ref aa), .val (.int (yy + ((v2 &&& (7 : Int32)) - (4 : Int32))))] [(.int (yy + ((v2 &&& (7 : Int32)) - (4 : Int32))))])) _
    exact k
  obtain ⟨_, _, ⟨T81, L81, k81, n81⟩, -, X81, ⟨Lc81, hQ81, l81, y81, z81⟩, st81⟩ := Jvm.LawKit.callS X78 hx (y := (⟨"com/example/riddle/riddle/xdm/QName", "isNameStart", "(I)Z"⟩ : MethodName)) hown (mvT hZ (hw _ (List.mem_of_getElem? (i := 11) rfl))) (mvT hZ (hw _ (List.mem_of_getElem? (i := 12) rfl))) (mvT hZ (hw _ (List.mem_of_getElem? (i := 13) rfl))) (mvT hZ (hw _ (List.mem_of_getElem? (i := 14) rfl))) (by decide) (backOf (W := 0) (rm1 l Z a0 hw [] (yy + ((v2 &&& (7 : Int32)) - (4 : Int32))) h70 n0 Za70) hZ (hw _ (List.mem_of_getElem? (i := 14) rfl)) (hw _ (List.mem_of_getElem? (i := 13) rfl)) (by decide) (by decide)) (g := (mkF m 250 #[.val (.int v0), .val (.int v1), .val (.int v2), .val (.ref aa), .val (.int (yy + ((v2 &&& (7 : Int32)) - (4 : Int32))))] [(.int (yy + ((v2 &&& (7 : Int32)) - (4 : Int32))))])) rfl (by rw [hml]; rfl) (argsL := [(.int (yy + ((v2 &&& (7 : Int32)) - (4 : Int32))))]) (rest := []) (lenOf pd_1 rfl) rfl (by show 2 * 0 + _ ≤ _; exact Nat.le_of_eq rfl) (hb hby at_250) (fun _ _ => ⟨rfl, e78, (by decide : 1 + 0 ≤ _), (by decide : 34 + 0 ≤ _)⟩)
  dsimp only [Pt.U, Pt.locs, Pt.cells, Pt.slots] at X81 l81 y81 z81 st81 hQ81
  subst l81 y81 z81
  obtain ⟨rfl, Nc81, e81⟩ := hQ81
  have N81 := Fr.app N78 Nc81
  have sg82 : ∀ t, Steps p.tables e below (T81.setTop (mkF m 255 #[.val (.int v0), .val (.int v1), .val (.int v2), .val (.ref aa), .val (.int (yy + ((v2 &&& (7 : Int32)) - (4 : Int32))))] [(.int (yy + ((v2 &&& (7 : Int32)) - (4 : Int32)))), (.int (f1_0 (yy + ((v2 &&& (7 : Int32)) - (4 : Int32)))))])) t → Steps p.tables e below (T81.setTop (mkF m 253 #[.val (.int v0), .val (.int v1), .val (.int v2), .val (.ref aa), .val (.int (yy + ((v2 &&& (7 : Int32)) - (4 : Int32))))] [(.int (f1_0 (yy + ((v2 &&& (7 : Int32)) - (4 : Int32)))))])) t := by
    intro t k
    show Steps p.tables e below (T81.setTop (mkF m 253 #[.val (.int v0), .val (.int v1), .val (.int v2), .val (.ref aa), .val (.int (yy + ((v2 &&& (7 : Int32)) - (4 : Int32))))] [(.int (f1_0 (yy + ((v2 &&& (7 : Int32)) - (4 : Int32)))))])) _
    refine XS.iload X81.here hx rfl (hb hby at_253) rfl ?_
    show Steps p.tables e below (T81.setTop (mkF m 255 #[.val (.int v0), .val (.int v1), .val (.int v2), .val (.ref aa), .val (.int (yy + ((v2 &&& (7 : Int32)) - (4 : Int32))))] [(.int (yy + ((v2 &&& (7 : Int32)) - (4 : Int32)))), (.int (f1_0 (yy + ((v2 &&& (7 : Int32)) - (4 : Int32)))))])) _
    exact k
  obtain ⟨_, _, ⟨T83, L83, k83, n83⟩, -, X83, ⟨Lc83, hQ83, l83, y83, z83⟩, st83⟩ := Jvm.LawKit.callS X81 hx (y := (⟨"com/example/riddle/riddle/xdm/QNameIsNameStartPinLaw", "ref", "(I)Z"⟩ : MethodName)) hown (mvT hZ (hw _ (List.mem_of_getElem? (i := 18) rfl))) (mvT hZ (hw _ (List.mem_of_getElem? (i := 19) rfl))) (mvT hZ (hw _ (List.mem_of_getElem? (i := 20) rfl))) (mvT hZ (hw _ (List.mem_of_getElem? (i := 21) rfl))) (by decide) (backOf (W := 1) (rm2 l Z a0 hw [] (yy + ((v2 &&& (7 : Int32)) - (4 : Int32))) h70 n0 Za70) hZ (hw _ (List.mem_of_getElem? (i := 21) rfl)) (hw _ (List.mem_of_getElem? (i := 20) rfl)) (by decide) (by decide)) (g := (mkF m 255 #[.val (.int v0), .val (.int v1), .val (.int v2), .val (.ref aa), .val (.int (yy + ((v2 &&& (7 : Int32)) - (4 : Int32))))] [(.int (yy + ((v2 &&& (7 : Int32)) - (4 : Int32)))), (.int (f1_0 (yy + ((v2 &&& (7 : Int32)) - (4 : Int32)))))])) rfl (by rw [hml]; rfl) (argsL := [(.int (yy + ((v2 &&& (7 : Int32)) - (4 : Int32))))]) (rest := [(.int (f1_0 (yy + ((v2 &&& (7 : Int32)) - (4 : Int32)))))]) (lenOf pd_2 rfl) rfl (by show 2 * 0 + _ ≤ _; exact Nat.le_of_eq rfl) (hb hby at_255) (fun _ _ => ⟨rfl, e81, (by decide : 1 + 0 ≤ _), (by decide : 34 + 0 ≤ _)⟩)
  dsimp only [Pt.U, Pt.locs, Pt.cells, Pt.slots] at X83 l83 y83 z83 st83 hQ83
  subst l83 y83 z83
  obtain ⟨rfl, Nc83, e83⟩ := hQ83
  have N83 := Fr.app N81 Nc83
  have heq1 : f1_0 (yy + ((v2 &&& (7 : Int32)) - (4 : Int32))) = f2_0 (yy + ((v2 &&& (7 : Int32)) - (4 : Int32))) := own_law _
  have sg84 : ∀ t, Steps p.tables e below (T83.setTop (mkF m 266 #[.val (.int v0), .val (.int v1), .val (.int v2), .val (.ref aa), .val (.int (yy + ((v2 &&& (7 : Int32)) - (4 : Int32))))] [(.int (1 : Int32))])) t → Steps p.tables e below (T83.setTop (mkF m 258 #[.val (.int v0), .val (.int v1), .val (.int v2), .val (.ref aa), .val (.int (yy + ((v2 &&& (7 : Int32)) - (4 : Int32))))] [(.int (f2_0 (yy + ((v2 &&& (7 : Int32)) - (4 : Int32))))), (.int (f1_0 (yy + ((v2 &&& (7 : Int32)) - (4 : Int32)))))])) t := by
    intro t k
    show Steps p.tables e below (T83.setTop (mkF m 258 #[.val (.int v0), .val (.int v1), .val (.int v2), .val (.ref aa), .val (.int (yy + ((v2 &&& (7 : Int32)) - (4 : Int32))))] [(.int (f2_0 (yy + ((v2 &&& (7 : Int32)) - (4 : Int32))))), (.int (f1_0 (yy + ((v2 &&& (7 : Int32)) - (4 : Int32)))))])) _
    refine XS.icmpNo X83.here hx rfl (hb hby at_258) rfl (teq heq1).2 ?_
    show Steps p.tables e below (T83.setTop (mkF m 261 #[.val (.int v0), .val (.int v1), .val (.int v2), .val (.ref aa), .val (.int (yy + ((v2 &&& (7 : Int32)) - (4 : Int32))))] [])) _
    refine XS.iconst X83.here hx rfl (hb hby at_261) ?_
    show Steps p.tables e below (T83.setTop (mkF m 262 #[.val (.int v0), .val (.int v1), .val (.int v2), .val (.ref aa), .val (.int (yy + ((v2 &&& (7 : Int32)) - (4 : Int32))))] [(.int (1 : Int32))])) _
    refine XS.goto X83.here hx rfl (pc0 := 262) (pc' := 266) rfl (hb hby at_262) (by decide) (by decide) ?_
    show Steps p.tables e below (T83.setTop (mkF m 266 #[.val (.int v0), .val (.int v1), .val (.int v2), .val (.ref aa), .val (.int (yy + ((v2 &&& (7 : Int32)) - (4 : Int32))))] [(.int (1 : Int32))])) _
    exact k
  obtain ⟨fs, hr, hrun, hended, hW, hsame⟩ := X83.leave (v := some (.int (1 : Int32))) (fun h => by rw [Bd.returns] at h; cases h)
  refine ⟨_, _, pre0 _ ?_, hrun, hended, _, _, rfl, ?_, ⟨_, rfl⟩, hW, hsame.mono (by decide) (by decide)⟩
  · refine sg1 _ ?_
    refine st2 _ ?_
    refine sg3 _ ?_
    refine st4 _ ?_
    refine sg5 _ ?_
    refine st6 _ ?_
    refine sg7 _ ?_
    refine st8 _ ?_
    refine sg9 _ ?_
    refine st10 _ ?_
    refine sg11 _ ?_
    refine st12 _ ?_
    refine sg13 _ ?_
    refine st14 _ ?_
    refine sg15 _ ?_
    refine st16 _ ?_
    refine sg17 _ ?_
    refine st18 _ ?_
    refine sg19 _ ?_
    refine st20 _ ?_
    refine sg21 _ ?_
    refine st22 _ ?_
    refine sg23 _ ?_
    refine st24 _ ?_
    refine sg25 _ ?_
    refine st26 _ ?_
    refine sg27 _ ?_
    refine st28 _ ?_
    refine sg29 _ ?_
    refine st30 _ ?_
    refine sg31 _ ?_
    refine st32 _ ?_
    refine sg33 _ ?_
    refine st34 _ ?_
    refine sg35 _ ?_
    refine st36 _ ?_
    refine sg37 _ ?_
    refine st38 _ ?_
    refine sg39 _ ?_
    refine st40 _ ?_
    refine sg41 _ ?_
    refine st42 _ ?_
    refine sg43 _ ?_
    refine st44 _ ?_
    refine sg45 _ ?_
    refine st46 _ ?_
    refine sg47 _ ?_
    refine st48 _ ?_
    refine sg49 _ ?_
    refine st50 _ ?_
    refine sg51 _ ?_
    refine st52 _ ?_
    refine sg53 _ ?_
    refine st54 _ ?_
    refine sg55 _ ?_
    refine st56 _ ?_
    refine sg57 _ ?_
    refine st58 _ ?_
    refine sg59 _ ?_
    refine st60 _ ?_
    refine sg61 _ ?_
    refine st62 _ ?_
    refine sg63 _ ?_
    refine st64 _ ?_
    refine sg65 _ ?_
    refine st66 _ ?_
    refine sg67 _ ?_
    refine st68 _ ?_
    refine sg69 _ ?_
    refine st70 _ ?_
    refine sg71 _ ?_
    refine st72 _ ?_
    refine sg73 _ ?_
    refine st74 _ ?_
    refine sg75 _ ?_
    refine st76 _ ?_
    refine sg77 _ ?_
    refine st78 _ ?_
    refine sg79 _ ?_
    refine sg80 _ ?_
    refine st81 _ ?_
    refine sg82 _ ?_
    refine st83 _ ?_
    refine sg84 _ ?_
    show Steps p.tables e below (T83.setTop (mkF m 266 #[.val (.int v0), .val (.int v1), .val (.int v2), .val (.ref aa), .val (.int (yy + ((v2 &&& (7 : Int32)) - (4 : Int32))))] [(.int (1 : Int32))])) _
    exact retN X83 hx (t := .boolean) Bd.returns (by simp) (hb hby at_266) hr
  · exact ⟨rfl, N83⟩
set_option maxRecDepth 65536 in
set_option maxHeartbeats 40000000 in
theorem comes_1 {Post : Tables → Env → Array Value → State → Outcome → State → Prop} (hpost : ∀ tb e args s v u, (limb_1_1.after args s (.returned v) u = true ∧ limb_1_2.after args s (.returned v) u = true ∧ True) → FrameEnd s (.returned v) u (Jvm.fieldLocs frame_1_writes args s ++ Jvm.arrayLocs frame_1_arrays args s ++ Jvm.staticLocs frame_1_statics s) 16 192 → Post tb e args s (.returned v) u) :
    ArmFor flags0 classFile x code maxLocals ret World_1 tables_1 room_1 Calls_1 rest_1 Pre_1 Post := by
  intro l hfl _ _ p e ha hc hk s m args below hf hA hF happ hP
  obtain ⟨hcalls, hrest, hpre⟩ := hP
  obtain ⟨-, -, -, hnamed, -, -, -, hat⟩ := (Spec.applies_iff hf).mp happ
  obtain ⟨hg, hn⟩ := and_e (Cond.before_iff.mp (show (Jvm.Cond.and given_1 narrow_1).before args s = true from hpre))
  obtain ⟨hcount, q0⟩ := and_e hg
  obtain ⟨g0, q1⟩ := and_e q0
  obtain ⟨g1, q2⟩ := and_e q1
  obtain ⟨w0, w1, w2, rfl⟩ : ∃ w0 w1 w2 : Value, args = #[w0, w1, w2] := by
    have hs : args.size = 3 := by simpa [Cond.value, given_1] using hcount
    obtain ⟨L⟩ := args
    match L, hs with
    | [w0, w1, w2], _ => exact ⟨w0, w1, w2, rfl⟩
  have hw := fun d (hd : d ∈ tables_1) => atoms_spec (ws := Jvm.Cond.code x code maxLocals ret :: tables_1) hat d (List.mem_cons_of_mem _ hd)
  obtain ⟨i0, r0⟩ := is_v g0
  obtain rfl : w0 = (.int i0) := Option.some.inj r0
  obtain ⟨i1, r1⟩ := is_v g1
  obtain rfl : w1 = (.int i1) := Option.some.inj r1
  obtain ⟨i2, r2⟩ := is_v q2
  obtain rfl : w2 = (.int i2) := Option.some.inj r2
  obtain ⟨n, o, h1, h2, h3, _, L, rfl, ⟨rfl, N⟩, hq⟩ := rm0 l s _ hw tables_1 i0 i1 i2 s.heap s.heap.size (Nat.le_refl _)  p e ha hc hk s m _ below hf ((Spec.applies_iff_loose hf).mp happ).1 ⟨rfl, State.Warmed39.refl s, rfl⟩ trivial
  refine ⟨n, _, h1, h2, h3, hpost _ _ _ _ _ _ ⟨Cond.after_iff.mpr rfl, Cond.after_iff.mpr (eq_i res_at (Term.int_eval (1)) rfl), trivial⟩ ⟨hq.1, hq.2.1, (hq.2.2.sift fun y hy => Or.inr (N y hy)).mono (by decide) (by decide)⟩⟩
theorem main_1_1 : Claimed_1_1 := comes_1 fun _ _ _ _ _ _ h hF => ⟨h.1, hF⟩
theorem main_1_2 : Claimed_1_2 := comes_1 fun _ _ _ _ _ _ h hF => ⟨h.2.1, hF⟩
end Jvm.Pilot.@@N@@
namespace Jvm.Pilot.@@N@@
open Jvm Jvm.ClassFile Sem Op Lib Jvm.Free Jvm.Stand Jvm.Pilot.@@N@@.Jvm.D
/-! MADE BY PROGRAM (witnessworld.py) out of the Statement's table words and the real class files: 9 classes; the members and pool entries that the words name. The judged class is class 1, her method 2. -/
namespace start1
open Jvm.ClassFile
def u (s : String) : CpInfo := .utf8 (stringToUtf16 s)
/-- a pool by its gaps: so many unusable entries, then the entry; so many at the end -/
def gap : Nat → List CpInfo → List CpInfo
  | 0, r => r
  | n + 1, r => .unusable :: gap n r
def poolList (es : List (Nat × CpInfo)) (last : Nat) : List CpInfo := es.foldr (fun e r => gap e.1 (e.2 :: r)) (gap last [])
def pool (es : List (Nat × CpInfo)) (last : Nat) : Array CpInfo := ⟨poolList es last⟩
def fileOf (pool : Array CpInfo) (this : Nat) (attrs : Array Attribute := #[]) (ms : Array MethodInfo := #[]) (fl : Nat := 33) (sup : Nat := 0) (ifs : Array Nat := #[]) (fds : Array FieldInfo := #[]) : ClassFile where
  minorVersion := 0
  majorVersion := 65
  constantPool := pool
  accessFlags := fl
  thisClass := this
  superClass := sup
  interfaces := ifs
  fields := fds
  methods := ms
  attributes := attrs
def plain (name : String) (sup : Option ClassId) : Class where
  name := name
  kind := .ordinary
  loader := none
  accessFlags := 33
  super := sup
  interfaces := #[]
  cf := none
  fields := #[]
  methods := #[]
  instanceTypes := #[]
  staticTypes := #[]
  resolved := #[]
  callSites := []
  init := .initialized
  statics := none
  mirror := none

def pool0 : Array CpInfo := pool [(5, u "<init>"), (0, u "()V"), (1, .class_ 10), (1, u "java/lang/Object")] 113

def k0m0 : Method := { name := "<init>", desc := "()V", sig := { parameters := [], returnType := none }, accessFlags := 1, code := none }
/-- java/lang/Object -/
def k0 : Class := { plain "java/lang/Object" none with
  accessFlags := 33
  interfaces := #[]
  cf := some (fileOf pool0 8 #[] #[{ accessFlags := 1, nameIndex := 5, descriptorIndex := 6, attributes := #[] }] 33 0 #[] #[])
  fields := #[]
  methods := #[k0m0]
  instanceTypes := #[]
  staticTypes := #[]
  resolved := Array.replicate 124 none
  statics := none }

def pool1 : Array CpInfo := pool [(2, .class_ 4), (1, u "java/lang/Object"), (0, u "<init>"), (0, u "()V"), (0, .integer 983039), (0, .integer 65536), (0, .integer 55296), (0, .integer 63744), (0, .integer 64976), (0, .integer 65008), (0, .integer 65534), (0, .integer 983040), (2, .integer 2147483652), (0, .integer 2147483644), (0, .integer 2147483647), (0, .methodref 21 22), (0, .class_ 23), (0, .nameAndType 24 25), (0, u "com/example/riddle/riddle/xdm/QName"), (0, u "isNameStart"), (0, u "(I)Z"), (0, .methodref 27 28), (0, .class_ 29), (0, .nameAndType 30 25), (0, u "com/example/riddle/riddle/xdm/QNameIsNameStartPinLaw"), (0, u "ref"), (3, u "law"), (0, u "(III)Z")] 4

def k1m0 : Method := { name := "<init>", desc := "()V", sig := { parameters := [], returnType := none }, accessFlags := 1, code := none }
def k1c1 : Code := { maxStack := 2, maxLocals := 1, code := method_2_code, exceptionTable := #[], attributes := #[] }
def k1m1 : Method := { name := "ref", desc := "(I)Z", sig := { parameters := [.int], returnType := some .boolean }, accessFlags := 10, code := some k1c1 }
def k1c2 : Code := { maxStack := 4, maxLocals := 5, code := code, exceptionTable := #[], attributes := #[] }
def k1m2 : Method := { name := "law", desc := "(III)Z", sig := { parameters := [.int, .int, .int], returnType := some .boolean }, accessFlags := 9, code := some k1c2 }
/-- com/example/riddle/riddle/xdm/QNameIsNameStartPinLaw -/
def k1 : Class := { plain "com/example/riddle/riddle/xdm/QNameIsNameStartPinLaw" (some 0) with
  accessFlags := 49
  interfaces := #[]
  cf := some (fileOf pool1 27 #[] #[{ accessFlags := 1, nameIndex := 5, descriptorIndex := 6, attributes := #[] }, { accessFlags := 10, nameIndex := 30, descriptorIndex := 25, attributes := #[] }, { accessFlags := 9, nameIndex := 34, descriptorIndex := 35, attributes := #[] }] 49 2 #[] #[])
  fields := #[]
  methods := #[k1m0, k1m1, k1m2]
  instanceTypes := #[]
  staticTypes := #[]
  resolved := Array.replicate 40 none
  statics := none }

def pool2 : Array CpInfo := pool [(2, .class_ 4), (1, u "java/lang/Object"), (11, .class_ 18), (1, u "com/example/riddle/riddle/xdm/QName"), (0, u "namespaceUri"), (0, u "Ljava/lang/String;"), (2, u "localName"), (2, u "prefix"), (23, u "isNameStart"), (0, u "(I)Z"), (11, .integer 55295), (0, .integer 63744), (0, .integer 64975), (0, .integer 65008), (0, .integer 65533), (0, .integer 65536), (0, .integer 983039)] 28

def k2c0 : Code := { maxStack := 2, maxLocals := 1, code := prog_202_method_10_code, exceptionTable := #[], attributes := #[] }
def k2m0 : Method := { name := "isNameStart", desc := "(I)Z", sig := { parameters := [.int], returnType := some .boolean }, accessFlags := 9, code := some k2c0 }
/-- com/example/riddle/riddle/xdm/QName -/
def k2 : Class := { plain "com/example/riddle/riddle/xdm/QName" (some 0) with
  accessFlags := 49
  interfaces := #[]
  cf := some (fileOf pool2 16 #[] #[{ accessFlags := 9, nameIndex := 50, descriptorIndex := 51, attributes := #[] }] 49 2 #[] #[{ accessFlags := 18, nameIndex := 19, descriptorIndex := 20, attributes := #[] }, { accessFlags := 18, nameIndex := 23, descriptorIndex := 20, attributes := #[] }, { accessFlags := 18, nameIndex := 26, descriptorIndex := 20, attributes := #[] }])
  fields := #[{ name := "namespaceUri", type := (.object "java/lang/String"), accessFlags := 18, slot := 0, constantValue := 0 }, { name := "localName", type := (.object "java/lang/String"), accessFlags := 18, slot := 1, constantValue := 0 }, { name := "prefix", type := (.object "java/lang/String"), accessFlags := 18, slot := 2, constantValue := 0 }]
  methods := #[k2m0]
  instanceTypes := #[(.object "java/lang/String"), (.object "java/lang/String"), (.object "java/lang/String")]
  staticTypes := #[]
  resolved := Array.replicate 98 none
  statics := none }

def pool3 : Array CpInfo := pool [(1, u "java/lang/Cloneable"), (0, .class_ 1), (0, u "java/lang/Object"), (0, .class_ 3)] 3

/-- java/lang/Cloneable -/
def k3 : Class := { plain "java/lang/Cloneable" (some 0) with
  accessFlags := 1537
  interfaces := #[]
  cf := some (fileOf pool3 2 #[] #[] 1537 4 #[] #[])
  fields := #[]
  methods := #[]
  instanceTypes := #[]
  staticTypes := #[]
  resolved := Array.replicate 8 none
  statics := none }

def pool4 : Array CpInfo := pool [(1, u "java/io/Serializable"), (0, .class_ 1), (0, u "java/lang/Object"), (0, .class_ 3)] 3

/-- java/io/Serializable -/
def k4 : Class := { plain "java/io/Serializable" (some 0) with
  accessFlags := 1537
  interfaces := #[]
  cf := some (fileOf pool4 2 #[] #[] 1537 4 #[] #[])
  fields := #[]
  methods := #[]
  instanceTypes := #[]
  staticTypes := #[]
  resolved := Array.replicate 8 none
  statics := none }

/-- the primitive byte -/
def k5 : Class := { plain "byte" none with kind := .primitive 'B', accessFlags := 0x411 }
/-- [B -/
def k6 : Class := { plain "[B" (some 0) with kind := .array 5 .byte, interfaces := #[3, 4], accessFlags := 1041 }

/-- the primitive int -/
def k7 : Class := { plain "int" none with kind := .primitive 'I', accessFlags := 0x411 }
/-- [I -/
def k8 : Class := { plain "[I" (some 0) with kind := .array 7 .int, interfaces := #[3, 4], accessFlags := 1041 }

def heap : Heap := #[]
def classes : Array Class := #[k0, k1, k2, k3, k4, k5, k6, k7, k8]
def interned : List (Array UInt16 × Addr) := []
def slotsUsed : Nat := 0
def theMethod : MethodId := ⟨1, 2⟩
def args0 : Array Value := #[.int 5, .int 6, .int 7]
def aboutOver (below : List Frame) : State where
  vm := { classes := classes, interned := interned.toArray }
  heap := heap
  slotsUsed := slotsUsed
  threads := #[{ frames := .invoking theMethod args0 :: below }]
def below0 : List Frame := [.native { method := ⟨0, 0⟩, args := #[] }]
def about1 : State := aboutOver below0
def p0 : Program := .bare "" "" ""
def e0 : Env := launch0.env 0 0 0
theorem w_frames : about1.frames = Frame.invoking theMethod args0 :: below0 := rfl
set_option maxRecDepth 65536 in
theorem w_args : argsFit about1.vm theMethod args0 = true := by decide +kernel
set_option maxRecDepth 65536 in
theorem w_heap : heapFits about1 = true := by decide +kernel
set_option maxRecDepth 65536 in
theorem w_runnable : about1.curStatus? = some .runnable := by decide +kernel
set_option maxRecDepth 65536 in
theorem w_alone : about1.alone = true := by decide +kernel
set_option maxRecDepth 65536 in
theorem w_named : about1.methodNamed? x = some theMethod := by decide +kernel
set_option maxRecDepth 65536 in
theorem w_hears : about1.hears theMethod below0 = true := by decide +kernel
set_option maxRecDepth 65536 in
theorem w_ripe : about1.ripe theMethod args0 below0 = true := by decide +kernel
theorem w_running : about1.status = .running := rfl
set_option maxRecDepth 65536 in
theorem w_room : about1.hasRoom e0.platform room_1 = true :=
  launch0.hasRoom_least _ room_1 (by decide +kernel) (by decide +kernel) (by decide +kernel) (by decide +kernel) (by decide +kernel) (by decide +kernel)
theorem allAtoms_all (ts : List Jvm.Cond) (a : Array Jvm.Value) (st : Jvm.State) : (allAtoms ts).before a st = ts.all (fun c => c.before a st) := by
  induction ts with
  | nil => rfl
  | cons c t ih =>
    show (Jvm.Cond.and c (allAtoms t)).before a st = _
    rw [Jvm.Cond.before_and, ih, List.all_cons]
def words1 : List Jvm.Cond := Jvm.Cond.code x code maxLocals ret :: tables_1
/-- a 'code' word, met by the world's own term for the bytes: nothing is compared byte by byte -/
theorem code_word {y : MethodName} {bytes : ByteArray} {mx : Nat} {rt : Option FieldType} {a : Array Value} {s : State} {m : MethodId} {meth : Method} {c : Code} (h1 : s.methodNamed? y = some m) (h2 : s.vm.method? m = some meth) (h3 : meth.code = some c) (h4 : c.code = bytes)
    (h5 : (c.maxLocals == mx && c.exceptionTable.isEmpty && decide (c.maxStack ≤ mostOperands) && decide (meth.sig.returnType = rt) && !meth.locks && decide (parseMethodDescriptor y.desc = some meth.sig)) = true) : (Jvm.Cond.code y bytes mx rt).before a s = true := by
  simp only [Bool.and_eq_true, beq_iff_eq, Bool.not_eq_true', decide_eq_true_eq] at h5
  obtain ⟨⟨⟨⟨⟨g1, g2⟩, g3⟩, g4⟩, g5⟩, g6⟩ := h5
  simp [Cond.before, Cond.holds, Cond.value, h1, h2, h3, h4, g1, g2, g3, g4, g5, g6]
def isCode : Jvm.Cond → Bool
  | .code _ _ _ _ => true
  | _ => false
theorem all_split {L : List Jvm.Cond} {P : Jvm.Cond → Bool} (h1 : L.all (fun c => isCode c || P c) = true) (h2 : ∀ c ∈ L.filter isCode, P c = true) : L.all P = true := by
  refine List.all_eq_true.mpr fun c hc => ?_
  have h := List.all_eq_true.mp h1 c hc
  rcases Bool.eq_false_or_eq_true (isCode c) with hi | hi
  · exact h2 c (List.mem_filter.mpr ⟨hc, hi⟩)
  · simpa [hi] using h
set_option maxRecDepth 65536 in
theorem w_c0 : (Jvm.Cond.code x code maxLocals ret).before args0 about1 = true := code_word (m := ⟨1, 2⟩) (meth := k1m2) (c := k1c2) (by decide +kernel) rfl rfl rfl (by decide +kernel)
set_option maxRecDepth 65536 in
theorem w_c1 : (Jvm.Cond.code ({ cls := "com/example/riddle/riddle/xdm/QName", name := "isNameStart", desc := "(I)Z" } : Jvm.MethodName) prog_202_method_10_code (1 : Nat) (Option.some Jvm.ClassFile.FieldType.boolean)).before args0 about1 = true := code_word (m := ⟨2, 0⟩) (meth := k2m0) (c := k2c0) (by decide +kernel) rfl rfl rfl (by decide +kernel)
set_option maxRecDepth 65536 in
theorem w_c2 : (Jvm.Cond.code ({ cls := "com/example/riddle/riddle/xdm/QNameIsNameStartPinLaw", name := "ref", desc := "(I)Z" } : Jvm.MethodName) method_2_code (1 : Nat) (Option.some Jvm.ClassFile.FieldType.boolean)).before args0 about1 = true := code_word (m := ⟨1, 1⟩) (meth := k1m1) (c := k1c1) (by decide +kernel) rfl rfl rfl (by decide +kernel)
def codes1 : List Jvm.Cond := [Jvm.Cond.code x code maxLocals ret, Jvm.Cond.code ({ cls := "com/example/riddle/riddle/xdm/QName", name := "isNameStart", desc := "(I)Z" } : Jvm.MethodName) prog_202_method_10_code (1 : Nat) (Option.some Jvm.ClassFile.FieldType.boolean), Jvm.Cond.code ({ cls := "com/example/riddle/riddle/xdm/QNameIsNameStartPinLaw", name := "ref", desc := "(I)Z" } : Jvm.MethodName) method_2_code (1 : Nat) (Option.some Jvm.ClassFile.FieldType.boolean)]
set_option maxRecDepth 65536 in
theorem codes_eq : words1.filter isCode = codes1 := rfl
theorem w_codes : ∀ c ∈ words1.filter isCode, c.before args0 about1 = true := by
  rw [codes_eq]
  intro c hc
  simp only [codes1, List.mem_cons, List.not_mem_nil, or_false] at hc
  rcases hc with rfl | rfl | rfl
  · exact w_c0
  · exact w_c1
  · exact w_c2
set_option maxRecDepth 65536 in
theorem w_t1 : (words1.take 24).all (fun c => isCode c || c.before args0 about1) = true := by decide +kernel
set_option maxRecDepth 65536 in
theorem w_t2 : (words1.drop 24).all (fun c => isCode c || c.before args0 about1) = true := by decide +kernel
theorem w_tables : (allAtoms (Jvm.Cond.code x code maxLocals ret :: tables_1)).before args0 about1 = true := by
  rw [allAtoms_all]
  show words1.all (fun c => c.before args0 about1) = true
  refine all_split ?_ w_codes
  rw [← List.take_append_drop 24 words1, List.all_append, w_t1, w_t2]
  rfl
set_option maxRecDepth 65536 in
theorem w_case : (Jvm.Cond.and given_1 narrow_1).before args0 about1 = true := by decide +kernel
theorem w_applies : (headSpec (Jvm.Cond.code x code maxLocals ret :: tables_1) room_1).applies x e0.platform about1 = true :=
  (Spec.applies_iff w_frames).mpr ⟨w_running, w_runnable, w_alone, w_named, w_hears, w_ripe, w_room, w_tables⟩
theorem atStart : AtStart classFile x code maxLocals ret World_1 tables_1 room_1 Calls_1 rest_1 Pre_1 launch0 p0 e0 about1 theMethod args0 below0 :=
  ⟨lists_1, trivial, launch0.admits_env _ _ _, launch0.least_env, fairChoices_fair.cas, fairChoices_fair.clock, w_frames, w_args, w_heap, w_applies, trivial, trivial, w_case⟩
end start1
theorem witness_1 : WitnessClaimed_1 := ⟨start1.p0, start1.e0, start1.about1, start1.theMethod, start1.args0, start1.below0, start1.atStart⟩
end Jvm.Pilot.@@N@@
