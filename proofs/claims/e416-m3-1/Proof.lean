import JvmDerived
import JvmDerived.Pilot.@@N@@Statement
import JvmDerived.Pilot.@@N@@Code
set_option linter.unusedVariables false
set_option linter.unusedSimpArgs false
namespace Jvm.Pilot.@@N@@
open Jvm Jvm.ClassFile Sem Op Lib Jvm.Free Jvm.Stand Jvm.LawKit Jvm.RoadKit Bundle Jvm.Pilot.@@N@@.Jvm.D
/-- what a return of the int z asks of the frames below -/
abbrev own_Rt (e : Env) (T : State) (m : MethodId) (fs : List Frame) (w : Value) : Prop := ∀ (f : JFrame) (acts : List Action), f.method = m → f.locked = none → f.entered = [] → (doReturn e (T.setTop f) acts (some w)).1 = T.setFrames fs
theorem d1_0 : decode method_2_code 0 = .ok (.iload_n 0, 1) := by decide +kernel
theorem d1_1 : decode method_2_code 1 = .ok (.ifCond .ne 7, 3) := by decide +kernel
theorem d1_4 : decode method_2_code 4 = .ok (.getstatic 7, 3) := by decide +kernel
theorem d1_7 : decode method_2_code 7 = .ok (.areturn, 1) := by decide +kernel
theorem d1_8 : decode method_2_code 8 = .ok (.iload_n 0, 1) := by decide +kernel
theorem d1_9 : decode method_2_code 9 = .ok (.iconst 1, 1) := by decide +kernel
theorem d1_10 : decode method_2_code 10 = .ok (.if_icmp .ne 7, 3) := by decide +kernel
theorem d1_13 : decode method_2_code 13 = .ok (.getstatic 13, 3) := by decide +kernel
theorem d1_16 : decode method_2_code 16 = .ok (.areturn, 1) := by decide +kernel
theorem d1_17 : decode method_2_code 17 = .ok (.iload_n 0, 1) := by decide +kernel
theorem d1_18 : decode method_2_code 18 = .ok (.iconst 2, 1) := by decide +kernel
theorem d1_19 : decode method_2_code 19 = .ok (.if_icmp .ne 7, 3) := by decide +kernel
theorem d1_22 : decode method_2_code 22 = .ok (.getstatic 16, 3) := by decide +kernel
theorem d1_25 : decode method_2_code 25 = .ok (.areturn, 1) := by decide +kernel
theorem d1_26 : decode method_2_code 26 = .ok (.iload_n 0, 1) := by decide +kernel
theorem d1_27 : decode method_2_code 27 = .ok (.iconst 3, 1) := by decide +kernel
theorem d1_28 : decode method_2_code 28 = .ok (.if_icmp .ne 7, 3) := by decide +kernel
theorem d1_31 : decode method_2_code 31 = .ok (.getstatic 19, 3) := by decide +kernel
theorem d1_34 : decode method_2_code 34 = .ok (.areturn, 1) := by decide +kernel
theorem d1_35 : decode method_2_code 35 = .ok (.iload_n 0, 1) := by decide +kernel
theorem d1_36 : decode method_2_code 36 = .ok (.iconst 4, 1) := by decide +kernel
theorem d1_37 : decode method_2_code 37 = .ok (.if_icmp .ne 7, 3) := by decide +kernel
theorem d1_40 : decode method_2_code 40 = .ok (.getstatic 22, 3) := by decide +kernel
theorem d1_43 : decode method_2_code 43 = .ok (.areturn, 1) := by decide +kernel
theorem d1_44 : decode method_2_code 44 = .ok (.iload_n 0, 1) := by decide +kernel
theorem d1_45 : decode method_2_code 45 = .ok (.iconst 5, 1) := by decide +kernel
theorem d1_46 : decode method_2_code 46 = .ok (.if_icmp .ne 7, 3) := by decide +kernel
theorem d1_49 : decode method_2_code 49 = .ok (.getstatic 25, 3) := by decide +kernel
theorem d1_52 : decode method_2_code 52 = .ok (.areturn, 1) := by decide +kernel
theorem d1_53 : decode method_2_code 53 = .ok (.iload_n 0, 1) := by decide +kernel
theorem d1_54 : decode method_2_code 54 = .ok (.bipush 6, 2) := by decide +kernel
theorem d1_56 : decode method_2_code 56 = .ok (.if_icmp .ne 7, 3) := by decide +kernel
theorem d1_59 : decode method_2_code 59 = .ok (.getstatic 28, 3) := by decide +kernel
theorem d1_62 : decode method_2_code 62 = .ok (.areturn, 1) := by decide +kernel
theorem d1_63 : decode method_2_code 63 = .ok (.iload_n 0, 1) := by decide +kernel
theorem d1_64 : decode method_2_code 64 = .ok (.bipush 7, 2) := by decide +kernel
theorem d1_66 : decode method_2_code 66 = .ok (.if_icmp .ne 7, 3) := by decide +kernel
theorem d1_69 : decode method_2_code 69 = .ok (.getstatic 31, 3) := by decide +kernel
theorem d1_72 : decode method_2_code 72 = .ok (.areturn, 1) := by decide +kernel
theorem d1_73 : decode method_2_code 73 = .ok (.iload_n 0, 1) := by decide +kernel
theorem d1_74 : decode method_2_code 74 = .ok (.bipush 8, 2) := by decide +kernel
theorem d1_76 : decode method_2_code 76 = .ok (.if_icmp .ne 7, 3) := by decide +kernel
theorem d1_79 : decode method_2_code 79 = .ok (.getstatic 34, 3) := by decide +kernel
theorem d1_82 : decode method_2_code 82 = .ok (.areturn, 1) := by decide +kernel
theorem d1_83 : decode method_2_code 83 = .ok (.iload_n 0, 1) := by decide +kernel
theorem d1_84 : decode method_2_code 84 = .ok (.bipush 9, 2) := by decide +kernel
theorem d1_86 : decode method_2_code 86 = .ok (.if_icmp .ne 7, 3) := by decide +kernel
theorem d1_89 : decode method_2_code 89 = .ok (.getstatic 37, 3) := by decide +kernel
theorem d1_92 : decode method_2_code 92 = .ok (.areturn, 1) := by decide +kernel
theorem d1_93 : decode method_2_code 93 = .ok (.iload_n 0, 1) := by decide +kernel
theorem d1_94 : decode method_2_code 94 = .ok (.bipush 10, 2) := by decide +kernel
theorem d1_96 : decode method_2_code 96 = .ok (.if_icmp .ne 7, 3) := by decide +kernel
theorem d1_99 : decode method_2_code 99 = .ok (.getstatic 40, 3) := by decide +kernel
theorem d1_102 : decode method_2_code 102 = .ok (.areturn, 1) := by decide +kernel
theorem d1_103 : decode method_2_code 103 = .ok (.iload_n 0, 1) := by decide +kernel
theorem d1_104 : decode method_2_code 104 = .ok (.bipush 11, 2) := by decide +kernel
theorem d1_106 : decode method_2_code 106 = .ok (.if_icmp .ne 7, 3) := by decide +kernel
theorem d1_109 : decode method_2_code 109 = .ok (.getstatic 43, 3) := by decide +kernel
theorem d1_112 : decode method_2_code 112 = .ok (.areturn, 1) := by decide +kernel
theorem d1_113 : decode method_2_code 113 = .ok (.iload_n 0, 1) := by decide +kernel
theorem d1_114 : decode method_2_code 114 = .ok (.bipush 12, 2) := by decide +kernel
theorem d1_116 : decode method_2_code 116 = .ok (.if_icmp .ne 7, 3) := by decide +kernel
theorem d1_119 : decode method_2_code 119 = .ok (.getstatic 46, 3) := by decide +kernel
theorem d1_122 : decode method_2_code 122 = .ok (.areturn, 1) := by decide +kernel
theorem d1_123 : decode method_2_code 123 = .ok (.getstatic 49, 3) := by decide +kernel
theorem d1_126 : decode method_2_code 126 = .ok (.areturn, 1) := by decide +kernel
theorem pn_1 : plainName "com/example/riddle/riddle/xdm/AtomicTypeIsSubtypeOfPinLaw" = true := by first | (simp [plainName, overriddenIn]; done) | decide +kernel
theorem ef_1 (m : MethodId) (x0 : Int32) : entryFrame m #[(.int x0)] 1 = (mkF m 0 #[.val (.int x0)] []) := by first | (simp [entryFrame, mkF, argsToLocals, Value.category]; done) | rfl
theorem pd_1 : parseMethodDescriptor "(I)Lcom/example/riddle/riddle/xdm/AtomicType;" = some ⟨[.int], some (.object "com/example/riddle/riddle/xdm/AtomicType")⟩ := by decide +kernel
def own_nm : Nat → String := fun k => (["ANY_ATOMIC", "UNTYPED_ATOMIC", "STRING", "BOOLEAN", "NUMERIC", "DECIMAL", "INTEGER", "FLOAT", "DOUBLE", "DATE_TIME", "DATE", "TIME", "ANY_URI", "HEX_BINARY"] : List String).getD k ""
def own_ix (v : Int32) : Nat := if v = (0 : Int32) then 0 else if v = (1 : Int32) then 1 else if v = (2 : Int32) then 2 else if v = (3 : Int32) then 3 else if v = (4 : Int32) then 4 else if v = (5 : Int32) then 5 else if v = (6 : Int32) then 6 else if v = (7 : Int32) then 7 else if v = (8 : Int32) then 8 else if v = (9 : Int32) then 9 else if v = (10 : Int32) then 10 else if v = (11 : Int32) then 11 else if v = (12 : Int32) then 12 else 13
theorem own_ite_lt {c : Prop} [Decidable c] {a b n : Nat} (h1 : a < n) (h2 : b < n) : (if c then a else b) < n := by split <;> assumption
theorem own_ix_lt (v : Int32) : own_ix v < 14 := (own_ite_lt (by decide) (own_ite_lt (by decide) (own_ite_lt (by decide) (own_ite_lt (by decide) (own_ite_lt (by decide) (own_ite_lt (by decide) (own_ite_lt (by decide) (own_ite_lt (by decide) (own_ite_lt (by decide) (own_ite_lt (by decide) (own_ite_lt (by decide) (own_ite_lt (by decide) (own_ite_lt (by decide) (by decide))))))))))))))
def Q1 (A : Nat → Addr) (vv : Int32) (h0 : Heap) (n0 : Nat) (v : Option Value) (h : Heap) (L : List Loc) : Prop := v = some (.ref (A (own_ix vv))) ∧ Fr n0 L ∧ h = h0
set_option maxRecDepth 65536 in
set_option maxHeartbeats 40000000 in
theorem rm1 (l : Launch) (Z : State) (a0 : Array Value) (hw : ∀ d ∈ tables_1, d.before a0 Z = true) (ws : List Jvm.Cond) (A : Nat → Addr) (vv : Int32) (h0 : Heap) (n0 : Nat) (Z0 : n0 ≤ h0.size) (hS : ∀ k, k < 14 → Sta Z h0 "com/example/riddle/riddle/xdm/AtomicType" (own_nm k) "Lcom/example/riddle/riddle/xdm/AtomicType;" (.ref (A k))) :
    MetFree l (⟨"com/example/riddle/riddle/xdm/AtomicTypeIsSubtypeOfPinLaw", "pick", "(I)Lcom/example/riddle/riddle/xdm/AtomicType;"⟩ : MethodName) (head1 (Jvm.Cond.code (⟨"com/example/riddle/riddle/xdm/AtomicTypeIsSubtypeOfPinLaw", "pick", "(I)Lcom/example/riddle/riddle/xdm/AtomicType;"⟩ : MethodName) method_2_code 1 (some (.object "com/example/riddle/riddle/xdm/AtomicType")) :: ws) ({ frames := 0, cells := 0, slots := 0, locals := 0 } : Room)) (fun a U => a = #[(.int vv)] ∧ Z.Warmed39 U.vm ∧ U.heap = h0) (fun _ _ _ _ _ => True) (fun _ U o U' => ∃ v L, o = .returned v ∧ Q1 A vv h0 n0 v U'.heap L ∧ FrameEnd U o U' L ({ frames := 0, cells := 0, slots := 0, locals := 0 } : Room).cells ({ frames := 0, cells := 0, slots := 0, locals := 0 } : Room).slots) := by
  refine MetFree.of_bodySF (plainFor_of_name pn_1) hisR ?_
  intro p e s m args below meth c s₁ Bd hml0 hP hK
  obtain ⟨rfl, hZ, hh⟩ := hP
  have hx := Bd.exec
  have hby := Bd.bytes
  have hret := Bd.returns
  have hml : c.maxLocals = 1 := hml0
  have hown : s.vm.findClass "com/example/riddle/riddle/xdm/AtomicTypeIsSubtypeOfPinLaw" = some m.cls := findClass_of_methodNamed Bd.named
  have X0 : Stand p l e ({ frames := 0, cells := 0, slots := 0, locals := 0 } : Room) s m #[(.int vv)] below meth c s₁ [] 0 0 := Stand.of_body Bd
  have e0 : s₁.heap = h0 := by rw [← hh, Bd.state]; rfl
  have N0 := Fr.nil n0
  have pre0 : ∀ t, Steps p.tables e below (s₁.setTop (mkF m 0 #[.val (.int vv)] [])) t → Steps p.tables e below (s₁.setTop (entryFrame m #[(.int vv)] 1)) t := fun t k => castTop (ef_1 m vv) k
  by_cases c0 : vv = (0 : Int32)
  · skip
    have sg1 : ∀ t, Steps p.tables e below (s₁.setTop (mkF m 4 #[.val (.int vv)] [])) t → Steps p.tables e below (s₁.setTop (mkF m 0 #[.val (.int vv)] [])) t := by
      intro t k
      show Steps p.tables e below (s₁.setTop (mkF m 0 #[.val (.int vv)] [])) _
      refine XS.iloadN X0.here hx rfl (hb hby d1_0) rfl ?_
      show Steps p.tables e below (s₁.setTop (mkF m 1 #[.val (.int vv)] [(.int vv)])) _
      refine XS.ifNo X0.here hx rfl (hb hby d1_1) rfl ((if0 _ _).trans (teq c0).2) ?_
      show Steps p.tables e below (s₁.setTop (mkF m 4 #[.val (.int vv)] [])) _
      exact k
    obtain ⟨T2, X2, e2, st2⟩ := getS (host := "") X0 hx hZ hown (hw _ (List.mem_of_getElem? (i := 5) rfl)) Via.refl e0 (show Sta Z h0 "com/example/riddle/riddle/xdm/AtomicType" "ANY_ATOMIC" "Lcom/example/riddle/riddle/xdm/AtomicType;" (.ref (A 0)) from hS 0 (by decide)) (g := (mkF m 4 #[.val (.int vv)] [])) rfl (hb hby d1_4)
    have hv : own_ix vv = 0 := by simp [own_ix, c0]
    obtain ⟨fs, hr, hrun, hended, hW, hsame⟩ := X2.leave (v := some (.ref (A 0))) (fun h => by rw [hret] at h; cases h)
    refine ⟨_, _, pre0 _ ?_, hrun, hended, _, _, rfl, ?_, ⟨_, rfl⟩, hW, hsame.mono (by decide) (by decide)⟩
    · refine sg1 _ ?_
      refine st2 _ ?_
      show Steps p.tables e below (T2.setTop (mkF m 7 #[.val (.int vv)] [(.ref (A 0))])) _
      exact retOut X2 hx (t := .object "com/example/riddle/riddle/xdm/AtomicType") hret rfl (Or.inr (Or.inr (Or.inr (Or.inr ⟨rfl, rfl, rfl⟩)))) (hb hby d1_7) hr
    · exact ⟨by rw [hv], N0, e2⟩
  by_cases c1 : vv = (1 : Int32)
  · skip
    have sg1 : ∀ t, Steps p.tables e below (s₁.setTop (mkF m 13 #[.val (.int vv)] [])) t → Steps p.tables e below (s₁.setTop (mkF m 0 #[.val (.int vv)] [])) t := by
      intro t k
      show Steps p.tables e below (s₁.setTop (mkF m 0 #[.val (.int vv)] [])) _
      refine XS.iloadN X0.here hx rfl (hb hby d1_0) rfl ?_
      show Steps p.tables e below (s₁.setTop (mkF m 1 #[.val (.int vv)] [(.int vv)])) _
      refine XS.ifYes X0.here hx rfl (pc0 := 1) (pc' := 8) rfl (hb hby d1_1) rfl ((if0 _ _).trans (feq c0).2) (by decide) (by decide) ?_
      show Steps p.tables e below (s₁.setTop (mkF m 8 #[.val (.int vv)] [])) _
      refine XS.iloadN X0.here hx rfl (hb hby d1_8) rfl ?_
      show Steps p.tables e below (s₁.setTop (mkF m 9 #[.val (.int vv)] [(.int vv)])) _
      refine XS.iconst X0.here hx rfl (hb hby d1_9) ?_
      show Steps p.tables e below (s₁.setTop (mkF m 10 #[.val (.int vv)] [(.int (1 : Int32)), (.int vv)])) _
      refine XS.icmpNo X0.here hx rfl (hb hby d1_10) rfl (teq c1).2 ?_
      show Steps p.tables e below (s₁.setTop (mkF m 13 #[.val (.int vv)] [])) _
      exact k
    obtain ⟨T2, X2, e2, st2⟩ := getS (host := "") X0 hx hZ hown (hw _ (List.mem_of_getElem? (i := 20) rfl)) Via.refl e0 (show Sta Z h0 "com/example/riddle/riddle/xdm/AtomicType" "UNTYPED_ATOMIC" "Lcom/example/riddle/riddle/xdm/AtomicType;" (.ref (A 1)) from hS 1 (by decide)) (g := (mkF m 13 #[.val (.int vv)] [])) rfl (hb hby d1_13)
    have hv : own_ix vv = 1 := by simp [own_ix, c0, c1]
    obtain ⟨fs, hr, hrun, hended, hW, hsame⟩ := X2.leave (v := some (.ref (A 1))) (fun h => by rw [hret] at h; cases h)
    refine ⟨_, _, pre0 _ ?_, hrun, hended, _, _, rfl, ?_, ⟨_, rfl⟩, hW, hsame.mono (by decide) (by decide)⟩
    · refine sg1 _ ?_
      refine st2 _ ?_
      show Steps p.tables e below (T2.setTop (mkF m 16 #[.val (.int vv)] [(.ref (A 1))])) _
      exact retOut X2 hx (t := .object "com/example/riddle/riddle/xdm/AtomicType") hret rfl (Or.inr (Or.inr (Or.inr (Or.inr ⟨rfl, rfl, rfl⟩)))) (hb hby d1_16) hr
    · exact ⟨by rw [hv], N0, e2⟩
  by_cases c2 : vv = (2 : Int32)
  · skip
    have sg1 : ∀ t, Steps p.tables e below (s₁.setTop (mkF m 22 #[.val (.int vv)] [])) t → Steps p.tables e below (s₁.setTop (mkF m 0 #[.val (.int vv)] [])) t := by
      intro t k
      show Steps p.tables e below (s₁.setTop (mkF m 0 #[.val (.int vv)] [])) _
      refine XS.iloadN X0.here hx rfl (hb hby d1_0) rfl ?_
      show Steps p.tables e below (s₁.setTop (mkF m 1 #[.val (.int vv)] [(.int vv)])) _
      refine XS.ifYes X0.here hx rfl (pc0 := 1) (pc' := 8) rfl (hb hby d1_1) rfl ((if0 _ _).trans (feq c0).2) (by decide) (by decide) ?_
      show Steps p.tables e below (s₁.setTop (mkF m 8 #[.val (.int vv)] [])) _
      refine XS.iloadN X0.here hx rfl (hb hby d1_8) rfl ?_
      show Steps p.tables e below (s₁.setTop (mkF m 9 #[.val (.int vv)] [(.int vv)])) _
      refine XS.iconst X0.here hx rfl (hb hby d1_9) ?_
      show Steps p.tables e below (s₁.setTop (mkF m 10 #[.val (.int vv)] [(.int (1 : Int32)), (.int vv)])) _
      refine XS.icmpYes X0.here hx rfl (pc0 := 10) (pc' := 17) rfl (hb hby d1_10) rfl (feq c1).2 (by decide) (by decide) ?_
      show Steps p.tables e below (s₁.setTop (mkF m 17 #[.val (.int vv)] [])) _
      refine XS.iloadN X0.here hx rfl (hb hby d1_17) rfl ?_
      show Steps p.tables e below (s₁.setTop (mkF m 18 #[.val (.int vv)] [(.int vv)])) _
      refine XS.iconst X0.here hx rfl (hb hby d1_18) ?_
      show Steps p.tables e below (s₁.setTop (mkF m 19 #[.val (.int vv)] [(.int (2 : Int32)), (.int vv)])) _
      refine XS.icmpNo X0.here hx rfl (hb hby d1_19) rfl (teq c2).2 ?_
      show Steps p.tables e below (s₁.setTop (mkF m 22 #[.val (.int vv)] [])) _
      exact k
    obtain ⟨T2, X2, e2, st2⟩ := getS (host := "") X0 hx hZ hown (hw _ (List.mem_of_getElem? (i := 28) rfl)) Via.refl e0 (show Sta Z h0 "com/example/riddle/riddle/xdm/AtomicType" "STRING" "Lcom/example/riddle/riddle/xdm/AtomicType;" (.ref (A 2)) from hS 2 (by decide)) (g := (mkF m 22 #[.val (.int vv)] [])) rfl (hb hby d1_22)
    have hv : own_ix vv = 2 := by simp [own_ix, c0, c1, c2]
    obtain ⟨fs, hr, hrun, hended, hW, hsame⟩ := X2.leave (v := some (.ref (A 2))) (fun h => by rw [hret] at h; cases h)
    refine ⟨_, _, pre0 _ ?_, hrun, hended, _, _, rfl, ?_, ⟨_, rfl⟩, hW, hsame.mono (by decide) (by decide)⟩
    · refine sg1 _ ?_
      refine st2 _ ?_
      show Steps p.tables e below (T2.setTop (mkF m 25 #[.val (.int vv)] [(.ref (A 2))])) _
      exact retOut X2 hx (t := .object "com/example/riddle/riddle/xdm/AtomicType") hret rfl (Or.inr (Or.inr (Or.inr (Or.inr ⟨rfl, rfl, rfl⟩)))) (hb hby d1_25) hr
    · exact ⟨by rw [hv], N0, e2⟩
  by_cases c3 : vv = (3 : Int32)
  · skip
    have sg1 : ∀ t, Steps p.tables e below (s₁.setTop (mkF m 31 #[.val (.int vv)] [])) t → Steps p.tables e below (s₁.setTop (mkF m 0 #[.val (.int vv)] [])) t := by
      intro t k
      show Steps p.tables e below (s₁.setTop (mkF m 0 #[.val (.int vv)] [])) _
      refine XS.iloadN X0.here hx rfl (hb hby d1_0) rfl ?_
      show Steps p.tables e below (s₁.setTop (mkF m 1 #[.val (.int vv)] [(.int vv)])) _
      refine XS.ifYes X0.here hx rfl (pc0 := 1) (pc' := 8) rfl (hb hby d1_1) rfl ((if0 _ _).trans (feq c0).2) (by decide) (by decide) ?_
      show Steps p.tables e below (s₁.setTop (mkF m 8 #[.val (.int vv)] [])) _
      refine XS.iloadN X0.here hx rfl (hb hby d1_8) rfl ?_
      show Steps p.tables e below (s₁.setTop (mkF m 9 #[.val (.int vv)] [(.int vv)])) _
      refine XS.iconst X0.here hx rfl (hb hby d1_9) ?_
      show Steps p.tables e below (s₁.setTop (mkF m 10 #[.val (.int vv)] [(.int (1 : Int32)), (.int vv)])) _
      refine XS.icmpYes X0.here hx rfl (pc0 := 10) (pc' := 17) rfl (hb hby d1_10) rfl (feq c1).2 (by decide) (by decide) ?_
      show Steps p.tables e below (s₁.setTop (mkF m 17 #[.val (.int vv)] [])) _
      refine XS.iloadN X0.here hx rfl (hb hby d1_17) rfl ?_
      show Steps p.tables e below (s₁.setTop (mkF m 18 #[.val (.int vv)] [(.int vv)])) _
      refine XS.iconst X0.here hx rfl (hb hby d1_18) ?_
      show Steps p.tables e below (s₁.setTop (mkF m 19 #[.val (.int vv)] [(.int (2 : Int32)), (.int vv)])) _
      refine XS.icmpYes X0.here hx rfl (pc0 := 19) (pc' := 26) rfl (hb hby d1_19) rfl (feq c2).2 (by decide) (by decide) ?_
      show Steps p.tables e below (s₁.setTop (mkF m 26 #[.val (.int vv)] [])) _
      refine XS.iloadN X0.here hx rfl (hb hby d1_26) rfl ?_
      show Steps p.tables e below (s₁.setTop (mkF m 27 #[.val (.int vv)] [(.int vv)])) _
      refine XS.iconst X0.here hx rfl (hb hby d1_27) ?_
      show Steps p.tables e below (s₁.setTop (mkF m 28 #[.val (.int vv)] [(.int (3 : Int32)), (.int vv)])) _
      refine XS.icmpNo X0.here hx rfl (hb hby d1_28) rfl (teq c3).2 ?_
      show Steps p.tables e below (s₁.setTop (mkF m 31 #[.val (.int vv)] [])) _
      exact k
    obtain ⟨T2, X2, e2, st2⟩ := getS (host := "") X0 hx hZ hown (hw _ (List.mem_of_getElem? (i := 8) rfl)) Via.refl e0 (show Sta Z h0 "com/example/riddle/riddle/xdm/AtomicType" "BOOLEAN" "Lcom/example/riddle/riddle/xdm/AtomicType;" (.ref (A 3)) from hS 3 (by decide)) (g := (mkF m 31 #[.val (.int vv)] [])) rfl (hb hby d1_31)
    have hv : own_ix vv = 3 := by simp [own_ix, c0, c1, c2, c3]
    obtain ⟨fs, hr, hrun, hended, hW, hsame⟩ := X2.leave (v := some (.ref (A 3))) (fun h => by rw [hret] at h; cases h)
    refine ⟨_, _, pre0 _ ?_, hrun, hended, _, _, rfl, ?_, ⟨_, rfl⟩, hW, hsame.mono (by decide) (by decide)⟩
    · refine sg1 _ ?_
      refine st2 _ ?_
      show Steps p.tables e below (T2.setTop (mkF m 34 #[.val (.int vv)] [(.ref (A 3))])) _
      exact retOut X2 hx (t := .object "com/example/riddle/riddle/xdm/AtomicType") hret rfl (Or.inr (Or.inr (Or.inr (Or.inr ⟨rfl, rfl, rfl⟩)))) (hb hby d1_34) hr
    · exact ⟨by rw [hv], N0, e2⟩
  by_cases c4 : vv = (4 : Int32)
  · skip
    have sg1 : ∀ t, Steps p.tables e below (s₁.setTop (mkF m 40 #[.val (.int vv)] [])) t → Steps p.tables e below (s₁.setTop (mkF m 0 #[.val (.int vv)] [])) t := by
      intro t k
      show Steps p.tables e below (s₁.setTop (mkF m 0 #[.val (.int vv)] [])) _
      refine XS.iloadN X0.here hx rfl (hb hby d1_0) rfl ?_
      show Steps p.tables e below (s₁.setTop (mkF m 1 #[.val (.int vv)] [(.int vv)])) _
      refine XS.ifYes X0.here hx rfl (pc0 := 1) (pc' := 8) rfl (hb hby d1_1) rfl ((if0 _ _).trans (feq c0).2) (by decide) (by decide) ?_
      show Steps p.tables e below (s₁.setTop (mkF m 8 #[.val (.int vv)] [])) _
      refine XS.iloadN X0.here hx rfl (hb hby d1_8) rfl ?_
      show Steps p.tables e below (s₁.setTop (mkF m 9 #[.val (.int vv)] [(.int vv)])) _
      refine XS.iconst X0.here hx rfl (hb hby d1_9) ?_
      show Steps p.tables e below (s₁.setTop (mkF m 10 #[.val (.int vv)] [(.int (1 : Int32)), (.int vv)])) _
      refine XS.icmpYes X0.here hx rfl (pc0 := 10) (pc' := 17) rfl (hb hby d1_10) rfl (feq c1).2 (by decide) (by decide) ?_
      show Steps p.tables e below (s₁.setTop (mkF m 17 #[.val (.int vv)] [])) _
      refine XS.iloadN X0.here hx rfl (hb hby d1_17) rfl ?_
      show Steps p.tables e below (s₁.setTop (mkF m 18 #[.val (.int vv)] [(.int vv)])) _
      refine XS.iconst X0.here hx rfl (hb hby d1_18) ?_
      show Steps p.tables e below (s₁.setTop (mkF m 19 #[.val (.int vv)] [(.int (2 : Int32)), (.int vv)])) _
      refine XS.icmpYes X0.here hx rfl (pc0 := 19) (pc' := 26) rfl (hb hby d1_19) rfl (feq c2).2 (by decide) (by decide) ?_
      show Steps p.tables e below (s₁.setTop (mkF m 26 #[.val (.int vv)] [])) _
      refine XS.iloadN X0.here hx rfl (hb hby d1_26) rfl ?_
      show Steps p.tables e below (s₁.setTop (mkF m 27 #[.val (.int vv)] [(.int vv)])) _
      refine XS.iconst X0.here hx rfl (hb hby d1_27) ?_
      show Steps p.tables e below (s₁.setTop (mkF m 28 #[.val (.int vv)] [(.int (3 : Int32)), (.int vv)])) _
      refine XS.icmpYes X0.here hx rfl (pc0 := 28) (pc' := 35) rfl (hb hby d1_28) rfl (feq c3).2 (by decide) (by decide) ?_
      show Steps p.tables e below (s₁.setTop (mkF m 35 #[.val (.int vv)] [])) _
      refine XS.iloadN X0.here hx rfl (hb hby d1_35) rfl ?_
      show Steps p.tables e below (s₁.setTop (mkF m 36 #[.val (.int vv)] [(.int vv)])) _
      refine XS.iconst X0.here hx rfl (hb hby d1_36) ?_
      show Steps p.tables e below (s₁.setTop (mkF m 37 #[.val (.int vv)] [(.int (4 : Int32)), (.int vv)])) _
      refine XS.icmpNo X0.here hx rfl (hb hby d1_37) rfl (teq c4).2 ?_
      show Steps p.tables e below (s₁.setTop (mkF m 40 #[.val (.int vv)] [])) _
      exact k
    obtain ⟨T2, X2, e2, st2⟩ := getS (host := "") X0 hx hZ hown (hw _ (List.mem_of_getElem? (i := 31) rfl)) Via.refl e0 (show Sta Z h0 "com/example/riddle/riddle/xdm/AtomicType" "NUMERIC" "Lcom/example/riddle/riddle/xdm/AtomicType;" (.ref (A 4)) from hS 4 (by decide)) (g := (mkF m 40 #[.val (.int vv)] [])) rfl (hb hby d1_40)
    have hv : own_ix vv = 4 := by simp [own_ix, c0, c1, c2, c3, c4]
    obtain ⟨fs, hr, hrun, hended, hW, hsame⟩ := X2.leave (v := some (.ref (A 4))) (fun h => by rw [hret] at h; cases h)
    refine ⟨_, _, pre0 _ ?_, hrun, hended, _, _, rfl, ?_, ⟨_, rfl⟩, hW, hsame.mono (by decide) (by decide)⟩
    · refine sg1 _ ?_
      refine st2 _ ?_
      show Steps p.tables e below (T2.setTop (mkF m 43 #[.val (.int vv)] [(.ref (A 4))])) _
      exact retOut X2 hx (t := .object "com/example/riddle/riddle/xdm/AtomicType") hret rfl (Or.inr (Or.inr (Or.inr (Or.inr ⟨rfl, rfl, rfl⟩)))) (hb hby d1_43) hr
    · exact ⟨by rw [hv], N0, e2⟩
  by_cases c5 : vv = (5 : Int32)
  · skip
    have sg1 : ∀ t, Steps p.tables e below (s₁.setTop (mkF m 49 #[.val (.int vv)] [])) t → Steps p.tables e below (s₁.setTop (mkF m 0 #[.val (.int vv)] [])) t := by
      intro t k
      show Steps p.tables e below (s₁.setTop (mkF m 0 #[.val (.int vv)] [])) _
      refine XS.iloadN X0.here hx rfl (hb hby d1_0) rfl ?_
      show Steps p.tables e below (s₁.setTop (mkF m 1 #[.val (.int vv)] [(.int vv)])) _
      refine XS.ifYes X0.here hx rfl (pc0 := 1) (pc' := 8) rfl (hb hby d1_1) rfl ((if0 _ _).trans (feq c0).2) (by decide) (by decide) ?_
      show Steps p.tables e below (s₁.setTop (mkF m 8 #[.val (.int vv)] [])) _
      refine XS.iloadN X0.here hx rfl (hb hby d1_8) rfl ?_
      show Steps p.tables e below (s₁.setTop (mkF m 9 #[.val (.int vv)] [(.int vv)])) _
      refine XS.iconst X0.here hx rfl (hb hby d1_9) ?_
      show Steps p.tables e below (s₁.setTop (mkF m 10 #[.val (.int vv)] [(.int (1 : Int32)), (.int vv)])) _
      refine XS.icmpYes X0.here hx rfl (pc0 := 10) (pc' := 17) rfl (hb hby d1_10) rfl (feq c1).2 (by decide) (by decide) ?_
      show Steps p.tables e below (s₁.setTop (mkF m 17 #[.val (.int vv)] [])) _
      refine XS.iloadN X0.here hx rfl (hb hby d1_17) rfl ?_
      show Steps p.tables e below (s₁.setTop (mkF m 18 #[.val (.int vv)] [(.int vv)])) _
      refine XS.iconst X0.here hx rfl (hb hby d1_18) ?_
      show Steps p.tables e below (s₁.setTop (mkF m 19 #[.val (.int vv)] [(.int (2 : Int32)), (.int vv)])) _
      refine XS.icmpYes X0.here hx rfl (pc0 := 19) (pc' := 26) rfl (hb hby d1_19) rfl (feq c2).2 (by decide) (by decide) ?_
      show Steps p.tables e below (s₁.setTop (mkF m 26 #[.val (.int vv)] [])) _
      refine XS.iloadN X0.here hx rfl (hb hby d1_26) rfl ?_
      show Steps p.tables e below (s₁.setTop (mkF m 27 #[.val (.int vv)] [(.int vv)])) _
      refine XS.iconst X0.here hx rfl (hb hby d1_27) ?_
      show Steps p.tables e below (s₁.setTop (mkF m 28 #[.val (.int vv)] [(.int (3 : Int32)), (.int vv)])) _
      refine XS.icmpYes X0.here hx rfl (pc0 := 28) (pc' := 35) rfl (hb hby d1_28) rfl (feq c3).2 (by decide) (by decide) ?_
      show Steps p.tables e below (s₁.setTop (mkF m 35 #[.val (.int vv)] [])) _
      refine XS.iloadN X0.here hx rfl (hb hby d1_35) rfl ?_
      show Steps p.tables e below (s₁.setTop (mkF m 36 #[.val (.int vv)] [(.int vv)])) _
      refine XS.iconst X0.here hx rfl (hb hby d1_36) ?_
      show Steps p.tables e below (s₁.setTop (mkF m 37 #[.val (.int vv)] [(.int (4 : Int32)), (.int vv)])) _
      refine XS.icmpYes X0.here hx rfl (pc0 := 37) (pc' := 44) rfl (hb hby d1_37) rfl (feq c4).2 (by decide) (by decide) ?_
      show Steps p.tables e below (s₁.setTop (mkF m 44 #[.val (.int vv)] [])) _
      refine XS.iloadN X0.here hx rfl (hb hby d1_44) rfl ?_
      show Steps p.tables e below (s₁.setTop (mkF m 45 #[.val (.int vv)] [(.int vv)])) _
      refine XS.iconst X0.here hx rfl (hb hby d1_45) ?_
      show Steps p.tables e below (s₁.setTop (mkF m 46 #[.val (.int vv)] [(.int (5 : Int32)), (.int vv)])) _
      refine XS.icmpNo X0.here hx rfl (hb hby d1_46) rfl (teq c5).2 ?_
      show Steps p.tables e below (s₁.setTop (mkF m 49 #[.val (.int vv)] [])) _
      exact k
    obtain ⟨T2, X2, e2, st2⟩ := getS (host := "") X0 hx hZ hown (hw _ (List.mem_of_getElem? (i := 24) rfl)) Via.refl e0 (show Sta Z h0 "com/example/riddle/riddle/xdm/AtomicType" "DECIMAL" "Lcom/example/riddle/riddle/xdm/AtomicType;" (.ref (A 5)) from hS 5 (by decide)) (g := (mkF m 49 #[.val (.int vv)] [])) rfl (hb hby d1_49)
    have hv : own_ix vv = 5 := by simp [own_ix, c0, c1, c2, c3, c4, c5]
    obtain ⟨fs, hr, hrun, hended, hW, hsame⟩ := X2.leave (v := some (.ref (A 5))) (fun h => by rw [hret] at h; cases h)
    refine ⟨_, _, pre0 _ ?_, hrun, hended, _, _, rfl, ?_, ⟨_, rfl⟩, hW, hsame.mono (by decide) (by decide)⟩
    · refine sg1 _ ?_
      refine st2 _ ?_
      show Steps p.tables e below (T2.setTop (mkF m 52 #[.val (.int vv)] [(.ref (A 5))])) _
      exact retOut X2 hx (t := .object "com/example/riddle/riddle/xdm/AtomicType") hret rfl (Or.inr (Or.inr (Or.inr (Or.inr ⟨rfl, rfl, rfl⟩)))) (hb hby d1_52) hr
    · exact ⟨by rw [hv], N0, e2⟩
  by_cases c6 : vv = (6 : Int32)
  · skip
    have sg1 : ∀ t, Steps p.tables e below (s₁.setTop (mkF m 59 #[.val (.int vv)] [])) t → Steps p.tables e below (s₁.setTop (mkF m 0 #[.val (.int vv)] [])) t := by
      intro t k
      show Steps p.tables e below (s₁.setTop (mkF m 0 #[.val (.int vv)] [])) _
      refine XS.iloadN X0.here hx rfl (hb hby d1_0) rfl ?_
      show Steps p.tables e below (s₁.setTop (mkF m 1 #[.val (.int vv)] [(.int vv)])) _
      refine XS.ifYes X0.here hx rfl (pc0 := 1) (pc' := 8) rfl (hb hby d1_1) rfl ((if0 _ _).trans (feq c0).2) (by decide) (by decide) ?_
      show Steps p.tables e below (s₁.setTop (mkF m 8 #[.val (.int vv)] [])) _
      refine XS.iloadN X0.here hx rfl (hb hby d1_8) rfl ?_
      show Steps p.tables e below (s₁.setTop (mkF m 9 #[.val (.int vv)] [(.int vv)])) _
      refine XS.iconst X0.here hx rfl (hb hby d1_9) ?_
      show Steps p.tables e below (s₁.setTop (mkF m 10 #[.val (.int vv)] [(.int (1 : Int32)), (.int vv)])) _
      refine XS.icmpYes X0.here hx rfl (pc0 := 10) (pc' := 17) rfl (hb hby d1_10) rfl (feq c1).2 (by decide) (by decide) ?_
      show Steps p.tables e below (s₁.setTop (mkF m 17 #[.val (.int vv)] [])) _
      refine XS.iloadN X0.here hx rfl (hb hby d1_17) rfl ?_
      show Steps p.tables e below (s₁.setTop (mkF m 18 #[.val (.int vv)] [(.int vv)])) _
      refine XS.iconst X0.here hx rfl (hb hby d1_18) ?_
      show Steps p.tables e below (s₁.setTop (mkF m 19 #[.val (.int vv)] [(.int (2 : Int32)), (.int vv)])) _
      refine XS.icmpYes X0.here hx rfl (pc0 := 19) (pc' := 26) rfl (hb hby d1_19) rfl (feq c2).2 (by decide) (by decide) ?_
      show Steps p.tables e below (s₁.setTop (mkF m 26 #[.val (.int vv)] [])) _
      refine XS.iloadN X0.here hx rfl (hb hby d1_26) rfl ?_
      show Steps p.tables e below (s₁.setTop (mkF m 27 #[.val (.int vv)] [(.int vv)])) _
      refine XS.iconst X0.here hx rfl (hb hby d1_27) ?_
      show Steps p.tables e below (s₁.setTop (mkF m 28 #[.val (.int vv)] [(.int (3 : Int32)), (.int vv)])) _
      refine XS.icmpYes X0.here hx rfl (pc0 := 28) (pc' := 35) rfl (hb hby d1_28) rfl (feq c3).2 (by decide) (by decide) ?_
      show Steps p.tables e below (s₁.setTop (mkF m 35 #[.val (.int vv)] [])) _
      refine XS.iloadN X0.here hx rfl (hb hby d1_35) rfl ?_
      show Steps p.tables e below (s₁.setTop (mkF m 36 #[.val (.int vv)] [(.int vv)])) _
      refine XS.iconst X0.here hx rfl (hb hby d1_36) ?_
      show Steps p.tables e below (s₁.setTop (mkF m 37 #[.val (.int vv)] [(.int (4 : Int32)), (.int vv)])) _
      refine XS.icmpYes X0.here hx rfl (pc0 := 37) (pc' := 44) rfl (hb hby d1_37) rfl (feq c4).2 (by decide) (by decide) ?_
      show Steps p.tables e below (s₁.setTop (mkF m 44 #[.val (.int vv)] [])) _
      refine XS.iloadN X0.here hx rfl (hb hby d1_44) rfl ?_
      show Steps p.tables e below (s₁.setTop (mkF m 45 #[.val (.int vv)] [(.int vv)])) _
      refine XS.iconst X0.here hx rfl (hb hby d1_45) ?_
      show Steps p.tables e below (s₁.setTop (mkF m 46 #[.val (.int vv)] [(.int (5 : Int32)), (.int vv)])) _
      refine XS.icmpYes X0.here hx rfl (pc0 := 46) (pc' := 53) rfl (hb hby d1_46) rfl (feq c5).2 (by decide) (by decide) ?_
      show Steps p.tables e below (s₁.setTop (mkF m 53 #[.val (.int vv)] [])) _
      refine XS.iloadN X0.here hx rfl (hb hby d1_53) rfl ?_
      show Steps p.tables e below (s₁.setTop (mkF m 54 #[.val (.int vv)] [(.int vv)])) _
      refine XS.bipush X0.here hx rfl (hb hby d1_54) ?_
      show Steps p.tables e below (s₁.setTop (mkF m 56 #[.val (.int vv)] [(.int (6 : Int32)), (.int vv)])) _
      refine XS.icmpNo X0.here hx rfl (hb hby d1_56) rfl (teq c6).2 ?_
      show Steps p.tables e below (s₁.setTop (mkF m 59 #[.val (.int vv)] [])) _
      exact k
    obtain ⟨T2, X2, e2, st2⟩ := getS (host := "") X0 hx hZ hown (hw _ (List.mem_of_getElem? (i := 36) rfl)) Via.refl e0 (show Sta Z h0 "com/example/riddle/riddle/xdm/AtomicType" "INTEGER" "Lcom/example/riddle/riddle/xdm/AtomicType;" (.ref (A 6)) from hS 6 (by decide)) (g := (mkF m 59 #[.val (.int vv)] [])) rfl (hb hby d1_59)
    have hv : own_ix vv = 6 := by simp [own_ix, c0, c1, c2, c3, c4, c5, c6]
    obtain ⟨fs, hr, hrun, hended, hW, hsame⟩ := X2.leave (v := some (.ref (A 6))) (fun h => by rw [hret] at h; cases h)
    refine ⟨_, _, pre0 _ ?_, hrun, hended, _, _, rfl, ?_, ⟨_, rfl⟩, hW, hsame.mono (by decide) (by decide)⟩
    · refine sg1 _ ?_
      refine st2 _ ?_
      show Steps p.tables e below (T2.setTop (mkF m 62 #[.val (.int vv)] [(.ref (A 6))])) _
      exact retOut X2 hx (t := .object "com/example/riddle/riddle/xdm/AtomicType") hret rfl (Or.inr (Or.inr (Or.inr (Or.inr ⟨rfl, rfl, rfl⟩)))) (hb hby d1_62) hr
    · exact ⟨by rw [hv], N0, e2⟩
  by_cases c7 : vv = (7 : Int32)
  · skip
    have sg1 : ∀ t, Steps p.tables e below (s₁.setTop (mkF m 69 #[.val (.int vv)] [])) t → Steps p.tables e below (s₁.setTop (mkF m 0 #[.val (.int vv)] [])) t := by
      intro t k
      show Steps p.tables e below (s₁.setTop (mkF m 0 #[.val (.int vv)] [])) _
      refine XS.iloadN X0.here hx rfl (hb hby d1_0) rfl ?_
      show Steps p.tables e below (s₁.setTop (mkF m 1 #[.val (.int vv)] [(.int vv)])) _
      refine XS.ifYes X0.here hx rfl (pc0 := 1) (pc' := 8) rfl (hb hby d1_1) rfl ((if0 _ _).trans (feq c0).2) (by decide) (by decide) ?_
      show Steps p.tables e below (s₁.setTop (mkF m 8 #[.val (.int vv)] [])) _
      refine XS.iloadN X0.here hx rfl (hb hby d1_8) rfl ?_
      show Steps p.tables e below (s₁.setTop (mkF m 9 #[.val (.int vv)] [(.int vv)])) _
      refine XS.iconst X0.here hx rfl (hb hby d1_9) ?_
      show Steps p.tables e below (s₁.setTop (mkF m 10 #[.val (.int vv)] [(.int (1 : Int32)), (.int vv)])) _
      refine XS.icmpYes X0.here hx rfl (pc0 := 10) (pc' := 17) rfl (hb hby d1_10) rfl (feq c1).2 (by decide) (by decide) ?_
      show Steps p.tables e below (s₁.setTop (mkF m 17 #[.val (.int vv)] [])) _
      refine XS.iloadN X0.here hx rfl (hb hby d1_17) rfl ?_
      show Steps p.tables e below (s₁.setTop (mkF m 18 #[.val (.int vv)] [(.int vv)])) _
      refine XS.iconst X0.here hx rfl (hb hby d1_18) ?_
      show Steps p.tables e below (s₁.setTop (mkF m 19 #[.val (.int vv)] [(.int (2 : Int32)), (.int vv)])) _
      refine XS.icmpYes X0.here hx rfl (pc0 := 19) (pc' := 26) rfl (hb hby d1_19) rfl (feq c2).2 (by decide) (by decide) ?_
      show Steps p.tables e below (s₁.setTop (mkF m 26 #[.val (.int vv)] [])) _
      refine XS.iloadN X0.here hx rfl (hb hby d1_26) rfl ?_
      show Steps p.tables e below (s₁.setTop (mkF m 27 #[.val (.int vv)] [(.int vv)])) _
      refine XS.iconst X0.here hx rfl (hb hby d1_27) ?_
      show Steps p.tables e below (s₁.setTop (mkF m 28 #[.val (.int vv)] [(.int (3 : Int32)), (.int vv)])) _
      refine XS.icmpYes X0.here hx rfl (pc0 := 28) (pc' := 35) rfl (hb hby d1_28) rfl (feq c3).2 (by decide) (by decide) ?_
      show Steps p.tables e below (s₁.setTop (mkF m 35 #[.val (.int vv)] [])) _
      refine XS.iloadN X0.here hx rfl (hb hby d1_35) rfl ?_
      show Steps p.tables e below (s₁.setTop (mkF m 36 #[.val (.int vv)] [(.int vv)])) _
      refine XS.iconst X0.here hx rfl (hb hby d1_36) ?_
      show Steps p.tables e below (s₁.setTop (mkF m 37 #[.val (.int vv)] [(.int (4 : Int32)), (.int vv)])) _
      refine XS.icmpYes X0.here hx rfl (pc0 := 37) (pc' := 44) rfl (hb hby d1_37) rfl (feq c4).2 (by decide) (by decide) ?_
      show Steps p.tables e below (s₁.setTop (mkF m 44 #[.val (.int vv)] [])) _
      refine XS.iloadN X0.here hx rfl (hb hby d1_44) rfl ?_
      show Steps p.tables e below (s₁.setTop (mkF m 45 #[.val (.int vv)] [(.int vv)])) _
      refine XS.iconst X0.here hx rfl (hb hby d1_45) ?_
      show Steps p.tables e below (s₁.setTop (mkF m 46 #[.val (.int vv)] [(.int (5 : Int32)), (.int vv)])) _
      refine XS.icmpYes X0.here hx rfl (pc0 := 46) (pc' := 53) rfl (hb hby d1_46) rfl (feq c5).2 (by decide) (by decide) ?_
      show Steps p.tables e below (s₁.setTop (mkF m 53 #[.val (.int vv)] [])) _
      refine XS.iloadN X0.here hx rfl (hb hby d1_53) rfl ?_
      show Steps p.tables e below (s₁.setTop (mkF m 54 #[.val (.int vv)] [(.int vv)])) _
      refine XS.bipush X0.here hx rfl (hb hby d1_54) ?_
      show Steps p.tables e below (s₁.setTop (mkF m 56 #[.val (.int vv)] [(.int (6 : Int32)), (.int vv)])) _
      refine XS.icmpYes X0.here hx rfl (pc0 := 56) (pc' := 63) rfl (hb hby d1_56) rfl (feq c6).2 (by decide) (by decide) ?_
      show Steps p.tables e below (s₁.setTop (mkF m 63 #[.val (.int vv)] [])) _
      refine XS.iloadN X0.here hx rfl (hb hby d1_63) rfl ?_
      show Steps p.tables e below (s₁.setTop (mkF m 64 #[.val (.int vv)] [(.int vv)])) _
      refine XS.bipush X0.here hx rfl (hb hby d1_64) ?_
      show Steps p.tables e below (s₁.setTop (mkF m 66 #[.val (.int vv)] [(.int (7 : Int32)), (.int vv)])) _
      refine XS.icmpNo X0.here hx rfl (hb hby d1_66) rfl (teq c7).2 ?_
      show Steps p.tables e below (s₁.setTop (mkF m 69 #[.val (.int vv)] [])) _
      exact k
    obtain ⟨T2, X2, e2, st2⟩ := getS (host := "") X0 hx hZ hown (hw _ (List.mem_of_getElem? (i := 40) rfl)) Via.refl e0 (show Sta Z h0 "com/example/riddle/riddle/xdm/AtomicType" "FLOAT" "Lcom/example/riddle/riddle/xdm/AtomicType;" (.ref (A 7)) from hS 7 (by decide)) (g := (mkF m 69 #[.val (.int vv)] [])) rfl (hb hby d1_69)
    have hv : own_ix vv = 7 := by simp [own_ix, c0, c1, c2, c3, c4, c5, c6, c7]
    obtain ⟨fs, hr, hrun, hended, hW, hsame⟩ := X2.leave (v := some (.ref (A 7))) (fun h => by rw [hret] at h; cases h)
    refine ⟨_, _, pre0 _ ?_, hrun, hended, _, _, rfl, ?_, ⟨_, rfl⟩, hW, hsame.mono (by decide) (by decide)⟩
    · refine sg1 _ ?_
      refine st2 _ ?_
      show Steps p.tables e below (T2.setTop (mkF m 72 #[.val (.int vv)] [(.ref (A 7))])) _
      exact retOut X2 hx (t := .object "com/example/riddle/riddle/xdm/AtomicType") hret rfl (Or.inr (Or.inr (Or.inr (Or.inr ⟨rfl, rfl, rfl⟩)))) (hb hby d1_72) hr
    · exact ⟨by rw [hv], N0, e2⟩
  by_cases c8 : vv = (8 : Int32)
  · skip
    have sg1 : ∀ t, Steps p.tables e below (s₁.setTop (mkF m 79 #[.val (.int vv)] [])) t → Steps p.tables e below (s₁.setTop (mkF m 0 #[.val (.int vv)] [])) t := by
      intro t k
      show Steps p.tables e below (s₁.setTop (mkF m 0 #[.val (.int vv)] [])) _
      refine XS.iloadN X0.here hx rfl (hb hby d1_0) rfl ?_
      show Steps p.tables e below (s₁.setTop (mkF m 1 #[.val (.int vv)] [(.int vv)])) _
      refine XS.ifYes X0.here hx rfl (pc0 := 1) (pc' := 8) rfl (hb hby d1_1) rfl ((if0 _ _).trans (feq c0).2) (by decide) (by decide) ?_
      show Steps p.tables e below (s₁.setTop (mkF m 8 #[.val (.int vv)] [])) _
      refine XS.iloadN X0.here hx rfl (hb hby d1_8) rfl ?_
      show Steps p.tables e below (s₁.setTop (mkF m 9 #[.val (.int vv)] [(.int vv)])) _
      refine XS.iconst X0.here hx rfl (hb hby d1_9) ?_
      show Steps p.tables e below (s₁.setTop (mkF m 10 #[.val (.int vv)] [(.int (1 : Int32)), (.int vv)])) _
      refine XS.icmpYes X0.here hx rfl (pc0 := 10) (pc' := 17) rfl (hb hby d1_10) rfl (feq c1).2 (by decide) (by decide) ?_
      show Steps p.tables e below (s₁.setTop (mkF m 17 #[.val (.int vv)] [])) _
      refine XS.iloadN X0.here hx rfl (hb hby d1_17) rfl ?_
      show Steps p.tables e below (s₁.setTop (mkF m 18 #[.val (.int vv)] [(.int vv)])) _
      refine XS.iconst X0.here hx rfl (hb hby d1_18) ?_
      show Steps p.tables e below (s₁.setTop (mkF m 19 #[.val (.int vv)] [(.int (2 : Int32)), (.int vv)])) _
      refine XS.icmpYes X0.here hx rfl (pc0 := 19) (pc' := 26) rfl (hb hby d1_19) rfl (feq c2).2 (by decide) (by decide) ?_
      show Steps p.tables e below (s₁.setTop (mkF m 26 #[.val (.int vv)] [])) _
      refine XS.iloadN X0.here hx rfl (hb hby d1_26) rfl ?_
      show Steps p.tables e below (s₁.setTop (mkF m 27 #[.val (.int vv)] [(.int vv)])) _
      refine XS.iconst X0.here hx rfl (hb hby d1_27) ?_
      show Steps p.tables e below (s₁.setTop (mkF m 28 #[.val (.int vv)] [(.int (3 : Int32)), (.int vv)])) _
      refine XS.icmpYes X0.here hx rfl (pc0 := 28) (pc' := 35) rfl (hb hby d1_28) rfl (feq c3).2 (by decide) (by decide) ?_
      show Steps p.tables e below (s₁.setTop (mkF m 35 #[.val (.int vv)] [])) _
      refine XS.iloadN X0.here hx rfl (hb hby d1_35) rfl ?_
      show Steps p.tables e below (s₁.setTop (mkF m 36 #[.val (.int vv)] [(.int vv)])) _
      refine XS.iconst X0.here hx rfl (hb hby d1_36) ?_
      show Steps p.tables e below (s₁.setTop (mkF m 37 #[.val (.int vv)] [(.int (4 : Int32)), (.int vv)])) _
      refine XS.icmpYes X0.here hx rfl (pc0 := 37) (pc' := 44) rfl (hb hby d1_37) rfl (feq c4).2 (by decide) (by decide) ?_
      show Steps p.tables e below (s₁.setTop (mkF m 44 #[.val (.int vv)] [])) _
      refine XS.iloadN X0.here hx rfl (hb hby d1_44) rfl ?_
      show Steps p.tables e below (s₁.setTop (mkF m 45 #[.val (.int vv)] [(.int vv)])) _
      refine XS.iconst X0.here hx rfl (hb hby d1_45) ?_
      show Steps p.tables e below (s₁.setTop (mkF m 46 #[.val (.int vv)] [(.int (5 : Int32)), (.int vv)])) _
      refine XS.icmpYes X0.here hx rfl (pc0 := 46) (pc' := 53) rfl (hb hby d1_46) rfl (feq c5).2 (by decide) (by decide) ?_
      show Steps p.tables e below (s₁.setTop (mkF m 53 #[.val (.int vv)] [])) _
      refine XS.iloadN X0.here hx rfl (hb hby d1_53) rfl ?_
      show Steps p.tables e below (s₁.setTop (mkF m 54 #[.val (.int vv)] [(.int vv)])) _
      refine XS.bipush X0.here hx rfl (hb hby d1_54) ?_
      show Steps p.tables e below (s₁.setTop (mkF m 56 #[.val (.int vv)] [(.int (6 : Int32)), (.int vv)])) _
      refine XS.icmpYes X0.here hx rfl (pc0 := 56) (pc' := 63) rfl (hb hby d1_56) rfl (feq c6).2 (by decide) (by decide) ?_
      show Steps p.tables e below (s₁.setTop (mkF m 63 #[.val (.int vv)] [])) _
      refine XS.iloadN X0.here hx rfl (hb hby d1_63) rfl ?_
      show Steps p.tables e below (s₁.setTop (mkF m 64 #[.val (.int vv)] [(.int vv)])) _
      refine XS.bipush X0.here hx rfl (hb hby d1_64) ?_
      show Steps p.tables e below (s₁.setTop (mkF m 66 #[.val (.int vv)] [(.int (7 : Int32)), (.int vv)])) _
      refine XS.icmpYes X0.here hx rfl (pc0 := 66) (pc' := 73) rfl (hb hby d1_66) rfl (feq c7).2 (by decide) (by decide) ?_
      show Steps p.tables e below (s₁.setTop (mkF m 73 #[.val (.int vv)] [])) _
      refine XS.iloadN X0.here hx rfl (hb hby d1_73) rfl ?_
      show Steps p.tables e below (s₁.setTop (mkF m 74 #[.val (.int vv)] [(.int vv)])) _
      refine XS.bipush X0.here hx rfl (hb hby d1_74) ?_
      show Steps p.tables e below (s₁.setTop (mkF m 76 #[.val (.int vv)] [(.int (8 : Int32)), (.int vv)])) _
      refine XS.icmpNo X0.here hx rfl (hb hby d1_76) rfl (teq c8).2 ?_
      show Steps p.tables e below (s₁.setTop (mkF m 79 #[.val (.int vv)] [])) _
      exact k
    obtain ⟨T2, X2, e2, st2⟩ := getS (host := "") X0 hx hZ hown (hw _ (List.mem_of_getElem? (i := 26) rfl)) Via.refl e0 (show Sta Z h0 "com/example/riddle/riddle/xdm/AtomicType" "DOUBLE" "Lcom/example/riddle/riddle/xdm/AtomicType;" (.ref (A 8)) from hS 8 (by decide)) (g := (mkF m 79 #[.val (.int vv)] [])) rfl (hb hby d1_79)
    have hv : own_ix vv = 8 := by simp [own_ix, c0, c1, c2, c3, c4, c5, c6, c7, c8]
    obtain ⟨fs, hr, hrun, hended, hW, hsame⟩ := X2.leave (v := some (.ref (A 8))) (fun h => by rw [hret] at h; cases h)
    refine ⟨_, _, pre0 _ ?_, hrun, hended, _, _, rfl, ?_, ⟨_, rfl⟩, hW, hsame.mono (by decide) (by decide)⟩
    · refine sg1 _ ?_
      refine st2 _ ?_
      show Steps p.tables e below (T2.setTop (mkF m 82 #[.val (.int vv)] [(.ref (A 8))])) _
      exact retOut X2 hx (t := .object "com/example/riddle/riddle/xdm/AtomicType") hret rfl (Or.inr (Or.inr (Or.inr (Or.inr ⟨rfl, rfl, rfl⟩)))) (hb hby d1_82) hr
    · exact ⟨by rw [hv], N0, e2⟩
  by_cases c9 : vv = (9 : Int32)
  · skip
    have sg1 : ∀ t, Steps p.tables e below (s₁.setTop (mkF m 89 #[.val (.int vv)] [])) t → Steps p.tables e below (s₁.setTop (mkF m 0 #[.val (.int vv)] [])) t := by
      intro t k
      show Steps p.tables e below (s₁.setTop (mkF m 0 #[.val (.int vv)] [])) _
      refine XS.iloadN X0.here hx rfl (hb hby d1_0) rfl ?_
      show Steps p.tables e below (s₁.setTop (mkF m 1 #[.val (.int vv)] [(.int vv)])) _
      refine XS.ifYes X0.here hx rfl (pc0 := 1) (pc' := 8) rfl (hb hby d1_1) rfl ((if0 _ _).trans (feq c0).2) (by decide) (by decide) ?_
      show Steps p.tables e below (s₁.setTop (mkF m 8 #[.val (.int vv)] [])) _
      refine XS.iloadN X0.here hx rfl (hb hby d1_8) rfl ?_
      show Steps p.tables e below (s₁.setTop (mkF m 9 #[.val (.int vv)] [(.int vv)])) _
      refine XS.iconst X0.here hx rfl (hb hby d1_9) ?_
      show Steps p.tables e below (s₁.setTop (mkF m 10 #[.val (.int vv)] [(.int (1 : Int32)), (.int vv)])) _
      refine XS.icmpYes X0.here hx rfl (pc0 := 10) (pc' := 17) rfl (hb hby d1_10) rfl (feq c1).2 (by decide) (by decide) ?_
      show Steps p.tables e below (s₁.setTop (mkF m 17 #[.val (.int vv)] [])) _
      refine XS.iloadN X0.here hx rfl (hb hby d1_17) rfl ?_
      show Steps p.tables e below (s₁.setTop (mkF m 18 #[.val (.int vv)] [(.int vv)])) _
      refine XS.iconst X0.here hx rfl (hb hby d1_18) ?_
      show Steps p.tables e below (s₁.setTop (mkF m 19 #[.val (.int vv)] [(.int (2 : Int32)), (.int vv)])) _
      refine XS.icmpYes X0.here hx rfl (pc0 := 19) (pc' := 26) rfl (hb hby d1_19) rfl (feq c2).2 (by decide) (by decide) ?_
      show Steps p.tables e below (s₁.setTop (mkF m 26 #[.val (.int vv)] [])) _
      refine XS.iloadN X0.here hx rfl (hb hby d1_26) rfl ?_
      show Steps p.tables e below (s₁.setTop (mkF m 27 #[.val (.int vv)] [(.int vv)])) _
      refine XS.iconst X0.here hx rfl (hb hby d1_27) ?_
      show Steps p.tables e below (s₁.setTop (mkF m 28 #[.val (.int vv)] [(.int (3 : Int32)), (.int vv)])) _
      refine XS.icmpYes X0.here hx rfl (pc0 := 28) (pc' := 35) rfl (hb hby d1_28) rfl (feq c3).2 (by decide) (by decide) ?_
      show Steps p.tables e below (s₁.setTop (mkF m 35 #[.val (.int vv)] [])) _
      refine XS.iloadN X0.here hx rfl (hb hby d1_35) rfl ?_
      show Steps p.tables e below (s₁.setTop (mkF m 36 #[.val (.int vv)] [(.int vv)])) _
      refine XS.iconst X0.here hx rfl (hb hby d1_36) ?_
      show Steps p.tables e below (s₁.setTop (mkF m 37 #[.val (.int vv)] [(.int (4 : Int32)), (.int vv)])) _
      refine XS.icmpYes X0.here hx rfl (pc0 := 37) (pc' := 44) rfl (hb hby d1_37) rfl (feq c4).2 (by decide) (by decide) ?_
      show Steps p.tables e below (s₁.setTop (mkF m 44 #[.val (.int vv)] [])) _
      refine XS.iloadN X0.here hx rfl (hb hby d1_44) rfl ?_
      show Steps p.tables e below (s₁.setTop (mkF m 45 #[.val (.int vv)] [(.int vv)])) _
      refine XS.iconst X0.here hx rfl (hb hby d1_45) ?_
      show Steps p.tables e below (s₁.setTop (mkF m 46 #[.val (.int vv)] [(.int (5 : Int32)), (.int vv)])) _
      refine XS.icmpYes X0.here hx rfl (pc0 := 46) (pc' := 53) rfl (hb hby d1_46) rfl (feq c5).2 (by decide) (by decide) ?_
      show Steps p.tables e below (s₁.setTop (mkF m 53 #[.val (.int vv)] [])) _
      refine XS.iloadN X0.here hx rfl (hb hby d1_53) rfl ?_
      show Steps p.tables e below (s₁.setTop (mkF m 54 #[.val (.int vv)] [(.int vv)])) _
      refine XS.bipush X0.here hx rfl (hb hby d1_54) ?_
      show Steps p.tables e below (s₁.setTop (mkF m 56 #[.val (.int vv)] [(.int (6 : Int32)), (.int vv)])) _
      refine XS.icmpYes X0.here hx rfl (pc0 := 56) (pc' := 63) rfl (hb hby d1_56) rfl (feq c6).2 (by decide) (by decide) ?_
      show Steps p.tables e below (s₁.setTop (mkF m 63 #[.val (.int vv)] [])) _
      refine XS.iloadN X0.here hx rfl (hb hby d1_63) rfl ?_
      show Steps p.tables e below (s₁.setTop (mkF m 64 #[.val (.int vv)] [(.int vv)])) _
      refine XS.bipush X0.here hx rfl (hb hby d1_64) ?_
      show Steps p.tables e below (s₁.setTop (mkF m 66 #[.val (.int vv)] [(.int (7 : Int32)), (.int vv)])) _
      refine XS.icmpYes X0.here hx rfl (pc0 := 66) (pc' := 73) rfl (hb hby d1_66) rfl (feq c7).2 (by decide) (by decide) ?_
      show Steps p.tables e below (s₁.setTop (mkF m 73 #[.val (.int vv)] [])) _
      refine XS.iloadN X0.here hx rfl (hb hby d1_73) rfl ?_
      show Steps p.tables e below (s₁.setTop (mkF m 74 #[.val (.int vv)] [(.int vv)])) _
      refine XS.bipush X0.here hx rfl (hb hby d1_74) ?_
      show Steps p.tables e below (s₁.setTop (mkF m 76 #[.val (.int vv)] [(.int (8 : Int32)), (.int vv)])) _
      refine XS.icmpYes X0.here hx rfl (pc0 := 76) (pc' := 83) rfl (hb hby d1_76) rfl (feq c8).2 (by decide) (by decide) ?_
      show Steps p.tables e below (s₁.setTop (mkF m 83 #[.val (.int vv)] [])) _
      refine XS.iloadN X0.here hx rfl (hb hby d1_83) rfl ?_
      show Steps p.tables e below (s₁.setTop (mkF m 84 #[.val (.int vv)] [(.int vv)])) _
      refine XS.bipush X0.here hx rfl (hb hby d1_84) ?_
      show Steps p.tables e below (s₁.setTop (mkF m 86 #[.val (.int vv)] [(.int (9 : Int32)), (.int vv)])) _
      refine XS.icmpNo X0.here hx rfl (hb hby d1_86) rfl (teq c9).2 ?_
      show Steps p.tables e below (s₁.setTop (mkF m 89 #[.val (.int vv)] [])) _
      exact k
    obtain ⟨T2, X2, e2, st2⟩ := getS (host := "") X0 hx hZ hown (hw _ (List.mem_of_getElem? (i := 42) rfl)) Via.refl e0 (show Sta Z h0 "com/example/riddle/riddle/xdm/AtomicType" "DATE_TIME" "Lcom/example/riddle/riddle/xdm/AtomicType;" (.ref (A 9)) from hS 9 (by decide)) (g := (mkF m 89 #[.val (.int vv)] [])) rfl (hb hby d1_89)
    have hv : own_ix vv = 9 := by simp [own_ix, c0, c1, c2, c3, c4, c5, c6, c7, c8, c9]
    obtain ⟨fs, hr, hrun, hended, hW, hsame⟩ := X2.leave (v := some (.ref (A 9))) (fun h => by rw [hret] at h; cases h)
    refine ⟨_, _, pre0 _ ?_, hrun, hended, _, _, rfl, ?_, ⟨_, rfl⟩, hW, hsame.mono (by decide) (by decide)⟩
    · refine sg1 _ ?_
      refine st2 _ ?_
      show Steps p.tables e below (T2.setTop (mkF m 92 #[.val (.int vv)] [(.ref (A 9))])) _
      exact retOut X2 hx (t := .object "com/example/riddle/riddle/xdm/AtomicType") hret rfl (Or.inr (Or.inr (Or.inr (Or.inr ⟨rfl, rfl, rfl⟩)))) (hb hby d1_92) hr
    · exact ⟨by rw [hv], N0, e2⟩
  by_cases c10 : vv = (10 : Int32)
  · skip
    have sg1 : ∀ t, Steps p.tables e below (s₁.setTop (mkF m 99 #[.val (.int vv)] [])) t → Steps p.tables e below (s₁.setTop (mkF m 0 #[.val (.int vv)] [])) t := by
      intro t k
      show Steps p.tables e below (s₁.setTop (mkF m 0 #[.val (.int vv)] [])) _
      refine XS.iloadN X0.here hx rfl (hb hby d1_0) rfl ?_
      show Steps p.tables e below (s₁.setTop (mkF m 1 #[.val (.int vv)] [(.int vv)])) _
      refine XS.ifYes X0.here hx rfl (pc0 := 1) (pc' := 8) rfl (hb hby d1_1) rfl ((if0 _ _).trans (feq c0).2) (by decide) (by decide) ?_
      show Steps p.tables e below (s₁.setTop (mkF m 8 #[.val (.int vv)] [])) _
      refine XS.iloadN X0.here hx rfl (hb hby d1_8) rfl ?_
      show Steps p.tables e below (s₁.setTop (mkF m 9 #[.val (.int vv)] [(.int vv)])) _
      refine XS.iconst X0.here hx rfl (hb hby d1_9) ?_
      show Steps p.tables e below (s₁.setTop (mkF m 10 #[.val (.int vv)] [(.int (1 : Int32)), (.int vv)])) _
      refine XS.icmpYes X0.here hx rfl (pc0 := 10) (pc' := 17) rfl (hb hby d1_10) rfl (feq c1).2 (by decide) (by decide) ?_
      show Steps p.tables e below (s₁.setTop (mkF m 17 #[.val (.int vv)] [])) _
      refine XS.iloadN X0.here hx rfl (hb hby d1_17) rfl ?_
      show Steps p.tables e below (s₁.setTop (mkF m 18 #[.val (.int vv)] [(.int vv)])) _
      refine XS.iconst X0.here hx rfl (hb hby d1_18) ?_
      show Steps p.tables e below (s₁.setTop (mkF m 19 #[.val (.int vv)] [(.int (2 : Int32)), (.int vv)])) _
      refine XS.icmpYes X0.here hx rfl (pc0 := 19) (pc' := 26) rfl (hb hby d1_19) rfl (feq c2).2 (by decide) (by decide) ?_
      show Steps p.tables e below (s₁.setTop (mkF m 26 #[.val (.int vv)] [])) _
      refine XS.iloadN X0.here hx rfl (hb hby d1_26) rfl ?_
      show Steps p.tables e below (s₁.setTop (mkF m 27 #[.val (.int vv)] [(.int vv)])) _
      refine XS.iconst X0.here hx rfl (hb hby d1_27) ?_
      show Steps p.tables e below (s₁.setTop (mkF m 28 #[.val (.int vv)] [(.int (3 : Int32)), (.int vv)])) _
      refine XS.icmpYes X0.here hx rfl (pc0 := 28) (pc' := 35) rfl (hb hby d1_28) rfl (feq c3).2 (by decide) (by decide) ?_
      show Steps p.tables e below (s₁.setTop (mkF m 35 #[.val (.int vv)] [])) _
      refine XS.iloadN X0.here hx rfl (hb hby d1_35) rfl ?_
      show Steps p.tables e below (s₁.setTop (mkF m 36 #[.val (.int vv)] [(.int vv)])) _
      refine XS.iconst X0.here hx rfl (hb hby d1_36) ?_
      show Steps p.tables e below (s₁.setTop (mkF m 37 #[.val (.int vv)] [(.int (4 : Int32)), (.int vv)])) _
      refine XS.icmpYes X0.here hx rfl (pc0 := 37) (pc' := 44) rfl (hb hby d1_37) rfl (feq c4).2 (by decide) (by decide) ?_
      show Steps p.tables e below (s₁.setTop (mkF m 44 #[.val (.int vv)] [])) _
      refine XS.iloadN X0.here hx rfl (hb hby d1_44) rfl ?_
      show Steps p.tables e below (s₁.setTop (mkF m 45 #[.val (.int vv)] [(.int vv)])) _
      refine XS.iconst X0.here hx rfl (hb hby d1_45) ?_
      show Steps p.tables e below (s₁.setTop (mkF m 46 #[.val (.int vv)] [(.int (5 : Int32)), (.int vv)])) _
      refine XS.icmpYes X0.here hx rfl (pc0 := 46) (pc' := 53) rfl (hb hby d1_46) rfl (feq c5).2 (by decide) (by decide) ?_
      show Steps p.tables e below (s₁.setTop (mkF m 53 #[.val (.int vv)] [])) _
      refine XS.iloadN X0.here hx rfl (hb hby d1_53) rfl ?_
      show Steps p.tables e below (s₁.setTop (mkF m 54 #[.val (.int vv)] [(.int vv)])) _
      refine XS.bipush X0.here hx rfl (hb hby d1_54) ?_
      show Steps p.tables e below (s₁.setTop (mkF m 56 #[.val (.int vv)] [(.int (6 : Int32)), (.int vv)])) _
      refine XS.icmpYes X0.here hx rfl (pc0 := 56) (pc' := 63) rfl (hb hby d1_56) rfl (feq c6).2 (by decide) (by decide) ?_
      show Steps p.tables e below (s₁.setTop (mkF m 63 #[.val (.int vv)] [])) _
      refine XS.iloadN X0.here hx rfl (hb hby d1_63) rfl ?_
      show Steps p.tables e below (s₁.setTop (mkF m 64 #[.val (.int vv)] [(.int vv)])) _
      refine XS.bipush X0.here hx rfl (hb hby d1_64) ?_
      show Steps p.tables e below (s₁.setTop (mkF m 66 #[.val (.int vv)] [(.int (7 : Int32)), (.int vv)])) _
      refine XS.icmpYes X0.here hx rfl (pc0 := 66) (pc' := 73) rfl (hb hby d1_66) rfl (feq c7).2 (by decide) (by decide) ?_
      show Steps p.tables e below (s₁.setTop (mkF m 73 #[.val (.int vv)] [])) _
      refine XS.iloadN X0.here hx rfl (hb hby d1_73) rfl ?_
      show Steps p.tables e below (s₁.setTop (mkF m 74 #[.val (.int vv)] [(.int vv)])) _
      refine XS.bipush X0.here hx rfl (hb hby d1_74) ?_
      show Steps p.tables e below (s₁.setTop (mkF m 76 #[.val (.int vv)] [(.int (8 : Int32)), (.int vv)])) _
      refine XS.icmpYes X0.here hx rfl (pc0 := 76) (pc' := 83) rfl (hb hby d1_76) rfl (feq c8).2 (by decide) (by decide) ?_
      show Steps p.tables e below (s₁.setTop (mkF m 83 #[.val (.int vv)] [])) _
      refine XS.iloadN X0.here hx rfl (hb hby d1_83) rfl ?_
      show Steps p.tables e below (s₁.setTop (mkF m 84 #[.val (.int vv)] [(.int vv)])) _
      refine XS.bipush X0.here hx rfl (hb hby d1_84) ?_
      show Steps p.tables e below (s₁.setTop (mkF m 86 #[.val (.int vv)] [(.int (9 : Int32)), (.int vv)])) _
      refine XS.icmpYes X0.here hx rfl (pc0 := 86) (pc' := 93) rfl (hb hby d1_86) rfl (feq c9).2 (by decide) (by decide) ?_
      show Steps p.tables e below (s₁.setTop (mkF m 93 #[.val (.int vv)] [])) _
      refine XS.iloadN X0.here hx rfl (hb hby d1_93) rfl ?_
      show Steps p.tables e below (s₁.setTop (mkF m 94 #[.val (.int vv)] [(.int vv)])) _
      refine XS.bipush X0.here hx rfl (hb hby d1_94) ?_
      show Steps p.tables e below (s₁.setTop (mkF m 96 #[.val (.int vv)] [(.int (10 : Int32)), (.int vv)])) _
      refine XS.icmpNo X0.here hx rfl (hb hby d1_96) rfl (teq c10).2 ?_
      show Steps p.tables e below (s₁.setTop (mkF m 99 #[.val (.int vv)] [])) _
      exact k
    obtain ⟨T2, X2, e2, st2⟩ := getS (host := "") X0 hx hZ hown (hw _ (List.mem_of_getElem? (i := 22) rfl)) Via.refl e0 (show Sta Z h0 "com/example/riddle/riddle/xdm/AtomicType" "DATE" "Lcom/example/riddle/riddle/xdm/AtomicType;" (.ref (A 10)) from hS 10 (by decide)) (g := (mkF m 99 #[.val (.int vv)] [])) rfl (hb hby d1_99)
    have hv : own_ix vv = 10 := by simp [own_ix, c0, c1, c2, c3, c4, c5, c6, c7, c8, c9, c10]
    obtain ⟨fs, hr, hrun, hended, hW, hsame⟩ := X2.leave (v := some (.ref (A 10))) (fun h => by rw [hret] at h; cases h)
    refine ⟨_, _, pre0 _ ?_, hrun, hended, _, _, rfl, ?_, ⟨_, rfl⟩, hW, hsame.mono (by decide) (by decide)⟩
    · refine sg1 _ ?_
      refine st2 _ ?_
      show Steps p.tables e below (T2.setTop (mkF m 102 #[.val (.int vv)] [(.ref (A 10))])) _
      exact retOut X2 hx (t := .object "com/example/riddle/riddle/xdm/AtomicType") hret rfl (Or.inr (Or.inr (Or.inr (Or.inr ⟨rfl, rfl, rfl⟩)))) (hb hby d1_102) hr
    · exact ⟨by rw [hv], N0, e2⟩
  by_cases c11 : vv = (11 : Int32)
  · skip
    have sg1 : ∀ t, Steps p.tables e below (s₁.setTop (mkF m 109 #[.val (.int vv)] [])) t → Steps p.tables e below (s₁.setTop (mkF m 0 #[.val (.int vv)] [])) t := by
      intro t k
      show Steps p.tables e below (s₁.setTop (mkF m 0 #[.val (.int vv)] [])) _
      refine XS.iloadN X0.here hx rfl (hb hby d1_0) rfl ?_
      show Steps p.tables e below (s₁.setTop (mkF m 1 #[.val (.int vv)] [(.int vv)])) _
      refine XS.ifYes X0.here hx rfl (pc0 := 1) (pc' := 8) rfl (hb hby d1_1) rfl ((if0 _ _).trans (feq c0).2) (by decide) (by decide) ?_
      show Steps p.tables e below (s₁.setTop (mkF m 8 #[.val (.int vv)] [])) _
      refine XS.iloadN X0.here hx rfl (hb hby d1_8) rfl ?_
      show Steps p.tables e below (s₁.setTop (mkF m 9 #[.val (.int vv)] [(.int vv)])) _
      refine XS.iconst X0.here hx rfl (hb hby d1_9) ?_
      show Steps p.tables e below (s₁.setTop (mkF m 10 #[.val (.int vv)] [(.int (1 : Int32)), (.int vv)])) _
      refine XS.icmpYes X0.here hx rfl (pc0 := 10) (pc' := 17) rfl (hb hby d1_10) rfl (feq c1).2 (by decide) (by decide) ?_
      show Steps p.tables e below (s₁.setTop (mkF m 17 #[.val (.int vv)] [])) _
      refine XS.iloadN X0.here hx rfl (hb hby d1_17) rfl ?_
      show Steps p.tables e below (s₁.setTop (mkF m 18 #[.val (.int vv)] [(.int vv)])) _
      refine XS.iconst X0.here hx rfl (hb hby d1_18) ?_
      show Steps p.tables e below (s₁.setTop (mkF m 19 #[.val (.int vv)] [(.int (2 : Int32)), (.int vv)])) _
      refine XS.icmpYes X0.here hx rfl (pc0 := 19) (pc' := 26) rfl (hb hby d1_19) rfl (feq c2).2 (by decide) (by decide) ?_
      show Steps p.tables e below (s₁.setTop (mkF m 26 #[.val (.int vv)] [])) _
      refine XS.iloadN X0.here hx rfl (hb hby d1_26) rfl ?_
      show Steps p.tables e below (s₁.setTop (mkF m 27 #[.val (.int vv)] [(.int vv)])) _
      refine XS.iconst X0.here hx rfl (hb hby d1_27) ?_
      show Steps p.tables e below (s₁.setTop (mkF m 28 #[.val (.int vv)] [(.int (3 : Int32)), (.int vv)])) _
      refine XS.icmpYes X0.here hx rfl (pc0 := 28) (pc' := 35) rfl (hb hby d1_28) rfl (feq c3).2 (by decide) (by decide) ?_
      show Steps p.tables e below (s₁.setTop (mkF m 35 #[.val (.int vv)] [])) _
      refine XS.iloadN X0.here hx rfl (hb hby d1_35) rfl ?_
      show Steps p.tables e below (s₁.setTop (mkF m 36 #[.val (.int vv)] [(.int vv)])) _
      refine XS.iconst X0.here hx rfl (hb hby d1_36) ?_
      show Steps p.tables e below (s₁.setTop (mkF m 37 #[.val (.int vv)] [(.int (4 : Int32)), (.int vv)])) _
      refine XS.icmpYes X0.here hx rfl (pc0 := 37) (pc' := 44) rfl (hb hby d1_37) rfl (feq c4).2 (by decide) (by decide) ?_
      show Steps p.tables e below (s₁.setTop (mkF m 44 #[.val (.int vv)] [])) _
      refine XS.iloadN X0.here hx rfl (hb hby d1_44) rfl ?_
      show Steps p.tables e below (s₁.setTop (mkF m 45 #[.val (.int vv)] [(.int vv)])) _
      refine XS.iconst X0.here hx rfl (hb hby d1_45) ?_
      show Steps p.tables e below (s₁.setTop (mkF m 46 #[.val (.int vv)] [(.int (5 : Int32)), (.int vv)])) _
      refine XS.icmpYes X0.here hx rfl (pc0 := 46) (pc' := 53) rfl (hb hby d1_46) rfl (feq c5).2 (by decide) (by decide) ?_
      show Steps p.tables e below (s₁.setTop (mkF m 53 #[.val (.int vv)] [])) _
      refine XS.iloadN X0.here hx rfl (hb hby d1_53) rfl ?_
      show Steps p.tables e below (s₁.setTop (mkF m 54 #[.val (.int vv)] [(.int vv)])) _
      refine XS.bipush X0.here hx rfl (hb hby d1_54) ?_
      show Steps p.tables e below (s₁.setTop (mkF m 56 #[.val (.int vv)] [(.int (6 : Int32)), (.int vv)])) _
      refine XS.icmpYes X0.here hx rfl (pc0 := 56) (pc' := 63) rfl (hb hby d1_56) rfl (feq c6).2 (by decide) (by decide) ?_
      show Steps p.tables e below (s₁.setTop (mkF m 63 #[.val (.int vv)] [])) _
      refine XS.iloadN X0.here hx rfl (hb hby d1_63) rfl ?_
      show Steps p.tables e below (s₁.setTop (mkF m 64 #[.val (.int vv)] [(.int vv)])) _
      refine XS.bipush X0.here hx rfl (hb hby d1_64) ?_
      show Steps p.tables e below (s₁.setTop (mkF m 66 #[.val (.int vv)] [(.int (7 : Int32)), (.int vv)])) _
      refine XS.icmpYes X0.here hx rfl (pc0 := 66) (pc' := 73) rfl (hb hby d1_66) rfl (feq c7).2 (by decide) (by decide) ?_
      show Steps p.tables e below (s₁.setTop (mkF m 73 #[.val (.int vv)] [])) _
      refine XS.iloadN X0.here hx rfl (hb hby d1_73) rfl ?_
      show Steps p.tables e below (s₁.setTop (mkF m 74 #[.val (.int vv)] [(.int vv)])) _
      refine XS.bipush X0.here hx rfl (hb hby d1_74) ?_
      show Steps p.tables e below (s₁.setTop (mkF m 76 #[.val (.int vv)] [(.int (8 : Int32)), (.int vv)])) _
      refine XS.icmpYes X0.here hx rfl (pc0 := 76) (pc' := 83) rfl (hb hby d1_76) rfl (feq c8).2 (by decide) (by decide) ?_
      show Steps p.tables e below (s₁.setTop (mkF m 83 #[.val (.int vv)] [])) _
      refine XS.iloadN X0.here hx rfl (hb hby d1_83) rfl ?_
      show Steps p.tables e below (s₁.setTop (mkF m 84 #[.val (.int vv)] [(.int vv)])) _
      refine XS.bipush X0.here hx rfl (hb hby d1_84) ?_
      show Steps p.tables e below (s₁.setTop (mkF m 86 #[.val (.int vv)] [(.int (9 : Int32)), (.int vv)])) _
      refine XS.icmpYes X0.here hx rfl (pc0 := 86) (pc' := 93) rfl (hb hby d1_86) rfl (feq c9).2 (by decide) (by decide) ?_
      show Steps p.tables e below (s₁.setTop (mkF m 93 #[.val (.int vv)] [])) _
      refine XS.iloadN X0.here hx rfl (hb hby d1_93) rfl ?_
      show Steps p.tables e below (s₁.setTop (mkF m 94 #[.val (.int vv)] [(.int vv)])) _
      refine XS.bipush X0.here hx rfl (hb hby d1_94) ?_
      show Steps p.tables e below (s₁.setTop (mkF m 96 #[.val (.int vv)] [(.int (10 : Int32)), (.int vv)])) _
      refine XS.icmpYes X0.here hx rfl (pc0 := 96) (pc' := 103) rfl (hb hby d1_96) rfl (feq c10).2 (by decide) (by decide) ?_
      show Steps p.tables e below (s₁.setTop (mkF m 103 #[.val (.int vv)] [])) _
      refine XS.iloadN X0.here hx rfl (hb hby d1_103) rfl ?_
      show Steps p.tables e below (s₁.setTop (mkF m 104 #[.val (.int vv)] [(.int vv)])) _
      refine XS.bipush X0.here hx rfl (hb hby d1_104) ?_
      show Steps p.tables e below (s₁.setTop (mkF m 106 #[.val (.int vv)] [(.int (11 : Int32)), (.int vv)])) _
      refine XS.icmpNo X0.here hx rfl (hb hby d1_106) rfl (teq c11).2 ?_
      show Steps p.tables e below (s₁.setTop (mkF m 109 #[.val (.int vv)] [])) _
      exact k
    obtain ⟨T2, X2, e2, st2⟩ := getS (host := "") X0 hx hZ hown (hw _ (List.mem_of_getElem? (i := 32) rfl)) Via.refl e0 (show Sta Z h0 "com/example/riddle/riddle/xdm/AtomicType" "TIME" "Lcom/example/riddle/riddle/xdm/AtomicType;" (.ref (A 11)) from hS 11 (by decide)) (g := (mkF m 109 #[.val (.int vv)] [])) rfl (hb hby d1_109)
    have hv : own_ix vv = 11 := by simp [own_ix, c0, c1, c2, c3, c4, c5, c6, c7, c8, c9, c10, c11]
    obtain ⟨fs, hr, hrun, hended, hW, hsame⟩ := X2.leave (v := some (.ref (A 11))) (fun h => by rw [hret] at h; cases h)
    refine ⟨_, _, pre0 _ ?_, hrun, hended, _, _, rfl, ?_, ⟨_, rfl⟩, hW, hsame.mono (by decide) (by decide)⟩
    · refine sg1 _ ?_
      refine st2 _ ?_
      show Steps p.tables e below (T2.setTop (mkF m 112 #[.val (.int vv)] [(.ref (A 11))])) _
      exact retOut X2 hx (t := .object "com/example/riddle/riddle/xdm/AtomicType") hret rfl (Or.inr (Or.inr (Or.inr (Or.inr ⟨rfl, rfl, rfl⟩)))) (hb hby d1_112) hr
    · exact ⟨by rw [hv], N0, e2⟩
  by_cases c12 : vv = (12 : Int32)
  · skip
    have sg1 : ∀ t, Steps p.tables e below (s₁.setTop (mkF m 119 #[.val (.int vv)] [])) t → Steps p.tables e below (s₁.setTop (mkF m 0 #[.val (.int vv)] [])) t := by
      intro t k
      show Steps p.tables e below (s₁.setTop (mkF m 0 #[.val (.int vv)] [])) _
      refine XS.iloadN X0.here hx rfl (hb hby d1_0) rfl ?_
      show Steps p.tables e below (s₁.setTop (mkF m 1 #[.val (.int vv)] [(.int vv)])) _
      refine XS.ifYes X0.here hx rfl (pc0 := 1) (pc' := 8) rfl (hb hby d1_1) rfl ((if0 _ _).trans (feq c0).2) (by decide) (by decide) ?_
      show Steps p.tables e below (s₁.setTop (mkF m 8 #[.val (.int vv)] [])) _
      refine XS.iloadN X0.here hx rfl (hb hby d1_8) rfl ?_
      show Steps p.tables e below (s₁.setTop (mkF m 9 #[.val (.int vv)] [(.int vv)])) _
      refine XS.iconst X0.here hx rfl (hb hby d1_9) ?_
      show Steps p.tables e below (s₁.setTop (mkF m 10 #[.val (.int vv)] [(.int (1 : Int32)), (.int vv)])) _
      refine XS.icmpYes X0.here hx rfl (pc0 := 10) (pc' := 17) rfl (hb hby d1_10) rfl (feq c1).2 (by decide) (by decide) ?_
      show Steps p.tables e below (s₁.setTop (mkF m 17 #[.val (.int vv)] [])) _
      refine XS.iloadN X0.here hx rfl (hb hby d1_17) rfl ?_
      show Steps p.tables e below (s₁.setTop (mkF m 18 #[.val (.int vv)] [(.int vv)])) _
      refine XS.iconst X0.here hx rfl (hb hby d1_18) ?_
      show Steps p.tables e below (s₁.setTop (mkF m 19 #[.val (.int vv)] [(.int (2 : Int32)), (.int vv)])) _
      refine XS.icmpYes X0.here hx rfl (pc0 := 19) (pc' := 26) rfl (hb hby d1_19) rfl (feq c2).2 (by decide) (by decide) ?_
      show Steps p.tables e below (s₁.setTop (mkF m 26 #[.val (.int vv)] [])) _
      refine XS.iloadN X0.here hx rfl (hb hby d1_26) rfl ?_
      show Steps p.tables e below (s₁.setTop (mkF m 27 #[.val (.int vv)] [(.int vv)])) _
      refine XS.iconst X0.here hx rfl (hb hby d1_27) ?_
      show Steps p.tables e below (s₁.setTop (mkF m 28 #[.val (.int vv)] [(.int (3 : Int32)), (.int vv)])) _
      refine XS.icmpYes X0.here hx rfl (pc0 := 28) (pc' := 35) rfl (hb hby d1_28) rfl (feq c3).2 (by decide) (by decide) ?_
      show Steps p.tables e below (s₁.setTop (mkF m 35 #[.val (.int vv)] [])) _
      refine XS.iloadN X0.here hx rfl (hb hby d1_35) rfl ?_
      show Steps p.tables e below (s₁.setTop (mkF m 36 #[.val (.int vv)] [(.int vv)])) _
      refine XS.iconst X0.here hx rfl (hb hby d1_36) ?_
      show Steps p.tables e below (s₁.setTop (mkF m 37 #[.val (.int vv)] [(.int (4 : Int32)), (.int vv)])) _
      refine XS.icmpYes X0.here hx rfl (pc0 := 37) (pc' := 44) rfl (hb hby d1_37) rfl (feq c4).2 (by decide) (by decide) ?_
      show Steps p.tables e below (s₁.setTop (mkF m 44 #[.val (.int vv)] [])) _
      refine XS.iloadN X0.here hx rfl (hb hby d1_44) rfl ?_
      show Steps p.tables e below (s₁.setTop (mkF m 45 #[.val (.int vv)] [(.int vv)])) _
      refine XS.iconst X0.here hx rfl (hb hby d1_45) ?_
      show Steps p.tables e below (s₁.setTop (mkF m 46 #[.val (.int vv)] [(.int (5 : Int32)), (.int vv)])) _
      refine XS.icmpYes X0.here hx rfl (pc0 := 46) (pc' := 53) rfl (hb hby d1_46) rfl (feq c5).2 (by decide) (by decide) ?_
      show Steps p.tables e below (s₁.setTop (mkF m 53 #[.val (.int vv)] [])) _
      refine XS.iloadN X0.here hx rfl (hb hby d1_53) rfl ?_
      show Steps p.tables e below (s₁.setTop (mkF m 54 #[.val (.int vv)] [(.int vv)])) _
      refine XS.bipush X0.here hx rfl (hb hby d1_54) ?_
      show Steps p.tables e below (s₁.setTop (mkF m 56 #[.val (.int vv)] [(.int (6 : Int32)), (.int vv)])) _
      refine XS.icmpYes X0.here hx rfl (pc0 := 56) (pc' := 63) rfl (hb hby d1_56) rfl (feq c6).2 (by decide) (by decide) ?_
      show Steps p.tables e below (s₁.setTop (mkF m 63 #[.val (.int vv)] [])) _
      refine XS.iloadN X0.here hx rfl (hb hby d1_63) rfl ?_
      show Steps p.tables e below (s₁.setTop (mkF m 64 #[.val (.int vv)] [(.int vv)])) _
      refine XS.bipush X0.here hx rfl (hb hby d1_64) ?_
      show Steps p.tables e below (s₁.setTop (mkF m 66 #[.val (.int vv)] [(.int (7 : Int32)), (.int vv)])) _
      refine XS.icmpYes X0.here hx rfl (pc0 := 66) (pc' := 73) rfl (hb hby d1_66) rfl (feq c7).2 (by decide) (by decide) ?_
      show Steps p.tables e below (s₁.setTop (mkF m 73 #[.val (.int vv)] [])) _
      refine XS.iloadN X0.here hx rfl (hb hby d1_73) rfl ?_
      show Steps p.tables e below (s₁.setTop (mkF m 74 #[.val (.int vv)] [(.int vv)])) _
      refine XS.bipush X0.here hx rfl (hb hby d1_74) ?_
      show Steps p.tables e below (s₁.setTop (mkF m 76 #[.val (.int vv)] [(.int (8 : Int32)), (.int vv)])) _
      refine XS.icmpYes X0.here hx rfl (pc0 := 76) (pc' := 83) rfl (hb hby d1_76) rfl (feq c8).2 (by decide) (by decide) ?_
      show Steps p.tables e below (s₁.setTop (mkF m 83 #[.val (.int vv)] [])) _
      refine XS.iloadN X0.here hx rfl (hb hby d1_83) rfl ?_
      show Steps p.tables e below (s₁.setTop (mkF m 84 #[.val (.int vv)] [(.int vv)])) _
      refine XS.bipush X0.here hx rfl (hb hby d1_84) ?_
      show Steps p.tables e below (s₁.setTop (mkF m 86 #[.val (.int vv)] [(.int (9 : Int32)), (.int vv)])) _
      refine XS.icmpYes X0.here hx rfl (pc0 := 86) (pc' := 93) rfl (hb hby d1_86) rfl (feq c9).2 (by decide) (by decide) ?_
      show Steps p.tables e below (s₁.setTop (mkF m 93 #[.val (.int vv)] [])) _
      refine XS.iloadN X0.here hx rfl (hb hby d1_93) rfl ?_
      show Steps p.tables e below (s₁.setTop (mkF m 94 #[.val (.int vv)] [(.int vv)])) _
      refine XS.bipush X0.here hx rfl (hb hby d1_94) ?_
      show Steps p.tables e below (s₁.setTop (mkF m 96 #[.val (.int vv)] [(.int (10 : Int32)), (.int vv)])) _
      refine XS.icmpYes X0.here hx rfl (pc0 := 96) (pc' := 103) rfl (hb hby d1_96) rfl (feq c10).2 (by decide) (by decide) ?_
      show Steps p.tables e below (s₁.setTop (mkF m 103 #[.val (.int vv)] [])) _
      refine XS.iloadN X0.here hx rfl (hb hby d1_103) rfl ?_
      show Steps p.tables e below (s₁.setTop (mkF m 104 #[.val (.int vv)] [(.int vv)])) _
      refine XS.bipush X0.here hx rfl (hb hby d1_104) ?_
      show Steps p.tables e below (s₁.setTop (mkF m 106 #[.val (.int vv)] [(.int (11 : Int32)), (.int vv)])) _
      refine XS.icmpYes X0.here hx rfl (pc0 := 106) (pc' := 113) rfl (hb hby d1_106) rfl (feq c11).2 (by decide) (by decide) ?_
      show Steps p.tables e below (s₁.setTop (mkF m 113 #[.val (.int vv)] [])) _
      refine XS.iloadN X0.here hx rfl (hb hby d1_113) rfl ?_
      show Steps p.tables e below (s₁.setTop (mkF m 114 #[.val (.int vv)] [(.int vv)])) _
      refine XS.bipush X0.here hx rfl (hb hby d1_114) ?_
      show Steps p.tables e below (s₁.setTop (mkF m 116 #[.val (.int vv)] [(.int (12 : Int32)), (.int vv)])) _
      refine XS.icmpNo X0.here hx rfl (hb hby d1_116) rfl (teq c12).2 ?_
      show Steps p.tables e below (s₁.setTop (mkF m 119 #[.val (.int vv)] [])) _
      exact k
    obtain ⟨T2, X2, e2, st2⟩ := getS (host := "") X0 hx hZ hown (hw _ (List.mem_of_getElem? (i := 38) rfl)) Via.refl e0 (show Sta Z h0 "com/example/riddle/riddle/xdm/AtomicType" "ANY_URI" "Lcom/example/riddle/riddle/xdm/AtomicType;" (.ref (A 12)) from hS 12 (by decide)) (g := (mkF m 119 #[.val (.int vv)] [])) rfl (hb hby d1_119)
    have hv : own_ix vv = 12 := by simp [own_ix, c0, c1, c2, c3, c4, c5, c6, c7, c8, c9, c10, c11, c12]
    obtain ⟨fs, hr, hrun, hended, hW, hsame⟩ := X2.leave (v := some (.ref (A 12))) (fun h => by rw [hret] at h; cases h)
    refine ⟨_, _, pre0 _ ?_, hrun, hended, _, _, rfl, ?_, ⟨_, rfl⟩, hW, hsame.mono (by decide) (by decide)⟩
    · refine sg1 _ ?_
      refine st2 _ ?_
      show Steps p.tables e below (T2.setTop (mkF m 122 #[.val (.int vv)] [(.ref (A 12))])) _
      exact retOut X2 hx (t := .object "com/example/riddle/riddle/xdm/AtomicType") hret rfl (Or.inr (Or.inr (Or.inr (Or.inr ⟨rfl, rfl, rfl⟩)))) (hb hby d1_122) hr
    · exact ⟨by rw [hv], N0, e2⟩
  have sg1 : ∀ t, Steps p.tables e below (s₁.setTop (mkF m 123 #[.val (.int vv)] [])) t → Steps p.tables e below (s₁.setTop (mkF m 0 #[.val (.int vv)] [])) t := by
    intro t k
    show Steps p.tables e below (s₁.setTop (mkF m 0 #[.val (.int vv)] [])) _
    refine XS.iloadN X0.here hx rfl (hb hby d1_0) rfl ?_
    show Steps p.tables e below (s₁.setTop (mkF m 1 #[.val (.int vv)] [(.int vv)])) _
    refine XS.ifYes X0.here hx rfl (pc0 := 1) (pc' := 8) rfl (hb hby d1_1) rfl ((if0 _ _).trans (feq c0).2) (by decide) (by decide) ?_
    show Steps p.tables e below (s₁.setTop (mkF m 8 #[.val (.int vv)] [])) _
    refine XS.iloadN X0.here hx rfl (hb hby d1_8) rfl ?_
    show Steps p.tables e below (s₁.setTop (mkF m 9 #[.val (.int vv)] [(.int vv)])) _
    refine XS.iconst X0.here hx rfl (hb hby d1_9) ?_
    show Steps p.tables e below (s₁.setTop (mkF m 10 #[.val (.int vv)] [(.int (1 : Int32)), (.int vv)])) _
    refine XS.icmpYes X0.here hx rfl (pc0 := 10) (pc' := 17) rfl (hb hby d1_10) rfl (feq c1).2 (by decide) (by decide) ?_
    show Steps p.tables e below (s₁.setTop (mkF m 17 #[.val (.int vv)] [])) _
    refine XS.iloadN X0.here hx rfl (hb hby d1_17) rfl ?_
    show Steps p.tables e below (s₁.setTop (mkF m 18 #[.val (.int vv)] [(.int vv)])) _
    refine XS.iconst X0.here hx rfl (hb hby d1_18) ?_
    show Steps p.tables e below (s₁.setTop (mkF m 19 #[.val (.int vv)] [(.int (2 : Int32)), (.int vv)])) _
    refine XS.icmpYes X0.here hx rfl (pc0 := 19) (pc' := 26) rfl (hb hby d1_19) rfl (feq c2).2 (by decide) (by decide) ?_
    show Steps p.tables e below (s₁.setTop (mkF m 26 #[.val (.int vv)] [])) _
    refine XS.iloadN X0.here hx rfl (hb hby d1_26) rfl ?_
    show Steps p.tables e below (s₁.setTop (mkF m 27 #[.val (.int vv)] [(.int vv)])) _
    refine XS.iconst X0.here hx rfl (hb hby d1_27) ?_
    show Steps p.tables e below (s₁.setTop (mkF m 28 #[.val (.int vv)] [(.int (3 : Int32)), (.int vv)])) _
    refine XS.icmpYes X0.here hx rfl (pc0 := 28) (pc' := 35) rfl (hb hby d1_28) rfl (feq c3).2 (by decide) (by decide) ?_
    show Steps p.tables e below (s₁.setTop (mkF m 35 #[.val (.int vv)] [])) _
    refine XS.iloadN X0.here hx rfl (hb hby d1_35) rfl ?_
    show Steps p.tables e below (s₁.setTop (mkF m 36 #[.val (.int vv)] [(.int vv)])) _
    refine XS.iconst X0.here hx rfl (hb hby d1_36) ?_
    show Steps p.tables e below (s₁.setTop (mkF m 37 #[.val (.int vv)] [(.int (4 : Int32)), (.int vv)])) _
    refine XS.icmpYes X0.here hx rfl (pc0 := 37) (pc' := 44) rfl (hb hby d1_37) rfl (feq c4).2 (by decide) (by decide) ?_
    show Steps p.tables e below (s₁.setTop (mkF m 44 #[.val (.int vv)] [])) _
    refine XS.iloadN X0.here hx rfl (hb hby d1_44) rfl ?_
    show Steps p.tables e below (s₁.setTop (mkF m 45 #[.val (.int vv)] [(.int vv)])) _
    refine XS.iconst X0.here hx rfl (hb hby d1_45) ?_
    show Steps p.tables e below (s₁.setTop (mkF m 46 #[.val (.int vv)] [(.int (5 : Int32)), (.int vv)])) _
    refine XS.icmpYes X0.here hx rfl (pc0 := 46) (pc' := 53) rfl (hb hby d1_46) rfl (feq c5).2 (by decide) (by decide) ?_
    show Steps p.tables e below (s₁.setTop (mkF m 53 #[.val (.int vv)] [])) _
    refine XS.iloadN X0.here hx rfl (hb hby d1_53) rfl ?_
    show Steps p.tables e below (s₁.setTop (mkF m 54 #[.val (.int vv)] [(.int vv)])) _
    refine XS.bipush X0.here hx rfl (hb hby d1_54) ?_
    show Steps p.tables e below (s₁.setTop (mkF m 56 #[.val (.int vv)] [(.int (6 : Int32)), (.int vv)])) _
    refine XS.icmpYes X0.here hx rfl (pc0 := 56) (pc' := 63) rfl (hb hby d1_56) rfl (feq c6).2 (by decide) (by decide) ?_
    show Steps p.tables e below (s₁.setTop (mkF m 63 #[.val (.int vv)] [])) _
    refine XS.iloadN X0.here hx rfl (hb hby d1_63) rfl ?_
    show Steps p.tables e below (s₁.setTop (mkF m 64 #[.val (.int vv)] [(.int vv)])) _
    refine XS.bipush X0.here hx rfl (hb hby d1_64) ?_
    show Steps p.tables e below (s₁.setTop (mkF m 66 #[.val (.int vv)] [(.int (7 : Int32)), (.int vv)])) _
    refine XS.icmpYes X0.here hx rfl (pc0 := 66) (pc' := 73) rfl (hb hby d1_66) rfl (feq c7).2 (by decide) (by decide) ?_
    show Steps p.tables e below (s₁.setTop (mkF m 73 #[.val (.int vv)] [])) _
    refine XS.iloadN X0.here hx rfl (hb hby d1_73) rfl ?_
    show Steps p.tables e below (s₁.setTop (mkF m 74 #[.val (.int vv)] [(.int vv)])) _
    refine XS.bipush X0.here hx rfl (hb hby d1_74) ?_
    show Steps p.tables e below (s₁.setTop (mkF m 76 #[.val (.int vv)] [(.int (8 : Int32)), (.int vv)])) _
    refine XS.icmpYes X0.here hx rfl (pc0 := 76) (pc' := 83) rfl (hb hby d1_76) rfl (feq c8).2 (by decide) (by decide) ?_
    show Steps p.tables e below (s₁.setTop (mkF m 83 #[.val (.int vv)] [])) _
    refine XS.iloadN X0.here hx rfl (hb hby d1_83) rfl ?_
    show Steps p.tables e below (s₁.setTop (mkF m 84 #[.val (.int vv)] [(.int vv)])) _
    refine XS.bipush X0.here hx rfl (hb hby d1_84) ?_
    show Steps p.tables e below (s₁.setTop (mkF m 86 #[.val (.int vv)] [(.int (9 : Int32)), (.int vv)])) _
    refine XS.icmpYes X0.here hx rfl (pc0 := 86) (pc' := 93) rfl (hb hby d1_86) rfl (feq c9).2 (by decide) (by decide) ?_
    show Steps p.tables e below (s₁.setTop (mkF m 93 #[.val (.int vv)] [])) _
    refine XS.iloadN X0.here hx rfl (hb hby d1_93) rfl ?_
    show Steps p.tables e below (s₁.setTop (mkF m 94 #[.val (.int vv)] [(.int vv)])) _
    refine XS.bipush X0.here hx rfl (hb hby d1_94) ?_
    show Steps p.tables e below (s₁.setTop (mkF m 96 #[.val (.int vv)] [(.int (10 : Int32)), (.int vv)])) _
    refine XS.icmpYes X0.here hx rfl (pc0 := 96) (pc' := 103) rfl (hb hby d1_96) rfl (feq c10).2 (by decide) (by decide) ?_
    show Steps p.tables e below (s₁.setTop (mkF m 103 #[.val (.int vv)] [])) _
    refine XS.iloadN X0.here hx rfl (hb hby d1_103) rfl ?_
    show Steps p.tables e below (s₁.setTop (mkF m 104 #[.val (.int vv)] [(.int vv)])) _
    refine XS.bipush X0.here hx rfl (hb hby d1_104) ?_
    show Steps p.tables e below (s₁.setTop (mkF m 106 #[.val (.int vv)] [(.int (11 : Int32)), (.int vv)])) _
    refine XS.icmpYes X0.here hx rfl (pc0 := 106) (pc' := 113) rfl (hb hby d1_106) rfl (feq c11).2 (by decide) (by decide) ?_
    show Steps p.tables e below (s₁.setTop (mkF m 113 #[.val (.int vv)] [])) _
    refine XS.iloadN X0.here hx rfl (hb hby d1_113) rfl ?_
    show Steps p.tables e below (s₁.setTop (mkF m 114 #[.val (.int vv)] [(.int vv)])) _
    refine XS.bipush X0.here hx rfl (hb hby d1_114) ?_
    show Steps p.tables e below (s₁.setTop (mkF m 116 #[.val (.int vv)] [(.int (12 : Int32)), (.int vv)])) _
    refine XS.icmpYes X0.here hx rfl (pc0 := 116) (pc' := 123) rfl (hb hby d1_116) rfl (feq c12).2 (by decide) (by decide) ?_
    show Steps p.tables e below (s₁.setTop (mkF m 123 #[.val (.int vv)] [])) _
    exact k
  obtain ⟨T2, X2, e2, st2⟩ := getS (host := "") X0 hx hZ hown (hw _ (List.mem_of_getElem? (i := 34) rfl)) Via.refl e0 (show Sta Z h0 "com/example/riddle/riddle/xdm/AtomicType" "HEX_BINARY" "Lcom/example/riddle/riddle/xdm/AtomicType;" (.ref (A 13)) from hS 13 (by decide)) (g := (mkF m 123 #[.val (.int vv)] [])) rfl (hb hby d1_123)
  have hv : own_ix vv = 13 := by simp [own_ix, c0, c1, c2, c3, c4, c5, c6, c7, c8, c9, c10, c11, c12]
  obtain ⟨fs, hr, hrun, hended, hW, hsame⟩ := X2.leave (v := some (.ref (A 13))) (fun h => by rw [hret] at h; cases h)
  refine ⟨_, _, pre0 _ ?_, hrun, hended, _, _, rfl, ?_, ⟨_, rfl⟩, hW, hsame.mono (by decide) (by decide)⟩
  · refine sg1 _ ?_
    refine st2 _ ?_
    show Steps p.tables e below (T2.setTop (mkF m 126 #[.val (.int vv)] [(.ref (A 13))])) _
    exact retOut X2 hx (t := .object "com/example/riddle/riddle/xdm/AtomicType") hret rfl (Or.inr (Or.inr (Or.inr (Or.inr ⟨rfl, rfl, rfl⟩)))) (hb hby d1_126) hr
  · exact ⟨by rw [hv], N0, e2⟩
theorem d3_0 : decode method_3_code 0 = .ok (.iload_n 0, 1) := by decide +kernel
theorem d3_1 : decode method_3_code 1 = .ok (.iload_n 1, 1) := by decide +kernel
theorem d3_2 : decode method_3_code 2 = .ok (.if_icmp .ne 5, 3) := by decide +kernel
theorem d3_5 : decode method_3_code 5 = .ok (.iconst 1, 1) := by decide +kernel
theorem d3_6 : decode method_3_code 6 = .ok (.ireturn, 1) := by decide +kernel
theorem d3_7 : decode method_3_code 7 = .ok (.iload_n 1, 1) := by decide +kernel
theorem d3_8 : decode method_3_code 8 = .ok (.ifCond .ne 5, 3) := by decide +kernel
theorem d3_11 : decode method_3_code 11 = .ok (.iconst 1, 1) := by decide +kernel
theorem d3_12 : decode method_3_code 12 = .ok (.ireturn, 1) := by decide +kernel
theorem d3_13 : decode method_3_code 13 = .ok (.iload_n 1, 1) := by decide +kernel
theorem d3_14 : decode method_3_code 14 = .ok (.iconst 4, 1) := by decide +kernel
theorem d3_15 : decode method_3_code 15 = .ok (.if_icmp .ne 32, 3) := by decide +kernel
theorem d3_18 : decode method_3_code 18 = .ok (.iload_n 0, 1) := by decide +kernel
theorem d3_19 : decode method_3_code 19 = .ok (.iconst 5, 1) := by decide +kernel
theorem d3_20 : decode method_3_code 20 = .ok (.if_icmp .eq 21, 3) := by decide +kernel
theorem d3_23 : decode method_3_code 23 = .ok (.iload_n 0, 1) := by decide +kernel
theorem d3_24 : decode method_3_code 24 = .ok (.bipush 6, 2) := by decide +kernel
theorem d3_26 : decode method_3_code 26 = .ok (.if_icmp .eq 15, 3) := by decide +kernel
theorem d3_29 : decode method_3_code 29 = .ok (.iload_n 0, 1) := by decide +kernel
theorem d3_30 : decode method_3_code 30 = .ok (.bipush 7, 2) := by decide +kernel
theorem d3_32 : decode method_3_code 32 = .ok (.if_icmp .eq 9, 3) := by decide +kernel
theorem d3_35 : decode method_3_code 35 = .ok (.iload_n 0, 1) := by decide +kernel
theorem d3_36 : decode method_3_code 36 = .ok (.bipush 8, 2) := by decide +kernel
theorem d3_38 : decode method_3_code 38 = .ok (.if_icmp .ne 7, 3) := by decide +kernel
theorem d3_41 : decode method_3_code 41 = .ok (.iconst 1, 1) := by decide +kernel
theorem d3_42 : decode method_3_code 42 = .ok (.goto 4, 3) := by decide +kernel
theorem d3_45 : decode method_3_code 45 = .ok (.iconst 0, 1) := by decide +kernel
theorem d3_46 : decode method_3_code 46 = .ok (.ireturn, 1) := by decide +kernel
theorem d3_47 : decode method_3_code 47 = .ok (.iload_n 1, 1) := by decide +kernel
theorem d3_48 : decode method_3_code 48 = .ok (.iconst 5, 1) := by decide +kernel
theorem d3_49 : decode method_3_code 49 = .ok (.if_icmp .ne 15, 3) := by decide +kernel
theorem d3_52 : decode method_3_code 52 = .ok (.iload_n 0, 1) := by decide +kernel
theorem d3_53 : decode method_3_code 53 = .ok (.bipush 6, 2) := by decide +kernel
theorem d3_55 : decode method_3_code 55 = .ok (.if_icmp .ne 7, 3) := by decide +kernel
theorem d3_58 : decode method_3_code 58 = .ok (.iconst 1, 1) := by decide +kernel
theorem d3_59 : decode method_3_code 59 = .ok (.goto 4, 3) := by decide +kernel
theorem d3_62 : decode method_3_code 62 = .ok (.iconst 0, 1) := by decide +kernel
theorem d3_63 : decode method_3_code 63 = .ok (.ireturn, 1) := by decide +kernel
theorem d3_64 : decode method_3_code 64 = .ok (.iconst 0, 1) := by decide +kernel
theorem d3_65 : decode method_3_code 65 = .ok (.ireturn, 1) := by decide +kernel
theorem pn_3 : plainName "com/example/riddle/riddle/xdm/AtomicTypeIsSubtypeOfPinLaw" = true := by first | (simp [plainName, overriddenIn]; done) | decide +kernel
theorem ef_3 (m : MethodId) (x0 : Int32) (x1 : Int32) : entryFrame m #[(.int x0), (.int x1)] 2 = (mkF m 0 #[.val (.int x0), .val (.int x1)] []) := by first | (simp [entryFrame, mkF, argsToLocals, Value.category]; done) | rfl
def f3_64 (v0 : Int32) (v1 : Int32) : Int32 := (0 : Int32)
def f3_62 (v0 : Int32) (v1 : Int32) : Int32 := (0 : Int32)
def f3_58 (v0 : Int32) (v1 : Int32) : Int32 := (1 : Int32)
def f3_52 (v0 : Int32) (v1 : Int32) : Int32 := if v0 = (6 : Int32) then f3_58 v0 v1 else f3_62 v0 v1
def f3_47 (v0 : Int32) (v1 : Int32) : Int32 := if v1 = (5 : Int32) then f3_52 v0 v1 else f3_64 v0 v1
def f3_45 (v0 : Int32) (v1 : Int32) : Int32 := (0 : Int32)
def f3_41 (v0 : Int32) (v1 : Int32) : Int32 := (1 : Int32)
def f3_35 (v0 : Int32) (v1 : Int32) : Int32 := if v0 = (8 : Int32) then f3_41 v0 v1 else f3_45 v0 v1
def f3_29 (v0 : Int32) (v1 : Int32) : Int32 := if v0 = (7 : Int32) then f3_41 v0 v1 else f3_35 v0 v1
def f3_23 (v0 : Int32) (v1 : Int32) : Int32 := if v0 = (6 : Int32) then f3_41 v0 v1 else f3_29 v0 v1
def f3_18 (v0 : Int32) (v1 : Int32) : Int32 := if v0 = (5 : Int32) then f3_41 v0 v1 else f3_23 v0 v1
def f3_13 (v0 : Int32) (v1 : Int32) : Int32 := if v1 = (4 : Int32) then f3_18 v0 v1 else f3_47 v0 v1
def f3_11 (v0 : Int32) (v1 : Int32) : Int32 := (1 : Int32)
def f3_7 (v0 : Int32) (v1 : Int32) : Int32 := if v1 = (0 : Int32) then f3_11 v0 v1 else f3_13 v0 v1
def f3_5 (v0 : Int32) (v1 : Int32) : Int32 := (1 : Int32)
def f3_0 (v0 : Int32) (v1 : Int32) : Int32 := if v0 = v1 then f3_5 v0 v1 else f3_7 v0 v1
section Own3
variable {p : Program} {l : Launch} {e : Env} {R : Room} {s : State} {m : MethodId} {args : Array Value} {below : List Frame} {meth : Method} {c : Code} {T : State} {locs : List Loc} {cells slots : Nat} {Z : State} {a0 : Array Value}
theorem g3_64 (X : Stand p l e R s m args below meth c T locs cells slots) (hx : p.tables.exec = Jvm.exec) (hby : c.code = method_3_code) (hret : meth.sig.returnType = some .boolean) (hZ : Z.Warmed39 s.vm) (hown : s.vm.findClass "com/example/riddle/riddle/xdm/AtomicTypeIsSubtypeOfPinLaw" = some m.cls) (hw : ∀ d ∈ tables_1, d.before a0 Z = true) (v0 : Int32) (v1 : Int32) {fs : List Frame} (hl : own_Rt e T m fs (.int (f3_64 v0 v1))) : Steps p.tables e below (T.setTop (mkF m 64 #[.val (.int v0), .val (.int v1)] [])) (T.setFrames fs) := by
  show Steps p.tables e below (T.setTop (mkF m 64 #[.val (.int v0), .val (.int v1)] [])) _
  refine XS.iconst X.here hx rfl (hb hby d3_64) ?_
  show Steps p.tables e below (T.setTop (mkF m 65 #[.val (.int v0), .val (.int v1)] [(.int (0 : Int32))])) _
  exact retN X hx (t := .boolean) hret (by simp) (hb hby d3_65) hl
theorem g3_62 (X : Stand p l e R s m args below meth c T locs cells slots) (hx : p.tables.exec = Jvm.exec) (hby : c.code = method_3_code) (hret : meth.sig.returnType = some .boolean) (hZ : Z.Warmed39 s.vm) (hown : s.vm.findClass "com/example/riddle/riddle/xdm/AtomicTypeIsSubtypeOfPinLaw" = some m.cls) (hw : ∀ d ∈ tables_1, d.before a0 Z = true) (v0 : Int32) (v1 : Int32) {fs : List Frame} (hl : own_Rt e T m fs (.int (f3_62 v0 v1))) : Steps p.tables e below (T.setTop (mkF m 62 #[.val (.int v0), .val (.int v1)] [])) (T.setFrames fs) := by
  show Steps p.tables e below (T.setTop (mkF m 62 #[.val (.int v0), .val (.int v1)] [])) _
  refine XS.iconst X.here hx rfl (hb hby d3_62) ?_
  show Steps p.tables e below (T.setTop (mkF m 63 #[.val (.int v0), .val (.int v1)] [(.int (0 : Int32))])) _
  exact retN X hx (t := .boolean) hret (by simp) (hb hby d3_63) hl
theorem g3_58 (X : Stand p l e R s m args below meth c T locs cells slots) (hx : p.tables.exec = Jvm.exec) (hby : c.code = method_3_code) (hret : meth.sig.returnType = some .boolean) (hZ : Z.Warmed39 s.vm) (hown : s.vm.findClass "com/example/riddle/riddle/xdm/AtomicTypeIsSubtypeOfPinLaw" = some m.cls) (hw : ∀ d ∈ tables_1, d.before a0 Z = true) (v0 : Int32) (v1 : Int32) {fs : List Frame} (hl : own_Rt e T m fs (.int (f3_58 v0 v1))) : Steps p.tables e below (T.setTop (mkF m 58 #[.val (.int v0), .val (.int v1)] [])) (T.setFrames fs) := by
  show Steps p.tables e below (T.setTop (mkF m 58 #[.val (.int v0), .val (.int v1)] [])) _
  refine XS.iconst X.here hx rfl (hb hby d3_58) ?_
  show Steps p.tables e below (T.setTop (mkF m 59 #[.val (.int v0), .val (.int v1)] [(.int (1 : Int32))])) _
  refine XS.goto X.here hx rfl (pc0 := 59) (pc' := 63) rfl (hb hby d3_59) (by decide) (by decide) ?_
  show Steps p.tables e below (T.setTop (mkF m 63 #[.val (.int v0), .val (.int v1)] [(.int (1 : Int32))])) _
  exact retN X hx (t := .boolean) hret (by simp) (hb hby d3_63) hl
theorem g3_52 (X : Stand p l e R s m args below meth c T locs cells slots) (hx : p.tables.exec = Jvm.exec) (hby : c.code = method_3_code) (hret : meth.sig.returnType = some .boolean) (hZ : Z.Warmed39 s.vm) (hown : s.vm.findClass "com/example/riddle/riddle/xdm/AtomicTypeIsSubtypeOfPinLaw" = some m.cls) (hw : ∀ d ∈ tables_1, d.before a0 Z = true) (v0 : Int32) (v1 : Int32) {fs : List Frame} (hl : own_Rt e T m fs (.int (f3_52 v0 v1))) : Steps p.tables e below (T.setTop (mkF m 52 #[.val (.int v0), .val (.int v1)] [])) (T.setFrames fs) := by
  show Steps p.tables e below (T.setTop (mkF m 52 #[.val (.int v0), .val (.int v1)] [])) _
  refine XS.iloadN X.here hx rfl (hb hby d3_52) rfl ?_
  show Steps p.tables e below (T.setTop (mkF m 53 #[.val (.int v0), .val (.int v1)] [(.int v0)])) _
  refine XS.bipush X.here hx rfl (hb hby d3_53) ?_
  show Steps p.tables e below (T.setTop (mkF m 55 #[.val (.int v0), .val (.int v1)] [(.int (6 : Int32)), (.int v0)])) _
  by_cases hc : v0 = (6 : Int32)
  · rw [show f3_52 v0 v1 = f3_58 v0 v1 from if_pos hc] at hl
    refine XS.icmpNo X.here hx rfl (hb hby d3_55) rfl (teq hc).2 ?_
    exact g3_58 X hx hby hret hZ hown hw v0 v1 hl
  · rw [show f3_52 v0 v1 = f3_62 v0 v1 from if_neg hc] at hl
    refine XS.icmpYes X.here hx rfl (pc0 := 55) (pc' := 62) rfl (hb hby d3_55) rfl (feq hc).2 (by decide) (by decide) ?_
    exact g3_62 X hx hby hret hZ hown hw v0 v1 hl
theorem g3_47 (X : Stand p l e R s m args below meth c T locs cells slots) (hx : p.tables.exec = Jvm.exec) (hby : c.code = method_3_code) (hret : meth.sig.returnType = some .boolean) (hZ : Z.Warmed39 s.vm) (hown : s.vm.findClass "com/example/riddle/riddle/xdm/AtomicTypeIsSubtypeOfPinLaw" = some m.cls) (hw : ∀ d ∈ tables_1, d.before a0 Z = true) (v0 : Int32) (v1 : Int32) {fs : List Frame} (hl : own_Rt e T m fs (.int (f3_47 v0 v1))) : Steps p.tables e below (T.setTop (mkF m 47 #[.val (.int v0), .val (.int v1)] [])) (T.setFrames fs) := by
  show Steps p.tables e below (T.setTop (mkF m 47 #[.val (.int v0), .val (.int v1)] [])) _
  refine XS.iloadN X.here hx rfl (hb hby d3_47) rfl ?_
  show Steps p.tables e below (T.setTop (mkF m 48 #[.val (.int v0), .val (.int v1)] [(.int v1)])) _
  refine XS.iconst X.here hx rfl (hb hby d3_48) ?_
  show Steps p.tables e below (T.setTop (mkF m 49 #[.val (.int v0), .val (.int v1)] [(.int (5 : Int32)), (.int v1)])) _
  by_cases hc : v1 = (5 : Int32)
  · rw [show f3_47 v0 v1 = f3_52 v0 v1 from if_pos hc] at hl
    refine XS.icmpNo X.here hx rfl (hb hby d3_49) rfl (teq hc).2 ?_
    exact g3_52 X hx hby hret hZ hown hw v0 v1 hl
  · rw [show f3_47 v0 v1 = f3_64 v0 v1 from if_neg hc] at hl
    refine XS.icmpYes X.here hx rfl (pc0 := 49) (pc' := 64) rfl (hb hby d3_49) rfl (feq hc).2 (by decide) (by decide) ?_
    exact g3_64 X hx hby hret hZ hown hw v0 v1 hl
theorem g3_45 (X : Stand p l e R s m args below meth c T locs cells slots) (hx : p.tables.exec = Jvm.exec) (hby : c.code = method_3_code) (hret : meth.sig.returnType = some .boolean) (hZ : Z.Warmed39 s.vm) (hown : s.vm.findClass "com/example/riddle/riddle/xdm/AtomicTypeIsSubtypeOfPinLaw" = some m.cls) (hw : ∀ d ∈ tables_1, d.before a0 Z = true) (v0 : Int32) (v1 : Int32) {fs : List Frame} (hl : own_Rt e T m fs (.int (f3_45 v0 v1))) : Steps p.tables e below (T.setTop (mkF m 45 #[.val (.int v0), .val (.int v1)] [])) (T.setFrames fs) := by
  show Steps p.tables e below (T.setTop (mkF m 45 #[.val (.int v0), .val (.int v1)] [])) _
  refine XS.iconst X.here hx rfl (hb hby d3_45) ?_
  show Steps p.tables e below (T.setTop (mkF m 46 #[.val (.int v0), .val (.int v1)] [(.int (0 : Int32))])) _
  exact retN X hx (t := .boolean) hret (by simp) (hb hby d3_46) hl
theorem g3_41 (X : Stand p l e R s m args below meth c T locs cells slots) (hx : p.tables.exec = Jvm.exec) (hby : c.code = method_3_code) (hret : meth.sig.returnType = some .boolean) (hZ : Z.Warmed39 s.vm) (hown : s.vm.findClass "com/example/riddle/riddle/xdm/AtomicTypeIsSubtypeOfPinLaw" = some m.cls) (hw : ∀ d ∈ tables_1, d.before a0 Z = true) (v0 : Int32) (v1 : Int32) {fs : List Frame} (hl : own_Rt e T m fs (.int (f3_41 v0 v1))) : Steps p.tables e below (T.setTop (mkF m 41 #[.val (.int v0), .val (.int v1)] [])) (T.setFrames fs) := by
  show Steps p.tables e below (T.setTop (mkF m 41 #[.val (.int v0), .val (.int v1)] [])) _
  refine XS.iconst X.here hx rfl (hb hby d3_41) ?_
  show Steps p.tables e below (T.setTop (mkF m 42 #[.val (.int v0), .val (.int v1)] [(.int (1 : Int32))])) _
  refine XS.goto X.here hx rfl (pc0 := 42) (pc' := 46) rfl (hb hby d3_42) (by decide) (by decide) ?_
  show Steps p.tables e below (T.setTop (mkF m 46 #[.val (.int v0), .val (.int v1)] [(.int (1 : Int32))])) _
  exact retN X hx (t := .boolean) hret (by simp) (hb hby d3_46) hl
theorem g3_35 (X : Stand p l e R s m args below meth c T locs cells slots) (hx : p.tables.exec = Jvm.exec) (hby : c.code = method_3_code) (hret : meth.sig.returnType = some .boolean) (hZ : Z.Warmed39 s.vm) (hown : s.vm.findClass "com/example/riddle/riddle/xdm/AtomicTypeIsSubtypeOfPinLaw" = some m.cls) (hw : ∀ d ∈ tables_1, d.before a0 Z = true) (v0 : Int32) (v1 : Int32) {fs : List Frame} (hl : own_Rt e T m fs (.int (f3_35 v0 v1))) : Steps p.tables e below (T.setTop (mkF m 35 #[.val (.int v0), .val (.int v1)] [])) (T.setFrames fs) := by
  show Steps p.tables e below (T.setTop (mkF m 35 #[.val (.int v0), .val (.int v1)] [])) _
  refine XS.iloadN X.here hx rfl (hb hby d3_35) rfl ?_
  show Steps p.tables e below (T.setTop (mkF m 36 #[.val (.int v0), .val (.int v1)] [(.int v0)])) _
  refine XS.bipush X.here hx rfl (hb hby d3_36) ?_
  show Steps p.tables e below (T.setTop (mkF m 38 #[.val (.int v0), .val (.int v1)] [(.int (8 : Int32)), (.int v0)])) _
  by_cases hc : v0 = (8 : Int32)
  · rw [show f3_35 v0 v1 = f3_41 v0 v1 from if_pos hc] at hl
    refine XS.icmpNo X.here hx rfl (hb hby d3_38) rfl (teq hc).2 ?_
    exact g3_41 X hx hby hret hZ hown hw v0 v1 hl
  · rw [show f3_35 v0 v1 = f3_45 v0 v1 from if_neg hc] at hl
    refine XS.icmpYes X.here hx rfl (pc0 := 38) (pc' := 45) rfl (hb hby d3_38) rfl (feq hc).2 (by decide) (by decide) ?_
    exact g3_45 X hx hby hret hZ hown hw v0 v1 hl
theorem g3_29 (X : Stand p l e R s m args below meth c T locs cells slots) (hx : p.tables.exec = Jvm.exec) (hby : c.code = method_3_code) (hret : meth.sig.returnType = some .boolean) (hZ : Z.Warmed39 s.vm) (hown : s.vm.findClass "com/example/riddle/riddle/xdm/AtomicTypeIsSubtypeOfPinLaw" = some m.cls) (hw : ∀ d ∈ tables_1, d.before a0 Z = true) (v0 : Int32) (v1 : Int32) {fs : List Frame} (hl : own_Rt e T m fs (.int (f3_29 v0 v1))) : Steps p.tables e below (T.setTop (mkF m 29 #[.val (.int v0), .val (.int v1)] [])) (T.setFrames fs) := by
  show Steps p.tables e below (T.setTop (mkF m 29 #[.val (.int v0), .val (.int v1)] [])) _
  refine XS.iloadN X.here hx rfl (hb hby d3_29) rfl ?_
  show Steps p.tables e below (T.setTop (mkF m 30 #[.val (.int v0), .val (.int v1)] [(.int v0)])) _
  refine XS.bipush X.here hx rfl (hb hby d3_30) ?_
  show Steps p.tables e below (T.setTop (mkF m 32 #[.val (.int v0), .val (.int v1)] [(.int (7 : Int32)), (.int v0)])) _
  by_cases hc : v0 = (7 : Int32)
  · rw [show f3_29 v0 v1 = f3_41 v0 v1 from if_pos hc] at hl
    refine XS.icmpYes X.here hx rfl (pc0 := 32) (pc' := 41) rfl (hb hby d3_32) rfl (teq hc).1 (by decide) (by decide) ?_
    exact g3_41 X hx hby hret hZ hown hw v0 v1 hl
  · rw [show f3_29 v0 v1 = f3_35 v0 v1 from if_neg hc] at hl
    refine XS.icmpNo X.here hx rfl (hb hby d3_32) rfl (feq hc).1 ?_
    exact g3_35 X hx hby hret hZ hown hw v0 v1 hl
theorem g3_23 (X : Stand p l e R s m args below meth c T locs cells slots) (hx : p.tables.exec = Jvm.exec) (hby : c.code = method_3_code) (hret : meth.sig.returnType = some .boolean) (hZ : Z.Warmed39 s.vm) (hown : s.vm.findClass "com/example/riddle/riddle/xdm/AtomicTypeIsSubtypeOfPinLaw" = some m.cls) (hw : ∀ d ∈ tables_1, d.before a0 Z = true) (v0 : Int32) (v1 : Int32) {fs : List Frame} (hl : own_Rt e T m fs (.int (f3_23 v0 v1))) : Steps p.tables e below (T.setTop (mkF m 23 #[.val (.int v0), .val (.int v1)] [])) (T.setFrames fs) := by
  show Steps p.tables e below (T.setTop (mkF m 23 #[.val (.int v0), .val (.int v1)] [])) _
  refine XS.iloadN X.here hx rfl (hb hby d3_23) rfl ?_
  show Steps p.tables e below (T.setTop (mkF m 24 #[.val (.int v0), .val (.int v1)] [(.int v0)])) _
  refine XS.bipush X.here hx rfl (hb hby d3_24) ?_
  show Steps p.tables e below (T.setTop (mkF m 26 #[.val (.int v0), .val (.int v1)] [(.int (6 : Int32)), (.int v0)])) _
  by_cases hc : v0 = (6 : Int32)
  · rw [show f3_23 v0 v1 = f3_41 v0 v1 from if_pos hc] at hl
    refine XS.icmpYes X.here hx rfl (pc0 := 26) (pc' := 41) rfl (hb hby d3_26) rfl (teq hc).1 (by decide) (by decide) ?_
    exact g3_41 X hx hby hret hZ hown hw v0 v1 hl
  · rw [show f3_23 v0 v1 = f3_29 v0 v1 from if_neg hc] at hl
    refine XS.icmpNo X.here hx rfl (hb hby d3_26) rfl (feq hc).1 ?_
    exact g3_29 X hx hby hret hZ hown hw v0 v1 hl
theorem g3_18 (X : Stand p l e R s m args below meth c T locs cells slots) (hx : p.tables.exec = Jvm.exec) (hby : c.code = method_3_code) (hret : meth.sig.returnType = some .boolean) (hZ : Z.Warmed39 s.vm) (hown : s.vm.findClass "com/example/riddle/riddle/xdm/AtomicTypeIsSubtypeOfPinLaw" = some m.cls) (hw : ∀ d ∈ tables_1, d.before a0 Z = true) (v0 : Int32) (v1 : Int32) {fs : List Frame} (hl : own_Rt e T m fs (.int (f3_18 v0 v1))) : Steps p.tables e below (T.setTop (mkF m 18 #[.val (.int v0), .val (.int v1)] [])) (T.setFrames fs) := by
  show Steps p.tables e below (T.setTop (mkF m 18 #[.val (.int v0), .val (.int v1)] [])) _
  refine XS.iloadN X.here hx rfl (hb hby d3_18) rfl ?_
  show Steps p.tables e below (T.setTop (mkF m 19 #[.val (.int v0), .val (.int v1)] [(.int v0)])) _
  refine XS.iconst X.here hx rfl (hb hby d3_19) ?_
  show Steps p.tables e below (T.setTop (mkF m 20 #[.val (.int v0), .val (.int v1)] [(.int (5 : Int32)), (.int v0)])) _
  by_cases hc : v0 = (5 : Int32)
  · rw [show f3_18 v0 v1 = f3_41 v0 v1 from if_pos hc] at hl
    refine XS.icmpYes X.here hx rfl (pc0 := 20) (pc' := 41) rfl (hb hby d3_20) rfl (teq hc).1 (by decide) (by decide) ?_
    exact g3_41 X hx hby hret hZ hown hw v0 v1 hl
  · rw [show f3_18 v0 v1 = f3_23 v0 v1 from if_neg hc] at hl
    refine XS.icmpNo X.here hx rfl (hb hby d3_20) rfl (feq hc).1 ?_
    exact g3_23 X hx hby hret hZ hown hw v0 v1 hl
theorem g3_13 (X : Stand p l e R s m args below meth c T locs cells slots) (hx : p.tables.exec = Jvm.exec) (hby : c.code = method_3_code) (hret : meth.sig.returnType = some .boolean) (hZ : Z.Warmed39 s.vm) (hown : s.vm.findClass "com/example/riddle/riddle/xdm/AtomicTypeIsSubtypeOfPinLaw" = some m.cls) (hw : ∀ d ∈ tables_1, d.before a0 Z = true) (v0 : Int32) (v1 : Int32) {fs : List Frame} (hl : own_Rt e T m fs (.int (f3_13 v0 v1))) : Steps p.tables e below (T.setTop (mkF m 13 #[.val (.int v0), .val (.int v1)] [])) (T.setFrames fs) := by
  show Steps p.tables e below (T.setTop (mkF m 13 #[.val (.int v0), .val (.int v1)] [])) _
  refine XS.iloadN X.here hx rfl (hb hby d3_13) rfl ?_
  show Steps p.tables e below (T.setTop (mkF m 14 #[.val (.int v0), .val (.int v1)] [(.int v1)])) _
  refine XS.iconst X.here hx rfl (hb hby d3_14) ?_
  show Steps p.tables e below (T.setTop (mkF m 15 #[.val (.int v0), .val (.int v1)] [(.int (4 : Int32)), (.int v1)])) _
  by_cases hc : v1 = (4 : Int32)
  · rw [show f3_13 v0 v1 = f3_18 v0 v1 from if_pos hc] at hl
    refine XS.icmpNo X.here hx rfl (hb hby d3_15) rfl (teq hc).2 ?_
    exact g3_18 X hx hby hret hZ hown hw v0 v1 hl
  · rw [show f3_13 v0 v1 = f3_47 v0 v1 from if_neg hc] at hl
    refine XS.icmpYes X.here hx rfl (pc0 := 15) (pc' := 47) rfl (hb hby d3_15) rfl (feq hc).2 (by decide) (by decide) ?_
    exact g3_47 X hx hby hret hZ hown hw v0 v1 hl
theorem g3_11 (X : Stand p l e R s m args below meth c T locs cells slots) (hx : p.tables.exec = Jvm.exec) (hby : c.code = method_3_code) (hret : meth.sig.returnType = some .boolean) (hZ : Z.Warmed39 s.vm) (hown : s.vm.findClass "com/example/riddle/riddle/xdm/AtomicTypeIsSubtypeOfPinLaw" = some m.cls) (hw : ∀ d ∈ tables_1, d.before a0 Z = true) (v0 : Int32) (v1 : Int32) {fs : List Frame} (hl : own_Rt e T m fs (.int (f3_11 v0 v1))) : Steps p.tables e below (T.setTop (mkF m 11 #[.val (.int v0), .val (.int v1)] [])) (T.setFrames fs) := by
  show Steps p.tables e below (T.setTop (mkF m 11 #[.val (.int v0), .val (.int v1)] [])) _
  refine XS.iconst X.here hx rfl (hb hby d3_11) ?_
  show Steps p.tables e below (T.setTop (mkF m 12 #[.val (.int v0), .val (.int v1)] [(.int (1 : Int32))])) _
  exact retN X hx (t := .boolean) hret (by simp) (hb hby d3_12) hl
theorem g3_7 (X : Stand p l e R s m args below meth c T locs cells slots) (hx : p.tables.exec = Jvm.exec) (hby : c.code = method_3_code) (hret : meth.sig.returnType = some .boolean) (hZ : Z.Warmed39 s.vm) (hown : s.vm.findClass "com/example/riddle/riddle/xdm/AtomicTypeIsSubtypeOfPinLaw" = some m.cls) (hw : ∀ d ∈ tables_1, d.before a0 Z = true) (v0 : Int32) (v1 : Int32) {fs : List Frame} (hl : own_Rt e T m fs (.int (f3_7 v0 v1))) : Steps p.tables e below (T.setTop (mkF m 7 #[.val (.int v0), .val (.int v1)] [])) (T.setFrames fs) := by
  show Steps p.tables e below (T.setTop (mkF m 7 #[.val (.int v0), .val (.int v1)] [])) _
  refine XS.iloadN X.here hx rfl (hb hby d3_7) rfl ?_
  show Steps p.tables e below (T.setTop (mkF m 8 #[.val (.int v0), .val (.int v1)] [(.int v1)])) _
  by_cases hc : v1 = (0 : Int32)
  · rw [show f3_7 v0 v1 = f3_11 v0 v1 from if_pos hc] at hl
    refine XS.ifNo X.here hx rfl (hb hby d3_8) rfl ((if0 _ _).trans (teq hc).2) ?_
    exact g3_11 X hx hby hret hZ hown hw v0 v1 hl
  · rw [show f3_7 v0 v1 = f3_13 v0 v1 from if_neg hc] at hl
    refine XS.ifYes X.here hx rfl (pc0 := 8) (pc' := 13) rfl (hb hby d3_8) rfl ((if0 _ _).trans (feq hc).2) (by decide) (by decide) ?_
    exact g3_13 X hx hby hret hZ hown hw v0 v1 hl
theorem g3_5 (X : Stand p l e R s m args below meth c T locs cells slots) (hx : p.tables.exec = Jvm.exec) (hby : c.code = method_3_code) (hret : meth.sig.returnType = some .boolean) (hZ : Z.Warmed39 s.vm) (hown : s.vm.findClass "com/example/riddle/riddle/xdm/AtomicTypeIsSubtypeOfPinLaw" = some m.cls) (hw : ∀ d ∈ tables_1, d.before a0 Z = true) (v0 : Int32) (v1 : Int32) {fs : List Frame} (hl : own_Rt e T m fs (.int (f3_5 v0 v1))) : Steps p.tables e below (T.setTop (mkF m 5 #[.val (.int v0), .val (.int v1)] [])) (T.setFrames fs) := by
  show Steps p.tables e below (T.setTop (mkF m 5 #[.val (.int v0), .val (.int v1)] [])) _
  refine XS.iconst X.here hx rfl (hb hby d3_5) ?_
  show Steps p.tables e below (T.setTop (mkF m 6 #[.val (.int v0), .val (.int v1)] [(.int (1 : Int32))])) _
  exact retN X hx (t := .boolean) hret (by simp) (hb hby d3_6) hl
theorem g3_0 (X : Stand p l e R s m args below meth c T locs cells slots) (hx : p.tables.exec = Jvm.exec) (hby : c.code = method_3_code) (hret : meth.sig.returnType = some .boolean) (hZ : Z.Warmed39 s.vm) (hown : s.vm.findClass "com/example/riddle/riddle/xdm/AtomicTypeIsSubtypeOfPinLaw" = some m.cls) (hw : ∀ d ∈ tables_1, d.before a0 Z = true) (v0 : Int32) (v1 : Int32) {fs : List Frame} (hl : own_Rt e T m fs (.int (f3_0 v0 v1))) : Steps p.tables e below (T.setTop (mkF m 0 #[.val (.int v0), .val (.int v1)] [])) (T.setFrames fs) := by
  show Steps p.tables e below (T.setTop (mkF m 0 #[.val (.int v0), .val (.int v1)] [])) _
  refine XS.iloadN X.here hx rfl (hb hby d3_0) rfl ?_
  show Steps p.tables e below (T.setTop (mkF m 1 #[.val (.int v0), .val (.int v1)] [(.int v0)])) _
  refine XS.iloadN X.here hx rfl (hb hby d3_1) rfl ?_
  show Steps p.tables e below (T.setTop (mkF m 2 #[.val (.int v0), .val (.int v1)] [(.int v1), (.int v0)])) _
  by_cases hc : v0 = v1
  · rw [show f3_0 v0 v1 = f3_5 v0 v1 from if_pos hc] at hl
    refine XS.icmpNo X.here hx rfl (hb hby d3_2) rfl (teq hc).2 ?_
    exact g3_5 X hx hby hret hZ hown hw v0 v1 hl
  · rw [show f3_0 v0 v1 = f3_7 v0 v1 from if_neg hc] at hl
    refine XS.icmpYes X.here hx rfl (pc0 := 2) (pc' := 7) rfl (hb hby d3_2) rfl (feq hc).2 (by decide) (by decide) ?_
    exact g3_7 X hx hby hret hZ hown hw v0 v1 hl
end Own3
def Q3 (v0 : Int32) (v1 : Int32) (h0 : Heap) (n0 : Nat) (v : Option Value) (h : Heap) (L : List Loc) : Prop := v = some (.int (f3_0 v0 v1)) ∧ Fr n0 L ∧ h = h0
set_option maxRecDepth 65536 in
set_option maxHeartbeats 40000000 in
theorem rm3 (l : Launch) (Z : State) (a0 : Array Value) (hw : ∀ d ∈ tables_1, d.before a0 Z = true) (ws : List Jvm.Cond) (v0 : Int32) (v1 : Int32) (h0 : Heap) (n0 : Nat) (Z0 : n0 ≤ h0.size) :
    MetFree l (⟨"com/example/riddle/riddle/xdm/AtomicTypeIsSubtypeOfPinLaw", "expected", "(II)Z"⟩ : MethodName) (head1 (Jvm.Cond.code (⟨"com/example/riddle/riddle/xdm/AtomicTypeIsSubtypeOfPinLaw", "expected", "(II)Z"⟩ : MethodName) method_3_code 2 (some .boolean) :: ws) ({ frames := 0, cells := 0, slots := 0, locals := 0 } : Room)) (fun a U => a = #[(.int v0), (.int v1)] ∧ Z.Warmed39 U.vm ∧ U.heap = h0) (fun _ _ _ _ _ => True) (fun _ U o U' => ∃ v L, o = .returned v ∧ Q3 v0 v1 h0 n0 v U'.heap L ∧ FrameEnd U o U' L ({ frames := 0, cells := 0, slots := 0, locals := 0 } : Room).cells ({ frames := 0, cells := 0, slots := 0, locals := 0 } : Room).slots) := by
  refine MetFree.of_bodySF (plainFor_of_name pn_3) hisR ?_
  intro p e s m args below meth c s₁ Bd hml0 hP hK
  obtain ⟨rfl, hZ, hh⟩ := hP
  have hx := Bd.exec
  have hby := Bd.bytes
  have hown : s.vm.findClass "com/example/riddle/riddle/xdm/AtomicTypeIsSubtypeOfPinLaw" = some m.cls := findClass_of_methodNamed Bd.named
  have X0 : Stand p l e ({ frames := 0, cells := 0, slots := 0, locals := 0 } : Room) s m #[(.int v0), (.int v1)] below meth c s₁ [] 0 0 := Stand.of_body Bd
  have e0 : s₁.heap = h0 := by rw [← hh, Bd.state]; rfl
  have N0 := Fr.nil n0
  have pre0 : ∀ t, Steps p.tables e below (s₁.setTop (mkF m 0 #[.val (.int v0), .val (.int v1)] [])) t → Steps p.tables e below (s₁.setTop (entryFrame m #[(.int v0), (.int v1)] 2)) t := fun t k => castTop (ef_3 m v0 v1) k
  obtain ⟨fs, hr, hrun, hended, hW, hsame⟩ := X0.leave (v := some (.int (f3_0 v0 v1))) (fun h => by rw [Bd.returns] at h; cases h)
  refine ⟨_, _, pre0 _ ?_, hrun, hended, _, _, rfl, ?_, ⟨_, rfl⟩, hW, hsame.mono (by decide) (by decide)⟩
  · exact g3_0 X0 hx hby Bd.returns hZ hown hw v0 v1 hr
  · show Q3 v0 v1 h0 n0 _ s₁.heap _
    rw [e0]
    exact ⟨rfl, N0, rfl⟩
theorem pd_3 : parseMethodDescriptor "(II)Z" = some ⟨[.int, .int], some .boolean⟩ := by decide +kernel
theorem d2_0 : decode prog_184_method_7_code 0 = .ok (.aload_n 0, 1) := by decide +kernel
theorem d2_1 : decode prog_184_method_7_code 1 = .ok (.astore_n 2, 1) := by decide +kernel
theorem d2_2 : decode prog_184_method_7_code 2 = .ok (.aload_n 2, 1) := by decide +kernel
theorem d2_3 : decode prog_184_method_7_code 3 = .ok (.ifnull 18, 3) := by decide +kernel
theorem d2_6 : decode prog_184_method_7_code 6 = .ok (.aload_n 2, 1) := by decide +kernel
theorem d2_7 : decode prog_184_method_7_code 7 = .ok (.aload_n 1, 1) := by decide +kernel
theorem d2_8 : decode prog_184_method_7_code 8 = .ok (.if_acmp .ne 5, 3) := by decide +kernel
theorem d2_11 : decode prog_184_method_7_code 11 = .ok (.iconst 1, 1) := by decide +kernel
theorem d2_12 : decode prog_184_method_7_code 12 = .ok (.ireturn, 1) := by decide +kernel
theorem d2_13 : decode prog_184_method_7_code 13 = .ok (.aload_n 2, 1) := by decide +kernel
theorem d2_14 : decode prog_184_method_7_code 14 = .ok (.getfield 78, 3) := by decide +kernel
theorem d2_17 : decode prog_184_method_7_code 17 = .ok (.astore_n 2, 1) := by decide +kernel
theorem d2_18 : decode prog_184_method_7_code 18 = .ok (.goto (-16), 3) := by decide +kernel
theorem d2_21 : decode prog_184_method_7_code 21 = .ok (.iconst 0, 1) := by decide +kernel
theorem d2_22 : decode prog_184_method_7_code 22 = .ok (.ireturn, 1) := by decide +kernel
theorem pn_2 : plainName "com/example/riddle/riddle/xdm/AtomicType" = true := by first | (simp [plainName, overriddenIn]; done) | decide +kernel
theorem ef_2 (m : MethodId) (x0 : Addr) (x1 : Addr) : entryFrame m #[(.ref x0), (.ref x1)] 3 = (mkF m 0 #[.val (.ref x0), .val (.ref x1), .unset] []) := by first | (simp [entryFrame, mkF, argsToLocals, Value.category]; done) | rfl
theorem pd_2 : parseMethodDescriptor "(Lcom/example/riddle/riddle/xdm/AtomicType;)Z" = some ⟨[.object "com/example/riddle/riddle/xdm/AtomicType"], some .boolean⟩ := by decide +kernel
/-- the objects met going up by the parent, to null -/
def own_Chain (Z : State) (h : Heap) : List Addr → Value → Prop
  | [], v => v = .null
  | a :: as, v => v = .ref a ∧ ∃ w, Fld Z h a "com/example/riddle/riddle/xdm/AtomicType" "parent" "Lcom/example/riddle/riddle/xdm/AtomicType;" w ∧ own_Chain Z h as w
theorem own_Chain_ref {Z : State} {h : Heap} {as : List Addr} {v : Value} (q : own_Chain Z h as v) : v.isRef = true := by
  cases as with
  | nil => obtain rfl : v = .null := q; rfl
  | cons a as => obtain ⟨rfl, -⟩ := q; rfl
def own_in (b : Addr) (as : List Addr) : Int32 := if b ∈ as then 1 else 0
set_option maxRecDepth 65536 in
set_option maxHeartbeats 40000000 in
theorem own_loop {p : Program} {l : Launch} {e : Env} {s : State} {m : MethodId} {args : Array Value} {below : List Frame} {meth : Method} {c : Code} {Z : State} {a0 : Array Value} (hx : p.tables.exec = Jvm.exec) (hby : c.code = prog_184_method_7_code) (hret : meth.sig.returnType = some .boolean) (hlk : meth.locks = false) (hZ : Z.Warmed39 s.vm) (hown : s.vm.findClass "com/example/riddle/riddle/xdm/AtomicType" = some m.cls) (hw : ∀ d ∈ tables_1, d.before a0 Z = true) {h0 : Heap} {n0 : Nat} (a1 b1 : Addr) :
    ∀ (as : List Addr) {T : State} {v : Value} (X0 : Stand p l e ({ frames := 0, cells := 0, slots := 0, locals := 0 } : Room) s m args below meth c T [] 0 0) (e0 : T.heap = h0) (Ch : own_Chain Z h0 as v), ∃ s₂ o, Steps p.tables e below (T.setTop (mkF m 2 #[.val (.ref a1), .val (.ref b1), .val v] [])) s₂ ∧ s₂.status = .running ∧ Ended s₂ below o ∧ ∃ v L, o = .returned v ∧ (v = some (.int (own_in b1 as)) ∧ Fr n0 L ∧ s₂.heap = h0) ∧ FrameEnd s o s₂ L ({ frames := 0, cells := 0, slots := 0, locals := 0 } : Room).cells ({ frames := 0, cells := 0, slots := 0, locals := 0 } : Room).slots := by
  intro as
  induction as with
  | nil =>
    intro T v X0 e0 Ch
    obtain rfl : v = .null := Ch
    have sg1 : ∀ t, Steps p.tables e below (T.setTop (mkF m 3 #[.val (.ref a1), .val (.ref b1), .val .null] [.null])) t → Steps p.tables e below (T.setTop (mkF m 2 #[.val (.ref a1), .val (.ref b1), .val .null] [])) t := by
      intro t k
      show Steps p.tables e below (T.setTop (mkF m 2 #[.val (.ref a1), .val (.ref b1), .val .null] [])) _
      refine XS.aloadN X0.here hx rfl (hb hby d2_2) rfl rfl ?_
      show Steps p.tables e below (T.setTop (mkF m 3 #[.val (.ref a1), .val (.ref b1), .val .null] [.null])) _
      exact k
    have sg2 : ∀ t, Steps p.tables e below (T.setTop (mkF m 22 #[.val (.ref a1), .val (.ref b1), .val .null] [(.int (0 : Int32))])) t → Steps p.tables e below (T.setTop (mkF m 21 #[.val (.ref a1), .val (.ref b1), .val .null] [])) t := by
      intro t k
      show Steps p.tables e below (T.setTop (mkF m 21 #[.val (.ref a1), .val (.ref b1), .val .null] [])) _
      refine XS.iconst X0.here hx rfl (hb hby d2_21) ?_
      show Steps p.tables e below (T.setTop (mkF m 22 #[.val (.ref a1), .val (.ref b1), .val .null] [(.int (0 : Int32))])) _
      exact k
    have hv : own_in b1 [] = 0 := by simp [own_in]
    obtain ⟨fs, hr, hrun, hended, hW, hsame⟩ := X0.leave (v := some (.int (own_in b1 []))) (fun h => by rw [hret] at h; cases h)
    refine ⟨_, _, ?_, hrun, hended, _, _, rfl, ?_, ⟨_, rfl⟩, hW, hsame.mono (by decide) (by decide)⟩
    · show Steps p.tables e below (T.setTop (mkF m 2 #[.val (.ref a1), .val (.ref b1), .val .null] [])) _
      refine sg1 _ ?_
      show Steps p.tables e below (T.setTop (mkF m 3 #[.val (.ref a1), .val (.ref b1), .val .null] [.null])) _
      refine XS.ifnullYes X0.here hx rfl (pc0 := 3) (pc' := 21) rfl (hb hby d2_3) rfl (by decide) (by decide) ?_
      refine sg2 _ ?_
      show Steps p.tables e below (T.setTop (mkF m 22 #[.val (.ref a1), .val (.ref b1), .val .null] [(.int (0 : Int32))])) _
      exact retN X0 hx (t := .boolean) hret (by simp) (hb hby d2_22) (by rw [hv] at hr; exact hr)
    · exact ⟨rfl, Fr.nil n0, e0⟩
  | cons a as ih =>
    intro T v X0 e0 Ch
    obtain ⟨rfl, w, F, Cw⟩ := Ch
    have sg1 : ∀ t, Steps p.tables e below (T.setTop (mkF m 3 #[.val (.ref a1), .val (.ref b1), .val (.ref a)] [(.ref a)])) t → Steps p.tables e below (T.setTop (mkF m 2 #[.val (.ref a1), .val (.ref b1), .val (.ref a)] [])) t := by
      intro t k
      show Steps p.tables e below (T.setTop (mkF m 2 #[.val (.ref a1), .val (.ref b1), .val (.ref a)] [])) _
      refine XS.aloadN X0.here hx rfl (hb hby d2_2) rfl rfl ?_
      show Steps p.tables e below (T.setTop (mkF m 3 #[.val (.ref a1), .val (.ref b1), .val (.ref a)] [(.ref a)])) _
      exact k
    have sg2 : ∀ t, Steps p.tables e below (T.setTop (mkF m 8 #[.val (.ref a1), .val (.ref b1), .val (.ref a)] [(.ref b1), (.ref a)])) t → Steps p.tables e below (T.setTop (mkF m 6 #[.val (.ref a1), .val (.ref b1), .val (.ref a)] [])) t := by
      intro t k
      show Steps p.tables e below (T.setTop (mkF m 6 #[.val (.ref a1), .val (.ref b1), .val (.ref a)] [])) _
      refine XS.aloadN X0.here hx rfl (hb hby d2_6) rfl rfl ?_
      show Steps p.tables e below (T.setTop (mkF m 7 #[.val (.ref a1), .val (.ref b1), .val (.ref a)] [(.ref a)])) _
      refine XS.aloadN X0.here hx rfl (hb hby d2_7) rfl rfl ?_
      show Steps p.tables e below (T.setTop (mkF m 8 #[.val (.ref a1), .val (.ref b1), .val (.ref a)] [(.ref b1), (.ref a)])) _
      exact k
    by_cases q : a = b1
    · skip
      have sg3 : ∀ t, Steps p.tables e below (T.setTop (mkF m 12 #[.val (.ref a1), .val (.ref b1), .val (.ref a)] [(.int (1 : Int32))])) t → Steps p.tables e below (T.setTop (mkF m 11 #[.val (.ref a1), .val (.ref b1), .val (.ref a)] [])) t := by
        intro t k
        show Steps p.tables e below (T.setTop (mkF m 11 #[.val (.ref a1), .val (.ref b1), .val (.ref a)] [])) _
        refine XS.iconst X0.here hx rfl (hb hby d2_11) ?_
        show Steps p.tables e below (T.setTop (mkF m 12 #[.val (.ref a1), .val (.ref b1), .val (.ref a)] [(.int (1 : Int32))])) _
        exact k
      have hv : own_in b1 (a :: as) = 1 := by simp [own_in, q]
      obtain ⟨fs, hr, hrun, hended, hW, hsame⟩ := X0.leave (v := some (.int (own_in b1 (a :: as)))) (fun h => by rw [hret] at h; cases h)
      refine ⟨_, _, ?_, hrun, hended, _, _, rfl, ?_, ⟨_, rfl⟩, hW, hsame.mono (by decide) (by decide)⟩
      · refine sg1 _ ?_
        show Steps p.tables e below (T.setTop (mkF m 3 #[.val (.ref a1), .val (.ref b1), .val (.ref a)] [(.ref a)])) _
        refine XS.ifnullNo X0.here hx rfl (hb hby d2_3) rfl ?_
        refine sg2 _ ?_
        show Steps p.tables e below (T.setTop (mkF m 8 #[.val (.ref a1), .val (.ref b1), .val (.ref a)] [(.ref b1), (.ref a)])) _
        refine XT.acmpNo X0.here hx rfl (hb hby d2_8) rfl rfl rfl (by simp [XT.acmp, q]) ?_
        refine sg3 _ ?_
        show Steps p.tables e below (T.setTop (mkF m 12 #[.val (.ref a1), .val (.ref b1), .val (.ref a)] [(.int (1 : Int32))])) _
        exact retN X0 hx (t := .boolean) hret (by simp) (hb hby d2_12) (by rw [hv] at hr; exact hr)
      · exact ⟨rfl, Fr.nil n0, e0⟩
    have sg3 : ∀ t, Steps p.tables e below (T.setTop (mkF m 14 #[.val (.ref a1), .val (.ref b1), .val (.ref a)] [(.ref a)])) t → Steps p.tables e below (T.setTop (mkF m 13 #[.val (.ref a1), .val (.ref b1), .val (.ref a)] [])) t := by
      intro t k
      show Steps p.tables e below (T.setTop (mkF m 13 #[.val (.ref a1), .val (.ref b1), .val (.ref a)] [])) _
      refine XS.aloadN X0.here hx rfl (hb hby d2_13) rfl rfl ?_
      show Steps p.tables e below (T.setTop (mkF m 14 #[.val (.ref a1), .val (.ref b1), .val (.ref a)] [(.ref a)])) _
      exact k
    obtain ⟨T4, X4, e4, st4⟩ := getF X0 hx hZ hown (host := "") (Or.inl (hw _ (List.mem_of_getElem? (i := 15) rfl))) Via.refl e0 F (g := (mkF m 14 #[.val (.ref a1), .val (.ref b1), .val (.ref a)] [(.ref a)])) rfl rfl (hb hby d2_14)
    have hv : own_in b1 (a :: as) = own_in b1 as := by simp [own_in, Ne.symm q]
    obtain ⟨s₂, o, k, r⟩ := ih X4 e4 Cw
    rw [hv]
    refine ⟨s₂, o, ?_, r⟩
    refine sg1 _ ?_
    show Steps p.tables e below (T.setTop (mkF m 3 #[.val (.ref a1), .val (.ref b1), .val (.ref a)] [(.ref a)])) _
    refine XS.ifnullNo X0.here hx rfl (hb hby d2_3) rfl ?_
    refine sg2 _ ?_
    show Steps p.tables e below (T.setTop (mkF m 8 #[.val (.ref a1), .val (.ref b1), .val (.ref a)] [(.ref b1), (.ref a)])) _
    refine XT.acmpYes X0.here hx rfl (pc0 := 8) (pc' := 13) rfl (hb hby d2_8) rfl rfl rfl (by simp [XT.acmp, q]) (by decide) (by decide) ?_
    refine sg3 _ ?_
    refine st4 _ ?_
    show Steps p.tables e below (T4.setTop (mkF m 17 #[.val (.ref a1), .val (.ref b1), .val (.ref a)] [w])) _
    refine XS.astoreN X4.here hx rfl (hb hby d2_17) rfl (own_Chain_ref Cw) (l' := #[.val (.ref a1), .val (.ref b1), .val w]) ?_ ?_
    · have hcat : w.category = 1 := by rcases ref_cases (own_Chain_ref Cw) with rfl | ⟨z, rfl⟩ <;> rfl
      rcases ref_cases (own_Chain_ref Cw) with rfl | ⟨z, rfl⟩ <;> rfl
    show Steps p.tables e below (T4.setTop (mkF m 18 #[.val (.ref a1), .val (.ref b1), .val w] [])) _
    refine XS.goto X4.here hx rfl (pc0 := 18) (pc' := 2) rfl (hb hby d2_18) (by decide) (by decide) ?_
    exact k
def Q2 (a1 b1 : Addr) (as : List Addr) (h0 : Heap) (n0 : Nat) (v : Option Value) (h : Heap) (L : List Loc) : Prop := v = some (.int (own_in b1 as)) ∧ Fr n0 L ∧ h = h0
set_option maxRecDepth 65536 in
set_option maxHeartbeats 40000000 in
theorem rm2 (l : Launch) (Z : State) (a0 : Array Value) (hw : ∀ d ∈ tables_1, d.before a0 Z = true) (ws : List Jvm.Cond) (a1 b1 : Addr) (as : List Addr) (h0 : Heap) (n0 : Nat) (Z0 : n0 ≤ h0.size) (Ch : own_Chain Z h0 as (.ref a1)) :
    MetFree l (⟨"com/example/riddle/riddle/xdm/AtomicType", "isSubtypeOf", "(Lcom/example/riddle/riddle/xdm/AtomicType;)Z"⟩ : MethodName) (head1 (Jvm.Cond.code (⟨"com/example/riddle/riddle/xdm/AtomicType", "isSubtypeOf", "(Lcom/example/riddle/riddle/xdm/AtomicType;)Z"⟩ : MethodName) prog_184_method_7_code 3 (some .boolean) :: ws) ({ frames := 0, cells := 0, slots := 0, locals := 0 } : Room)) (fun a U => a = #[(.ref a1), (.ref b1)] ∧ Z.Warmed39 U.vm ∧ U.heap = h0) (fun _ _ _ _ _ => True) (fun _ U o U' => ∃ v L, o = .returned v ∧ Q2 a1 b1 as h0 n0 v U'.heap L ∧ FrameEnd U o U' L ({ frames := 0, cells := 0, slots := 0, locals := 0 } : Room).cells ({ frames := 0, cells := 0, slots := 0, locals := 0 } : Room).slots) := by
  refine MetFree.of_bodySF (plainFor_of_name pn_2) hisR ?_
  intro p e s m args below meth c s₁ Bd hml0 hP hK
  obtain ⟨rfl, hZ, hh⟩ := hP
  have hx := Bd.exec
  have hby := Bd.bytes
  have hret := Bd.returns
  have hml : c.maxLocals = 3 := hml0
  have hown : s.vm.findClass "com/example/riddle/riddle/xdm/AtomicType" = some m.cls := findClass_of_methodNamed Bd.named
  have X0 : Stand p l e ({ frames := 0, cells := 0, slots := 0, locals := 0 } : Room) s m #[(.ref a1), (.ref b1)] below meth c s₁ [] 0 0 := Stand.of_body Bd
  have e0 : s₁.heap = h0 := by rw [← hh, Bd.state]; rfl
  have N0 := Fr.nil n0
  have pre0 : ∀ t, Steps p.tables e below (s₁.setTop (mkF m 0 #[.val (.ref a1), .val (.ref b1), .unset] [])) t → Steps p.tables e below (s₁.setTop (entryFrame m #[(.ref a1), (.ref b1)] 3)) t := fun t k => castTop (ef_2 m a1 b1) k
  have sg1 : ∀ t, Steps p.tables e below (s₁.setTop (mkF m 2 #[.val (.ref a1), .val (.ref b1), .val (.ref a1)] [])) t → Steps p.tables e below (s₁.setTop (mkF m 0 #[.val (.ref a1), .val (.ref b1), .unset] [])) t := by
    intro t k
    show Steps p.tables e below (s₁.setTop (mkF m 0 #[.val (.ref a1), .val (.ref b1), .unset] [])) _
    refine XS.aloadN X0.here hx rfl (hb hby d2_0) rfl rfl ?_
    show Steps p.tables e below (s₁.setTop (mkF m 1 #[.val (.ref a1), .val (.ref b1), .unset] [(.ref a1)])) _
    refine XS.astoreN X0.here hx rfl (hb hby d2_1) rfl rfl (l' := #[.val (.ref a1), .val (.ref b1), .val (.ref a1)]) rfl ?_
    show Steps p.tables e below (s₁.setTop (mkF m 2 #[.val (.ref a1), .val (.ref b1), .val (.ref a1)] [])) _
    exact k
  obtain ⟨s₂, o, k, r⟩ := own_loop hx hby hret (BodyLoose.notSynchronized Bd) hZ hown hw (n0 := n0) a1 b1 as X0 e0 Ch
  refine ⟨s₂, o, pre0 _ ?_, r⟩
  refine sg1 _ ?_
  exact k
def own_ch : Nat → List Nat := fun k => ([[0], [1, 0], [2, 0], [3, 0], [4, 0], [5, 4, 0], [6, 5, 4, 0], [7, 4, 0], [8, 4, 0], [9, 0], [10, 0], [11, 0], [12, 0], [13, 0]] : List (List Nat)).getD k []
def own_got (i j : Int32) : Int32 := if own_ix j ∈ own_ch (own_ix i) then 1 else 0
theorem own_small : ∀ i j : Fin 14, own_got (Int32.ofNat i.val) (Int32.ofNat j.val) = f3_0 (Int32.ofNat i.val) (Int32.ofNat j.val) := by decide +kernel
theorem own_ofNat (v : Int32) (h : 0 ≤ v.toInt) : Int32.ofNat v.toInt.toNat = v := by
  apply Int32.toInt_inj.mp
  rw [Int32.toInt_ofNat_of_lt (by have := v.toInt_lt; omega)]
  omega
theorem own_law (i j : Int32) (hi : 0 ≤ i.toInt ∧ i.toInt < 14) (hj : 0 ≤ j.toInt ∧ j.toInt < 14) : own_got i j = f3_0 i j := by
  have := own_small ⟨i.toInt.toNat, by omega⟩ ⟨j.toInt.toNat, by omega⟩
  simpa only [own_ofNat i hi.1, own_ofNat j hj.1] using this
theorem own_ord : ∀ i j : Fin 14, i.val ≠ j.val → Int32.ofNat i.val ≠ Int32.ofNat j.val := by decide +kernel
theorem own_ch_lt : ∀ k : Fin 14, ∀ y ∈ own_ch k.val, y < 14 := by decide +kernel
theorem own_inj {Z : State} {h0 : Heap} {A : Nat → Addr} (hO : ∀ k, k < 14 → Fld Z h0 (A k) "java/lang/Enum" "ordinal" "I" (.int (Int32.ofNat k))) {i j : Nat} (hi : i < 14) (hj : j < 14) (q : A i = A j) : i = j := by
  refine Decidable.byContradiction fun ne => ?_
  exact Fld.ne (hO i hi) (hO j hj) (fun r => own_ord ⟨i, hi⟩ ⟨j, hj⟩ ne (Value.int.inj r)) q
theorem own_mem {Z : State} {h0 : Heap} {A : Nat → Addr} (hO : ∀ k, k < 14 → Fld Z h0 (A k) "java/lang/Enum" "ordinal" "I" (.int (Int32.ofNat k))) (i j : Int32) : own_in (A (own_ix j)) ((own_ch (own_ix i)).map A) = own_got i j := by
  have hm : A (own_ix j) ∈ (own_ch (own_ix i)).map A ↔ own_ix j ∈ own_ch (own_ix i) := by
    rw [List.mem_map]
    constructor
    · rintro ⟨y, hy, q⟩
      have hl := own_ch_lt ⟨own_ix i, own_ix_lt i⟩ y hy
      rw [← own_inj hO hl (own_ix_lt j) q]; exact hy
    · exact fun hy => ⟨_, hy, rfl⟩
  unfold own_in own_got
  simp only [hm]
def own_par (A : Nat → Addr) (k : Nat) : Value := ([.null, .ref (A 0), .ref (A 0), .ref (A 0), .ref (A 0), .ref (A 4), .ref (A 5), .ref (A 4), .ref (A 4), .ref (A 0), .ref (A 0), .ref (A 0), .ref (A 0), .ref (A 0)] : List Value).getD k .null
theorem own_chains {Z : State} {h0 : Heap} {A : Nat → Addr} (hP : ∀ k, k < 14 → Fld Z h0 (A k) "com/example/riddle/riddle/xdm/AtomicType" "parent" "Lcom/example/riddle/riddle/xdm/AtomicType;" (own_par A k)) : ∀ k, k < 14 → own_Chain Z h0 ((own_ch k).map A) (.ref (A k)) := fun k hk => match k, hk with
  | 0, _ => ⟨rfl, _, hP 0 (by decide), rfl⟩
  | 1, _ => ⟨rfl, _, hP 1 (by decide), rfl, _, hP 0 (by decide), rfl⟩
  | 2, _ => ⟨rfl, _, hP 2 (by decide), rfl, _, hP 0 (by decide), rfl⟩
  | 3, _ => ⟨rfl, _, hP 3 (by decide), rfl, _, hP 0 (by decide), rfl⟩
  | 4, _ => ⟨rfl, _, hP 4 (by decide), rfl, _, hP 0 (by decide), rfl⟩
  | 5, _ => ⟨rfl, _, hP 5 (by decide), rfl, _, hP 4 (by decide), rfl, _, hP 0 (by decide), rfl⟩
  | 6, _ => ⟨rfl, _, hP 6 (by decide), rfl, _, hP 5 (by decide), rfl, _, hP 4 (by decide), rfl, _, hP 0 (by decide), rfl⟩
  | 7, _ => ⟨rfl, _, hP 7 (by decide), rfl, _, hP 4 (by decide), rfl, _, hP 0 (by decide), rfl⟩
  | 8, _ => ⟨rfl, _, hP 8 (by decide), rfl, _, hP 4 (by decide), rfl, _, hP 0 (by decide), rfl⟩
  | 9, _ => ⟨rfl, _, hP 9 (by decide), rfl, _, hP 0 (by decide), rfl⟩
  | 10, _ => ⟨rfl, _, hP 10 (by decide), rfl, _, hP 0 (by decide), rfl⟩
  | 11, _ => ⟨rfl, _, hP 11 (by decide), rfl, _, hP 0 (by decide), rfl⟩
  | 12, _ => ⟨rfl, _, hP 12 (by decide), rfl, _, hP 0 (by decide), rfl⟩
  | 13, _ => ⟨rfl, _, hP 13 (by decide), rfl, _, hP 0 (by decide), rfl⟩
  | k + 14, h => absurd h (by omega)
/-- (v & MAX) % d lies in 0 .. d - 1 -/
theorem own_rem (v y : Int32) (d : Int) (hy : y.toInt = d) (hd : 1 < d) : (v &&& (2147483647 : Int32)) - ((v &&& (2147483647 : Int32)) / y) * y = (v &&& (2147483647 : Int32)) - ((v &&& (2147483647 : Int32)) / y) * y ∧ 0 ≤ ((v &&& (2147483647 : Int32)) - ((v &&& (2147483647 : Int32)) / y) * y).toInt ∧ ((v &&& (2147483647 : Int32)) - ((v &&& (2147483647 : Int32)) / y) * y).toInt < d := by
  refine ⟨rfl, ?_⟩
  have h0 := (c_andS v 2147483647).2.2 (by decide)
  generalize (v &&& (2147483647 : Int32)) = x at *
  have h1 := (c_idiv x y d hy (fun q => by rw [q] at hy; have : (-1 : Int32).toInt = -1 := by decide
                                           omega)).1 h0
  have h2 := c_imul (x / y) y
  have h3 := c_isub x ((x / y) * y)
  rw [h1, hy] at h2
  have h4 := rng32 x
  have h5 := rng32 ((x / y) * y)
  have h6 := rng32 (x - (x / y) * y)
  have h7 : x.toInt / d * d = x.toInt - x.toInt % d := by have := Int.mul_ediv_add_emod x.toInt d; rw [Int.mul_comm] at this; omega
  have h8 := Int.emod_nonneg x.toInt (show d ≠ 0 by omega)
  have h9 := Int.emod_lt_of_pos x.toInt (show 0 < d by omega)
  have hA : 0 ≤ x.toInt / d * d := Int.mul_nonneg (Int.ediv_nonneg h0 (by omega)) (by omega)
  generalize x.toInt / d * d = B at *
  omega
theorem pn_0 : plainName "com/example/riddle/riddle/xdm/AtomicTypeIsSubtypeOfPinLaw" = true := by first | (simp [plainName, overriddenIn]; done) | decide +kernel
theorem ef_0 (m : MethodId) (x0 : Int32) (x1 : Int32) : entryFrame m #[(.int x0), (.int x1)] maxLocals = (mkF m 0 #[.val (.int x0), .val (.int x1), .unset, .unset, .unset, .unset] []) := by first | (simp [entryFrame, mkF, argsToLocals, Value.category, maxLocals]; done) | rfl
def Q0 (n0 : Nat) (v : Option Value) (L : List Loc) : Prop := v = some (.int (1 : Int32)) ∧ Fr n0 L
set_option maxRecDepth 65536 in
set_option maxHeartbeats 40000000 in
theorem rm0 (l : Launch) (Z : State) (a0 : Array Value) (hw : ∀ d ∈ tables_1, d.before a0 Z = true) (ws : List Jvm.Cond) (v0 : Int32) (v1 : Int32) (h0 : Heap) (n0 : Nat) (Z0 : n0 ≤ h0.size) {A : Nat → Addr} (hS : ∀ k, k < 14 → Sta Z h0 "com/example/riddle/riddle/xdm/AtomicType" (own_nm k) "Lcom/example/riddle/riddle/xdm/AtomicType;" (.ref (A k))) (hE : ∀ k, k < 14 → Exa Z h0 (A k) "com/example/riddle/riddle/xdm/AtomicType") (hO : ∀ k, k < 14 → Fld Z h0 (A k) "java/lang/Enum" "ordinal" "I" (.int (Int32.ofNat k))) (hP : ∀ k, k < 14 → Fld Z h0 (A k) "com/example/riddle/riddle/xdm/AtomicType" "parent" "Lcom/example/riddle/riddle/xdm/AtomicType;" (own_par A k)) :
    MetFree l x (head1 (Jvm.Cond.code x code maxLocals ret :: ws) room_1) (fun a U => a = #[(.int v0), (.int v1)] ∧ Z.Warmed39 U.vm ∧ U.heap = h0) (fun _ _ _ _ _ => True) (fun _ U o U' => ∃ v L, o = .returned v ∧ Q0 n0 v L ∧ FrameEnd U o U' L room_1.cells room_1.slots) := by
  refine MetFree.of_bodySF (plainFor_of_name pn_0) hisR ?_
  intro p e s m args below meth c s₁ Bd hml0 hP hK
  obtain ⟨rfl, hZ, hh⟩ := hP
  have hx := Bd.exec
  have hby := Bd.bytes
  have hml : c.maxLocals = 6 := hml0
  have hown : s.vm.findClass "com/example/riddle/riddle/xdm/AtomicTypeIsSubtypeOfPinLaw" = some m.cls := findClass_of_methodNamed Bd.named
  have X0 : Stand p l e room_1 s m #[(.int v0), (.int v1)] below meth c s₁ [] 0 0 := Stand.of_body Bd
  have e0 : s₁.heap = h0 := by rw [← hh, Bd.state]; rfl
  have N0 := Fr.nil n0
  have pre0 : ∀ t, Steps p.tables e below (s₁.setTop (mkF m 0 #[.val (.int v0), .val (.int v1), .unset, .unset, .unset, .unset] [])) t → Steps p.tables e below (s₁.setTop (entryFrame m #[(.int v0), (.int v1)] maxLocals)) t := fun t k => castTop (ef_0 m v0 v1) k
  have sg1 : ∀ t, Steps p.tables e below (s₁.setTop (mkF m 16 #[.val (.int v0), .val (.int v1), .val (.int ((v0 &&& (2147483647 : Int32)) - ((v0 &&& (2147483647 : Int32)) / (14 : Int32)) * (14 : Int32))), .val (.int ((v1 &&& (2147483647 : Int32)) - ((v1 &&& (2147483647 : Int32)) / (14 : Int32)) * (14 : Int32))), .unset, .unset] [])) t → Steps p.tables e below (s₁.setTop (mkF m 0 #[.val (.int v0), .val (.int v1), .unset, .unset, .unset, .unset] [])) t := by
    intro t k
    show Steps p.tables e below (s₁.setTop (mkF m 0 #[.val (.int v0), .val (.int v1), .unset, .unset, .unset, .unset] [])) _
    refine XS.iloadN X0.here hx rfl (hb hby at_0) rfl ?_
    show Steps p.tables e below (s₁.setTop (mkF m 1 #[.val (.int v0), .val (.int v1), .unset, .unset, .unset, .unset] [(.int v0)])) _
    refine X0.ldcI hx hown (mv hZ (hw _ (List.mem_of_getElem? (i := 0) rfl))) rfl (hb hby at_1) ?_
    show Steps p.tables e below (s₁.setTop (mkF m 3 #[.val (.int v0), .val (.int v1), .unset, .unset, .unset, .unset] [(.int (2147483647 : Int32)), (.int v0)])) _
    refine XS.iand X0.here hx rfl (hb hby at_3) rfl ?_
    show Steps p.tables e below (s₁.setTop (mkF m 4 #[.val (.int v0), .val (.int v1), .unset, .unset, .unset, .unset] [(.int (v0 &&& (2147483647 : Int32)))])) _
    refine XS.bipush X0.here hx rfl (hb hby at_4) ?_
    show Steps p.tables e below (s₁.setTop (mkF m 6 #[.val (.int v0), .val (.int v1), .unset, .unset, .unset, .unset] [(.int (14 : Int32)), (.int (v0 &&& (2147483647 : Int32)))])) _
    refine XS.irem X0.here hx rfl (hb hby at_6) rfl (by decide) ?_
    show Steps p.tables e below (s₁.setTop (mkF m 7 #[.val (.int v0), .val (.int v1), .unset, .unset, .unset, .unset] [(.int ((v0 &&& (2147483647 : Int32)) - ((v0 &&& (2147483647 : Int32)) / (14 : Int32)) * (14 : Int32)))])) _
    refine XS.istoreN X0.here hx rfl (hb hby at_7) rfl (l' := #[.val (.int v0), .val (.int v1), .val (.int ((v0 &&& (2147483647 : Int32)) - ((v0 &&& (2147483647 : Int32)) / (14 : Int32)) * (14 : Int32))), .unset, .unset, .unset]) rfl ?_
    show Steps p.tables e below (s₁.setTop (mkF m 8 #[.val (.int v0), .val (.int v1), .val (.int ((v0 &&& (2147483647 : Int32)) - ((v0 &&& (2147483647 : Int32)) / (14 : Int32)) * (14 : Int32))), .unset, .unset, .unset] [])) _
    refine XS.iloadN X0.here hx rfl (hb hby at_8) rfl ?_
    show Steps p.tables e below (s₁.setTop (mkF m 9 #[.val (.int v0), .val (.int v1), .val (.int ((v0 &&& (2147483647 : Int32)) - ((v0 &&& (2147483647 : Int32)) / (14 : Int32)) * (14 : Int32))), .unset, .unset, .unset] [(.int v1)])) _
    refine X0.ldcI hx hown (mv hZ (hw _ (List.mem_of_getElem? (i := 0) rfl))) rfl (hb hby at_9) ?_
    show Steps p.tables e below (s₁.setTop (mkF m 11 #[.val (.int v0), .val (.int v1), .val (.int ((v0 &&& (2147483647 : Int32)) - ((v0 &&& (2147483647 : Int32)) / (14 : Int32)) * (14 : Int32))), .unset, .unset, .unset] [(.int (2147483647 : Int32)), (.int v1)])) _
    refine XS.iand X0.here hx rfl (hb hby at_11) rfl ?_
    show Steps p.tables e below (s₁.setTop (mkF m 12 #[.val (.int v0), .val (.int v1), .val (.int ((v0 &&& (2147483647 : Int32)) - ((v0 &&& (2147483647 : Int32)) / (14 : Int32)) * (14 : Int32))), .unset, .unset, .unset] [(.int (v1 &&& (2147483647 : Int32)))])) _
    refine XS.bipush X0.here hx rfl (hb hby at_12) ?_
    show Steps p.tables e below (s₁.setTop (mkF m 14 #[.val (.int v0), .val (.int v1), .val (.int ((v0 &&& (2147483647 : Int32)) - ((v0 &&& (2147483647 : Int32)) / (14 : Int32)) * (14 : Int32))), .unset, .unset, .unset] [(.int (14 : Int32)), (.int (v1 &&& (2147483647 : Int32)))])) _
    refine XS.irem X0.here hx rfl (hb hby at_14) rfl (by decide) ?_
    show Steps p.tables e below (s₁.setTop (mkF m 15 #[.val (.int v0), .val (.int v1), .val (.int ((v0 &&& (2147483647 : Int32)) - ((v0 &&& (2147483647 : Int32)) / (14 : Int32)) * (14 : Int32))), .unset, .unset, .unset] [(.int ((v1 &&& (2147483647 : Int32)) - ((v1 &&& (2147483647 : Int32)) / (14 : Int32)) * (14 : Int32)))])) _
    refine XS.istoreN X0.here hx rfl (hb hby at_15) rfl (l' := #[.val (.int v0), .val (.int v1), .val (.int ((v0 &&& (2147483647 : Int32)) - ((v0 &&& (2147483647 : Int32)) / (14 : Int32)) * (14 : Int32))), .val (.int ((v1 &&& (2147483647 : Int32)) - ((v1 &&& (2147483647 : Int32)) / (14 : Int32)) * (14 : Int32))), .unset, .unset]) rfl ?_
    show Steps p.tables e below (s₁.setTop (mkF m 16 #[.val (.int v0), .val (.int v1), .val (.int ((v0 &&& (2147483647 : Int32)) - ((v0 &&& (2147483647 : Int32)) / (14 : Int32)) * (14 : Int32))), .val (.int ((v1 &&& (2147483647 : Int32)) - ((v1 &&& (2147483647 : Int32)) / (14 : Int32)) * (14 : Int32))), .unset, .unset] [])) _
    exact k
  have hi := (own_rem v0 (14 : Int32) 14 (by decide) (by decide)).2
  have hj := (own_rem v1 (14 : Int32) 14 (by decide) (by decide)).2
  generalize ((v0 &&& (2147483647 : Int32)) - ((v0 &&& (2147483647 : Int32)) / (14 : Int32)) * (14 : Int32)) = i1 at *
  generalize ((v1 &&& (2147483647 : Int32)) - ((v1 &&& (2147483647 : Int32)) / (14 : Int32)) * (14 : Int32)) = j1 at *
  have hlaw : own_in (A (own_ix j1)) ((own_ch (own_ix i1)).map A) = f3_0 i1 j1 := (own_mem hO i1 j1).trans (own_law i1 j1 hi hj)
  have sg2 : ∀ t, Steps p.tables e below (s₁.setTop (mkF m 17 #[.val (.int v0), .val (.int v1), .val (.int i1), .val (.int j1), .unset, .unset] [(.int i1)])) t → Steps p.tables e below (s₁.setTop (mkF m 16 #[.val (.int v0), .val (.int v1), .val (.int i1), .val (.int j1), .unset, .unset] [])) t := by
    intro t k
    show Steps p.tables e below (s₁.setTop (mkF m 16 #[.val (.int v0), .val (.int v1), .val (.int i1), .val (.int j1), .unset, .unset] [])) _
    refine XS.iloadN X0.here hx rfl (hb hby at_16) rfl ?_
    show Steps p.tables e below (s₁.setTop (mkF m 17 #[.val (.int v0), .val (.int v1), .val (.int i1), .val (.int j1), .unset, .unset] [(.int i1)])) _
    exact k
  obtain ⟨_, _, ⟨T3, L3, k3, n3⟩, -, X3, ⟨Lc3, hQ3, l3, y3, z3⟩, st3⟩ := Jvm.LawKit.callS X0 hx (y := (⟨"com/example/riddle/riddle/xdm/AtomicTypeIsSubtypeOfPinLaw", "pick", "(I)Lcom/example/riddle/riddle/xdm/AtomicType;"⟩ : MethodName)) hown (mvT hZ (hw _ (List.mem_of_getElem? (i := 1) rfl))) (mvT hZ (hw _ (List.mem_of_getElem? (i := 2) rfl))) (mvT hZ (hw _ (List.mem_of_getElem? (i := 3) rfl))) (mvT hZ (hw _ (List.mem_of_getElem? (i := 4) rfl))) (by decide) (backOf (W := 0) (rm1 l Z a0 hw [] A i1 h0 n0 Z0 hS) hZ (hw _ (List.mem_of_getElem? (i := 4) rfl)) (hw _ (List.mem_of_getElem? (i := 3) rfl)) (by decide) (by decide)) (g := (mkF m 17 #[.val (.int v0), .val (.int v1), .val (.int i1), .val (.int j1), .unset, .unset] [(.int i1)])) rfl (by rw [hml]; rfl) (argsL := [(.int i1)]) (rest := []) (lenOf pd_1 rfl) rfl (by show 2 * 0 + _ ≤ _; exact Nat.le_of_eq rfl) (hb hby at_17) (fun _ _ => ⟨rfl, e0, (by decide : 0 + 0 ≤ _), (by decide : 0 + 0 ≤ _)⟩)
  dsimp only [Pt.U, Pt.locs, Pt.cells, Pt.slots] at X3 l3 y3 z3 st3 hQ3
  subst l3 y3 z3
  obtain ⟨rfl, Nc3, e3⟩ := hQ3
  have N3 := Fr.app N0 Nc3
  have sg4 : ∀ t, Steps p.tables e below (T3.setTop (mkF m 23 #[.val (.int v0), .val (.int v1), .val (.int i1), .val (.int j1), .val (.ref (A (own_ix i1))), .unset] [(.int j1)])) t → Steps p.tables e below (T3.setTop (mkF m 20 #[.val (.int v0), .val (.int v1), .val (.int i1), .val (.int j1), .unset, .unset] [(.ref (A (own_ix i1)))])) t := by
    intro t k
    show Steps p.tables e below (T3.setTop (mkF m 20 #[.val (.int v0), .val (.int v1), .val (.int i1), .val (.int j1), .unset, .unset] [(.ref (A (own_ix i1)))])) _
    refine XS.astore X3.here hx rfl (hb hby at_20) rfl rfl (l' := #[.val (.int v0), .val (.int v1), .val (.int i1), .val (.int j1), .val (.ref (A (own_ix i1))), .unset]) rfl ?_
    show Steps p.tables e below (T3.setTop (mkF m 22 #[.val (.int v0), .val (.int v1), .val (.int i1), .val (.int j1), .val (.ref (A (own_ix i1))), .unset] [])) _
    refine XS.iloadN X3.here hx rfl (hb hby at_22) rfl ?_
    show Steps p.tables e below (T3.setTop (mkF m 23 #[.val (.int v0), .val (.int v1), .val (.int i1), .val (.int j1), .val (.ref (A (own_ix i1))), .unset] [(.int j1)])) _
    exact k
  obtain ⟨_, _, ⟨T5, L5, k5, n5⟩, -, X5, ⟨Lc5, hQ5, l5, y5, z5⟩, st5⟩ := Jvm.LawKit.callS X3 hx (y := (⟨"com/example/riddle/riddle/xdm/AtomicTypeIsSubtypeOfPinLaw", "pick", "(I)Lcom/example/riddle/riddle/xdm/AtomicType;"⟩ : MethodName)) hown (mvT hZ (hw _ (List.mem_of_getElem? (i := 1) rfl))) (mvT hZ (hw _ (List.mem_of_getElem? (i := 2) rfl))) (mvT hZ (hw _ (List.mem_of_getElem? (i := 3) rfl))) (mvT hZ (hw _ (List.mem_of_getElem? (i := 4) rfl))) (by decide) (backOf (W := 0) (rm1 l Z a0 hw [] A j1 h0 n0 Z0 hS) hZ (hw _ (List.mem_of_getElem? (i := 4) rfl)) (hw _ (List.mem_of_getElem? (i := 3) rfl)) (by decide) (by decide)) (g := (mkF m 23 #[.val (.int v0), .val (.int v1), .val (.int i1), .val (.int j1), .val (.ref (A (own_ix i1))), .unset] [(.int j1)])) rfl (by rw [hml]; rfl) (argsL := [(.int j1)]) (rest := []) (lenOf pd_1 rfl) rfl (by show 2 * 0 + _ ≤ _; exact Nat.le_of_eq rfl) (hb hby at_23) (fun _ _ => ⟨rfl, e3, (by decide : 0 + 0 ≤ _), (by decide : 0 + 0 ≤ _)⟩)
  dsimp only [Pt.U, Pt.locs, Pt.cells, Pt.slots] at X5 l5 y5 z5 st5 hQ5
  subst l5 y5 z5
  obtain ⟨rfl, Nc5, e5⟩ := hQ5
  have N5 := Fr.app N3 Nc5
  have sg6 : ∀ t, Steps p.tables e below (T5.setTop (mkF m 32 #[.val (.int v0), .val (.int v1), .val (.int i1), .val (.int j1), .val (.ref (A (own_ix i1))), .val (.ref (A (own_ix j1)))] [(.ref (A (own_ix j1))), (.ref (A (own_ix i1)))])) t → Steps p.tables e below (T5.setTop (mkF m 26 #[.val (.int v0), .val (.int v1), .val (.int i1), .val (.int j1), .val (.ref (A (own_ix i1))), .unset] [(.ref (A (own_ix j1)))])) t := by
    intro t k
    show Steps p.tables e below (T5.setTop (mkF m 26 #[.val (.int v0), .val (.int v1), .val (.int i1), .val (.int j1), .val (.ref (A (own_ix i1))), .unset] [(.ref (A (own_ix j1)))])) _
    refine XS.astore X5.here hx rfl (hb hby at_26) rfl rfl (l' := #[.val (.int v0), .val (.int v1), .val (.int i1), .val (.int j1), .val (.ref (A (own_ix i1))), .val (.ref (A (own_ix j1)))]) rfl ?_
    show Steps p.tables e below (T5.setTop (mkF m 28 #[.val (.int v0), .val (.int v1), .val (.int i1), .val (.int j1), .val (.ref (A (own_ix i1))), .val (.ref (A (own_ix j1)))] [])) _
    refine XS.aload X5.here hx rfl (hb hby at_28) rfl rfl ?_
    show Steps p.tables e below (T5.setTop (mkF m 30 #[.val (.int v0), .val (.int v1), .val (.int i1), .val (.int j1), .val (.ref (A (own_ix i1))), .val (.ref (A (own_ix j1)))] [(.ref (A (own_ix i1)))])) _
    refine XS.aload X5.here hx rfl (hb hby at_30) rfl rfl ?_
    show Steps p.tables e below (T5.setTop (mkF m 32 #[.val (.int v0), .val (.int v1), .val (.int i1), .val (.int j1), .val (.ref (A (own_ix i1))), .val (.ref (A (own_ix j1)))] [(.ref (A (own_ix j1))), (.ref (A (own_ix i1)))])) _
    exact k
  obtain ⟨cB7, kB7, qa7, -, qc7⟩ := isOf hZ e5 (hE _ (own_ix_lt i1))
  obtain ⟨_, _, ⟨T7, L7, k7, n7⟩, -, X7, ⟨Lc7, hQ7, l7, y7, z7⟩, st7⟩ := X5.virtualBack hx (y := (⟨"com/example/riddle/riddle/xdm/AtomicType", "isSubtypeOf", "(Lcom/example/riddle/riddle/xdm/AtomicType;)Z"⟩ : MethodName)) (z := (⟨"com/example/riddle/riddle/xdm/AtomicType", "isSubtypeOf", "(Lcom/example/riddle/riddle/xdm/AtomicType;)Z"⟩ : MethodName)) hown (mvT hZ (hw _ (List.mem_of_getElem? (i := 10) rfl))) (mvT hZ (hw _ (List.mem_of_getElem? (i := 11) rfl))) (notFace_of_selects (args := #[]) (mvT hZ (hw _ (List.mem_of_getElem? (i := 13) rfl)))) (mvT hZ (hw _ (List.mem_of_getElem? (i := 13) rfl))) (mvT hZ (hw _ (List.mem_of_getElem? (i := 12) rfl))) (by decide) (backOf (W := 0) (rm2 l Z a0 hw [] (A (own_ix i1)) (A (own_ix j1)) ((own_ch (own_ix i1)).map A) h0 n0 Z0 (own_chains hP _ (own_ix_lt i1))) hZ (hw _ (List.mem_of_getElem? (i := 14) rfl)) (hw _ (List.mem_of_getElem? (i := 6) rfl)) (by decide) (by decide)) qa7 qc7 (g := (mkF m 32 #[.val (.int v0), .val (.int v1), .val (.int i1), .val (.int j1), .val (.ref (A (own_ix i1))), .val (.ref (A (own_ix j1)))] [(.ref (A (own_ix j1))), (.ref (A (own_ix i1)))])) rfl (by rw [hml]; rfl) (Steps.refl _) (argsL := [(.ref (A (own_ix j1)))]) (rest := []) (lenOf pd_2 rfl) rfl (by show 2 * 0 + _ ≤ _; exact Nat.le_of_eq rfl) (hb hby at_32) (fun _ _ => ⟨rfl, e5, (by decide : 0 + 0 ≤ _), (by decide : 0 + 0 ≤ _)⟩)
  dsimp only [Pt.U, Pt.locs, Pt.cells, Pt.slots] at X7 l7 y7 z7 st7 hQ7
  subst l7 y7 z7
  obtain ⟨rfl, Nc7, e7⟩ := hQ7
  have N7 := Fr.app N5 Nc7
  have sg8 : ∀ t, Steps p.tables e below (T7.setTop (mkF m 37 #[.val (.int v0), .val (.int v1), .val (.int i1), .val (.int j1), .val (.ref (A (own_ix i1))), .val (.ref (A (own_ix j1)))] [(.int j1), (.int i1), (.int (own_in (A (own_ix j1)) ((own_ch (own_ix i1)).map A)))])) t → Steps p.tables e below (T7.setTop (mkF m 35 #[.val (.int v0), .val (.int v1), .val (.int i1), .val (.int j1), .val (.ref (A (own_ix i1))), .val (.ref (A (own_ix j1)))] [(.int (own_in (A (own_ix j1)) ((own_ch (own_ix i1)).map A)))])) t := by
    intro t k
    show Steps p.tables e below (T7.setTop (mkF m 35 #[.val (.int v0), .val (.int v1), .val (.int i1), .val (.int j1), .val (.ref (A (own_ix i1))), .val (.ref (A (own_ix j1)))] [(.int (own_in (A (own_ix j1)) ((own_ch (own_ix i1)).map A)))])) _
    refine XS.iloadN X7.here hx rfl (hb hby at_35) rfl ?_
    show Steps p.tables e below (T7.setTop (mkF m 36 #[.val (.int v0), .val (.int v1), .val (.int i1), .val (.int j1), .val (.ref (A (own_ix i1))), .val (.ref (A (own_ix j1)))] [(.int i1), (.int (own_in (A (own_ix j1)) ((own_ch (own_ix i1)).map A)))])) _
    refine XS.iloadN X7.here hx rfl (hb hby at_36) rfl ?_
    show Steps p.tables e below (T7.setTop (mkF m 37 #[.val (.int v0), .val (.int v1), .val (.int i1), .val (.int j1), .val (.ref (A (own_ix i1))), .val (.ref (A (own_ix j1)))] [(.int j1), (.int i1), (.int (own_in (A (own_ix j1)) ((own_ch (own_ix i1)).map A)))])) _
    exact k
  obtain ⟨_, _, ⟨T9, L9, k9, n9⟩, -, X9, ⟨Lc9, hQ9, l9, y9, z9⟩, st9⟩ := Jvm.LawKit.callS X7 hx (y := (⟨"com/example/riddle/riddle/xdm/AtomicTypeIsSubtypeOfPinLaw", "expected", "(II)Z"⟩ : MethodName)) hown (mvT hZ (hw _ (List.mem_of_getElem? (i := 17) rfl))) (mvT hZ (hw _ (List.mem_of_getElem? (i := 18) rfl))) (mvT hZ (hw _ (List.mem_of_getElem? (i := 3) rfl))) (mvT hZ (hw _ (List.mem_of_getElem? (i := 19) rfl))) (by decide) (backOf (W := 1) (rm3 l Z a0 hw [] i1 j1 h0 n0 Z0) hZ (hw _ (List.mem_of_getElem? (i := 19) rfl)) (hw _ (List.mem_of_getElem? (i := 3) rfl)) (by decide) (by decide)) (g := (mkF m 37 #[.val (.int v0), .val (.int v1), .val (.int i1), .val (.int j1), .val (.ref (A (own_ix i1))), .val (.ref (A (own_ix j1)))] [(.int j1), (.int i1), (.int (own_in (A (own_ix j1)) ((own_ch (own_ix i1)).map A)))])) rfl (by rw [hml]; rfl) (argsL := [(.int i1), (.int j1)]) (rest := [(.int (own_in (A (own_ix j1)) ((own_ch (own_ix i1)).map A)))]) (lenOf pd_3 rfl) rfl (by show 2 * 0 + _ ≤ _; exact Nat.le_of_eq rfl) (hb hby at_37) (fun _ _ => ⟨rfl, e7, (by decide : 0 + 0 ≤ _), (by decide : 0 + 0 ≤ _)⟩)
  dsimp only [Pt.U, Pt.locs, Pt.cells, Pt.slots] at X9 l9 y9 z9 st9 hQ9
  subst l9 y9 z9
  obtain ⟨rfl, Nc9, e9⟩ := hQ9
  have N9 := Fr.app N7 Nc9
  have sg10 : ∀ t, Steps p.tables e below (T9.setTop (mkF m 48 #[.val (.int v0), .val (.int v1), .val (.int i1), .val (.int j1), .val (.ref (A (own_ix i1))), .val (.ref (A (own_ix j1)))] [(.int (1 : Int32))])) t → Steps p.tables e below (T9.setTop (mkF m 40 #[.val (.int v0), .val (.int v1), .val (.int i1), .val (.int j1), .val (.ref (A (own_ix i1))), .val (.ref (A (own_ix j1)))] [(.int (f3_0 i1 j1)), (.int (own_in (A (own_ix j1)) ((own_ch (own_ix i1)).map A)))])) t := by
    intro t k
    show Steps p.tables e below (T9.setTop (mkF m 40 #[.val (.int v0), .val (.int v1), .val (.int i1), .val (.int j1), .val (.ref (A (own_ix i1))), .val (.ref (A (own_ix j1)))] [(.int (f3_0 i1 j1)), (.int (own_in (A (own_ix j1)) ((own_ch (own_ix i1)).map A)))])) _
    refine XS.icmpNo X9.here hx rfl (hb hby at_40) rfl (teq hlaw).2 ?_
    show Steps p.tables e below (T9.setTop (mkF m 43 #[.val (.int v0), .val (.int v1), .val (.int i1), .val (.int j1), .val (.ref (A (own_ix i1))), .val (.ref (A (own_ix j1)))] [])) _
    refine XS.iconst X9.here hx rfl (hb hby at_43) ?_
    show Steps p.tables e below (T9.setTop (mkF m 44 #[.val (.int v0), .val (.int v1), .val (.int i1), .val (.int j1), .val (.ref (A (own_ix i1))), .val (.ref (A (own_ix j1)))] [(.int (1 : Int32))])) _
    refine XS.goto X9.here hx rfl (pc0 := 44) (pc' := 48) rfl (hb hby at_44) (by decide) (by decide) ?_
    show Steps p.tables e below (T9.setTop (mkF m 48 #[.val (.int v0), .val (.int v1), .val (.int i1), .val (.int j1), .val (.ref (A (own_ix i1))), .val (.ref (A (own_ix j1)))] [(.int (1 : Int32))])) _
    exact k
  obtain ⟨fs, hr, hrun, hended, hW, hsame⟩ := X9.leave (v := some (.int (1 : Int32))) (fun h => by rw [Bd.returns] at h; cases h)
  refine ⟨_, _, pre0 _ ?_, hrun, hended, _, _, rfl, ?_, ⟨_, rfl⟩, hW, hsame.mono (by decide) (by decide)⟩
  · refine sg1 _ ?_
    refine sg2 _ ?_
    refine st3 _ ?_
    refine sg4 _ ?_
    refine st5 _ ?_
    refine sg6 _ ?_
    refine st7.trans ?_
    refine sg8 _ ?_
    refine st9 _ ?_
    refine sg10 _ ?_
    show Steps p.tables e below (T9.setTop (mkF m 48 #[.val (.int v0), .val (.int v1), .val (.int i1), .val (.int j1), .val (.ref (A (own_ix i1))), .val (.ref (A (own_ix j1)))] [(.int (1 : Int32))])) _
    exact retN X9 hx (t := .boolean) Bd.returns (by simp) (hb hby at_48) hr
  · exact ⟨rfl, N9⟩
theorem own_eqR {Z : State} {args : Array Value} {t u : Term} {y : Addr} (hu : u.eval args Z none [] Z = some (.ref y)) (h : (Jvm.Cond.eq t u).value args Z none Z [] = some true) : t.eval args Z none [] Z = some (.ref y) := by
  obtain ⟨a, b, e1, e2, k1, k2⟩ := cmp_v (Or.inl h)
  cases hu.symm.trans e2
  have ha : a.isRef = true := by cases a <;> simp [Kin, Value.isRef] at k1 ⊢
  have := gotT (eq_R e1 hu ha rfl) h
  rw [e1, this]
set_option maxRecDepth 65536 in
set_option maxHeartbeats 40000000 in
theorem comes_1 {Post : Tables → Env → Array Value → State → Outcome → State → Prop} (hpost : ∀ tb e args s v u, (limb_1_1.after args s (.returned v) u = true ∧ limb_1_2.after args s (.returned v) u = true ∧ True) → FrameEnd s (.returned v) u (Jvm.fieldLocs frame_1_writes args s ++ Jvm.arrayLocs frame_1_arrays args s ++ Jvm.staticLocs frame_1_statics s) 0 0 → Post tb e args s (.returned v) u) :
    ArmFor flags0 classFile x code maxLocals ret World_1 tables_1 room_1 Calls_1 rest_1 Pre_1 Post := by
  intro l hfl _ _ p e ha hc hk s m args below hf hA hF happ hP
  obtain ⟨hcalls, hrest, hpre⟩ := hP
  obtain ⟨-, -, -, hnamed, -, -, -, hat⟩ := (Spec.applies_iff hf).mp happ
  obtain ⟨hg, hn⟩ := and_e (Cond.before_iff.mp (show (Jvm.Cond.and given_1 narrow_1).before args s = true from hpre))
  obtain ⟨hcount, q0⟩ := and_e hg
  obtain ⟨g0, q1⟩ := and_e q0
  obtain ⟨w0, w1, rfl⟩ : ∃ w0 w1 : Value, args = #[w0, w1] := by
    have hs : args.size = 2 := by simpa [Cond.value, given_1] using hcount
    obtain ⟨L⟩ := args
    match L, hs with
    | [w0, w1], _ => exact ⟨w0, w1, rfl⟩
  have hw := fun d (hd : d ∈ tables_1) => atoms_spec (ws := Jvm.Cond.code x code maxLocals ret :: tables_1) hat d (List.mem_cons_of_mem _ hd)
  obtain ⟨i0, r0⟩ := is_v g0
  obtain rfl : w0 = (.int i0) := Option.some.inj r0
  obtain ⟨i1, r1⟩ := is_v q1
  obtain rfl : w1 = (.int i1) := Option.some.inj r1
  obtain ⟨n0, hn⟩ := and_e hn
  obtain ⟨n1, hn⟩ := and_e hn
  obtain ⟨n2, hn⟩ := and_e hn
  obtain ⟨n3, hn⟩ := and_e hn
  obtain ⟨n4, hn⟩ := and_e hn
  obtain ⟨n5, hn⟩ := and_e hn
  obtain ⟨n6, hn⟩ := and_e hn
  obtain ⟨n7, hn⟩ := and_e hn
  obtain ⟨n8, hn⟩ := and_e hn
  obtain ⟨n9, hn⟩ := and_e hn
  obtain ⟨n10, hn⟩ := and_e hn
  obtain ⟨n11, hn⟩ := and_e hn
  obtain ⟨n12, hn⟩ := and_e hn
  obtain ⟨n13, hn⟩ := and_e hn
  obtain ⟨n14, hn⟩ := and_e hn
  obtain ⟨n15, hn⟩ := and_e hn
  obtain ⟨n16, hn⟩ := and_e hn
  obtain ⟨n17, hn⟩ := and_e hn
  obtain ⟨n18, hn⟩ := and_e hn
  obtain ⟨n19, hn⟩ := and_e hn
  obtain ⟨n20, hn⟩ := and_e hn
  obtain ⟨n21, hn⟩ := and_e hn
  obtain ⟨n22, hn⟩ := and_e hn
  obtain ⟨n23, hn⟩ := and_e hn
  obtain ⟨n24, hn⟩ := and_e hn
  obtain ⟨n25, hn⟩ := and_e hn
  obtain ⟨n26, hn⟩ := and_e hn
  obtain ⟨n27, hn⟩ := and_e hn
  obtain ⟨n28, hn⟩ := and_e hn
  obtain ⟨n29, hn⟩ := and_e hn
  obtain ⟨n30, hn⟩ := and_e hn
  obtain ⟨n31, hn⟩ := and_e hn
  obtain ⟨n32, hn⟩ := and_e hn
  obtain ⟨n33, hn⟩ := and_e hn
  obtain ⟨n34, hn⟩ := and_e hn
  obtain ⟨n35, hn⟩ := and_e hn
  obtain ⟨n36, hn⟩ := and_e hn
  obtain ⟨n37, hn⟩ := and_e hn
  obtain ⟨n38, hn⟩ := and_e hn
  obtain ⟨n39, hn⟩ := and_e hn
  obtain ⟨n40, hn⟩ := and_e hn
  obtain ⟨x0, ev0⟩ := exa_v n0
  have E0 := Exa.start ev0 n0
  have S0 := Sta.start ev0 (Or.inr ⟨(hw _ (List.mem_of_getElem? (i := 6) rfl)), (hw _ (List.mem_of_getElem? (i := 7) rfl))⟩)
  obtain ⟨x3, ev3⟩ := exa_v n1
  have E3 := Exa.start ev3 n1
  have S3 := Sta.start ev3 (Or.inr ⟨(hw _ (List.mem_of_getElem? (i := 6) rfl)), (hw _ (List.mem_of_getElem? (i := 9) rfl))⟩)
  obtain ⟨x1, ev1⟩ := exa_v n5
  have E1 := Exa.start ev1 n5
  have S1 := Sta.start ev1 (Or.inr ⟨(hw _ (List.mem_of_getElem? (i := 6) rfl)), (hw _ (List.mem_of_getElem? (i := 21) rfl))⟩)
  obtain ⟨x10, ev10⟩ := exa_v n7
  have E10 := Exa.start ev10 n7
  have S10 := Sta.start ev10 (Or.inr ⟨(hw _ (List.mem_of_getElem? (i := 6) rfl)), (hw _ (List.mem_of_getElem? (i := 23) rfl))⟩)
  obtain ⟨x5, ev5⟩ := exa_v n8
  have E5 := Exa.start ev5 n8
  have S5 := Sta.start ev5 (Or.inr ⟨(hw _ (List.mem_of_getElem? (i := 6) rfl)), (hw _ (List.mem_of_getElem? (i := 25) rfl))⟩)
  obtain ⟨x8, ev8⟩ := exa_v n12
  have E8 := Exa.start ev8 n12
  have S8 := Sta.start ev8 (Or.inr ⟨(hw _ (List.mem_of_getElem? (i := 6) rfl)), (hw _ (List.mem_of_getElem? (i := 27) rfl))⟩)
  obtain ⟨x2, ev2⟩ := exa_v n13
  have E2 := Exa.start ev2 n13
  have S2 := Sta.start ev2 (Or.inr ⟨(hw _ (List.mem_of_getElem? (i := 6) rfl)), (hw _ (List.mem_of_getElem? (i := 29) rfl))⟩)
  obtain ⟨x4, ev4⟩ := exa_v n16
  have E4 := Exa.start ev4 n16
  have S4 := Sta.start ev4 (Or.inr ⟨(hw _ (List.mem_of_getElem? (i := 6) rfl)), (hw _ (List.mem_of_getElem? (i := 30) rfl))⟩)
  obtain ⟨x11, ev11⟩ := exa_v n20
  have E11 := Exa.start ev11 n20
  have S11 := Sta.start ev11 (Or.inr ⟨(hw _ (List.mem_of_getElem? (i := 6) rfl)), (hw _ (List.mem_of_getElem? (i := 33) rfl))⟩)
  obtain ⟨x13, ev13⟩ := exa_v n21
  have E13 := Exa.start ev13 n21
  have S13 := Sta.start ev13 (Or.inr ⟨(hw _ (List.mem_of_getElem? (i := 6) rfl)), (hw _ (List.mem_of_getElem? (i := 35) rfl))⟩)
  obtain ⟨x6, ev6⟩ := exa_v n25
  have E6 := Exa.start ev6 n25
  have S6 := Sta.start ev6 (Or.inr ⟨(hw _ (List.mem_of_getElem? (i := 6) rfl)), (hw _ (List.mem_of_getElem? (i := 37) rfl))⟩)
  obtain ⟨x12, ev12⟩ := exa_v n29
  have E12 := Exa.start ev12 n29
  have S12 := Sta.start ev12 (Or.inr ⟨(hw _ (List.mem_of_getElem? (i := 6) rfl)), (hw _ (List.mem_of_getElem? (i := 39) rfl))⟩)
  obtain ⟨x7, ev7⟩ := exa_v n32
  have E7 := Exa.start ev7 n32
  have S7 := Sta.start ev7 (Or.inr ⟨(hw _ (List.mem_of_getElem? (i := 6) rfl)), (hw _ (List.mem_of_getElem? (i := 41) rfl))⟩)
  obtain ⟨x9, ev9⟩ := exa_v n38
  have E9 := Exa.start ev9 n38
  have S9 := Sta.start ev9 (Or.inr ⟨(hw _ (List.mem_of_getElem? (i := 6) rfl)), (hw _ (List.mem_of_getElem? (i := 43) rfl))⟩)
  have O0 := Fld.start ((fld_at ev0).symm.trans (eqv_i (y := 0) (Term.int_eval _) n2))
  have O3 := Fld.start ((fld_at ev3).symm.trans (eqv_i (y := 3) (Term.int_eval _) n3))
  have P0 := Fld.start ((fld_at ev0).symm.trans (null_v n4))
  have O1 := Fld.start ((fld_at ev1).symm.trans (eqv_i (y := 1) (Term.int_eval _) n6))
  have O10 := Fld.start ((fld_at ev10).symm.trans (eqv_i (y := 10) (Term.int_eval _) n9))
  have O5 := Fld.start ((fld_at ev5).symm.trans (eqv_i (y := 5) (Term.int_eval _) n10))
  have P10 := Fld.start ((fld_at ev10).symm.trans (own_eqR ev0 n11))
  have O8 := Fld.start ((fld_at ev8).symm.trans (eqv_i (y := 8) (Term.int_eval _) n14))
  have O2 := Fld.start ((fld_at ev2).symm.trans (eqv_i (y := 2) (Term.int_eval _) n15))
  have P8 := Fld.start ((fld_at ev8).symm.trans (own_eqR ev4 n17))
  have O4 := Fld.start ((fld_at ev4).symm.trans (eqv_i (y := 4) (Term.int_eval _) n18))
  have P4 := Fld.start ((fld_at ev4).symm.trans (own_eqR ev0 n19))
  have O11 := Fld.start ((fld_at ev11).symm.trans (eqv_i (y := 11) (Term.int_eval _) n22))
  have O13 := Fld.start ((fld_at ev13).symm.trans (eqv_i (y := 13) (Term.int_eval _) n23))
  have P11 := Fld.start ((fld_at ev11).symm.trans (own_eqR ev0 n24))
  have O6 := Fld.start ((fld_at ev6).symm.trans (eqv_i (y := 6) (Term.int_eval _) n26))
  have P6 := Fld.start ((fld_at ev6).symm.trans (own_eqR ev5 n27))
  have P5 := Fld.start ((fld_at ev5).symm.trans (own_eqR ev4 n28))
  have O12 := Fld.start ((fld_at ev12).symm.trans (eqv_i (y := 12) (Term.int_eval _) n30))
  have P12 := Fld.start ((fld_at ev12).symm.trans (own_eqR ev0 n31))
  have O7 := Fld.start ((fld_at ev7).symm.trans (eqv_i (y := 7) (Term.int_eval _) n33))
  have P7 := Fld.start ((fld_at ev7).symm.trans (own_eqR ev4 n34))
  have P3 := Fld.start ((fld_at ev3).symm.trans (own_eqR ev0 n35))
  have P1 := Fld.start ((fld_at ev1).symm.trans (own_eqR ev0 n36))
  have P13 := Fld.start ((fld_at ev13).symm.trans (own_eqR ev0 n37))
  have O9 := Fld.start ((fld_at ev9).symm.trans (eqv_i (y := 9) (Term.int_eval _) n39))
  have P9 := Fld.start ((fld_at ev9).symm.trans (own_eqR ev0 n40))
  have P2 := Fld.start ((fld_at ev2).symm.trans (own_eqR ev0 hn))
  obtain ⟨n, o, h1, h2, h3, _, L, rfl, ⟨rfl, N⟩, hq⟩ := rm0 l s _ hw tables_1 i0 i1 s.heap s.heap.size (Nat.le_refl _) (A := fun k => ([x0, x1, x2, x3, x4, x5, x6, x7, x8, x9, x10, x11, x12, x13] : List Addr).getD k 0) (fun k hk => match k, hk with | 0, _ => S0 | 1, _ => S1 | 2, _ => S2 | 3, _ => S3 | 4, _ => S4 | 5, _ => S5 | 6, _ => S6 | 7, _ => S7 | 8, _ => S8 | 9, _ => S9 | 10, _ => S10 | 11, _ => S11 | 12, _ => S12 | 13, _ => S13 | k + 14, h => absurd h (by omega)) (fun k hk => match k, hk with | 0, _ => E0 | 1, _ => E1 | 2, _ => E2 | 3, _ => E3 | 4, _ => E4 | 5, _ => E5 | 6, _ => E6 | 7, _ => E7 | 8, _ => E8 | 9, _ => E9 | 10, _ => E10 | 11, _ => E11 | 12, _ => E12 | 13, _ => E13 | k + 14, h => absurd h (by omega)) (fun k hk => match k, hk with | 0, _ => O0 | 1, _ => O1 | 2, _ => O2 | 3, _ => O3 | 4, _ => O4 | 5, _ => O5 | 6, _ => O6 | 7, _ => O7 | 8, _ => O8 | 9, _ => O9 | 10, _ => O10 | 11, _ => O11 | 12, _ => O12 | 13, _ => O13 | k + 14, h => absurd h (by omega)) (fun k hk => match k, hk with | 0, _ => P0 | 1, _ => P1 | 2, _ => P2 | 3, _ => P3 | 4, _ => P4 | 5, _ => P5 | 6, _ => P6 | 7, _ => P7 | 8, _ => P8 | 9, _ => P9 | 10, _ => P10 | 11, _ => P11 | 12, _ => P12 | 13, _ => P13 | k + 14, h => absurd h (by omega)) p e ha hc hk s m _ below hf ((Spec.applies_iff_loose hf).mp happ).1 ⟨rfl, State.Warmed39.refl s, rfl⟩ trivial
  refine ⟨n, _, h1, h2, h3, hpost _ _ _ _ _ _ ⟨Cond.after_iff.mpr rfl, Cond.after_iff.mpr (eq_i res_at (Term.int_eval (1)) rfl), trivial⟩ ⟨hq.1, hq.2.1, (hq.2.2.sift fun y hy => Or.inr (N y hy)).mono (by decide) (by decide)⟩⟩
theorem main_1_1 : Claimed_1_1 := comes_1 fun _ _ _ _ _ _ h hF => ⟨h.1, hF⟩
theorem main_1_2 : Claimed_1_2 := comes_1 fun _ _ _ _ _ _ h hF => ⟨h.2.1, hF⟩
end Jvm.Pilot.@@N@@
namespace Jvm.Pilot.@@N@@
open Jvm Jvm.ClassFile Sem Op Lib Jvm.Free Jvm.Stand Jvm.Pilot.@@N@@.Jvm.D
/-! MADE BY PROGRAM (witnessworld.py) out of the Statement's table words and the real class files: 13 classes; the members and pool entries that the words name. The judged class is class 1, her method 3. -/
namespace start1
open Jvm.ClassFile
def u (s : String) : CpInfo := .utf8 (stringToUtf16 s)
/-- a pool by its gaps: so many unusable entries, then the entry; so many at the end -/
def gap : Nat → List CpInfo → List CpInfo
  | 0, r => r
  | n + 1, r => .unusable :: gap n r
def poolList (es : List (Nat × CpInfo)) (last : Nat) : List CpInfo := es.foldr (fun e r => gap e.1 (e.2 :: r)) (gap last [])
def pool (es : List (Nat × CpInfo)) (last : Nat) : Array CpInfo := ⟨poolList es last⟩
def fileOf (pool : Array CpInfo) (this : Nat) (attrs : Array Attribute := #[]) (ms : Array MethodInfo := #[]) (fl : Nat := 33) (sup : Nat := 0) (ifs : Array Nat := #[]) (fds : Array FieldInfo := #[]) : ClassFile where
  minorVersion := 0
  majorVersion := 65
  constantPool := pool
  accessFlags := fl
  thisClass := this
  superClass := sup
  interfaces := ifs
  fields := fds
  methods := ms
  attributes := attrs
def plain (name : String) (sup : Option ClassId) : Class where
  name := name
  kind := .ordinary
  loader := none
  accessFlags := 33
  super := sup
  interfaces := #[]
  cf := none
  fields := #[]
  methods := #[]
  instanceTypes := #[]
  staticTypes := #[]
  resolved := #[]
  callSites := []
  init := .initialized
  statics := none
  mirror := none

def pool0 : Array CpInfo := pool [(5, u "<init>"), (0, u "()V"), (1, .class_ 10), (1, u "java/lang/Object")] 113

def k0m0 : Method := { name := "<init>", desc := "()V", sig := { parameters := [], returnType := none }, accessFlags := 1, code := none }
/-- java/lang/Object -/
def k0 : Class := { plain "java/lang/Object" none with
  accessFlags := 33
  interfaces := #[]
  cf := some (fileOf pool0 8 #[] #[{ accessFlags := 1, nameIndex := 5, descriptorIndex := 6, attributes := #[] }] 33 0 #[] #[])
  fields := #[]
  methods := #[k0m0]
  instanceTypes := #[]
  staticTypes := #[]
  resolved := Array.replicate 124 none
  statics := none }

def pool1 : Array CpInfo := pool [(2, .class_ 4), (1, u "java/lang/Object"), (0, u "<init>"), (0, u "()V"), (0, .fieldref 8 9), (0, .class_ 10), (0, .nameAndType 11 12), (0, u "com/example/riddle/riddle/xdm/AtomicType"), (0, u "ANY_ATOMIC"), (0, u "Lcom/example/riddle/riddle/xdm/AtomicType;"), (0, .fieldref 8 14), (0, .nameAndType 15 12), (0, u "UNTYPED_ATOMIC"), (0, .fieldref 8 17), (0, .nameAndType 18 12), (0, u "STRING"), (0, .fieldref 8 20), (0, .nameAndType 21 12), (0, u "BOOLEAN"), (0, .fieldref 8 23), (0, .nameAndType 24 12), (0, u "NUMERIC"), (0, .fieldref 8 26), (0, .nameAndType 27 12), (0, u "DECIMAL"), (0, .fieldref 8 29), (0, .nameAndType 30 12), (0, u "INTEGER"), (0, .fieldref 8 32), (0, .nameAndType 33 12), (0, u "FLOAT"), (0, .fieldref 8 35), (0, .nameAndType 36 12), (0, u "DOUBLE"), (0, .fieldref 8 38), (0, .nameAndType 39 12), (0, u "DATE_TIME"), (0, .fieldref 8 41), (0, .nameAndType 42 12), (0, u "DATE"), (0, .fieldref 8 44), (0, .nameAndType 45 12), (0, u "TIME"), (0, .fieldref 8 47), (0, .nameAndType 48 12), (0, u "ANY_URI"), (0, .fieldref 8 50), (0, .nameAndType 51 12), (0, u "HEX_BINARY"), (0, .integer 2147483647), (0, .methodref 54 55), (0, .class_ 56), (0, .nameAndType 57 58), (0, u "com/example/riddle/riddle/xdm/AtomicTypeIsSubtypeOfPinLaw"), (0, u "pick"), (0, u "(I)Lcom/example/riddle/riddle/xdm/AtomicType;"), (0, .methodref 8 60), (0, .nameAndType 61 62), (0, u "isSubtypeOf"), (0, u "(Lcom/example/riddle/riddle/xdm/AtomicType;)Z"), (0, .methodref 54 64), (0, .nameAndType 65 66), (0, u "expected"), (0, u "(II)Z"), (3, u "law")] 2

def k1m0 : Method := { name := "<init>", desc := "()V", sig := { parameters := [], returnType := none }, accessFlags := 2, code := none }
def k1c1 : Code := { maxStack := 2, maxLocals := 1, code := method_2_code, exceptionTable := #[], attributes := #[] }
def k1m1 : Method := { name := "pick", desc := "(I)Lcom/example/riddle/riddle/xdm/AtomicType;", sig := { parameters := [.int], returnType := some (.object "com/example/riddle/riddle/xdm/AtomicType") }, accessFlags := 10, code := some k1c1 }
def k1c2 : Code := { maxStack := 2, maxLocals := 2, code := method_3_code, exceptionTable := #[], attributes := #[] }
def k1m2 : Method := { name := "expected", desc := "(II)Z", sig := { parameters := [.int, .int], returnType := some .boolean }, accessFlags := 10, code := some k1c2 }
def k1c3 : Code := { maxStack := 3, maxLocals := 6, code := code, exceptionTable := #[], attributes := #[] }
def k1m3 : Method := { name := "law", desc := "(II)Z", sig := { parameters := [.int, .int], returnType := some .boolean }, accessFlags := 9, code := some k1c3 }
/-- com/example/riddle/riddle/xdm/AtomicTypeIsSubtypeOfPinLaw -/
def k1 : Class := { plain "com/example/riddle/riddle/xdm/AtomicTypeIsSubtypeOfPinLaw" (some 0) with
  accessFlags := 49
  interfaces := #[]
  cf := some (fileOf pool1 54 #[] #[{ accessFlags := 2, nameIndex := 5, descriptorIndex := 6, attributes := #[] }, { accessFlags := 10, nameIndex := 57, descriptorIndex := 58, attributes := #[] }, { accessFlags := 10, nameIndex := 65, descriptorIndex := 66, attributes := #[] }, { accessFlags := 9, nameIndex := 70, descriptorIndex := 66, attributes := #[] }] 49 2 #[] #[])
  fields := #[]
  methods := #[k1m0, k1m1, k1m2, k1m3]
  instanceTypes := #[]
  staticTypes := #[]
  resolved := Array.replicate 73 none
  statics := none }

def pool2 : Array CpInfo := pool [(1, .class_ 2), (0, u "java/lang/constant/Constable"), (0, .class_ 4), (0, u "java/lang/Object")] 6

/-- java/lang/constant/Constable -/
def k2 : Class := { plain "java/lang/constant/Constable" (some 0) with
  accessFlags := 1537
  interfaces := #[]
  cf := some (fileOf pool2 1 #[] #[] 1537 3 #[] #[])
  fields := #[]
  methods := #[]
  instanceTypes := #[]
  staticTypes := #[]
  resolved := Array.replicate 11 none
  statics := none }

def pool3 : Array CpInfo := pool [(1, .class_ 2), (0, u "java/lang/Comparable"), (0, .class_ 4), (0, u "java/lang/Object")] 7

/-- java/lang/Comparable -/
def k3 : Class := { plain "java/lang/Comparable" (some 0) with
  accessFlags := 1537
  interfaces := #[]
  cf := some (fileOf pool3 1 #[] #[] 1537 3 #[] #[])
  fields := #[]
  methods := #[]
  instanceTypes := #[]
  staticTypes := #[]
  resolved := Array.replicate 12 none
  statics := none }

def pool4 : Array CpInfo := pool [(1, .class_ 2), (0, u "java/io/Serializable"), (0, .class_ 4), (0, u "java/lang/Object")] 2

/-- java/io/Serializable -/
def k4 : Class := { plain "java/io/Serializable" (some 0) with
  accessFlags := 1537
  interfaces := #[]
  cf := some (fileOf pool4 1 #[] #[] 1537 3 #[] #[])
  fields := #[]
  methods := #[]
  instanceTypes := #[]
  staticTypes := #[]
  resolved := Array.replicate 7 none
  statics := none }

def pool5 : Array CpInfo := pool [(2, .class_ 4), (1, u "java/lang/Enum"), (0, u "name"), (0, u "Ljava/lang/String;"), (2, u "ordinal"), (0, u "I"), (1, .class_ 14), (1, u "java/lang/Object"), (4, u "hash"), (86, .class_ 108), (1, u "java/lang/Enum$EnumDesc"), (2, .class_ 112), (0, u "java/lang/constant/Constable"), (0, .class_ 114), (0, u "java/lang/Comparable"), (0, .class_ 116), (0, u "java/io/Serializable")] 87

/-- java/lang/Enum -/
def k5 : Class := { plain "java/lang/Enum" (some 0) with
  accessFlags := 1057
  interfaces := #[2, 3, 4]
  cf := some (fileOf pool5 2 #[.nestMembers #[106]] #[] 1057 12 #[111, 113, 115] #[{ accessFlags := 18, nameIndex := 5, descriptorIndex := 6, attributes := #[] }, { accessFlags := 18, nameIndex := 9, descriptorIndex := 10, attributes := #[] }, { accessFlags := 2, nameIndex := 19, descriptorIndex := 10, attributes := #[] }])
  fields := #[{ name := "name", type := (.object "java/lang/String"), accessFlags := 18, slot := 0, constantValue := 0 }, { name := "ordinal", type := .int, accessFlags := 18, slot := 1, constantValue := 0 }, { name := "hash", type := .int, accessFlags := 2, slot := 2, constantValue := 0 }]
  methods := #[]
  instanceTypes := #[(.object "java/lang/String"), .int, .int]
  staticTypes := #[]
  resolved := Array.replicate 204 none
  statics := none }

def pool6 : Array CpInfo := pool [(2, .class_ 4), (1, u "com/example/riddle/riddle/xdm/ItemType$AnyItem"), (3, .class_ 10), (1, u "com/example/riddle/riddle/xdm/ItemType"), (0, u "ITEM"), (0, u "Lcom/example/riddle/riddle/xdm/ItemType;"), (1, .class_ 16), (1, u "com/example/riddle/riddle/xdm/ItemType$NoItem"), (3, u "NONE"), (0, .class_ 22), (0, u "java/lang/Object")] 17

/-- com/example/riddle/riddle/xdm/ItemType -/
def k6 : Class := { plain "com/example/riddle/riddle/xdm/ItemType" (some 0) with
  accessFlags := 1537
  interfaces := #[]
  cf := some (fileOf pool6 8 #[.nestMembers #[14, 2]] #[] 1537 21 #[] #[{ accessFlags := 25, nameIndex := 11, descriptorIndex := 12, attributes := #[] }, { accessFlags := 25, nameIndex := 20, descriptorIndex := 12, attributes := #[] }])
  fields := #[{ name := "ITEM", type := (.object "com/example/riddle/riddle/xdm/ItemType"), accessFlags := 25, slot := 0, constantValue := 0 }, { name := "NONE", type := (.object "com/example/riddle/riddle/xdm/ItemType"), accessFlags := 25, slot := 1, constantValue := 0 }]
  methods := #[]
  instanceTypes := #[]
  staticTypes := #[(.object "com/example/riddle/riddle/xdm/ItemType"), (.object "com/example/riddle/riddle/xdm/ItemType")]
  resolved := Array.replicate 40 none
  statics := none }

def pool7 : Array CpInfo := pool [(1, .class_ 2), (0, u "com/example/riddle/riddle/xdm/AtomicType"), (2, u "ANY_ATOMIC"), (0, u "Lcom/example/riddle/riddle/xdm/AtomicType;"), (2, u "UNTYPED_ATOMIC"), (2, u "STRING"), (2, u "BOOLEAN"), (2, u "NUMERIC"), (2, u "DECIMAL"), (2, u "INTEGER"), (2, u "FLOAT"), (2, u "DOUBLE"), (2, u "DATE_TIME"), (2, u "DATE"), (2, u "TIME"), (2, u "ANY_URI"), (2, u "HEX_BINARY"), (2, u "$VALUES"), (0, u "[Lcom/example/riddle/riddle/xdm/AtomicType;"), (6, .class_ 58), (1, u "java/lang/Enum"), (17, u "name"), (0, u "Lcom/example/riddle/riddle/xdm/QName;"), (0, .fieldref 1 79), (0, .nameAndType 80 6), (0, u "parent"), (2, u "isAbstract"), (0, u "Z"), (16, u "isSubtypeOf"), (0, u "(Lcom/example/riddle/riddle/xdm/AtomicType;)Z"), (72, .class_ 176), (0, u "com/example/riddle/riddle/xdm/ItemType"), (0, u "XS_NAMESPACE"), (0, u "Ljava/lang/String;")] 38

def k7c0 : Code := { maxStack := 2, maxLocals := 3, code := prog_184_method_7_code, exceptionTable := #[], attributes := #[] }
def k7m0 : Method := { name := "isSubtypeOf", desc := "(Lcom/example/riddle/riddle/xdm/AtomicType;)Z", sig := { parameters := [(.object "com/example/riddle/riddle/xdm/AtomicType")], returnType := some .boolean }, accessFlags := 1, code := some k7c0 }
/-- com/example/riddle/riddle/xdm/AtomicType -/
def k7 : Class := { plain "com/example/riddle/riddle/xdm/AtomicType" (some 5) with
  accessFlags := 16433
  interfaces := #[6]
  cf := some (fileOf pool7 1 #[] #[{ accessFlags := 1, nameIndex := 101, descriptorIndex := 102, attributes := #[] }] 16433 56 #[175] #[{ accessFlags := 16409, nameIndex := 5, descriptorIndex := 6, attributes := #[] }, { accessFlags := 16409, nameIndex := 9, descriptorIndex := 6, attributes := #[] }, { accessFlags := 16409, nameIndex := 12, descriptorIndex := 6, attributes := #[] }, { accessFlags := 16409, nameIndex := 15, descriptorIndex := 6, attributes := #[] }, { accessFlags := 16409, nameIndex := 18, descriptorIndex := 6, attributes := #[] }, { accessFlags := 16409, nameIndex := 21, descriptorIndex := 6, attributes := #[] }, { accessFlags := 16409, nameIndex := 24, descriptorIndex := 6, attributes := #[] }, { accessFlags := 16409, nameIndex := 27, descriptorIndex := 6, attributes := #[] }, { accessFlags := 16409, nameIndex := 30, descriptorIndex := 6, attributes := #[] }, { accessFlags := 16409, nameIndex := 33, descriptorIndex := 6, attributes := #[] }, { accessFlags := 16409, nameIndex := 36, descriptorIndex := 6, attributes := #[] }, { accessFlags := 16409, nameIndex := 39, descriptorIndex := 6, attributes := #[] }, { accessFlags := 16409, nameIndex := 42, descriptorIndex := 6, attributes := #[] }, { accessFlags := 16409, nameIndex := 45, descriptorIndex := 6, attributes := #[] }, { accessFlags := 25, nameIndex := 177, descriptorIndex := 178, attributes := #[] }, { accessFlags := 18, nameIndex := 76, descriptorIndex := 77, attributes := #[] }, { accessFlags := 18, nameIndex := 80, descriptorIndex := 6, attributes := #[] }, { accessFlags := 18, nameIndex := 83, descriptorIndex := 84, attributes := #[] }, { accessFlags := 4122, nameIndex := 48, descriptorIndex := 49, attributes := #[] }])
  fields := #[{ name := "ANY_ATOMIC", type := (.object "com/example/riddle/riddle/xdm/AtomicType"), accessFlags := 16409, slot := 0, constantValue := 0 }, { name := "UNTYPED_ATOMIC", type := (.object "com/example/riddle/riddle/xdm/AtomicType"), accessFlags := 16409, slot := 1, constantValue := 0 }, { name := "STRING", type := (.object "com/example/riddle/riddle/xdm/AtomicType"), accessFlags := 16409, slot := 2, constantValue := 0 }, { name := "BOOLEAN", type := (.object "com/example/riddle/riddle/xdm/AtomicType"), accessFlags := 16409, slot := 3, constantValue := 0 }, { name := "NUMERIC", type := (.object "com/example/riddle/riddle/xdm/AtomicType"), accessFlags := 16409, slot := 4, constantValue := 0 }, { name := "DECIMAL", type := (.object "com/example/riddle/riddle/xdm/AtomicType"), accessFlags := 16409, slot := 5, constantValue := 0 }, { name := "INTEGER", type := (.object "com/example/riddle/riddle/xdm/AtomicType"), accessFlags := 16409, slot := 6, constantValue := 0 }, { name := "FLOAT", type := (.object "com/example/riddle/riddle/xdm/AtomicType"), accessFlags := 16409, slot := 7, constantValue := 0 }, { name := "DOUBLE", type := (.object "com/example/riddle/riddle/xdm/AtomicType"), accessFlags := 16409, slot := 8, constantValue := 0 }, { name := "DATE_TIME", type := (.object "com/example/riddle/riddle/xdm/AtomicType"), accessFlags := 16409, slot := 9, constantValue := 0 }, { name := "DATE", type := (.object "com/example/riddle/riddle/xdm/AtomicType"), accessFlags := 16409, slot := 10, constantValue := 0 }, { name := "TIME", type := (.object "com/example/riddle/riddle/xdm/AtomicType"), accessFlags := 16409, slot := 11, constantValue := 0 }, { name := "ANY_URI", type := (.object "com/example/riddle/riddle/xdm/AtomicType"), accessFlags := 16409, slot := 12, constantValue := 0 }, { name := "HEX_BINARY", type := (.object "com/example/riddle/riddle/xdm/AtomicType"), accessFlags := 16409, slot := 13, constantValue := 0 }, { name := "XS_NAMESPACE", type := (.object "java/lang/String"), accessFlags := 25, slot := 14, constantValue := 0 }, { name := "name", type := (.object "com/example/riddle/riddle/xdm/QName"), accessFlags := 18, slot := 3, constantValue := 0 }, { name := "parent", type := (.object "com/example/riddle/riddle/xdm/AtomicType"), accessFlags := 18, slot := 4, constantValue := 0 }, { name := "isAbstract", type := .boolean, accessFlags := 18, slot := 5, constantValue := 0 }, { name := "$VALUES", type := (.array (.object "com/example/riddle/riddle/xdm/AtomicType")), accessFlags := 4122, slot := 15, constantValue := 0 }]
  methods := #[k7m0]
  instanceTypes := #[(.object "java/lang/String"), .int, .int, (.object "com/example/riddle/riddle/xdm/QName"), (.object "com/example/riddle/riddle/xdm/AtomicType"), .boolean]
  staticTypes := #[(.object "com/example/riddle/riddle/xdm/AtomicType"), (.object "com/example/riddle/riddle/xdm/AtomicType"), (.object "com/example/riddle/riddle/xdm/AtomicType"), (.object "com/example/riddle/riddle/xdm/AtomicType"), (.object "com/example/riddle/riddle/xdm/AtomicType"), (.object "com/example/riddle/riddle/xdm/AtomicType"), (.object "com/example/riddle/riddle/xdm/AtomicType"), (.object "com/example/riddle/riddle/xdm/AtomicType"), (.object "com/example/riddle/riddle/xdm/AtomicType"), (.object "com/example/riddle/riddle/xdm/AtomicType"), (.object "com/example/riddle/riddle/xdm/AtomicType"), (.object "com/example/riddle/riddle/xdm/AtomicType"), (.object "com/example/riddle/riddle/xdm/AtomicType"), (.object "com/example/riddle/riddle/xdm/AtomicType"), (.object "java/lang/String"), (.array (.object "com/example/riddle/riddle/xdm/AtomicType"))]
  resolved := Array.replicate 217 none
  statics := some 0 }

def pool8 : Array CpInfo := pool [(1, u "java/lang/Cloneable"), (0, .class_ 1), (0, u "java/lang/Object"), (0, .class_ 3)] 3

/-- java/lang/Cloneable -/
def k8 : Class := { plain "java/lang/Cloneable" (some 0) with
  accessFlags := 1537
  interfaces := #[]
  cf := some (fileOf pool8 2 #[] #[] 1537 4 #[] #[])
  fields := #[]
  methods := #[]
  instanceTypes := #[]
  staticTypes := #[]
  resolved := Array.replicate 8 none
  statics := none }

/-- the primitive byte -/
def k9 : Class := { plain "byte" none with kind := .primitive 'B', accessFlags := 0x411 }
/-- [B -/
def k10 : Class := { plain "[B" (some 0) with kind := .array 9 .byte, interfaces := #[8, 4], accessFlags := 1041 }

/-- the primitive int -/
def k11 : Class := { plain "int" none with kind := .primitive 'I', accessFlags := 0x411 }
/-- [I -/
def k12 : Class := { plain "[I" (some 0) with kind := .array 11 .int, interfaces := #[8, 4], accessFlags := 1041 }

def heap : Heap := #[{ cls := 7, slots := #[.ref 1, .ref 3, .ref 7, .ref 2, .ref 8, .ref 5, .ref 11, .ref 13, .ref 6, .ref 14, .ref 4, .ref 9, .ref 12, .ref 10, .null, .null], vm := .statics 7 },
  { cls := 7, slots := #[.null, .int 0, .int 0, .null, .null, .int 0], vm := .none },
  { cls := 7, slots := #[.null, .int 3, .int 0, .null, .ref 1, .int 0], vm := .none },
  { cls := 7, slots := #[.null, .int 1, .int 0, .null, .ref 1, .int 0], vm := .none },
  { cls := 7, slots := #[.null, .int 10, .int 0, .null, .ref 1, .int 0], vm := .none },
  { cls := 7, slots := #[.null, .int 5, .int 0, .null, .ref 8, .int 0], vm := .none },
  { cls := 7, slots := #[.null, .int 8, .int 0, .null, .ref 8, .int 0], vm := .none },
  { cls := 7, slots := #[.null, .int 2, .int 0, .null, .ref 1, .int 0], vm := .none },
  { cls := 7, slots := #[.null, .int 4, .int 0, .null, .ref 1, .int 0], vm := .none },
  { cls := 7, slots := #[.null, .int 11, .int 0, .null, .ref 1, .int 0], vm := .none },
  { cls := 7, slots := #[.null, .int 13, .int 0, .null, .ref 1, .int 0], vm := .none },
  { cls := 7, slots := #[.null, .int 6, .int 0, .null, .ref 5, .int 0], vm := .none },
  { cls := 7, slots := #[.null, .int 12, .int 0, .null, .ref 1, .int 0], vm := .none },
  { cls := 7, slots := #[.null, .int 7, .int 0, .null, .ref 8, .int 0], vm := .none },
  { cls := 7, slots := #[.null, .int 9, .int 0, .null, .ref 1, .int 0], vm := .none }]
def classes : Array Class := #[k0, k1, k2, k3, k4, k5, k6, k7, k8, k9, k10, k11, k12]
def interned : List (Array UInt16 × Addr) := []
def slotsUsed : Nat := 100
def theMethod : MethodId := ⟨1, 3⟩
def args0 : Array Value := #[.int 5, .int 6]
def aboutOver (below : List Frame) : State where
  vm := { classes := classes, interned := interned.toArray }
  heap := heap
  slotsUsed := slotsUsed
  threads := #[{ frames := .invoking theMethod args0 :: below }]
def below0 : List Frame := [.native { method := ⟨0, 0⟩, args := #[] }]
def about1 : State := aboutOver below0
def p0 : Program := .bare "" "" ""
def e0 : Env := launch0.env 0 0 0
theorem w_frames : about1.frames = Frame.invoking theMethod args0 :: below0 := rfl
set_option maxRecDepth 65536 in
theorem w_args : argsFit about1.vm theMethod args0 = true := by decide +kernel
set_option maxRecDepth 65536 in
theorem w_heap : heapFits about1 = true := by decide +kernel
set_option maxRecDepth 65536 in
theorem w_runnable : about1.curStatus? = some .runnable := by decide +kernel
set_option maxRecDepth 65536 in
theorem w_alone : about1.alone = true := by decide +kernel
set_option maxRecDepth 65536 in
theorem w_named : about1.methodNamed? x = some theMethod := by decide +kernel
set_option maxRecDepth 65536 in
theorem w_hears : about1.hears theMethod below0 = true := by decide +kernel
set_option maxRecDepth 65536 in
theorem w_ripe : about1.ripe theMethod args0 below0 = true := by decide +kernel
theorem w_running : about1.status = .running := rfl
set_option maxRecDepth 65536 in
theorem w_room : about1.hasRoom e0.platform room_1 = true :=
  launch0.hasRoom_least _ room_1 (by decide +kernel) (by decide +kernel) (by decide +kernel) (by decide +kernel) (by decide +kernel) (by decide +kernel)
theorem allAtoms_all (ts : List Jvm.Cond) (a : Array Jvm.Value) (st : Jvm.State) : (allAtoms ts).before a st = ts.all (fun c => c.before a st) := by
  induction ts with
  | nil => rfl
  | cons c t ih =>
    show (Jvm.Cond.and c (allAtoms t)).before a st = _
    rw [Jvm.Cond.before_and, ih, List.all_cons]
def words1 : List Jvm.Cond := Jvm.Cond.code x code maxLocals ret :: tables_1
/-- a 'code' word, met by the world's own term for the bytes: nothing is compared byte by byte -/
theorem code_word {y : MethodName} {bytes : ByteArray} {mx : Nat} {rt : Option FieldType} {a : Array Value} {s : State} {m : MethodId} {meth : Method} {c : Code} (h1 : s.methodNamed? y = some m) (h2 : s.vm.method? m = some meth) (h3 : meth.code = some c) (h4 : c.code = bytes)
    (h5 : (c.maxLocals == mx && c.exceptionTable.isEmpty && decide (c.maxStack ≤ mostOperands) && decide (meth.sig.returnType = rt) && !meth.locks && decide (parseMethodDescriptor y.desc = some meth.sig)) = true) : (Jvm.Cond.code y bytes mx rt).before a s = true := by
  simp only [Bool.and_eq_true, beq_iff_eq, Bool.not_eq_true', decide_eq_true_eq] at h5
  obtain ⟨⟨⟨⟨⟨g1, g2⟩, g3⟩, g4⟩, g5⟩, g6⟩ := h5
  simp [Cond.before, Cond.holds, Cond.value, h1, h2, h3, h4, g1, g2, g3, g4, g5, g6]
def isCode : Jvm.Cond → Bool
  | .code _ _ _ _ => true
  | _ => false
theorem all_split {L : List Jvm.Cond} {P : Jvm.Cond → Bool} (h1 : L.all (fun c => isCode c || P c) = true) (h2 : ∀ c ∈ L.filter isCode, P c = true) : L.all P = true := by
  refine List.all_eq_true.mpr fun c hc => ?_
  have h := List.all_eq_true.mp h1 c hc
  rcases Bool.eq_false_or_eq_true (isCode c) with hi | hi
  · exact h2 c (List.mem_filter.mpr ⟨hc, hi⟩)
  · simpa [hi] using h
set_option maxRecDepth 65536 in
theorem w_c0 : (Jvm.Cond.code x code maxLocals ret).before args0 about1 = true := code_word (m := ⟨1, 3⟩) (meth := k1m3) (c := k1c3) (by decide +kernel) rfl rfl rfl (by decide +kernel)
set_option maxRecDepth 65536 in
theorem w_c1 : (Jvm.Cond.code ({ cls := "com/example/riddle/riddle/xdm/AtomicTypeIsSubtypeOfPinLaw", name := "pick", desc := "(I)Lcom/example/riddle/riddle/xdm/AtomicType;" } : Jvm.MethodName) method_2_code (1 : Nat) (Option.some (Jvm.ClassFile.FieldType.object "com/example/riddle/riddle/xdm/AtomicType"))).before args0 about1 = true := code_word (m := ⟨1, 1⟩) (meth := k1m1) (c := k1c1) (by decide +kernel) rfl rfl rfl (by decide +kernel)
set_option maxRecDepth 65536 in
theorem w_c2 : (Jvm.Cond.code ({ cls := "com/example/riddle/riddle/xdm/AtomicType", name := "isSubtypeOf", desc := "(Lcom/example/riddle/riddle/xdm/AtomicType;)Z" } : Jvm.MethodName) prog_184_method_7_code (3 : Nat) (Option.some Jvm.ClassFile.FieldType.boolean)).before args0 about1 = true := code_word (m := ⟨7, 0⟩) (meth := k7m0) (c := k7c0) (by decide +kernel) rfl rfl rfl (by decide +kernel)
set_option maxRecDepth 65536 in
theorem w_c3 : (Jvm.Cond.code ({ cls := "com/example/riddle/riddle/xdm/AtomicTypeIsSubtypeOfPinLaw", name := "expected", desc := "(II)Z" } : Jvm.MethodName) method_3_code (2 : Nat) (Option.some Jvm.ClassFile.FieldType.boolean)).before args0 about1 = true := code_word (m := ⟨1, 2⟩) (meth := k1m2) (c := k1c2) (by decide +kernel) rfl rfl rfl (by decide +kernel)
def codes1 : List Jvm.Cond := [Jvm.Cond.code x code maxLocals ret, Jvm.Cond.code ({ cls := "com/example/riddle/riddle/xdm/AtomicTypeIsSubtypeOfPinLaw", name := "pick", desc := "(I)Lcom/example/riddle/riddle/xdm/AtomicType;" } : Jvm.MethodName) method_2_code (1 : Nat) (Option.some (Jvm.ClassFile.FieldType.object "com/example/riddle/riddle/xdm/AtomicType")), Jvm.Cond.code ({ cls := "com/example/riddle/riddle/xdm/AtomicType", name := "isSubtypeOf", desc := "(Lcom/example/riddle/riddle/xdm/AtomicType;)Z" } : Jvm.MethodName) prog_184_method_7_code (3 : Nat) (Option.some Jvm.ClassFile.FieldType.boolean), Jvm.Cond.code ({ cls := "com/example/riddle/riddle/xdm/AtomicTypeIsSubtypeOfPinLaw", name := "expected", desc := "(II)Z" } : Jvm.MethodName) method_3_code (2 : Nat) (Option.some Jvm.ClassFile.FieldType.boolean)]
set_option maxRecDepth 65536 in
theorem codes_eq : words1.filter isCode = codes1 := rfl
theorem w_codes : ∀ c ∈ words1.filter isCode, c.before args0 about1 = true := by
  rw [codes_eq]
  intro c hc
  simp only [codes1, List.mem_cons, List.not_mem_nil, or_false] at hc
  rcases hc with rfl | rfl | rfl | rfl
  · exact w_c0
  · exact w_c1
  · exact w_c2
  · exact w_c3
set_option maxRecDepth 65536 in
theorem w_t1 : (words1.take 24).all (fun c => isCode c || c.before args0 about1) = true := by decide +kernel
set_option maxRecDepth 65536 in
theorem w_t2 : (words1.drop 24).all (fun c => isCode c || c.before args0 about1) = true := by decide +kernel
theorem w_tables : (allAtoms (Jvm.Cond.code x code maxLocals ret :: tables_1)).before args0 about1 = true := by
  rw [allAtoms_all]
  show words1.all (fun c => c.before args0 about1) = true
  refine all_split ?_ w_codes
  rw [← List.take_append_drop 24 words1, List.all_append, w_t1, w_t2]
  rfl
set_option maxRecDepth 65536 in
theorem w_case : (Jvm.Cond.and given_1 narrow_1).before args0 about1 = true := by decide +kernel
theorem w_applies : (headSpec (Jvm.Cond.code x code maxLocals ret :: tables_1) room_1).applies x e0.platform about1 = true :=
  (Spec.applies_iff w_frames).mpr ⟨w_running, w_runnable, w_alone, w_named, w_hears, w_ripe, w_room, w_tables⟩
theorem atStart : AtStart classFile x code maxLocals ret World_1 tables_1 room_1 Calls_1 rest_1 Pre_1 launch0 p0 e0 about1 theMethod args0 below0 :=
  ⟨lists_1, trivial, launch0.admits_env _ _ _, launch0.least_env, fairChoices_fair.cas, fairChoices_fair.clock, w_frames, w_args, w_heap, w_applies, trivial, trivial, w_case⟩
end start1
theorem witness_1 : WitnessClaimed_1 := ⟨start1.p0, start1.e0, start1.about1, start1.theMethod, start1.args0, start1.below0, start1.atStart⟩
end Jvm.Pilot.@@N@@
