import JvmDerived
import JvmDerived.Pilot.@@N@@Statement
import JvmDerived.Pilot.@@N@@Code
set_option linter.unusedVariables false
set_option linter.unusedSimpArgs false
namespace Jvm.Pilot.@@N@@
open Jvm Jvm.ClassFile Sem Op Lib Jvm.Free Jvm.Stand Jvm.LawKit Jvm.RoadKit Bundle Jvm.Pilot.@@N@@.Jvm.D
theorem d1_0 : decode prog_60_method_2_code 0 = .ok (.iload_n 0, 1) := by decide +kernel
theorem d1_1 : decode prog_60_method_2_code 1 = .ok (.bipush 97, 2) := by decide +kernel
theorem d1_3 : decode prog_60_method_2_code 3 = .ok (.if_icmp .lt 9, 3) := by decide +kernel
theorem d1_6 : decode prog_60_method_2_code 6 = .ok (.iload_n 0, 1) := by decide +kernel
theorem d1_7 : decode prog_60_method_2_code 7 = .ok (.bipush 122, 2) := by decide +kernel
theorem d1_9 : decode prog_60_method_2_code 9 = .ok (.if_icmp .le 188, 3) := by decide +kernel
theorem d1_12 : decode prog_60_method_2_code 12 = .ok (.iload_n 0, 1) := by decide +kernel
theorem d1_13 : decode prog_60_method_2_code 13 = .ok (.bipush 65, 2) := by decide +kernel
theorem d1_15 : decode prog_60_method_2_code 15 = .ok (.if_icmp .lt 9, 3) := by decide +kernel
theorem d1_18 : decode prog_60_method_2_code 18 = .ok (.iload_n 0, 1) := by decide +kernel
theorem d1_19 : decode prog_60_method_2_code 19 = .ok (.bipush 90, 2) := by decide +kernel
theorem d1_21 : decode prog_60_method_2_code 21 = .ok (.if_icmp .le 176, 3) := by decide +kernel
theorem d1_24 : decode prog_60_method_2_code 24 = .ok (.iload_n 0, 1) := by decide +kernel
theorem d1_25 : decode prog_60_method_2_code 25 = .ok (.bipush 95, 2) := by decide +kernel
theorem d1_27 : decode prog_60_method_2_code 27 = .ok (.if_icmp .eq 170, 3) := by decide +kernel
theorem d1_30 : decode prog_60_method_2_code 30 = .ok (.iload_n 0, 1) := by decide +kernel
theorem d1_31 : decode prog_60_method_2_code 31 = .ok (.bipush 58, 2) := by decide +kernel
theorem d1_33 : decode prog_60_method_2_code 33 = .ok (.if_icmp .eq 164, 3) := by decide +kernel
theorem d1_36 : decode prog_60_method_2_code 36 = .ok (.iload_n 0, 1) := by decide +kernel
theorem d1_37 : decode prog_60_method_2_code 37 = .ok (.sipush 192, 3) := by decide +kernel
theorem d1_40 : decode prog_60_method_2_code 40 = .ok (.if_icmp .lt 10, 3) := by decide +kernel
theorem d1_43 : decode prog_60_method_2_code 43 = .ok (.iload_n 0, 1) := by decide +kernel
theorem d1_44 : decode prog_60_method_2_code 44 = .ok (.sipush 214, 3) := by decide +kernel
theorem d1_47 : decode prog_60_method_2_code 47 = .ok (.if_icmp .le 150, 3) := by decide +kernel
theorem d1_50 : decode prog_60_method_2_code 50 = .ok (.iload_n 0, 1) := by decide +kernel
theorem d1_51 : decode prog_60_method_2_code 51 = .ok (.sipush 216, 3) := by decide +kernel
theorem d1_54 : decode prog_60_method_2_code 54 = .ok (.if_icmp .lt 10, 3) := by decide +kernel
theorem d1_57 : decode prog_60_method_2_code 57 = .ok (.iload_n 0, 1) := by decide +kernel
theorem d1_58 : decode prog_60_method_2_code 58 = .ok (.sipush 246, 3) := by decide +kernel
theorem d1_61 : decode prog_60_method_2_code 61 = .ok (.if_icmp .le 136, 3) := by decide +kernel
theorem d1_64 : decode prog_60_method_2_code 64 = .ok (.iload_n 0, 1) := by decide +kernel
theorem d1_65 : decode prog_60_method_2_code 65 = .ok (.sipush 248, 3) := by decide +kernel
theorem d1_68 : decode prog_60_method_2_code 68 = .ok (.if_icmp .lt 10, 3) := by decide +kernel
theorem d1_71 : decode prog_60_method_2_code 71 = .ok (.iload_n 0, 1) := by decide +kernel
theorem d1_72 : decode prog_60_method_2_code 72 = .ok (.sipush 767, 3) := by decide +kernel
theorem d1_75 : decode prog_60_method_2_code 75 = .ok (.if_icmp .le 122, 3) := by decide +kernel
theorem d1_78 : decode prog_60_method_2_code 78 = .ok (.iload_n 0, 1) := by decide +kernel
theorem d1_79 : decode prog_60_method_2_code 79 = .ok (.sipush 880, 3) := by decide +kernel
theorem d1_82 : decode prog_60_method_2_code 82 = .ok (.if_icmp .lt 10, 3) := by decide +kernel
theorem d1_85 : decode prog_60_method_2_code 85 = .ok (.iload_n 0, 1) := by decide +kernel
theorem d1_86 : decode prog_60_method_2_code 86 = .ok (.sipush 893, 3) := by decide +kernel
theorem d1_89 : decode prog_60_method_2_code 89 = .ok (.if_icmp .le 108, 3) := by decide +kernel
theorem d1_92 : decode prog_60_method_2_code 92 = .ok (.iload_n 0, 1) := by decide +kernel
theorem d1_93 : decode prog_60_method_2_code 93 = .ok (.sipush 895, 3) := by decide +kernel
theorem d1_96 : decode prog_60_method_2_code 96 = .ok (.if_icmp .lt 10, 3) := by decide +kernel
theorem d1_99 : decode prog_60_method_2_code 99 = .ok (.iload_n 0, 1) := by decide +kernel
theorem d1_100 : decode prog_60_method_2_code 100 = .ok (.sipush 8191, 3) := by decide +kernel
theorem d1_103 : decode prog_60_method_2_code 103 = .ok (.if_icmp .le 94, 3) := by decide +kernel
theorem d1_106 : decode prog_60_method_2_code 106 = .ok (.iload_n 0, 1) := by decide +kernel
theorem d1_107 : decode prog_60_method_2_code 107 = .ok (.sipush 8204, 3) := by decide +kernel
theorem d1_110 : decode prog_60_method_2_code 110 = .ok (.if_icmp .eq 87, 3) := by decide +kernel
theorem d1_113 : decode prog_60_method_2_code 113 = .ok (.iload_n 0, 1) := by decide +kernel
theorem d1_114 : decode prog_60_method_2_code 114 = .ok (.sipush 8205, 3) := by decide +kernel
theorem d1_117 : decode prog_60_method_2_code 117 = .ok (.if_icmp .eq 80, 3) := by decide +kernel
theorem d1_120 : decode prog_60_method_2_code 120 = .ok (.iload_n 0, 1) := by decide +kernel
theorem d1_121 : decode prog_60_method_2_code 121 = .ok (.sipush 8304, 3) := by decide +kernel
theorem d1_124 : decode prog_60_method_2_code 124 = .ok (.if_icmp .lt 10, 3) := by decide +kernel
theorem d1_127 : decode prog_60_method_2_code 127 = .ok (.iload_n 0, 1) := by decide +kernel
theorem d1_128 : decode prog_60_method_2_code 128 = .ok (.sipush 8591, 3) := by decide +kernel
theorem d1_131 : decode prog_60_method_2_code 131 = .ok (.if_icmp .le 66, 3) := by decide +kernel
theorem d1_134 : decode prog_60_method_2_code 134 = .ok (.iload_n 0, 1) := by decide +kernel
theorem d1_135 : decode prog_60_method_2_code 135 = .ok (.sipush 11264, 3) := by decide +kernel
theorem d1_138 : decode prog_60_method_2_code 138 = .ok (.if_icmp .lt 10, 3) := by decide +kernel
theorem d1_141 : decode prog_60_method_2_code 141 = .ok (.iload_n 0, 1) := by decide +kernel
theorem d1_142 : decode prog_60_method_2_code 142 = .ok (.sipush 12271, 3) := by decide +kernel
theorem d1_145 : decode prog_60_method_2_code 145 = .ok (.if_icmp .le 52, 3) := by decide +kernel
theorem d1_148 : decode prog_60_method_2_code 148 = .ok (.iload_n 0, 1) := by decide +kernel
theorem d1_149 : decode prog_60_method_2_code 149 = .ok (.sipush 12289, 3) := by decide +kernel
theorem d1_152 : decode prog_60_method_2_code 152 = .ok (.if_icmp .lt 9, 3) := by decide +kernel
theorem d1_155 : decode prog_60_method_2_code 155 = .ok (.iload_n 0, 1) := by decide +kernel
theorem d1_156 : decode prog_60_method_2_code 156 = .ok (.ldc 7, 2) := by decide +kernel
theorem d1_158 : decode prog_60_method_2_code 158 = .ok (.if_icmp .le 39, 3) := by decide +kernel
theorem d1_161 : decode prog_60_method_2_code 161 = .ok (.iload_n 0, 1) := by decide +kernel
theorem d1_162 : decode prog_60_method_2_code 162 = .ok (.ldc 8, 2) := by decide +kernel
theorem d1_164 : decode prog_60_method_2_code 164 = .ok (.if_icmp .lt 9, 3) := by decide +kernel
theorem d1_167 : decode prog_60_method_2_code 167 = .ok (.iload_n 0, 1) := by decide +kernel
theorem d1_168 : decode prog_60_method_2_code 168 = .ok (.ldc 9, 2) := by decide +kernel
theorem d1_170 : decode prog_60_method_2_code 170 = .ok (.if_icmp .le 27, 3) := by decide +kernel
theorem d1_173 : decode prog_60_method_2_code 173 = .ok (.iload_n 0, 1) := by decide +kernel
theorem d1_174 : decode prog_60_method_2_code 174 = .ok (.ldc 10, 2) := by decide +kernel
theorem d1_176 : decode prog_60_method_2_code 176 = .ok (.if_icmp .lt 9, 3) := by decide +kernel
theorem d1_179 : decode prog_60_method_2_code 179 = .ok (.iload_n 0, 1) := by decide +kernel
theorem d1_180 : decode prog_60_method_2_code 180 = .ok (.ldc 11, 2) := by decide +kernel
theorem d1_182 : decode prog_60_method_2_code 182 = .ok (.if_icmp .le 15, 3) := by decide +kernel
theorem d1_185 : decode prog_60_method_2_code 185 = .ok (.iload_n 0, 1) := by decide +kernel
theorem d1_186 : decode prog_60_method_2_code 186 = .ok (.ldc 12, 2) := by decide +kernel
theorem d1_188 : decode prog_60_method_2_code 188 = .ok (.if_icmp .lt 13, 3) := by decide +kernel
theorem d1_191 : decode prog_60_method_2_code 191 = .ok (.iload_n 0, 1) := by decide +kernel
theorem d1_192 : decode prog_60_method_2_code 192 = .ok (.ldc 13, 2) := by decide +kernel
theorem d1_194 : decode prog_60_method_2_code 194 = .ok (.if_icmp .gt 7, 3) := by decide +kernel
theorem d1_197 : decode prog_60_method_2_code 197 = .ok (.iconst 1, 1) := by decide +kernel
theorem d1_198 : decode prog_60_method_2_code 198 = .ok (.goto 4, 3) := by decide +kernel
theorem d1_201 : decode prog_60_method_2_code 201 = .ok (.iconst 0, 1) := by decide +kernel
theorem d1_202 : decode prog_60_method_2_code 202 = .ok (.ireturn, 1) := by decide +kernel
theorem pn_rmS : plainName "com/example/summarium/summarium/cda/XmlNames" = true := by first | (simp [plainName, overriddenIn]; done) | decide +kernel
theorem ef_rmS (m : MethodId) (p1 : Int32) : entryFrame m #[(.int p1)] 1 = (mkF m 0 #[.val (.int p1)] []) := by first | (simp [entryFrame, mkF, argsToLocals, Value.category]; done) | rfl
def own_ns_0_1 (p1 : Int32) : Int32 := (1 : Int32)
def own_ns_0_2 (p1 : Int32) : Int32 := (0 : Int32)
def own_ns_0_3 (p1 : Int32) : Int32 := if (983039 : Int32) < p1 then own_ns_0_2 p1 else own_ns_0_1 p1
def own_ns_0_4 (p1 : Int32) : Int32 := if p1 < (65536 : Int32) then own_ns_0_2 p1 else own_ns_0_3 p1
def own_ns_0_5 (p1 : Int32) : Int32 := if (65533 : Int32) < p1 then own_ns_0_4 p1 else own_ns_0_1 p1
def own_ns_0_6 (p1 : Int32) : Int32 := if p1 < (65008 : Int32) then own_ns_0_4 p1 else own_ns_0_5 p1
def own_ns_0_7 (p1 : Int32) : Int32 := if (64975 : Int32) < p1 then own_ns_0_6 p1 else own_ns_0_1 p1
def own_ns_0_8 (p1 : Int32) : Int32 := if p1 < (63744 : Int32) then own_ns_0_6 p1 else own_ns_0_7 p1
def own_ns_0_9 (p1 : Int32) : Int32 := if (55295 : Int32) < p1 then own_ns_0_8 p1 else own_ns_0_1 p1
def own_ns_0_10 (p1 : Int32) : Int32 := if p1 < (12289 : Int32) then own_ns_0_8 p1 else own_ns_0_9 p1
def own_ns_0_11 (p1 : Int32) : Int32 := if (12271 : Int32) < p1 then own_ns_0_10 p1 else own_ns_0_1 p1
def own_ns_0_12 (p1 : Int32) : Int32 := if p1 < (11264 : Int32) then own_ns_0_10 p1 else own_ns_0_11 p1
def own_ns_0_13 (p1 : Int32) : Int32 := if (8591 : Int32) < p1 then own_ns_0_12 p1 else own_ns_0_1 p1
def own_ns_0_14 (p1 : Int32) : Int32 := if p1 < (8304 : Int32) then own_ns_0_12 p1 else own_ns_0_13 p1
def own_ns_0_15 (p1 : Int32) : Int32 := if p1 = (8205 : Int32) then own_ns_0_1 p1 else own_ns_0_14 p1
def own_ns_0_16 (p1 : Int32) : Int32 := if p1 = (8204 : Int32) then own_ns_0_1 p1 else own_ns_0_15 p1
def own_ns_0_17 (p1 : Int32) : Int32 := if (8191 : Int32) < p1 then own_ns_0_16 p1 else own_ns_0_1 p1
def own_ns_0_18 (p1 : Int32) : Int32 := if p1 < (895 : Int32) then own_ns_0_16 p1 else own_ns_0_17 p1
def own_ns_0_19 (p1 : Int32) : Int32 := if (893 : Int32) < p1 then own_ns_0_18 p1 else own_ns_0_1 p1
def own_ns_0_20 (p1 : Int32) : Int32 := if p1 < (880 : Int32) then own_ns_0_18 p1 else own_ns_0_19 p1
def own_ns_0_21 (p1 : Int32) : Int32 := if (767 : Int32) < p1 then own_ns_0_20 p1 else own_ns_0_1 p1
def own_ns_0_22 (p1 : Int32) : Int32 := if p1 < (248 : Int32) then own_ns_0_20 p1 else own_ns_0_21 p1
def own_ns_0_23 (p1 : Int32) : Int32 := if (246 : Int32) < p1 then own_ns_0_22 p1 else own_ns_0_1 p1
def own_ns_0_24 (p1 : Int32) : Int32 := if p1 < (216 : Int32) then own_ns_0_22 p1 else own_ns_0_23 p1
def own_ns_0_25 (p1 : Int32) : Int32 := if (214 : Int32) < p1 then own_ns_0_24 p1 else own_ns_0_1 p1
def own_ns_0_26 (p1 : Int32) : Int32 := if p1 < (192 : Int32) then own_ns_0_24 p1 else own_ns_0_25 p1
def own_ns_0_27 (p1 : Int32) : Int32 := if p1 = (58 : Int32) then own_ns_0_1 p1 else own_ns_0_26 p1
def own_ns_0_28 (p1 : Int32) : Int32 := if p1 = (95 : Int32) then own_ns_0_1 p1 else own_ns_0_27 p1
def own_ns_0_29 (p1 : Int32) : Int32 := if (90 : Int32) < p1 then own_ns_0_28 p1 else own_ns_0_1 p1
def own_ns_0_30 (p1 : Int32) : Int32 := if p1 < (65 : Int32) then own_ns_0_28 p1 else own_ns_0_29 p1
def own_ns_0_31 (p1 : Int32) : Int32 := if (122 : Int32) < p1 then own_ns_0_30 p1 else own_ns_0_1 p1
def own_ns_0_32 (p1 : Int32) : Int32 := if p1 < (97 : Int32) then own_ns_0_30 p1 else own_ns_0_31 p1
def Q_rmS (Z : State) (p1 : Int32)  (h0 : Heap) (n0 : Nat) (v : Option Value) (h : Heap) (L : List Loc) : Prop := v = some (.int (own_ns_0_32 p1)) ∧ Fr n0 L ∧ h = h0
set_option maxRecDepth 65536 in
set_option maxHeartbeats 40000000 in
theorem rmS (l : Launch) (Z : State) (a0 : Array Value) (hw : ∀ d ∈ tables_1, d.before a0 Z = true) (ws : List Jvm.Cond) (p1 : Int32)  (h0 : Heap) (n0 : Nat) (Z0 : n0 ≤ h0.size)  :
    MetFree l (⟨"com/example/summarium/summarium/cda/XmlNames", "isNameStart", "(I)Z"⟩ : MethodName) (head1 (Jvm.Cond.code (⟨"com/example/summarium/summarium/cda/XmlNames", "isNameStart", "(I)Z"⟩ : MethodName) prog_60_method_2_code 1 (some .boolean) :: ws) ({ frames := 0, cells := 0, slots := 0, locals := 0 } : Room)) (fun a U => a = #[(.int p1)] ∧ Z.Warmed39 U.vm ∧ U.heap = h0) (fun _ _ _ _ _ => True) (fun _ U o U' => ∃ v L, o = .returned v ∧ Q_rmS Z p1 h0 n0 v U'.heap L ∧ FrameEnd U o U' L ({ frames := 0, cells := 0, slots := 0, locals := 0 } : Room).cells ({ frames := 0, cells := 0, slots := 0, locals := 0 } : Room).slots) := by
  refine MetFree.of_bodySF (plainFor_of_name pn_rmS) hisR ?_
  intro p e s m args below meth c s₁ Bd hml0 hP hK
  obtain ⟨rfl, hZ, hh⟩ := hP
  have hx := Bd.exec
  have hby := Bd.bytes
  have hml : c.maxLocals = 1 := hml0
  have hown : s.vm.findClass "com/example/summarium/summarium/cda/XmlNames" = some m.cls := findClass_of_methodNamed Bd.named
  have hnm := (name_of_methodNamed Bd.named Bd.method).1
  have X0 : Stand p l e ({ frames := 0, cells := 0, slots := 0, locals := 0 } : Room) s m #[(.int p1)] below meth c s₁ [] 0 0 := Stand.of_body Bd
  have e0 : s₁.heap = h0 := by rw [← hh, Bd.state]; rfl
  have N0 := Fr.nil n0
  have pre0 : Steps p.tables e below (s₁.setTop (entryFrame m #[(.int p1)] 1)) (s₁.setTop (mkF m 0 #[.val (.int p1)] [])) := castTop (ef_rmS m p1) (Steps.refl _)
  obtain ⟨v_ns_0, h_v_ns_0⟩ : ∃ z, z = own_ns_0_32 p1 := ⟨_, rfl⟩
  obtain ⟨fs, hr, hrun, hended, hW, hsame⟩ := X0.leave (v := some (.int v_ns_0)) (fun h => by rw [Bd.returns] at h; cases h)
  have Bns_1 (hv0 : v_ns_0 = own_ns_0_1 p1) : Steps p.tables e below (s₁.setTop (mkF m 197 #[.val (.int p1)] [])) (s₁.setFrames fs) := by
    have hw0 : v_ns_0 = (1 : Int32) := hv0
    rw [hw0] at hr
    show Steps p.tables e below (s₁.setTop (mkF m 197 #[.val (.int p1)] [])) _
    refine XS.iconst X0.here hx rfl (hb hby d1_197) ?_
    show Steps p.tables e below (s₁.setTop (mkF m 198 #[.val (.int p1)] [(.int (1 : Int32))])) _
    refine XS.goto X0.here hx rfl (pc0 := 198) (pc' := 202) rfl (hb hby d1_198) (by decide) (by decide) ?_
    show Steps p.tables e below (s₁.setTop (mkF m 202 #[.val (.int p1)] [(.int (1 : Int32))])) _
    exact retN X0 hx (t := .boolean) Bd.returns (by simp) (hb hby d1_202) hr
  have Bns_2 (hv0 : v_ns_0 = own_ns_0_2 p1) : Steps p.tables e below (s₁.setTop (mkF m 201 #[.val (.int p1)] [])) (s₁.setFrames fs) := by
    have hw0 : v_ns_0 = (0 : Int32) := hv0
    rw [hw0] at hr
    show Steps p.tables e below (s₁.setTop (mkF m 201 #[.val (.int p1)] [])) _
    refine XS.iconst X0.here hx rfl (hb hby d1_201) ?_
    show Steps p.tables e below (s₁.setTop (mkF m 202 #[.val (.int p1)] [(.int (0 : Int32))])) _
    exact retN X0 hx (t := .boolean) Bd.returns (by simp) (hb hby d1_202) hr
  have Bns_3 (hv0 : v_ns_0 = own_ns_0_3 p1) : Steps p.tables e below (s₁.setTop (mkF m 191 #[.val (.int p1)] [])) (s₁.setFrames fs) := by
    show Steps p.tables e below (s₁.setTop (mkF m 191 #[.val (.int p1)] [])) _
    refine XS.iloadN X0.here hx rfl (hb hby d1_191) rfl ?_
    show Steps p.tables e below (s₁.setTop (mkF m 192 #[.val (.int p1)] [(.int p1)])) _
    refine X0.ldcInt hx hown (mvT hZ (hw _ (List.mem_of_getElem? (i := 21) rfl))) (g := (mkF m 192 #[.val (.int p1)] [(.int p1)])) rfl (hb hby d1_192) _ ?_
    show Steps p.tables e below (s₁.setTop (mkF m 194 #[.val (.int p1)] [(.int (983039 : Int32)), (.int p1)])) _
    by_cases h194 : (983039 : Int32) < p1
    · refine XS.icmpYes X0.here hx rfl (pc0 := 194) (pc' := 201) rfl (hb hby d1_194) rfl (tlt h194).2.2.1 (by decide) (by decide) ?_
      exact Bns_2 (hv0.trans (if_pos h194))
    · refine XS.icmpNo X0.here hx rfl (hb hby d1_194) rfl (flt h194).2.2.1 ?_
      exact Bns_1 (hv0.trans (if_neg h194))
  have Bns_4 (hv0 : v_ns_0 = own_ns_0_4 p1) : Steps p.tables e below (s₁.setTop (mkF m 185 #[.val (.int p1)] [])) (s₁.setFrames fs) := by
    show Steps p.tables e below (s₁.setTop (mkF m 185 #[.val (.int p1)] [])) _
    refine XS.iloadN X0.here hx rfl (hb hby d1_185) rfl ?_
    show Steps p.tables e below (s₁.setTop (mkF m 186 #[.val (.int p1)] [(.int p1)])) _
    refine X0.ldcInt hx hown (mvT hZ (hw _ (List.mem_of_getElem? (i := 17) rfl))) (g := (mkF m 186 #[.val (.int p1)] [(.int p1)])) rfl (hb hby d1_186) _ ?_
    show Steps p.tables e below (s₁.setTop (mkF m 188 #[.val (.int p1)] [(.int (65536 : Int32)), (.int p1)])) _
    by_cases h188 : p1 < (65536 : Int32)
    · refine XS.icmpYes X0.here hx rfl (pc0 := 188) (pc' := 201) rfl (hb hby d1_188) rfl (tlt h188).1 (by decide) (by decide) ?_
      exact Bns_2 (hv0.trans (if_pos h188))
    · refine XS.icmpNo X0.here hx rfl (hb hby d1_188) rfl (flt h188).1 ?_
      exact Bns_3 (hv0.trans (if_neg h188))
  have Bns_5 (hv0 : v_ns_0 = own_ns_0_5 p1) : Steps p.tables e below (s₁.setTop (mkF m 179 #[.val (.int p1)] [])) (s₁.setFrames fs) := by
    show Steps p.tables e below (s₁.setTop (mkF m 179 #[.val (.int p1)] [])) _
    refine XS.iloadN X0.here hx rfl (hb hby d1_179) rfl ?_
    show Steps p.tables e below (s₁.setTop (mkF m 180 #[.val (.int p1)] [(.int p1)])) _
    refine X0.ldcInt hx hown (mvT hZ (hw _ (List.mem_of_getElem? (i := 20) rfl))) (g := (mkF m 180 #[.val (.int p1)] [(.int p1)])) rfl (hb hby d1_180) _ ?_
    show Steps p.tables e below (s₁.setTop (mkF m 182 #[.val (.int p1)] [(.int (65533 : Int32)), (.int p1)])) _
    by_cases h182 : (65533 : Int32) < p1
    · refine XS.icmpNo X0.here hx rfl (hb hby d1_182) rfl (tlt h182).2.2.2 ?_
      exact Bns_4 (hv0.trans (if_pos h182))
    · refine XS.icmpYes X0.here hx rfl (pc0 := 182) (pc' := 197) rfl (hb hby d1_182) rfl (flt h182).2.2.2 (by decide) (by decide) ?_
      exact Bns_1 (hv0.trans (if_neg h182))
  have Bns_6 (hv0 : v_ns_0 = own_ns_0_6 p1) : Steps p.tables e below (s₁.setTop (mkF m 173 #[.val (.int p1)] [])) (s₁.setFrames fs) := by
    show Steps p.tables e below (s₁.setTop (mkF m 173 #[.val (.int p1)] [])) _
    refine XS.iloadN X0.here hx rfl (hb hby d1_173) rfl ?_
    show Steps p.tables e below (s₁.setTop (mkF m 174 #[.val (.int p1)] [(.int p1)])) _
    refine X0.ldcInt hx hown (mvT hZ (hw _ (List.mem_of_getElem? (i := 16) rfl))) (g := (mkF m 174 #[.val (.int p1)] [(.int p1)])) rfl (hb hby d1_174) _ ?_
    show Steps p.tables e below (s₁.setTop (mkF m 176 #[.val (.int p1)] [(.int (65008 : Int32)), (.int p1)])) _
    by_cases h176 : p1 < (65008 : Int32)
    · refine XS.icmpYes X0.here hx rfl (pc0 := 176) (pc' := 185) rfl (hb hby d1_176) rfl (tlt h176).1 (by decide) (by decide) ?_
      exact Bns_4 (hv0.trans (if_pos h176))
    · refine XS.icmpNo X0.here hx rfl (hb hby d1_176) rfl (flt h176).1 ?_
      exact Bns_5 (hv0.trans (if_neg h176))
  have Bns_7 (hv0 : v_ns_0 = own_ns_0_7 p1) : Steps p.tables e below (s₁.setTop (mkF m 167 #[.val (.int p1)] [])) (s₁.setFrames fs) := by
    show Steps p.tables e below (s₁.setTop (mkF m 167 #[.val (.int p1)] [])) _
    refine XS.iloadN X0.here hx rfl (hb hby d1_167) rfl ?_
    show Steps p.tables e below (s₁.setTop (mkF m 168 #[.val (.int p1)] [(.int p1)])) _
    refine X0.ldcInt hx hown (mvT hZ (hw _ (List.mem_of_getElem? (i := 19) rfl))) (g := (mkF m 168 #[.val (.int p1)] [(.int p1)])) rfl (hb hby d1_168) _ ?_
    show Steps p.tables e below (s₁.setTop (mkF m 170 #[.val (.int p1)] [(.int (64975 : Int32)), (.int p1)])) _
    by_cases h170 : (64975 : Int32) < p1
    · refine XS.icmpNo X0.here hx rfl (hb hby d1_170) rfl (tlt h170).2.2.2 ?_
      exact Bns_6 (hv0.trans (if_pos h170))
    · refine XS.icmpYes X0.here hx rfl (pc0 := 170) (pc' := 197) rfl (hb hby d1_170) rfl (flt h170).2.2.2 (by decide) (by decide) ?_
      exact Bns_1 (hv0.trans (if_neg h170))
  have Bns_8 (hv0 : v_ns_0 = own_ns_0_8 p1) : Steps p.tables e below (s₁.setTop (mkF m 161 #[.val (.int p1)] [])) (s₁.setFrames fs) := by
    show Steps p.tables e below (s₁.setTop (mkF m 161 #[.val (.int p1)] [])) _
    refine XS.iloadN X0.here hx rfl (hb hby d1_161) rfl ?_
    show Steps p.tables e below (s₁.setTop (mkF m 162 #[.val (.int p1)] [(.int p1)])) _
    refine X0.ldcInt hx hown (mvT hZ (hw _ (List.mem_of_getElem? (i := 15) rfl))) (g := (mkF m 162 #[.val (.int p1)] [(.int p1)])) rfl (hb hby d1_162) _ ?_
    show Steps p.tables e below (s₁.setTop (mkF m 164 #[.val (.int p1)] [(.int (63744 : Int32)), (.int p1)])) _
    by_cases h164 : p1 < (63744 : Int32)
    · refine XS.icmpYes X0.here hx rfl (pc0 := 164) (pc' := 173) rfl (hb hby d1_164) rfl (tlt h164).1 (by decide) (by decide) ?_
      exact Bns_6 (hv0.trans (if_pos h164))
    · refine XS.icmpNo X0.here hx rfl (hb hby d1_164) rfl (flt h164).1 ?_
      exact Bns_7 (hv0.trans (if_neg h164))
  have Bns_9 (hv0 : v_ns_0 = own_ns_0_9 p1) : Steps p.tables e below (s₁.setTop (mkF m 155 #[.val (.int p1)] [])) (s₁.setFrames fs) := by
    show Steps p.tables e below (s₁.setTop (mkF m 155 #[.val (.int p1)] [])) _
    refine XS.iloadN X0.here hx rfl (hb hby d1_155) rfl ?_
    show Steps p.tables e below (s₁.setTop (mkF m 156 #[.val (.int p1)] [(.int p1)])) _
    refine X0.ldcInt hx hown (mvT hZ (hw _ (List.mem_of_getElem? (i := 18) rfl))) (g := (mkF m 156 #[.val (.int p1)] [(.int p1)])) rfl (hb hby d1_156) _ ?_
    show Steps p.tables e below (s₁.setTop (mkF m 158 #[.val (.int p1)] [(.int (55295 : Int32)), (.int p1)])) _
    by_cases h158 : (55295 : Int32) < p1
    · refine XS.icmpNo X0.here hx rfl (hb hby d1_158) rfl (tlt h158).2.2.2 ?_
      exact Bns_8 (hv0.trans (if_pos h158))
    · refine XS.icmpYes X0.here hx rfl (pc0 := 158) (pc' := 197) rfl (hb hby d1_158) rfl (flt h158).2.2.2 (by decide) (by decide) ?_
      exact Bns_1 (hv0.trans (if_neg h158))
  have Bns_10 (hv0 : v_ns_0 = own_ns_0_10 p1) : Steps p.tables e below (s₁.setTop (mkF m 148 #[.val (.int p1)] [])) (s₁.setFrames fs) := by
    show Steps p.tables e below (s₁.setTop (mkF m 148 #[.val (.int p1)] [])) _
    refine XS.iloadN X0.here hx rfl (hb hby d1_148) rfl ?_
    show Steps p.tables e below (s₁.setTop (mkF m 149 #[.val (.int p1)] [(.int p1)])) _
    refine XS.sipush X0.here hx rfl (hb hby d1_149) ?_
    show Steps p.tables e below (s₁.setTop (mkF m 152 #[.val (.int p1)] [(.int (12289 : Int32)), (.int p1)])) _
    by_cases h152 : p1 < (12289 : Int32)
    · refine XS.icmpYes X0.here hx rfl (pc0 := 152) (pc' := 161) rfl (hb hby d1_152) rfl (tlt h152).1 (by decide) (by decide) ?_
      exact Bns_8 (hv0.trans (if_pos h152))
    · refine XS.icmpNo X0.here hx rfl (hb hby d1_152) rfl (flt h152).1 ?_
      exact Bns_9 (hv0.trans (if_neg h152))
  have Bns_11 (hv0 : v_ns_0 = own_ns_0_11 p1) : Steps p.tables e below (s₁.setTop (mkF m 141 #[.val (.int p1)] [])) (s₁.setFrames fs) := by
    show Steps p.tables e below (s₁.setTop (mkF m 141 #[.val (.int p1)] [])) _
    refine XS.iloadN X0.here hx rfl (hb hby d1_141) rfl ?_
    show Steps p.tables e below (s₁.setTop (mkF m 142 #[.val (.int p1)] [(.int p1)])) _
    refine XS.sipush X0.here hx rfl (hb hby d1_142) ?_
    show Steps p.tables e below (s₁.setTop (mkF m 145 #[.val (.int p1)] [(.int (12271 : Int32)), (.int p1)])) _
    by_cases h145 : (12271 : Int32) < p1
    · refine XS.icmpNo X0.here hx rfl (hb hby d1_145) rfl (tlt h145).2.2.2 ?_
      exact Bns_10 (hv0.trans (if_pos h145))
    · refine XS.icmpYes X0.here hx rfl (pc0 := 145) (pc' := 197) rfl (hb hby d1_145) rfl (flt h145).2.2.2 (by decide) (by decide) ?_
      exact Bns_1 (hv0.trans (if_neg h145))
  have Bns_12 (hv0 : v_ns_0 = own_ns_0_12 p1) : Steps p.tables e below (s₁.setTop (mkF m 134 #[.val (.int p1)] [])) (s₁.setFrames fs) := by
    show Steps p.tables e below (s₁.setTop (mkF m 134 #[.val (.int p1)] [])) _
    refine XS.iloadN X0.here hx rfl (hb hby d1_134) rfl ?_
    show Steps p.tables e below (s₁.setTop (mkF m 135 #[.val (.int p1)] [(.int p1)])) _
    refine XS.sipush X0.here hx rfl (hb hby d1_135) ?_
    show Steps p.tables e below (s₁.setTop (mkF m 138 #[.val (.int p1)] [(.int (11264 : Int32)), (.int p1)])) _
    by_cases h138 : p1 < (11264 : Int32)
    · refine XS.icmpYes X0.here hx rfl (pc0 := 138) (pc' := 148) rfl (hb hby d1_138) rfl (tlt h138).1 (by decide) (by decide) ?_
      exact Bns_10 (hv0.trans (if_pos h138))
    · refine XS.icmpNo X0.here hx rfl (hb hby d1_138) rfl (flt h138).1 ?_
      exact Bns_11 (hv0.trans (if_neg h138))
  have Bns_13 (hv0 : v_ns_0 = own_ns_0_13 p1) : Steps p.tables e below (s₁.setTop (mkF m 127 #[.val (.int p1)] [])) (s₁.setFrames fs) := by
    show Steps p.tables e below (s₁.setTop (mkF m 127 #[.val (.int p1)] [])) _
    refine XS.iloadN X0.here hx rfl (hb hby d1_127) rfl ?_
    show Steps p.tables e below (s₁.setTop (mkF m 128 #[.val (.int p1)] [(.int p1)])) _
    refine XS.sipush X0.here hx rfl (hb hby d1_128) ?_
    show Steps p.tables e below (s₁.setTop (mkF m 131 #[.val (.int p1)] [(.int (8591 : Int32)), (.int p1)])) _
    by_cases h131 : (8591 : Int32) < p1
    · refine XS.icmpNo X0.here hx rfl (hb hby d1_131) rfl (tlt h131).2.2.2 ?_
      exact Bns_12 (hv0.trans (if_pos h131))
    · refine XS.icmpYes X0.here hx rfl (pc0 := 131) (pc' := 197) rfl (hb hby d1_131) rfl (flt h131).2.2.2 (by decide) (by decide) ?_
      exact Bns_1 (hv0.trans (if_neg h131))
  have Bns_14 (hv0 : v_ns_0 = own_ns_0_14 p1) : Steps p.tables e below (s₁.setTop (mkF m 120 #[.val (.int p1)] [])) (s₁.setFrames fs) := by
    show Steps p.tables e below (s₁.setTop (mkF m 120 #[.val (.int p1)] [])) _
    refine XS.iloadN X0.here hx rfl (hb hby d1_120) rfl ?_
    show Steps p.tables e below (s₁.setTop (mkF m 121 #[.val (.int p1)] [(.int p1)])) _
    refine XS.sipush X0.here hx rfl (hb hby d1_121) ?_
    show Steps p.tables e below (s₁.setTop (mkF m 124 #[.val (.int p1)] [(.int (8304 : Int32)), (.int p1)])) _
    by_cases h124 : p1 < (8304 : Int32)
    · refine XS.icmpYes X0.here hx rfl (pc0 := 124) (pc' := 134) rfl (hb hby d1_124) rfl (tlt h124).1 (by decide) (by decide) ?_
      exact Bns_12 (hv0.trans (if_pos h124))
    · refine XS.icmpNo X0.here hx rfl (hb hby d1_124) rfl (flt h124).1 ?_
      exact Bns_13 (hv0.trans (if_neg h124))
  have Bns_15 (hv0 : v_ns_0 = own_ns_0_15 p1) : Steps p.tables e below (s₁.setTop (mkF m 113 #[.val (.int p1)] [])) (s₁.setFrames fs) := by
    show Steps p.tables e below (s₁.setTop (mkF m 113 #[.val (.int p1)] [])) _
    refine XS.iloadN X0.here hx rfl (hb hby d1_113) rfl ?_
    show Steps p.tables e below (s₁.setTop (mkF m 114 #[.val (.int p1)] [(.int p1)])) _
    refine XS.sipush X0.here hx rfl (hb hby d1_114) ?_
    show Steps p.tables e below (s₁.setTop (mkF m 117 #[.val (.int p1)] [(.int (8205 : Int32)), (.int p1)])) _
    by_cases h117 : p1 = (8205 : Int32)
    · refine XS.icmpYes X0.here hx rfl (pc0 := 117) (pc' := 197) rfl (hb hby d1_117) rfl (teq h117).1 (by decide) (by decide) ?_
      exact Bns_1 (hv0.trans (if_pos h117))
    · refine XS.icmpNo X0.here hx rfl (hb hby d1_117) rfl (feq h117).1 ?_
      exact Bns_14 (hv0.trans (if_neg h117))
  have Bns_16 (hv0 : v_ns_0 = own_ns_0_16 p1) : Steps p.tables e below (s₁.setTop (mkF m 106 #[.val (.int p1)] [])) (s₁.setFrames fs) := by
    show Steps p.tables e below (s₁.setTop (mkF m 106 #[.val (.int p1)] [])) _
    refine XS.iloadN X0.here hx rfl (hb hby d1_106) rfl ?_
    show Steps p.tables e below (s₁.setTop (mkF m 107 #[.val (.int p1)] [(.int p1)])) _
    refine XS.sipush X0.here hx rfl (hb hby d1_107) ?_
    show Steps p.tables e below (s₁.setTop (mkF m 110 #[.val (.int p1)] [(.int (8204 : Int32)), (.int p1)])) _
    by_cases h110 : p1 = (8204 : Int32)
    · refine XS.icmpYes X0.here hx rfl (pc0 := 110) (pc' := 197) rfl (hb hby d1_110) rfl (teq h110).1 (by decide) (by decide) ?_
      exact Bns_1 (hv0.trans (if_pos h110))
    · refine XS.icmpNo X0.here hx rfl (hb hby d1_110) rfl (feq h110).1 ?_
      exact Bns_15 (hv0.trans (if_neg h110))
  have Bns_17 (hv0 : v_ns_0 = own_ns_0_17 p1) : Steps p.tables e below (s₁.setTop (mkF m 99 #[.val (.int p1)] [])) (s₁.setFrames fs) := by
    show Steps p.tables e below (s₁.setTop (mkF m 99 #[.val (.int p1)] [])) _
    refine XS.iloadN X0.here hx rfl (hb hby d1_99) rfl ?_
    show Steps p.tables e below (s₁.setTop (mkF m 100 #[.val (.int p1)] [(.int p1)])) _
    refine XS.sipush X0.here hx rfl (hb hby d1_100) ?_
    show Steps p.tables e below (s₁.setTop (mkF m 103 #[.val (.int p1)] [(.int (8191 : Int32)), (.int p1)])) _
    by_cases h103 : (8191 : Int32) < p1
    · refine XS.icmpNo X0.here hx rfl (hb hby d1_103) rfl (tlt h103).2.2.2 ?_
      exact Bns_16 (hv0.trans (if_pos h103))
    · refine XS.icmpYes X0.here hx rfl (pc0 := 103) (pc' := 197) rfl (hb hby d1_103) rfl (flt h103).2.2.2 (by decide) (by decide) ?_
      exact Bns_1 (hv0.trans (if_neg h103))
  have Bns_18 (hv0 : v_ns_0 = own_ns_0_18 p1) : Steps p.tables e below (s₁.setTop (mkF m 92 #[.val (.int p1)] [])) (s₁.setFrames fs) := by
    show Steps p.tables e below (s₁.setTop (mkF m 92 #[.val (.int p1)] [])) _
    refine XS.iloadN X0.here hx rfl (hb hby d1_92) rfl ?_
    show Steps p.tables e below (s₁.setTop (mkF m 93 #[.val (.int p1)] [(.int p1)])) _
    refine XS.sipush X0.here hx rfl (hb hby d1_93) ?_
    show Steps p.tables e below (s₁.setTop (mkF m 96 #[.val (.int p1)] [(.int (895 : Int32)), (.int p1)])) _
    by_cases h96 : p1 < (895 : Int32)
    · refine XS.icmpYes X0.here hx rfl (pc0 := 96) (pc' := 106) rfl (hb hby d1_96) rfl (tlt h96).1 (by decide) (by decide) ?_
      exact Bns_16 (hv0.trans (if_pos h96))
    · refine XS.icmpNo X0.here hx rfl (hb hby d1_96) rfl (flt h96).1 ?_
      exact Bns_17 (hv0.trans (if_neg h96))
  have Bns_19 (hv0 : v_ns_0 = own_ns_0_19 p1) : Steps p.tables e below (s₁.setTop (mkF m 85 #[.val (.int p1)] [])) (s₁.setFrames fs) := by
    show Steps p.tables e below (s₁.setTop (mkF m 85 #[.val (.int p1)] [])) _
    refine XS.iloadN X0.here hx rfl (hb hby d1_85) rfl ?_
    show Steps p.tables e below (s₁.setTop (mkF m 86 #[.val (.int p1)] [(.int p1)])) _
    refine XS.sipush X0.here hx rfl (hb hby d1_86) ?_
    show Steps p.tables e below (s₁.setTop (mkF m 89 #[.val (.int p1)] [(.int (893 : Int32)), (.int p1)])) _
    by_cases h89 : (893 : Int32) < p1
    · refine XS.icmpNo X0.here hx rfl (hb hby d1_89) rfl (tlt h89).2.2.2 ?_
      exact Bns_18 (hv0.trans (if_pos h89))
    · refine XS.icmpYes X0.here hx rfl (pc0 := 89) (pc' := 197) rfl (hb hby d1_89) rfl (flt h89).2.2.2 (by decide) (by decide) ?_
      exact Bns_1 (hv0.trans (if_neg h89))
  have Bns_20 (hv0 : v_ns_0 = own_ns_0_20 p1) : Steps p.tables e below (s₁.setTop (mkF m 78 #[.val (.int p1)] [])) (s₁.setFrames fs) := by
    show Steps p.tables e below (s₁.setTop (mkF m 78 #[.val (.int p1)] [])) _
    refine XS.iloadN X0.here hx rfl (hb hby d1_78) rfl ?_
    show Steps p.tables e below (s₁.setTop (mkF m 79 #[.val (.int p1)] [(.int p1)])) _
    refine XS.sipush X0.here hx rfl (hb hby d1_79) ?_
    show Steps p.tables e below (s₁.setTop (mkF m 82 #[.val (.int p1)] [(.int (880 : Int32)), (.int p1)])) _
    by_cases h82 : p1 < (880 : Int32)
    · refine XS.icmpYes X0.here hx rfl (pc0 := 82) (pc' := 92) rfl (hb hby d1_82) rfl (tlt h82).1 (by decide) (by decide) ?_
      exact Bns_18 (hv0.trans (if_pos h82))
    · refine XS.icmpNo X0.here hx rfl (hb hby d1_82) rfl (flt h82).1 ?_
      exact Bns_19 (hv0.trans (if_neg h82))
  have Bns_21 (hv0 : v_ns_0 = own_ns_0_21 p1) : Steps p.tables e below (s₁.setTop (mkF m 71 #[.val (.int p1)] [])) (s₁.setFrames fs) := by
    show Steps p.tables e below (s₁.setTop (mkF m 71 #[.val (.int p1)] [])) _
    refine XS.iloadN X0.here hx rfl (hb hby d1_71) rfl ?_
    show Steps p.tables e below (s₁.setTop (mkF m 72 #[.val (.int p1)] [(.int p1)])) _
    refine XS.sipush X0.here hx rfl (hb hby d1_72) ?_
    show Steps p.tables e below (s₁.setTop (mkF m 75 #[.val (.int p1)] [(.int (767 : Int32)), (.int p1)])) _
    by_cases h75 : (767 : Int32) < p1
    · refine XS.icmpNo X0.here hx rfl (hb hby d1_75) rfl (tlt h75).2.2.2 ?_
      exact Bns_20 (hv0.trans (if_pos h75))
    · refine XS.icmpYes X0.here hx rfl (pc0 := 75) (pc' := 197) rfl (hb hby d1_75) rfl (flt h75).2.2.2 (by decide) (by decide) ?_
      exact Bns_1 (hv0.trans (if_neg h75))
  have Bns_22 (hv0 : v_ns_0 = own_ns_0_22 p1) : Steps p.tables e below (s₁.setTop (mkF m 64 #[.val (.int p1)] [])) (s₁.setFrames fs) := by
    show Steps p.tables e below (s₁.setTop (mkF m 64 #[.val (.int p1)] [])) _
    refine XS.iloadN X0.here hx rfl (hb hby d1_64) rfl ?_
    show Steps p.tables e below (s₁.setTop (mkF m 65 #[.val (.int p1)] [(.int p1)])) _
    refine XS.sipush X0.here hx rfl (hb hby d1_65) ?_
    show Steps p.tables e below (s₁.setTop (mkF m 68 #[.val (.int p1)] [(.int (248 : Int32)), (.int p1)])) _
    by_cases h68 : p1 < (248 : Int32)
    · refine XS.icmpYes X0.here hx rfl (pc0 := 68) (pc' := 78) rfl (hb hby d1_68) rfl (tlt h68).1 (by decide) (by decide) ?_
      exact Bns_20 (hv0.trans (if_pos h68))
    · refine XS.icmpNo X0.here hx rfl (hb hby d1_68) rfl (flt h68).1 ?_
      exact Bns_21 (hv0.trans (if_neg h68))
  have Bns_23 (hv0 : v_ns_0 = own_ns_0_23 p1) : Steps p.tables e below (s₁.setTop (mkF m 57 #[.val (.int p1)] [])) (s₁.setFrames fs) := by
    show Steps p.tables e below (s₁.setTop (mkF m 57 #[.val (.int p1)] [])) _
    refine XS.iloadN X0.here hx rfl (hb hby d1_57) rfl ?_
    show Steps p.tables e below (s₁.setTop (mkF m 58 #[.val (.int p1)] [(.int p1)])) _
    refine XS.sipush X0.here hx rfl (hb hby d1_58) ?_
    show Steps p.tables e below (s₁.setTop (mkF m 61 #[.val (.int p1)] [(.int (246 : Int32)), (.int p1)])) _
    by_cases h61 : (246 : Int32) < p1
    · refine XS.icmpNo X0.here hx rfl (hb hby d1_61) rfl (tlt h61).2.2.2 ?_
      exact Bns_22 (hv0.trans (if_pos h61))
    · refine XS.icmpYes X0.here hx rfl (pc0 := 61) (pc' := 197) rfl (hb hby d1_61) rfl (flt h61).2.2.2 (by decide) (by decide) ?_
      exact Bns_1 (hv0.trans (if_neg h61))
  have Bns_24 (hv0 : v_ns_0 = own_ns_0_24 p1) : Steps p.tables e below (s₁.setTop (mkF m 50 #[.val (.int p1)] [])) (s₁.setFrames fs) := by
    show Steps p.tables e below (s₁.setTop (mkF m 50 #[.val (.int p1)] [])) _
    refine XS.iloadN X0.here hx rfl (hb hby d1_50) rfl ?_
    show Steps p.tables e below (s₁.setTop (mkF m 51 #[.val (.int p1)] [(.int p1)])) _
    refine XS.sipush X0.here hx rfl (hb hby d1_51) ?_
    show Steps p.tables e below (s₁.setTop (mkF m 54 #[.val (.int p1)] [(.int (216 : Int32)), (.int p1)])) _
    by_cases h54 : p1 < (216 : Int32)
    · refine XS.icmpYes X0.here hx rfl (pc0 := 54) (pc' := 64) rfl (hb hby d1_54) rfl (tlt h54).1 (by decide) (by decide) ?_
      exact Bns_22 (hv0.trans (if_pos h54))
    · refine XS.icmpNo X0.here hx rfl (hb hby d1_54) rfl (flt h54).1 ?_
      exact Bns_23 (hv0.trans (if_neg h54))
  have Bns_25 (hv0 : v_ns_0 = own_ns_0_25 p1) : Steps p.tables e below (s₁.setTop (mkF m 43 #[.val (.int p1)] [])) (s₁.setFrames fs) := by
    show Steps p.tables e below (s₁.setTop (mkF m 43 #[.val (.int p1)] [])) _
    refine XS.iloadN X0.here hx rfl (hb hby d1_43) rfl ?_
    show Steps p.tables e below (s₁.setTop (mkF m 44 #[.val (.int p1)] [(.int p1)])) _
    refine XS.sipush X0.here hx rfl (hb hby d1_44) ?_
    show Steps p.tables e below (s₁.setTop (mkF m 47 #[.val (.int p1)] [(.int (214 : Int32)), (.int p1)])) _
    by_cases h47 : (214 : Int32) < p1
    · refine XS.icmpNo X0.here hx rfl (hb hby d1_47) rfl (tlt h47).2.2.2 ?_
      exact Bns_24 (hv0.trans (if_pos h47))
    · refine XS.icmpYes X0.here hx rfl (pc0 := 47) (pc' := 197) rfl (hb hby d1_47) rfl (flt h47).2.2.2 (by decide) (by decide) ?_
      exact Bns_1 (hv0.trans (if_neg h47))
  have Bns_26 (hv0 : v_ns_0 = own_ns_0_26 p1) : Steps p.tables e below (s₁.setTop (mkF m 36 #[.val (.int p1)] [])) (s₁.setFrames fs) := by
    show Steps p.tables e below (s₁.setTop (mkF m 36 #[.val (.int p1)] [])) _
    refine XS.iloadN X0.here hx rfl (hb hby d1_36) rfl ?_
    show Steps p.tables e below (s₁.setTop (mkF m 37 #[.val (.int p1)] [(.int p1)])) _
    refine XS.sipush X0.here hx rfl (hb hby d1_37) ?_
    show Steps p.tables e below (s₁.setTop (mkF m 40 #[.val (.int p1)] [(.int (192 : Int32)), (.int p1)])) _
    by_cases h40 : p1 < (192 : Int32)
    · refine XS.icmpYes X0.here hx rfl (pc0 := 40) (pc' := 50) rfl (hb hby d1_40) rfl (tlt h40).1 (by decide) (by decide) ?_
      exact Bns_24 (hv0.trans (if_pos h40))
    · refine XS.icmpNo X0.here hx rfl (hb hby d1_40) rfl (flt h40).1 ?_
      exact Bns_25 (hv0.trans (if_neg h40))
  have Bns_27 (hv0 : v_ns_0 = own_ns_0_27 p1) : Steps p.tables e below (s₁.setTop (mkF m 30 #[.val (.int p1)] [])) (s₁.setFrames fs) := by
    show Steps p.tables e below (s₁.setTop (mkF m 30 #[.val (.int p1)] [])) _
    refine XS.iloadN X0.here hx rfl (hb hby d1_30) rfl ?_
    show Steps p.tables e below (s₁.setTop (mkF m 31 #[.val (.int p1)] [(.int p1)])) _
    refine XS.bipush X0.here hx rfl (hb hby d1_31) ?_
    show Steps p.tables e below (s₁.setTop (mkF m 33 #[.val (.int p1)] [(.int (58 : Int32)), (.int p1)])) _
    by_cases h33 : p1 = (58 : Int32)
    · refine XS.icmpYes X0.here hx rfl (pc0 := 33) (pc' := 197) rfl (hb hby d1_33) rfl (teq h33).1 (by decide) (by decide) ?_
      exact Bns_1 (hv0.trans (if_pos h33))
    · refine XS.icmpNo X0.here hx rfl (hb hby d1_33) rfl (feq h33).1 ?_
      exact Bns_26 (hv0.trans (if_neg h33))
  have Bns_28 (hv0 : v_ns_0 = own_ns_0_28 p1) : Steps p.tables e below (s₁.setTop (mkF m 24 #[.val (.int p1)] [])) (s₁.setFrames fs) := by
    show Steps p.tables e below (s₁.setTop (mkF m 24 #[.val (.int p1)] [])) _
    refine XS.iloadN X0.here hx rfl (hb hby d1_24) rfl ?_
    show Steps p.tables e below (s₁.setTop (mkF m 25 #[.val (.int p1)] [(.int p1)])) _
    refine XS.bipush X0.here hx rfl (hb hby d1_25) ?_
    show Steps p.tables e below (s₁.setTop (mkF m 27 #[.val (.int p1)] [(.int (95 : Int32)), (.int p1)])) _
    by_cases h27 : p1 = (95 : Int32)
    · refine XS.icmpYes X0.here hx rfl (pc0 := 27) (pc' := 197) rfl (hb hby d1_27) rfl (teq h27).1 (by decide) (by decide) ?_
      exact Bns_1 (hv0.trans (if_pos h27))
    · refine XS.icmpNo X0.here hx rfl (hb hby d1_27) rfl (feq h27).1 ?_
      exact Bns_27 (hv0.trans (if_neg h27))
  have Bns_29 (hv0 : v_ns_0 = own_ns_0_29 p1) : Steps p.tables e below (s₁.setTop (mkF m 18 #[.val (.int p1)] [])) (s₁.setFrames fs) := by
    show Steps p.tables e below (s₁.setTop (mkF m 18 #[.val (.int p1)] [])) _
    refine XS.iloadN X0.here hx rfl (hb hby d1_18) rfl ?_
    show Steps p.tables e below (s₁.setTop (mkF m 19 #[.val (.int p1)] [(.int p1)])) _
    refine XS.bipush X0.here hx rfl (hb hby d1_19) ?_
    show Steps p.tables e below (s₁.setTop (mkF m 21 #[.val (.int p1)] [(.int (90 : Int32)), (.int p1)])) _
    by_cases h21 : (90 : Int32) < p1
    · refine XS.icmpNo X0.here hx rfl (hb hby d1_21) rfl (tlt h21).2.2.2 ?_
      exact Bns_28 (hv0.trans (if_pos h21))
    · refine XS.icmpYes X0.here hx rfl (pc0 := 21) (pc' := 197) rfl (hb hby d1_21) rfl (flt h21).2.2.2 (by decide) (by decide) ?_
      exact Bns_1 (hv0.trans (if_neg h21))
  have Bns_30 (hv0 : v_ns_0 = own_ns_0_30 p1) : Steps p.tables e below (s₁.setTop (mkF m 12 #[.val (.int p1)] [])) (s₁.setFrames fs) := by
    show Steps p.tables e below (s₁.setTop (mkF m 12 #[.val (.int p1)] [])) _
    refine XS.iloadN X0.here hx rfl (hb hby d1_12) rfl ?_
    show Steps p.tables e below (s₁.setTop (mkF m 13 #[.val (.int p1)] [(.int p1)])) _
    refine XS.bipush X0.here hx rfl (hb hby d1_13) ?_
    show Steps p.tables e below (s₁.setTop (mkF m 15 #[.val (.int p1)] [(.int (65 : Int32)), (.int p1)])) _
    by_cases h15 : p1 < (65 : Int32)
    · refine XS.icmpYes X0.here hx rfl (pc0 := 15) (pc' := 24) rfl (hb hby d1_15) rfl (tlt h15).1 (by decide) (by decide) ?_
      exact Bns_28 (hv0.trans (if_pos h15))
    · refine XS.icmpNo X0.here hx rfl (hb hby d1_15) rfl (flt h15).1 ?_
      exact Bns_29 (hv0.trans (if_neg h15))
  have Bns_31 (hv0 : v_ns_0 = own_ns_0_31 p1) : Steps p.tables e below (s₁.setTop (mkF m 6 #[.val (.int p1)] [])) (s₁.setFrames fs) := by
    show Steps p.tables e below (s₁.setTop (mkF m 6 #[.val (.int p1)] [])) _
    refine XS.iloadN X0.here hx rfl (hb hby d1_6) rfl ?_
    show Steps p.tables e below (s₁.setTop (mkF m 7 #[.val (.int p1)] [(.int p1)])) _
    refine XS.bipush X0.here hx rfl (hb hby d1_7) ?_
    show Steps p.tables e below (s₁.setTop (mkF m 9 #[.val (.int p1)] [(.int (122 : Int32)), (.int p1)])) _
    by_cases h9 : (122 : Int32) < p1
    · refine XS.icmpNo X0.here hx rfl (hb hby d1_9) rfl (tlt h9).2.2.2 ?_
      exact Bns_30 (hv0.trans (if_pos h9))
    · refine XS.icmpYes X0.here hx rfl (pc0 := 9) (pc' := 197) rfl (hb hby d1_9) rfl (flt h9).2.2.2 (by decide) (by decide) ?_
      exact Bns_1 (hv0.trans (if_neg h9))
  have Bns_32 (hv0 : v_ns_0 = own_ns_0_32 p1) : Steps p.tables e below (s₁.setTop (mkF m 0 #[.val (.int p1)] [])) (s₁.setFrames fs) := by
    show Steps p.tables e below (s₁.setTop (mkF m 0 #[.val (.int p1)] [])) _
    refine XS.iloadN X0.here hx rfl (hb hby d1_0) rfl ?_
    show Steps p.tables e below (s₁.setTop (mkF m 1 #[.val (.int p1)] [(.int p1)])) _
    refine XS.bipush X0.here hx rfl (hb hby d1_1) ?_
    show Steps p.tables e below (s₁.setTop (mkF m 3 #[.val (.int p1)] [(.int (97 : Int32)), (.int p1)])) _
    by_cases h3 : p1 < (97 : Int32)
    · refine XS.icmpYes X0.here hx rfl (pc0 := 3) (pc' := 12) rfl (hb hby d1_3) rfl (tlt h3).1 (by decide) (by decide) ?_
      exact Bns_30 (hv0.trans (if_pos h3))
    · refine XS.icmpNo X0.here hx rfl (hb hby d1_3) rfl (flt h3).1 ?_
      exact Bns_31 (hv0.trans (if_neg h3))
  have pre1 : Steps p.tables e below _ (s₁.setFrames fs) := pre0.trans (Bns_32 h_v_ns_0)
  refine ⟨_, _, pre1, hrun, hended, _, _, rfl, ?_, ⟨_, rfl⟩, hW, hsame.mono (by decide) (by decide)⟩
  exact ⟨by rw [h_v_ns_0], N0, e0⟩
theorem own_ifc {P Q : Prop} [Decidable P] [Decidable Q] (h : P ↔ Q) : (if P then (1 : Int32) else 0) = if Q then 1 else 0 := by
  by_cases p : P
  · rw [if_pos p, if_pos (h.mp p)]
  · rw [if_neg p, if_neg (fun q => p (h.mpr q))]
theorem own_small (c : Int32) (h0 : 0 ≤ c.toInt) (n : Nat) (P : Int32 → Prop) (h : ∀ k : Fin n, P (Int32.ofInt (k.1 : Int))) (hn : c.toInt < n) : P c := by
  have q := h ⟨c.toInt.toNat, by omega⟩
  simp only [Int.toNat_of_nonneg h0, Int32.ofInt_toInt] at q
  exact q
theorem own_eq_iff (c k : Int32) : c = k ↔ c.toInt = k.toInt := Int32.toInt_inj.symm
theorem sp_own_ns_0_1 (c : Int32) : own_ns_0_1 c = if True then 1 else 0 := rfl
theorem sp_own_ns_0_2 (c : Int32) : own_ns_0_2 c = if False then 1 else 0 := rfl
theorem sp_own_ns_0_3 (c : Int32) : own_ns_0_3 c = if c.toInt ≤ 983039 then 1 else 0 := by
  have hz : ((983039 : Int32) < c) ↔ 983039 < c.toInt := by simp only [Int32.lt_iff_toInt_lt, Int32.reduceToInt]
  show (if (983039 : Int32) < c then own_ns_0_2 c else own_ns_0_1 c) = _
  rw [sp_own_ns_0_2, sp_own_ns_0_1]
  by_cases h : (983039 : Int32) < c
  · rw [if_pos h]; rw [hz] at h
    exact (if_neg (fun q => q)).trans (if_neg (fun q => by
        omega
        )).symm
  · rw [if_neg h]; rw [hz] at h
    exact (if_pos trivial).trans (if_pos ((by omega))).symm
theorem sp_own_ns_0_4 (c : Int32) : own_ns_0_4 c = if (65536 ≤ c.toInt ∧ c.toInt ≤ 983039) then 1 else 0 := by
  have hz : (c < (65536 : Int32)) ↔ c.toInt < 65536 := by simp only [Int32.lt_iff_toInt_lt, Int32.reduceToInt]
  show (if c < (65536 : Int32) then own_ns_0_2 c else own_ns_0_3 c) = _
  rw [sp_own_ns_0_2, sp_own_ns_0_3]
  by_cases h : c < (65536 : Int32)
  · rw [if_pos h]; rw [hz] at h
    exact (if_neg (fun q => q)).trans (if_neg (fun q => by
        omega
        )).symm
  · rw [if_neg h]; rw [hz] at h
    refine own_ifc ⟨fun q => ?_, fun q => ?_⟩
    · skip
      exact (by omega)
    · skip
      exact (by omega)
theorem sp_own_ns_0_5 (c : Int32) : own_ns_0_5 c = if c.toInt ≤ 65533 ∨ (65536 ≤ c.toInt ∧ c.toInt ≤ 983039) then 1 else 0 := by
  have hz : ((65533 : Int32) < c) ↔ 65533 < c.toInt := by simp only [Int32.lt_iff_toInt_lt, Int32.reduceToInt]
  show (if (65533 : Int32) < c then own_ns_0_4 c else own_ns_0_1 c) = _
  rw [sp_own_ns_0_4, sp_own_ns_0_1]
  by_cases h : (65533 : Int32) < c
  · rw [if_pos h]; rw [hz] at h
    refine own_ifc ⟨fun q => ?_, fun q => ?_⟩
    · skip
      exact Or.inr ((by omega))
    · skip
      rcases q with q | q
      · exact absurd q (by omega)
      · exact (by omega)
  · rw [if_neg h]; rw [hz] at h
    exact (if_pos trivial).trans (if_pos (Or.inl (by omega))).symm
theorem sp_own_ns_0_6 (c : Int32) : own_ns_0_6 c = if (65008 ≤ c.toInt ∧ c.toInt ≤ 65533) ∨ (65536 ≤ c.toInt ∧ c.toInt ≤ 983039) then 1 else 0 := by
  have hz : (c < (65008 : Int32)) ↔ c.toInt < 65008 := by simp only [Int32.lt_iff_toInt_lt, Int32.reduceToInt]
  show (if c < (65008 : Int32) then own_ns_0_4 c else own_ns_0_5 c) = _
  rw [sp_own_ns_0_4, sp_own_ns_0_5]
  by_cases h : c < (65008 : Int32)
  · rw [if_pos h]; rw [hz] at h
    refine own_ifc ⟨fun q => ?_, fun q => ?_⟩
    · skip
      exact absurd q (by omega)
    · skip
      rcases q with q | q
      · exact absurd q (by omega)
      · exact absurd q (by omega)
  · rw [if_neg h]; rw [hz] at h
    refine own_ifc ⟨fun q => ?_, fun q => ?_⟩
    · skip
      rcases q with q | q
      · exact Or.inl (by omega)
      · exact Or.inr ((by omega))
    · skip
      rcases q with q | q
      · exact Or.inl (by omega)
      · exact Or.inr ((by omega))
theorem sp_own_ns_0_7 (c : Int32) : own_ns_0_7 c = if c.toInt ≤ 64975 ∨ (65008 ≤ c.toInt ∧ c.toInt ≤ 65533) ∨ (65536 ≤ c.toInt ∧ c.toInt ≤ 983039) then 1 else 0 := by
  have hz : ((64975 : Int32) < c) ↔ 64975 < c.toInt := by simp only [Int32.lt_iff_toInt_lt, Int32.reduceToInt]
  show (if (64975 : Int32) < c then own_ns_0_6 c else own_ns_0_1 c) = _
  rw [sp_own_ns_0_6, sp_own_ns_0_1]
  by_cases h : (64975 : Int32) < c
  · rw [if_pos h]; rw [hz] at h
    refine own_ifc ⟨fun q => ?_, fun q => ?_⟩
    · skip
      rcases q with q | q
      · exact Or.inr (Or.inl (by omega))
      · exact Or.inr (Or.inr ((by omega)))
    · skip
      rcases q with q | q | q
      · exact absurd q (by omega)
      · exact Or.inl (by omega)
      · exact Or.inr ((by omega))
  · rw [if_neg h]; rw [hz] at h
    exact (if_pos trivial).trans (if_pos (Or.inl (by omega))).symm
theorem sp_own_ns_0_8 (c : Int32) : own_ns_0_8 c = if (63744 ≤ c.toInt ∧ c.toInt ≤ 64975) ∨ (65008 ≤ c.toInt ∧ c.toInt ≤ 65533) ∨ (65536 ≤ c.toInt ∧ c.toInt ≤ 983039) then 1 else 0 := by
  have hz : (c < (63744 : Int32)) ↔ c.toInt < 63744 := by simp only [Int32.lt_iff_toInt_lt, Int32.reduceToInt]
  show (if c < (63744 : Int32) then own_ns_0_6 c else own_ns_0_7 c) = _
  rw [sp_own_ns_0_6, sp_own_ns_0_7]
  by_cases h : c < (63744 : Int32)
  · rw [if_pos h]; rw [hz] at h
    refine own_ifc ⟨fun q => ?_, fun q => ?_⟩
    · skip
      rcases q with q | q
      · exact absurd q (by omega)
      · exact absurd q (by omega)
    · skip
      rcases q with q | q | q
      · exact absurd q (by omega)
      · exact absurd q (by omega)
      · exact absurd q (by omega)
  · rw [if_neg h]; rw [hz] at h
    refine own_ifc ⟨fun q => ?_, fun q => ?_⟩
    · skip
      rcases q with q | q | q
      · exact Or.inl (by omega)
      · exact Or.inr (Or.inl (by omega))
      · exact Or.inr (Or.inr ((by omega)))
    · skip
      rcases q with q | q | q
      · exact Or.inl (by omega)
      · exact Or.inr (Or.inl (by omega))
      · exact Or.inr (Or.inr ((by omega)))
theorem sp_own_ns_0_9 (c : Int32) : own_ns_0_9 c = if c.toInt ≤ 55295 ∨ (63744 ≤ c.toInt ∧ c.toInt ≤ 64975) ∨ (65008 ≤ c.toInt ∧ c.toInt ≤ 65533) ∨ (65536 ≤ c.toInt ∧ c.toInt ≤ 983039) then 1 else 0 := by
  have hz : ((55295 : Int32) < c) ↔ 55295 < c.toInt := by simp only [Int32.lt_iff_toInt_lt, Int32.reduceToInt]
  show (if (55295 : Int32) < c then own_ns_0_8 c else own_ns_0_1 c) = _
  rw [sp_own_ns_0_8, sp_own_ns_0_1]
  by_cases h : (55295 : Int32) < c
  · rw [if_pos h]; rw [hz] at h
    refine own_ifc ⟨fun q => ?_, fun q => ?_⟩
    · skip
      rcases q with q | q | q
      · exact Or.inr (Or.inl (by omega))
      · exact Or.inr (Or.inr (Or.inl (by omega)))
      · exact Or.inr (Or.inr (Or.inr ((by omega))))
    · skip
      rcases q with q | q | q | q
      · exact absurd q (by omega)
      · exact Or.inl (by omega)
      · exact Or.inr (Or.inl (by omega))
      · exact Or.inr (Or.inr ((by omega)))
  · rw [if_neg h]; rw [hz] at h
    exact (if_pos trivial).trans (if_pos (Or.inl (by omega))).symm
theorem sp_own_ns_0_10 (c : Int32) : own_ns_0_10 c = if (12289 ≤ c.toInt ∧ c.toInt ≤ 55295) ∨ (63744 ≤ c.toInt ∧ c.toInt ≤ 64975) ∨ (65008 ≤ c.toInt ∧ c.toInt ≤ 65533) ∨ (65536 ≤ c.toInt ∧ c.toInt ≤ 983039) then 1 else 0 := by
  have hz : (c < (12289 : Int32)) ↔ c.toInt < 12289 := by simp only [Int32.lt_iff_toInt_lt, Int32.reduceToInt]
  show (if c < (12289 : Int32) then own_ns_0_8 c else own_ns_0_9 c) = _
  rw [sp_own_ns_0_8, sp_own_ns_0_9]
  by_cases h : c < (12289 : Int32)
  · rw [if_pos h]; rw [hz] at h
    refine own_ifc ⟨fun q => ?_, fun q => ?_⟩
    · skip
      rcases q with q | q | q
      · exact absurd q (by omega)
      · exact absurd q (by omega)
      · exact absurd q (by omega)
    · skip
      rcases q with q | q | q | q
      · exact absurd q (by omega)
      · exact absurd q (by omega)
      · exact absurd q (by omega)
      · exact absurd q (by omega)
  · rw [if_neg h]; rw [hz] at h
    refine own_ifc ⟨fun q => ?_, fun q => ?_⟩
    · skip
      rcases q with q | q | q | q
      · exact Or.inl (by omega)
      · exact Or.inr (Or.inl (by omega))
      · exact Or.inr (Or.inr (Or.inl (by omega)))
      · exact Or.inr (Or.inr (Or.inr ((by omega))))
    · skip
      rcases q with q | q | q | q
      · exact Or.inl (by omega)
      · exact Or.inr (Or.inl (by omega))
      · exact Or.inr (Or.inr (Or.inl (by omega)))
      · exact Or.inr (Or.inr (Or.inr ((by omega))))
theorem sp_own_ns_0_11 (c : Int32) : own_ns_0_11 c = if c.toInt ≤ 12271 ∨ (12289 ≤ c.toInt ∧ c.toInt ≤ 55295) ∨ (63744 ≤ c.toInt ∧ c.toInt ≤ 64975) ∨ (65008 ≤ c.toInt ∧ c.toInt ≤ 65533) ∨ (65536 ≤ c.toInt ∧ c.toInt ≤ 983039) then 1 else 0 := by
  have hz : ((12271 : Int32) < c) ↔ 12271 < c.toInt := by simp only [Int32.lt_iff_toInt_lt, Int32.reduceToInt]
  show (if (12271 : Int32) < c then own_ns_0_10 c else own_ns_0_1 c) = _
  rw [sp_own_ns_0_10, sp_own_ns_0_1]
  by_cases h : (12271 : Int32) < c
  · rw [if_pos h]; rw [hz] at h
    refine own_ifc ⟨fun q => ?_, fun q => ?_⟩
    · skip
      rcases q with q | q | q | q
      · exact Or.inr (Or.inl (by omega))
      · exact Or.inr (Or.inr (Or.inl (by omega)))
      · exact Or.inr (Or.inr (Or.inr (Or.inl (by omega))))
      · exact Or.inr (Or.inr (Or.inr (Or.inr ((by omega)))))
    · skip
      rcases q with q | q | q | q | q
      · exact absurd q (by omega)
      · exact Or.inl (by omega)
      · exact Or.inr (Or.inl (by omega))
      · exact Or.inr (Or.inr (Or.inl (by omega)))
      · exact Or.inr (Or.inr (Or.inr ((by omega))))
  · rw [if_neg h]; rw [hz] at h
    exact (if_pos trivial).trans (if_pos (Or.inl (by omega))).symm
theorem sp_own_ns_0_12 (c : Int32) : own_ns_0_12 c = if (11264 ≤ c.toInt ∧ c.toInt ≤ 12271) ∨ (12289 ≤ c.toInt ∧ c.toInt ≤ 55295) ∨ (63744 ≤ c.toInt ∧ c.toInt ≤ 64975) ∨ (65008 ≤ c.toInt ∧ c.toInt ≤ 65533) ∨ (65536 ≤ c.toInt ∧ c.toInt ≤ 983039) then 1 else 0 := by
  have hz : (c < (11264 : Int32)) ↔ c.toInt < 11264 := by simp only [Int32.lt_iff_toInt_lt, Int32.reduceToInt]
  show (if c < (11264 : Int32) then own_ns_0_10 c else own_ns_0_11 c) = _
  rw [sp_own_ns_0_10, sp_own_ns_0_11]
  by_cases h : c < (11264 : Int32)
  · rw [if_pos h]; rw [hz] at h
    refine own_ifc ⟨fun q => ?_, fun q => ?_⟩
    · skip
      rcases q with q | q | q | q
      · exact absurd q (by omega)
      · exact absurd q (by omega)
      · exact absurd q (by omega)
      · exact absurd q (by omega)
    · skip
      rcases q with q | q | q | q | q
      · exact absurd q (by omega)
      · exact absurd q (by omega)
      · exact absurd q (by omega)
      · exact absurd q (by omega)
      · exact absurd q (by omega)
  · rw [if_neg h]; rw [hz] at h
    refine own_ifc ⟨fun q => ?_, fun q => ?_⟩
    · skip
      rcases q with q | q | q | q | q
      · exact Or.inl (by omega)
      · exact Or.inr (Or.inl (by omega))
      · exact Or.inr (Or.inr (Or.inl (by omega)))
      · exact Or.inr (Or.inr (Or.inr (Or.inl (by omega))))
      · exact Or.inr (Or.inr (Or.inr (Or.inr ((by omega)))))
    · skip
      rcases q with q | q | q | q | q
      · exact Or.inl (by omega)
      · exact Or.inr (Or.inl (by omega))
      · exact Or.inr (Or.inr (Or.inl (by omega)))
      · exact Or.inr (Or.inr (Or.inr (Or.inl (by omega))))
      · exact Or.inr (Or.inr (Or.inr (Or.inr ((by omega)))))
theorem sp_own_ns_0_13 (c : Int32) : own_ns_0_13 c = if c.toInt ≤ 8591 ∨ (11264 ≤ c.toInt ∧ c.toInt ≤ 12271) ∨ (12289 ≤ c.toInt ∧ c.toInt ≤ 55295) ∨ (63744 ≤ c.toInt ∧ c.toInt ≤ 64975) ∨ (65008 ≤ c.toInt ∧ c.toInt ≤ 65533) ∨ (65536 ≤ c.toInt ∧ c.toInt ≤ 983039) then 1 else 0 := by
  have hz : ((8591 : Int32) < c) ↔ 8591 < c.toInt := by simp only [Int32.lt_iff_toInt_lt, Int32.reduceToInt]
  show (if (8591 : Int32) < c then own_ns_0_12 c else own_ns_0_1 c) = _
  rw [sp_own_ns_0_12, sp_own_ns_0_1]
  by_cases h : (8591 : Int32) < c
  · rw [if_pos h]; rw [hz] at h
    refine own_ifc ⟨fun q => ?_, fun q => ?_⟩
    · skip
      rcases q with q | q | q | q | q
      · exact Or.inr (Or.inl (by omega))
      · exact Or.inr (Or.inr (Or.inl (by omega)))
      · exact Or.inr (Or.inr (Or.inr (Or.inl (by omega))))
      · exact Or.inr (Or.inr (Or.inr (Or.inr (Or.inl (by omega)))))
      · exact Or.inr (Or.inr (Or.inr (Or.inr (Or.inr ((by omega))))))
    · skip
      rcases q with q | q | q | q | q | q
      · exact absurd q (by omega)
      · exact Or.inl (by omega)
      · exact Or.inr (Or.inl (by omega))
      · exact Or.inr (Or.inr (Or.inl (by omega)))
      · exact Or.inr (Or.inr (Or.inr (Or.inl (by omega))))
      · exact Or.inr (Or.inr (Or.inr (Or.inr ((by omega)))))
  · rw [if_neg h]; rw [hz] at h
    exact (if_pos trivial).trans (if_pos (Or.inl (by omega))).symm
theorem sp_own_ns_0_14 (c : Int32) : own_ns_0_14 c = if (8304 ≤ c.toInt ∧ c.toInt ≤ 8591) ∨ (11264 ≤ c.toInt ∧ c.toInt ≤ 12271) ∨ (12289 ≤ c.toInt ∧ c.toInt ≤ 55295) ∨ (63744 ≤ c.toInt ∧ c.toInt ≤ 64975) ∨ (65008 ≤ c.toInt ∧ c.toInt ≤ 65533) ∨ (65536 ≤ c.toInt ∧ c.toInt ≤ 983039) then 1 else 0 := by
  have hz : (c < (8304 : Int32)) ↔ c.toInt < 8304 := by simp only [Int32.lt_iff_toInt_lt, Int32.reduceToInt]
  show (if c < (8304 : Int32) then own_ns_0_12 c else own_ns_0_13 c) = _
  rw [sp_own_ns_0_12, sp_own_ns_0_13]
  by_cases h : c < (8304 : Int32)
  · rw [if_pos h]; rw [hz] at h
    refine own_ifc ⟨fun q => ?_, fun q => ?_⟩
    · skip
      rcases q with q | q | q | q | q
      · exact absurd q (by omega)
      · exact absurd q (by omega)
      · exact absurd q (by omega)
      · exact absurd q (by omega)
      · exact absurd q (by omega)
    · skip
      rcases q with q | q | q | q | q | q
      · exact absurd q (by omega)
      · exact absurd q (by omega)
      · exact absurd q (by omega)
      · exact absurd q (by omega)
      · exact absurd q (by omega)
      · exact absurd q (by omega)
  · rw [if_neg h]; rw [hz] at h
    refine own_ifc ⟨fun q => ?_, fun q => ?_⟩
    · skip
      rcases q with q | q | q | q | q | q
      · exact Or.inl (by omega)
      · exact Or.inr (Or.inl (by omega))
      · exact Or.inr (Or.inr (Or.inl (by omega)))
      · exact Or.inr (Or.inr (Or.inr (Or.inl (by omega))))
      · exact Or.inr (Or.inr (Or.inr (Or.inr (Or.inl (by omega)))))
      · exact Or.inr (Or.inr (Or.inr (Or.inr (Or.inr ((by omega))))))
    · skip
      rcases q with q | q | q | q | q | q
      · exact Or.inl (by omega)
      · exact Or.inr (Or.inl (by omega))
      · exact Or.inr (Or.inr (Or.inl (by omega)))
      · exact Or.inr (Or.inr (Or.inr (Or.inl (by omega))))
      · exact Or.inr (Or.inr (Or.inr (Or.inr (Or.inl (by omega)))))
      · exact Or.inr (Or.inr (Or.inr (Or.inr (Or.inr ((by omega))))))
theorem sp_own_ns_0_15 (c : Int32) : own_ns_0_15 c = if c.toInt = 8205 ∨ (8304 ≤ c.toInt ∧ c.toInt ≤ 8591) ∨ (11264 ≤ c.toInt ∧ c.toInt ≤ 12271) ∨ (12289 ≤ c.toInt ∧ c.toInt ≤ 55295) ∨ (63744 ≤ c.toInt ∧ c.toInt ≤ 64975) ∨ (65008 ≤ c.toInt ∧ c.toInt ≤ 65533) ∨ (65536 ≤ c.toInt ∧ c.toInt ≤ 983039) then 1 else 0 := by
  have hz : (c = (8205 : Int32)) ↔ c.toInt = 8205 := by rw [own_eq_iff]; simp only [Int32.reduceToInt]
  show (if c = (8205 : Int32) then own_ns_0_1 c else own_ns_0_14 c) = _
  rw [sp_own_ns_0_1, sp_own_ns_0_14]
  by_cases h : c = (8205 : Int32)
  · rw [if_pos h]; rw [hz] at h
    exact (if_pos trivial).trans (if_pos (Or.inl (by omega))).symm
  · rw [if_neg h]; rw [hz] at h
    refine own_ifc ⟨fun q => ?_, fun q => ?_⟩
    · skip
      rcases q with q | q | q | q | q | q
      · exact Or.inr (Or.inl (by omega))
      · exact Or.inr (Or.inr (Or.inl (by omega)))
      · exact Or.inr (Or.inr (Or.inr (Or.inl (by omega))))
      · exact Or.inr (Or.inr (Or.inr (Or.inr (Or.inl (by omega)))))
      · exact Or.inr (Or.inr (Or.inr (Or.inr (Or.inr (Or.inl (by omega))))))
      · exact Or.inr (Or.inr (Or.inr (Or.inr (Or.inr (Or.inr ((by omega)))))))
    · skip
      rcases q with q | q | q | q | q | q | q
      · exact absurd q (by omega)
      · exact Or.inl (by omega)
      · exact Or.inr (Or.inl (by omega))
      · exact Or.inr (Or.inr (Or.inl (by omega)))
      · exact Or.inr (Or.inr (Or.inr (Or.inl (by omega))))
      · exact Or.inr (Or.inr (Or.inr (Or.inr (Or.inl (by omega)))))
      · exact Or.inr (Or.inr (Or.inr (Or.inr (Or.inr ((by omega))))))
theorem sp_own_ns_0_16 (c : Int32) : own_ns_0_16 c = if (8204 ≤ c.toInt ∧ c.toInt ≤ 8205) ∨ (8304 ≤ c.toInt ∧ c.toInt ≤ 8591) ∨ (11264 ≤ c.toInt ∧ c.toInt ≤ 12271) ∨ (12289 ≤ c.toInt ∧ c.toInt ≤ 55295) ∨ (63744 ≤ c.toInt ∧ c.toInt ≤ 64975) ∨ (65008 ≤ c.toInt ∧ c.toInt ≤ 65533) ∨ (65536 ≤ c.toInt ∧ c.toInt ≤ 983039) then 1 else 0 := by
  have hz : (c = (8204 : Int32)) ↔ c.toInt = 8204 := by rw [own_eq_iff]; simp only [Int32.reduceToInt]
  show (if c = (8204 : Int32) then own_ns_0_1 c else own_ns_0_15 c) = _
  rw [sp_own_ns_0_1, sp_own_ns_0_15]
  by_cases h : c = (8204 : Int32)
  · rw [if_pos h]; rw [hz] at h
    exact (if_pos trivial).trans (if_pos (Or.inl (by omega))).symm
  · rw [if_neg h]; rw [hz] at h
    refine own_ifc ⟨fun q => ?_, fun q => ?_⟩
    · skip
      rcases q with q | q | q | q | q | q | q
      · exact Or.inl (by omega)
      · exact Or.inr (Or.inl (by omega))
      · exact Or.inr (Or.inr (Or.inl (by omega)))
      · exact Or.inr (Or.inr (Or.inr (Or.inl (by omega))))
      · exact Or.inr (Or.inr (Or.inr (Or.inr (Or.inl (by omega)))))
      · exact Or.inr (Or.inr (Or.inr (Or.inr (Or.inr (Or.inl (by omega))))))
      · exact Or.inr (Or.inr (Or.inr (Or.inr (Or.inr (Or.inr ((by omega)))))))
    · skip
      rcases q with q | q | q | q | q | q | q
      · exact Or.inl (by omega)
      · exact Or.inr (Or.inl (by omega))
      · exact Or.inr (Or.inr (Or.inl (by omega)))
      · exact Or.inr (Or.inr (Or.inr (Or.inl (by omega))))
      · exact Or.inr (Or.inr (Or.inr (Or.inr (Or.inl (by omega)))))
      · exact Or.inr (Or.inr (Or.inr (Or.inr (Or.inr (Or.inl (by omega))))))
      · exact Or.inr (Or.inr (Or.inr (Or.inr (Or.inr (Or.inr ((by omega)))))))
theorem sp_own_ns_0_17 (c : Int32) : own_ns_0_17 c = if c.toInt ≤ 8191 ∨ (8204 ≤ c.toInt ∧ c.toInt ≤ 8205) ∨ (8304 ≤ c.toInt ∧ c.toInt ≤ 8591) ∨ (11264 ≤ c.toInt ∧ c.toInt ≤ 12271) ∨ (12289 ≤ c.toInt ∧ c.toInt ≤ 55295) ∨ (63744 ≤ c.toInt ∧ c.toInt ≤ 64975) ∨ (65008 ≤ c.toInt ∧ c.toInt ≤ 65533) ∨ (65536 ≤ c.toInt ∧ c.toInt ≤ 983039) then 1 else 0 := by
  have hz : ((8191 : Int32) < c) ↔ 8191 < c.toInt := by simp only [Int32.lt_iff_toInt_lt, Int32.reduceToInt]
  show (if (8191 : Int32) < c then own_ns_0_16 c else own_ns_0_1 c) = _
  rw [sp_own_ns_0_16, sp_own_ns_0_1]
  by_cases h : (8191 : Int32) < c
  · rw [if_pos h]; rw [hz] at h
    refine own_ifc ⟨fun q => ?_, fun q => ?_⟩
    · skip
      rcases q with q | q | q | q | q | q | q
      · exact Or.inr (Or.inl (by omega))
      · exact Or.inr (Or.inr (Or.inl (by omega)))
      · exact Or.inr (Or.inr (Or.inr (Or.inl (by omega))))
      · exact Or.inr (Or.inr (Or.inr (Or.inr (Or.inl (by omega)))))
      · exact Or.inr (Or.inr (Or.inr (Or.inr (Or.inr (Or.inl (by omega))))))
      · exact Or.inr (Or.inr (Or.inr (Or.inr (Or.inr (Or.inr (Or.inl (by omega)))))))
      · exact Or.inr (Or.inr (Or.inr (Or.inr (Or.inr (Or.inr (Or.inr ((by omega))))))))
    · skip
      rcases q with q | q | q | q | q | q | q | q
      · exact absurd q (by omega)
      · exact Or.inl (by omega)
      · exact Or.inr (Or.inl (by omega))
      · exact Or.inr (Or.inr (Or.inl (by omega)))
      · exact Or.inr (Or.inr (Or.inr (Or.inl (by omega))))
      · exact Or.inr (Or.inr (Or.inr (Or.inr (Or.inl (by omega)))))
      · exact Or.inr (Or.inr (Or.inr (Or.inr (Or.inr (Or.inl (by omega))))))
      · exact Or.inr (Or.inr (Or.inr (Or.inr (Or.inr (Or.inr ((by omega)))))))
  · rw [if_neg h]; rw [hz] at h
    exact (if_pos trivial).trans (if_pos (Or.inl (by omega))).symm
theorem sp_own_ns_0_18 (c : Int32) : own_ns_0_18 c = if (895 ≤ c.toInt ∧ c.toInt ≤ 8191) ∨ (8204 ≤ c.toInt ∧ c.toInt ≤ 8205) ∨ (8304 ≤ c.toInt ∧ c.toInt ≤ 8591) ∨ (11264 ≤ c.toInt ∧ c.toInt ≤ 12271) ∨ (12289 ≤ c.toInt ∧ c.toInt ≤ 55295) ∨ (63744 ≤ c.toInt ∧ c.toInt ≤ 64975) ∨ (65008 ≤ c.toInt ∧ c.toInt ≤ 65533) ∨ (65536 ≤ c.toInt ∧ c.toInt ≤ 983039) then 1 else 0 := by
  have hz : (c < (895 : Int32)) ↔ c.toInt < 895 := by simp only [Int32.lt_iff_toInt_lt, Int32.reduceToInt]
  show (if c < (895 : Int32) then own_ns_0_16 c else own_ns_0_17 c) = _
  rw [sp_own_ns_0_16, sp_own_ns_0_17]
  by_cases h : c < (895 : Int32)
  · rw [if_pos h]; rw [hz] at h
    refine own_ifc ⟨fun q => ?_, fun q => ?_⟩
    · skip
      rcases q with q | q | q | q | q | q | q
      · exact absurd q (by omega)
      · exact absurd q (by omega)
      · exact absurd q (by omega)
      · exact absurd q (by omega)
      · exact absurd q (by omega)
      · exact absurd q (by omega)
      · exact absurd q (by omega)
    · skip
      rcases q with q | q | q | q | q | q | q | q
      · exact absurd q (by omega)
      · exact absurd q (by omega)
      · exact absurd q (by omega)
      · exact absurd q (by omega)
      · exact absurd q (by omega)
      · exact absurd q (by omega)
      · exact absurd q (by omega)
      · exact absurd q (by omega)
  · rw [if_neg h]; rw [hz] at h
    refine own_ifc ⟨fun q => ?_, fun q => ?_⟩
    · skip
      rcases q with q | q | q | q | q | q | q | q
      · exact Or.inl (by omega)
      · exact Or.inr (Or.inl (by omega))
      · exact Or.inr (Or.inr (Or.inl (by omega)))
      · exact Or.inr (Or.inr (Or.inr (Or.inl (by omega))))
      · exact Or.inr (Or.inr (Or.inr (Or.inr (Or.inl (by omega)))))
      · exact Or.inr (Or.inr (Or.inr (Or.inr (Or.inr (Or.inl (by omega))))))
      · exact Or.inr (Or.inr (Or.inr (Or.inr (Or.inr (Or.inr (Or.inl (by omega)))))))
      · exact Or.inr (Or.inr (Or.inr (Or.inr (Or.inr (Or.inr (Or.inr ((by omega))))))))
    · skip
      rcases q with q | q | q | q | q | q | q | q
      · exact Or.inl (by omega)
      · exact Or.inr (Or.inl (by omega))
      · exact Or.inr (Or.inr (Or.inl (by omega)))
      · exact Or.inr (Or.inr (Or.inr (Or.inl (by omega))))
      · exact Or.inr (Or.inr (Or.inr (Or.inr (Or.inl (by omega)))))
      · exact Or.inr (Or.inr (Or.inr (Or.inr (Or.inr (Or.inl (by omega))))))
      · exact Or.inr (Or.inr (Or.inr (Or.inr (Or.inr (Or.inr (Or.inl (by omega)))))))
      · exact Or.inr (Or.inr (Or.inr (Or.inr (Or.inr (Or.inr (Or.inr ((by omega))))))))
theorem sp_own_ns_0_19 (c : Int32) : own_ns_0_19 c = if c.toInt ≤ 893 ∨ (895 ≤ c.toInt ∧ c.toInt ≤ 8191) ∨ (8204 ≤ c.toInt ∧ c.toInt ≤ 8205) ∨ (8304 ≤ c.toInt ∧ c.toInt ≤ 8591) ∨ (11264 ≤ c.toInt ∧ c.toInt ≤ 12271) ∨ (12289 ≤ c.toInt ∧ c.toInt ≤ 55295) ∨ (63744 ≤ c.toInt ∧ c.toInt ≤ 64975) ∨ (65008 ≤ c.toInt ∧ c.toInt ≤ 65533) ∨ (65536 ≤ c.toInt ∧ c.toInt ≤ 983039) then 1 else 0 := by
  have hz : ((893 : Int32) < c) ↔ 893 < c.toInt := by simp only [Int32.lt_iff_toInt_lt, Int32.reduceToInt]
  show (if (893 : Int32) < c then own_ns_0_18 c else own_ns_0_1 c) = _
  rw [sp_own_ns_0_18, sp_own_ns_0_1]
  by_cases h : (893 : Int32) < c
  · rw [if_pos h]; rw [hz] at h
    refine own_ifc ⟨fun q => ?_, fun q => ?_⟩
    · skip
      rcases q with q | q | q | q | q | q | q | q
      · exact Or.inr (Or.inl (by omega))
      · exact Or.inr (Or.inr (Or.inl (by omega)))
      · exact Or.inr (Or.inr (Or.inr (Or.inl (by omega))))
      · exact Or.inr (Or.inr (Or.inr (Or.inr (Or.inl (by omega)))))
      · exact Or.inr (Or.inr (Or.inr (Or.inr (Or.inr (Or.inl (by omega))))))
      · exact Or.inr (Or.inr (Or.inr (Or.inr (Or.inr (Or.inr (Or.inl (by omega)))))))
      · exact Or.inr (Or.inr (Or.inr (Or.inr (Or.inr (Or.inr (Or.inr (Or.inl (by omega))))))))
      · exact Or.inr (Or.inr (Or.inr (Or.inr (Or.inr (Or.inr (Or.inr (Or.inr ((by omega)))))))))
    · skip
      rcases q with q | q | q | q | q | q | q | q | q
      · exact absurd q (by omega)
      · exact Or.inl (by omega)
      · exact Or.inr (Or.inl (by omega))
      · exact Or.inr (Or.inr (Or.inl (by omega)))
      · exact Or.inr (Or.inr (Or.inr (Or.inl (by omega))))
      · exact Or.inr (Or.inr (Or.inr (Or.inr (Or.inl (by omega)))))
      · exact Or.inr (Or.inr (Or.inr (Or.inr (Or.inr (Or.inl (by omega))))))
      · exact Or.inr (Or.inr (Or.inr (Or.inr (Or.inr (Or.inr (Or.inl (by omega)))))))
      · exact Or.inr (Or.inr (Or.inr (Or.inr (Or.inr (Or.inr (Or.inr ((by omega))))))))
  · rw [if_neg h]; rw [hz] at h
    exact (if_pos trivial).trans (if_pos (Or.inl (by omega))).symm
theorem sp_own_ns_0_20 (c : Int32) : own_ns_0_20 c = if (880 ≤ c.toInt ∧ c.toInt ≤ 893) ∨ (895 ≤ c.toInt ∧ c.toInt ≤ 8191) ∨ (8204 ≤ c.toInt ∧ c.toInt ≤ 8205) ∨ (8304 ≤ c.toInt ∧ c.toInt ≤ 8591) ∨ (11264 ≤ c.toInt ∧ c.toInt ≤ 12271) ∨ (12289 ≤ c.toInt ∧ c.toInt ≤ 55295) ∨ (63744 ≤ c.toInt ∧ c.toInt ≤ 64975) ∨ (65008 ≤ c.toInt ∧ c.toInt ≤ 65533) ∨ (65536 ≤ c.toInt ∧ c.toInt ≤ 983039) then 1 else 0 := by
  have hz : (c < (880 : Int32)) ↔ c.toInt < 880 := by simp only [Int32.lt_iff_toInt_lt, Int32.reduceToInt]
  show (if c < (880 : Int32) then own_ns_0_18 c else own_ns_0_19 c) = _
  rw [sp_own_ns_0_18, sp_own_ns_0_19]
  by_cases h : c < (880 : Int32)
  · rw [if_pos h]; rw [hz] at h
    refine own_ifc ⟨fun q => ?_, fun q => ?_⟩
    · skip
      rcases q with q | q | q | q | q | q | q | q
      · exact absurd q (by omega)
      · exact absurd q (by omega)
      · exact absurd q (by omega)
      · exact absurd q (by omega)
      · exact absurd q (by omega)
      · exact absurd q (by omega)
      · exact absurd q (by omega)
      · exact absurd q (by omega)
    · skip
      rcases q with q | q | q | q | q | q | q | q | q
      · exact absurd q (by omega)
      · exact absurd q (by omega)
      · exact absurd q (by omega)
      · exact absurd q (by omega)
      · exact absurd q (by omega)
      · exact absurd q (by omega)
      · exact absurd q (by omega)
      · exact absurd q (by omega)
      · exact absurd q (by omega)
  · rw [if_neg h]; rw [hz] at h
    refine own_ifc ⟨fun q => ?_, fun q => ?_⟩
    · skip
      rcases q with q | q | q | q | q | q | q | q | q
      · exact Or.inl (by omega)
      · exact Or.inr (Or.inl (by omega))
      · exact Or.inr (Or.inr (Or.inl (by omega)))
      · exact Or.inr (Or.inr (Or.inr (Or.inl (by omega))))
      · exact Or.inr (Or.inr (Or.inr (Or.inr (Or.inl (by omega)))))
      · exact Or.inr (Or.inr (Or.inr (Or.inr (Or.inr (Or.inl (by omega))))))
      · exact Or.inr (Or.inr (Or.inr (Or.inr (Or.inr (Or.inr (Or.inl (by omega)))))))
      · exact Or.inr (Or.inr (Or.inr (Or.inr (Or.inr (Or.inr (Or.inr (Or.inl (by omega))))))))
      · exact Or.inr (Or.inr (Or.inr (Or.inr (Or.inr (Or.inr (Or.inr (Or.inr ((by omega)))))))))
    · skip
      rcases q with q | q | q | q | q | q | q | q | q
      · exact Or.inl (by omega)
      · exact Or.inr (Or.inl (by omega))
      · exact Or.inr (Or.inr (Or.inl (by omega)))
      · exact Or.inr (Or.inr (Or.inr (Or.inl (by omega))))
      · exact Or.inr (Or.inr (Or.inr (Or.inr (Or.inl (by omega)))))
      · exact Or.inr (Or.inr (Or.inr (Or.inr (Or.inr (Or.inl (by omega))))))
      · exact Or.inr (Or.inr (Or.inr (Or.inr (Or.inr (Or.inr (Or.inl (by omega)))))))
      · exact Or.inr (Or.inr (Or.inr (Or.inr (Or.inr (Or.inr (Or.inr (Or.inl (by omega))))))))
      · exact Or.inr (Or.inr (Or.inr (Or.inr (Or.inr (Or.inr (Or.inr (Or.inr ((by omega)))))))))
theorem sp_own_ns_0_21 (c : Int32) : own_ns_0_21 c = if c.toInt ≤ 767 ∨ (880 ≤ c.toInt ∧ c.toInt ≤ 893) ∨ (895 ≤ c.toInt ∧ c.toInt ≤ 8191) ∨ (8204 ≤ c.toInt ∧ c.toInt ≤ 8205) ∨ (8304 ≤ c.toInt ∧ c.toInt ≤ 8591) ∨ (11264 ≤ c.toInt ∧ c.toInt ≤ 12271) ∨ (12289 ≤ c.toInt ∧ c.toInt ≤ 55295) ∨ (63744 ≤ c.toInt ∧ c.toInt ≤ 64975) ∨ (65008 ≤ c.toInt ∧ c.toInt ≤ 65533) ∨ (65536 ≤ c.toInt ∧ c.toInt ≤ 983039) then 1 else 0 := by
  have hz : ((767 : Int32) < c) ↔ 767 < c.toInt := by simp only [Int32.lt_iff_toInt_lt, Int32.reduceToInt]
  show (if (767 : Int32) < c then own_ns_0_20 c else own_ns_0_1 c) = _
  rw [sp_own_ns_0_20, sp_own_ns_0_1]
  by_cases h : (767 : Int32) < c
  · rw [if_pos h]; rw [hz] at h
    refine own_ifc ⟨fun q => ?_, fun q => ?_⟩
    · skip
      rcases q with q | q | q | q | q | q | q | q | q
      · exact Or.inr (Or.inl (by omega))
      · exact Or.inr (Or.inr (Or.inl (by omega)))
      · exact Or.inr (Or.inr (Or.inr (Or.inl (by omega))))
      · exact Or.inr (Or.inr (Or.inr (Or.inr (Or.inl (by omega)))))
      · exact Or.inr (Or.inr (Or.inr (Or.inr (Or.inr (Or.inl (by omega))))))
      · exact Or.inr (Or.inr (Or.inr (Or.inr (Or.inr (Or.inr (Or.inl (by omega)))))))
      · exact Or.inr (Or.inr (Or.inr (Or.inr (Or.inr (Or.inr (Or.inr (Or.inl (by omega))))))))
      · exact Or.inr (Or.inr (Or.inr (Or.inr (Or.inr (Or.inr (Or.inr (Or.inr (Or.inl (by omega)))))))))
      · exact Or.inr (Or.inr (Or.inr (Or.inr (Or.inr (Or.inr (Or.inr (Or.inr (Or.inr ((by omega))))))))))
    · skip
      rcases q with q | q | q | q | q | q | q | q | q | q
      · exact absurd q (by omega)
      · exact Or.inl (by omega)
      · exact Or.inr (Or.inl (by omega))
      · exact Or.inr (Or.inr (Or.inl (by omega)))
      · exact Or.inr (Or.inr (Or.inr (Or.inl (by omega))))
      · exact Or.inr (Or.inr (Or.inr (Or.inr (Or.inl (by omega)))))
      · exact Or.inr (Or.inr (Or.inr (Or.inr (Or.inr (Or.inl (by omega))))))
      · exact Or.inr (Or.inr (Or.inr (Or.inr (Or.inr (Or.inr (Or.inl (by omega)))))))
      · exact Or.inr (Or.inr (Or.inr (Or.inr (Or.inr (Or.inr (Or.inr (Or.inl (by omega))))))))
      · exact Or.inr (Or.inr (Or.inr (Or.inr (Or.inr (Or.inr (Or.inr (Or.inr ((by omega)))))))))
  · rw [if_neg h]; rw [hz] at h
    exact (if_pos trivial).trans (if_pos (Or.inl (by omega))).symm
theorem sp_own_ns_0_22 (c : Int32) : own_ns_0_22 c = if (248 ≤ c.toInt ∧ c.toInt ≤ 767) ∨ (880 ≤ c.toInt ∧ c.toInt ≤ 893) ∨ (895 ≤ c.toInt ∧ c.toInt ≤ 8191) ∨ (8204 ≤ c.toInt ∧ c.toInt ≤ 8205) ∨ (8304 ≤ c.toInt ∧ c.toInt ≤ 8591) ∨ (11264 ≤ c.toInt ∧ c.toInt ≤ 12271) ∨ (12289 ≤ c.toInt ∧ c.toInt ≤ 55295) ∨ (63744 ≤ c.toInt ∧ c.toInt ≤ 64975) ∨ (65008 ≤ c.toInt ∧ c.toInt ≤ 65533) ∨ (65536 ≤ c.toInt ∧ c.toInt ≤ 983039) then 1 else 0 := by
  have hz : (c < (248 : Int32)) ↔ c.toInt < 248 := by simp only [Int32.lt_iff_toInt_lt, Int32.reduceToInt]
  show (if c < (248 : Int32) then own_ns_0_20 c else own_ns_0_21 c) = _
  rw [sp_own_ns_0_20, sp_own_ns_0_21]
  by_cases h : c < (248 : Int32)
  · rw [if_pos h]; rw [hz] at h
    refine own_ifc ⟨fun q => ?_, fun q => ?_⟩
    · skip
      rcases q with q | q | q | q | q | q | q | q | q
      · exact absurd q (by omega)
      · exact absurd q (by omega)
      · exact absurd q (by omega)
      · exact absurd q (by omega)
      · exact absurd q (by omega)
      · exact absurd q (by omega)
      · exact absurd q (by omega)
      · exact absurd q (by omega)
      · exact absurd q (by omega)
    · skip
      rcases q with q | q | q | q | q | q | q | q | q | q
      · exact absurd q (by omega)
      · exact absurd q (by omega)
      · exact absurd q (by omega)
      · exact absurd q (by omega)
      · exact absurd q (by omega)
      · exact absurd q (by omega)
      · exact absurd q (by omega)
      · exact absurd q (by omega)
      · exact absurd q (by omega)
      · exact absurd q (by omega)
  · rw [if_neg h]; rw [hz] at h
    refine own_ifc ⟨fun q => ?_, fun q => ?_⟩
    · skip
      rcases q with q | q | q | q | q | q | q | q | q | q
      · exact Or.inl (by omega)
      · exact Or.inr (Or.inl (by omega))
      · exact Or.inr (Or.inr (Or.inl (by omega)))
      · exact Or.inr (Or.inr (Or.inr (Or.inl (by omega))))
      · exact Or.inr (Or.inr (Or.inr (Or.inr (Or.inl (by omega)))))
      · exact Or.inr (Or.inr (Or.inr (Or.inr (Or.inr (Or.inl (by omega))))))
      · exact Or.inr (Or.inr (Or.inr (Or.inr (Or.inr (Or.inr (Or.inl (by omega)))))))
      · exact Or.inr (Or.inr (Or.inr (Or.inr (Or.inr (Or.inr (Or.inr (Or.inl (by omega))))))))
      · exact Or.inr (Or.inr (Or.inr (Or.inr (Or.inr (Or.inr (Or.inr (Or.inr (Or.inl (by omega)))))))))
      · exact Or.inr (Or.inr (Or.inr (Or.inr (Or.inr (Or.inr (Or.inr (Or.inr (Or.inr ((by omega))))))))))
    · skip
      rcases q with q | q | q | q | q | q | q | q | q | q
      · exact Or.inl (by omega)
      · exact Or.inr (Or.inl (by omega))
      · exact Or.inr (Or.inr (Or.inl (by omega)))
      · exact Or.inr (Or.inr (Or.inr (Or.inl (by omega))))
      · exact Or.inr (Or.inr (Or.inr (Or.inr (Or.inl (by omega)))))
      · exact Or.inr (Or.inr (Or.inr (Or.inr (Or.inr (Or.inl (by omega))))))
      · exact Or.inr (Or.inr (Or.inr (Or.inr (Or.inr (Or.inr (Or.inl (by omega)))))))
      · exact Or.inr (Or.inr (Or.inr (Or.inr (Or.inr (Or.inr (Or.inr (Or.inl (by omega))))))))
      · exact Or.inr (Or.inr (Or.inr (Or.inr (Or.inr (Or.inr (Or.inr (Or.inr (Or.inl (by omega)))))))))
      · exact Or.inr (Or.inr (Or.inr (Or.inr (Or.inr (Or.inr (Or.inr (Or.inr (Or.inr ((by omega))))))))))
theorem sp_own_ns_0_23 (c : Int32) : own_ns_0_23 c = if c.toInt ≤ 246 ∨ (248 ≤ c.toInt ∧ c.toInt ≤ 767) ∨ (880 ≤ c.toInt ∧ c.toInt ≤ 893) ∨ (895 ≤ c.toInt ∧ c.toInt ≤ 8191) ∨ (8204 ≤ c.toInt ∧ c.toInt ≤ 8205) ∨ (8304 ≤ c.toInt ∧ c.toInt ≤ 8591) ∨ (11264 ≤ c.toInt ∧ c.toInt ≤ 12271) ∨ (12289 ≤ c.toInt ∧ c.toInt ≤ 55295) ∨ (63744 ≤ c.toInt ∧ c.toInt ≤ 64975) ∨ (65008 ≤ c.toInt ∧ c.toInt ≤ 65533) ∨ (65536 ≤ c.toInt ∧ c.toInt ≤ 983039) then 1 else 0 := by
  have hz : ((246 : Int32) < c) ↔ 246 < c.toInt := by simp only [Int32.lt_iff_toInt_lt, Int32.reduceToInt]
  show (if (246 : Int32) < c then own_ns_0_22 c else own_ns_0_1 c) = _
  rw [sp_own_ns_0_22, sp_own_ns_0_1]
  by_cases h : (246 : Int32) < c
  · rw [if_pos h]; rw [hz] at h
    refine own_ifc ⟨fun q => ?_, fun q => ?_⟩
    · skip
      rcases q with q | q | q | q | q | q | q | q | q | q
      · exact Or.inr (Or.inl (by omega))
      · exact Or.inr (Or.inr (Or.inl (by omega)))
      · exact Or.inr (Or.inr (Or.inr (Or.inl (by omega))))
      · exact Or.inr (Or.inr (Or.inr (Or.inr (Or.inl (by omega)))))
      · exact Or.inr (Or.inr (Or.inr (Or.inr (Or.inr (Or.inl (by omega))))))
      · exact Or.inr (Or.inr (Or.inr (Or.inr (Or.inr (Or.inr (Or.inl (by omega)))))))
      · exact Or.inr (Or.inr (Or.inr (Or.inr (Or.inr (Or.inr (Or.inr (Or.inl (by omega))))))))
      · exact Or.inr (Or.inr (Or.inr (Or.inr (Or.inr (Or.inr (Or.inr (Or.inr (Or.inl (by omega)))))))))
      · exact Or.inr (Or.inr (Or.inr (Or.inr (Or.inr (Or.inr (Or.inr (Or.inr (Or.inr (Or.inl (by omega))))))))))
      · exact Or.inr (Or.inr (Or.inr (Or.inr (Or.inr (Or.inr (Or.inr (Or.inr (Or.inr (Or.inr ((by omega)))))))))))
    · skip
      rcases q with q | q | q | q | q | q | q | q | q | q | q
      · exact absurd q (by omega)
      · exact Or.inl (by omega)
      · exact Or.inr (Or.inl (by omega))
      · exact Or.inr (Or.inr (Or.inl (by omega)))
      · exact Or.inr (Or.inr (Or.inr (Or.inl (by omega))))
      · exact Or.inr (Or.inr (Or.inr (Or.inr (Or.inl (by omega)))))
      · exact Or.inr (Or.inr (Or.inr (Or.inr (Or.inr (Or.inl (by omega))))))
      · exact Or.inr (Or.inr (Or.inr (Or.inr (Or.inr (Or.inr (Or.inl (by omega)))))))
      · exact Or.inr (Or.inr (Or.inr (Or.inr (Or.inr (Or.inr (Or.inr (Or.inl (by omega))))))))
      · exact Or.inr (Or.inr (Or.inr (Or.inr (Or.inr (Or.inr (Or.inr (Or.inr (Or.inl (by omega)))))))))
      · exact Or.inr (Or.inr (Or.inr (Or.inr (Or.inr (Or.inr (Or.inr (Or.inr (Or.inr ((by omega))))))))))
  · rw [if_neg h]; rw [hz] at h
    exact (if_pos trivial).trans (if_pos (Or.inl (by omega))).symm
theorem sp_own_ns_0_24 (c : Int32) : own_ns_0_24 c = if (216 ≤ c.toInt ∧ c.toInt ≤ 246) ∨ (248 ≤ c.toInt ∧ c.toInt ≤ 767) ∨ (880 ≤ c.toInt ∧ c.toInt ≤ 893) ∨ (895 ≤ c.toInt ∧ c.toInt ≤ 8191) ∨ (8204 ≤ c.toInt ∧ c.toInt ≤ 8205) ∨ (8304 ≤ c.toInt ∧ c.toInt ≤ 8591) ∨ (11264 ≤ c.toInt ∧ c.toInt ≤ 12271) ∨ (12289 ≤ c.toInt ∧ c.toInt ≤ 55295) ∨ (63744 ≤ c.toInt ∧ c.toInt ≤ 64975) ∨ (65008 ≤ c.toInt ∧ c.toInt ≤ 65533) ∨ (65536 ≤ c.toInt ∧ c.toInt ≤ 983039) then 1 else 0 := by
  have hz : (c < (216 : Int32)) ↔ c.toInt < 216 := by simp only [Int32.lt_iff_toInt_lt, Int32.reduceToInt]
  show (if c < (216 : Int32) then own_ns_0_22 c else own_ns_0_23 c) = _
  rw [sp_own_ns_0_22, sp_own_ns_0_23]
  by_cases h : c < (216 : Int32)
  · rw [if_pos h]; rw [hz] at h
    refine own_ifc ⟨fun q => ?_, fun q => ?_⟩
    · skip
      rcases q with q | q | q | q | q | q | q | q | q | q
      · exact absurd q (by omega)
      · exact absurd q (by omega)
      · exact absurd q (by omega)
      · exact absurd q (by omega)
      · exact absurd q (by omega)
      · exact absurd q (by omega)
      · exact absurd q (by omega)
      · exact absurd q (by omega)
      · exact absurd q (by omega)
      · exact absurd q (by omega)
    · skip
      rcases q with q | q | q | q | q | q | q | q | q | q | q
      · exact absurd q (by omega)
      · exact absurd q (by omega)
      · exact absurd q (by omega)
      · exact absurd q (by omega)
      · exact absurd q (by omega)
      · exact absurd q (by omega)
      · exact absurd q (by omega)
      · exact absurd q (by omega)
      · exact absurd q (by omega)
      · exact absurd q (by omega)
      · exact absurd q (by omega)
  · rw [if_neg h]; rw [hz] at h
    refine own_ifc ⟨fun q => ?_, fun q => ?_⟩
    · skip
      rcases q with q | q | q | q | q | q | q | q | q | q | q
      · exact Or.inl (by omega)
      · exact Or.inr (Or.inl (by omega))
      · exact Or.inr (Or.inr (Or.inl (by omega)))
      · exact Or.inr (Or.inr (Or.inr (Or.inl (by omega))))
      · exact Or.inr (Or.inr (Or.inr (Or.inr (Or.inl (by omega)))))
      · exact Or.inr (Or.inr (Or.inr (Or.inr (Or.inr (Or.inl (by omega))))))
      · exact Or.inr (Or.inr (Or.inr (Or.inr (Or.inr (Or.inr (Or.inl (by omega)))))))
      · exact Or.inr (Or.inr (Or.inr (Or.inr (Or.inr (Or.inr (Or.inr (Or.inl (by omega))))))))
      · exact Or.inr (Or.inr (Or.inr (Or.inr (Or.inr (Or.inr (Or.inr (Or.inr (Or.inl (by omega)))))))))
      · exact Or.inr (Or.inr (Or.inr (Or.inr (Or.inr (Or.inr (Or.inr (Or.inr (Or.inr (Or.inl (by omega))))))))))
      · exact Or.inr (Or.inr (Or.inr (Or.inr (Or.inr (Or.inr (Or.inr (Or.inr (Or.inr (Or.inr ((by omega)))))))))))
    · skip
      rcases q with q | q | q | q | q | q | q | q | q | q | q
      · exact Or.inl (by omega)
      · exact Or.inr (Or.inl (by omega))
      · exact Or.inr (Or.inr (Or.inl (by omega)))
      · exact Or.inr (Or.inr (Or.inr (Or.inl (by omega))))
      · exact Or.inr (Or.inr (Or.inr (Or.inr (Or.inl (by omega)))))
      · exact Or.inr (Or.inr (Or.inr (Or.inr (Or.inr (Or.inl (by omega))))))
      · exact Or.inr (Or.inr (Or.inr (Or.inr (Or.inr (Or.inr (Or.inl (by omega)))))))
      · exact Or.inr (Or.inr (Or.inr (Or.inr (Or.inr (Or.inr (Or.inr (Or.inl (by omega))))))))
      · exact Or.inr (Or.inr (Or.inr (Or.inr (Or.inr (Or.inr (Or.inr (Or.inr (Or.inl (by omega)))))))))
      · exact Or.inr (Or.inr (Or.inr (Or.inr (Or.inr (Or.inr (Or.inr (Or.inr (Or.inr (Or.inl (by omega))))))))))
      · exact Or.inr (Or.inr (Or.inr (Or.inr (Or.inr (Or.inr (Or.inr (Or.inr (Or.inr (Or.inr ((by omega)))))))))))
theorem sp_own_ns_0_25 (c : Int32) : own_ns_0_25 c = if c.toInt ≤ 214 ∨ (216 ≤ c.toInt ∧ c.toInt ≤ 246) ∨ (248 ≤ c.toInt ∧ c.toInt ≤ 767) ∨ (880 ≤ c.toInt ∧ c.toInt ≤ 893) ∨ (895 ≤ c.toInt ∧ c.toInt ≤ 8191) ∨ (8204 ≤ c.toInt ∧ c.toInt ≤ 8205) ∨ (8304 ≤ c.toInt ∧ c.toInt ≤ 8591) ∨ (11264 ≤ c.toInt ∧ c.toInt ≤ 12271) ∨ (12289 ≤ c.toInt ∧ c.toInt ≤ 55295) ∨ (63744 ≤ c.toInt ∧ c.toInt ≤ 64975) ∨ (65008 ≤ c.toInt ∧ c.toInt ≤ 65533) ∨ (65536 ≤ c.toInt ∧ c.toInt ≤ 983039) then 1 else 0 := by
  have hz : ((214 : Int32) < c) ↔ 214 < c.toInt := by simp only [Int32.lt_iff_toInt_lt, Int32.reduceToInt]
  show (if (214 : Int32) < c then own_ns_0_24 c else own_ns_0_1 c) = _
  rw [sp_own_ns_0_24, sp_own_ns_0_1]
  by_cases h : (214 : Int32) < c
  · rw [if_pos h]; rw [hz] at h
    refine own_ifc ⟨fun q => ?_, fun q => ?_⟩
    · skip
      rcases q with q | q | q | q | q | q | q | q | q | q | q
      · exact Or.inr (Or.inl (by omega))
      · exact Or.inr (Or.inr (Or.inl (by omega)))
      · exact Or.inr (Or.inr (Or.inr (Or.inl (by omega))))
      · exact Or.inr (Or.inr (Or.inr (Or.inr (Or.inl (by omega)))))
      · exact Or.inr (Or.inr (Or.inr (Or.inr (Or.inr (Or.inl (by omega))))))
      · exact Or.inr (Or.inr (Or.inr (Or.inr (Or.inr (Or.inr (Or.inl (by omega)))))))
      · exact Or.inr (Or.inr (Or.inr (Or.inr (Or.inr (Or.inr (Or.inr (Or.inl (by omega))))))))
      · exact Or.inr (Or.inr (Or.inr (Or.inr (Or.inr (Or.inr (Or.inr (Or.inr (Or.inl (by omega)))))))))
      · exact Or.inr (Or.inr (Or.inr (Or.inr (Or.inr (Or.inr (Or.inr (Or.inr (Or.inr (Or.inl (by omega))))))))))
      · exact Or.inr (Or.inr (Or.inr (Or.inr (Or.inr (Or.inr (Or.inr (Or.inr (Or.inr (Or.inr (Or.inl (by omega)))))))))))
      · exact Or.inr (Or.inr (Or.inr (Or.inr (Or.inr (Or.inr (Or.inr (Or.inr (Or.inr (Or.inr (Or.inr ((by omega))))))))))))
    · skip
      rcases q with q | q | q | q | q | q | q | q | q | q | q | q
      · exact absurd q (by omega)
      · exact Or.inl (by omega)
      · exact Or.inr (Or.inl (by omega))
      · exact Or.inr (Or.inr (Or.inl (by omega)))
      · exact Or.inr (Or.inr (Or.inr (Or.inl (by omega))))
      · exact Or.inr (Or.inr (Or.inr (Or.inr (Or.inl (by omega)))))
      · exact Or.inr (Or.inr (Or.inr (Or.inr (Or.inr (Or.inl (by omega))))))
      · exact Or.inr (Or.inr (Or.inr (Or.inr (Or.inr (Or.inr (Or.inl (by omega)))))))
      · exact Or.inr (Or.inr (Or.inr (Or.inr (Or.inr (Or.inr (Or.inr (Or.inl (by omega))))))))
      · exact Or.inr (Or.inr (Or.inr (Or.inr (Or.inr (Or.inr (Or.inr (Or.inr (Or.inl (by omega)))))))))
      · exact Or.inr (Or.inr (Or.inr (Or.inr (Or.inr (Or.inr (Or.inr (Or.inr (Or.inr (Or.inl (by omega))))))))))
      · exact Or.inr (Or.inr (Or.inr (Or.inr (Or.inr (Or.inr (Or.inr (Or.inr (Or.inr (Or.inr ((by omega)))))))))))
  · rw [if_neg h]; rw [hz] at h
    exact (if_pos trivial).trans (if_pos (Or.inl (by omega))).symm
theorem sp_own_ns_0_26 (c : Int32) : own_ns_0_26 c = if (192 ≤ c.toInt ∧ c.toInt ≤ 214) ∨ (216 ≤ c.toInt ∧ c.toInt ≤ 246) ∨ (248 ≤ c.toInt ∧ c.toInt ≤ 767) ∨ (880 ≤ c.toInt ∧ c.toInt ≤ 893) ∨ (895 ≤ c.toInt ∧ c.toInt ≤ 8191) ∨ (8204 ≤ c.toInt ∧ c.toInt ≤ 8205) ∨ (8304 ≤ c.toInt ∧ c.toInt ≤ 8591) ∨ (11264 ≤ c.toInt ∧ c.toInt ≤ 12271) ∨ (12289 ≤ c.toInt ∧ c.toInt ≤ 55295) ∨ (63744 ≤ c.toInt ∧ c.toInt ≤ 64975) ∨ (65008 ≤ c.toInt ∧ c.toInt ≤ 65533) ∨ (65536 ≤ c.toInt ∧ c.toInt ≤ 983039) then 1 else 0 := by
  have hz : (c < (192 : Int32)) ↔ c.toInt < 192 := by simp only [Int32.lt_iff_toInt_lt, Int32.reduceToInt]
  show (if c < (192 : Int32) then own_ns_0_24 c else own_ns_0_25 c) = _
  rw [sp_own_ns_0_24, sp_own_ns_0_25]
  by_cases h : c < (192 : Int32)
  · rw [if_pos h]; rw [hz] at h
    refine own_ifc ⟨fun q => ?_, fun q => ?_⟩
    · skip
      rcases q with q | q | q | q | q | q | q | q | q | q | q
      · exact absurd q (by omega)
      · exact absurd q (by omega)
      · exact absurd q (by omega)
      · exact absurd q (by omega)
      · exact absurd q (by omega)
      · exact absurd q (by omega)
      · exact absurd q (by omega)
      · exact absurd q (by omega)
      · exact absurd q (by omega)
      · exact absurd q (by omega)
      · exact absurd q (by omega)
    · skip
      rcases q with q | q | q | q | q | q | q | q | q | q | q | q
      · exact absurd q (by omega)
      · exact absurd q (by omega)
      · exact absurd q (by omega)
      · exact absurd q (by omega)
      · exact absurd q (by omega)
      · exact absurd q (by omega)
      · exact absurd q (by omega)
      · exact absurd q (by omega)
      · exact absurd q (by omega)
      · exact absurd q (by omega)
      · exact absurd q (by omega)
      · exact absurd q (by omega)
  · rw [if_neg h]; rw [hz] at h
    refine own_ifc ⟨fun q => ?_, fun q => ?_⟩
    · skip
      rcases q with q | q | q | q | q | q | q | q | q | q | q | q
      · exact Or.inl (by omega)
      · exact Or.inr (Or.inl (by omega))
      · exact Or.inr (Or.inr (Or.inl (by omega)))
      · exact Or.inr (Or.inr (Or.inr (Or.inl (by omega))))
      · exact Or.inr (Or.inr (Or.inr (Or.inr (Or.inl (by omega)))))
      · exact Or.inr (Or.inr (Or.inr (Or.inr (Or.inr (Or.inl (by omega))))))
      · exact Or.inr (Or.inr (Or.inr (Or.inr (Or.inr (Or.inr (Or.inl (by omega)))))))
      · exact Or.inr (Or.inr (Or.inr (Or.inr (Or.inr (Or.inr (Or.inr (Or.inl (by omega))))))))
      · exact Or.inr (Or.inr (Or.inr (Or.inr (Or.inr (Or.inr (Or.inr (Or.inr (Or.inl (by omega)))))))))
      · exact Or.inr (Or.inr (Or.inr (Or.inr (Or.inr (Or.inr (Or.inr (Or.inr (Or.inr (Or.inl (by omega))))))))))
      · exact Or.inr (Or.inr (Or.inr (Or.inr (Or.inr (Or.inr (Or.inr (Or.inr (Or.inr (Or.inr (Or.inl (by omega)))))))))))
      · exact Or.inr (Or.inr (Or.inr (Or.inr (Or.inr (Or.inr (Or.inr (Or.inr (Or.inr (Or.inr (Or.inr ((by omega))))))))))))
    · skip
      rcases q with q | q | q | q | q | q | q | q | q | q | q | q
      · exact Or.inl (by omega)
      · exact Or.inr (Or.inl (by omega))
      · exact Or.inr (Or.inr (Or.inl (by omega)))
      · exact Or.inr (Or.inr (Or.inr (Or.inl (by omega))))
      · exact Or.inr (Or.inr (Or.inr (Or.inr (Or.inl (by omega)))))
      · exact Or.inr (Or.inr (Or.inr (Or.inr (Or.inr (Or.inl (by omega))))))
      · exact Or.inr (Or.inr (Or.inr (Or.inr (Or.inr (Or.inr (Or.inl (by omega)))))))
      · exact Or.inr (Or.inr (Or.inr (Or.inr (Or.inr (Or.inr (Or.inr (Or.inl (by omega))))))))
      · exact Or.inr (Or.inr (Or.inr (Or.inr (Or.inr (Or.inr (Or.inr (Or.inr (Or.inl (by omega)))))))))
      · exact Or.inr (Or.inr (Or.inr (Or.inr (Or.inr (Or.inr (Or.inr (Or.inr (Or.inr (Or.inl (by omega))))))))))
      · exact Or.inr (Or.inr (Or.inr (Or.inr (Or.inr (Or.inr (Or.inr (Or.inr (Or.inr (Or.inr (Or.inl (by omega)))))))))))
      · exact Or.inr (Or.inr (Or.inr (Or.inr (Or.inr (Or.inr (Or.inr (Or.inr (Or.inr (Or.inr (Or.inr ((by omega))))))))))))
theorem sp_own_ns_0_27 (c : Int32) : own_ns_0_27 c = if c.toInt = 58 ∨ (192 ≤ c.toInt ∧ c.toInt ≤ 214) ∨ (216 ≤ c.toInt ∧ c.toInt ≤ 246) ∨ (248 ≤ c.toInt ∧ c.toInt ≤ 767) ∨ (880 ≤ c.toInt ∧ c.toInt ≤ 893) ∨ (895 ≤ c.toInt ∧ c.toInt ≤ 8191) ∨ (8204 ≤ c.toInt ∧ c.toInt ≤ 8205) ∨ (8304 ≤ c.toInt ∧ c.toInt ≤ 8591) ∨ (11264 ≤ c.toInt ∧ c.toInt ≤ 12271) ∨ (12289 ≤ c.toInt ∧ c.toInt ≤ 55295) ∨ (63744 ≤ c.toInt ∧ c.toInt ≤ 64975) ∨ (65008 ≤ c.toInt ∧ c.toInt ≤ 65533) ∨ (65536 ≤ c.toInt ∧ c.toInt ≤ 983039) then 1 else 0 := by
  have hz : (c = (58 : Int32)) ↔ c.toInt = 58 := by rw [own_eq_iff]; simp only [Int32.reduceToInt]
  show (if c = (58 : Int32) then own_ns_0_1 c else own_ns_0_26 c) = _
  rw [sp_own_ns_0_1, sp_own_ns_0_26]
  by_cases h : c = (58 : Int32)
  · rw [if_pos h]; rw [hz] at h
    exact (if_pos trivial).trans (if_pos (Or.inl (by omega))).symm
  · rw [if_neg h]; rw [hz] at h
    refine own_ifc ⟨fun q => ?_, fun q => ?_⟩
    · skip
      rcases q with q | q | q | q | q | q | q | q | q | q | q | q
      · exact Or.inr (Or.inl (by omega))
      · exact Or.inr (Or.inr (Or.inl (by omega)))
      · exact Or.inr (Or.inr (Or.inr (Or.inl (by omega))))
      · exact Or.inr (Or.inr (Or.inr (Or.inr (Or.inl (by omega)))))
      · exact Or.inr (Or.inr (Or.inr (Or.inr (Or.inr (Or.inl (by omega))))))
      · exact Or.inr (Or.inr (Or.inr (Or.inr (Or.inr (Or.inr (Or.inl (by omega)))))))
      · exact Or.inr (Or.inr (Or.inr (Or.inr (Or.inr (Or.inr (Or.inr (Or.inl (by omega))))))))
      · exact Or.inr (Or.inr (Or.inr (Or.inr (Or.inr (Or.inr (Or.inr (Or.inr (Or.inl (by omega)))))))))
      · exact Or.inr (Or.inr (Or.inr (Or.inr (Or.inr (Or.inr (Or.inr (Or.inr (Or.inr (Or.inl (by omega))))))))))
      · exact Or.inr (Or.inr (Or.inr (Or.inr (Or.inr (Or.inr (Or.inr (Or.inr (Or.inr (Or.inr (Or.inl (by omega)))))))))))
      · exact Or.inr (Or.inr (Or.inr (Or.inr (Or.inr (Or.inr (Or.inr (Or.inr (Or.inr (Or.inr (Or.inr (Or.inl (by omega))))))))))))
      · exact Or.inr (Or.inr (Or.inr (Or.inr (Or.inr (Or.inr (Or.inr (Or.inr (Or.inr (Or.inr (Or.inr (Or.inr ((by omega)))))))))))))
    · skip
      rcases q with q | q | q | q | q | q | q | q | q | q | q | q | q
      · exact absurd q (by omega)
      · exact Or.inl (by omega)
      · exact Or.inr (Or.inl (by omega))
      · exact Or.inr (Or.inr (Or.inl (by omega)))
      · exact Or.inr (Or.inr (Or.inr (Or.inl (by omega))))
      · exact Or.inr (Or.inr (Or.inr (Or.inr (Or.inl (by omega)))))
      · exact Or.inr (Or.inr (Or.inr (Or.inr (Or.inr (Or.inl (by omega))))))
      · exact Or.inr (Or.inr (Or.inr (Or.inr (Or.inr (Or.inr (Or.inl (by omega)))))))
      · exact Or.inr (Or.inr (Or.inr (Or.inr (Or.inr (Or.inr (Or.inr (Or.inl (by omega))))))))
      · exact Or.inr (Or.inr (Or.inr (Or.inr (Or.inr (Or.inr (Or.inr (Or.inr (Or.inl (by omega)))))))))
      · exact Or.inr (Or.inr (Or.inr (Or.inr (Or.inr (Or.inr (Or.inr (Or.inr (Or.inr (Or.inl (by omega))))))))))
      · exact Or.inr (Or.inr (Or.inr (Or.inr (Or.inr (Or.inr (Or.inr (Or.inr (Or.inr (Or.inr (Or.inl (by omega)))))))))))
      · exact Or.inr (Or.inr (Or.inr (Or.inr (Or.inr (Or.inr (Or.inr (Or.inr (Or.inr (Or.inr (Or.inr ((by omega))))))))))))
theorem sp_own_ns_0_28 (c : Int32) : own_ns_0_28 c = if c.toInt = 58 ∨ c.toInt = 95 ∨ (192 ≤ c.toInt ∧ c.toInt ≤ 214) ∨ (216 ≤ c.toInt ∧ c.toInt ≤ 246) ∨ (248 ≤ c.toInt ∧ c.toInt ≤ 767) ∨ (880 ≤ c.toInt ∧ c.toInt ≤ 893) ∨ (895 ≤ c.toInt ∧ c.toInt ≤ 8191) ∨ (8204 ≤ c.toInt ∧ c.toInt ≤ 8205) ∨ (8304 ≤ c.toInt ∧ c.toInt ≤ 8591) ∨ (11264 ≤ c.toInt ∧ c.toInt ≤ 12271) ∨ (12289 ≤ c.toInt ∧ c.toInt ≤ 55295) ∨ (63744 ≤ c.toInt ∧ c.toInt ≤ 64975) ∨ (65008 ≤ c.toInt ∧ c.toInt ≤ 65533) ∨ (65536 ≤ c.toInt ∧ c.toInt ≤ 983039) then 1 else 0 := by
  have hz : (c = (95 : Int32)) ↔ c.toInt = 95 := by rw [own_eq_iff]; simp only [Int32.reduceToInt]
  show (if c = (95 : Int32) then own_ns_0_1 c else own_ns_0_27 c) = _
  rw [sp_own_ns_0_1, sp_own_ns_0_27]
  by_cases h : c = (95 : Int32)
  · rw [if_pos h]; rw [hz] at h
    exact (if_pos trivial).trans (if_pos (Or.inr (Or.inl (by omega)))).symm
  · rw [if_neg h]; rw [hz] at h
    refine own_ifc ⟨fun q => ?_, fun q => ?_⟩
    · skip
      rcases q with q | q | q | q | q | q | q | q | q | q | q | q | q
      · exact Or.inl (by omega)
      · exact Or.inr (Or.inr (Or.inl (by omega)))
      · exact Or.inr (Or.inr (Or.inr (Or.inl (by omega))))
      · exact Or.inr (Or.inr (Or.inr (Or.inr (Or.inl (by omega)))))
      · exact Or.inr (Or.inr (Or.inr (Or.inr (Or.inr (Or.inl (by omega))))))
      · exact Or.inr (Or.inr (Or.inr (Or.inr (Or.inr (Or.inr (Or.inl (by omega)))))))
      · exact Or.inr (Or.inr (Or.inr (Or.inr (Or.inr (Or.inr (Or.inr (Or.inl (by omega))))))))
      · exact Or.inr (Or.inr (Or.inr (Or.inr (Or.inr (Or.inr (Or.inr (Or.inr (Or.inl (by omega)))))))))
      · exact Or.inr (Or.inr (Or.inr (Or.inr (Or.inr (Or.inr (Or.inr (Or.inr (Or.inr (Or.inl (by omega))))))))))
      · exact Or.inr (Or.inr (Or.inr (Or.inr (Or.inr (Or.inr (Or.inr (Or.inr (Or.inr (Or.inr (Or.inl (by omega)))))))))))
      · exact Or.inr (Or.inr (Or.inr (Or.inr (Or.inr (Or.inr (Or.inr (Or.inr (Or.inr (Or.inr (Or.inr (Or.inl (by omega))))))))))))
      · exact Or.inr (Or.inr (Or.inr (Or.inr (Or.inr (Or.inr (Or.inr (Or.inr (Or.inr (Or.inr (Or.inr (Or.inr (Or.inl (by omega)))))))))))))
      · exact Or.inr (Or.inr (Or.inr (Or.inr (Or.inr (Or.inr (Or.inr (Or.inr (Or.inr (Or.inr (Or.inr (Or.inr (Or.inr ((by omega))))))))))))))
    · skip
      rcases q with q | q | q | q | q | q | q | q | q | q | q | q | q | q
      · exact Or.inl (by omega)
      · exact absurd q (by omega)
      · exact Or.inr (Or.inl (by omega))
      · exact Or.inr (Or.inr (Or.inl (by omega)))
      · exact Or.inr (Or.inr (Or.inr (Or.inl (by omega))))
      · exact Or.inr (Or.inr (Or.inr (Or.inr (Or.inl (by omega)))))
      · exact Or.inr (Or.inr (Or.inr (Or.inr (Or.inr (Or.inl (by omega))))))
      · exact Or.inr (Or.inr (Or.inr (Or.inr (Or.inr (Or.inr (Or.inl (by omega)))))))
      · exact Or.inr (Or.inr (Or.inr (Or.inr (Or.inr (Or.inr (Or.inr (Or.inl (by omega))))))))
      · exact Or.inr (Or.inr (Or.inr (Or.inr (Or.inr (Or.inr (Or.inr (Or.inr (Or.inl (by omega)))))))))
      · exact Or.inr (Or.inr (Or.inr (Or.inr (Or.inr (Or.inr (Or.inr (Or.inr (Or.inr (Or.inl (by omega))))))))))
      · exact Or.inr (Or.inr (Or.inr (Or.inr (Or.inr (Or.inr (Or.inr (Or.inr (Or.inr (Or.inr (Or.inl (by omega)))))))))))
      · exact Or.inr (Or.inr (Or.inr (Or.inr (Or.inr (Or.inr (Or.inr (Or.inr (Or.inr (Or.inr (Or.inr (Or.inl (by omega))))))))))))
      · exact Or.inr (Or.inr (Or.inr (Or.inr (Or.inr (Or.inr (Or.inr (Or.inr (Or.inr (Or.inr (Or.inr (Or.inr ((by omega)))))))))))))
theorem sp_own_ns_0_29 (c : Int32) : own_ns_0_29 c = if c.toInt ≤ 90 ∨ c.toInt = 95 ∨ (192 ≤ c.toInt ∧ c.toInt ≤ 214) ∨ (216 ≤ c.toInt ∧ c.toInt ≤ 246) ∨ (248 ≤ c.toInt ∧ c.toInt ≤ 767) ∨ (880 ≤ c.toInt ∧ c.toInt ≤ 893) ∨ (895 ≤ c.toInt ∧ c.toInt ≤ 8191) ∨ (8204 ≤ c.toInt ∧ c.toInt ≤ 8205) ∨ (8304 ≤ c.toInt ∧ c.toInt ≤ 8591) ∨ (11264 ≤ c.toInt ∧ c.toInt ≤ 12271) ∨ (12289 ≤ c.toInt ∧ c.toInt ≤ 55295) ∨ (63744 ≤ c.toInt ∧ c.toInt ≤ 64975) ∨ (65008 ≤ c.toInt ∧ c.toInt ≤ 65533) ∨ (65536 ≤ c.toInt ∧ c.toInt ≤ 983039) then 1 else 0 := by
  have hz : ((90 : Int32) < c) ↔ 90 < c.toInt := by simp only [Int32.lt_iff_toInt_lt, Int32.reduceToInt]
  show (if (90 : Int32) < c then own_ns_0_28 c else own_ns_0_1 c) = _
  rw [sp_own_ns_0_28, sp_own_ns_0_1]
  by_cases h : (90 : Int32) < c
  · rw [if_pos h]; rw [hz] at h
    refine own_ifc ⟨fun q => ?_, fun q => ?_⟩
    · skip
      rcases q with q | q | q | q | q | q | q | q | q | q | q | q | q | q
      · exact absurd q (by omega)
      · exact Or.inr (Or.inl (by omega))
      · exact Or.inr (Or.inr (Or.inl (by omega)))
      · exact Or.inr (Or.inr (Or.inr (Or.inl (by omega))))
      · exact Or.inr (Or.inr (Or.inr (Or.inr (Or.inl (by omega)))))
      · exact Or.inr (Or.inr (Or.inr (Or.inr (Or.inr (Or.inl (by omega))))))
      · exact Or.inr (Or.inr (Or.inr (Or.inr (Or.inr (Or.inr (Or.inl (by omega)))))))
      · exact Or.inr (Or.inr (Or.inr (Or.inr (Or.inr (Or.inr (Or.inr (Or.inl (by omega))))))))
      · exact Or.inr (Or.inr (Or.inr (Or.inr (Or.inr (Or.inr (Or.inr (Or.inr (Or.inl (by omega)))))))))
      · exact Or.inr (Or.inr (Or.inr (Or.inr (Or.inr (Or.inr (Or.inr (Or.inr (Or.inr (Or.inl (by omega))))))))))
      · exact Or.inr (Or.inr (Or.inr (Or.inr (Or.inr (Or.inr (Or.inr (Or.inr (Or.inr (Or.inr (Or.inl (by omega)))))))))))
      · exact Or.inr (Or.inr (Or.inr (Or.inr (Or.inr (Or.inr (Or.inr (Or.inr (Or.inr (Or.inr (Or.inr (Or.inl (by omega))))))))))))
      · exact Or.inr (Or.inr (Or.inr (Or.inr (Or.inr (Or.inr (Or.inr (Or.inr (Or.inr (Or.inr (Or.inr (Or.inr (Or.inl (by omega)))))))))))))
      · exact Or.inr (Or.inr (Or.inr (Or.inr (Or.inr (Or.inr (Or.inr (Or.inr (Or.inr (Or.inr (Or.inr (Or.inr (Or.inr ((by omega))))))))))))))
    · skip
      rcases q with q | q | q | q | q | q | q | q | q | q | q | q | q | q
      · exact absurd q (by omega)
      · exact Or.inr (Or.inl (by omega))
      · exact Or.inr (Or.inr (Or.inl (by omega)))
      · exact Or.inr (Or.inr (Or.inr (Or.inl (by omega))))
      · exact Or.inr (Or.inr (Or.inr (Or.inr (Or.inl (by omega)))))
      · exact Or.inr (Or.inr (Or.inr (Or.inr (Or.inr (Or.inl (by omega))))))
      · exact Or.inr (Or.inr (Or.inr (Or.inr (Or.inr (Or.inr (Or.inl (by omega)))))))
      · exact Or.inr (Or.inr (Or.inr (Or.inr (Or.inr (Or.inr (Or.inr (Or.inl (by omega))))))))
      · exact Or.inr (Or.inr (Or.inr (Or.inr (Or.inr (Or.inr (Or.inr (Or.inr (Or.inl (by omega)))))))))
      · exact Or.inr (Or.inr (Or.inr (Or.inr (Or.inr (Or.inr (Or.inr (Or.inr (Or.inr (Or.inl (by omega))))))))))
      · exact Or.inr (Or.inr (Or.inr (Or.inr (Or.inr (Or.inr (Or.inr (Or.inr (Or.inr (Or.inr (Or.inl (by omega)))))))))))
      · exact Or.inr (Or.inr (Or.inr (Or.inr (Or.inr (Or.inr (Or.inr (Or.inr (Or.inr (Or.inr (Or.inr (Or.inl (by omega))))))))))))
      · exact Or.inr (Or.inr (Or.inr (Or.inr (Or.inr (Or.inr (Or.inr (Or.inr (Or.inr (Or.inr (Or.inr (Or.inr (Or.inl (by omega)))))))))))))
      · exact Or.inr (Or.inr (Or.inr (Or.inr (Or.inr (Or.inr (Or.inr (Or.inr (Or.inr (Or.inr (Or.inr (Or.inr (Or.inr ((by omega))))))))))))))
  · rw [if_neg h]; rw [hz] at h
    exact (if_pos trivial).trans (if_pos (Or.inl (by omega))).symm
theorem sp_own_ns_0_30 (c : Int32) : own_ns_0_30 c = if c.toInt = 58 ∨ (65 ≤ c.toInt ∧ c.toInt ≤ 90) ∨ c.toInt = 95 ∨ (192 ≤ c.toInt ∧ c.toInt ≤ 214) ∨ (216 ≤ c.toInt ∧ c.toInt ≤ 246) ∨ (248 ≤ c.toInt ∧ c.toInt ≤ 767) ∨ (880 ≤ c.toInt ∧ c.toInt ≤ 893) ∨ (895 ≤ c.toInt ∧ c.toInt ≤ 8191) ∨ (8204 ≤ c.toInt ∧ c.toInt ≤ 8205) ∨ (8304 ≤ c.toInt ∧ c.toInt ≤ 8591) ∨ (11264 ≤ c.toInt ∧ c.toInt ≤ 12271) ∨ (12289 ≤ c.toInt ∧ c.toInt ≤ 55295) ∨ (63744 ≤ c.toInt ∧ c.toInt ≤ 64975) ∨ (65008 ≤ c.toInt ∧ c.toInt ≤ 65533) ∨ (65536 ≤ c.toInt ∧ c.toInt ≤ 983039) then 1 else 0 := by
  have hz : (c < (65 : Int32)) ↔ c.toInt < 65 := by simp only [Int32.lt_iff_toInt_lt, Int32.reduceToInt]
  show (if c < (65 : Int32) then own_ns_0_28 c else own_ns_0_29 c) = _
  rw [sp_own_ns_0_28, sp_own_ns_0_29]
  by_cases h : c < (65 : Int32)
  · rw [if_pos h]; rw [hz] at h
    refine own_ifc ⟨fun q => ?_, fun q => ?_⟩
    · skip
      rcases q with q | q | q | q | q | q | q | q | q | q | q | q | q | q
      · exact Or.inl (by omega)
      · exact absurd q (by omega)
      · exact absurd q (by omega)
      · exact absurd q (by omega)
      · exact absurd q (by omega)
      · exact absurd q (by omega)
      · exact absurd q (by omega)
      · exact absurd q (by omega)
      · exact absurd q (by omega)
      · exact absurd q (by omega)
      · exact absurd q (by omega)
      · exact absurd q (by omega)
      · exact absurd q (by omega)
      · exact absurd q (by omega)
    · skip
      rcases q with q | q | q | q | q | q | q | q | q | q | q | q | q | q | q
      · exact Or.inl (by omega)
      · exact absurd q (by omega)
      · exact absurd q (by omega)
      · exact absurd q (by omega)
      · exact absurd q (by omega)
      · exact absurd q (by omega)
      · exact absurd q (by omega)
      · exact absurd q (by omega)
      · exact absurd q (by omega)
      · exact absurd q (by omega)
      · exact absurd q (by omega)
      · exact absurd q (by omega)
      · exact absurd q (by omega)
      · exact absurd q (by omega)
      · exact absurd q (by omega)
  · rw [if_neg h]; rw [hz] at h
    refine own_ifc ⟨fun q => ?_, fun q => ?_⟩
    · skip
      rcases q with q | q | q | q | q | q | q | q | q | q | q | q | q | q
      · exact Or.inr (Or.inl (by omega))
      · exact Or.inr (Or.inr (Or.inl (by omega)))
      · exact Or.inr (Or.inr (Or.inr (Or.inl (by omega))))
      · exact Or.inr (Or.inr (Or.inr (Or.inr (Or.inl (by omega)))))
      · exact Or.inr (Or.inr (Or.inr (Or.inr (Or.inr (Or.inl (by omega))))))
      · exact Or.inr (Or.inr (Or.inr (Or.inr (Or.inr (Or.inr (Or.inl (by omega)))))))
      · exact Or.inr (Or.inr (Or.inr (Or.inr (Or.inr (Or.inr (Or.inr (Or.inl (by omega))))))))
      · exact Or.inr (Or.inr (Or.inr (Or.inr (Or.inr (Or.inr (Or.inr (Or.inr (Or.inl (by omega)))))))))
      · exact Or.inr (Or.inr (Or.inr (Or.inr (Or.inr (Or.inr (Or.inr (Or.inr (Or.inr (Or.inl (by omega))))))))))
      · exact Or.inr (Or.inr (Or.inr (Or.inr (Or.inr (Or.inr (Or.inr (Or.inr (Or.inr (Or.inr (Or.inl (by omega)))))))))))
      · exact Or.inr (Or.inr (Or.inr (Or.inr (Or.inr (Or.inr (Or.inr (Or.inr (Or.inr (Or.inr (Or.inr (Or.inl (by omega))))))))))))
      · exact Or.inr (Or.inr (Or.inr (Or.inr (Or.inr (Or.inr (Or.inr (Or.inr (Or.inr (Or.inr (Or.inr (Or.inr (Or.inl (by omega)))))))))))))
      · exact Or.inr (Or.inr (Or.inr (Or.inr (Or.inr (Or.inr (Or.inr (Or.inr (Or.inr (Or.inr (Or.inr (Or.inr (Or.inr (Or.inl (by omega))))))))))))))
      · exact Or.inr (Or.inr (Or.inr (Or.inr (Or.inr (Or.inr (Or.inr (Or.inr (Or.inr (Or.inr (Or.inr (Or.inr (Or.inr (Or.inr ((by omega)))))))))))))))
    · skip
      rcases q with q | q | q | q | q | q | q | q | q | q | q | q | q | q | q
      · exact absurd q (by omega)
      · exact Or.inl (by omega)
      · exact Or.inr (Or.inl (by omega))
      · exact Or.inr (Or.inr (Or.inl (by omega)))
      · exact Or.inr (Or.inr (Or.inr (Or.inl (by omega))))
      · exact Or.inr (Or.inr (Or.inr (Or.inr (Or.inl (by omega)))))
      · exact Or.inr (Or.inr (Or.inr (Or.inr (Or.inr (Or.inl (by omega))))))
      · exact Or.inr (Or.inr (Or.inr (Or.inr (Or.inr (Or.inr (Or.inl (by omega)))))))
      · exact Or.inr (Or.inr (Or.inr (Or.inr (Or.inr (Or.inr (Or.inr (Or.inl (by omega))))))))
      · exact Or.inr (Or.inr (Or.inr (Or.inr (Or.inr (Or.inr (Or.inr (Or.inr (Or.inl (by omega)))))))))
      · exact Or.inr (Or.inr (Or.inr (Or.inr (Or.inr (Or.inr (Or.inr (Or.inr (Or.inr (Or.inl (by omega))))))))))
      · exact Or.inr (Or.inr (Or.inr (Or.inr (Or.inr (Or.inr (Or.inr (Or.inr (Or.inr (Or.inr (Or.inl (by omega)))))))))))
      · exact Or.inr (Or.inr (Or.inr (Or.inr (Or.inr (Or.inr (Or.inr (Or.inr (Or.inr (Or.inr (Or.inr (Or.inl (by omega))))))))))))
      · exact Or.inr (Or.inr (Or.inr (Or.inr (Or.inr (Or.inr (Or.inr (Or.inr (Or.inr (Or.inr (Or.inr (Or.inr (Or.inl (by omega)))))))))))))
      · exact Or.inr (Or.inr (Or.inr (Or.inr (Or.inr (Or.inr (Or.inr (Or.inr (Or.inr (Or.inr (Or.inr (Or.inr (Or.inr ((by omega))))))))))))))
theorem sp_own_ns_0_31 (c : Int32) : own_ns_0_31 c = if c.toInt ≤ 122 ∨ (192 ≤ c.toInt ∧ c.toInt ≤ 214) ∨ (216 ≤ c.toInt ∧ c.toInt ≤ 246) ∨ (248 ≤ c.toInt ∧ c.toInt ≤ 767) ∨ (880 ≤ c.toInt ∧ c.toInt ≤ 893) ∨ (895 ≤ c.toInt ∧ c.toInt ≤ 8191) ∨ (8204 ≤ c.toInt ∧ c.toInt ≤ 8205) ∨ (8304 ≤ c.toInt ∧ c.toInt ≤ 8591) ∨ (11264 ≤ c.toInt ∧ c.toInt ≤ 12271) ∨ (12289 ≤ c.toInt ∧ c.toInt ≤ 55295) ∨ (63744 ≤ c.toInt ∧ c.toInt ≤ 64975) ∨ (65008 ≤ c.toInt ∧ c.toInt ≤ 65533) ∨ (65536 ≤ c.toInt ∧ c.toInt ≤ 983039) then 1 else 0 := by
  have hz : ((122 : Int32) < c) ↔ 122 < c.toInt := by simp only [Int32.lt_iff_toInt_lt, Int32.reduceToInt]
  show (if (122 : Int32) < c then own_ns_0_30 c else own_ns_0_1 c) = _
  rw [sp_own_ns_0_30, sp_own_ns_0_1]
  by_cases h : (122 : Int32) < c
  · rw [if_pos h]; rw [hz] at h
    refine own_ifc ⟨fun q => ?_, fun q => ?_⟩
    · skip
      rcases q with q | q | q | q | q | q | q | q | q | q | q | q | q | q | q
      · exact absurd q (by omega)
      · exact absurd q (by omega)
      · exact absurd q (by omega)
      · exact Or.inr (Or.inl (by omega))
      · exact Or.inr (Or.inr (Or.inl (by omega)))
      · exact Or.inr (Or.inr (Or.inr (Or.inl (by omega))))
      · exact Or.inr (Or.inr (Or.inr (Or.inr (Or.inl (by omega)))))
      · exact Or.inr (Or.inr (Or.inr (Or.inr (Or.inr (Or.inl (by omega))))))
      · exact Or.inr (Or.inr (Or.inr (Or.inr (Or.inr (Or.inr (Or.inl (by omega)))))))
      · exact Or.inr (Or.inr (Or.inr (Or.inr (Or.inr (Or.inr (Or.inr (Or.inl (by omega))))))))
      · exact Or.inr (Or.inr (Or.inr (Or.inr (Or.inr (Or.inr (Or.inr (Or.inr (Or.inl (by omega)))))))))
      · exact Or.inr (Or.inr (Or.inr (Or.inr (Or.inr (Or.inr (Or.inr (Or.inr (Or.inr (Or.inl (by omega))))))))))
      · exact Or.inr (Or.inr (Or.inr (Or.inr (Or.inr (Or.inr (Or.inr (Or.inr (Or.inr (Or.inr (Or.inl (by omega)))))))))))
      · exact Or.inr (Or.inr (Or.inr (Or.inr (Or.inr (Or.inr (Or.inr (Or.inr (Or.inr (Or.inr (Or.inr (Or.inl (by omega))))))))))))
      · exact Or.inr (Or.inr (Or.inr (Or.inr (Or.inr (Or.inr (Or.inr (Or.inr (Or.inr (Or.inr (Or.inr (Or.inr ((by omega)))))))))))))
    · skip
      rcases q with q | q | q | q | q | q | q | q | q | q | q | q | q
      · exact absurd q (by omega)
      · exact Or.inr (Or.inr (Or.inr (Or.inl (by omega))))
      · exact Or.inr (Or.inr (Or.inr (Or.inr (Or.inl (by omega)))))
      · exact Or.inr (Or.inr (Or.inr (Or.inr (Or.inr (Or.inl (by omega))))))
      · exact Or.inr (Or.inr (Or.inr (Or.inr (Or.inr (Or.inr (Or.inl (by omega)))))))
      · exact Or.inr (Or.inr (Or.inr (Or.inr (Or.inr (Or.inr (Or.inr (Or.inl (by omega))))))))
      · exact Or.inr (Or.inr (Or.inr (Or.inr (Or.inr (Or.inr (Or.inr (Or.inr (Or.inl (by omega)))))))))
      · exact Or.inr (Or.inr (Or.inr (Or.inr (Or.inr (Or.inr (Or.inr (Or.inr (Or.inr (Or.inl (by omega))))))))))
      · exact Or.inr (Or.inr (Or.inr (Or.inr (Or.inr (Or.inr (Or.inr (Or.inr (Or.inr (Or.inr (Or.inl (by omega)))))))))))
      · exact Or.inr (Or.inr (Or.inr (Or.inr (Or.inr (Or.inr (Or.inr (Or.inr (Or.inr (Or.inr (Or.inr (Or.inl (by omega))))))))))))
      · exact Or.inr (Or.inr (Or.inr (Or.inr (Or.inr (Or.inr (Or.inr (Or.inr (Or.inr (Or.inr (Or.inr (Or.inr (Or.inl (by omega)))))))))))))
      · exact Or.inr (Or.inr (Or.inr (Or.inr (Or.inr (Or.inr (Or.inr (Or.inr (Or.inr (Or.inr (Or.inr (Or.inr (Or.inr (Or.inl (by omega))))))))))))))
      · exact Or.inr (Or.inr (Or.inr (Or.inr (Or.inr (Or.inr (Or.inr (Or.inr (Or.inr (Or.inr (Or.inr (Or.inr (Or.inr (Or.inr ((by omega)))))))))))))))
  · rw [if_neg h]; rw [hz] at h
    exact (if_pos trivial).trans (if_pos (Or.inl (by omega))).symm
theorem sp_own_ns_0_32 (c : Int32) : own_ns_0_32 c = if c.toInt = 58 ∨ (65 ≤ c.toInt ∧ c.toInt ≤ 90) ∨ c.toInt = 95 ∨ (97 ≤ c.toInt ∧ c.toInt ≤ 122) ∨ (192 ≤ c.toInt ∧ c.toInt ≤ 214) ∨ (216 ≤ c.toInt ∧ c.toInt ≤ 246) ∨ (248 ≤ c.toInt ∧ c.toInt ≤ 767) ∨ (880 ≤ c.toInt ∧ c.toInt ≤ 893) ∨ (895 ≤ c.toInt ∧ c.toInt ≤ 8191) ∨ (8204 ≤ c.toInt ∧ c.toInt ≤ 8205) ∨ (8304 ≤ c.toInt ∧ c.toInt ≤ 8591) ∨ (11264 ≤ c.toInt ∧ c.toInt ≤ 12271) ∨ (12289 ≤ c.toInt ∧ c.toInt ≤ 55295) ∨ (63744 ≤ c.toInt ∧ c.toInt ≤ 64975) ∨ (65008 ≤ c.toInt ∧ c.toInt ≤ 65533) ∨ (65536 ≤ c.toInt ∧ c.toInt ≤ 983039) then 1 else 0 := by
  have hz : (c < (97 : Int32)) ↔ c.toInt < 97 := by simp only [Int32.lt_iff_toInt_lt, Int32.reduceToInt]
  show (if c < (97 : Int32) then own_ns_0_30 c else own_ns_0_31 c) = _
  rw [sp_own_ns_0_30, sp_own_ns_0_31]
  by_cases h : c < (97 : Int32)
  · rw [if_pos h]; rw [hz] at h
    refine own_ifc ⟨fun q => ?_, fun q => ?_⟩
    · skip
      rcases q with q | q | q | q | q | q | q | q | q | q | q | q | q | q | q
      · exact Or.inl (by omega)
      · exact Or.inr (Or.inl (by omega))
      · exact Or.inr (Or.inr (Or.inl (by omega)))
      · exact absurd q (by omega)
      · exact absurd q (by omega)
      · exact absurd q (by omega)
      · exact absurd q (by omega)
      · exact absurd q (by omega)
      · exact absurd q (by omega)
      · exact absurd q (by omega)
      · exact absurd q (by omega)
      · exact absurd q (by omega)
      · exact absurd q (by omega)
      · exact absurd q (by omega)
      · exact absurd q (by omega)
    · skip
      rcases q with q | q | q | q | q | q | q | q | q | q | q | q | q | q | q | q
      · exact Or.inl (by omega)
      · exact Or.inr (Or.inl (by omega))
      · exact Or.inr (Or.inr (Or.inl (by omega)))
      · exact absurd q (by omega)
      · exact absurd q (by omega)
      · exact absurd q (by omega)
      · exact absurd q (by omega)
      · exact absurd q (by omega)
      · exact absurd q (by omega)
      · exact absurd q (by omega)
      · exact absurd q (by omega)
      · exact absurd q (by omega)
      · exact absurd q (by omega)
      · exact absurd q (by omega)
      · exact absurd q (by omega)
      · exact absurd q (by omega)
  · rw [if_neg h]; rw [hz] at h
    refine own_ifc ⟨fun q => ?_, fun q => ?_⟩
    · skip
      rcases q with q | q | q | q | q | q | q | q | q | q | q | q | q
      · exact Or.inr (Or.inr (Or.inr (Or.inl (by omega))))
      · exact Or.inr (Or.inr (Or.inr (Or.inr (Or.inl (by omega)))))
      · exact Or.inr (Or.inr (Or.inr (Or.inr (Or.inr (Or.inl (by omega))))))
      · exact Or.inr (Or.inr (Or.inr (Or.inr (Or.inr (Or.inr (Or.inl (by omega)))))))
      · exact Or.inr (Or.inr (Or.inr (Or.inr (Or.inr (Or.inr (Or.inr (Or.inl (by omega))))))))
      · exact Or.inr (Or.inr (Or.inr (Or.inr (Or.inr (Or.inr (Or.inr (Or.inr (Or.inl (by omega)))))))))
      · exact Or.inr (Or.inr (Or.inr (Or.inr (Or.inr (Or.inr (Or.inr (Or.inr (Or.inr (Or.inl (by omega))))))))))
      · exact Or.inr (Or.inr (Or.inr (Or.inr (Or.inr (Or.inr (Or.inr (Or.inr (Or.inr (Or.inr (Or.inl (by omega)))))))))))
      · exact Or.inr (Or.inr (Or.inr (Or.inr (Or.inr (Or.inr (Or.inr (Or.inr (Or.inr (Or.inr (Or.inr (Or.inl (by omega))))))))))))
      · exact Or.inr (Or.inr (Or.inr (Or.inr (Or.inr (Or.inr (Or.inr (Or.inr (Or.inr (Or.inr (Or.inr (Or.inr (Or.inl (by omega)))))))))))))
      · exact Or.inr (Or.inr (Or.inr (Or.inr (Or.inr (Or.inr (Or.inr (Or.inr (Or.inr (Or.inr (Or.inr (Or.inr (Or.inr (Or.inl (by omega))))))))))))))
      · exact Or.inr (Or.inr (Or.inr (Or.inr (Or.inr (Or.inr (Or.inr (Or.inr (Or.inr (Or.inr (Or.inr (Or.inr (Or.inr (Or.inr (Or.inl (by omega)))))))))))))))
      · exact Or.inr (Or.inr (Or.inr (Or.inr (Or.inr (Or.inr (Or.inr (Or.inr (Or.inr (Or.inr (Or.inr (Or.inr (Or.inr (Or.inr (Or.inr ((by omega))))))))))))))))
    · skip
      rcases q with q | q | q | q | q | q | q | q | q | q | q | q | q | q | q | q
      · exact absurd q (by omega)
      · exact absurd q (by omega)
      · exact absurd q (by omega)
      · exact Or.inl (by omega)
      · exact Or.inr (Or.inl (by omega))
      · exact Or.inr (Or.inr (Or.inl (by omega)))
      · exact Or.inr (Or.inr (Or.inr (Or.inl (by omega))))
      · exact Or.inr (Or.inr (Or.inr (Or.inr (Or.inl (by omega)))))
      · exact Or.inr (Or.inr (Or.inr (Or.inr (Or.inr (Or.inl (by omega))))))
      · exact Or.inr (Or.inr (Or.inr (Or.inr (Or.inr (Or.inr (Or.inl (by omega)))))))
      · exact Or.inr (Or.inr (Or.inr (Or.inr (Or.inr (Or.inr (Or.inr (Or.inl (by omega))))))))
      · exact Or.inr (Or.inr (Or.inr (Or.inr (Or.inr (Or.inr (Or.inr (Or.inr (Or.inl (by omega)))))))))
      · exact Or.inr (Or.inr (Or.inr (Or.inr (Or.inr (Or.inr (Or.inr (Or.inr (Or.inr (Or.inl (by omega))))))))))
      · exact Or.inr (Or.inr (Or.inr (Or.inr (Or.inr (Or.inr (Or.inr (Or.inr (Or.inr (Or.inr (Or.inl (by omega)))))))))))
      · exact Or.inr (Or.inr (Or.inr (Or.inr (Or.inr (Or.inr (Or.inr (Or.inr (Or.inr (Or.inr (Or.inr (Or.inl (by omega))))))))))))
      · exact Or.inr (Or.inr (Or.inr (Or.inr (Or.inr (Or.inr (Or.inr (Or.inr (Or.inr (Or.inr (Or.inr (Or.inr ((by omega)))))))))))))
def own_tab : List Int32 := [(-2147483648 : Int32), (58 : Int32), (59 : Int32), (65 : Int32), (91 : Int32), (95 : Int32), (96 : Int32), (97 : Int32), (123 : Int32), (192 : Int32), (215 : Int32), (216 : Int32), (247 : Int32), (248 : Int32), (768 : Int32), (880 : Int32), (894 : Int32), (895 : Int32), (8192 : Int32), (8204 : Int32), (8206 : Int32), (8304 : Int32), (8592 : Int32), (11264 : Int32), (12272 : Int32), (12289 : Int32), (55296 : Int32), (63744 : Int32), (64976 : Int32), (65008 : Int32), (65534 : Int32), (65536 : Int32), (983040 : Int32)]
theorem own_getD (ws : List Int32) (i : Nat) : (ws.map Value.int).getD i (.int 0) = .int (ws.getD i 0) := by
  induction ws generalizing i with
  | nil => rfl
  | cons a t ih => cases i with
    | zero => rfl
    | succ n => exact ih n
def own_hi (ix : Int32) : Int64 := if ix = (32 : Int32) then (2147483647 : Int64) else (own_tab.getD (ix + (1 : Int32)).toNatClampNeg 0).toInt64 - (1 : Int64)
def own_ex_0_1 (ix : Int32) : Int32 := (0 : Int32)
def own_ex_0_2 (ix : Int32) : Int32 := (1 : Int32)
def own_ex_0_3 (ix : Int32) : Int32 := if (ix &&& (1 : Int32)) = (1 : Int32) then own_ex_0_2 ix else own_ex_0_1 ix
theorem own_case_0 (c : Int32) (h1 : -2147483648 ≤ c.toInt) (h2 : c.toInt ≤ 57) : own_ns_0_32 c = (0 : Int32) := by rw [sp_own_ns_0_32]; exact if_neg (fun q => by rcases q with q | q | q | q | q | q | q | q | q | q | q | q | q | q | q | q <;> omega)
theorem own_case_1 (c : Int32) (h1 : 58 ≤ c.toInt) (h2 : c.toInt ≤ 58) : own_ns_0_32 c = (1 : Int32) := by rw [sp_own_ns_0_32]; exact if_pos (Or.inl (by omega))
theorem own_case_2 (c : Int32) (h1 : 59 ≤ c.toInt) (h2 : c.toInt ≤ 64) : own_ns_0_32 c = (0 : Int32) := by rw [sp_own_ns_0_32]; exact if_neg (fun q => by rcases q with q | q | q | q | q | q | q | q | q | q | q | q | q | q | q | q <;> omega)
theorem own_case_3 (c : Int32) (h1 : 65 ≤ c.toInt) (h2 : c.toInt ≤ 90) : own_ns_0_32 c = (1 : Int32) := by rw [sp_own_ns_0_32]; exact if_pos (Or.inr (Or.inl (by omega)))
theorem own_case_4 (c : Int32) (h1 : 91 ≤ c.toInt) (h2 : c.toInt ≤ 94) : own_ns_0_32 c = (0 : Int32) := by rw [sp_own_ns_0_32]; exact if_neg (fun q => by rcases q with q | q | q | q | q | q | q | q | q | q | q | q | q | q | q | q <;> omega)
theorem own_case_5 (c : Int32) (h1 : 95 ≤ c.toInt) (h2 : c.toInt ≤ 95) : own_ns_0_32 c = (1 : Int32) := by rw [sp_own_ns_0_32]; exact if_pos (Or.inr (Or.inr (Or.inl (by omega))))
theorem own_case_6 (c : Int32) (h1 : 96 ≤ c.toInt) (h2 : c.toInt ≤ 96) : own_ns_0_32 c = (0 : Int32) := by rw [sp_own_ns_0_32]; exact if_neg (fun q => by rcases q with q | q | q | q | q | q | q | q | q | q | q | q | q | q | q | q <;> omega)
theorem own_case_7 (c : Int32) (h1 : 97 ≤ c.toInt) (h2 : c.toInt ≤ 122) : own_ns_0_32 c = (1 : Int32) := by rw [sp_own_ns_0_32]; exact if_pos (Or.inr (Or.inr (Or.inr (Or.inl (by omega)))))
theorem own_case_8 (c : Int32) (h1 : 123 ≤ c.toInt) (h2 : c.toInt ≤ 191) : own_ns_0_32 c = (0 : Int32) := by rw [sp_own_ns_0_32]; exact if_neg (fun q => by rcases q with q | q | q | q | q | q | q | q | q | q | q | q | q | q | q | q <;> omega)
theorem own_case_9 (c : Int32) (h1 : 192 ≤ c.toInt) (h2 : c.toInt ≤ 214) : own_ns_0_32 c = (1 : Int32) := by rw [sp_own_ns_0_32]; exact if_pos (Or.inr (Or.inr (Or.inr (Or.inr (Or.inl (by omega))))))
theorem own_case_10 (c : Int32) (h1 : 215 ≤ c.toInt) (h2 : c.toInt ≤ 215) : own_ns_0_32 c = (0 : Int32) := by rw [sp_own_ns_0_32]; exact if_neg (fun q => by rcases q with q | q | q | q | q | q | q | q | q | q | q | q | q | q | q | q <;> omega)
theorem own_case_11 (c : Int32) (h1 : 216 ≤ c.toInt) (h2 : c.toInt ≤ 246) : own_ns_0_32 c = (1 : Int32) := by rw [sp_own_ns_0_32]; exact if_pos (Or.inr (Or.inr (Or.inr (Or.inr (Or.inr (Or.inl (by omega)))))))
theorem own_case_12 (c : Int32) (h1 : 247 ≤ c.toInt) (h2 : c.toInt ≤ 247) : own_ns_0_32 c = (0 : Int32) := by rw [sp_own_ns_0_32]; exact if_neg (fun q => by rcases q with q | q | q | q | q | q | q | q | q | q | q | q | q | q | q | q <;> omega)
theorem own_case_13 (c : Int32) (h1 : 248 ≤ c.toInt) (h2 : c.toInt ≤ 767) : own_ns_0_32 c = (1 : Int32) := by rw [sp_own_ns_0_32]; exact if_pos (Or.inr (Or.inr (Or.inr (Or.inr (Or.inr (Or.inr (Or.inl (by omega))))))))
theorem own_case_14 (c : Int32) (h1 : 768 ≤ c.toInt) (h2 : c.toInt ≤ 879) : own_ns_0_32 c = (0 : Int32) := by rw [sp_own_ns_0_32]; exact if_neg (fun q => by rcases q with q | q | q | q | q | q | q | q | q | q | q | q | q | q | q | q <;> omega)
theorem own_case_15 (c : Int32) (h1 : 880 ≤ c.toInt) (h2 : c.toInt ≤ 893) : own_ns_0_32 c = (1 : Int32) := by rw [sp_own_ns_0_32]; exact if_pos (Or.inr (Or.inr (Or.inr (Or.inr (Or.inr (Or.inr (Or.inr (Or.inl (by omega)))))))))
theorem own_case_16 (c : Int32) (h1 : 894 ≤ c.toInt) (h2 : c.toInt ≤ 894) : own_ns_0_32 c = (0 : Int32) := by rw [sp_own_ns_0_32]; exact if_neg (fun q => by rcases q with q | q | q | q | q | q | q | q | q | q | q | q | q | q | q | q <;> omega)
theorem own_case_17 (c : Int32) (h1 : 895 ≤ c.toInt) (h2 : c.toInt ≤ 8191) : own_ns_0_32 c = (1 : Int32) := by rw [sp_own_ns_0_32]; exact if_pos (Or.inr (Or.inr (Or.inr (Or.inr (Or.inr (Or.inr (Or.inr (Or.inr (Or.inl (by omega))))))))))
theorem own_case_18 (c : Int32) (h1 : 8192 ≤ c.toInt) (h2 : c.toInt ≤ 8203) : own_ns_0_32 c = (0 : Int32) := by rw [sp_own_ns_0_32]; exact if_neg (fun q => by rcases q with q | q | q | q | q | q | q | q | q | q | q | q | q | q | q | q <;> omega)
theorem own_case_19 (c : Int32) (h1 : 8204 ≤ c.toInt) (h2 : c.toInt ≤ 8205) : own_ns_0_32 c = (1 : Int32) := by rw [sp_own_ns_0_32]; exact if_pos (Or.inr (Or.inr (Or.inr (Or.inr (Or.inr (Or.inr (Or.inr (Or.inr (Or.inr (Or.inl (by omega)))))))))))
theorem own_case_20 (c : Int32) (h1 : 8206 ≤ c.toInt) (h2 : c.toInt ≤ 8303) : own_ns_0_32 c = (0 : Int32) := by rw [sp_own_ns_0_32]; exact if_neg (fun q => by rcases q with q | q | q | q | q | q | q | q | q | q | q | q | q | q | q | q <;> omega)
theorem own_case_21 (c : Int32) (h1 : 8304 ≤ c.toInt) (h2 : c.toInt ≤ 8591) : own_ns_0_32 c = (1 : Int32) := by rw [sp_own_ns_0_32]; exact if_pos (Or.inr (Or.inr (Or.inr (Or.inr (Or.inr (Or.inr (Or.inr (Or.inr (Or.inr (Or.inr (Or.inl (by omega))))))))))))
theorem own_case_22 (c : Int32) (h1 : 8592 ≤ c.toInt) (h2 : c.toInt ≤ 11263) : own_ns_0_32 c = (0 : Int32) := by rw [sp_own_ns_0_32]; exact if_neg (fun q => by rcases q with q | q | q | q | q | q | q | q | q | q | q | q | q | q | q | q <;> omega)
theorem own_case_23 (c : Int32) (h1 : 11264 ≤ c.toInt) (h2 : c.toInt ≤ 12271) : own_ns_0_32 c = (1 : Int32) := by rw [sp_own_ns_0_32]; exact if_pos (Or.inr (Or.inr (Or.inr (Or.inr (Or.inr (Or.inr (Or.inr (Or.inr (Or.inr (Or.inr (Or.inr (Or.inl (by omega)))))))))))))
theorem own_case_24 (c : Int32) (h1 : 12272 ≤ c.toInt) (h2 : c.toInt ≤ 12288) : own_ns_0_32 c = (0 : Int32) := by rw [sp_own_ns_0_32]; exact if_neg (fun q => by rcases q with q | q | q | q | q | q | q | q | q | q | q | q | q | q | q | q <;> omega)
theorem own_case_25 (c : Int32) (h1 : 12289 ≤ c.toInt) (h2 : c.toInt ≤ 55295) : own_ns_0_32 c = (1 : Int32) := by rw [sp_own_ns_0_32]; exact if_pos (Or.inr (Or.inr (Or.inr (Or.inr (Or.inr (Or.inr (Or.inr (Or.inr (Or.inr (Or.inr (Or.inr (Or.inr (Or.inl (by omega))))))))))))))
theorem own_case_26 (c : Int32) (h1 : 55296 ≤ c.toInt) (h2 : c.toInt ≤ 63743) : own_ns_0_32 c = (0 : Int32) := by rw [sp_own_ns_0_32]; exact if_neg (fun q => by rcases q with q | q | q | q | q | q | q | q | q | q | q | q | q | q | q | q <;> omega)
theorem own_case_27 (c : Int32) (h1 : 63744 ≤ c.toInt) (h2 : c.toInt ≤ 64975) : own_ns_0_32 c = (1 : Int32) := by rw [sp_own_ns_0_32]; exact if_pos (Or.inr (Or.inr (Or.inr (Or.inr (Or.inr (Or.inr (Or.inr (Or.inr (Or.inr (Or.inr (Or.inr (Or.inr (Or.inr (Or.inl (by omega)))))))))))))))
theorem own_case_28 (c : Int32) (h1 : 64976 ≤ c.toInt) (h2 : c.toInt ≤ 65007) : own_ns_0_32 c = (0 : Int32) := by rw [sp_own_ns_0_32]; exact if_neg (fun q => by rcases q with q | q | q | q | q | q | q | q | q | q | q | q | q | q | q | q <;> omega)
theorem own_case_29 (c : Int32) (h1 : 65008 ≤ c.toInt) (h2 : c.toInt ≤ 65533) : own_ns_0_32 c = (1 : Int32) := by rw [sp_own_ns_0_32]; exact if_pos (Or.inr (Or.inr (Or.inr (Or.inr (Or.inr (Or.inr (Or.inr (Or.inr (Or.inr (Or.inr (Or.inr (Or.inr (Or.inr (Or.inr (Or.inl (by omega))))))))))))))))
theorem own_case_30 (c : Int32) (h1 : 65534 ≤ c.toInt) (h2 : c.toInt ≤ 65535) : own_ns_0_32 c = (0 : Int32) := by rw [sp_own_ns_0_32]; exact if_neg (fun q => by rcases q with q | q | q | q | q | q | q | q | q | q | q | q | q | q | q | q <;> omega)
theorem own_case_31 (c : Int32) (h1 : 65536 ≤ c.toInt) (h2 : c.toInt ≤ 983039) : own_ns_0_32 c = (1 : Int32) := by rw [sp_own_ns_0_32]; exact if_pos (Or.inr (Or.inr (Or.inr (Or.inr (Or.inr (Or.inr (Or.inr (Or.inr (Or.inr (Or.inr (Or.inr (Or.inr (Or.inr (Or.inr (Or.inr ((by omega)))))))))))))))))
theorem own_case_32 (c : Int32) (h1 : 983040 ≤ c.toInt) (h2 : c.toInt ≤ 2147483647) : own_ns_0_32 c = (0 : Int32) := by rw [sp_own_ns_0_32]; exact if_neg (fun q => by rcases q with q | q | q | q | q | q | q | q | q | q | q | q | q | q | q | q <;> omega)
theorem own_33 (ix : Int32) (h0 : 0 ≤ ix.toInt) (h1 : ix.toInt < 33) : ix = 0 ∨ ix = 1 ∨ ix = 2 ∨ ix = 3 ∨ ix = 4 ∨ ix = 5 ∨ ix = 6 ∨ ix = 7 ∨ ix = 8 ∨ ix = 9 ∨ ix = 10 ∨ ix = 11 ∨ ix = 12 ∨ ix = 13 ∨ ix = 14 ∨ ix = 15 ∨ ix = 16 ∨ ix = 17 ∨ ix = 18 ∨ ix = 19 ∨ ix = 20 ∨ ix = 21 ∨ ix = 22 ∨ ix = 23 ∨ ix = 24 ∨ ix = 25 ∨ ix = 26 ∨ ix = 27 ∨ ix = 28 ∨ ix = 29 ∨ ix = 30 ∨ ix = 31 ∨ ix = 32 :=
  own_small ix h0 33 (fun ix => ix = 0 ∨ ix = 1 ∨ ix = 2 ∨ ix = 3 ∨ ix = 4 ∨ ix = 5 ∨ ix = 6 ∨ ix = 7 ∨ ix = 8 ∨ ix = 9 ∨ ix = 10 ∨ ix = 11 ∨ ix = 12 ∨ ix = 13 ∨ ix = 14 ∨ ix = 15 ∨ ix = 16 ∨ ix = 17 ∨ ix = 18 ∨ ix = 19 ∨ ix = 20 ∨ ix = 21 ∨ ix = 22 ∨ ix = 23 ∨ ix = 24 ∨ ix = 25 ∨ ix = 26 ∨ ix = 27 ∨ ix = 28 ∨ ix = 29 ∨ ix = 30 ∨ ix = 31 ∨ ix = 32) (by decide +kernel) h1
theorem own_law (ix : Int32) (h0 : 0 ≤ ix.toInt) (h1 : ix.toInt < 33) (lo : Int32) (hlo : lo = own_tab.getD ix.toNatClampNeg 0) (hi : Int64) (hhi : hi = own_hi ix) :
    (lo.toInt ≤ hi.toInt ∧ -2147483648 ≤ hi.toInt ∧ hi.toInt ≤ 2147483647) ∧ ∀ c : Int32, lo.toInt ≤ c.toInt → c.toInt ≤ hi.toInt → own_ns_0_32 c = own_ex_0_3 ix := by
  subst hlo hhi
  rcases own_33 ix h0 h1 with rfl | rfl | rfl | rfl | rfl | rfl | rfl | rfl | rfl | rfl | rfl | rfl | rfl | rfl | rfl | rfl | rfl | rfl | rfl | rfl | rfl | rfl | rfl | rfl | rfl | rfl | rfl | rfl | rfl | rfl | rfl | rfl | rfl
  · have e1 : (own_tab.getD (0 : Int32).toNatClampNeg 0).toInt = -2147483648 := by decide +kernel
    have e2 : (own_hi (0 : Int32)).toInt = 57 := by decide +kernel
    have e3 : own_ex_0_3 (0 : Int32) = 0 := by decide +kernel
    rw [e1, e2, e3]
    exact ⟨by decide, own_case_0⟩
  · have e1 : (own_tab.getD (1 : Int32).toNatClampNeg 0).toInt = 58 := by decide +kernel
    have e2 : (own_hi (1 : Int32)).toInt = 58 := by decide +kernel
    have e3 : own_ex_0_3 (1 : Int32) = 1 := by decide +kernel
    rw [e1, e2, e3]
    exact ⟨by decide, own_case_1⟩
  · have e1 : (own_tab.getD (2 : Int32).toNatClampNeg 0).toInt = 59 := by decide +kernel
    have e2 : (own_hi (2 : Int32)).toInt = 64 := by decide +kernel
    have e3 : own_ex_0_3 (2 : Int32) = 0 := by decide +kernel
    rw [e1, e2, e3]
    exact ⟨by decide, own_case_2⟩
  · have e1 : (own_tab.getD (3 : Int32).toNatClampNeg 0).toInt = 65 := by decide +kernel
    have e2 : (own_hi (3 : Int32)).toInt = 90 := by decide +kernel
    have e3 : own_ex_0_3 (3 : Int32) = 1 := by decide +kernel
    rw [e1, e2, e3]
    exact ⟨by decide, own_case_3⟩
  · have e1 : (own_tab.getD (4 : Int32).toNatClampNeg 0).toInt = 91 := by decide +kernel
    have e2 : (own_hi (4 : Int32)).toInt = 94 := by decide +kernel
    have e3 : own_ex_0_3 (4 : Int32) = 0 := by decide +kernel
    rw [e1, e2, e3]
    exact ⟨by decide, own_case_4⟩
  · have e1 : (own_tab.getD (5 : Int32).toNatClampNeg 0).toInt = 95 := by decide +kernel
    have e2 : (own_hi (5 : Int32)).toInt = 95 := by decide +kernel
    have e3 : own_ex_0_3 (5 : Int32) = 1 := by decide +kernel
    rw [e1, e2, e3]
    exact ⟨by decide, own_case_5⟩
  · have e1 : (own_tab.getD (6 : Int32).toNatClampNeg 0).toInt = 96 := by decide +kernel
    have e2 : (own_hi (6 : Int32)).toInt = 96 := by decide +kernel
    have e3 : own_ex_0_3 (6 : Int32) = 0 := by decide +kernel
    rw [e1, e2, e3]
    exact ⟨by decide, own_case_6⟩
  · have e1 : (own_tab.getD (7 : Int32).toNatClampNeg 0).toInt = 97 := by decide +kernel
    have e2 : (own_hi (7 : Int32)).toInt = 122 := by decide +kernel
    have e3 : own_ex_0_3 (7 : Int32) = 1 := by decide +kernel
    rw [e1, e2, e3]
    exact ⟨by decide, own_case_7⟩
  · have e1 : (own_tab.getD (8 : Int32).toNatClampNeg 0).toInt = 123 := by decide +kernel
    have e2 : (own_hi (8 : Int32)).toInt = 191 := by decide +kernel
    have e3 : own_ex_0_3 (8 : Int32) = 0 := by decide +kernel
    rw [e1, e2, e3]
    exact ⟨by decide, own_case_8⟩
  · have e1 : (own_tab.getD (9 : Int32).toNatClampNeg 0).toInt = 192 := by decide +kernel
    have e2 : (own_hi (9 : Int32)).toInt = 214 := by decide +kernel
    have e3 : own_ex_0_3 (9 : Int32) = 1 := by decide +kernel
    rw [e1, e2, e3]
    exact ⟨by decide, own_case_9⟩
  · have e1 : (own_tab.getD (10 : Int32).toNatClampNeg 0).toInt = 215 := by decide +kernel
    have e2 : (own_hi (10 : Int32)).toInt = 215 := by decide +kernel
    have e3 : own_ex_0_3 (10 : Int32) = 0 := by decide +kernel
    rw [e1, e2, e3]
    exact ⟨by decide, own_case_10⟩
  · have e1 : (own_tab.getD (11 : Int32).toNatClampNeg 0).toInt = 216 := by decide +kernel
    have e2 : (own_hi (11 : Int32)).toInt = 246 := by decide +kernel
    have e3 : own_ex_0_3 (11 : Int32) = 1 := by decide +kernel
    rw [e1, e2, e3]
    exact ⟨by decide, own_case_11⟩
  · have e1 : (own_tab.getD (12 : Int32).toNatClampNeg 0).toInt = 247 := by decide +kernel
    have e2 : (own_hi (12 : Int32)).toInt = 247 := by decide +kernel
    have e3 : own_ex_0_3 (12 : Int32) = 0 := by decide +kernel
    rw [e1, e2, e3]
    exact ⟨by decide, own_case_12⟩
  · have e1 : (own_tab.getD (13 : Int32).toNatClampNeg 0).toInt = 248 := by decide +kernel
    have e2 : (own_hi (13 : Int32)).toInt = 767 := by decide +kernel
    have e3 : own_ex_0_3 (13 : Int32) = 1 := by decide +kernel
    rw [e1, e2, e3]
    exact ⟨by decide, own_case_13⟩
  · have e1 : (own_tab.getD (14 : Int32).toNatClampNeg 0).toInt = 768 := by decide +kernel
    have e2 : (own_hi (14 : Int32)).toInt = 879 := by decide +kernel
    have e3 : own_ex_0_3 (14 : Int32) = 0 := by decide +kernel
    rw [e1, e2, e3]
    exact ⟨by decide, own_case_14⟩
  · have e1 : (own_tab.getD (15 : Int32).toNatClampNeg 0).toInt = 880 := by decide +kernel
    have e2 : (own_hi (15 : Int32)).toInt = 893 := by decide +kernel
    have e3 : own_ex_0_3 (15 : Int32) = 1 := by decide +kernel
    rw [e1, e2, e3]
    exact ⟨by decide, own_case_15⟩
  · have e1 : (own_tab.getD (16 : Int32).toNatClampNeg 0).toInt = 894 := by decide +kernel
    have e2 : (own_hi (16 : Int32)).toInt = 894 := by decide +kernel
    have e3 : own_ex_0_3 (16 : Int32) = 0 := by decide +kernel
    rw [e1, e2, e3]
    exact ⟨by decide, own_case_16⟩
  · have e1 : (own_tab.getD (17 : Int32).toNatClampNeg 0).toInt = 895 := by decide +kernel
    have e2 : (own_hi (17 : Int32)).toInt = 8191 := by decide +kernel
    have e3 : own_ex_0_3 (17 : Int32) = 1 := by decide +kernel
    rw [e1, e2, e3]
    exact ⟨by decide, own_case_17⟩
  · have e1 : (own_tab.getD (18 : Int32).toNatClampNeg 0).toInt = 8192 := by decide +kernel
    have e2 : (own_hi (18 : Int32)).toInt = 8203 := by decide +kernel
    have e3 : own_ex_0_3 (18 : Int32) = 0 := by decide +kernel
    rw [e1, e2, e3]
    exact ⟨by decide, own_case_18⟩
  · have e1 : (own_tab.getD (19 : Int32).toNatClampNeg 0).toInt = 8204 := by decide +kernel
    have e2 : (own_hi (19 : Int32)).toInt = 8205 := by decide +kernel
    have e3 : own_ex_0_3 (19 : Int32) = 1 := by decide +kernel
    rw [e1, e2, e3]
    exact ⟨by decide, own_case_19⟩
  · have e1 : (own_tab.getD (20 : Int32).toNatClampNeg 0).toInt = 8206 := by decide +kernel
    have e2 : (own_hi (20 : Int32)).toInt = 8303 := by decide +kernel
    have e3 : own_ex_0_3 (20 : Int32) = 0 := by decide +kernel
    rw [e1, e2, e3]
    exact ⟨by decide, own_case_20⟩
  · have e1 : (own_tab.getD (21 : Int32).toNatClampNeg 0).toInt = 8304 := by decide +kernel
    have e2 : (own_hi (21 : Int32)).toInt = 8591 := by decide +kernel
    have e3 : own_ex_0_3 (21 : Int32) = 1 := by decide +kernel
    rw [e1, e2, e3]
    exact ⟨by decide, own_case_21⟩
  · have e1 : (own_tab.getD (22 : Int32).toNatClampNeg 0).toInt = 8592 := by decide +kernel
    have e2 : (own_hi (22 : Int32)).toInt = 11263 := by decide +kernel
    have e3 : own_ex_0_3 (22 : Int32) = 0 := by decide +kernel
    rw [e1, e2, e3]
    exact ⟨by decide, own_case_22⟩
  · have e1 : (own_tab.getD (23 : Int32).toNatClampNeg 0).toInt = 11264 := by decide +kernel
    have e2 : (own_hi (23 : Int32)).toInt = 12271 := by decide +kernel
    have e3 : own_ex_0_3 (23 : Int32) = 1 := by decide +kernel
    rw [e1, e2, e3]
    exact ⟨by decide, own_case_23⟩
  · have e1 : (own_tab.getD (24 : Int32).toNatClampNeg 0).toInt = 12272 := by decide +kernel
    have e2 : (own_hi (24 : Int32)).toInt = 12288 := by decide +kernel
    have e3 : own_ex_0_3 (24 : Int32) = 0 := by decide +kernel
    rw [e1, e2, e3]
    exact ⟨by decide, own_case_24⟩
  · have e1 : (own_tab.getD (25 : Int32).toNatClampNeg 0).toInt = 12289 := by decide +kernel
    have e2 : (own_hi (25 : Int32)).toInt = 55295 := by decide +kernel
    have e3 : own_ex_0_3 (25 : Int32) = 1 := by decide +kernel
    rw [e1, e2, e3]
    exact ⟨by decide, own_case_25⟩
  · have e1 : (own_tab.getD (26 : Int32).toNatClampNeg 0).toInt = 55296 := by decide +kernel
    have e2 : (own_hi (26 : Int32)).toInt = 63743 := by decide +kernel
    have e3 : own_ex_0_3 (26 : Int32) = 0 := by decide +kernel
    rw [e1, e2, e3]
    exact ⟨by decide, own_case_26⟩
  · have e1 : (own_tab.getD (27 : Int32).toNatClampNeg 0).toInt = 63744 := by decide +kernel
    have e2 : (own_hi (27 : Int32)).toInt = 64975 := by decide +kernel
    have e3 : own_ex_0_3 (27 : Int32) = 1 := by decide +kernel
    rw [e1, e2, e3]
    exact ⟨by decide, own_case_27⟩
  · have e1 : (own_tab.getD (28 : Int32).toNatClampNeg 0).toInt = 64976 := by decide +kernel
    have e2 : (own_hi (28 : Int32)).toInt = 65007 := by decide +kernel
    have e3 : own_ex_0_3 (28 : Int32) = 0 := by decide +kernel
    rw [e1, e2, e3]
    exact ⟨by decide, own_case_28⟩
  · have e1 : (own_tab.getD (29 : Int32).toNatClampNeg 0).toInt = 65008 := by decide +kernel
    have e2 : (own_hi (29 : Int32)).toInt = 65533 := by decide +kernel
    have e3 : own_ex_0_3 (29 : Int32) = 1 := by decide +kernel
    rw [e1, e2, e3]
    exact ⟨by decide, own_case_29⟩
  · have e1 : (own_tab.getD (30 : Int32).toNatClampNeg 0).toInt = 65534 := by decide +kernel
    have e2 : (own_hi (30 : Int32)).toInt = 65535 := by decide +kernel
    have e3 : own_ex_0_3 (30 : Int32) = 0 := by decide +kernel
    rw [e1, e2, e3]
    exact ⟨by decide, own_case_30⟩
  · have e1 : (own_tab.getD (31 : Int32).toNatClampNeg 0).toInt = 65536 := by decide +kernel
    have e2 : (own_hi (31 : Int32)).toInt = 983039 := by decide +kernel
    have e3 : own_ex_0_3 (31 : Int32) = 1 := by decide +kernel
    rw [e1, e2, e3]
    exact ⟨by decide, own_case_31⟩
  · have e1 : (own_tab.getD (32 : Int32).toNatClampNeg 0).toInt = 983040 := by decide +kernel
    have e2 : (own_hi (32 : Int32)).toInt = 2147483647 := by decide +kernel
    have e3 : own_ex_0_3 (32 : Int32) = 0 := by decide +kernel
    rw [e1, e2, e3]
    exact ⟨by decide, own_case_32⟩
theorem pn_rm0 : plainName "com/example/summarium/summarium/cda/XmlNamesIsNameStartPinLaw" = true := by first | (simp [plainName, overriddenIn]; done) | decide +kernel
theorem pd_rm0_0 : parseMethodDescriptor "(I)Z" = some ⟨[.int], some .boolean⟩ := by decide +kernel
theorem ef_rm0 (m : MethodId) (p1 : Int32) (p2 : Int32) : entryFrame m #[(.int p1), (.int p2)] maxLocals = (mkF m 0 #[.val (.int p1), .val (.int p2), .unset, .unset, .unset, .unset, .unset, .unset, .unset, .unset, .unset, .unset, .unset, .unset] []) := by first | (simp [entryFrame, mkF, argsToLocals, Value.category, maxLocals]; done) | rfl
def Q_rm0 (Z : State) (p1 : Int32) (p2 : Int32)  (h0 : Heap) (n0 : Nat) (v : Option Value) (h : Heap) (L : List Loc) : Prop := v = some (.int (1 : Int32)) ∧ Fr n0 L
set_option maxRecDepth 65536 in
set_option maxHeartbeats 40000000 in
theorem rm0 (l : Launch) (Z : State) (a0 : Array Value) (hw : ∀ d ∈ tables_1, d.before a0 Z = true) (ws : List Jvm.Cond) (p1 : Int32) (p2 : Int32)  (h0 : Heap) (n0 : Nat) (Z0 : n0 ≤ h0.size)  :
    MetFree l x (head1 (Jvm.Cond.code x code maxLocals ret :: ws) room_1) (fun a U => a = #[(.int p1), (.int p2)] ∧ Z.Warmed39 U.vm ∧ U.heap = h0) (fun _ _ _ _ _ => True) (fun _ U o U' => ∃ v L, o = .returned v ∧ Q_rm0 Z p1 p2 h0 n0 v U'.heap L ∧ FrameEnd U o U' L 1 33) := by
  refine MetFree.of_bodySF (plainFor_of_name pn_rm0) hisR ?_
  intro p e s m args below meth c s₁ Bd hml0 hP hK
  obtain ⟨rfl, hZ, hh⟩ := hP
  have hx := Bd.exec
  have hby := Bd.bytes
  have hml : c.maxLocals = 14 := hml0
  have hown : s.vm.findClass "com/example/summarium/summarium/cda/XmlNamesIsNameStartPinLaw" = some m.cls := findClass_of_methodNamed Bd.named
  have hnm := (name_of_methodNamed Bd.named Bd.method).1
  have X0 : Stand p l e room_1 s m #[(.int p1), (.int p2)] below meth c s₁ [] 0 0 := Stand.of_body Bd
  have e0 : s₁.heap = h0 := by rw [← hh, Bd.state]; rfl
  have N0 := Fr.nil n0
  have pre0 : Steps p.tables e below (s₁.setTop (entryFrame m #[(.int p1), (.int p2)] maxLocals)) (s₁.setTop (mkF m 0 #[.val (.int p1), .val (.int p2), .unset, .unset, .unset, .unset, .unset, .unset, .unset, .unset, .unset, .unset, .unset, .unset] [])) := castTop (ef_rm0 m p1 p2) (Steps.refl _)
  have pre1 : Steps p.tables e below _ (s₁.setTop (mkF m 2 #[.val (.int p1), .val (.int p2), .unset, .unset, .unset, .unset, .unset, .unset, .unset, .unset, .unset, .unset, .unset, .unset] [(.int (33 : Int32))])) := pre0.trans (by
    show Steps p.tables e below (s₁.setTop (mkF m 0 #[.val (.int p1), .val (.int p2), .unset, .unset, .unset, .unset, .unset, .unset, .unset, .unset, .unset, .unset, .unset, .unset] [])) _
    refine XS.bipush X0.here hx rfl (hb hby at_0) ?_
    exact Steps.refl _)
  obtain ⟨T2, h2, k2, X2, e2, E2, A2, st2⟩ := newP X0 hx hZ (hw _ (List.mem_of_getElem? (i := 0) rfl)) e0 (g := (mkF m 2 #[.val (.int p1), .val (.int p2), .unset, .unset, .unset, .unset, .unset, .unset, .unset, .unset, .unset, .unset, .unset, .unset] [(.int (33 : Int32))])) rfl (hb hby at_2) rfl (by decide) (cap := 33) (by decide) (by decide) (by decide) (by decide)
  obtain ⟨b2, g2⟩ : ∃ z, z = h0.size := ⟨_, rfl⟩
  rw [← g2] at A2 st2
  have g_b2 : n0 ≤ b2 := Nat.le_trans Z0 (Nat.le_of_eq g2.symm)
  have lt_b2 : b2 < h2.size := A2.lt
  have V2 : Arv Z h2 b2 k2 .int (33 : Int32) [(.int (0 : Int32)), (.int (0 : Int32)), (.int (0 : Int32)), (.int (0 : Int32)), (.int (0 : Int32)), (.int (0 : Int32)), (.int (0 : Int32)), (.int (0 : Int32)), (.int (0 : Int32)), (.int (0 : Int32)), (.int (0 : Int32)), (.int (0 : Int32)), (.int (0 : Int32)), (.int (0 : Int32)), (.int (0 : Int32)), (.int (0 : Int32)), (.int (0 : Int32)), (.int (0 : Int32)), (.int (0 : Int32)), (.int (0 : Int32)), (.int (0 : Int32)), (.int (0 : Int32)), (.int (0 : Int32)), (.int (0 : Int32)), (.int (0 : Int32)), (.int (0 : Int32)), (.int (0 : Int32)), (.int (0 : Int32)), (.int (0 : Int32)), (.int (0 : Int32)), (.int (0 : Int32)), (.int (0 : Int32)), (.int (0 : Int32))] (.int (0 : Int32)) := (Arv.new A2 (by decide)).pad (pad_rep [] (.int (0 : Int32)) 33)
  have Z2 : n0 ≤ h2.size := Nat.le_trans Z0 E2.1
  have pre2 : Steps p.tables e below _ (T2.setTop (mkF m 4 #[.val (.int p1), .val (.int p2), .unset, .unset, .unset, .unset, .unset, .unset, .unset, .unset, .unset, .unset, .unset, .unset] [(.ref b2)])) := pre1.trans (st2 _ (Steps.refl _))
  have pre3 : Steps p.tables e below _ (T2.setTop (mkF m 8 #[.val (.int p1), .val (.int p2), .unset, .unset, .unset, .unset, .unset, .unset, .unset, .unset, .unset, .unset, .unset, .unset] [(.int (-2147483648 : Int32)), (.int (0 : Int32)), (.ref b2), (.ref b2)])) := pre2.trans (by
    show Steps p.tables e below (T2.setTop (mkF m 4 #[.val (.int p1), .val (.int p2), .unset, .unset, .unset, .unset, .unset, .unset, .unset, .unset, .unset, .unset, .unset, .unset] [(.ref b2)])) _
    refine XS.dup X2.here hx rfl (hb hby at_4) rfl rfl ?_
    show Steps p.tables e below (T2.setTop (mkF m 5 #[.val (.int p1), .val (.int p2), .unset, .unset, .unset, .unset, .unset, .unset, .unset, .unset, .unset, .unset, .unset, .unset] [(.ref b2), (.ref b2)])) _
    refine XS.iconst X2.here hx rfl (hb hby at_5) ?_
    show Steps p.tables e below (T2.setTop (mkF m 6 #[.val (.int p1), .val (.int p2), .unset, .unset, .unset, .unset, .unset, .unset, .unset, .unset, .unset, .unset, .unset, .unset] [(.int (0 : Int32)), (.ref b2), (.ref b2)])) _
    refine X2.ldcInt hx hown (mvT hZ (hw _ (List.mem_of_getElem? (i := 1) rfl))) (g := (mkF m 6 #[.val (.int p1), .val (.int p2), .unset, .unset, .unset, .unset, .unset, .unset, .unset, .unset, .unset, .unset, .unset, .unset] [(.int (0 : Int32)), (.ref b2), (.ref b2)])) rfl (hb hby at_6) _ ?_
    exact Steps.refl _)
  obtain ⟨cl4, Ar4, q4, S4, M4, H4, G4⟩ := V2
  have hin4 : ¬ ((0 : Int32) < 0 ∨ cl4.slots.size ≤ ((0 : Int32)).toNatClampNeg) := inb_of S4 ⟨by decide, by decide⟩
  obtain ⟨T4, h4, X4, e4, W4, st4⟩ := stI X2 hx hZ e2 Ar4 (j := (0 : Int32)) hin4 (g := (mkF m 8 #[.val (.int p1), .val (.int p2), .unset, .unset, .unset, .unset, .unset, .unset, .unset, .unset, .unset, .unset, .unset, .unset] [(.int (-2147483648 : Int32)), (.int (0 : Int32)), (.ref b2), (.ref b2)])) rfl rfl (hb hby at_8)
  have V4 : Arv Z h4 b2 k2 .int (33 : Int32) [(.int (-2147483648 : Int32)), (.int (0 : Int32)), (.int (0 : Int32)), (.int (0 : Int32)), (.int (0 : Int32)), (.int (0 : Int32)), (.int (0 : Int32)), (.int (0 : Int32)), (.int (0 : Int32)), (.int (0 : Int32)), (.int (0 : Int32)), (.int (0 : Int32)), (.int (0 : Int32)), (.int (0 : Int32)), (.int (0 : Int32)), (.int (0 : Int32)), (.int (0 : Int32)), (.int (0 : Int32)), (.int (0 : Int32)), (.int (0 : Int32)), (.int (0 : Int32)), (.int (0 : Int32)), (.int (0 : Int32)), (.int (0 : Int32)), (.int (0 : Int32)), (.int (0 : Int32)), (.int (0 : Int32)), (.int (0 : Int32)), (.int (0 : Int32)), (.int (0 : Int32)), (.int (0 : Int32)), (.int (0 : Int32)), (.int (0 : Int32))] (.int (0 : Int32)) := Arv.set Ar4 q4 S4 M4 H4 G4 rfl W4 0 rfl (Nat.le_of_ble_eq_true rfl)
  have N4 := Fr.snoc X4 N0 g_b2
  have Z4 : n0 ≤ h4.size := Nat.le_trans Z2 (Keep.of_wr W4).1
  have pre4 : Steps p.tables e below _ (T4.setTop (mkF m 9 #[.val (.int p1), .val (.int p2), .unset, .unset, .unset, .unset, .unset, .unset, .unset, .unset, .unset, .unset, .unset, .unset] [(.ref b2)])) := pre3.trans (st4 _ (Steps.refl _))
  have pre5 : Steps p.tables e below _ (T4.setTop (mkF m 13 #[.val (.int p1), .val (.int p2), .unset, .unset, .unset, .unset, .unset, .unset, .unset, .unset, .unset, .unset, .unset, .unset] [(.int (58 : Int32)), (.int (1 : Int32)), (.ref b2), (.ref b2)])) := pre4.trans (by
    show Steps p.tables e below (T4.setTop (mkF m 9 #[.val (.int p1), .val (.int p2), .unset, .unset, .unset, .unset, .unset, .unset, .unset, .unset, .unset, .unset, .unset, .unset] [(.ref b2)])) _
    refine XS.dup X4.here hx rfl (hb hby at_9) rfl rfl ?_
    show Steps p.tables e below (T4.setTop (mkF m 10 #[.val (.int p1), .val (.int p2), .unset, .unset, .unset, .unset, .unset, .unset, .unset, .unset, .unset, .unset, .unset, .unset] [(.ref b2), (.ref b2)])) _
    refine XS.iconst X4.here hx rfl (hb hby at_10) ?_
    show Steps p.tables e below (T4.setTop (mkF m 11 #[.val (.int p1), .val (.int p2), .unset, .unset, .unset, .unset, .unset, .unset, .unset, .unset, .unset, .unset, .unset, .unset] [(.int (1 : Int32)), (.ref b2), (.ref b2)])) _
    refine XS.bipush X4.here hx rfl (hb hby at_11) ?_
    exact Steps.refl _)
  obtain ⟨cl6, Ar6, q6, S6, M6, H6, G6⟩ := V4
  have hin6 : ¬ ((1 : Int32) < 0 ∨ cl6.slots.size ≤ ((1 : Int32)).toNatClampNeg) := inb_of S6 ⟨by decide, by decide⟩
  obtain ⟨T6, h6, X6, e6, W6, st6⟩ := stI X4 hx hZ e4 Ar6 (j := (1 : Int32)) hin6 (g := (mkF m 13 #[.val (.int p1), .val (.int p2), .unset, .unset, .unset, .unset, .unset, .unset, .unset, .unset, .unset, .unset, .unset, .unset] [(.int (58 : Int32)), (.int (1 : Int32)), (.ref b2), (.ref b2)])) rfl rfl (hb hby at_13)
  have V6 : Arv Z h6 b2 k2 .int (33 : Int32) [(.int (-2147483648 : Int32)), (.int (58 : Int32)), (.int (0 : Int32)), (.int (0 : Int32)), (.int (0 : Int32)), (.int (0 : Int32)), (.int (0 : Int32)), (.int (0 : Int32)), (.int (0 : Int32)), (.int (0 : Int32)), (.int (0 : Int32)), (.int (0 : Int32)), (.int (0 : Int32)), (.int (0 : Int32)), (.int (0 : Int32)), (.int (0 : Int32)), (.int (0 : Int32)), (.int (0 : Int32)), (.int (0 : Int32)), (.int (0 : Int32)), (.int (0 : Int32)), (.int (0 : Int32)), (.int (0 : Int32)), (.int (0 : Int32)), (.int (0 : Int32)), (.int (0 : Int32)), (.int (0 : Int32)), (.int (0 : Int32)), (.int (0 : Int32)), (.int (0 : Int32)), (.int (0 : Int32)), (.int (0 : Int32)), (.int (0 : Int32))] (.int (0 : Int32)) := Arv.set Ar6 q6 S6 M6 H6 G6 rfl W6 1 rfl (Nat.le_of_ble_eq_true rfl)
  have N6 := Fr.snoc X6 N4 g_b2
  have Z6 : n0 ≤ h6.size := Nat.le_trans Z4 (Keep.of_wr W6).1
  have pre6 : Steps p.tables e below _ (T6.setTop (mkF m 14 #[.val (.int p1), .val (.int p2), .unset, .unset, .unset, .unset, .unset, .unset, .unset, .unset, .unset, .unset, .unset, .unset] [(.ref b2)])) := pre5.trans (st6 _ (Steps.refl _))
  have pre7 : Steps p.tables e below _ (T6.setTop (mkF m 18 #[.val (.int p1), .val (.int p2), .unset, .unset, .unset, .unset, .unset, .unset, .unset, .unset, .unset, .unset, .unset, .unset] [(.int (59 : Int32)), (.int (2 : Int32)), (.ref b2), (.ref b2)])) := pre6.trans (by
    show Steps p.tables e below (T6.setTop (mkF m 14 #[.val (.int p1), .val (.int p2), .unset, .unset, .unset, .unset, .unset, .unset, .unset, .unset, .unset, .unset, .unset, .unset] [(.ref b2)])) _
    refine XS.dup X6.here hx rfl (hb hby at_14) rfl rfl ?_
    show Steps p.tables e below (T6.setTop (mkF m 15 #[.val (.int p1), .val (.int p2), .unset, .unset, .unset, .unset, .unset, .unset, .unset, .unset, .unset, .unset, .unset, .unset] [(.ref b2), (.ref b2)])) _
    refine XS.iconst X6.here hx rfl (hb hby at_15) ?_
    show Steps p.tables e below (T6.setTop (mkF m 16 #[.val (.int p1), .val (.int p2), .unset, .unset, .unset, .unset, .unset, .unset, .unset, .unset, .unset, .unset, .unset, .unset] [(.int (2 : Int32)), (.ref b2), (.ref b2)])) _
    refine XS.bipush X6.here hx rfl (hb hby at_16) ?_
    exact Steps.refl _)
  obtain ⟨cl8, Ar8, q8, S8, M8, H8, G8⟩ := V6
  have hin8 : ¬ ((2 : Int32) < 0 ∨ cl8.slots.size ≤ ((2 : Int32)).toNatClampNeg) := inb_of S8 ⟨by decide, by decide⟩
  obtain ⟨T8, h8, X8, e8, W8, st8⟩ := stI X6 hx hZ e6 Ar8 (j := (2 : Int32)) hin8 (g := (mkF m 18 #[.val (.int p1), .val (.int p2), .unset, .unset, .unset, .unset, .unset, .unset, .unset, .unset, .unset, .unset, .unset, .unset] [(.int (59 : Int32)), (.int (2 : Int32)), (.ref b2), (.ref b2)])) rfl rfl (hb hby at_18)
  have V8 : Arv Z h8 b2 k2 .int (33 : Int32) [(.int (-2147483648 : Int32)), (.int (58 : Int32)), (.int (59 : Int32)), (.int (0 : Int32)), (.int (0 : Int32)), (.int (0 : Int32)), (.int (0 : Int32)), (.int (0 : Int32)), (.int (0 : Int32)), (.int (0 : Int32)), (.int (0 : Int32)), (.int (0 : Int32)), (.int (0 : Int32)), (.int (0 : Int32)), (.int (0 : Int32)), (.int (0 : Int32)), (.int (0 : Int32)), (.int (0 : Int32)), (.int (0 : Int32)), (.int (0 : Int32)), (.int (0 : Int32)), (.int (0 : Int32)), (.int (0 : Int32)), (.int (0 : Int32)), (.int (0 : Int32)), (.int (0 : Int32)), (.int (0 : Int32)), (.int (0 : Int32)), (.int (0 : Int32)), (.int (0 : Int32)), (.int (0 : Int32)), (.int (0 : Int32)), (.int (0 : Int32))] (.int (0 : Int32)) := Arv.set Ar8 q8 S8 M8 H8 G8 rfl W8 2 rfl (Nat.le_of_ble_eq_true rfl)
  have N8 := Fr.snoc X8 N6 g_b2
  have Z8 : n0 ≤ h8.size := Nat.le_trans Z6 (Keep.of_wr W8).1
  have pre8 : Steps p.tables e below _ (T8.setTop (mkF m 19 #[.val (.int p1), .val (.int p2), .unset, .unset, .unset, .unset, .unset, .unset, .unset, .unset, .unset, .unset, .unset, .unset] [(.ref b2)])) := pre7.trans (st8 _ (Steps.refl _))
  have pre9 : Steps p.tables e below _ (T8.setTop (mkF m 23 #[.val (.int p1), .val (.int p2), .unset, .unset, .unset, .unset, .unset, .unset, .unset, .unset, .unset, .unset, .unset, .unset] [(.int (65 : Int32)), (.int (3 : Int32)), (.ref b2), (.ref b2)])) := pre8.trans (by
    show Steps p.tables e below (T8.setTop (mkF m 19 #[.val (.int p1), .val (.int p2), .unset, .unset, .unset, .unset, .unset, .unset, .unset, .unset, .unset, .unset, .unset, .unset] [(.ref b2)])) _
    refine XS.dup X8.here hx rfl (hb hby at_19) rfl rfl ?_
    show Steps p.tables e below (T8.setTop (mkF m 20 #[.val (.int p1), .val (.int p2), .unset, .unset, .unset, .unset, .unset, .unset, .unset, .unset, .unset, .unset, .unset, .unset] [(.ref b2), (.ref b2)])) _
    refine XS.iconst X8.here hx rfl (hb hby at_20) ?_
    show Steps p.tables e below (T8.setTop (mkF m 21 #[.val (.int p1), .val (.int p2), .unset, .unset, .unset, .unset, .unset, .unset, .unset, .unset, .unset, .unset, .unset, .unset] [(.int (3 : Int32)), (.ref b2), (.ref b2)])) _
    refine XS.bipush X8.here hx rfl (hb hby at_21) ?_
    exact Steps.refl _)
  obtain ⟨cl10, Ar10, q10, S10, M10, H10, G10⟩ := V8
  have hin10 : ¬ ((3 : Int32) < 0 ∨ cl10.slots.size ≤ ((3 : Int32)).toNatClampNeg) := inb_of S10 ⟨by decide, by decide⟩
  obtain ⟨T10, h10, X10, e10, W10, st10⟩ := stI X8 hx hZ e8 Ar10 (j := (3 : Int32)) hin10 (g := (mkF m 23 #[.val (.int p1), .val (.int p2), .unset, .unset, .unset, .unset, .unset, .unset, .unset, .unset, .unset, .unset, .unset, .unset] [(.int (65 : Int32)), (.int (3 : Int32)), (.ref b2), (.ref b2)])) rfl rfl (hb hby at_23)
  have V10 : Arv Z h10 b2 k2 .int (33 : Int32) [(.int (-2147483648 : Int32)), (.int (58 : Int32)), (.int (59 : Int32)), (.int (65 : Int32)), (.int (0 : Int32)), (.int (0 : Int32)), (.int (0 : Int32)), (.int (0 : Int32)), (.int (0 : Int32)), (.int (0 : Int32)), (.int (0 : Int32)), (.int (0 : Int32)), (.int (0 : Int32)), (.int (0 : Int32)), (.int (0 : Int32)), (.int (0 : Int32)), (.int (0 : Int32)), (.int (0 : Int32)), (.int (0 : Int32)), (.int (0 : Int32)), (.int (0 : Int32)), (.int (0 : Int32)), (.int (0 : Int32)), (.int (0 : Int32)), (.int (0 : Int32)), (.int (0 : Int32)), (.int (0 : Int32)), (.int (0 : Int32)), (.int (0 : Int32)), (.int (0 : Int32)), (.int (0 : Int32)), (.int (0 : Int32)), (.int (0 : Int32))] (.int (0 : Int32)) := Arv.set Ar10 q10 S10 M10 H10 G10 rfl W10 3 rfl (Nat.le_of_ble_eq_true rfl)
  have N10 := Fr.snoc X10 N8 g_b2
  have Z10 : n0 ≤ h10.size := Nat.le_trans Z8 (Keep.of_wr W10).1
  have pre10 : Steps p.tables e below _ (T10.setTop (mkF m 24 #[.val (.int p1), .val (.int p2), .unset, .unset, .unset, .unset, .unset, .unset, .unset, .unset, .unset, .unset, .unset, .unset] [(.ref b2)])) := pre9.trans (st10 _ (Steps.refl _))
  have pre11 : Steps p.tables e below _ (T10.setTop (mkF m 28 #[.val (.int p1), .val (.int p2), .unset, .unset, .unset, .unset, .unset, .unset, .unset, .unset, .unset, .unset, .unset, .unset] [(.int (91 : Int32)), (.int (4 : Int32)), (.ref b2), (.ref b2)])) := pre10.trans (by
    show Steps p.tables e below (T10.setTop (mkF m 24 #[.val (.int p1), .val (.int p2), .unset, .unset, .unset, .unset, .unset, .unset, .unset, .unset, .unset, .unset, .unset, .unset] [(.ref b2)])) _
    refine XS.dup X10.here hx rfl (hb hby at_24) rfl rfl ?_
    show Steps p.tables e below (T10.setTop (mkF m 25 #[.val (.int p1), .val (.int p2), .unset, .unset, .unset, .unset, .unset, .unset, .unset, .unset, .unset, .unset, .unset, .unset] [(.ref b2), (.ref b2)])) _
    refine XS.iconst X10.here hx rfl (hb hby at_25) ?_
    show Steps p.tables e below (T10.setTop (mkF m 26 #[.val (.int p1), .val (.int p2), .unset, .unset, .unset, .unset, .unset, .unset, .unset, .unset, .unset, .unset, .unset, .unset] [(.int (4 : Int32)), (.ref b2), (.ref b2)])) _
    refine XS.bipush X10.here hx rfl (hb hby at_26) ?_
    exact Steps.refl _)
  obtain ⟨cl12, Ar12, q12, S12, M12, H12, G12⟩ := V10
  have hin12 : ¬ ((4 : Int32) < 0 ∨ cl12.slots.size ≤ ((4 : Int32)).toNatClampNeg) := inb_of S12 ⟨by decide, by decide⟩
  obtain ⟨T12, h12, X12, e12, W12, st12⟩ := stI X10 hx hZ e10 Ar12 (j := (4 : Int32)) hin12 (g := (mkF m 28 #[.val (.int p1), .val (.int p2), .unset, .unset, .unset, .unset, .unset, .unset, .unset, .unset, .unset, .unset, .unset, .unset] [(.int (91 : Int32)), (.int (4 : Int32)), (.ref b2), (.ref b2)])) rfl rfl (hb hby at_28)
  have V12 : Arv Z h12 b2 k2 .int (33 : Int32) [(.int (-2147483648 : Int32)), (.int (58 : Int32)), (.int (59 : Int32)), (.int (65 : Int32)), (.int (91 : Int32)), (.int (0 : Int32)), (.int (0 : Int32)), (.int (0 : Int32)), (.int (0 : Int32)), (.int (0 : Int32)), (.int (0 : Int32)), (.int (0 : Int32)), (.int (0 : Int32)), (.int (0 : Int32)), (.int (0 : Int32)), (.int (0 : Int32)), (.int (0 : Int32)), (.int (0 : Int32)), (.int (0 : Int32)), (.int (0 : Int32)), (.int (0 : Int32)), (.int (0 : Int32)), (.int (0 : Int32)), (.int (0 : Int32)), (.int (0 : Int32)), (.int (0 : Int32)), (.int (0 : Int32)), (.int (0 : Int32)), (.int (0 : Int32)), (.int (0 : Int32)), (.int (0 : Int32)), (.int (0 : Int32)), (.int (0 : Int32))] (.int (0 : Int32)) := Arv.set Ar12 q12 S12 M12 H12 G12 rfl W12 4 rfl (Nat.le_of_ble_eq_true rfl)
  have N12 := Fr.snoc X12 N10 g_b2
  have Z12 : n0 ≤ h12.size := Nat.le_trans Z10 (Keep.of_wr W12).1
  have pre12 : Steps p.tables e below _ (T12.setTop (mkF m 29 #[.val (.int p1), .val (.int p2), .unset, .unset, .unset, .unset, .unset, .unset, .unset, .unset, .unset, .unset, .unset, .unset] [(.ref b2)])) := pre11.trans (st12 _ (Steps.refl _))
  have pre13 : Steps p.tables e below _ (T12.setTop (mkF m 33 #[.val (.int p1), .val (.int p2), .unset, .unset, .unset, .unset, .unset, .unset, .unset, .unset, .unset, .unset, .unset, .unset] [(.int (95 : Int32)), (.int (5 : Int32)), (.ref b2), (.ref b2)])) := pre12.trans (by
    show Steps p.tables e below (T12.setTop (mkF m 29 #[.val (.int p1), .val (.int p2), .unset, .unset, .unset, .unset, .unset, .unset, .unset, .unset, .unset, .unset, .unset, .unset] [(.ref b2)])) _
    refine XS.dup X12.here hx rfl (hb hby at_29) rfl rfl ?_
    show Steps p.tables e below (T12.setTop (mkF m 30 #[.val (.int p1), .val (.int p2), .unset, .unset, .unset, .unset, .unset, .unset, .unset, .unset, .unset, .unset, .unset, .unset] [(.ref b2), (.ref b2)])) _
    refine XS.iconst X12.here hx rfl (hb hby at_30) ?_
    show Steps p.tables e below (T12.setTop (mkF m 31 #[.val (.int p1), .val (.int p2), .unset, .unset, .unset, .unset, .unset, .unset, .unset, .unset, .unset, .unset, .unset, .unset] [(.int (5 : Int32)), (.ref b2), (.ref b2)])) _
    refine XS.bipush X12.here hx rfl (hb hby at_31) ?_
    exact Steps.refl _)
  obtain ⟨cl14, Ar14, q14, S14, M14, H14, G14⟩ := V12
  have hin14 : ¬ ((5 : Int32) < 0 ∨ cl14.slots.size ≤ ((5 : Int32)).toNatClampNeg) := inb_of S14 ⟨by decide, by decide⟩
  obtain ⟨T14, h14, X14, e14, W14, st14⟩ := stI X12 hx hZ e12 Ar14 (j := (5 : Int32)) hin14 (g := (mkF m 33 #[.val (.int p1), .val (.int p2), .unset, .unset, .unset, .unset, .unset, .unset, .unset, .unset, .unset, .unset, .unset, .unset] [(.int (95 : Int32)), (.int (5 : Int32)), (.ref b2), (.ref b2)])) rfl rfl (hb hby at_33)
  have V14 : Arv Z h14 b2 k2 .int (33 : Int32) [(.int (-2147483648 : Int32)), (.int (58 : Int32)), (.int (59 : Int32)), (.int (65 : Int32)), (.int (91 : Int32)), (.int (95 : Int32)), (.int (0 : Int32)), (.int (0 : Int32)), (.int (0 : Int32)), (.int (0 : Int32)), (.int (0 : Int32)), (.int (0 : Int32)), (.int (0 : Int32)), (.int (0 : Int32)), (.int (0 : Int32)), (.int (0 : Int32)), (.int (0 : Int32)), (.int (0 : Int32)), (.int (0 : Int32)), (.int (0 : Int32)), (.int (0 : Int32)), (.int (0 : Int32)), (.int (0 : Int32)), (.int (0 : Int32)), (.int (0 : Int32)), (.int (0 : Int32)), (.int (0 : Int32)), (.int (0 : Int32)), (.int (0 : Int32)), (.int (0 : Int32)), (.int (0 : Int32)), (.int (0 : Int32)), (.int (0 : Int32))] (.int (0 : Int32)) := Arv.set Ar14 q14 S14 M14 H14 G14 rfl W14 5 rfl (Nat.le_of_ble_eq_true rfl)
  have N14 := Fr.snoc X14 N12 g_b2
  have Z14 : n0 ≤ h14.size := Nat.le_trans Z12 (Keep.of_wr W14).1
  have pre14 : Steps p.tables e below _ (T14.setTop (mkF m 34 #[.val (.int p1), .val (.int p2), .unset, .unset, .unset, .unset, .unset, .unset, .unset, .unset, .unset, .unset, .unset, .unset] [(.ref b2)])) := pre13.trans (st14 _ (Steps.refl _))
  obtain ⟨lc15, X15, N15⟩ : ∃ lc : List Loc, Stand p l e room_1 s m #[(.int p1), (.int p2)] below meth c T14 lc 1 33 ∧ Fr n0 lc := ⟨_, X14, N14⟩
  have pre16 : Steps p.tables e below _ (T14.setTop (mkF m 39 #[.val (.int p1), .val (.int p2), .unset, .unset, .unset, .unset, .unset, .unset, .unset, .unset, .unset, .unset, .unset, .unset] [(.int (96 : Int32)), (.int (6 : Int32)), (.ref b2), (.ref b2)])) := pre14.trans (by
    show Steps p.tables e below (T14.setTop (mkF m 34 #[.val (.int p1), .val (.int p2), .unset, .unset, .unset, .unset, .unset, .unset, .unset, .unset, .unset, .unset, .unset, .unset] [(.ref b2)])) _
    refine XS.dup X15.here hx rfl (hb hby at_34) rfl rfl ?_
    show Steps p.tables e below (T14.setTop (mkF m 35 #[.val (.int p1), .val (.int p2), .unset, .unset, .unset, .unset, .unset, .unset, .unset, .unset, .unset, .unset, .unset, .unset] [(.ref b2), (.ref b2)])) _
    refine XS.bipush X15.here hx rfl (hb hby at_35) ?_
    show Steps p.tables e below (T14.setTop (mkF m 37 #[.val (.int p1), .val (.int p2), .unset, .unset, .unset, .unset, .unset, .unset, .unset, .unset, .unset, .unset, .unset, .unset] [(.int (6 : Int32)), (.ref b2), (.ref b2)])) _
    refine XS.bipush X15.here hx rfl (hb hby at_37) ?_
    exact Steps.refl _)
  obtain ⟨cl17, Ar17, q17, S17, M17, H17, G17⟩ := V14
  have hin17 : ¬ ((6 : Int32) < 0 ∨ cl17.slots.size ≤ ((6 : Int32)).toNatClampNeg) := inb_of S17 ⟨by decide, by decide⟩
  obtain ⟨T17, h17, X17, e17, W17, st17⟩ := stI X15 hx hZ e14 Ar17 (j := (6 : Int32)) hin17 (g := (mkF m 39 #[.val (.int p1), .val (.int p2), .unset, .unset, .unset, .unset, .unset, .unset, .unset, .unset, .unset, .unset, .unset, .unset] [(.int (96 : Int32)), (.int (6 : Int32)), (.ref b2), (.ref b2)])) rfl rfl (hb hby at_39)
  have V17 : Arv Z h17 b2 k2 .int (33 : Int32) [(.int (-2147483648 : Int32)), (.int (58 : Int32)), (.int (59 : Int32)), (.int (65 : Int32)), (.int (91 : Int32)), (.int (95 : Int32)), (.int (96 : Int32)), (.int (0 : Int32)), (.int (0 : Int32)), (.int (0 : Int32)), (.int (0 : Int32)), (.int (0 : Int32)), (.int (0 : Int32)), (.int (0 : Int32)), (.int (0 : Int32)), (.int (0 : Int32)), (.int (0 : Int32)), (.int (0 : Int32)), (.int (0 : Int32)), (.int (0 : Int32)), (.int (0 : Int32)), (.int (0 : Int32)), (.int (0 : Int32)), (.int (0 : Int32)), (.int (0 : Int32)), (.int (0 : Int32)), (.int (0 : Int32)), (.int (0 : Int32)), (.int (0 : Int32)), (.int (0 : Int32)), (.int (0 : Int32)), (.int (0 : Int32)), (.int (0 : Int32))] (.int (0 : Int32)) := Arv.set Ar17 q17 S17 M17 H17 G17 rfl W17 6 rfl (Nat.le_of_ble_eq_true rfl)
  have N17 := Fr.snoc X17 N15 g_b2
  have Z17 : n0 ≤ h17.size := Nat.le_trans Z14 (Keep.of_wr W17).1
  have pre17 : Steps p.tables e below _ (T17.setTop (mkF m 40 #[.val (.int p1), .val (.int p2), .unset, .unset, .unset, .unset, .unset, .unset, .unset, .unset, .unset, .unset, .unset, .unset] [(.ref b2)])) := pre16.trans (st17 _ (Steps.refl _))
  have pre18 : Steps p.tables e below _ (T17.setTop (mkF m 45 #[.val (.int p1), .val (.int p2), .unset, .unset, .unset, .unset, .unset, .unset, .unset, .unset, .unset, .unset, .unset, .unset] [(.int (97 : Int32)), (.int (7 : Int32)), (.ref b2), (.ref b2)])) := pre17.trans (by
    show Steps p.tables e below (T17.setTop (mkF m 40 #[.val (.int p1), .val (.int p2), .unset, .unset, .unset, .unset, .unset, .unset, .unset, .unset, .unset, .unset, .unset, .unset] [(.ref b2)])) _
    refine XS.dup X17.here hx rfl (hb hby at_40) rfl rfl ?_
    show Steps p.tables e below (T17.setTop (mkF m 41 #[.val (.int p1), .val (.int p2), .unset, .unset, .unset, .unset, .unset, .unset, .unset, .unset, .unset, .unset, .unset, .unset] [(.ref b2), (.ref b2)])) _
    refine XS.bipush X17.here hx rfl (hb hby at_41) ?_
    show Steps p.tables e below (T17.setTop (mkF m 43 #[.val (.int p1), .val (.int p2), .unset, .unset, .unset, .unset, .unset, .unset, .unset, .unset, .unset, .unset, .unset, .unset] [(.int (7 : Int32)), (.ref b2), (.ref b2)])) _
    refine XS.bipush X17.here hx rfl (hb hby at_43) ?_
    exact Steps.refl _)
  obtain ⟨cl19, Ar19, q19, S19, M19, H19, G19⟩ := V17
  have hin19 : ¬ ((7 : Int32) < 0 ∨ cl19.slots.size ≤ ((7 : Int32)).toNatClampNeg) := inb_of S19 ⟨by decide, by decide⟩
  obtain ⟨T19, h19, X19, e19, W19, st19⟩ := stI X17 hx hZ e17 Ar19 (j := (7 : Int32)) hin19 (g := (mkF m 45 #[.val (.int p1), .val (.int p2), .unset, .unset, .unset, .unset, .unset, .unset, .unset, .unset, .unset, .unset, .unset, .unset] [(.int (97 : Int32)), (.int (7 : Int32)), (.ref b2), (.ref b2)])) rfl rfl (hb hby at_45)
  have V19 : Arv Z h19 b2 k2 .int (33 : Int32) [(.int (-2147483648 : Int32)), (.int (58 : Int32)), (.int (59 : Int32)), (.int (65 : Int32)), (.int (91 : Int32)), (.int (95 : Int32)), (.int (96 : Int32)), (.int (97 : Int32)), (.int (0 : Int32)), (.int (0 : Int32)), (.int (0 : Int32)), (.int (0 : Int32)), (.int (0 : Int32)), (.int (0 : Int32)), (.int (0 : Int32)), (.int (0 : Int32)), (.int (0 : Int32)), (.int (0 : Int32)), (.int (0 : Int32)), (.int (0 : Int32)), (.int (0 : Int32)), (.int (0 : Int32)), (.int (0 : Int32)), (.int (0 : Int32)), (.int (0 : Int32)), (.int (0 : Int32)), (.int (0 : Int32)), (.int (0 : Int32)), (.int (0 : Int32)), (.int (0 : Int32)), (.int (0 : Int32)), (.int (0 : Int32)), (.int (0 : Int32))] (.int (0 : Int32)) := Arv.set Ar19 q19 S19 M19 H19 G19 rfl W19 7 rfl (Nat.le_of_ble_eq_true rfl)
  have N19 := Fr.snoc X19 N17 g_b2
  have Z19 : n0 ≤ h19.size := Nat.le_trans Z17 (Keep.of_wr W19).1
  have pre19 : Steps p.tables e below _ (T19.setTop (mkF m 46 #[.val (.int p1), .val (.int p2), .unset, .unset, .unset, .unset, .unset, .unset, .unset, .unset, .unset, .unset, .unset, .unset] [(.ref b2)])) := pre18.trans (st19 _ (Steps.refl _))
  have pre20 : Steps p.tables e below _ (T19.setTop (mkF m 51 #[.val (.int p1), .val (.int p2), .unset, .unset, .unset, .unset, .unset, .unset, .unset, .unset, .unset, .unset, .unset, .unset] [(.int (123 : Int32)), (.int (8 : Int32)), (.ref b2), (.ref b2)])) := pre19.trans (by
    show Steps p.tables e below (T19.setTop (mkF m 46 #[.val (.int p1), .val (.int p2), .unset, .unset, .unset, .unset, .unset, .unset, .unset, .unset, .unset, .unset, .unset, .unset] [(.ref b2)])) _
    refine XS.dup X19.here hx rfl (hb hby at_46) rfl rfl ?_
    show Steps p.tables e below (T19.setTop (mkF m 47 #[.val (.int p1), .val (.int p2), .unset, .unset, .unset, .unset, .unset, .unset, .unset, .unset, .unset, .unset, .unset, .unset] [(.ref b2), (.ref b2)])) _
    refine XS.bipush X19.here hx rfl (hb hby at_47) ?_
    show Steps p.tables e below (T19.setTop (mkF m 49 #[.val (.int p1), .val (.int p2), .unset, .unset, .unset, .unset, .unset, .unset, .unset, .unset, .unset, .unset, .unset, .unset] [(.int (8 : Int32)), (.ref b2), (.ref b2)])) _
    refine XS.bipush X19.here hx rfl (hb hby at_49) ?_
    exact Steps.refl _)
  obtain ⟨cl21, Ar21, q21, S21, M21, H21, G21⟩ := V19
  have hin21 : ¬ ((8 : Int32) < 0 ∨ cl21.slots.size ≤ ((8 : Int32)).toNatClampNeg) := inb_of S21 ⟨by decide, by decide⟩
  obtain ⟨T21, h21, X21, e21, W21, st21⟩ := stI X19 hx hZ e19 Ar21 (j := (8 : Int32)) hin21 (g := (mkF m 51 #[.val (.int p1), .val (.int p2), .unset, .unset, .unset, .unset, .unset, .unset, .unset, .unset, .unset, .unset, .unset, .unset] [(.int (123 : Int32)), (.int (8 : Int32)), (.ref b2), (.ref b2)])) rfl rfl (hb hby at_51)
  have V21 : Arv Z h21 b2 k2 .int (33 : Int32) [(.int (-2147483648 : Int32)), (.int (58 : Int32)), (.int (59 : Int32)), (.int (65 : Int32)), (.int (91 : Int32)), (.int (95 : Int32)), (.int (96 : Int32)), (.int (97 : Int32)), (.int (123 : Int32)), (.int (0 : Int32)), (.int (0 : Int32)), (.int (0 : Int32)), (.int (0 : Int32)), (.int (0 : Int32)), (.int (0 : Int32)), (.int (0 : Int32)), (.int (0 : Int32)), (.int (0 : Int32)), (.int (0 : Int32)), (.int (0 : Int32)), (.int (0 : Int32)), (.int (0 : Int32)), (.int (0 : Int32)), (.int (0 : Int32)), (.int (0 : Int32)), (.int (0 : Int32)), (.int (0 : Int32)), (.int (0 : Int32)), (.int (0 : Int32)), (.int (0 : Int32)), (.int (0 : Int32)), (.int (0 : Int32)), (.int (0 : Int32))] (.int (0 : Int32)) := Arv.set Ar21 q21 S21 M21 H21 G21 rfl W21 8 rfl (Nat.le_of_ble_eq_true rfl)
  have N21 := Fr.snoc X21 N19 g_b2
  have Z21 : n0 ≤ h21.size := Nat.le_trans Z19 (Keep.of_wr W21).1
  have pre21 : Steps p.tables e below _ (T21.setTop (mkF m 52 #[.val (.int p1), .val (.int p2), .unset, .unset, .unset, .unset, .unset, .unset, .unset, .unset, .unset, .unset, .unset, .unset] [(.ref b2)])) := pre20.trans (st21 _ (Steps.refl _))
  have pre22 : Steps p.tables e below _ (T21.setTop (mkF m 58 #[.val (.int p1), .val (.int p2), .unset, .unset, .unset, .unset, .unset, .unset, .unset, .unset, .unset, .unset, .unset, .unset] [(.int (192 : Int32)), (.int (9 : Int32)), (.ref b2), (.ref b2)])) := pre21.trans (by
    show Steps p.tables e below (T21.setTop (mkF m 52 #[.val (.int p1), .val (.int p2), .unset, .unset, .unset, .unset, .unset, .unset, .unset, .unset, .unset, .unset, .unset, .unset] [(.ref b2)])) _
    refine XS.dup X21.here hx rfl (hb hby at_52) rfl rfl ?_
    show Steps p.tables e below (T21.setTop (mkF m 53 #[.val (.int p1), .val (.int p2), .unset, .unset, .unset, .unset, .unset, .unset, .unset, .unset, .unset, .unset, .unset, .unset] [(.ref b2), (.ref b2)])) _
    refine XS.bipush X21.here hx rfl (hb hby at_53) ?_
    show Steps p.tables e below (T21.setTop (mkF m 55 #[.val (.int p1), .val (.int p2), .unset, .unset, .unset, .unset, .unset, .unset, .unset, .unset, .unset, .unset, .unset, .unset] [(.int (9 : Int32)), (.ref b2), (.ref b2)])) _
    refine XS.sipush X21.here hx rfl (hb hby at_55) ?_
    exact Steps.refl _)
  obtain ⟨cl23, Ar23, q23, S23, M23, H23, G23⟩ := V21
  have hin23 : ¬ ((9 : Int32) < 0 ∨ cl23.slots.size ≤ ((9 : Int32)).toNatClampNeg) := inb_of S23 ⟨by decide, by decide⟩
  obtain ⟨T23, h23, X23, e23, W23, st23⟩ := stI X21 hx hZ e21 Ar23 (j := (9 : Int32)) hin23 (g := (mkF m 58 #[.val (.int p1), .val (.int p2), .unset, .unset, .unset, .unset, .unset, .unset, .unset, .unset, .unset, .unset, .unset, .unset] [(.int (192 : Int32)), (.int (9 : Int32)), (.ref b2), (.ref b2)])) rfl rfl (hb hby at_58)
  have V23 : Arv Z h23 b2 k2 .int (33 : Int32) [(.int (-2147483648 : Int32)), (.int (58 : Int32)), (.int (59 : Int32)), (.int (65 : Int32)), (.int (91 : Int32)), (.int (95 : Int32)), (.int (96 : Int32)), (.int (97 : Int32)), (.int (123 : Int32)), (.int (192 : Int32)), (.int (0 : Int32)), (.int (0 : Int32)), (.int (0 : Int32)), (.int (0 : Int32)), (.int (0 : Int32)), (.int (0 : Int32)), (.int (0 : Int32)), (.int (0 : Int32)), (.int (0 : Int32)), (.int (0 : Int32)), (.int (0 : Int32)), (.int (0 : Int32)), (.int (0 : Int32)), (.int (0 : Int32)), (.int (0 : Int32)), (.int (0 : Int32)), (.int (0 : Int32)), (.int (0 : Int32)), (.int (0 : Int32)), (.int (0 : Int32)), (.int (0 : Int32)), (.int (0 : Int32)), (.int (0 : Int32))] (.int (0 : Int32)) := Arv.set Ar23 q23 S23 M23 H23 G23 rfl W23 9 rfl (Nat.le_of_ble_eq_true rfl)
  have N23 := Fr.snoc X23 N21 g_b2
  have Z23 : n0 ≤ h23.size := Nat.le_trans Z21 (Keep.of_wr W23).1
  have pre23 : Steps p.tables e below _ (T23.setTop (mkF m 59 #[.val (.int p1), .val (.int p2), .unset, .unset, .unset, .unset, .unset, .unset, .unset, .unset, .unset, .unset, .unset, .unset] [(.ref b2)])) := pre22.trans (st23 _ (Steps.refl _))
  have pre24 : Steps p.tables e below _ (T23.setTop (mkF m 65 #[.val (.int p1), .val (.int p2), .unset, .unset, .unset, .unset, .unset, .unset, .unset, .unset, .unset, .unset, .unset, .unset] [(.int (215 : Int32)), (.int (10 : Int32)), (.ref b2), (.ref b2)])) := pre23.trans (by
    show Steps p.tables e below (T23.setTop (mkF m 59 #[.val (.int p1), .val (.int p2), .unset, .unset, .unset, .unset, .unset, .unset, .unset, .unset, .unset, .unset, .unset, .unset] [(.ref b2)])) _
    refine XS.dup X23.here hx rfl (hb hby at_59) rfl rfl ?_
    show Steps p.tables e below (T23.setTop (mkF m 60 #[.val (.int p1), .val (.int p2), .unset, .unset, .unset, .unset, .unset, .unset, .unset, .unset, .unset, .unset, .unset, .unset] [(.ref b2), (.ref b2)])) _
    refine XS.bipush X23.here hx rfl (hb hby at_60) ?_
    show Steps p.tables e below (T23.setTop (mkF m 62 #[.val (.int p1), .val (.int p2), .unset, .unset, .unset, .unset, .unset, .unset, .unset, .unset, .unset, .unset, .unset, .unset] [(.int (10 : Int32)), (.ref b2), (.ref b2)])) _
    refine XS.sipush X23.here hx rfl (hb hby at_62) ?_
    exact Steps.refl _)
  obtain ⟨cl25, Ar25, q25, S25, M25, H25, G25⟩ := V23
  have hin25 : ¬ ((10 : Int32) < 0 ∨ cl25.slots.size ≤ ((10 : Int32)).toNatClampNeg) := inb_of S25 ⟨by decide, by decide⟩
  obtain ⟨T25, h25, X25, e25, W25, st25⟩ := stI X23 hx hZ e23 Ar25 (j := (10 : Int32)) hin25 (g := (mkF m 65 #[.val (.int p1), .val (.int p2), .unset, .unset, .unset, .unset, .unset, .unset, .unset, .unset, .unset, .unset, .unset, .unset] [(.int (215 : Int32)), (.int (10 : Int32)), (.ref b2), (.ref b2)])) rfl rfl (hb hby at_65)
  have V25 : Arv Z h25 b2 k2 .int (33 : Int32) [(.int (-2147483648 : Int32)), (.int (58 : Int32)), (.int (59 : Int32)), (.int (65 : Int32)), (.int (91 : Int32)), (.int (95 : Int32)), (.int (96 : Int32)), (.int (97 : Int32)), (.int (123 : Int32)), (.int (192 : Int32)), (.int (215 : Int32)), (.int (0 : Int32)), (.int (0 : Int32)), (.int (0 : Int32)), (.int (0 : Int32)), (.int (0 : Int32)), (.int (0 : Int32)), (.int (0 : Int32)), (.int (0 : Int32)), (.int (0 : Int32)), (.int (0 : Int32)), (.int (0 : Int32)), (.int (0 : Int32)), (.int (0 : Int32)), (.int (0 : Int32)), (.int (0 : Int32)), (.int (0 : Int32)), (.int (0 : Int32)), (.int (0 : Int32)), (.int (0 : Int32)), (.int (0 : Int32)), (.int (0 : Int32)), (.int (0 : Int32))] (.int (0 : Int32)) := Arv.set Ar25 q25 S25 M25 H25 G25 rfl W25 10 rfl (Nat.le_of_ble_eq_true rfl)
  have N25 := Fr.snoc X25 N23 g_b2
  have Z25 : n0 ≤ h25.size := Nat.le_trans Z23 (Keep.of_wr W25).1
  have pre25 : Steps p.tables e below _ (T25.setTop (mkF m 66 #[.val (.int p1), .val (.int p2), .unset, .unset, .unset, .unset, .unset, .unset, .unset, .unset, .unset, .unset, .unset, .unset] [(.ref b2)])) := pre24.trans (st25 _ (Steps.refl _))
  have pre26 : Steps p.tables e below _ (T25.setTop (mkF m 72 #[.val (.int p1), .val (.int p2), .unset, .unset, .unset, .unset, .unset, .unset, .unset, .unset, .unset, .unset, .unset, .unset] [(.int (216 : Int32)), (.int (11 : Int32)), (.ref b2), (.ref b2)])) := pre25.trans (by
    show Steps p.tables e below (T25.setTop (mkF m 66 #[.val (.int p1), .val (.int p2), .unset, .unset, .unset, .unset, .unset, .unset, .unset, .unset, .unset, .unset, .unset, .unset] [(.ref b2)])) _
    refine XS.dup X25.here hx rfl (hb hby at_66) rfl rfl ?_
    show Steps p.tables e below (T25.setTop (mkF m 67 #[.val (.int p1), .val (.int p2), .unset, .unset, .unset, .unset, .unset, .unset, .unset, .unset, .unset, .unset, .unset, .unset] [(.ref b2), (.ref b2)])) _
    refine XS.bipush X25.here hx rfl (hb hby at_67) ?_
    show Steps p.tables e below (T25.setTop (mkF m 69 #[.val (.int p1), .val (.int p2), .unset, .unset, .unset, .unset, .unset, .unset, .unset, .unset, .unset, .unset, .unset, .unset] [(.int (11 : Int32)), (.ref b2), (.ref b2)])) _
    refine XS.sipush X25.here hx rfl (hb hby at_69) ?_
    exact Steps.refl _)
  obtain ⟨cl27, Ar27, q27, S27, M27, H27, G27⟩ := V25
  have hin27 : ¬ ((11 : Int32) < 0 ∨ cl27.slots.size ≤ ((11 : Int32)).toNatClampNeg) := inb_of S27 ⟨by decide, by decide⟩
  obtain ⟨T27, h27, X27, e27, W27, st27⟩ := stI X25 hx hZ e25 Ar27 (j := (11 : Int32)) hin27 (g := (mkF m 72 #[.val (.int p1), .val (.int p2), .unset, .unset, .unset, .unset, .unset, .unset, .unset, .unset, .unset, .unset, .unset, .unset] [(.int (216 : Int32)), (.int (11 : Int32)), (.ref b2), (.ref b2)])) rfl rfl (hb hby at_72)
  have V27 : Arv Z h27 b2 k2 .int (33 : Int32) [(.int (-2147483648 : Int32)), (.int (58 : Int32)), (.int (59 : Int32)), (.int (65 : Int32)), (.int (91 : Int32)), (.int (95 : Int32)), (.int (96 : Int32)), (.int (97 : Int32)), (.int (123 : Int32)), (.int (192 : Int32)), (.int (215 : Int32)), (.int (216 : Int32)), (.int (0 : Int32)), (.int (0 : Int32)), (.int (0 : Int32)), (.int (0 : Int32)), (.int (0 : Int32)), (.int (0 : Int32)), (.int (0 : Int32)), (.int (0 : Int32)), (.int (0 : Int32)), (.int (0 : Int32)), (.int (0 : Int32)), (.int (0 : Int32)), (.int (0 : Int32)), (.int (0 : Int32)), (.int (0 : Int32)), (.int (0 : Int32)), (.int (0 : Int32)), (.int (0 : Int32)), (.int (0 : Int32)), (.int (0 : Int32)), (.int (0 : Int32))] (.int (0 : Int32)) := Arv.set Ar27 q27 S27 M27 H27 G27 rfl W27 11 rfl (Nat.le_of_ble_eq_true rfl)
  have N27 := Fr.snoc X27 N25 g_b2
  have Z27 : n0 ≤ h27.size := Nat.le_trans Z25 (Keep.of_wr W27).1
  have pre27 : Steps p.tables e below _ (T27.setTop (mkF m 73 #[.val (.int p1), .val (.int p2), .unset, .unset, .unset, .unset, .unset, .unset, .unset, .unset, .unset, .unset, .unset, .unset] [(.ref b2)])) := pre26.trans (st27 _ (Steps.refl _))
  obtain ⟨lc28, X28, N28⟩ : ∃ lc : List Loc, Stand p l e room_1 s m #[(.int p1), (.int p2)] below meth c T27 lc 1 33 ∧ Fr n0 lc := ⟨_, X27, N27⟩
  have pre29 : Steps p.tables e below _ (T27.setTop (mkF m 79 #[.val (.int p1), .val (.int p2), .unset, .unset, .unset, .unset, .unset, .unset, .unset, .unset, .unset, .unset, .unset, .unset] [(.int (247 : Int32)), (.int (12 : Int32)), (.ref b2), (.ref b2)])) := pre27.trans (by
    show Steps p.tables e below (T27.setTop (mkF m 73 #[.val (.int p1), .val (.int p2), .unset, .unset, .unset, .unset, .unset, .unset, .unset, .unset, .unset, .unset, .unset, .unset] [(.ref b2)])) _
    refine XS.dup X28.here hx rfl (hb hby at_73) rfl rfl ?_
    show Steps p.tables e below (T27.setTop (mkF m 74 #[.val (.int p1), .val (.int p2), .unset, .unset, .unset, .unset, .unset, .unset, .unset, .unset, .unset, .unset, .unset, .unset] [(.ref b2), (.ref b2)])) _
    refine XS.bipush X28.here hx rfl (hb hby at_74) ?_
    show Steps p.tables e below (T27.setTop (mkF m 76 #[.val (.int p1), .val (.int p2), .unset, .unset, .unset, .unset, .unset, .unset, .unset, .unset, .unset, .unset, .unset, .unset] [(.int (12 : Int32)), (.ref b2), (.ref b2)])) _
    refine XS.sipush X28.here hx rfl (hb hby at_76) ?_
    exact Steps.refl _)
  obtain ⟨cl30, Ar30, q30, S30, M30, H30, G30⟩ := V27
  have hin30 : ¬ ((12 : Int32) < 0 ∨ cl30.slots.size ≤ ((12 : Int32)).toNatClampNeg) := inb_of S30 ⟨by decide, by decide⟩
  obtain ⟨T30, h30, X30, e30, W30, st30⟩ := stI X28 hx hZ e27 Ar30 (j := (12 : Int32)) hin30 (g := (mkF m 79 #[.val (.int p1), .val (.int p2), .unset, .unset, .unset, .unset, .unset, .unset, .unset, .unset, .unset, .unset, .unset, .unset] [(.int (247 : Int32)), (.int (12 : Int32)), (.ref b2), (.ref b2)])) rfl rfl (hb hby at_79)
  have V30 : Arv Z h30 b2 k2 .int (33 : Int32) [(.int (-2147483648 : Int32)), (.int (58 : Int32)), (.int (59 : Int32)), (.int (65 : Int32)), (.int (91 : Int32)), (.int (95 : Int32)), (.int (96 : Int32)), (.int (97 : Int32)), (.int (123 : Int32)), (.int (192 : Int32)), (.int (215 : Int32)), (.int (216 : Int32)), (.int (247 : Int32)), (.int (0 : Int32)), (.int (0 : Int32)), (.int (0 : Int32)), (.int (0 : Int32)), (.int (0 : Int32)), (.int (0 : Int32)), (.int (0 : Int32)), (.int (0 : Int32)), (.int (0 : Int32)), (.int (0 : Int32)), (.int (0 : Int32)), (.int (0 : Int32)), (.int (0 : Int32)), (.int (0 : Int32)), (.int (0 : Int32)), (.int (0 : Int32)), (.int (0 : Int32)), (.int (0 : Int32)), (.int (0 : Int32)), (.int (0 : Int32))] (.int (0 : Int32)) := Arv.set Ar30 q30 S30 M30 H30 G30 rfl W30 12 rfl (Nat.le_of_ble_eq_true rfl)
  have N30 := Fr.snoc X30 N28 g_b2
  have Z30 : n0 ≤ h30.size := Nat.le_trans Z27 (Keep.of_wr W30).1
  have pre30 : Steps p.tables e below _ (T30.setTop (mkF m 80 #[.val (.int p1), .val (.int p2), .unset, .unset, .unset, .unset, .unset, .unset, .unset, .unset, .unset, .unset, .unset, .unset] [(.ref b2)])) := pre29.trans (st30 _ (Steps.refl _))
  have pre31 : Steps p.tables e below _ (T30.setTop (mkF m 86 #[.val (.int p1), .val (.int p2), .unset, .unset, .unset, .unset, .unset, .unset, .unset, .unset, .unset, .unset, .unset, .unset] [(.int (248 : Int32)), (.int (13 : Int32)), (.ref b2), (.ref b2)])) := pre30.trans (by
    show Steps p.tables e below (T30.setTop (mkF m 80 #[.val (.int p1), .val (.int p2), .unset, .unset, .unset, .unset, .unset, .unset, .unset, .unset, .unset, .unset, .unset, .unset] [(.ref b2)])) _
    refine XS.dup X30.here hx rfl (hb hby at_80) rfl rfl ?_
    show Steps p.tables e below (T30.setTop (mkF m 81 #[.val (.int p1), .val (.int p2), .unset, .unset, .unset, .unset, .unset, .unset, .unset, .unset, .unset, .unset, .unset, .unset] [(.ref b2), (.ref b2)])) _
    refine XS.bipush X30.here hx rfl (hb hby at_81) ?_
    show Steps p.tables e below (T30.setTop (mkF m 83 #[.val (.int p1), .val (.int p2), .unset, .unset, .unset, .unset, .unset, .unset, .unset, .unset, .unset, .unset, .unset, .unset] [(.int (13 : Int32)), (.ref b2), (.ref b2)])) _
    refine XS.sipush X30.here hx rfl (hb hby at_83) ?_
    exact Steps.refl _)
  obtain ⟨cl32, Ar32, q32, S32, M32, H32, G32⟩ := V30
  have hin32 : ¬ ((13 : Int32) < 0 ∨ cl32.slots.size ≤ ((13 : Int32)).toNatClampNeg) := inb_of S32 ⟨by decide, by decide⟩
  obtain ⟨T32, h32, X32, e32, W32, st32⟩ := stI X30 hx hZ e30 Ar32 (j := (13 : Int32)) hin32 (g := (mkF m 86 #[.val (.int p1), .val (.int p2), .unset, .unset, .unset, .unset, .unset, .unset, .unset, .unset, .unset, .unset, .unset, .unset] [(.int (248 : Int32)), (.int (13 : Int32)), (.ref b2), (.ref b2)])) rfl rfl (hb hby at_86)
  have V32 : Arv Z h32 b2 k2 .int (33 : Int32) [(.int (-2147483648 : Int32)), (.int (58 : Int32)), (.int (59 : Int32)), (.int (65 : Int32)), (.int (91 : Int32)), (.int (95 : Int32)), (.int (96 : Int32)), (.int (97 : Int32)), (.int (123 : Int32)), (.int (192 : Int32)), (.int (215 : Int32)), (.int (216 : Int32)), (.int (247 : Int32)), (.int (248 : Int32)), (.int (0 : Int32)), (.int (0 : Int32)), (.int (0 : Int32)), (.int (0 : Int32)), (.int (0 : Int32)), (.int (0 : Int32)), (.int (0 : Int32)), (.int (0 : Int32)), (.int (0 : Int32)), (.int (0 : Int32)), (.int (0 : Int32)), (.int (0 : Int32)), (.int (0 : Int32)), (.int (0 : Int32)), (.int (0 : Int32)), (.int (0 : Int32)), (.int (0 : Int32)), (.int (0 : Int32)), (.int (0 : Int32))] (.int (0 : Int32)) := Arv.set Ar32 q32 S32 M32 H32 G32 rfl W32 13 rfl (Nat.le_of_ble_eq_true rfl)
  have N32 := Fr.snoc X32 N30 g_b2
  have Z32 : n0 ≤ h32.size := Nat.le_trans Z30 (Keep.of_wr W32).1
  have pre32 : Steps p.tables e below _ (T32.setTop (mkF m 87 #[.val (.int p1), .val (.int p2), .unset, .unset, .unset, .unset, .unset, .unset, .unset, .unset, .unset, .unset, .unset, .unset] [(.ref b2)])) := pre31.trans (st32 _ (Steps.refl _))
  have pre33 : Steps p.tables e below _ (T32.setTop (mkF m 93 #[.val (.int p1), .val (.int p2), .unset, .unset, .unset, .unset, .unset, .unset, .unset, .unset, .unset, .unset, .unset, .unset] [(.int (768 : Int32)), (.int (14 : Int32)), (.ref b2), (.ref b2)])) := pre32.trans (by
    show Steps p.tables e below (T32.setTop (mkF m 87 #[.val (.int p1), .val (.int p2), .unset, .unset, .unset, .unset, .unset, .unset, .unset, .unset, .unset, .unset, .unset, .unset] [(.ref b2)])) _
    refine XS.dup X32.here hx rfl (hb hby at_87) rfl rfl ?_
    show Steps p.tables e below (T32.setTop (mkF m 88 #[.val (.int p1), .val (.int p2), .unset, .unset, .unset, .unset, .unset, .unset, .unset, .unset, .unset, .unset, .unset, .unset] [(.ref b2), (.ref b2)])) _
    refine XS.bipush X32.here hx rfl (hb hby at_88) ?_
    show Steps p.tables e below (T32.setTop (mkF m 90 #[.val (.int p1), .val (.int p2), .unset, .unset, .unset, .unset, .unset, .unset, .unset, .unset, .unset, .unset, .unset, .unset] [(.int (14 : Int32)), (.ref b2), (.ref b2)])) _
    refine XS.sipush X32.here hx rfl (hb hby at_90) ?_
    exact Steps.refl _)
  obtain ⟨cl34, Ar34, q34, S34, M34, H34, G34⟩ := V32
  have hin34 : ¬ ((14 : Int32) < 0 ∨ cl34.slots.size ≤ ((14 : Int32)).toNatClampNeg) := inb_of S34 ⟨by decide, by decide⟩
  obtain ⟨T34, h34, X34, e34, W34, st34⟩ := stI X32 hx hZ e32 Ar34 (j := (14 : Int32)) hin34 (g := (mkF m 93 #[.val (.int p1), .val (.int p2), .unset, .unset, .unset, .unset, .unset, .unset, .unset, .unset, .unset, .unset, .unset, .unset] [(.int (768 : Int32)), (.int (14 : Int32)), (.ref b2), (.ref b2)])) rfl rfl (hb hby at_93)
  have V34 : Arv Z h34 b2 k2 .int (33 : Int32) [(.int (-2147483648 : Int32)), (.int (58 : Int32)), (.int (59 : Int32)), (.int (65 : Int32)), (.int (91 : Int32)), (.int (95 : Int32)), (.int (96 : Int32)), (.int (97 : Int32)), (.int (123 : Int32)), (.int (192 : Int32)), (.int (215 : Int32)), (.int (216 : Int32)), (.int (247 : Int32)), (.int (248 : Int32)), (.int (768 : Int32)), (.int (0 : Int32)), (.int (0 : Int32)), (.int (0 : Int32)), (.int (0 : Int32)), (.int (0 : Int32)), (.int (0 : Int32)), (.int (0 : Int32)), (.int (0 : Int32)), (.int (0 : Int32)), (.int (0 : Int32)), (.int (0 : Int32)), (.int (0 : Int32)), (.int (0 : Int32)), (.int (0 : Int32)), (.int (0 : Int32)), (.int (0 : Int32)), (.int (0 : Int32)), (.int (0 : Int32))] (.int (0 : Int32)) := Arv.set Ar34 q34 S34 M34 H34 G34 rfl W34 14 rfl (Nat.le_of_ble_eq_true rfl)
  have N34 := Fr.snoc X34 N32 g_b2
  have Z34 : n0 ≤ h34.size := Nat.le_trans Z32 (Keep.of_wr W34).1
  have pre34 : Steps p.tables e below _ (T34.setTop (mkF m 94 #[.val (.int p1), .val (.int p2), .unset, .unset, .unset, .unset, .unset, .unset, .unset, .unset, .unset, .unset, .unset, .unset] [(.ref b2)])) := pre33.trans (st34 _ (Steps.refl _))
  have pre35 : Steps p.tables e below _ (T34.setTop (mkF m 100 #[.val (.int p1), .val (.int p2), .unset, .unset, .unset, .unset, .unset, .unset, .unset, .unset, .unset, .unset, .unset, .unset] [(.int (880 : Int32)), (.int (15 : Int32)), (.ref b2), (.ref b2)])) := pre34.trans (by
    show Steps p.tables e below (T34.setTop (mkF m 94 #[.val (.int p1), .val (.int p2), .unset, .unset, .unset, .unset, .unset, .unset, .unset, .unset, .unset, .unset, .unset, .unset] [(.ref b2)])) _
    refine XS.dup X34.here hx rfl (hb hby at_94) rfl rfl ?_
    show Steps p.tables e below (T34.setTop (mkF m 95 #[.val (.int p1), .val (.int p2), .unset, .unset, .unset, .unset, .unset, .unset, .unset, .unset, .unset, .unset, .unset, .unset] [(.ref b2), (.ref b2)])) _
    refine XS.bipush X34.here hx rfl (hb hby at_95) ?_
    show Steps p.tables e below (T34.setTop (mkF m 97 #[.val (.int p1), .val (.int p2), .unset, .unset, .unset, .unset, .unset, .unset, .unset, .unset, .unset, .unset, .unset, .unset] [(.int (15 : Int32)), (.ref b2), (.ref b2)])) _
    refine XS.sipush X34.here hx rfl (hb hby at_97) ?_
    exact Steps.refl _)
  obtain ⟨cl36, Ar36, q36, S36, M36, H36, G36⟩ := V34
  have hin36 : ¬ ((15 : Int32) < 0 ∨ cl36.slots.size ≤ ((15 : Int32)).toNatClampNeg) := inb_of S36 ⟨by decide, by decide⟩
  obtain ⟨T36, h36, X36, e36, W36, st36⟩ := stI X34 hx hZ e34 Ar36 (j := (15 : Int32)) hin36 (g := (mkF m 100 #[.val (.int p1), .val (.int p2), .unset, .unset, .unset, .unset, .unset, .unset, .unset, .unset, .unset, .unset, .unset, .unset] [(.int (880 : Int32)), (.int (15 : Int32)), (.ref b2), (.ref b2)])) rfl rfl (hb hby at_100)
  have V36 : Arv Z h36 b2 k2 .int (33 : Int32) [(.int (-2147483648 : Int32)), (.int (58 : Int32)), (.int (59 : Int32)), (.int (65 : Int32)), (.int (91 : Int32)), (.int (95 : Int32)), (.int (96 : Int32)), (.int (97 : Int32)), (.int (123 : Int32)), (.int (192 : Int32)), (.int (215 : Int32)), (.int (216 : Int32)), (.int (247 : Int32)), (.int (248 : Int32)), (.int (768 : Int32)), (.int (880 : Int32)), (.int (0 : Int32)), (.int (0 : Int32)), (.int (0 : Int32)), (.int (0 : Int32)), (.int (0 : Int32)), (.int (0 : Int32)), (.int (0 : Int32)), (.int (0 : Int32)), (.int (0 : Int32)), (.int (0 : Int32)), (.int (0 : Int32)), (.int (0 : Int32)), (.int (0 : Int32)), (.int (0 : Int32)), (.int (0 : Int32)), (.int (0 : Int32)), (.int (0 : Int32))] (.int (0 : Int32)) := Arv.set Ar36 q36 S36 M36 H36 G36 rfl W36 15 rfl (Nat.le_of_ble_eq_true rfl)
  have N36 := Fr.snoc X36 N34 g_b2
  have Z36 : n0 ≤ h36.size := Nat.le_trans Z34 (Keep.of_wr W36).1
  have pre36 : Steps p.tables e below _ (T36.setTop (mkF m 101 #[.val (.int p1), .val (.int p2), .unset, .unset, .unset, .unset, .unset, .unset, .unset, .unset, .unset, .unset, .unset, .unset] [(.ref b2)])) := pre35.trans (st36 _ (Steps.refl _))
  have pre37 : Steps p.tables e below _ (T36.setTop (mkF m 107 #[.val (.int p1), .val (.int p2), .unset, .unset, .unset, .unset, .unset, .unset, .unset, .unset, .unset, .unset, .unset, .unset] [(.int (894 : Int32)), (.int (16 : Int32)), (.ref b2), (.ref b2)])) := pre36.trans (by
    show Steps p.tables e below (T36.setTop (mkF m 101 #[.val (.int p1), .val (.int p2), .unset, .unset, .unset, .unset, .unset, .unset, .unset, .unset, .unset, .unset, .unset, .unset] [(.ref b2)])) _
    refine XS.dup X36.here hx rfl (hb hby at_101) rfl rfl ?_
    show Steps p.tables e below (T36.setTop (mkF m 102 #[.val (.int p1), .val (.int p2), .unset, .unset, .unset, .unset, .unset, .unset, .unset, .unset, .unset, .unset, .unset, .unset] [(.ref b2), (.ref b2)])) _
    refine XS.bipush X36.here hx rfl (hb hby at_102) ?_
    show Steps p.tables e below (T36.setTop (mkF m 104 #[.val (.int p1), .val (.int p2), .unset, .unset, .unset, .unset, .unset, .unset, .unset, .unset, .unset, .unset, .unset, .unset] [(.int (16 : Int32)), (.ref b2), (.ref b2)])) _
    refine XS.sipush X36.here hx rfl (hb hby at_104) ?_
    exact Steps.refl _)
  obtain ⟨cl38, Ar38, q38, S38, M38, H38, G38⟩ := V36
  have hin38 : ¬ ((16 : Int32) < 0 ∨ cl38.slots.size ≤ ((16 : Int32)).toNatClampNeg) := inb_of S38 ⟨by decide, by decide⟩
  obtain ⟨T38, h38, X38, e38, W38, st38⟩ := stI X36 hx hZ e36 Ar38 (j := (16 : Int32)) hin38 (g := (mkF m 107 #[.val (.int p1), .val (.int p2), .unset, .unset, .unset, .unset, .unset, .unset, .unset, .unset, .unset, .unset, .unset, .unset] [(.int (894 : Int32)), (.int (16 : Int32)), (.ref b2), (.ref b2)])) rfl rfl (hb hby at_107)
  have V38 : Arv Z h38 b2 k2 .int (33 : Int32) [(.int (-2147483648 : Int32)), (.int (58 : Int32)), (.int (59 : Int32)), (.int (65 : Int32)), (.int (91 : Int32)), (.int (95 : Int32)), (.int (96 : Int32)), (.int (97 : Int32)), (.int (123 : Int32)), (.int (192 : Int32)), (.int (215 : Int32)), (.int (216 : Int32)), (.int (247 : Int32)), (.int (248 : Int32)), (.int (768 : Int32)), (.int (880 : Int32)), (.int (894 : Int32)), (.int (0 : Int32)), (.int (0 : Int32)), (.int (0 : Int32)), (.int (0 : Int32)), (.int (0 : Int32)), (.int (0 : Int32)), (.int (0 : Int32)), (.int (0 : Int32)), (.int (0 : Int32)), (.int (0 : Int32)), (.int (0 : Int32)), (.int (0 : Int32)), (.int (0 : Int32)), (.int (0 : Int32)), (.int (0 : Int32)), (.int (0 : Int32))] (.int (0 : Int32)) := Arv.set Ar38 q38 S38 M38 H38 G38 rfl W38 16 rfl (Nat.le_of_ble_eq_true rfl)
  have N38 := Fr.snoc X38 N36 g_b2
  have Z38 : n0 ≤ h38.size := Nat.le_trans Z36 (Keep.of_wr W38).1
  have pre38 : Steps p.tables e below _ (T38.setTop (mkF m 108 #[.val (.int p1), .val (.int p2), .unset, .unset, .unset, .unset, .unset, .unset, .unset, .unset, .unset, .unset, .unset, .unset] [(.ref b2)])) := pre37.trans (st38 _ (Steps.refl _))
  have pre39 : Steps p.tables e below _ (T38.setTop (mkF m 114 #[.val (.int p1), .val (.int p2), .unset, .unset, .unset, .unset, .unset, .unset, .unset, .unset, .unset, .unset, .unset, .unset] [(.int (895 : Int32)), (.int (17 : Int32)), (.ref b2), (.ref b2)])) := pre38.trans (by
    show Steps p.tables e below (T38.setTop (mkF m 108 #[.val (.int p1), .val (.int p2), .unset, .unset, .unset, .unset, .unset, .unset, .unset, .unset, .unset, .unset, .unset, .unset] [(.ref b2)])) _
    refine XS.dup X38.here hx rfl (hb hby at_108) rfl rfl ?_
    show Steps p.tables e below (T38.setTop (mkF m 109 #[.val (.int p1), .val (.int p2), .unset, .unset, .unset, .unset, .unset, .unset, .unset, .unset, .unset, .unset, .unset, .unset] [(.ref b2), (.ref b2)])) _
    refine XS.bipush X38.here hx rfl (hb hby at_109) ?_
    show Steps p.tables e below (T38.setTop (mkF m 111 #[.val (.int p1), .val (.int p2), .unset, .unset, .unset, .unset, .unset, .unset, .unset, .unset, .unset, .unset, .unset, .unset] [(.int (17 : Int32)), (.ref b2), (.ref b2)])) _
    refine XS.sipush X38.here hx rfl (hb hby at_111) ?_
    exact Steps.refl _)
  obtain ⟨cl40, Ar40, q40, S40, M40, H40, G40⟩ := V38
  have hin40 : ¬ ((17 : Int32) < 0 ∨ cl40.slots.size ≤ ((17 : Int32)).toNatClampNeg) := inb_of S40 ⟨by decide, by decide⟩
  obtain ⟨T40, h40, X40, e40, W40, st40⟩ := stI X38 hx hZ e38 Ar40 (j := (17 : Int32)) hin40 (g := (mkF m 114 #[.val (.int p1), .val (.int p2), .unset, .unset, .unset, .unset, .unset, .unset, .unset, .unset, .unset, .unset, .unset, .unset] [(.int (895 : Int32)), (.int (17 : Int32)), (.ref b2), (.ref b2)])) rfl rfl (hb hby at_114)
  have V40 : Arv Z h40 b2 k2 .int (33 : Int32) [(.int (-2147483648 : Int32)), (.int (58 : Int32)), (.int (59 : Int32)), (.int (65 : Int32)), (.int (91 : Int32)), (.int (95 : Int32)), (.int (96 : Int32)), (.int (97 : Int32)), (.int (123 : Int32)), (.int (192 : Int32)), (.int (215 : Int32)), (.int (216 : Int32)), (.int (247 : Int32)), (.int (248 : Int32)), (.int (768 : Int32)), (.int (880 : Int32)), (.int (894 : Int32)), (.int (895 : Int32)), (.int (0 : Int32)), (.int (0 : Int32)), (.int (0 : Int32)), (.int (0 : Int32)), (.int (0 : Int32)), (.int (0 : Int32)), (.int (0 : Int32)), (.int (0 : Int32)), (.int (0 : Int32)), (.int (0 : Int32)), (.int (0 : Int32)), (.int (0 : Int32)), (.int (0 : Int32)), (.int (0 : Int32)), (.int (0 : Int32))] (.int (0 : Int32)) := Arv.set Ar40 q40 S40 M40 H40 G40 rfl W40 17 rfl (Nat.le_of_ble_eq_true rfl)
  have N40 := Fr.snoc X40 N38 g_b2
  have Z40 : n0 ≤ h40.size := Nat.le_trans Z38 (Keep.of_wr W40).1
  have pre40 : Steps p.tables e below _ (T40.setTop (mkF m 115 #[.val (.int p1), .val (.int p2), .unset, .unset, .unset, .unset, .unset, .unset, .unset, .unset, .unset, .unset, .unset, .unset] [(.ref b2)])) := pre39.trans (st40 _ (Steps.refl _))
  obtain ⟨lc41, X41, N41⟩ : ∃ lc : List Loc, Stand p l e room_1 s m #[(.int p1), (.int p2)] below meth c T40 lc 1 33 ∧ Fr n0 lc := ⟨_, X40, N40⟩
  have pre42 : Steps p.tables e below _ (T40.setTop (mkF m 121 #[.val (.int p1), .val (.int p2), .unset, .unset, .unset, .unset, .unset, .unset, .unset, .unset, .unset, .unset, .unset, .unset] [(.int (8192 : Int32)), (.int (18 : Int32)), (.ref b2), (.ref b2)])) := pre40.trans (by
    show Steps p.tables e below (T40.setTop (mkF m 115 #[.val (.int p1), .val (.int p2), .unset, .unset, .unset, .unset, .unset, .unset, .unset, .unset, .unset, .unset, .unset, .unset] [(.ref b2)])) _
    refine XS.dup X41.here hx rfl (hb hby at_115) rfl rfl ?_
    show Steps p.tables e below (T40.setTop (mkF m 116 #[.val (.int p1), .val (.int p2), .unset, .unset, .unset, .unset, .unset, .unset, .unset, .unset, .unset, .unset, .unset, .unset] [(.ref b2), (.ref b2)])) _
    refine XS.bipush X41.here hx rfl (hb hby at_116) ?_
    show Steps p.tables e below (T40.setTop (mkF m 118 #[.val (.int p1), .val (.int p2), .unset, .unset, .unset, .unset, .unset, .unset, .unset, .unset, .unset, .unset, .unset, .unset] [(.int (18 : Int32)), (.ref b2), (.ref b2)])) _
    refine XS.sipush X41.here hx rfl (hb hby at_118) ?_
    exact Steps.refl _)
  obtain ⟨cl43, Ar43, q43, S43, M43, H43, G43⟩ := V40
  have hin43 : ¬ ((18 : Int32) < 0 ∨ cl43.slots.size ≤ ((18 : Int32)).toNatClampNeg) := inb_of S43 ⟨by decide, by decide⟩
  obtain ⟨T43, h43, X43, e43, W43, st43⟩ := stI X41 hx hZ e40 Ar43 (j := (18 : Int32)) hin43 (g := (mkF m 121 #[.val (.int p1), .val (.int p2), .unset, .unset, .unset, .unset, .unset, .unset, .unset, .unset, .unset, .unset, .unset, .unset] [(.int (8192 : Int32)), (.int (18 : Int32)), (.ref b2), (.ref b2)])) rfl rfl (hb hby at_121)
  have V43 : Arv Z h43 b2 k2 .int (33 : Int32) [(.int (-2147483648 : Int32)), (.int (58 : Int32)), (.int (59 : Int32)), (.int (65 : Int32)), (.int (91 : Int32)), (.int (95 : Int32)), (.int (96 : Int32)), (.int (97 : Int32)), (.int (123 : Int32)), (.int (192 : Int32)), (.int (215 : Int32)), (.int (216 : Int32)), (.int (247 : Int32)), (.int (248 : Int32)), (.int (768 : Int32)), (.int (880 : Int32)), (.int (894 : Int32)), (.int (895 : Int32)), (.int (8192 : Int32)), (.int (0 : Int32)), (.int (0 : Int32)), (.int (0 : Int32)), (.int (0 : Int32)), (.int (0 : Int32)), (.int (0 : Int32)), (.int (0 : Int32)), (.int (0 : Int32)), (.int (0 : Int32)), (.int (0 : Int32)), (.int (0 : Int32)), (.int (0 : Int32)), (.int (0 : Int32)), (.int (0 : Int32))] (.int (0 : Int32)) := Arv.set Ar43 q43 S43 M43 H43 G43 rfl W43 18 rfl (Nat.le_of_ble_eq_true rfl)
  have N43 := Fr.snoc X43 N41 g_b2
  have Z43 : n0 ≤ h43.size := Nat.le_trans Z40 (Keep.of_wr W43).1
  have pre43 : Steps p.tables e below _ (T43.setTop (mkF m 122 #[.val (.int p1), .val (.int p2), .unset, .unset, .unset, .unset, .unset, .unset, .unset, .unset, .unset, .unset, .unset, .unset] [(.ref b2)])) := pre42.trans (st43 _ (Steps.refl _))
  have pre44 : Steps p.tables e below _ (T43.setTop (mkF m 128 #[.val (.int p1), .val (.int p2), .unset, .unset, .unset, .unset, .unset, .unset, .unset, .unset, .unset, .unset, .unset, .unset] [(.int (8204 : Int32)), (.int (19 : Int32)), (.ref b2), (.ref b2)])) := pre43.trans (by
    show Steps p.tables e below (T43.setTop (mkF m 122 #[.val (.int p1), .val (.int p2), .unset, .unset, .unset, .unset, .unset, .unset, .unset, .unset, .unset, .unset, .unset, .unset] [(.ref b2)])) _
    refine XS.dup X43.here hx rfl (hb hby at_122) rfl rfl ?_
    show Steps p.tables e below (T43.setTop (mkF m 123 #[.val (.int p1), .val (.int p2), .unset, .unset, .unset, .unset, .unset, .unset, .unset, .unset, .unset, .unset, .unset, .unset] [(.ref b2), (.ref b2)])) _
    refine XS.bipush X43.here hx rfl (hb hby at_123) ?_
    show Steps p.tables e below (T43.setTop (mkF m 125 #[.val (.int p1), .val (.int p2), .unset, .unset, .unset, .unset, .unset, .unset, .unset, .unset, .unset, .unset, .unset, .unset] [(.int (19 : Int32)), (.ref b2), (.ref b2)])) _
    refine XS.sipush X43.here hx rfl (hb hby at_125) ?_
    exact Steps.refl _)
  obtain ⟨cl45, Ar45, q45, S45, M45, H45, G45⟩ := V43
  have hin45 : ¬ ((19 : Int32) < 0 ∨ cl45.slots.size ≤ ((19 : Int32)).toNatClampNeg) := inb_of S45 ⟨by decide, by decide⟩
  obtain ⟨T45, h45, X45, e45, W45, st45⟩ := stI X43 hx hZ e43 Ar45 (j := (19 : Int32)) hin45 (g := (mkF m 128 #[.val (.int p1), .val (.int p2), .unset, .unset, .unset, .unset, .unset, .unset, .unset, .unset, .unset, .unset, .unset, .unset] [(.int (8204 : Int32)), (.int (19 : Int32)), (.ref b2), (.ref b2)])) rfl rfl (hb hby at_128)
  have V45 : Arv Z h45 b2 k2 .int (33 : Int32) [(.int (-2147483648 : Int32)), (.int (58 : Int32)), (.int (59 : Int32)), (.int (65 : Int32)), (.int (91 : Int32)), (.int (95 : Int32)), (.int (96 : Int32)), (.int (97 : Int32)), (.int (123 : Int32)), (.int (192 : Int32)), (.int (215 : Int32)), (.int (216 : Int32)), (.int (247 : Int32)), (.int (248 : Int32)), (.int (768 : Int32)), (.int (880 : Int32)), (.int (894 : Int32)), (.int (895 : Int32)), (.int (8192 : Int32)), (.int (8204 : Int32)), (.int (0 : Int32)), (.int (0 : Int32)), (.int (0 : Int32)), (.int (0 : Int32)), (.int (0 : Int32)), (.int (0 : Int32)), (.int (0 : Int32)), (.int (0 : Int32)), (.int (0 : Int32)), (.int (0 : Int32)), (.int (0 : Int32)), (.int (0 : Int32)), (.int (0 : Int32))] (.int (0 : Int32)) := Arv.set Ar45 q45 S45 M45 H45 G45 rfl W45 19 rfl (Nat.le_of_ble_eq_true rfl)
  have N45 := Fr.snoc X45 N43 g_b2
  have Z45 : n0 ≤ h45.size := Nat.le_trans Z43 (Keep.of_wr W45).1
  have pre45 : Steps p.tables e below _ (T45.setTop (mkF m 129 #[.val (.int p1), .val (.int p2), .unset, .unset, .unset, .unset, .unset, .unset, .unset, .unset, .unset, .unset, .unset, .unset] [(.ref b2)])) := pre44.trans (st45 _ (Steps.refl _))
  have pre46 : Steps p.tables e below _ (T45.setTop (mkF m 135 #[.val (.int p1), .val (.int p2), .unset, .unset, .unset, .unset, .unset, .unset, .unset, .unset, .unset, .unset, .unset, .unset] [(.int (8206 : Int32)), (.int (20 : Int32)), (.ref b2), (.ref b2)])) := pre45.trans (by
    show Steps p.tables e below (T45.setTop (mkF m 129 #[.val (.int p1), .val (.int p2), .unset, .unset, .unset, .unset, .unset, .unset, .unset, .unset, .unset, .unset, .unset, .unset] [(.ref b2)])) _
    refine XS.dup X45.here hx rfl (hb hby at_129) rfl rfl ?_
    show Steps p.tables e below (T45.setTop (mkF m 130 #[.val (.int p1), .val (.int p2), .unset, .unset, .unset, .unset, .unset, .unset, .unset, .unset, .unset, .unset, .unset, .unset] [(.ref b2), (.ref b2)])) _
    refine XS.bipush X45.here hx rfl (hb hby at_130) ?_
    show Steps p.tables e below (T45.setTop (mkF m 132 #[.val (.int p1), .val (.int p2), .unset, .unset, .unset, .unset, .unset, .unset, .unset, .unset, .unset, .unset, .unset, .unset] [(.int (20 : Int32)), (.ref b2), (.ref b2)])) _
    refine XS.sipush X45.here hx rfl (hb hby at_132) ?_
    exact Steps.refl _)
  obtain ⟨cl47, Ar47, q47, S47, M47, H47, G47⟩ := V45
  have hin47 : ¬ ((20 : Int32) < 0 ∨ cl47.slots.size ≤ ((20 : Int32)).toNatClampNeg) := inb_of S47 ⟨by decide, by decide⟩
  obtain ⟨T47, h47, X47, e47, W47, st47⟩ := stI X45 hx hZ e45 Ar47 (j := (20 : Int32)) hin47 (g := (mkF m 135 #[.val (.int p1), .val (.int p2), .unset, .unset, .unset, .unset, .unset, .unset, .unset, .unset, .unset, .unset, .unset, .unset] [(.int (8206 : Int32)), (.int (20 : Int32)), (.ref b2), (.ref b2)])) rfl rfl (hb hby at_135)
  have V47 : Arv Z h47 b2 k2 .int (33 : Int32) [(.int (-2147483648 : Int32)), (.int (58 : Int32)), (.int (59 : Int32)), (.int (65 : Int32)), (.int (91 : Int32)), (.int (95 : Int32)), (.int (96 : Int32)), (.int (97 : Int32)), (.int (123 : Int32)), (.int (192 : Int32)), (.int (215 : Int32)), (.int (216 : Int32)), (.int (247 : Int32)), (.int (248 : Int32)), (.int (768 : Int32)), (.int (880 : Int32)), (.int (894 : Int32)), (.int (895 : Int32)), (.int (8192 : Int32)), (.int (8204 : Int32)), (.int (8206 : Int32)), (.int (0 : Int32)), (.int (0 : Int32)), (.int (0 : Int32)), (.int (0 : Int32)), (.int (0 : Int32)), (.int (0 : Int32)), (.int (0 : Int32)), (.int (0 : Int32)), (.int (0 : Int32)), (.int (0 : Int32)), (.int (0 : Int32)), (.int (0 : Int32))] (.int (0 : Int32)) := Arv.set Ar47 q47 S47 M47 H47 G47 rfl W47 20 rfl (Nat.le_of_ble_eq_true rfl)
  have N47 := Fr.snoc X47 N45 g_b2
  have Z47 : n0 ≤ h47.size := Nat.le_trans Z45 (Keep.of_wr W47).1
  have pre47 : Steps p.tables e below _ (T47.setTop (mkF m 136 #[.val (.int p1), .val (.int p2), .unset, .unset, .unset, .unset, .unset, .unset, .unset, .unset, .unset, .unset, .unset, .unset] [(.ref b2)])) := pre46.trans (st47 _ (Steps.refl _))
  have pre48 : Steps p.tables e below _ (T47.setTop (mkF m 142 #[.val (.int p1), .val (.int p2), .unset, .unset, .unset, .unset, .unset, .unset, .unset, .unset, .unset, .unset, .unset, .unset] [(.int (8304 : Int32)), (.int (21 : Int32)), (.ref b2), (.ref b2)])) := pre47.trans (by
    show Steps p.tables e below (T47.setTop (mkF m 136 #[.val (.int p1), .val (.int p2), .unset, .unset, .unset, .unset, .unset, .unset, .unset, .unset, .unset, .unset, .unset, .unset] [(.ref b2)])) _
    refine XS.dup X47.here hx rfl (hb hby at_136) rfl rfl ?_
    show Steps p.tables e below (T47.setTop (mkF m 137 #[.val (.int p1), .val (.int p2), .unset, .unset, .unset, .unset, .unset, .unset, .unset, .unset, .unset, .unset, .unset, .unset] [(.ref b2), (.ref b2)])) _
    refine XS.bipush X47.here hx rfl (hb hby at_137) ?_
    show Steps p.tables e below (T47.setTop (mkF m 139 #[.val (.int p1), .val (.int p2), .unset, .unset, .unset, .unset, .unset, .unset, .unset, .unset, .unset, .unset, .unset, .unset] [(.int (21 : Int32)), (.ref b2), (.ref b2)])) _
    refine XS.sipush X47.here hx rfl (hb hby at_139) ?_
    exact Steps.refl _)
  obtain ⟨cl49, Ar49, q49, S49, M49, H49, G49⟩ := V47
  have hin49 : ¬ ((21 : Int32) < 0 ∨ cl49.slots.size ≤ ((21 : Int32)).toNatClampNeg) := inb_of S49 ⟨by decide, by decide⟩
  obtain ⟨T49, h49, X49, e49, W49, st49⟩ := stI X47 hx hZ e47 Ar49 (j := (21 : Int32)) hin49 (g := (mkF m 142 #[.val (.int p1), .val (.int p2), .unset, .unset, .unset, .unset, .unset, .unset, .unset, .unset, .unset, .unset, .unset, .unset] [(.int (8304 : Int32)), (.int (21 : Int32)), (.ref b2), (.ref b2)])) rfl rfl (hb hby at_142)
  have V49 : Arv Z h49 b2 k2 .int (33 : Int32) [(.int (-2147483648 : Int32)), (.int (58 : Int32)), (.int (59 : Int32)), (.int (65 : Int32)), (.int (91 : Int32)), (.int (95 : Int32)), (.int (96 : Int32)), (.int (97 : Int32)), (.int (123 : Int32)), (.int (192 : Int32)), (.int (215 : Int32)), (.int (216 : Int32)), (.int (247 : Int32)), (.int (248 : Int32)), (.int (768 : Int32)), (.int (880 : Int32)), (.int (894 : Int32)), (.int (895 : Int32)), (.int (8192 : Int32)), (.int (8204 : Int32)), (.int (8206 : Int32)), (.int (8304 : Int32)), (.int (0 : Int32)), (.int (0 : Int32)), (.int (0 : Int32)), (.int (0 : Int32)), (.int (0 : Int32)), (.int (0 : Int32)), (.int (0 : Int32)), (.int (0 : Int32)), (.int (0 : Int32)), (.int (0 : Int32)), (.int (0 : Int32))] (.int (0 : Int32)) := Arv.set Ar49 q49 S49 M49 H49 G49 rfl W49 21 rfl (Nat.le_of_ble_eq_true rfl)
  have N49 := Fr.snoc X49 N47 g_b2
  have Z49 : n0 ≤ h49.size := Nat.le_trans Z47 (Keep.of_wr W49).1
  have pre49 : Steps p.tables e below _ (T49.setTop (mkF m 143 #[.val (.int p1), .val (.int p2), .unset, .unset, .unset, .unset, .unset, .unset, .unset, .unset, .unset, .unset, .unset, .unset] [(.ref b2)])) := pre48.trans (st49 _ (Steps.refl _))
  have pre50 : Steps p.tables e below _ (T49.setTop (mkF m 149 #[.val (.int p1), .val (.int p2), .unset, .unset, .unset, .unset, .unset, .unset, .unset, .unset, .unset, .unset, .unset, .unset] [(.int (8592 : Int32)), (.int (22 : Int32)), (.ref b2), (.ref b2)])) := pre49.trans (by
    show Steps p.tables e below (T49.setTop (mkF m 143 #[.val (.int p1), .val (.int p2), .unset, .unset, .unset, .unset, .unset, .unset, .unset, .unset, .unset, .unset, .unset, .unset] [(.ref b2)])) _
    refine XS.dup X49.here hx rfl (hb hby at_143) rfl rfl ?_
    show Steps p.tables e below (T49.setTop (mkF m 144 #[.val (.int p1), .val (.int p2), .unset, .unset, .unset, .unset, .unset, .unset, .unset, .unset, .unset, .unset, .unset, .unset] [(.ref b2), (.ref b2)])) _
    refine XS.bipush X49.here hx rfl (hb hby at_144) ?_
    show Steps p.tables e below (T49.setTop (mkF m 146 #[.val (.int p1), .val (.int p2), .unset, .unset, .unset, .unset, .unset, .unset, .unset, .unset, .unset, .unset, .unset, .unset] [(.int (22 : Int32)), (.ref b2), (.ref b2)])) _
    refine XS.sipush X49.here hx rfl (hb hby at_146) ?_
    exact Steps.refl _)
  obtain ⟨cl51, Ar51, q51, S51, M51, H51, G51⟩ := V49
  have hin51 : ¬ ((22 : Int32) < 0 ∨ cl51.slots.size ≤ ((22 : Int32)).toNatClampNeg) := inb_of S51 ⟨by decide, by decide⟩
  obtain ⟨T51, h51, X51, e51, W51, st51⟩ := stI X49 hx hZ e49 Ar51 (j := (22 : Int32)) hin51 (g := (mkF m 149 #[.val (.int p1), .val (.int p2), .unset, .unset, .unset, .unset, .unset, .unset, .unset, .unset, .unset, .unset, .unset, .unset] [(.int (8592 : Int32)), (.int (22 : Int32)), (.ref b2), (.ref b2)])) rfl rfl (hb hby at_149)
  have V51 : Arv Z h51 b2 k2 .int (33 : Int32) [(.int (-2147483648 : Int32)), (.int (58 : Int32)), (.int (59 : Int32)), (.int (65 : Int32)), (.int (91 : Int32)), (.int (95 : Int32)), (.int (96 : Int32)), (.int (97 : Int32)), (.int (123 : Int32)), (.int (192 : Int32)), (.int (215 : Int32)), (.int (216 : Int32)), (.int (247 : Int32)), (.int (248 : Int32)), (.int (768 : Int32)), (.int (880 : Int32)), (.int (894 : Int32)), (.int (895 : Int32)), (.int (8192 : Int32)), (.int (8204 : Int32)), (.int (8206 : Int32)), (.int (8304 : Int32)), (.int (8592 : Int32)), (.int (0 : Int32)), (.int (0 : Int32)), (.int (0 : Int32)), (.int (0 : Int32)), (.int (0 : Int32)), (.int (0 : Int32)), (.int (0 : Int32)), (.int (0 : Int32)), (.int (0 : Int32)), (.int (0 : Int32))] (.int (0 : Int32)) := Arv.set Ar51 q51 S51 M51 H51 G51 rfl W51 22 rfl (Nat.le_of_ble_eq_true rfl)
  have N51 := Fr.snoc X51 N49 g_b2
  have Z51 : n0 ≤ h51.size := Nat.le_trans Z49 (Keep.of_wr W51).1
  have pre51 : Steps p.tables e below _ (T51.setTop (mkF m 150 #[.val (.int p1), .val (.int p2), .unset, .unset, .unset, .unset, .unset, .unset, .unset, .unset, .unset, .unset, .unset, .unset] [(.ref b2)])) := pre50.trans (st51 _ (Steps.refl _))
  have pre52 : Steps p.tables e below _ (T51.setTop (mkF m 156 #[.val (.int p1), .val (.int p2), .unset, .unset, .unset, .unset, .unset, .unset, .unset, .unset, .unset, .unset, .unset, .unset] [(.int (11264 : Int32)), (.int (23 : Int32)), (.ref b2), (.ref b2)])) := pre51.trans (by
    show Steps p.tables e below (T51.setTop (mkF m 150 #[.val (.int p1), .val (.int p2), .unset, .unset, .unset, .unset, .unset, .unset, .unset, .unset, .unset, .unset, .unset, .unset] [(.ref b2)])) _
    refine XS.dup X51.here hx rfl (hb hby at_150) rfl rfl ?_
    show Steps p.tables e below (T51.setTop (mkF m 151 #[.val (.int p1), .val (.int p2), .unset, .unset, .unset, .unset, .unset, .unset, .unset, .unset, .unset, .unset, .unset, .unset] [(.ref b2), (.ref b2)])) _
    refine XS.bipush X51.here hx rfl (hb hby at_151) ?_
    show Steps p.tables e below (T51.setTop (mkF m 153 #[.val (.int p1), .val (.int p2), .unset, .unset, .unset, .unset, .unset, .unset, .unset, .unset, .unset, .unset, .unset, .unset] [(.int (23 : Int32)), (.ref b2), (.ref b2)])) _
    refine XS.sipush X51.here hx rfl (hb hby at_153) ?_
    exact Steps.refl _)
  obtain ⟨cl53, Ar53, q53, S53, M53, H53, G53⟩ := V51
  have hin53 : ¬ ((23 : Int32) < 0 ∨ cl53.slots.size ≤ ((23 : Int32)).toNatClampNeg) := inb_of S53 ⟨by decide, by decide⟩
  obtain ⟨T53, h53, X53, e53, W53, st53⟩ := stI X51 hx hZ e51 Ar53 (j := (23 : Int32)) hin53 (g := (mkF m 156 #[.val (.int p1), .val (.int p2), .unset, .unset, .unset, .unset, .unset, .unset, .unset, .unset, .unset, .unset, .unset, .unset] [(.int (11264 : Int32)), (.int (23 : Int32)), (.ref b2), (.ref b2)])) rfl rfl (hb hby at_156)
  have V53 : Arv Z h53 b2 k2 .int (33 : Int32) [(.int (-2147483648 : Int32)), (.int (58 : Int32)), (.int (59 : Int32)), (.int (65 : Int32)), (.int (91 : Int32)), (.int (95 : Int32)), (.int (96 : Int32)), (.int (97 : Int32)), (.int (123 : Int32)), (.int (192 : Int32)), (.int (215 : Int32)), (.int (216 : Int32)), (.int (247 : Int32)), (.int (248 : Int32)), (.int (768 : Int32)), (.int (880 : Int32)), (.int (894 : Int32)), (.int (895 : Int32)), (.int (8192 : Int32)), (.int (8204 : Int32)), (.int (8206 : Int32)), (.int (8304 : Int32)), (.int (8592 : Int32)), (.int (11264 : Int32)), (.int (0 : Int32)), (.int (0 : Int32)), (.int (0 : Int32)), (.int (0 : Int32)), (.int (0 : Int32)), (.int (0 : Int32)), (.int (0 : Int32)), (.int (0 : Int32)), (.int (0 : Int32))] (.int (0 : Int32)) := Arv.set Ar53 q53 S53 M53 H53 G53 rfl W53 23 rfl (Nat.le_of_ble_eq_true rfl)
  have N53 := Fr.snoc X53 N51 g_b2
  have Z53 : n0 ≤ h53.size := Nat.le_trans Z51 (Keep.of_wr W53).1
  have pre53 : Steps p.tables e below _ (T53.setTop (mkF m 157 #[.val (.int p1), .val (.int p2), .unset, .unset, .unset, .unset, .unset, .unset, .unset, .unset, .unset, .unset, .unset, .unset] [(.ref b2)])) := pre52.trans (st53 _ (Steps.refl _))
  obtain ⟨lc54, X54, N54⟩ : ∃ lc : List Loc, Stand p l e room_1 s m #[(.int p1), (.int p2)] below meth c T53 lc 1 33 ∧ Fr n0 lc := ⟨_, X53, N53⟩
  have pre55 : Steps p.tables e below _ (T53.setTop (mkF m 163 #[.val (.int p1), .val (.int p2), .unset, .unset, .unset, .unset, .unset, .unset, .unset, .unset, .unset, .unset, .unset, .unset] [(.int (12272 : Int32)), (.int (24 : Int32)), (.ref b2), (.ref b2)])) := pre53.trans (by
    show Steps p.tables e below (T53.setTop (mkF m 157 #[.val (.int p1), .val (.int p2), .unset, .unset, .unset, .unset, .unset, .unset, .unset, .unset, .unset, .unset, .unset, .unset] [(.ref b2)])) _
    refine XS.dup X54.here hx rfl (hb hby at_157) rfl rfl ?_
    show Steps p.tables e below (T53.setTop (mkF m 158 #[.val (.int p1), .val (.int p2), .unset, .unset, .unset, .unset, .unset, .unset, .unset, .unset, .unset, .unset, .unset, .unset] [(.ref b2), (.ref b2)])) _
    refine XS.bipush X54.here hx rfl (hb hby at_158) ?_
    show Steps p.tables e below (T53.setTop (mkF m 160 #[.val (.int p1), .val (.int p2), .unset, .unset, .unset, .unset, .unset, .unset, .unset, .unset, .unset, .unset, .unset, .unset] [(.int (24 : Int32)), (.ref b2), (.ref b2)])) _
    refine XS.sipush X54.here hx rfl (hb hby at_160) ?_
    exact Steps.refl _)
  obtain ⟨cl56, Ar56, q56, S56, M56, H56, G56⟩ := V53
  have hin56 : ¬ ((24 : Int32) < 0 ∨ cl56.slots.size ≤ ((24 : Int32)).toNatClampNeg) := inb_of S56 ⟨by decide, by decide⟩
  obtain ⟨T56, h56, X56, e56, W56, st56⟩ := stI X54 hx hZ e53 Ar56 (j := (24 : Int32)) hin56 (g := (mkF m 163 #[.val (.int p1), .val (.int p2), .unset, .unset, .unset, .unset, .unset, .unset, .unset, .unset, .unset, .unset, .unset, .unset] [(.int (12272 : Int32)), (.int (24 : Int32)), (.ref b2), (.ref b2)])) rfl rfl (hb hby at_163)
  have V56 : Arv Z h56 b2 k2 .int (33 : Int32) [(.int (-2147483648 : Int32)), (.int (58 : Int32)), (.int (59 : Int32)), (.int (65 : Int32)), (.int (91 : Int32)), (.int (95 : Int32)), (.int (96 : Int32)), (.int (97 : Int32)), (.int (123 : Int32)), (.int (192 : Int32)), (.int (215 : Int32)), (.int (216 : Int32)), (.int (247 : Int32)), (.int (248 : Int32)), (.int (768 : Int32)), (.int (880 : Int32)), (.int (894 : Int32)), (.int (895 : Int32)), (.int (8192 : Int32)), (.int (8204 : Int32)), (.int (8206 : Int32)), (.int (8304 : Int32)), (.int (8592 : Int32)), (.int (11264 : Int32)), (.int (12272 : Int32)), (.int (0 : Int32)), (.int (0 : Int32)), (.int (0 : Int32)), (.int (0 : Int32)), (.int (0 : Int32)), (.int (0 : Int32)), (.int (0 : Int32)), (.int (0 : Int32))] (.int (0 : Int32)) := Arv.set Ar56 q56 S56 M56 H56 G56 rfl W56 24 rfl (Nat.le_of_ble_eq_true rfl)
  have N56 := Fr.snoc X56 N54 g_b2
  have Z56 : n0 ≤ h56.size := Nat.le_trans Z53 (Keep.of_wr W56).1
  have pre56 : Steps p.tables e below _ (T56.setTop (mkF m 164 #[.val (.int p1), .val (.int p2), .unset, .unset, .unset, .unset, .unset, .unset, .unset, .unset, .unset, .unset, .unset, .unset] [(.ref b2)])) := pre55.trans (st56 _ (Steps.refl _))
  have pre57 : Steps p.tables e below _ (T56.setTop (mkF m 170 #[.val (.int p1), .val (.int p2), .unset, .unset, .unset, .unset, .unset, .unset, .unset, .unset, .unset, .unset, .unset, .unset] [(.int (12289 : Int32)), (.int (25 : Int32)), (.ref b2), (.ref b2)])) := pre56.trans (by
    show Steps p.tables e below (T56.setTop (mkF m 164 #[.val (.int p1), .val (.int p2), .unset, .unset, .unset, .unset, .unset, .unset, .unset, .unset, .unset, .unset, .unset, .unset] [(.ref b2)])) _
    refine XS.dup X56.here hx rfl (hb hby at_164) rfl rfl ?_
    show Steps p.tables e below (T56.setTop (mkF m 165 #[.val (.int p1), .val (.int p2), .unset, .unset, .unset, .unset, .unset, .unset, .unset, .unset, .unset, .unset, .unset, .unset] [(.ref b2), (.ref b2)])) _
    refine XS.bipush X56.here hx rfl (hb hby at_165) ?_
    show Steps p.tables e below (T56.setTop (mkF m 167 #[.val (.int p1), .val (.int p2), .unset, .unset, .unset, .unset, .unset, .unset, .unset, .unset, .unset, .unset, .unset, .unset] [(.int (25 : Int32)), (.ref b2), (.ref b2)])) _
    refine XS.sipush X56.here hx rfl (hb hby at_167) ?_
    exact Steps.refl _)
  obtain ⟨cl58, Ar58, q58, S58, M58, H58, G58⟩ := V56
  have hin58 : ¬ ((25 : Int32) < 0 ∨ cl58.slots.size ≤ ((25 : Int32)).toNatClampNeg) := inb_of S58 ⟨by decide, by decide⟩
  obtain ⟨T58, h58, X58, e58, W58, st58⟩ := stI X56 hx hZ e56 Ar58 (j := (25 : Int32)) hin58 (g := (mkF m 170 #[.val (.int p1), .val (.int p2), .unset, .unset, .unset, .unset, .unset, .unset, .unset, .unset, .unset, .unset, .unset, .unset] [(.int (12289 : Int32)), (.int (25 : Int32)), (.ref b2), (.ref b2)])) rfl rfl (hb hby at_170)
  have V58 : Arv Z h58 b2 k2 .int (33 : Int32) [(.int (-2147483648 : Int32)), (.int (58 : Int32)), (.int (59 : Int32)), (.int (65 : Int32)), (.int (91 : Int32)), (.int (95 : Int32)), (.int (96 : Int32)), (.int (97 : Int32)), (.int (123 : Int32)), (.int (192 : Int32)), (.int (215 : Int32)), (.int (216 : Int32)), (.int (247 : Int32)), (.int (248 : Int32)), (.int (768 : Int32)), (.int (880 : Int32)), (.int (894 : Int32)), (.int (895 : Int32)), (.int (8192 : Int32)), (.int (8204 : Int32)), (.int (8206 : Int32)), (.int (8304 : Int32)), (.int (8592 : Int32)), (.int (11264 : Int32)), (.int (12272 : Int32)), (.int (12289 : Int32)), (.int (0 : Int32)), (.int (0 : Int32)), (.int (0 : Int32)), (.int (0 : Int32)), (.int (0 : Int32)), (.int (0 : Int32)), (.int (0 : Int32))] (.int (0 : Int32)) := Arv.set Ar58 q58 S58 M58 H58 G58 rfl W58 25 rfl (Nat.le_of_ble_eq_true rfl)
  have N58 := Fr.snoc X58 N56 g_b2
  have Z58 : n0 ≤ h58.size := Nat.le_trans Z56 (Keep.of_wr W58).1
  have pre58 : Steps p.tables e below _ (T58.setTop (mkF m 171 #[.val (.int p1), .val (.int p2), .unset, .unset, .unset, .unset, .unset, .unset, .unset, .unset, .unset, .unset, .unset, .unset] [(.ref b2)])) := pre57.trans (st58 _ (Steps.refl _))
  have pre59 : Steps p.tables e below _ (T58.setTop (mkF m 176 #[.val (.int p1), .val (.int p2), .unset, .unset, .unset, .unset, .unset, .unset, .unset, .unset, .unset, .unset, .unset, .unset] [(.int (55296 : Int32)), (.int (26 : Int32)), (.ref b2), (.ref b2)])) := pre58.trans (by
    show Steps p.tables e below (T58.setTop (mkF m 171 #[.val (.int p1), .val (.int p2), .unset, .unset, .unset, .unset, .unset, .unset, .unset, .unset, .unset, .unset, .unset, .unset] [(.ref b2)])) _
    refine XS.dup X58.here hx rfl (hb hby at_171) rfl rfl ?_
    show Steps p.tables e below (T58.setTop (mkF m 172 #[.val (.int p1), .val (.int p2), .unset, .unset, .unset, .unset, .unset, .unset, .unset, .unset, .unset, .unset, .unset, .unset] [(.ref b2), (.ref b2)])) _
    refine XS.bipush X58.here hx rfl (hb hby at_172) ?_
    show Steps p.tables e below (T58.setTop (mkF m 174 #[.val (.int p1), .val (.int p2), .unset, .unset, .unset, .unset, .unset, .unset, .unset, .unset, .unset, .unset, .unset, .unset] [(.int (26 : Int32)), (.ref b2), (.ref b2)])) _
    refine X58.ldcInt hx hown (mvT hZ (hw _ (List.mem_of_getElem? (i := 2) rfl))) (g := (mkF m 174 #[.val (.int p1), .val (.int p2), .unset, .unset, .unset, .unset, .unset, .unset, .unset, .unset, .unset, .unset, .unset, .unset] [(.int (26 : Int32)), (.ref b2), (.ref b2)])) rfl (hb hby at_174) _ ?_
    exact Steps.refl _)
  obtain ⟨cl60, Ar60, q60, S60, M60, H60, G60⟩ := V58
  have hin60 : ¬ ((26 : Int32) < 0 ∨ cl60.slots.size ≤ ((26 : Int32)).toNatClampNeg) := inb_of S60 ⟨by decide, by decide⟩
  obtain ⟨T60, h60, X60, e60, W60, st60⟩ := stI X58 hx hZ e58 Ar60 (j := (26 : Int32)) hin60 (g := (mkF m 176 #[.val (.int p1), .val (.int p2), .unset, .unset, .unset, .unset, .unset, .unset, .unset, .unset, .unset, .unset, .unset, .unset] [(.int (55296 : Int32)), (.int (26 : Int32)), (.ref b2), (.ref b2)])) rfl rfl (hb hby at_176)
  have V60 : Arv Z h60 b2 k2 .int (33 : Int32) [(.int (-2147483648 : Int32)), (.int (58 : Int32)), (.int (59 : Int32)), (.int (65 : Int32)), (.int (91 : Int32)), (.int (95 : Int32)), (.int (96 : Int32)), (.int (97 : Int32)), (.int (123 : Int32)), (.int (192 : Int32)), (.int (215 : Int32)), (.int (216 : Int32)), (.int (247 : Int32)), (.int (248 : Int32)), (.int (768 : Int32)), (.int (880 : Int32)), (.int (894 : Int32)), (.int (895 : Int32)), (.int (8192 : Int32)), (.int (8204 : Int32)), (.int (8206 : Int32)), (.int (8304 : Int32)), (.int (8592 : Int32)), (.int (11264 : Int32)), (.int (12272 : Int32)), (.int (12289 : Int32)), (.int (55296 : Int32)), (.int (0 : Int32)), (.int (0 : Int32)), (.int (0 : Int32)), (.int (0 : Int32)), (.int (0 : Int32)), (.int (0 : Int32))] (.int (0 : Int32)) := Arv.set Ar60 q60 S60 M60 H60 G60 rfl W60 26 rfl (Nat.le_of_ble_eq_true rfl)
  have N60 := Fr.snoc X60 N58 g_b2
  have Z60 : n0 ≤ h60.size := Nat.le_trans Z58 (Keep.of_wr W60).1
  have pre60 : Steps p.tables e below _ (T60.setTop (mkF m 177 #[.val (.int p1), .val (.int p2), .unset, .unset, .unset, .unset, .unset, .unset, .unset, .unset, .unset, .unset, .unset, .unset] [(.ref b2)])) := pre59.trans (st60 _ (Steps.refl _))
  have pre61 : Steps p.tables e below _ (T60.setTop (mkF m 182 #[.val (.int p1), .val (.int p2), .unset, .unset, .unset, .unset, .unset, .unset, .unset, .unset, .unset, .unset, .unset, .unset] [(.int (63744 : Int32)), (.int (27 : Int32)), (.ref b2), (.ref b2)])) := pre60.trans (by
    show Steps p.tables e below (T60.setTop (mkF m 177 #[.val (.int p1), .val (.int p2), .unset, .unset, .unset, .unset, .unset, .unset, .unset, .unset, .unset, .unset, .unset, .unset] [(.ref b2)])) _
    refine XS.dup X60.here hx rfl (hb hby at_177) rfl rfl ?_
    show Steps p.tables e below (T60.setTop (mkF m 178 #[.val (.int p1), .val (.int p2), .unset, .unset, .unset, .unset, .unset, .unset, .unset, .unset, .unset, .unset, .unset, .unset] [(.ref b2), (.ref b2)])) _
    refine XS.bipush X60.here hx rfl (hb hby at_178) ?_
    show Steps p.tables e below (T60.setTop (mkF m 180 #[.val (.int p1), .val (.int p2), .unset, .unset, .unset, .unset, .unset, .unset, .unset, .unset, .unset, .unset, .unset, .unset] [(.int (27 : Int32)), (.ref b2), (.ref b2)])) _
    refine X60.ldcInt hx hown (mvT hZ (hw _ (List.mem_of_getElem? (i := 3) rfl))) (g := (mkF m 180 #[.val (.int p1), .val (.int p2), .unset, .unset, .unset, .unset, .unset, .unset, .unset, .unset, .unset, .unset, .unset, .unset] [(.int (27 : Int32)), (.ref b2), (.ref b2)])) rfl (hb hby at_180) _ ?_
    exact Steps.refl _)
  obtain ⟨cl62, Ar62, q62, S62, M62, H62, G62⟩ := V60
  have hin62 : ¬ ((27 : Int32) < 0 ∨ cl62.slots.size ≤ ((27 : Int32)).toNatClampNeg) := inb_of S62 ⟨by decide, by decide⟩
  obtain ⟨T62, h62, X62, e62, W62, st62⟩ := stI X60 hx hZ e60 Ar62 (j := (27 : Int32)) hin62 (g := (mkF m 182 #[.val (.int p1), .val (.int p2), .unset, .unset, .unset, .unset, .unset, .unset, .unset, .unset, .unset, .unset, .unset, .unset] [(.int (63744 : Int32)), (.int (27 : Int32)), (.ref b2), (.ref b2)])) rfl rfl (hb hby at_182)
  have V62 : Arv Z h62 b2 k2 .int (33 : Int32) [(.int (-2147483648 : Int32)), (.int (58 : Int32)), (.int (59 : Int32)), (.int (65 : Int32)), (.int (91 : Int32)), (.int (95 : Int32)), (.int (96 : Int32)), (.int (97 : Int32)), (.int (123 : Int32)), (.int (192 : Int32)), (.int (215 : Int32)), (.int (216 : Int32)), (.int (247 : Int32)), (.int (248 : Int32)), (.int (768 : Int32)), (.int (880 : Int32)), (.int (894 : Int32)), (.int (895 : Int32)), (.int (8192 : Int32)), (.int (8204 : Int32)), (.int (8206 : Int32)), (.int (8304 : Int32)), (.int (8592 : Int32)), (.int (11264 : Int32)), (.int (12272 : Int32)), (.int (12289 : Int32)), (.int (55296 : Int32)), (.int (63744 : Int32)), (.int (0 : Int32)), (.int (0 : Int32)), (.int (0 : Int32)), (.int (0 : Int32)), (.int (0 : Int32))] (.int (0 : Int32)) := Arv.set Ar62 q62 S62 M62 H62 G62 rfl W62 27 rfl (Nat.le_of_ble_eq_true rfl)
  have N62 := Fr.snoc X62 N60 g_b2
  have Z62 : n0 ≤ h62.size := Nat.le_trans Z60 (Keep.of_wr W62).1
  have pre62 : Steps p.tables e below _ (T62.setTop (mkF m 183 #[.val (.int p1), .val (.int p2), .unset, .unset, .unset, .unset, .unset, .unset, .unset, .unset, .unset, .unset, .unset, .unset] [(.ref b2)])) := pre61.trans (st62 _ (Steps.refl _))
  have pre63 : Steps p.tables e below _ (T62.setTop (mkF m 188 #[.val (.int p1), .val (.int p2), .unset, .unset, .unset, .unset, .unset, .unset, .unset, .unset, .unset, .unset, .unset, .unset] [(.int (64976 : Int32)), (.int (28 : Int32)), (.ref b2), (.ref b2)])) := pre62.trans (by
    show Steps p.tables e below (T62.setTop (mkF m 183 #[.val (.int p1), .val (.int p2), .unset, .unset, .unset, .unset, .unset, .unset, .unset, .unset, .unset, .unset, .unset, .unset] [(.ref b2)])) _
    refine XS.dup X62.here hx rfl (hb hby at_183) rfl rfl ?_
    show Steps p.tables e below (T62.setTop (mkF m 184 #[.val (.int p1), .val (.int p2), .unset, .unset, .unset, .unset, .unset, .unset, .unset, .unset, .unset, .unset, .unset, .unset] [(.ref b2), (.ref b2)])) _
    refine XS.bipush X62.here hx rfl (hb hby at_184) ?_
    show Steps p.tables e below (T62.setTop (mkF m 186 #[.val (.int p1), .val (.int p2), .unset, .unset, .unset, .unset, .unset, .unset, .unset, .unset, .unset, .unset, .unset, .unset] [(.int (28 : Int32)), (.ref b2), (.ref b2)])) _
    refine X62.ldcInt hx hown (mvT hZ (hw _ (List.mem_of_getElem? (i := 4) rfl))) (g := (mkF m 186 #[.val (.int p1), .val (.int p2), .unset, .unset, .unset, .unset, .unset, .unset, .unset, .unset, .unset, .unset, .unset, .unset] [(.int (28 : Int32)), (.ref b2), (.ref b2)])) rfl (hb hby at_186) _ ?_
    exact Steps.refl _)
  obtain ⟨cl64, Ar64, q64, S64, M64, H64, G64⟩ := V62
  have hin64 : ¬ ((28 : Int32) < 0 ∨ cl64.slots.size ≤ ((28 : Int32)).toNatClampNeg) := inb_of S64 ⟨by decide, by decide⟩
  obtain ⟨T64, h64, X64, e64, W64, st64⟩ := stI X62 hx hZ e62 Ar64 (j := (28 : Int32)) hin64 (g := (mkF m 188 #[.val (.int p1), .val (.int p2), .unset, .unset, .unset, .unset, .unset, .unset, .unset, .unset, .unset, .unset, .unset, .unset] [(.int (64976 : Int32)), (.int (28 : Int32)), (.ref b2), (.ref b2)])) rfl rfl (hb hby at_188)
  have V64 : Arv Z h64 b2 k2 .int (33 : Int32) [(.int (-2147483648 : Int32)), (.int (58 : Int32)), (.int (59 : Int32)), (.int (65 : Int32)), (.int (91 : Int32)), (.int (95 : Int32)), (.int (96 : Int32)), (.int (97 : Int32)), (.int (123 : Int32)), (.int (192 : Int32)), (.int (215 : Int32)), (.int (216 : Int32)), (.int (247 : Int32)), (.int (248 : Int32)), (.int (768 : Int32)), (.int (880 : Int32)), (.int (894 : Int32)), (.int (895 : Int32)), (.int (8192 : Int32)), (.int (8204 : Int32)), (.int (8206 : Int32)), (.int (8304 : Int32)), (.int (8592 : Int32)), (.int (11264 : Int32)), (.int (12272 : Int32)), (.int (12289 : Int32)), (.int (55296 : Int32)), (.int (63744 : Int32)), (.int (64976 : Int32)), (.int (0 : Int32)), (.int (0 : Int32)), (.int (0 : Int32)), (.int (0 : Int32))] (.int (0 : Int32)) := Arv.set Ar64 q64 S64 M64 H64 G64 rfl W64 28 rfl (Nat.le_of_ble_eq_true rfl)
  have N64 := Fr.snoc X64 N62 g_b2
  have Z64 : n0 ≤ h64.size := Nat.le_trans Z62 (Keep.of_wr W64).1
  have pre64 : Steps p.tables e below _ (T64.setTop (mkF m 189 #[.val (.int p1), .val (.int p2), .unset, .unset, .unset, .unset, .unset, .unset, .unset, .unset, .unset, .unset, .unset, .unset] [(.ref b2)])) := pre63.trans (st64 _ (Steps.refl _))
  have pre65 : Steps p.tables e below _ (T64.setTop (mkF m 194 #[.val (.int p1), .val (.int p2), .unset, .unset, .unset, .unset, .unset, .unset, .unset, .unset, .unset, .unset, .unset, .unset] [(.int (65008 : Int32)), (.int (29 : Int32)), (.ref b2), (.ref b2)])) := pre64.trans (by
    show Steps p.tables e below (T64.setTop (mkF m 189 #[.val (.int p1), .val (.int p2), .unset, .unset, .unset, .unset, .unset, .unset, .unset, .unset, .unset, .unset, .unset, .unset] [(.ref b2)])) _
    refine XS.dup X64.here hx rfl (hb hby at_189) rfl rfl ?_
    show Steps p.tables e below (T64.setTop (mkF m 190 #[.val (.int p1), .val (.int p2), .unset, .unset, .unset, .unset, .unset, .unset, .unset, .unset, .unset, .unset, .unset, .unset] [(.ref b2), (.ref b2)])) _
    refine XS.bipush X64.here hx rfl (hb hby at_190) ?_
    show Steps p.tables e below (T64.setTop (mkF m 192 #[.val (.int p1), .val (.int p2), .unset, .unset, .unset, .unset, .unset, .unset, .unset, .unset, .unset, .unset, .unset, .unset] [(.int (29 : Int32)), (.ref b2), (.ref b2)])) _
    refine X64.ldcInt hx hown (mvT hZ (hw _ (List.mem_of_getElem? (i := 5) rfl))) (g := (mkF m 192 #[.val (.int p1), .val (.int p2), .unset, .unset, .unset, .unset, .unset, .unset, .unset, .unset, .unset, .unset, .unset, .unset] [(.int (29 : Int32)), (.ref b2), (.ref b2)])) rfl (hb hby at_192) _ ?_
    exact Steps.refl _)
  obtain ⟨cl66, Ar66, q66, S66, M66, H66, G66⟩ := V64
  have hin66 : ¬ ((29 : Int32) < 0 ∨ cl66.slots.size ≤ ((29 : Int32)).toNatClampNeg) := inb_of S66 ⟨by decide, by decide⟩
  obtain ⟨T66, h66, X66, e66, W66, st66⟩ := stI X64 hx hZ e64 Ar66 (j := (29 : Int32)) hin66 (g := (mkF m 194 #[.val (.int p1), .val (.int p2), .unset, .unset, .unset, .unset, .unset, .unset, .unset, .unset, .unset, .unset, .unset, .unset] [(.int (65008 : Int32)), (.int (29 : Int32)), (.ref b2), (.ref b2)])) rfl rfl (hb hby at_194)
  have V66 : Arv Z h66 b2 k2 .int (33 : Int32) [(.int (-2147483648 : Int32)), (.int (58 : Int32)), (.int (59 : Int32)), (.int (65 : Int32)), (.int (91 : Int32)), (.int (95 : Int32)), (.int (96 : Int32)), (.int (97 : Int32)), (.int (123 : Int32)), (.int (192 : Int32)), (.int (215 : Int32)), (.int (216 : Int32)), (.int (247 : Int32)), (.int (248 : Int32)), (.int (768 : Int32)), (.int (880 : Int32)), (.int (894 : Int32)), (.int (895 : Int32)), (.int (8192 : Int32)), (.int (8204 : Int32)), (.int (8206 : Int32)), (.int (8304 : Int32)), (.int (8592 : Int32)), (.int (11264 : Int32)), (.int (12272 : Int32)), (.int (12289 : Int32)), (.int (55296 : Int32)), (.int (63744 : Int32)), (.int (64976 : Int32)), (.int (65008 : Int32)), (.int (0 : Int32)), (.int (0 : Int32)), (.int (0 : Int32))] (.int (0 : Int32)) := Arv.set Ar66 q66 S66 M66 H66 G66 rfl W66 29 rfl (Nat.le_of_ble_eq_true rfl)
  have N66 := Fr.snoc X66 N64 g_b2
  have Z66 : n0 ≤ h66.size := Nat.le_trans Z64 (Keep.of_wr W66).1
  have pre66 : Steps p.tables e below _ (T66.setTop (mkF m 195 #[.val (.int p1), .val (.int p2), .unset, .unset, .unset, .unset, .unset, .unset, .unset, .unset, .unset, .unset, .unset, .unset] [(.ref b2)])) := pre65.trans (st66 _ (Steps.refl _))
  obtain ⟨lc67, X67, N67⟩ : ∃ lc : List Loc, Stand p l e room_1 s m #[(.int p1), (.int p2)] below meth c T66 lc 1 33 ∧ Fr n0 lc := ⟨_, X66, N66⟩
  have pre68 : Steps p.tables e below _ (T66.setTop (mkF m 200 #[.val (.int p1), .val (.int p2), .unset, .unset, .unset, .unset, .unset, .unset, .unset, .unset, .unset, .unset, .unset, .unset] [(.int (65534 : Int32)), (.int (30 : Int32)), (.ref b2), (.ref b2)])) := pre66.trans (by
    show Steps p.tables e below (T66.setTop (mkF m 195 #[.val (.int p1), .val (.int p2), .unset, .unset, .unset, .unset, .unset, .unset, .unset, .unset, .unset, .unset, .unset, .unset] [(.ref b2)])) _
    refine XS.dup X67.here hx rfl (hb hby at_195) rfl rfl ?_
    show Steps p.tables e below (T66.setTop (mkF m 196 #[.val (.int p1), .val (.int p2), .unset, .unset, .unset, .unset, .unset, .unset, .unset, .unset, .unset, .unset, .unset, .unset] [(.ref b2), (.ref b2)])) _
    refine XS.bipush X67.here hx rfl (hb hby at_196) ?_
    show Steps p.tables e below (T66.setTop (mkF m 198 #[.val (.int p1), .val (.int p2), .unset, .unset, .unset, .unset, .unset, .unset, .unset, .unset, .unset, .unset, .unset, .unset] [(.int (30 : Int32)), (.ref b2), (.ref b2)])) _
    refine X67.ldcInt hx hown (mvT hZ (hw _ (List.mem_of_getElem? (i := 6) rfl))) (g := (mkF m 198 #[.val (.int p1), .val (.int p2), .unset, .unset, .unset, .unset, .unset, .unset, .unset, .unset, .unset, .unset, .unset, .unset] [(.int (30 : Int32)), (.ref b2), (.ref b2)])) rfl (hb hby at_198) _ ?_
    exact Steps.refl _)
  obtain ⟨cl69, Ar69, q69, S69, M69, H69, G69⟩ := V66
  have hin69 : ¬ ((30 : Int32) < 0 ∨ cl69.slots.size ≤ ((30 : Int32)).toNatClampNeg) := inb_of S69 ⟨by decide, by decide⟩
  obtain ⟨T69, h69, X69, e69, W69, st69⟩ := stI X67 hx hZ e66 Ar69 (j := (30 : Int32)) hin69 (g := (mkF m 200 #[.val (.int p1), .val (.int p2), .unset, .unset, .unset, .unset, .unset, .unset, .unset, .unset, .unset, .unset, .unset, .unset] [(.int (65534 : Int32)), (.int (30 : Int32)), (.ref b2), (.ref b2)])) rfl rfl (hb hby at_200)
  have V69 : Arv Z h69 b2 k2 .int (33 : Int32) [(.int (-2147483648 : Int32)), (.int (58 : Int32)), (.int (59 : Int32)), (.int (65 : Int32)), (.int (91 : Int32)), (.int (95 : Int32)), (.int (96 : Int32)), (.int (97 : Int32)), (.int (123 : Int32)), (.int (192 : Int32)), (.int (215 : Int32)), (.int (216 : Int32)), (.int (247 : Int32)), (.int (248 : Int32)), (.int (768 : Int32)), (.int (880 : Int32)), (.int (894 : Int32)), (.int (895 : Int32)), (.int (8192 : Int32)), (.int (8204 : Int32)), (.int (8206 : Int32)), (.int (8304 : Int32)), (.int (8592 : Int32)), (.int (11264 : Int32)), (.int (12272 : Int32)), (.int (12289 : Int32)), (.int (55296 : Int32)), (.int (63744 : Int32)), (.int (64976 : Int32)), (.int (65008 : Int32)), (.int (65534 : Int32)), (.int (0 : Int32)), (.int (0 : Int32))] (.int (0 : Int32)) := Arv.set Ar69 q69 S69 M69 H69 G69 rfl W69 30 rfl (Nat.le_of_ble_eq_true rfl)
  have N69 := Fr.snoc X69 N67 g_b2
  have Z69 : n0 ≤ h69.size := Nat.le_trans Z66 (Keep.of_wr W69).1
  have pre69 : Steps p.tables e below _ (T69.setTop (mkF m 201 #[.val (.int p1), .val (.int p2), .unset, .unset, .unset, .unset, .unset, .unset, .unset, .unset, .unset, .unset, .unset, .unset] [(.ref b2)])) := pre68.trans (st69 _ (Steps.refl _))
  have pre70 : Steps p.tables e below _ (T69.setTop (mkF m 206 #[.val (.int p1), .val (.int p2), .unset, .unset, .unset, .unset, .unset, .unset, .unset, .unset, .unset, .unset, .unset, .unset] [(.int (65536 : Int32)), (.int (31 : Int32)), (.ref b2), (.ref b2)])) := pre69.trans (by
    show Steps p.tables e below (T69.setTop (mkF m 201 #[.val (.int p1), .val (.int p2), .unset, .unset, .unset, .unset, .unset, .unset, .unset, .unset, .unset, .unset, .unset, .unset] [(.ref b2)])) _
    refine XS.dup X69.here hx rfl (hb hby at_201) rfl rfl ?_
    show Steps p.tables e below (T69.setTop (mkF m 202 #[.val (.int p1), .val (.int p2), .unset, .unset, .unset, .unset, .unset, .unset, .unset, .unset, .unset, .unset, .unset, .unset] [(.ref b2), (.ref b2)])) _
    refine XS.bipush X69.here hx rfl (hb hby at_202) ?_
    show Steps p.tables e below (T69.setTop (mkF m 204 #[.val (.int p1), .val (.int p2), .unset, .unset, .unset, .unset, .unset, .unset, .unset, .unset, .unset, .unset, .unset, .unset] [(.int (31 : Int32)), (.ref b2), (.ref b2)])) _
    refine X69.ldcInt hx hown (mvT hZ (hw _ (List.mem_of_getElem? (i := 7) rfl))) (g := (mkF m 204 #[.val (.int p1), .val (.int p2), .unset, .unset, .unset, .unset, .unset, .unset, .unset, .unset, .unset, .unset, .unset, .unset] [(.int (31 : Int32)), (.ref b2), (.ref b2)])) rfl (hb hby at_204) _ ?_
    exact Steps.refl _)
  obtain ⟨cl71, Ar71, q71, S71, M71, H71, G71⟩ := V69
  have hin71 : ¬ ((31 : Int32) < 0 ∨ cl71.slots.size ≤ ((31 : Int32)).toNatClampNeg) := inb_of S71 ⟨by decide, by decide⟩
  obtain ⟨T71, h71, X71, e71, W71, st71⟩ := stI X69 hx hZ e69 Ar71 (j := (31 : Int32)) hin71 (g := (mkF m 206 #[.val (.int p1), .val (.int p2), .unset, .unset, .unset, .unset, .unset, .unset, .unset, .unset, .unset, .unset, .unset, .unset] [(.int (65536 : Int32)), (.int (31 : Int32)), (.ref b2), (.ref b2)])) rfl rfl (hb hby at_206)
  have V71 : Arv Z h71 b2 k2 .int (33 : Int32) [(.int (-2147483648 : Int32)), (.int (58 : Int32)), (.int (59 : Int32)), (.int (65 : Int32)), (.int (91 : Int32)), (.int (95 : Int32)), (.int (96 : Int32)), (.int (97 : Int32)), (.int (123 : Int32)), (.int (192 : Int32)), (.int (215 : Int32)), (.int (216 : Int32)), (.int (247 : Int32)), (.int (248 : Int32)), (.int (768 : Int32)), (.int (880 : Int32)), (.int (894 : Int32)), (.int (895 : Int32)), (.int (8192 : Int32)), (.int (8204 : Int32)), (.int (8206 : Int32)), (.int (8304 : Int32)), (.int (8592 : Int32)), (.int (11264 : Int32)), (.int (12272 : Int32)), (.int (12289 : Int32)), (.int (55296 : Int32)), (.int (63744 : Int32)), (.int (64976 : Int32)), (.int (65008 : Int32)), (.int (65534 : Int32)), (.int (65536 : Int32)), (.int (0 : Int32))] (.int (0 : Int32)) := Arv.set Ar71 q71 S71 M71 H71 G71 rfl W71 31 rfl (Nat.le_of_ble_eq_true rfl)
  have N71 := Fr.snoc X71 N69 g_b2
  have Z71 : n0 ≤ h71.size := Nat.le_trans Z69 (Keep.of_wr W71).1
  have pre71 : Steps p.tables e below _ (T71.setTop (mkF m 207 #[.val (.int p1), .val (.int p2), .unset, .unset, .unset, .unset, .unset, .unset, .unset, .unset, .unset, .unset, .unset, .unset] [(.ref b2)])) := pre70.trans (st71 _ (Steps.refl _))
  have pre72 : Steps p.tables e below _ (T71.setTop (mkF m 212 #[.val (.int p1), .val (.int p2), .unset, .unset, .unset, .unset, .unset, .unset, .unset, .unset, .unset, .unset, .unset, .unset] [(.int (983040 : Int32)), (.int (32 : Int32)), (.ref b2), (.ref b2)])) := pre71.trans (by
    show Steps p.tables e below (T71.setTop (mkF m 207 #[.val (.int p1), .val (.int p2), .unset, .unset, .unset, .unset, .unset, .unset, .unset, .unset, .unset, .unset, .unset, .unset] [(.ref b2)])) _
    refine XS.dup X71.here hx rfl (hb hby at_207) rfl rfl ?_
    show Steps p.tables e below (T71.setTop (mkF m 208 #[.val (.int p1), .val (.int p2), .unset, .unset, .unset, .unset, .unset, .unset, .unset, .unset, .unset, .unset, .unset, .unset] [(.ref b2), (.ref b2)])) _
    refine XS.bipush X71.here hx rfl (hb hby at_208) ?_
    show Steps p.tables e below (T71.setTop (mkF m 210 #[.val (.int p1), .val (.int p2), .unset, .unset, .unset, .unset, .unset, .unset, .unset, .unset, .unset, .unset, .unset, .unset] [(.int (32 : Int32)), (.ref b2), (.ref b2)])) _
    refine X71.ldcInt hx hown (mvT hZ (hw _ (List.mem_of_getElem? (i := 8) rfl))) (g := (mkF m 210 #[.val (.int p1), .val (.int p2), .unset, .unset, .unset, .unset, .unset, .unset, .unset, .unset, .unset, .unset, .unset, .unset] [(.int (32 : Int32)), (.ref b2), (.ref b2)])) rfl (hb hby at_210) _ ?_
    exact Steps.refl _)
  obtain ⟨cl73, Ar73, q73, S73, M73, H73, G73⟩ := V71
  have hin73 : ¬ ((32 : Int32) < 0 ∨ cl73.slots.size ≤ ((32 : Int32)).toNatClampNeg) := inb_of S73 ⟨by decide, by decide⟩
  obtain ⟨T73, h73, X73, e73, W73, st73⟩ := stI X71 hx hZ e71 Ar73 (j := (32 : Int32)) hin73 (g := (mkF m 212 #[.val (.int p1), .val (.int p2), .unset, .unset, .unset, .unset, .unset, .unset, .unset, .unset, .unset, .unset, .unset, .unset] [(.int (983040 : Int32)), (.int (32 : Int32)), (.ref b2), (.ref b2)])) rfl rfl (hb hby at_212)
  have V73 : Arv Z h73 b2 k2 .int (33 : Int32) [(.int (-2147483648 : Int32)), (.int (58 : Int32)), (.int (59 : Int32)), (.int (65 : Int32)), (.int (91 : Int32)), (.int (95 : Int32)), (.int (96 : Int32)), (.int (97 : Int32)), (.int (123 : Int32)), (.int (192 : Int32)), (.int (215 : Int32)), (.int (216 : Int32)), (.int (247 : Int32)), (.int (248 : Int32)), (.int (768 : Int32)), (.int (880 : Int32)), (.int (894 : Int32)), (.int (895 : Int32)), (.int (8192 : Int32)), (.int (8204 : Int32)), (.int (8206 : Int32)), (.int (8304 : Int32)), (.int (8592 : Int32)), (.int (11264 : Int32)), (.int (12272 : Int32)), (.int (12289 : Int32)), (.int (55296 : Int32)), (.int (63744 : Int32)), (.int (64976 : Int32)), (.int (65008 : Int32)), (.int (65534 : Int32)), (.int (65536 : Int32)), (.int (983040 : Int32))] (.int (0 : Int32)) := Arv.set Ar73 q73 S73 M73 H73 G73 rfl W73 32 rfl (Nat.le_of_ble_eq_true rfl)
  have N73 := Fr.snoc X73 N71 g_b2
  have Z73 : n0 ≤ h73.size := Nat.le_trans Z71 (Keep.of_wr W73).1
  have pre73 : Steps p.tables e below _ (T73.setTop (mkF m 213 #[.val (.int p1), .val (.int p2), .unset, .unset, .unset, .unset, .unset, .unset, .unset, .unset, .unset, .unset, .unset, .unset] [(.ref b2)])) := pre72.trans (st73 _ (Steps.refl _))
  obtain ⟨lc74, X74, N74⟩ : ∃ lc : List Loc, Stand p l e room_1 s m #[(.int p1), (.int p2)] below meth c T73 lc 1 33 ∧ Fr n0 lc := ⟨_, X73, N73⟩
  have pre75 : Steps p.tables e below _ (T73.setTop (mkF m 222 #[.val (.int p1), .val (.int p2), .val (.ref b2), .val (.int ((p1 &&& (2147483647 : Int32)) % (33 : Int32))), .unset, .unset, .unset, .unset, .unset, .unset, .unset, .unset, .unset, .unset] [])) := pre73.trans (by
    show Steps p.tables e below (T73.setTop (mkF m 213 #[.val (.int p1), .val (.int p2), .unset, .unset, .unset, .unset, .unset, .unset, .unset, .unset, .unset, .unset, .unset, .unset] [(.ref b2)])) _
    refine XS.astoreN X74.here hx rfl (hb hby at_213) rfl rfl (l' := #[.val (.int p1), .val (.int p2), .val (.ref b2), .unset, .unset, .unset, .unset, .unset, .unset, .unset, .unset, .unset, .unset, .unset]) rfl ?_
    show Steps p.tables e below (T73.setTop (mkF m 214 #[.val (.int p1), .val (.int p2), .val (.ref b2), .unset, .unset, .unset, .unset, .unset, .unset, .unset, .unset, .unset, .unset, .unset] [])) _
    refine XS.iloadN X74.here hx rfl (hb hby at_214) rfl ?_
    show Steps p.tables e below (T73.setTop (mkF m 215 #[.val (.int p1), .val (.int p2), .val (.ref b2), .unset, .unset, .unset, .unset, .unset, .unset, .unset, .unset, .unset, .unset, .unset] [(.int p1)])) _
    refine X74.ldcInt hx hown (mvT hZ (hw _ (List.mem_of_getElem? (i := 9) rfl))) (g := (mkF m 215 #[.val (.int p1), .val (.int p2), .val (.ref b2), .unset, .unset, .unset, .unset, .unset, .unset, .unset, .unset, .unset, .unset, .unset] [(.int p1)])) rfl (hb hby at_215) _ ?_
    show Steps p.tables e below (T73.setTop (mkF m 217 #[.val (.int p1), .val (.int p2), .val (.ref b2), .unset, .unset, .unset, .unset, .unset, .unset, .unset, .unset, .unset, .unset, .unset] [(.int (2147483647 : Int32)), (.int p1)])) _
    refine XS.iand X74.here hx rfl (hb hby at_217) rfl ?_
    show Steps p.tables e below (T73.setTop (mkF m 218 #[.val (.int p1), .val (.int p2), .val (.ref b2), .unset, .unset, .unset, .unset, .unset, .unset, .unset, .unset, .unset, .unset, .unset] [(.int (p1 &&& (2147483647 : Int32)))])) _
    refine XS.bipush X74.here hx rfl (hb hby at_218) ?_
    show Steps p.tables e below (T73.setTop (mkF m 220 #[.val (.int p1), .val (.int p2), .val (.ref b2), .unset, .unset, .unset, .unset, .unset, .unset, .unset, .unset, .unset, .unset, .unset] [(.int (33 : Int32)), (.int (p1 &&& (2147483647 : Int32)))])) _
    refine iremM X74 hx rfl (hb hby at_220) rfl (by decide) ?_
    show Steps p.tables e below (T73.setTop (mkF m 221 #[.val (.int p1), .val (.int p2), .val (.ref b2), .unset, .unset, .unset, .unset, .unset, .unset, .unset, .unset, .unset, .unset, .unset] [(.int ((p1 &&& (2147483647 : Int32)) % (33 : Int32)))])) _
    refine XS.istoreN X74.here hx rfl (hb hby at_221) rfl (l' := #[.val (.int p1), .val (.int p2), .val (.ref b2), .val (.int ((p1 &&& (2147483647 : Int32)) % (33 : Int32))), .unset, .unset, .unset, .unset, .unset, .unset, .unset, .unset, .unset, .unset]) rfl ?_
    exact Steps.refl _)
  obtain ⟨ix, h_ix⟩ : ∃ z, z = ((p1 &&& (2147483647 : Int32)) % (33 : Int32)) := ⟨_, rfl⟩
  rw [← h_ix] at pre75
  have bx : 0 ≤ ix.toInt ∧ ix.toInt < 33 := by have q : (p1 &&& (2147483647 : Int32)).toInt = p1.toInt % 2147483648 := c_mask p1 2147483647 31 (by decide) (by decide); have r := (c_irem (p1 &&& 2147483647) 33 33 (by decide)).1 (by omega); rw [← h_ix] at r; omega
  have bx1 : ¬ ix < (0 : Int32) := by simp only [Int32.lt_iff_toInt_lt, Int32.reduceToInt]; omega
  have bx2 : ix < (33 : Int32) := by simp only [Int32.lt_iff_toInt_lt, Int32.reduceToInt]; omega
  obtain ⟨cl_t, Ar_t, q_t, S_t, M_t, H_t, G_t⟩ := id V73
  have hin : ¬ (ix < 0 ∨ cl_t.slots.size ≤ ix.toNatClampNeg) := inb_of S_t ⟨bx1, bx2⟩
  obtain ⟨lo, h_lo⟩ : ∃ z, z = own_tab.getD ix.toNatClampNeg 0 := ⟨_, rfl⟩
  have hat : cl_t.slots[ix.toNatClampNeg]? = some (.int lo) := by rw [h_lo]; exact Has.at H_t hin (own_getD own_tab _)
  have pre76 : Steps p.tables e below _ (T73.setTop (mkF m 231 #[.val (.int p1), .val (.int p2), .val (.ref b2), .val (.int ix), .val (.long (lo.toInt64)), .second, .unset, .unset, .unset, .unset, .unset, .unset, .unset, .unset] [(.int (32 : Int32)), (.int ix)])) := pre75.trans (by
    show Steps p.tables e below (T73.setTop (mkF m 222 #[.val (.int p1), .val (.int p2), .val (.ref b2), .val (.int ix), .unset, .unset, .unset, .unset, .unset, .unset, .unset, .unset, .unset, .unset] [])) _
    refine XS.aloadN X74.here hx rfl (hb hby at_222) rfl rfl ?_
    show Steps p.tables e below (T73.setTop (mkF m 223 #[.val (.int p1), .val (.int p2), .val (.ref b2), .val (.int ix), .unset, .unset, .unset, .unset, .unset, .unset, .unset, .unset, .unset, .unset] [(.ref b2)])) _
    refine XS.iloadN X74.here hx rfl (hb hby at_223) rfl ?_
    show Steps p.tables e below (T73.setTop (mkF m 224 #[.val (.int p1), .val (.int p2), .val (.ref b2), .val (.int ix), .unset, .unset, .unset, .unset, .unset, .unset, .unset, .unset, .unset, .unset] [(.int ix), (.ref b2)])) _
    refine X74.iaload hx (j := ix) (v := (.int lo)) (by rw [e73]; exact Ar_t.1) (State.isArrayOf_alike hZ.alike Ar_t.2.1) Ar_t.2.2 hin hat (g := (mkF m 224 #[.val (.int p1), .val (.int p2), .val (.ref b2), .val (.int ix), .unset, .unset, .unset, .unset, .unset, .unset, .unset, .unset, .unset, .unset] [(.int ix), (.ref b2)])) rfl rfl (hb hby at_224) _ ?_
    show Steps p.tables e below (T73.setTop (mkF m 225 #[.val (.int p1), .val (.int p2), .val (.ref b2), .val (.int ix), .unset, .unset, .unset, .unset, .unset, .unset, .unset, .unset, .unset, .unset] [(.int lo)])) _
    refine XS.i2l X74.here hx rfl (hb hby at_225) rfl ?_
    show Steps p.tables e below (T73.setTop (mkF m 226 #[.val (.int p1), .val (.int p2), .val (.ref b2), .val (.int ix), .unset, .unset, .unset, .unset, .unset, .unset, .unset, .unset, .unset, .unset] [(.long (lo.toInt64))])) _
    refine XS.lstore X74.here hx rfl (hb hby at_226) rfl (l' := #[.val (.int p1), .val (.int p2), .val (.ref b2), .val (.int ix), .val (.long (lo.toInt64)), .second, .unset, .unset, .unset, .unset, .unset, .unset, .unset, .unset]) rfl ?_
    show Steps p.tables e below (T73.setTop (mkF m 228 #[.val (.int p1), .val (.int p2), .val (.ref b2), .val (.int ix), .val (.long (lo.toInt64)), .second, .unset, .unset, .unset, .unset, .unset, .unset, .unset, .unset] [])) _
    refine XS.iloadN X74.here hx rfl (hb hby at_228) rfl ?_
    show Steps p.tables e below (T73.setTop (mkF m 229 #[.val (.int p1), .val (.int p2), .val (.ref b2), .val (.int ix), .val (.long (lo.toInt64)), .second, .unset, .unset, .unset, .unset, .unset, .unset, .unset, .unset] [(.int ix)])) _
    refine XS.bipush X74.here hx rfl (hb hby at_229) ?_
    exact Steps.refl _)
  obtain ⟨hi, h_hi, preM⟩ : ∃ hi : Int64, hi = own_hi ix ∧ Steps p.tables e below (s₁.setTop (entryFrame m #[(.int p1), (.int p2)] maxLocals)) (T73.setTop (mkF m 248 #[.val (.int p1), .val (.int p2), .val (.ref b2), .val (.int ix), .val (.long (lo.toInt64)), .second, .unset, .unset, .unset, .unset, .unset, .unset, .unset, .unset] [(.long hi)])) := by
    rcases Decidable.em (ix = (32 : Int32)) with h | h
    · have h231 := h
      have pre77 : Steps p.tables e below _ (T73.setTop (mkF m 248 #[.val (.int p1), .val (.int p2), .val (.ref b2), .val (.int ix), .val (.long (lo.toInt64)), .second, .unset, .unset, .unset, .unset, .unset, .unset, .unset, .unset] [(.long (2147483647 : Int64))])) := pre76.trans (by
        show Steps p.tables e below (T73.setTop (mkF m 231 #[.val (.int p1), .val (.int p2), .val (.ref b2), .val (.int ix), .val (.long (lo.toInt64)), .second, .unset, .unset, .unset, .unset, .unset, .unset, .unset, .unset] [(.int (32 : Int32)), (.int ix)])) _
        refine XS.icmpNo X74.here hx rfl (hb hby at_231) rfl (teq h231).2 ?_
        show Steps p.tables e below (T73.setTop (mkF m 234 #[.val (.int p1), .val (.int p2), .val (.ref b2), .val (.int ix), .val (.long (lo.toInt64)), .second, .unset, .unset, .unset, .unset, .unset, .unset, .unset, .unset] [])) _
        refine X74.ldc2Long hx hown (mvT hZ (hw _ (List.mem_of_getElem? (i := 22) rfl))) (g := (mkF m 234 #[.val (.int p1), .val (.int p2), .val (.ref b2), .val (.int ix), .val (.long (lo.toInt64)), .second, .unset, .unset, .unset, .unset, .unset, .unset, .unset, .unset] [])) rfl (hb hby at_234) _ ?_
        show Steps p.tables e below (T73.setTop (mkF m 237 #[.val (.int p1), .val (.int p2), .val (.ref b2), .val (.int ix), .val (.long (lo.toInt64)), .second, .unset, .unset, .unset, .unset, .unset, .unset, .unset, .unset] [(.long (2147483647 : Int64))])) _
        refine XS.goto X74.here hx rfl (pc0 := 237) (pc' := 248) rfl (hb hby at_237) (by decide) (by decide) ?_
        exact Steps.refl _)
      exact ⟨_, (if_pos h231).symm, pre77⟩
    · have h231 := h
      have pre78 : Steps p.tables e below _ (T73.setTop (mkF m 244 #[.val (.int p1), .val (.int p2), .val (.ref b2), .val (.int ix), .val (.long (lo.toInt64)), .second, .unset, .unset, .unset, .unset, .unset, .unset, .unset, .unset] [(.int (ix + (1 : Int32))), (.ref b2)])) := pre76.trans (by
        show Steps p.tables e below (T73.setTop (mkF m 231 #[.val (.int p1), .val (.int p2), .val (.ref b2), .val (.int ix), .val (.long (lo.toInt64)), .second, .unset, .unset, .unset, .unset, .unset, .unset, .unset, .unset] [(.int (32 : Int32)), (.int ix)])) _
        refine XS.icmpYes X74.here hx rfl (pc0 := 231) (pc' := 240) rfl (hb hby at_231) rfl (feq h231).2 (by decide) (by decide) ?_
        show Steps p.tables e below (T73.setTop (mkF m 240 #[.val (.int p1), .val (.int p2), .val (.ref b2), .val (.int ix), .val (.long (lo.toInt64)), .second, .unset, .unset, .unset, .unset, .unset, .unset, .unset, .unset] [])) _
        refine XS.aloadN X74.here hx rfl (hb hby at_240) rfl rfl ?_
        show Steps p.tables e below (T73.setTop (mkF m 241 #[.val (.int p1), .val (.int p2), .val (.ref b2), .val (.int ix), .val (.long (lo.toInt64)), .second, .unset, .unset, .unset, .unset, .unset, .unset, .unset, .unset] [(.ref b2)])) _
        refine XS.iloadN X74.here hx rfl (hb hby at_241) rfl ?_
        show Steps p.tables e below (T73.setTop (mkF m 242 #[.val (.int p1), .val (.int p2), .val (.ref b2), .val (.int ix), .val (.long (lo.toInt64)), .second, .unset, .unset, .unset, .unset, .unset, .unset, .unset, .unset] [(.int ix), (.ref b2)])) _
        refine XS.iconst X74.here hx rfl (hb hby at_242) ?_
        show Steps p.tables e below (T73.setTop (mkF m 243 #[.val (.int p1), .val (.int p2), .val (.ref b2), .val (.int ix), .val (.long (lo.toInt64)), .second, .unset, .unset, .unset, .unset, .unset, .unset, .unset, .unset] [(.int (1 : Int32)), (.int ix), (.ref b2)])) _
        refine XS.iadd X74.here hx rfl (hb hby at_243) rfl ?_
        exact Steps.refl _)
      obtain ⟨iy, h_iy⟩ : ∃ z, z = (ix + (1 : Int32)) := ⟨_, rfl⟩
      rw [← h_iy] at pre78
      have nx : ¬ ix.toInt = 32 := fun q => h231 (Int32.toInt_inj.mp (by rw [q]; rfl))
      have by0 : iy.toInt = ix.toInt + 1 := by have q := c_iadd ix 1; rw [← h_iy] at q; simp only [Int32.reduceToInt] at q; have := rng32 iy; omega
      have by1 : ¬ iy < (0 : Int32) := by simp only [Int32.lt_iff_toInt_lt, Int32.reduceToInt]; omega
      have by2 : iy < (33 : Int32) := by simp only [Int32.lt_iff_toInt_lt, Int32.reduceToInt]; omega
      have hin2 : ¬ (iy < 0 ∨ cl_t.slots.size ≤ iy.toNatClampNeg) := inb_of S_t ⟨by1, by2⟩
      have hat2 : cl_t.slots[iy.toNatClampNeg]? = some (.int (own_tab.getD iy.toNatClampNeg 0)) := Has.at H_t hin2 (own_getD own_tab _)
      have pre79 : Steps p.tables e below _ (T73.setTop (mkF m 248 #[.val (.int p1), .val (.int p2), .val (.ref b2), .val (.int ix), .val (.long (lo.toInt64)), .second, .unset, .unset, .unset, .unset, .unset, .unset, .unset, .unset] [(.long (((own_tab.getD iy.toNatClampNeg 0).toInt64) - (1 : Int64)))])) := pre78.trans (by
        show Steps p.tables e below (T73.setTop (mkF m 244 #[.val (.int p1), .val (.int p2), .val (.ref b2), .val (.int ix), .val (.long (lo.toInt64)), .second, .unset, .unset, .unset, .unset, .unset, .unset, .unset, .unset] [(.int iy), (.ref b2)])) _
        refine X74.iaload hx (j := iy) (v := (.int (own_tab.getD iy.toNatClampNeg 0))) (by rw [e73]; exact Ar_t.1) (State.isArrayOf_alike hZ.alike Ar_t.2.1) Ar_t.2.2 hin2 hat2 (g := (mkF m 244 #[.val (.int p1), .val (.int p2), .val (.ref b2), .val (.int ix), .val (.long (lo.toInt64)), .second, .unset, .unset, .unset, .unset, .unset, .unset, .unset, .unset] [(.int iy), (.ref b2)])) rfl rfl (hb hby at_244) _ ?_
        show Steps p.tables e below (T73.setTop (mkF m 245 #[.val (.int p1), .val (.int p2), .val (.ref b2), .val (.int ix), .val (.long (lo.toInt64)), .second, .unset, .unset, .unset, .unset, .unset, .unset, .unset, .unset] [(.int (own_tab.getD iy.toNatClampNeg 0))])) _
        refine XS.i2l X74.here hx rfl (hb hby at_245) rfl ?_
        show Steps p.tables e below (T73.setTop (mkF m 246 #[.val (.int p1), .val (.int p2), .val (.ref b2), .val (.int ix), .val (.long (lo.toInt64)), .second, .unset, .unset, .unset, .unset, .unset, .unset, .unset, .unset] [(.long ((own_tab.getD iy.toNatClampNeg 0).toInt64))])) _
        refine XS.lconst X74.here hx rfl (hb hby at_246) ?_
        show Steps p.tables e below (T73.setTop (mkF m 247 #[.val (.int p1), .val (.int p2), .val (.ref b2), .val (.int ix), .val (.long (lo.toInt64)), .second, .unset, .unset, .unset, .unset, .unset, .unset, .unset, .unset] [(.long (1 : Int64)), (.long ((own_tab.getD iy.toNatClampNeg 0).toInt64))])) _
        refine XS.lsub X74.here hx rfl (hb hby at_247) rfl ?_
        exact Steps.refl _)
      exact ⟨_, by rw [own_hi, if_neg h231, ← h_iy], pre79⟩
  obtain ⟨hb0, hlaw⟩ := own_law ix bx.1 bx.2 lo h_lo hi h_hi
  have pre80 : Steps p.tables e below _ (T73.setTop (mkF m 257 #[.val (.int p1), .val (.int p2), .val (.ref b2), .val (.int ix), .val (.long (lo.toInt64)), .second, .val (.long hi), .second, .unset, .unset, .unset, .unset, .unset, .unset] [(.long ((hi - (lo.toInt64)) + (1 : Int64)))])) := preM.trans (by
    show Steps p.tables e below (T73.setTop (mkF m 248 #[.val (.int p1), .val (.int p2), .val (.ref b2), .val (.int ix), .val (.long (lo.toInt64)), .second, .unset, .unset, .unset, .unset, .unset, .unset, .unset, .unset] [(.long hi)])) _
    refine XS.lstore X74.here hx rfl (hb hby at_248) rfl (l' := #[.val (.int p1), .val (.int p2), .val (.ref b2), .val (.int ix), .val (.long (lo.toInt64)), .second, .val (.long hi), .second, .unset, .unset, .unset, .unset, .unset, .unset]) rfl ?_
    show Steps p.tables e below (T73.setTop (mkF m 250 #[.val (.int p1), .val (.int p2), .val (.ref b2), .val (.int ix), .val (.long (lo.toInt64)), .second, .val (.long hi), .second, .unset, .unset, .unset, .unset, .unset, .unset] [])) _
    refine XS.lload X74.here hx rfl (hb hby at_250) rfl ?_
    show Steps p.tables e below (T73.setTop (mkF m 252 #[.val (.int p1), .val (.int p2), .val (.ref b2), .val (.int ix), .val (.long (lo.toInt64)), .second, .val (.long hi), .second, .unset, .unset, .unset, .unset, .unset, .unset] [(.long hi)])) _
    refine XS.lload X74.here hx rfl (hb hby at_252) rfl ?_
    show Steps p.tables e below (T73.setTop (mkF m 254 #[.val (.int p1), .val (.int p2), .val (.ref b2), .val (.int ix), .val (.long (lo.toInt64)), .second, .val (.long hi), .second, .unset, .unset, .unset, .unset, .unset, .unset] [(.long (lo.toInt64)), (.long hi)])) _
    refine XS.lsub X74.here hx rfl (hb hby at_254) rfl ?_
    show Steps p.tables e below (T73.setTop (mkF m 255 #[.val (.int p1), .val (.int p2), .val (.ref b2), .val (.int ix), .val (.long (lo.toInt64)), .second, .val (.long hi), .second, .unset, .unset, .unset, .unset, .unset, .unset] [(.long (hi - (lo.toInt64)))])) _
    refine XS.lconst X74.here hx rfl (hb hby at_255) ?_
    show Steps p.tables e below (T73.setTop (mkF m 256 #[.val (.int p1), .val (.int p2), .val (.ref b2), .val (.int ix), .val (.long (lo.toInt64)), .second, .val (.long hi), .second, .unset, .unset, .unset, .unset, .unset, .unset] [(.long (1 : Int64)), (.long (hi - (lo.toInt64)))])) _
    refine XS.ladd X74.here hx rfl (hb hby at_256) rfl ?_
    exact Steps.refl _)
  obtain ⟨ln, h_ln⟩ : ∃ z, z = ((hi - (lo.toInt64)) + (1 : Int64)) := ⟨_, rfl⟩
  rw [← h_ln] at pre80
  have hln : ln.toInt = hi.toInt - lo.toInt + 1 := by have q1 := c_lsub hi lo.toInt64; have q2 := c_ladd (hi - lo.toInt64) 1; rw [← h_ln, show (1 : Int64).toInt = 1 from rfl] at q2; rw [c_i2l] at q1; have := rng64 ln; have := rng64 (hi - lo.toInt64); have := rng32 lo; omega
  have hnz : ln ≠ 0 := fun q => by rw [q] at hln; have e : (0 : Int64).toInt = 0 := rfl; omega
  have pre81 : Steps p.tables e below _ (T73.setTop (mkF m 276 #[.val (.int p1), .val (.int p2), .val (.ref b2), .val (.int ix), .val (.long (lo.toInt64)), .second, .val (.long hi), .second, .val (.long ln), .second, .val (.long (((p2.toInt64) &&& (4294967295 : Int64)) - ((p2.toInt64) &&& (4294967295 : Int64)) / ln * ln)), .second, .unset, .unset] [(.int (((lo.toInt64) + (((p2.toInt64) &&& (4294967295 : Int64)) - ((p2.toInt64) &&& (4294967295 : Int64)) / ln * ln)).toInt32))])) := pre80.trans (by
    show Steps p.tables e below (T73.setTop (mkF m 257 #[.val (.int p1), .val (.int p2), .val (.ref b2), .val (.int ix), .val (.long (lo.toInt64)), .second, .val (.long hi), .second, .unset, .unset, .unset, .unset, .unset, .unset] [(.long ln)])) _
    refine XS.lstore X74.here hx rfl (hb hby at_257) rfl (l' := #[.val (.int p1), .val (.int p2), .val (.ref b2), .val (.int ix), .val (.long (lo.toInt64)), .second, .val (.long hi), .second, .val (.long ln), .second, .unset, .unset, .unset, .unset]) rfl ?_
    show Steps p.tables e below (T73.setTop (mkF m 259 #[.val (.int p1), .val (.int p2), .val (.ref b2), .val (.int ix), .val (.long (lo.toInt64)), .second, .val (.long hi), .second, .val (.long ln), .second, .unset, .unset, .unset, .unset] [])) _
    refine XS.iloadN X74.here hx rfl (hb hby at_259) rfl ?_
    show Steps p.tables e below (T73.setTop (mkF m 260 #[.val (.int p1), .val (.int p2), .val (.ref b2), .val (.int ix), .val (.long (lo.toInt64)), .second, .val (.long hi), .second, .val (.long ln), .second, .unset, .unset, .unset, .unset] [(.int p2)])) _
    refine XS.i2l X74.here hx rfl (hb hby at_260) rfl ?_
    show Steps p.tables e below (T73.setTop (mkF m 261 #[.val (.int p1), .val (.int p2), .val (.ref b2), .val (.int ix), .val (.long (lo.toInt64)), .second, .val (.long hi), .second, .val (.long ln), .second, .unset, .unset, .unset, .unset] [(.long (p2.toInt64))])) _
    refine X74.ldc2Long hx hown (mvT hZ (hw _ (List.mem_of_getElem? (i := 10) rfl))) (g := (mkF m 261 #[.val (.int p1), .val (.int p2), .val (.ref b2), .val (.int ix), .val (.long (lo.toInt64)), .second, .val (.long hi), .second, .val (.long ln), .second, .unset, .unset, .unset, .unset] [(.long (p2.toInt64))])) rfl (hb hby at_261) _ ?_
    show Steps p.tables e below (T73.setTop (mkF m 264 #[.val (.int p1), .val (.int p2), .val (.ref b2), .val (.int ix), .val (.long (lo.toInt64)), .second, .val (.long hi), .second, .val (.long ln), .second, .unset, .unset, .unset, .unset] [(.long (4294967295 : Int64)), (.long (p2.toInt64))])) _
    refine XS.land X74.here hx rfl (hb hby at_264) rfl ?_
    show Steps p.tables e below (T73.setTop (mkF m 265 #[.val (.int p1), .val (.int p2), .val (.ref b2), .val (.int ix), .val (.long (lo.toInt64)), .second, .val (.long hi), .second, .val (.long ln), .second, .unset, .unset, .unset, .unset] [(.long ((p2.toInt64) &&& (4294967295 : Int64)))])) _
    refine XS.lload X74.here hx rfl (hb hby at_265) rfl ?_
    show Steps p.tables e below (T73.setTop (mkF m 267 #[.val (.int p1), .val (.int p2), .val (.ref b2), .val (.int ix), .val (.long (lo.toInt64)), .second, .val (.long hi), .second, .val (.long ln), .second, .unset, .unset, .unset, .unset] [(.long ln), (.long ((p2.toInt64) &&& (4294967295 : Int64)))])) _
    refine XS.lrem X74.here hx rfl (hb hby at_267) rfl hnz ?_
    show Steps p.tables e below (T73.setTop (mkF m 268 #[.val (.int p1), .val (.int p2), .val (.ref b2), .val (.int ix), .val (.long (lo.toInt64)), .second, .val (.long hi), .second, .val (.long ln), .second, .unset, .unset, .unset, .unset] [(.long (((p2.toInt64) &&& (4294967295 : Int64)) - ((p2.toInt64) &&& (4294967295 : Int64)) / ln * ln))])) _
    refine XS.lstore X74.here hx rfl (hb hby at_268) rfl (l' := #[.val (.int p1), .val (.int p2), .val (.ref b2), .val (.int ix), .val (.long (lo.toInt64)), .second, .val (.long hi), .second, .val (.long ln), .second, .val (.long (((p2.toInt64) &&& (4294967295 : Int64)) - ((p2.toInt64) &&& (4294967295 : Int64)) / ln * ln)), .second, .unset, .unset]) rfl ?_
    show Steps p.tables e below (T73.setTop (mkF m 270 #[.val (.int p1), .val (.int p2), .val (.ref b2), .val (.int ix), .val (.long (lo.toInt64)), .second, .val (.long hi), .second, .val (.long ln), .second, .val (.long (((p2.toInt64) &&& (4294967295 : Int64)) - ((p2.toInt64) &&& (4294967295 : Int64)) / ln * ln)), .second, .unset, .unset] [])) _
    refine XS.lload X74.here hx rfl (hb hby at_270) rfl ?_
    show Steps p.tables e below (T73.setTop (mkF m 272 #[.val (.int p1), .val (.int p2), .val (.ref b2), .val (.int ix), .val (.long (lo.toInt64)), .second, .val (.long hi), .second, .val (.long ln), .second, .val (.long (((p2.toInt64) &&& (4294967295 : Int64)) - ((p2.toInt64) &&& (4294967295 : Int64)) / ln * ln)), .second, .unset, .unset] [(.long (lo.toInt64))])) _
    refine XS.lload X74.here hx rfl (hb hby at_272) rfl ?_
    show Steps p.tables e below (T73.setTop (mkF m 274 #[.val (.int p1), .val (.int p2), .val (.ref b2), .val (.int ix), .val (.long (lo.toInt64)), .second, .val (.long hi), .second, .val (.long ln), .second, .val (.long (((p2.toInt64) &&& (4294967295 : Int64)) - ((p2.toInt64) &&& (4294967295 : Int64)) / ln * ln)), .second, .unset, .unset] [(.long (((p2.toInt64) &&& (4294967295 : Int64)) - ((p2.toInt64) &&& (4294967295 : Int64)) / ln * ln)), (.long (lo.toInt64))])) _
    refine XS.ladd X74.here hx rfl (hb hby at_274) rfl ?_
    show Steps p.tables e below (T73.setTop (mkF m 275 #[.val (.int p1), .val (.int p2), .val (.ref b2), .val (.int ix), .val (.long (lo.toInt64)), .second, .val (.long hi), .second, .val (.long ln), .second, .val (.long (((p2.toInt64) &&& (4294967295 : Int64)) - ((p2.toInt64) &&& (4294967295 : Int64)) / ln * ln)), .second, .unset, .unset] [(.long ((lo.toInt64) + (((p2.toInt64) &&& (4294967295 : Int64)) - ((p2.toInt64) &&& (4294967295 : Int64)) / ln * ln)))])) _
    refine XS.l2i X74.here hx rfl (hb hby at_275) rfl ?_
    exact Steps.refl _)
  obtain ⟨rr, h_rr⟩ : ∃ z, z = (((p2.toInt64) &&& (4294967295 : Int64)) - ((p2.toInt64) &&& (4294967295 : Int64)) / ln * ln) := ⟨_, rfl⟩
  rw [← h_rr] at pre81
  have hx0 : ((p2.toInt64) &&& (4294967295 : Int64)).toInt = p2.toInt64.toInt % 4294967296 := c_maskL p2.toInt64 4294967295 32 (by decide) (by decide)
  have hrr : rr.toInt = ((p2.toInt64) &&& (4294967295 : Int64)).toInt % (hi.toInt - lo.toInt + 1) := by rw [h_rr]; exact (c_lrem ((p2.toInt64) &&& (4294967295 : Int64)) ln _ hln).1 (by omega)
  have hr0 := Int.emod_nonneg ((p2.toInt64) &&& (4294967295 : Int64)).toInt (show hi.toInt - lo.toInt + 1 ≠ 0 by omega)
  have hr1 := Int.emod_lt_of_pos ((p2.toInt64) &&& (4294967295 : Int64)).toInt (show 0 < hi.toInt - lo.toInt + 1 by omega)
  obtain ⟨cc, h_cc⟩ : ∃ z, z = (((lo.toInt64) + rr).toInt32) := ⟨_, rfl⟩
  rw [← h_cc] at pre81
  have hcc : cc.toInt = lo.toInt + rr.toInt := by have q1 := c_ladd lo.toInt64 rr; have q2 := c_l2i (lo.toInt64 + rr); rw [show (lo.toInt64 + rr).toInt32 = cc from h_cc.symm] at q2; rw [c_i2l] at q1; have := rng64 (lo.toInt64 + rr); have := rng32 cc; have := rng32 lo; omega
  have pre82 : Steps p.tables e below _ (T73.setTop (mkF m 278 #[.val (.int p1), .val (.int p2), .val (.ref b2), .val (.int ix), .val (.long (lo.toInt64)), .second, .val (.long hi), .second, .val (.long ln), .second, .val (.long rr), .second, .val (.int cc), .unset] [])) := pre81.trans (by
    show Steps p.tables e below (T73.setTop (mkF m 276 #[.val (.int p1), .val (.int p2), .val (.ref b2), .val (.int ix), .val (.long (lo.toInt64)), .second, .val (.long hi), .second, .val (.long ln), .second, .val (.long rr), .second, .unset, .unset] [(.int cc)])) _
    refine XS.istore X74.here hx rfl (hb hby at_276) rfl (l' := #[.val (.int p1), .val (.int p2), .val (.ref b2), .val (.int ix), .val (.long (lo.toInt64)), .second, .val (.long hi), .second, .val (.long ln), .second, .val (.long rr), .second, .val (.int cc), .unset]) rfl ?_
    exact Steps.refl _)
  obtain ⟨v1, h_v1⟩ : ∃ z, z = own_ex_0_3 ix := ⟨_, rfl⟩
  have Bex_1 (hv0 : v1 = own_ex_0_1 ix) : Steps p.tables e below (T73.setTop (mkF m 289 #[.val (.int p1), .val (.int p2), .val (.ref b2), .val (.int ix), .val (.long (lo.toInt64)), .second, .val (.long hi), .second, .val (.long ln), .second, .val (.long rr), .second, .val (.int cc), .unset] [])) (T73.setTop (mkF m 290 #[.val (.int p1), .val (.int p2), .val (.ref b2), .val (.int ix), .val (.long (lo.toInt64)), .second, .val (.long hi), .second, .val (.long ln), .second, .val (.long rr), .second, .val (.int cc), .unset] [(.int v1)])) := by
    have hw0 : v1 = (0 : Int32) := hv0
    rw [hw0]
    show Steps p.tables e below (T73.setTop (mkF m 289 #[.val (.int p1), .val (.int p2), .val (.ref b2), .val (.int ix), .val (.long (lo.toInt64)), .second, .val (.long hi), .second, .val (.long ln), .second, .val (.long rr), .second, .val (.int cc), .unset] [])) _
    refine XS.iconst X74.here hx rfl (hb hby at_289) ?_
    exact Steps.refl _
  have Bex_2 (hv0 : v1 = own_ex_0_2 ix) : Steps p.tables e below (T73.setTop (mkF m 285 #[.val (.int p1), .val (.int p2), .val (.ref b2), .val (.int ix), .val (.long (lo.toInt64)), .second, .val (.long hi), .second, .val (.long ln), .second, .val (.long rr), .second, .val (.int cc), .unset] [])) (T73.setTop (mkF m 290 #[.val (.int p1), .val (.int p2), .val (.ref b2), .val (.int ix), .val (.long (lo.toInt64)), .second, .val (.long hi), .second, .val (.long ln), .second, .val (.long rr), .second, .val (.int cc), .unset] [(.int v1)])) := by
    have hw0 : v1 = (1 : Int32) := hv0
    rw [hw0]
    show Steps p.tables e below (T73.setTop (mkF m 285 #[.val (.int p1), .val (.int p2), .val (.ref b2), .val (.int ix), .val (.long (lo.toInt64)), .second, .val (.long hi), .second, .val (.long ln), .second, .val (.long rr), .second, .val (.int cc), .unset] [])) _
    refine XS.iconst X74.here hx rfl (hb hby at_285) ?_
    show Steps p.tables e below (T73.setTop (mkF m 286 #[.val (.int p1), .val (.int p2), .val (.ref b2), .val (.int ix), .val (.long (lo.toInt64)), .second, .val (.long hi), .second, .val (.long ln), .second, .val (.long rr), .second, .val (.int cc), .unset] [(.int (1 : Int32))])) _
    refine XS.goto X74.here hx rfl (pc0 := 286) (pc' := 290) rfl (hb hby at_286) (by decide) (by decide) ?_
    exact Steps.refl _
  have Bex_3 (hv0 : v1 = own_ex_0_3 ix) : Steps p.tables e below (T73.setTop (mkF m 278 #[.val (.int p1), .val (.int p2), .val (.ref b2), .val (.int ix), .val (.long (lo.toInt64)), .second, .val (.long hi), .second, .val (.long ln), .second, .val (.long rr), .second, .val (.int cc), .unset] [])) (T73.setTop (mkF m 290 #[.val (.int p1), .val (.int p2), .val (.ref b2), .val (.int ix), .val (.long (lo.toInt64)), .second, .val (.long hi), .second, .val (.long ln), .second, .val (.long rr), .second, .val (.int cc), .unset] [(.int v1)])) := by
    show Steps p.tables e below (T73.setTop (mkF m 278 #[.val (.int p1), .val (.int p2), .val (.ref b2), .val (.int ix), .val (.long (lo.toInt64)), .second, .val (.long hi), .second, .val (.long ln), .second, .val (.long rr), .second, .val (.int cc), .unset] [])) _
    refine XS.iloadN X74.here hx rfl (hb hby at_278) rfl ?_
    show Steps p.tables e below (T73.setTop (mkF m 279 #[.val (.int p1), .val (.int p2), .val (.ref b2), .val (.int ix), .val (.long (lo.toInt64)), .second, .val (.long hi), .second, .val (.long ln), .second, .val (.long rr), .second, .val (.int cc), .unset] [(.int ix)])) _
    refine XS.iconst X74.here hx rfl (hb hby at_279) ?_
    show Steps p.tables e below (T73.setTop (mkF m 280 #[.val (.int p1), .val (.int p2), .val (.ref b2), .val (.int ix), .val (.long (lo.toInt64)), .second, .val (.long hi), .second, .val (.long ln), .second, .val (.long rr), .second, .val (.int cc), .unset] [(.int (1 : Int32)), (.int ix)])) _
    refine XS.iand X74.here hx rfl (hb hby at_280) rfl ?_
    show Steps p.tables e below (T73.setTop (mkF m 281 #[.val (.int p1), .val (.int p2), .val (.ref b2), .val (.int ix), .val (.long (lo.toInt64)), .second, .val (.long hi), .second, .val (.long ln), .second, .val (.long rr), .second, .val (.int cc), .unset] [(.int (ix &&& (1 : Int32)))])) _
    refine XS.iconst X74.here hx rfl (hb hby at_281) ?_
    show Steps p.tables e below (T73.setTop (mkF m 282 #[.val (.int p1), .val (.int p2), .val (.ref b2), .val (.int ix), .val (.long (lo.toInt64)), .second, .val (.long hi), .second, .val (.long ln), .second, .val (.long rr), .second, .val (.int cc), .unset] [(.int (1 : Int32)), (.int (ix &&& (1 : Int32)))])) _
    by_cases h282 : (ix &&& (1 : Int32)) = (1 : Int32)
    · refine XS.icmpNo X74.here hx rfl (hb hby at_282) rfl (teq h282).2 ?_
      exact Bex_2 (hv0.trans (if_pos h282))
    · refine XS.icmpYes X74.here hx rfl (pc0 := 282) (pc' := 289) rfl (hb hby at_282) rfl (feq h282).2 (by decide) (by decide) ?_
      exact Bex_1 (hv0.trans (if_neg h282))
  have pre83 : Steps p.tables e below _ (T73.setTop (mkF m 290 #[.val (.int p1), .val (.int p2), .val (.ref b2), .val (.int ix), .val (.long (lo.toInt64)), .second, .val (.long hi), .second, .val (.long ln), .second, .val (.long rr), .second, .val (.int cc), .unset] [(.int v1)])) := pre82.trans (Bex_3 h_v1)
  have pre84 : Steps p.tables e below _ (T73.setTop (mkF m 295 #[.val (.int p1), .val (.int p2), .val (.ref b2), .val (.int ix), .val (.long (lo.toInt64)), .second, .val (.long hi), .second, .val (.long ln), .second, .val (.long rr), .second, .val (.int cc), .val (.int v1)] [(.int ((lo.toInt64).toInt32))])) := pre83.trans (by
    show Steps p.tables e below (T73.setTop (mkF m 290 #[.val (.int p1), .val (.int p2), .val (.ref b2), .val (.int ix), .val (.long (lo.toInt64)), .second, .val (.long hi), .second, .val (.long ln), .second, .val (.long rr), .second, .val (.int cc), .unset] [(.int v1)])) _
    refine XS.istore X74.here hx rfl (hb hby at_290) rfl (l' := #[.val (.int p1), .val (.int p2), .val (.ref b2), .val (.int ix), .val (.long (lo.toInt64)), .second, .val (.long hi), .second, .val (.long ln), .second, .val (.long rr), .second, .val (.int cc), .val (.int v1)]) rfl ?_
    show Steps p.tables e below (T73.setTop (mkF m 292 #[.val (.int p1), .val (.int p2), .val (.ref b2), .val (.int ix), .val (.long (lo.toInt64)), .second, .val (.long hi), .second, .val (.long ln), .second, .val (.long rr), .second, .val (.int cc), .val (.int v1)] [])) _
    refine XS.lload X74.here hx rfl (hb hby at_292) rfl ?_
    show Steps p.tables e below (T73.setTop (mkF m 294 #[.val (.int p1), .val (.int p2), .val (.ref b2), .val (.int ix), .val (.long (lo.toInt64)), .second, .val (.long hi), .second, .val (.long ln), .second, .val (.long rr), .second, .val (.int cc), .val (.int v1)] [(.long (lo.toInt64))])) _
    refine XS.l2i X74.here hx rfl (hb hby at_294) rfl ?_
    exact Steps.refl _)
  obtain ⟨l3, h_l3⟩ : ∃ z, z = ((lo.toInt64).toInt32) := ⟨_, rfl⟩
  rw [← h_l3] at pre84
  have hl3 : l3.toInt = lo.toInt := by have q := c_l2i lo.toInt64; rw [show lo.toInt64.toInt32 = l3 from h_l3.symm, c_i2l] at q; have := rng32 l3; have := rng32 lo; omega
  have e1 : own_ns_0_32 l3 = v1 := by rw [h_v1]; exact hlaw l3 (by omega) (by omega)
  obtain ⟨_, _, ⟨T85, L85, k85, n85⟩, -, X85, ⟨Lc85, hQ85, l85, y85, z85⟩, st85⟩ := Jvm.LawKit.callS X74 hx (y := (⟨"com/example/summarium/summarium/cda/XmlNames", "isNameStart", "(I)Z"⟩ : MethodName)) hown (mvT hZ (hw _ (List.mem_of_getElem? (i := 11) rfl))) (mvT hZ (hw _ (List.mem_of_getElem? (i := 12) rfl))) (mvT hZ (hw _ (List.mem_of_getElem? (i := 13) rfl))) (mvT hZ (hw _ (List.mem_of_getElem? (i := 14) rfl))) (by decide) (backOf (W := 0) (rmS l Z a0 hw [] l3 h73 n0 Z73) hZ (hw _ (List.mem_of_getElem? (i := 14) rfl)) (hw _ (List.mem_of_getElem? (i := 13) rfl)) (by decide) (by decide)) (g := (mkF m 295 #[.val (.int p1), .val (.int p2), .val (.ref b2), .val (.int ix), .val (.long (lo.toInt64)), .second, .val (.long hi), .second, .val (.long ln), .second, .val (.long rr), .second, .val (.int cc), .val (.int v1)] [(.int l3)])) rfl (by rw [hml]; rfl) (argsL := [(.int l3)]) (rest := []) (lenOf pd_rm0_0 rfl) rfl (by show 2 * 0 + _ ≤ _; exact Nat.le_of_eq rfl) (hb hby at_295) (fun _ _ => ⟨rfl, e73, (by decide : 1 + 0 ≤ _), (by decide : 33 + 0 ≤ _)⟩)
  dsimp only [Pt.U, Pt.locs, Pt.cells, Pt.slots] at X85 l85 y85 z85 st85 hQ85
  subst l85 y85 z85
  obtain ⟨rfl, N85q, hh85⟩ := hQ85
  have N85 := Fr.app N74 N85q
  have pre85 : Steps p.tables e below _ (T85.setTop (mkF m 298 #[.val (.int p1), .val (.int p2), .val (.ref b2), .val (.int ix), .val (.long (lo.toInt64)), .second, .val (.long hi), .second, .val (.long ln), .second, .val (.long rr), .second, .val (.int cc), .val (.int v1)] [(.int (own_ns_0_32 l3))])) := pre84.trans (st85 _ (Steps.refl _))
  have pre86 : Steps p.tables e below _ (T85.setTop (mkF m 306 #[.val (.int p1), .val (.int p2), .val (.ref b2), .val (.int ix), .val (.long (lo.toInt64)), .second, .val (.long hi), .second, .val (.long ln), .second, .val (.long rr), .second, .val (.int cc), .val (.int v1)] [(.int (hi.toInt32))])) := pre85.trans (by
    show Steps p.tables e below (T85.setTop (mkF m 298 #[.val (.int p1), .val (.int p2), .val (.ref b2), .val (.int ix), .val (.long (lo.toInt64)), .second, .val (.long hi), .second, .val (.long ln), .second, .val (.long rr), .second, .val (.int cc), .val (.int v1)] [(.int (own_ns_0_32 l3))])) _
    refine XS.iload X85.here hx rfl (hb hby at_298) rfl ?_
    show Steps p.tables e below (T85.setTop (mkF m 300 #[.val (.int p1), .val (.int p2), .val (.ref b2), .val (.int ix), .val (.long (lo.toInt64)), .second, .val (.long hi), .second, .val (.long ln), .second, .val (.long rr), .second, .val (.int cc), .val (.int v1)] [(.int v1), (.int (own_ns_0_32 l3))])) _
    refine XS.icmpNo X85.here hx rfl (hb hby at_300) rfl (teq e1).2 ?_
    show Steps p.tables e below (T85.setTop (mkF m 303 #[.val (.int p1), .val (.int p2), .val (.ref b2), .val (.int ix), .val (.long (lo.toInt64)), .second, .val (.long hi), .second, .val (.long ln), .second, .val (.long rr), .second, .val (.int cc), .val (.int v1)] [])) _
    refine XS.lload X85.here hx rfl (hb hby at_303) rfl ?_
    show Steps p.tables e below (T85.setTop (mkF m 305 #[.val (.int p1), .val (.int p2), .val (.ref b2), .val (.int ix), .val (.long (lo.toInt64)), .second, .val (.long hi), .second, .val (.long ln), .second, .val (.long rr), .second, .val (.int cc), .val (.int v1)] [(.long hi)])) _
    refine XS.l2i X85.here hx rfl (hb hby at_305) rfl ?_
    exact Steps.refl _)
  obtain ⟨h3, h_h3⟩ : ∃ z, z = (hi.toInt32) := ⟨_, rfl⟩
  rw [← h_h3] at pre86
  have hh3 : h3.toInt = hi.toInt := by have q := c_l2i hi; rw [← h_h3] at q; have := rng32 h3; omega
  have e2 : own_ns_0_32 h3 = v1 := by rw [h_v1]; exact hlaw h3 (by omega) (by omega)
  obtain ⟨_, _, ⟨T87, L87, k87, n87⟩, -, X87, ⟨Lc87, hQ87, l87, y87, z87⟩, st87⟩ := Jvm.LawKit.callS X85 hx (y := (⟨"com/example/summarium/summarium/cda/XmlNames", "isNameStart", "(I)Z"⟩ : MethodName)) hown (mvT hZ (hw _ (List.mem_of_getElem? (i := 11) rfl))) (mvT hZ (hw _ (List.mem_of_getElem? (i := 12) rfl))) (mvT hZ (hw _ (List.mem_of_getElem? (i := 13) rfl))) (mvT hZ (hw _ (List.mem_of_getElem? (i := 14) rfl))) (by decide) (backOf (W := 0) (rmS l Z a0 hw [] h3 h73 n0 Z73) hZ (hw _ (List.mem_of_getElem? (i := 14) rfl)) (hw _ (List.mem_of_getElem? (i := 13) rfl)) (by decide) (by decide)) (g := (mkF m 306 #[.val (.int p1), .val (.int p2), .val (.ref b2), .val (.int ix), .val (.long (lo.toInt64)), .second, .val (.long hi), .second, .val (.long ln), .second, .val (.long rr), .second, .val (.int cc), .val (.int v1)] [(.int h3)])) rfl (by rw [hml]; rfl) (argsL := [(.int h3)]) (rest := []) (lenOf pd_rm0_0 rfl) rfl (by show 2 * 0 + _ ≤ _; exact Nat.le_of_eq rfl) (hb hby at_306) (fun _ _ => ⟨rfl, hh85, (by decide : 1 + 0 ≤ _), (by decide : 33 + 0 ≤ _)⟩)
  dsimp only [Pt.U, Pt.locs, Pt.cells, Pt.slots] at X87 l87 y87 z87 st87 hQ87
  subst l87 y87 z87
  obtain ⟨rfl, N87q, hh87⟩ := hQ87
  have N87 := Fr.app N85 N87q
  have pre87 : Steps p.tables e below _ (T87.setTop (mkF m 309 #[.val (.int p1), .val (.int p2), .val (.ref b2), .val (.int ix), .val (.long (lo.toInt64)), .second, .val (.long hi), .second, .val (.long ln), .second, .val (.long rr), .second, .val (.int cc), .val (.int v1)] [(.int (own_ns_0_32 h3))])) := pre86.trans (st87 _ (Steps.refl _))
  have pre88 : Steps p.tables e below _ (T87.setTop (mkF m 316 #[.val (.int p1), .val (.int p2), .val (.ref b2), .val (.int ix), .val (.long (lo.toInt64)), .second, .val (.long hi), .second, .val (.long ln), .second, .val (.long rr), .second, .val (.int cc), .val (.int v1)] [(.int cc)])) := pre87.trans (by
    show Steps p.tables e below (T87.setTop (mkF m 309 #[.val (.int p1), .val (.int p2), .val (.ref b2), .val (.int ix), .val (.long (lo.toInt64)), .second, .val (.long hi), .second, .val (.long ln), .second, .val (.long rr), .second, .val (.int cc), .val (.int v1)] [(.int (own_ns_0_32 h3))])) _
    refine XS.iload X87.here hx rfl (hb hby at_309) rfl ?_
    show Steps p.tables e below (T87.setTop (mkF m 311 #[.val (.int p1), .val (.int p2), .val (.ref b2), .val (.int ix), .val (.long (lo.toInt64)), .second, .val (.long hi), .second, .val (.long ln), .second, .val (.long rr), .second, .val (.int cc), .val (.int v1)] [(.int v1), (.int (own_ns_0_32 h3))])) _
    refine XS.icmpNo X87.here hx rfl (hb hby at_311) rfl (teq e2).2 ?_
    show Steps p.tables e below (T87.setTop (mkF m 314 #[.val (.int p1), .val (.int p2), .val (.ref b2), .val (.int ix), .val (.long (lo.toInt64)), .second, .val (.long hi), .second, .val (.long ln), .second, .val (.long rr), .second, .val (.int cc), .val (.int v1)] [])) _
    refine XS.iload X87.here hx rfl (hb hby at_314) rfl ?_
    exact Steps.refl _)
  have e3 : own_ns_0_32 cc = v1 := by rw [h_v1]; exact hlaw cc (by omega) (by omega)
  obtain ⟨_, _, ⟨T89, L89, k89, n89⟩, -, X89, ⟨Lc89, hQ89, l89, y89, z89⟩, st89⟩ := Jvm.LawKit.callS X87 hx (y := (⟨"com/example/summarium/summarium/cda/XmlNames", "isNameStart", "(I)Z"⟩ : MethodName)) hown (mvT hZ (hw _ (List.mem_of_getElem? (i := 11) rfl))) (mvT hZ (hw _ (List.mem_of_getElem? (i := 12) rfl))) (mvT hZ (hw _ (List.mem_of_getElem? (i := 13) rfl))) (mvT hZ (hw _ (List.mem_of_getElem? (i := 14) rfl))) (by decide) (backOf (W := 0) (rmS l Z a0 hw [] cc h73 n0 Z73) hZ (hw _ (List.mem_of_getElem? (i := 14) rfl)) (hw _ (List.mem_of_getElem? (i := 13) rfl)) (by decide) (by decide)) (g := (mkF m 316 #[.val (.int p1), .val (.int p2), .val (.ref b2), .val (.int ix), .val (.long (lo.toInt64)), .second, .val (.long hi), .second, .val (.long ln), .second, .val (.long rr), .second, .val (.int cc), .val (.int v1)] [(.int cc)])) rfl (by rw [hml]; rfl) (argsL := [(.int cc)]) (rest := []) (lenOf pd_rm0_0 rfl) rfl (by show 2 * 0 + _ ≤ _; exact Nat.le_of_eq rfl) (hb hby at_316) (fun _ _ => ⟨rfl, hh87, (by decide : 1 + 0 ≤ _), (by decide : 33 + 0 ≤ _)⟩)
  dsimp only [Pt.U, Pt.locs, Pt.cells, Pt.slots] at X89 l89 y89 z89 st89 hQ89
  subst l89 y89 z89
  obtain ⟨rfl, N89q, hh89⟩ := hQ89
  have N89 := Fr.app N87 N89q
  have pre89 : Steps p.tables e below _ (T89.setTop (mkF m 319 #[.val (.int p1), .val (.int p2), .val (.ref b2), .val (.int ix), .val (.long (lo.toInt64)), .second, .val (.long hi), .second, .val (.long ln), .second, .val (.long rr), .second, .val (.int cc), .val (.int v1)] [(.int (own_ns_0_32 cc))])) := pre88.trans (st89 _ (Steps.refl _))
  have pre90 : Steps p.tables e below _ (T89.setTop (mkF m 329 #[.val (.int p1), .val (.int p2), .val (.ref b2), .val (.int ix), .val (.long (lo.toInt64)), .second, .val (.long hi), .second, .val (.long ln), .second, .val (.long rr), .second, .val (.int cc), .val (.int v1)] [(.int (1 : Int32))])) := pre89.trans (by
    show Steps p.tables e below (T89.setTop (mkF m 319 #[.val (.int p1), .val (.int p2), .val (.ref b2), .val (.int ix), .val (.long (lo.toInt64)), .second, .val (.long hi), .second, .val (.long ln), .second, .val (.long rr), .second, .val (.int cc), .val (.int v1)] [(.int (own_ns_0_32 cc))])) _
    refine XS.iload X89.here hx rfl (hb hby at_319) rfl ?_
    show Steps p.tables e below (T89.setTop (mkF m 321 #[.val (.int p1), .val (.int p2), .val (.ref b2), .val (.int ix), .val (.long (lo.toInt64)), .second, .val (.long hi), .second, .val (.long ln), .second, .val (.long rr), .second, .val (.int cc), .val (.int v1)] [(.int v1), (.int (own_ns_0_32 cc))])) _
    refine XS.icmpNo X89.here hx rfl (hb hby at_321) rfl (teq e3).2 ?_
    show Steps p.tables e below (T89.setTop (mkF m 324 #[.val (.int p1), .val (.int p2), .val (.ref b2), .val (.int ix), .val (.long (lo.toInt64)), .second, .val (.long hi), .second, .val (.long ln), .second, .val (.long rr), .second, .val (.int cc), .val (.int v1)] [])) _
    refine XS.iconst X89.here hx rfl (hb hby at_324) ?_
    show Steps p.tables e below (T89.setTop (mkF m 325 #[.val (.int p1), .val (.int p2), .val (.ref b2), .val (.int ix), .val (.long (lo.toInt64)), .second, .val (.long hi), .second, .val (.long ln), .second, .val (.long rr), .second, .val (.int cc), .val (.int v1)] [(.int (1 : Int32))])) _
    refine XS.goto X89.here hx rfl (pc0 := 325) (pc' := 329) rfl (hb hby at_325) (by decide) (by decide) ?_
    exact Steps.refl _)
  obtain ⟨fs, hr, hrun, hended, hW, hsame⟩ := X89.leave (v := some (.int (1 : Int32))) (fun h => by rw [Bd.returns] at h; cases h)
  refine ⟨_, _, pre90.trans ?_, hrun, hended, _, _, rfl, ?_, ⟨_, rfl⟩, hW, hsame.mono (by decide) (by decide)⟩
  · exact retN X89 hx (t := .boolean) Bd.returns (by simp) (hb hby at_329) hr
  · exact ⟨rfl, N89⟩
set_option maxRecDepth 65536 in
set_option maxHeartbeats 40000000 in
theorem comes_1 {Post : Tables → Env → Array Value → State → Outcome → State → Prop} (hpost : ∀ tb e args s v u, (limb_1_1.after args s (.returned v) u = true ∧ limb_1_2.after args s (.returned v) u = true ∧ True) → FrameEnd s (.returned v) u (Jvm.fieldLocs frame_1_writes args s ++ Jvm.arrayLocs frame_1_arrays args s ++ Jvm.staticLocs frame_1_statics s) 16 192 → Post tb e args s (.returned v) u) :
    ArmFor flags0 classFile x code maxLocals ret World_1 tables_1 room_1 Calls_1 rest_1 Pre_1 Post := by
  intro l hfl _ _ p e ha hc hk s m args below hf hA hF happ hP
  obtain ⟨hcalls, hrest, hpre⟩ := hP
  obtain ⟨-, -, -, hnamed, -, -, -, hat⟩ := (Spec.applies_iff hf).mp happ
  obtain ⟨hg, hn⟩ := and_e (Cond.before_iff.mp (show (Jvm.Cond.and given_1 narrow_1).before args s = true from hpre))
  obtain ⟨g0, r0⟩ := and_e hg
  obtain ⟨w0, w1, rfl⟩ : ∃ w0 w1 : Value, args = #[w0, w1] := by
    have hs : args.size = 2 := by simpa [Cond.value, given_1] using g0
    obtain ⟨L⟩ := args
    match L, hs with
    | [w0, w1], _ => exact ⟨w0, w1, rfl⟩
  have hw := fun d (hd : d ∈ tables_1) => atoms_spec (ws := Jvm.Cond.code x code maxLocals ret :: tables_1) hat d (List.mem_cons_of_mem _ hd)
  have hfit : Fit s := fun {y c} hc i hi => by
    obtain ⟨ha, rfl⟩ := Array.getElem?_eq_some_iff.mp hc
    have q := List.all_eq_true.mp ((Array.all_eq_true_iff_forall_mem.mp hF) _ (Array.getElem_mem ha)) i (List.mem_range.mpr hi)
    simpa [Array.getElem?_eq_getElem hi] using q
  obtain ⟨g1, r1⟩ := and_e r0
  obtain ⟨i0, ei0⟩ := is_v g1
  obtain rfl : w0 = (.int i0) := Option.some.inj ei0
  obtain ⟨i1, ei1⟩ := is_v r1
  obtain rfl : w1 = (.int i1) := Option.some.inj ei1
  obtain ⟨n, o, h1, h2, h3, _, L, rfl, ⟨rfl, N⟩, hq⟩ := rm0 l s _ hw tables_1 i0 i1 s.heap s.heap.size (Nat.le_refl _)  p e ha hc hk s m _ below hf ((Spec.applies_iff_loose hf).mp happ).1 ⟨rfl, State.Warmed39.refl s, rfl⟩ trivial
  refine ⟨n, _, h1, h2, h3, hpost _ _ _ _ _ _ ⟨Cond.after_iff.mpr rfl, Cond.after_iff.mpr (eq_i res_at (Term.int_eval (1)) rfl), trivial⟩ ⟨hq.1, hq.2.1, (hq.2.2.sift fun y hy => Or.inr (N y hy)).mono (by decide) (by decide)⟩⟩
theorem main_1_1 : Claimed_1_1 := comes_1 fun _ _ _ _ _ _ h hF => ⟨h.1, hF⟩
theorem main_1_2 : Claimed_1_2 := comes_1 fun _ _ _ _ _ _ h hF => ⟨h.2.1, hF⟩
end Jvm.Pilot.@@N@@
namespace Jvm.Pilot.@@N@@
open Jvm Jvm.ClassFile Sem Op Lib Jvm.Free Jvm.Stand Jvm.Pilot.@@N@@.Jvm.D
/-! MADE BY PROGRAM (witnessworld.py) out of the Statement's table words and the real class files: 9 classes; the members and pool entries that the words name. The judged class is class 1, her method 1. -/
namespace start1
open Jvm.ClassFile
def u (s : String) : CpInfo := .utf8 (stringToUtf16 s)
/-- a pool by its gaps: so many unusable entries, then the entry; so many at the end -/
def gap : Nat → List CpInfo → List CpInfo
  | 0, r => r
  | n + 1, r => .unusable :: gap n r
def poolList (es : List (Nat × CpInfo)) (last : Nat) : List CpInfo := es.foldr (fun e r => gap e.1 (e.2 :: r)) (gap last [])
def pool (es : List (Nat × CpInfo)) (last : Nat) : Array CpInfo := ⟨poolList es last⟩
def fileOf (pool : Array CpInfo) (this : Nat) (attrs : Array Attribute := #[]) (ms : Array MethodInfo := #[]) (fl : Nat := 33) (sup : Nat := 0) (ifs : Array Nat := #[]) (fds : Array FieldInfo := #[]) : ClassFile where
  minorVersion := 0
  majorVersion := 65
  constantPool := pool
  accessFlags := fl
  thisClass := this
  superClass := sup
  interfaces := ifs
  fields := fds
  methods := ms
  attributes := attrs
def plain (name : String) (sup : Option ClassId) : Class where
  name := name
  kind := .ordinary
  loader := none
  accessFlags := 33
  super := sup
  interfaces := #[]
  cf := none
  fields := #[]
  methods := #[]
  instanceTypes := #[]
  staticTypes := #[]
  resolved := #[]
  callSites := []
  init := .initialized
  statics := none
  mirror := none

def pool0 : Array CpInfo := pool [(5, u "<init>"), (0, u "()V"), (1, .class_ 10), (1, u "java/lang/Object")] 113

def k0m0 : Method := { name := "<init>", desc := "()V", sig := { parameters := [], returnType := none }, accessFlags := 1, code := none }
/-- java/lang/Object -/
def k0 : Class := { plain "java/lang/Object" none with
  accessFlags := 33
  interfaces := #[]
  cf := some (fileOf pool0 8 #[] #[{ accessFlags := 1, nameIndex := 5, descriptorIndex := 6, attributes := #[] }] 33 0 #[] #[])
  fields := #[]
  methods := #[k0m0]
  instanceTypes := #[]
  staticTypes := #[]
  resolved := Array.replicate 124 none
  statics := none }

def pool1 : Array CpInfo := pool [(2, .class_ 4), (1, u "java/lang/Object"), (0, u "<init>"), (0, u "()V"), (2, .integer 2147483648), (0, .integer 55296), (0, .integer 63744), (0, .integer 64976), (0, .integer 65008), (0, .integer 65534), (0, .integer 65536), (0, .integer 983040), (0, .integer 2147483647), (0, .long 2147483647), (1, .long 4294967295), (1, .methodref 23 24), (0, .class_ 25), (0, .nameAndType 26 27), (0, u "com/example/summarium/summarium/cda/XmlNames"), (0, u "isNameStart"), (0, u "(I)Z"), (0, .class_ 29), (0, u "com/example/summarium/summarium/cda/XmlNamesIsNameStartPinLaw"), (2, u "law"), (0, u "(II)Z")] 5

def k1m0 : Method := { name := "<init>", desc := "()V", sig := { parameters := [], returnType := none }, accessFlags := 2, code := none }
def k1c1 : Code := { maxStack := 4, maxLocals := 14, code := code, exceptionTable := #[], attributes := #[] }
def k1m1 : Method := { name := "law", desc := "(II)Z", sig := { parameters := [.int, .int], returnType := some .boolean }, accessFlags := 9, code := some k1c1 }
/-- com/example/summarium/summarium/cda/XmlNamesIsNameStartPinLaw -/
def k1 : Class := { plain "com/example/summarium/summarium/cda/XmlNamesIsNameStartPinLaw" (some 0) with
  accessFlags := 49
  interfaces := #[]
  cf := some (fileOf pool1 28 #[] #[{ accessFlags := 2, nameIndex := 5, descriptorIndex := 6, attributes := #[] }, { accessFlags := 9, nameIndex := 32, descriptorIndex := 33, attributes := #[] }] 49 2 #[] #[])
  fields := #[]
  methods := #[k1m0, k1m1]
  instanceTypes := #[]
  staticTypes := #[]
  resolved := Array.replicate 39 none
  statics := none }

def pool2 : Array CpInfo := pool [(2, .class_ 4), (1, u "java/lang/Object"), (0, u "<init>"), (0, u "()V"), (0, .integer 55295), (0, .integer 63744), (0, .integer 64975), (0, .integer 65008), (0, .integer 65533), (0, .integer 65536), (0, .integer 983039), (1, .class_ 17), (1, u "com/example/summarium/summarium/cda/XmlNames"), (0, u "isNameStart"), (0, u "(I)Z"), (7, .class_ 29), (1, u "com/example/summarium/summarium/cda/XmlNames$SchemaNameChars"), (27, .class_ 58), (0, u "com/example/summarium/summarium/cda/XmlNames$SchemaNameChars$1")] 2

def k2m0 : Method := { name := "<init>", desc := "()V", sig := { parameters := [], returnType := none }, accessFlags := 2, code := none }
def k2c1 : Code := { maxStack := 2, maxLocals := 1, code := prog_60_method_2_code, exceptionTable := #[], attributes := #[] }
def k2m1 : Method := { name := "isNameStart", desc := "(I)Z", sig := { parameters := [.int], returnType := some .boolean }, accessFlags := 8, code := some k2c1 }
/-- com/example/summarium/summarium/cda/XmlNames -/
def k2 : Class := { plain "com/example/summarium/summarium/cda/XmlNames" (some 0) with
  accessFlags := 49
  interfaces := #[]
  cf := some (fileOf pool2 15 #[.nestMembers #[27, 57]] #[{ accessFlags := 2, nameIndex := 5, descriptorIndex := 6, attributes := #[] }, { accessFlags := 8, nameIndex := 18, descriptorIndex := 19, attributes := #[] }] 49 2 #[] #[])
  fields := #[]
  methods := #[k2m0, k2m1]
  instanceTypes := #[]
  staticTypes := #[]
  resolved := Array.replicate 61 none
  statics := none }

def pool3 : Array CpInfo := pool [(1, u "java/lang/Cloneable"), (0, .class_ 1), (0, u "java/lang/Object"), (0, .class_ 3)] 3

/-- java/lang/Cloneable -/
def k3 : Class := { plain "java/lang/Cloneable" (some 0) with
  accessFlags := 1537
  interfaces := #[]
  cf := some (fileOf pool3 2 #[] #[] 1537 4 #[] #[])
  fields := #[]
  methods := #[]
  instanceTypes := #[]
  staticTypes := #[]
  resolved := Array.replicate 8 none
  statics := none }

def pool4 : Array CpInfo := pool [(1, u "java/io/Serializable"), (0, .class_ 1), (0, u "java/lang/Object"), (0, .class_ 3)] 3

/-- java/io/Serializable -/
def k4 : Class := { plain "java/io/Serializable" (some 0) with
  accessFlags := 1537
  interfaces := #[]
  cf := some (fileOf pool4 2 #[] #[] 1537 4 #[] #[])
  fields := #[]
  methods := #[]
  instanceTypes := #[]
  staticTypes := #[]
  resolved := Array.replicate 8 none
  statics := none }

/-- the primitive byte -/
def k5 : Class := { plain "byte" none with kind := .primitive 'B', accessFlags := 0x411 }
/-- [B -/
def k6 : Class := { plain "[B" (some 0) with kind := .array 5 .byte, interfaces := #[3, 4], accessFlags := 1041 }

/-- the primitive int -/
def k7 : Class := { plain "int" none with kind := .primitive 'I', accessFlags := 0x411 }
/-- [I -/
def k8 : Class := { plain "[I" (some 0) with kind := .array 7 .int, interfaces := #[3, 4], accessFlags := 1041 }

def heap : Heap := #[]
def classes : Array Class := #[k0, k1, k2, k3, k4, k5, k6, k7, k8]
def interned : List (Array UInt16 × Addr) := []
def slotsUsed : Nat := 0
def theMethod : MethodId := ⟨1, 1⟩
def args0 : Array Value := #[.int 3, .int 2]
def aboutOver (below : List Frame) : State where
  vm := { classes := classes, interned := interned.toArray }
  heap := heap
  slotsUsed := slotsUsed
  threads := #[{ frames := .invoking theMethod args0 :: below }]
def below0 : List Frame := [.native { method := ⟨0, 0⟩, args := #[] }]
def about1 : State := aboutOver below0
def p0 : Program := .bare "" "" ""
def e0 : Env := launch0.env 0 0 0
theorem w_frames : about1.frames = Frame.invoking theMethod args0 :: below0 := rfl
set_option maxRecDepth 65536 in
theorem w_args : argsFit about1.vm theMethod args0 = true := by decide +kernel
set_option maxRecDepth 65536 in
theorem w_heap : heapFits about1 = true := by decide +kernel
set_option maxRecDepth 65536 in
theorem w_runnable : about1.curStatus? = some .runnable := by decide +kernel
set_option maxRecDepth 65536 in
theorem w_alone : about1.alone = true := by decide +kernel
set_option maxRecDepth 65536 in
theorem w_named : about1.methodNamed? x = some theMethod := by decide +kernel
set_option maxRecDepth 65536 in
theorem w_hears : about1.hears theMethod below0 = true := by decide +kernel
set_option maxRecDepth 65536 in
theorem w_ripe : about1.ripe theMethod args0 below0 = true := by decide +kernel
theorem w_running : about1.status = .running := rfl
set_option maxRecDepth 65536 in
theorem w_room : about1.hasRoom e0.platform room_1 = true :=
  launch0.hasRoom_least _ room_1 (by decide +kernel) (by decide +kernel) (by decide +kernel) (by decide +kernel) (by decide +kernel) (by decide +kernel)
theorem allAtoms_all (ts : List Jvm.Cond) (a : Array Jvm.Value) (st : Jvm.State) : (allAtoms ts).before a st = ts.all (fun c => c.before a st) := by
  induction ts with
  | nil => rfl
  | cons c t ih =>
    show (Jvm.Cond.and c (allAtoms t)).before a st = _
    rw [Jvm.Cond.before_and, ih, List.all_cons]
def words1 : List Jvm.Cond := Jvm.Cond.code x code maxLocals ret :: tables_1
/-- a 'code' word, met by the world's own term for the bytes: nothing is compared byte by byte -/
theorem code_word {y : MethodName} {bytes : ByteArray} {mx : Nat} {rt : Option FieldType} {a : Array Value} {s : State} {m : MethodId} {meth : Method} {c : Code} (h1 : s.methodNamed? y = some m) (h2 : s.vm.method? m = some meth) (h3 : meth.code = some c) (h4 : c.code = bytes)
    (h5 : (c.maxLocals == mx && c.exceptionTable.isEmpty && decide (c.maxStack ≤ mostOperands) && decide (meth.sig.returnType = rt) && !meth.locks && decide (parseMethodDescriptor y.desc = some meth.sig)) = true) : (Jvm.Cond.code y bytes mx rt).before a s = true := by
  simp only [Bool.and_eq_true, beq_iff_eq, Bool.not_eq_true', decide_eq_true_eq] at h5
  obtain ⟨⟨⟨⟨⟨g1, g2⟩, g3⟩, g4⟩, g5⟩, g6⟩ := h5
  simp [Cond.before, Cond.holds, Cond.value, h1, h2, h3, h4, g1, g2, g3, g4, g5, g6]
def isCode : Jvm.Cond → Bool
  | .code _ _ _ _ => true
  | _ => false
theorem all_split {L : List Jvm.Cond} {P : Jvm.Cond → Bool} (h1 : L.all (fun c => isCode c || P c) = true) (h2 : ∀ c ∈ L.filter isCode, P c = true) : L.all P = true := by
  refine List.all_eq_true.mpr fun c hc => ?_
  have h := List.all_eq_true.mp h1 c hc
  rcases Bool.eq_false_or_eq_true (isCode c) with hi | hi
  · exact h2 c (List.mem_filter.mpr ⟨hc, hi⟩)
  · simpa [hi] using h
set_option maxRecDepth 65536 in
theorem w_c0 : (Jvm.Cond.code x code maxLocals ret).before args0 about1 = true := code_word (m := ⟨1, 1⟩) (meth := k1m1) (c := k1c1) (by decide +kernel) rfl rfl rfl (by decide +kernel)
set_option maxRecDepth 65536 in
theorem w_c1 : (Jvm.Cond.code ({ cls := "com/example/summarium/summarium/cda/XmlNames", name := "isNameStart", desc := "(I)Z" } : Jvm.MethodName) prog_60_method_2_code (1 : Nat) (Option.some Jvm.ClassFile.FieldType.boolean)).before args0 about1 = true := code_word (m := ⟨2, 1⟩) (meth := k2m1) (c := k2c1) (by decide +kernel) rfl rfl rfl (by decide +kernel)
def codes1 : List Jvm.Cond := [Jvm.Cond.code x code maxLocals ret, Jvm.Cond.code ({ cls := "com/example/summarium/summarium/cda/XmlNames", name := "isNameStart", desc := "(I)Z" } : Jvm.MethodName) prog_60_method_2_code (1 : Nat) (Option.some Jvm.ClassFile.FieldType.boolean)]
set_option maxRecDepth 65536 in
theorem codes_eq : words1.filter isCode = codes1 := rfl
theorem w_codes : ∀ c ∈ words1.filter isCode, c.before args0 about1 = true := by
  rw [codes_eq]
  intro c hc
  simp only [codes1, List.mem_cons, List.not_mem_nil, or_false] at hc
  rcases hc with rfl | rfl
  · exact w_c0
  · exact w_c1
set_option maxRecDepth 65536 in
theorem w_t1 : words1.all (fun c => isCode c || c.before args0 about1) = true := by decide +kernel
theorem w_tables : (allAtoms (Jvm.Cond.code x code maxLocals ret :: tables_1)).before args0 about1 = true := by
  rw [allAtoms_all]
  show words1.all (fun c => c.before args0 about1) = true
  refine all_split ?_ w_codes
  rw [w_t1]
set_option maxRecDepth 65536 in
theorem w_case : (Jvm.Cond.and given_1 narrow_1).before args0 about1 = true := by decide +kernel
theorem w_applies : (headSpec (Jvm.Cond.code x code maxLocals ret :: tables_1) room_1).applies x e0.platform about1 = true :=
  (Spec.applies_iff w_frames).mpr ⟨w_running, w_runnable, w_alone, w_named, w_hears, w_ripe, w_room, w_tables⟩
theorem atStart : AtStart classFile x code maxLocals ret World_1 tables_1 room_1 Calls_1 rest_1 Pre_1 launch0 p0 e0 about1 theMethod args0 below0 :=
  ⟨lists_1, trivial, launch0.admits_env _ _ _, launch0.least_env, fairChoices_fair.cas, fairChoices_fair.clock, w_frames, w_args, w_heap, w_applies, trivial, trivial, w_case⟩
end start1
theorem witness_1 : WitnessClaimed_1 := ⟨start1.p0, start1.e0, start1.about1, start1.theMethod, start1.args0, start1.below0, start1.atStart⟩
end Jvm.Pilot.@@N@@
