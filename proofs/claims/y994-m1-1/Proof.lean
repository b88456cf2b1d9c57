import JvmDerived
import JvmDerived.Pilot.@@N@@Statement
import JvmDerived.Pilot.@@N@@Code
set_option linter.unusedVariables false
set_option linter.unusedSimpArgs false
namespace Jvm.Pilot.@@N@@
open Jvm Jvm.ClassFile Sem Op Lib Jvm.Free Jvm.Stand Jvm.LawKit Jvm.RoadKit Bundle Jvm.Pilot.@@N@@.Jvm.D
theorem d1_0 : decode prog_2_method_2_code 0 = .ok (.iload_n 0, 1) := by decide +kernel
theorem d1_1 : decode prog_2_method_2_code 1 = .ok (.bipush 97, 2) := by decide +kernel
theorem d1_3 : decode prog_2_method_2_code 3 = .ok (.if_icmp .lt 9, 3) := by decide +kernel
theorem d1_6 : decode prog_2_method_2_code 6 = .ok (.iload_n 0, 1) := by decide +kernel
theorem d1_7 : decode prog_2_method_2_code 7 = .ok (.bipush 122, 2) := by decide +kernel
theorem d1_9 : decode prog_2_method_2_code 9 = .ok (.if_icmp .le 182, 3) := by decide +kernel
theorem d1_12 : decode prog_2_method_2_code 12 = .ok (.iload_n 0, 1) := by decide +kernel
theorem d1_13 : decode prog_2_method_2_code 13 = .ok (.bipush 65, 2) := by decide +kernel
theorem d1_15 : decode prog_2_method_2_code 15 = .ok (.if_icmp .lt 9, 3) := by decide +kernel
theorem d1_18 : decode prog_2_method_2_code 18 = .ok (.iload_n 0, 1) := by decide +kernel
theorem d1_19 : decode prog_2_method_2_code 19 = .ok (.bipush 90, 2) := by decide +kernel
theorem d1_21 : decode prog_2_method_2_code 21 = .ok (.if_icmp .le 170, 3) := by decide +kernel
theorem d1_24 : decode prog_2_method_2_code 24 = .ok (.iload_n 0, 1) := by decide +kernel
theorem d1_25 : decode prog_2_method_2_code 25 = .ok (.bipush 95, 2) := by decide +kernel
theorem d1_27 : decode prog_2_method_2_code 27 = .ok (.if_icmp .eq 164, 3) := by decide +kernel
theorem d1_30 : decode prog_2_method_2_code 30 = .ok (.iload_n 0, 1) := by decide +kernel
theorem d1_31 : decode prog_2_method_2_code 31 = .ok (.sipush 192, 3) := by decide +kernel
theorem d1_34 : decode prog_2_method_2_code 34 = .ok (.if_icmp .lt 10, 3) := by decide +kernel
theorem d1_37 : decode prog_2_method_2_code 37 = .ok (.iload_n 0, 1) := by decide +kernel
theorem d1_38 : decode prog_2_method_2_code 38 = .ok (.sipush 214, 3) := by decide +kernel
theorem d1_41 : decode prog_2_method_2_code 41 = .ok (.if_icmp .le 150, 3) := by decide +kernel
theorem d1_44 : decode prog_2_method_2_code 44 = .ok (.iload_n 0, 1) := by decide +kernel
theorem d1_45 : decode prog_2_method_2_code 45 = .ok (.sipush 216, 3) := by decide +kernel
theorem d1_48 : decode prog_2_method_2_code 48 = .ok (.if_icmp .lt 10, 3) := by decide +kernel
theorem d1_51 : decode prog_2_method_2_code 51 = .ok (.iload_n 0, 1) := by decide +kernel
theorem d1_52 : decode prog_2_method_2_code 52 = .ok (.sipush 246, 3) := by decide +kernel
theorem d1_55 : decode prog_2_method_2_code 55 = .ok (.if_icmp .le 136, 3) := by decide +kernel
theorem d1_58 : decode prog_2_method_2_code 58 = .ok (.iload_n 0, 1) := by decide +kernel
theorem d1_59 : decode prog_2_method_2_code 59 = .ok (.sipush 248, 3) := by decide +kernel
theorem d1_62 : decode prog_2_method_2_code 62 = .ok (.if_icmp .lt 10, 3) := by decide +kernel
theorem d1_65 : decode prog_2_method_2_code 65 = .ok (.iload_n 0, 1) := by decide +kernel
theorem d1_66 : decode prog_2_method_2_code 66 = .ok (.sipush 767, 3) := by decide +kernel
theorem d1_69 : decode prog_2_method_2_code 69 = .ok (.if_icmp .le 122, 3) := by decide +kernel
theorem d1_72 : decode prog_2_method_2_code 72 = .ok (.iload_n 0, 1) := by decide +kernel
theorem d1_73 : decode prog_2_method_2_code 73 = .ok (.sipush 880, 3) := by decide +kernel
theorem d1_76 : decode prog_2_method_2_code 76 = .ok (.if_icmp .lt 10, 3) := by decide +kernel
theorem d1_79 : decode prog_2_method_2_code 79 = .ok (.iload_n 0, 1) := by decide +kernel
theorem d1_80 : decode prog_2_method_2_code 80 = .ok (.sipush 893, 3) := by decide +kernel
theorem d1_83 : decode prog_2_method_2_code 83 = .ok (.if_icmp .le 108, 3) := by decide +kernel
theorem d1_86 : decode prog_2_method_2_code 86 = .ok (.iload_n 0, 1) := by decide +kernel
theorem d1_87 : decode prog_2_method_2_code 87 = .ok (.sipush 895, 3) := by decide +kernel
theorem d1_90 : decode prog_2_method_2_code 90 = .ok (.if_icmp .lt 10, 3) := by decide +kernel
theorem d1_93 : decode prog_2_method_2_code 93 = .ok (.iload_n 0, 1) := by decide +kernel
theorem d1_94 : decode prog_2_method_2_code 94 = .ok (.sipush 8191, 3) := by decide +kernel
theorem d1_97 : decode prog_2_method_2_code 97 = .ok (.if_icmp .le 94, 3) := by decide +kernel
theorem d1_100 : decode prog_2_method_2_code 100 = .ok (.iload_n 0, 1) := by decide +kernel
theorem d1_101 : decode prog_2_method_2_code 101 = .ok (.sipush 8204, 3) := by decide +kernel
theorem d1_104 : decode prog_2_method_2_code 104 = .ok (.if_icmp .lt 10, 3) := by decide +kernel
theorem d1_107 : decode prog_2_method_2_code 107 = .ok (.iload_n 0, 1) := by decide +kernel
theorem d1_108 : decode prog_2_method_2_code 108 = .ok (.sipush 8205, 3) := by decide +kernel
theorem d1_111 : decode prog_2_method_2_code 111 = .ok (.if_icmp .le 80, 3) := by decide +kernel
theorem d1_114 : decode prog_2_method_2_code 114 = .ok (.iload_n 0, 1) := by decide +kernel
theorem d1_115 : decode prog_2_method_2_code 115 = .ok (.sipush 8304, 3) := by decide +kernel
theorem d1_118 : decode prog_2_method_2_code 118 = .ok (.if_icmp .lt 10, 3) := by decide +kernel
theorem d1_121 : decode prog_2_method_2_code 121 = .ok (.iload_n 0, 1) := by decide +kernel
theorem d1_122 : decode prog_2_method_2_code 122 = .ok (.sipush 8591, 3) := by decide +kernel
theorem d1_125 : decode prog_2_method_2_code 125 = .ok (.if_icmp .le 66, 3) := by decide +kernel
theorem d1_128 : decode prog_2_method_2_code 128 = .ok (.iload_n 0, 1) := by decide +kernel
theorem d1_129 : decode prog_2_method_2_code 129 = .ok (.sipush 11264, 3) := by decide +kernel
theorem d1_132 : decode prog_2_method_2_code 132 = .ok (.if_icmp .lt 10, 3) := by decide +kernel
theorem d1_135 : decode prog_2_method_2_code 135 = .ok (.iload_n 0, 1) := by decide +kernel
theorem d1_136 : decode prog_2_method_2_code 136 = .ok (.sipush 12271, 3) := by decide +kernel
theorem d1_139 : decode prog_2_method_2_code 139 = .ok (.if_icmp .le 52, 3) := by decide +kernel
theorem d1_142 : decode prog_2_method_2_code 142 = .ok (.iload_n 0, 1) := by decide +kernel
theorem d1_143 : decode prog_2_method_2_code 143 = .ok (.sipush 12289, 3) := by decide +kernel
theorem d1_146 : decode prog_2_method_2_code 146 = .ok (.if_icmp .lt 9, 3) := by decide +kernel
theorem d1_149 : decode prog_2_method_2_code 149 = .ok (.iload_n 0, 1) := by decide +kernel
theorem d1_150 : decode prog_2_method_2_code 150 = .ok (.ldc 7, 2) := by decide +kernel
theorem d1_152 : decode prog_2_method_2_code 152 = .ok (.if_icmp .le 39, 3) := by decide +kernel
theorem d1_155 : decode prog_2_method_2_code 155 = .ok (.iload_n 0, 1) := by decide +kernel
theorem d1_156 : decode prog_2_method_2_code 156 = .ok (.ldc 8, 2) := by decide +kernel
theorem d1_158 : decode prog_2_method_2_code 158 = .ok (.if_icmp .lt 9, 3) := by decide +kernel
theorem d1_161 : decode prog_2_method_2_code 161 = .ok (.iload_n 0, 1) := by decide +kernel
theorem d1_162 : decode prog_2_method_2_code 162 = .ok (.ldc 9, 2) := by decide +kernel
theorem d1_164 : decode prog_2_method_2_code 164 = .ok (.if_icmp .le 27, 3) := by decide +kernel
theorem d1_167 : decode prog_2_method_2_code 167 = .ok (.iload_n 0, 1) := by decide +kernel
theorem d1_168 : decode prog_2_method_2_code 168 = .ok (.ldc 10, 2) := by decide +kernel
theorem d1_170 : decode prog_2_method_2_code 170 = .ok (.if_icmp .lt 9, 3) := by decide +kernel
theorem d1_173 : decode prog_2_method_2_code 173 = .ok (.iload_n 0, 1) := by decide +kernel
theorem d1_174 : decode prog_2_method_2_code 174 = .ok (.ldc 11, 2) := by decide +kernel
theorem d1_176 : decode prog_2_method_2_code 176 = .ok (.if_icmp .le 15, 3) := by decide +kernel
theorem d1_179 : decode prog_2_method_2_code 179 = .ok (.iload_n 0, 1) := by decide +kernel
theorem d1_180 : decode prog_2_method_2_code 180 = .ok (.ldc 12, 2) := by decide +kernel
theorem d1_182 : decode prog_2_method_2_code 182 = .ok (.if_icmp .lt 13, 3) := by decide +kernel
theorem d1_185 : decode prog_2_method_2_code 185 = .ok (.iload_n 0, 1) := by decide +kernel
theorem d1_186 : decode prog_2_method_2_code 186 = .ok (.ldc 13, 2) := by decide +kernel
theorem d1_188 : decode prog_2_method_2_code 188 = .ok (.if_icmp .gt 7, 3) := by decide +kernel
theorem d1_191 : decode prog_2_method_2_code 191 = .ok (.iconst 1, 1) := by decide +kernel
theorem d1_192 : decode prog_2_method_2_code 192 = .ok (.goto 4, 3) := by decide +kernel
theorem d1_195 : decode prog_2_method_2_code 195 = .ok (.iconst 0, 1) := by decide +kernel
theorem d1_196 : decode prog_2_method_2_code 196 = .ok (.ireturn, 1) := by decide +kernel
theorem pn_rm1 : plainName "com/example/rulecast/rulecast/Names" = true := by first | (simp [plainName, overriddenIn]; done) | decide +kernel
theorem ef_rm1 (m : MethodId) (p1 : Int32) : entryFrame m #[(.int p1)] 1 = (mkF m 0 #[.val (.int p1)] []) := by first | (simp [entryFrame, mkF, argsToLocals, Value.category]; done) | rfl
def own_st_0_1 (p1 : Int32) : Int32 := (1 : Int32)
def own_st_0_2 (p1 : Int32) : Int32 := (0 : Int32)
def own_st_0_3 (p1 : Int32) : Int32 := if (983039 : Int32) < p1 then own_st_0_2 p1 else own_st_0_1 p1
def own_st_0_4 (p1 : Int32) : Int32 := if p1 < (65536 : Int32) then own_st_0_2 p1 else own_st_0_3 p1
def own_st_0_5 (p1 : Int32) : Int32 := if (65533 : Int32) < p1 then own_st_0_4 p1 else own_st_0_1 p1
def own_st_0_6 (p1 : Int32) : Int32 := if p1 < (65008 : Int32) then own_st_0_4 p1 else own_st_0_5 p1
def own_st_0_7 (p1 : Int32) : Int32 := if (64975 : Int32) < p1 then own_st_0_6 p1 else own_st_0_1 p1
def own_st_0_8 (p1 : Int32) : Int32 := if p1 < (63744 : Int32) then own_st_0_6 p1 else own_st_0_7 p1
def own_st_0_9 (p1 : Int32) : Int32 := if (55295 : Int32) < p1 then own_st_0_8 p1 else own_st_0_1 p1
def own_st_0_10 (p1 : Int32) : Int32 := if p1 < (12289 : Int32) then own_st_0_8 p1 else own_st_0_9 p1
def own_st_0_11 (p1 : Int32) : Int32 := if (12271 : Int32) < p1 then own_st_0_10 p1 else own_st_0_1 p1
def own_st_0_12 (p1 : Int32) : Int32 := if p1 < (11264 : Int32) then own_st_0_10 p1 else own_st_0_11 p1
def own_st_0_13 (p1 : Int32) : Int32 := if (8591 : Int32) < p1 then own_st_0_12 p1 else own_st_0_1 p1
def own_st_0_14 (p1 : Int32) : Int32 := if p1 < (8304 : Int32) then own_st_0_12 p1 else own_st_0_13 p1
def own_st_0_15 (p1 : Int32) : Int32 := if (8205 : Int32) < p1 then own_st_0_14 p1 else own_st_0_1 p1
def own_st_0_16 (p1 : Int32) : Int32 := if p1 < (8204 : Int32) then own_st_0_14 p1 else own_st_0_15 p1
def own_st_0_17 (p1 : Int32) : Int32 := if (8191 : Int32) < p1 then own_st_0_16 p1 else own_st_0_1 p1
def own_st_0_18 (p1 : Int32) : Int32 := if p1 < (895 : Int32) then own_st_0_16 p1 else own_st_0_17 p1
def own_st_0_19 (p1 : Int32) : Int32 := if (893 : Int32) < p1 then own_st_0_18 p1 else own_st_0_1 p1
def own_st_0_20 (p1 : Int32) : Int32 := if p1 < (880 : Int32) then own_st_0_18 p1 else own_st_0_19 p1
def own_st_0_21 (p1 : Int32) : Int32 := if (767 : Int32) < p1 then own_st_0_20 p1 else own_st_0_1 p1
def own_st_0_22 (p1 : Int32) : Int32 := if p1 < (248 : Int32) then own_st_0_20 p1 else own_st_0_21 p1
def own_st_0_23 (p1 : Int32) : Int32 := if (246 : Int32) < p1 then own_st_0_22 p1 else own_st_0_1 p1
def own_st_0_24 (p1 : Int32) : Int32 := if p1 < (216 : Int32) then own_st_0_22 p1 else own_st_0_23 p1
def own_st_0_25 (p1 : Int32) : Int32 := if (214 : Int32) < p1 then own_st_0_24 p1 else own_st_0_1 p1
def own_st_0_26 (p1 : Int32) : Int32 := if p1 < (192 : Int32) then own_st_0_24 p1 else own_st_0_25 p1
def own_st_0_27 (p1 : Int32) : Int32 := if p1 = (95 : Int32) then own_st_0_1 p1 else own_st_0_26 p1
def own_st_0_28 (p1 : Int32) : Int32 := if (90 : Int32) < p1 then own_st_0_27 p1 else own_st_0_1 p1
def own_st_0_29 (p1 : Int32) : Int32 := if p1 < (65 : Int32) then own_st_0_27 p1 else own_st_0_28 p1
def own_st_0_30 (p1 : Int32) : Int32 := if (122 : Int32) < p1 then own_st_0_29 p1 else own_st_0_1 p1
def own_st_0_31 (p1 : Int32) : Int32 := if p1 < (97 : Int32) then own_st_0_29 p1 else own_st_0_30 p1
def Q_rm1 (Z : State) (p1 : Int32)  (h0 : Heap) (n0 : Nat) (v : Option Value) (h : Heap) (L : List Loc) : Prop := v = some (.int (own_st_0_31 p1)) ∧ Fr n0 L ∧ h = h0
set_option maxRecDepth 65536 in
set_option maxHeartbeats 40000000 in
theorem rm1 (l : Launch) (Z : State) (a0 : Array Value) (hw : ∀ d ∈ tables_1, d.before a0 Z = true) (ws : List Jvm.Cond) (p1 : Int32)  (h0 : Heap) (n0 : Nat) (Z0 : n0 ≤ h0.size)  :
    MetFree l (⟨"com/example/rulecast/rulecast/Names", "isNameStartChar", "(I)Z"⟩ : MethodName) (head1 (Jvm.Cond.code (⟨"com/example/rulecast/rulecast/Names", "isNameStartChar", "(I)Z"⟩ : MethodName) prog_2_method_2_code 1 (some .boolean) :: ws) ({ frames := 0, cells := 0, slots := 0, locals := 0 } : Room)) (fun a U => a = #[(.int p1)] ∧ Z.Warmed39 U.vm ∧ U.heap = h0) (fun _ _ _ _ _ => True) (fun _ U o U' => ∃ v L, o = .returned v ∧ Q_rm1 Z p1 h0 n0 v U'.heap L ∧ FrameEnd U o U' L ({ frames := 0, cells := 0, slots := 0, locals := 0 } : Room).cells ({ frames := 0, cells := 0, slots := 0, locals := 0 } : Room).slots) := by
  refine MetFree.of_bodySF (plainFor_of_name pn_rm1) hisR ?_
  intro p e s m args below meth c s₁ Bd hml0 hP hK
  obtain ⟨rfl, hZ, hh⟩ := hP
  have hx := Bd.exec
  have hby := Bd.bytes
  have hml : c.maxLocals = 1 := hml0
  have hown : s.vm.findClass "com/example/rulecast/rulecast/Names" = some m.cls := findClass_of_methodNamed Bd.named
  have hnm := (name_of_methodNamed Bd.named Bd.method).1
  have X0 : Stand p l e ({ frames := 0, cells := 0, slots := 0, locals := 0 } : Room) s m #[(.int p1)] below meth c s₁ [] 0 0 := Stand.of_body Bd
  have e0 : s₁.heap = h0 := by rw [← hh, Bd.state]; rfl
  have N0 := Fr.nil n0
  have pre0 : Steps p.tables e below (s₁.setTop (entryFrame m #[(.int p1)] 1)) (s₁.setTop (mkF m 0 #[.val (.int p1)] [])) := castTop (ef_rm1 m p1) (Steps.refl _)
  obtain ⟨v_st_0, h_v_st_0⟩ : ∃ z, z = own_st_0_31 p1 := ⟨_, rfl⟩
  obtain ⟨fs, hr, hrun, hended, hW, hsame⟩ := X0.leave (v := some (.int v_st_0)) (fun h => by rw [Bd.returns] at h; cases h)
  have Bst_1 (hv0 : v_st_0 = own_st_0_1 p1) : Steps p.tables e below (s₁.setTop (mkF m 191 #[.val (.int p1)] [])) (s₁.setFrames fs) := by
    have hw0 : v_st_0 = (1 : Int32) := hv0
    rw [hw0] at hr
    show Steps p.tables e below (s₁.setTop (mkF m 191 #[.val (.int p1)] [])) _
    refine XS.iconst X0.here hx rfl (hb hby d1_191) ?_
    show Steps p.tables e below (s₁.setTop (mkF m 192 #[.val (.int p1)] [(.int (1 : Int32))])) _
    refine XS.goto X0.here hx rfl (pc0 := 192) (pc' := 196) rfl (hb hby d1_192) (by decide) (by decide) ?_
    show Steps p.tables e below (s₁.setTop (mkF m 196 #[.val (.int p1)] [(.int (1 : Int32))])) _
    exact retN X0 hx (t := .boolean) Bd.returns (by simp) (hb hby d1_196) hr
  have Bst_2 (hv0 : v_st_0 = own_st_0_2 p1) : Steps p.tables e below (s₁.setTop (mkF m 195 #[.val (.int p1)] [])) (s₁.setFrames fs) := by
    have hw0 : v_st_0 = (0 : Int32) := hv0
    rw [hw0] at hr
    show Steps p.tables e below (s₁.setTop (mkF m 195 #[.val (.int p1)] [])) _
    refine XS.iconst X0.here hx rfl (hb hby d1_195) ?_
    show Steps p.tables e below (s₁.setTop (mkF m 196 #[.val (.int p1)] [(.int (0 : Int32))])) _
    exact retN X0 hx (t := .boolean) Bd.returns (by simp) (hb hby d1_196) hr
  have Bst_3 (hv0 : v_st_0 = own_st_0_3 p1) : Steps p.tables e below (s₁.setTop (mkF m 185 #[.val (.int p1)] [])) (s₁.setFrames fs) := by
    show Steps p.tables e below (s₁.setTop (mkF m 185 #[.val (.int p1)] [])) _
    refine XS.iloadN X0.here hx rfl (hb hby d1_185) rfl ?_
    show Steps p.tables e below (s₁.setTop (mkF m 186 #[.val (.int p1)] [(.int p1)])) _
    refine X0.ldcInt hx hown (mvT hZ (hw _ (List.mem_of_getElem? (i := 23) rfl))) (g := (mkF m 186 #[.val (.int p1)] [(.int p1)])) rfl (hb hby d1_186) _ ?_
    show Steps p.tables e below (s₁.setTop (mkF m 188 #[.val (.int p1)] [(.int (983039 : Int32)), (.int p1)])) _
    by_cases h188 : (983039 : Int32) < p1
    · refine XS.icmpYes X0.here hx rfl (pc0 := 188) (pc' := 195) rfl (hb hby d1_188) rfl (tlt h188).2.2.1 (by decide) (by decide) ?_
      exact Bst_2 (hv0.trans (if_pos h188))
    · refine XS.icmpNo X0.here hx rfl (hb hby d1_188) rfl (flt h188).2.2.1 ?_
      exact Bst_1 (hv0.trans (if_neg h188))
  have Bst_4 (hv0 : v_st_0 = own_st_0_4 p1) : Steps p.tables e below (s₁.setTop (mkF m 179 #[.val (.int p1)] [])) (s₁.setFrames fs) := by
    show Steps p.tables e below (s₁.setTop (mkF m 179 #[.val (.int p1)] [])) _
    refine XS.iloadN X0.here hx rfl (hb hby d1_179) rfl ?_
    show Steps p.tables e below (s₁.setTop (mkF m 180 #[.val (.int p1)] [(.int p1)])) _
    refine X0.ldcInt hx hown (mvT hZ (hw _ (List.mem_of_getElem? (i := 15) rfl))) (g := (mkF m 180 #[.val (.int p1)] [(.int p1)])) rfl (hb hby d1_180) _ ?_
    show Steps p.tables e below (s₁.setTop (mkF m 182 #[.val (.int p1)] [(.int (65536 : Int32)), (.int p1)])) _
    by_cases h182 : p1 < (65536 : Int32)
    · refine XS.icmpYes X0.here hx rfl (pc0 := 182) (pc' := 195) rfl (hb hby d1_182) rfl (tlt h182).1 (by decide) (by decide) ?_
      exact Bst_2 (hv0.trans (if_pos h182))
    · refine XS.icmpNo X0.here hx rfl (hb hby d1_182) rfl (flt h182).1 ?_
      exact Bst_3 (hv0.trans (if_neg h182))
  have Bst_5 (hv0 : v_st_0 = own_st_0_5 p1) : Steps p.tables e below (s₁.setTop (mkF m 173 #[.val (.int p1)] [])) (s₁.setFrames fs) := by
    show Steps p.tables e below (s₁.setTop (mkF m 173 #[.val (.int p1)] [])) _
    refine XS.iloadN X0.here hx rfl (hb hby d1_173) rfl ?_
    show Steps p.tables e below (s₁.setTop (mkF m 174 #[.val (.int p1)] [(.int p1)])) _
    refine X0.ldcInt hx hown (mvT hZ (hw _ (List.mem_of_getElem? (i := 22) rfl))) (g := (mkF m 174 #[.val (.int p1)] [(.int p1)])) rfl (hb hby d1_174) _ ?_
    show Steps p.tables e below (s₁.setTop (mkF m 176 #[.val (.int p1)] [(.int (65533 : Int32)), (.int p1)])) _
    by_cases h176 : (65533 : Int32) < p1
    · refine XS.icmpNo X0.here hx rfl (hb hby d1_176) rfl (tlt h176).2.2.2 ?_
      exact Bst_4 (hv0.trans (if_pos h176))
    · refine XS.icmpYes X0.here hx rfl (pc0 := 176) (pc' := 191) rfl (hb hby d1_176) rfl (flt h176).2.2.2 (by decide) (by decide) ?_
      exact Bst_1 (hv0.trans (if_neg h176))
  have Bst_6 (hv0 : v_st_0 = own_st_0_6 p1) : Steps p.tables e below (s₁.setTop (mkF m 167 #[.val (.int p1)] [])) (s₁.setFrames fs) := by
    show Steps p.tables e below (s₁.setTop (mkF m 167 #[.val (.int p1)] [])) _
    refine XS.iloadN X0.here hx rfl (hb hby d1_167) rfl ?_
    show Steps p.tables e below (s₁.setTop (mkF m 168 #[.val (.int p1)] [(.int p1)])) _
    refine X0.ldcInt hx hown (mvT hZ (hw _ (List.mem_of_getElem? (i := 14) rfl))) (g := (mkF m 168 #[.val (.int p1)] [(.int p1)])) rfl (hb hby d1_168) _ ?_
    show Steps p.tables e below (s₁.setTop (mkF m 170 #[.val (.int p1)] [(.int (65008 : Int32)), (.int p1)])) _
    by_cases h170 : p1 < (65008 : Int32)
    · refine XS.icmpYes X0.here hx rfl (pc0 := 170) (pc' := 179) rfl (hb hby d1_170) rfl (tlt h170).1 (by decide) (by decide) ?_
      exact Bst_4 (hv0.trans (if_pos h170))
    · refine XS.icmpNo X0.here hx rfl (hb hby d1_170) rfl (flt h170).1 ?_
      exact Bst_5 (hv0.trans (if_neg h170))
  have Bst_7 (hv0 : v_st_0 = own_st_0_7 p1) : Steps p.tables e below (s₁.setTop (mkF m 161 #[.val (.int p1)] [])) (s₁.setFrames fs) := by
    show Steps p.tables e below (s₁.setTop (mkF m 161 #[.val (.int p1)] [])) _
    refine XS.iloadN X0.here hx rfl (hb hby d1_161) rfl ?_
    show Steps p.tables e below (s₁.setTop (mkF m 162 #[.val (.int p1)] [(.int p1)])) _
    refine X0.ldcInt hx hown (mvT hZ (hw _ (List.mem_of_getElem? (i := 21) rfl))) (g := (mkF m 162 #[.val (.int p1)] [(.int p1)])) rfl (hb hby d1_162) _ ?_
    show Steps p.tables e below (s₁.setTop (mkF m 164 #[.val (.int p1)] [(.int (64975 : Int32)), (.int p1)])) _
    by_cases h164 : (64975 : Int32) < p1
    · refine XS.icmpNo X0.here hx rfl (hb hby d1_164) rfl (tlt h164).2.2.2 ?_
      exact Bst_6 (hv0.trans (if_pos h164))
    · refine XS.icmpYes X0.here hx rfl (pc0 := 164) (pc' := 191) rfl (hb hby d1_164) rfl (flt h164).2.2.2 (by decide) (by decide) ?_
      exact Bst_1 (hv0.trans (if_neg h164))
  have Bst_8 (hv0 : v_st_0 = own_st_0_8 p1) : Steps p.tables e below (s₁.setTop (mkF m 155 #[.val (.int p1)] [])) (s₁.setFrames fs) := by
    show Steps p.tables e below (s₁.setTop (mkF m 155 #[.val (.int p1)] [])) _
    refine XS.iloadN X0.here hx rfl (hb hby d1_155) rfl ?_
    show Steps p.tables e below (s₁.setTop (mkF m 156 #[.val (.int p1)] [(.int p1)])) _
    refine X0.ldcInt hx hown (mvT hZ (hw _ (List.mem_of_getElem? (i := 13) rfl))) (g := (mkF m 156 #[.val (.int p1)] [(.int p1)])) rfl (hb hby d1_156) _ ?_
    show Steps p.tables e below (s₁.setTop (mkF m 158 #[.val (.int p1)] [(.int (63744 : Int32)), (.int p1)])) _
    by_cases h158 : p1 < (63744 : Int32)
    · refine XS.icmpYes X0.here hx rfl (pc0 := 158) (pc' := 167) rfl (hb hby d1_158) rfl (tlt h158).1 (by decide) (by decide) ?_
      exact Bst_6 (hv0.trans (if_pos h158))
    · refine XS.icmpNo X0.here hx rfl (hb hby d1_158) rfl (flt h158).1 ?_
      exact Bst_7 (hv0.trans (if_neg h158))
  have Bst_9 (hv0 : v_st_0 = own_st_0_9 p1) : Steps p.tables e below (s₁.setTop (mkF m 149 #[.val (.int p1)] [])) (s₁.setFrames fs) := by
    show Steps p.tables e below (s₁.setTop (mkF m 149 #[.val (.int p1)] [])) _
    refine XS.iloadN X0.here hx rfl (hb hby d1_149) rfl ?_
    show Steps p.tables e below (s₁.setTop (mkF m 150 #[.val (.int p1)] [(.int p1)])) _
    refine X0.ldcInt hx hown (mvT hZ (hw _ (List.mem_of_getElem? (i := 20) rfl))) (g := (mkF m 150 #[.val (.int p1)] [(.int p1)])) rfl (hb hby d1_150) _ ?_
    show Steps p.tables e below (s₁.setTop (mkF m 152 #[.val (.int p1)] [(.int (55295 : Int32)), (.int p1)])) _
    by_cases h152 : (55295 : Int32) < p1
    · refine XS.icmpNo X0.here hx rfl (hb hby d1_152) rfl (tlt h152).2.2.2 ?_
      exact Bst_8 (hv0.trans (if_pos h152))
    · refine XS.icmpYes X0.here hx rfl (pc0 := 152) (pc' := 191) rfl (hb hby d1_152) rfl (flt h152).2.2.2 (by decide) (by decide) ?_
      exact Bst_1 (hv0.trans (if_neg h152))
  have Bst_10 (hv0 : v_st_0 = own_st_0_10 p1) : Steps p.tables e below (s₁.setTop (mkF m 142 #[.val (.int p1)] [])) (s₁.setFrames fs) := by
    show Steps p.tables e below (s₁.setTop (mkF m 142 #[.val (.int p1)] [])) _
    refine XS.iloadN X0.here hx rfl (hb hby d1_142) rfl ?_
    show Steps p.tables e below (s₁.setTop (mkF m 143 #[.val (.int p1)] [(.int p1)])) _
    refine XS.sipush X0.here hx rfl (hb hby d1_143) ?_
    show Steps p.tables e below (s₁.setTop (mkF m 146 #[.val (.int p1)] [(.int (12289 : Int32)), (.int p1)])) _
    by_cases h146 : p1 < (12289 : Int32)
    · refine XS.icmpYes X0.here hx rfl (pc0 := 146) (pc' := 155) rfl (hb hby d1_146) rfl (tlt h146).1 (by decide) (by decide) ?_
      exact Bst_8 (hv0.trans (if_pos h146))
    · refine XS.icmpNo X0.here hx rfl (hb hby d1_146) rfl (flt h146).1 ?_
      exact Bst_9 (hv0.trans (if_neg h146))
  have Bst_11 (hv0 : v_st_0 = own_st_0_11 p1) : Steps p.tables e below (s₁.setTop (mkF m 135 #[.val (.int p1)] [])) (s₁.setFrames fs) := by
    show Steps p.tables e below (s₁.setTop (mkF m 135 #[.val (.int p1)] [])) _
    refine XS.iloadN X0.here hx rfl (hb hby d1_135) rfl ?_
    show Steps p.tables e below (s₁.setTop (mkF m 136 #[.val (.int p1)] [(.int p1)])) _
    refine XS.sipush X0.here hx rfl (hb hby d1_136) ?_
    show Steps p.tables e below (s₁.setTop (mkF m 139 #[.val (.int p1)] [(.int (12271 : Int32)), (.int p1)])) _
    by_cases h139 : (12271 : Int32) < p1
    · refine XS.icmpNo X0.here hx rfl (hb hby d1_139) rfl (tlt h139).2.2.2 ?_
      exact Bst_10 (hv0.trans (if_pos h139))
    · refine XS.icmpYes X0.here hx rfl (pc0 := 139) (pc' := 191) rfl (hb hby d1_139) rfl (flt h139).2.2.2 (by decide) (by decide) ?_
      exact Bst_1 (hv0.trans (if_neg h139))
  have Bst_12 (hv0 : v_st_0 = own_st_0_12 p1) : Steps p.tables e below (s₁.setTop (mkF m 128 #[.val (.int p1)] [])) (s₁.setFrames fs) := by
    show Steps p.tables e below (s₁.setTop (mkF m 128 #[.val (.int p1)] [])) _
    refine XS.iloadN X0.here hx rfl (hb hby d1_128) rfl ?_
    show Steps p.tables e below (s₁.setTop (mkF m 129 #[.val (.int p1)] [(.int p1)])) _
    refine XS.sipush X0.here hx rfl (hb hby d1_129) ?_
    show Steps p.tables e below (s₁.setTop (mkF m 132 #[.val (.int p1)] [(.int (11264 : Int32)), (.int p1)])) _
    by_cases h132 : p1 < (11264 : Int32)
    · refine XS.icmpYes X0.here hx rfl (pc0 := 132) (pc' := 142) rfl (hb hby d1_132) rfl (tlt h132).1 (by decide) (by decide) ?_
      exact Bst_10 (hv0.trans (if_pos h132))
    · refine XS.icmpNo X0.here hx rfl (hb hby d1_132) rfl (flt h132).1 ?_
      exact Bst_11 (hv0.trans (if_neg h132))
  have Bst_13 (hv0 : v_st_0 = own_st_0_13 p1) : Steps p.tables e below (s₁.setTop (mkF m 121 #[.val (.int p1)] [])) (s₁.setFrames fs) := by
    show Steps p.tables e below (s₁.setTop (mkF m 121 #[.val (.int p1)] [])) _
    refine XS.iloadN X0.here hx rfl (hb hby d1_121) rfl ?_
    show Steps p.tables e below (s₁.setTop (mkF m 122 #[.val (.int p1)] [(.int p1)])) _
    refine XS.sipush X0.here hx rfl (hb hby d1_122) ?_
    show Steps p.tables e below (s₁.setTop (mkF m 125 #[.val (.int p1)] [(.int (8591 : Int32)), (.int p1)])) _
    by_cases h125 : (8591 : Int32) < p1
    · refine XS.icmpNo X0.here hx rfl (hb hby d1_125) rfl (tlt h125).2.2.2 ?_
      exact Bst_12 (hv0.trans (if_pos h125))
    · refine XS.icmpYes X0.here hx rfl (pc0 := 125) (pc' := 191) rfl (hb hby d1_125) rfl (flt h125).2.2.2 (by decide) (by decide) ?_
      exact Bst_1 (hv0.trans (if_neg h125))
  have Bst_14 (hv0 : v_st_0 = own_st_0_14 p1) : Steps p.tables e below (s₁.setTop (mkF m 114 #[.val (.int p1)] [])) (s₁.setFrames fs) := by
    show Steps p.tables e below (s₁.setTop (mkF m 114 #[.val (.int p1)] [])) _
    refine XS.iloadN X0.here hx rfl (hb hby d1_114) rfl ?_
    show Steps p.tables e below (s₁.setTop (mkF m 115 #[.val (.int p1)] [(.int p1)])) _
    refine XS.sipush X0.here hx rfl (hb hby d1_115) ?_
    show Steps p.tables e below (s₁.setTop (mkF m 118 #[.val (.int p1)] [(.int (8304 : Int32)), (.int p1)])) _
    by_cases h118 : p1 < (8304 : Int32)
    · refine XS.icmpYes X0.here hx rfl (pc0 := 118) (pc' := 128) rfl (hb hby d1_118) rfl (tlt h118).1 (by decide) (by decide) ?_
      exact Bst_12 (hv0.trans (if_pos h118))
    · refine XS.icmpNo X0.here hx rfl (hb hby d1_118) rfl (flt h118).1 ?_
      exact Bst_13 (hv0.trans (if_neg h118))
  have Bst_15 (hv0 : v_st_0 = own_st_0_15 p1) : Steps p.tables e below (s₁.setTop (mkF m 107 #[.val (.int p1)] [])) (s₁.setFrames fs) := by
    show Steps p.tables e below (s₁.setTop (mkF m 107 #[.val (.int p1)] [])) _
    refine XS.iloadN X0.here hx rfl (hb hby d1_107) rfl ?_
    show Steps p.tables e below (s₁.setTop (mkF m 108 #[.val (.int p1)] [(.int p1)])) _
    refine XS.sipush X0.here hx rfl (hb hby d1_108) ?_
    show Steps p.tables e below (s₁.setTop (mkF m 111 #[.val (.int p1)] [(.int (8205 : Int32)), (.int p1)])) _
    by_cases h111 : (8205 : Int32) < p1
    · refine XS.icmpNo X0.here hx rfl (hb hby d1_111) rfl (tlt h111).2.2.2 ?_
      exact Bst_14 (hv0.trans (if_pos h111))
    · refine XS.icmpYes X0.here hx rfl (pc0 := 111) (pc' := 191) rfl (hb hby d1_111) rfl (flt h111).2.2.2 (by decide) (by decide) ?_
      exact Bst_1 (hv0.trans (if_neg h111))
  have Bst_16 (hv0 : v_st_0 = own_st_0_16 p1) : Steps p.tables e below (s₁.setTop (mkF m 100 #[.val (.int p1)] [])) (s₁.setFrames fs) := by
    show Steps p.tables e below (s₁.setTop (mkF m 100 #[.val (.int p1)] [])) _
    refine XS.iloadN X0.here hx rfl (hb hby d1_100) rfl ?_
    show Steps p.tables e below (s₁.setTop (mkF m 101 #[.val (.int p1)] [(.int p1)])) _
    refine XS.sipush X0.here hx rfl (hb hby d1_101) ?_
    show Steps p.tables e below (s₁.setTop (mkF m 104 #[.val (.int p1)] [(.int (8204 : Int32)), (.int p1)])) _
    by_cases h104 : p1 < (8204 : Int32)
    · refine XS.icmpYes X0.here hx rfl (pc0 := 104) (pc' := 114) rfl (hb hby d1_104) rfl (tlt h104).1 (by decide) (by decide) ?_
      exact Bst_14 (hv0.trans (if_pos h104))
    · refine XS.icmpNo X0.here hx rfl (hb hby d1_104) rfl (flt h104).1 ?_
      exact Bst_15 (hv0.trans (if_neg h104))
  have Bst_17 (hv0 : v_st_0 = own_st_0_17 p1) : Steps p.tables e below (s₁.setTop (mkF m 93 #[.val (.int p1)] [])) (s₁.setFrames fs) := by
    show Steps p.tables e below (s₁.setTop (mkF m 93 #[.val (.int p1)] [])) _
    refine XS.iloadN X0.here hx rfl (hb hby d1_93) rfl ?_
    show Steps p.tables e below (s₁.setTop (mkF m 94 #[.val (.int p1)] [(.int p1)])) _
    refine XS.sipush X0.here hx rfl (hb hby d1_94) ?_
    show Steps p.tables e below (s₁.setTop (mkF m 97 #[.val (.int p1)] [(.int (8191 : Int32)), (.int p1)])) _
    by_cases h97 : (8191 : Int32) < p1
    · refine XS.icmpNo X0.here hx rfl (hb hby d1_97) rfl (tlt h97).2.2.2 ?_
      exact Bst_16 (hv0.trans (if_pos h97))
    · refine XS.icmpYes X0.here hx rfl (pc0 := 97) (pc' := 191) rfl (hb hby d1_97) rfl (flt h97).2.2.2 (by decide) (by decide) ?_
      exact Bst_1 (hv0.trans (if_neg h97))
  have Bst_18 (hv0 : v_st_0 = own_st_0_18 p1) : Steps p.tables e below (s₁.setTop (mkF m 86 #[.val (.int p1)] [])) (s₁.setFrames fs) := by
    show Steps p.tables e below (s₁.setTop (mkF m 86 #[.val (.int p1)] [])) _
    refine XS.iloadN X0.here hx rfl (hb hby d1_86) rfl ?_
    show Steps p.tables e below (s₁.setTop (mkF m 87 #[.val (.int p1)] [(.int p1)])) _
    refine XS.sipush X0.here hx rfl (hb hby d1_87) ?_
    show Steps p.tables e below (s₁.setTop (mkF m 90 #[.val (.int p1)] [(.int (895 : Int32)), (.int p1)])) _
    by_cases h90 : p1 < (895 : Int32)
    · refine XS.icmpYes X0.here hx rfl (pc0 := 90) (pc' := 100) rfl (hb hby d1_90) rfl (tlt h90).1 (by decide) (by decide) ?_
      exact Bst_16 (hv0.trans (if_pos h90))
    · refine XS.icmpNo X0.here hx rfl (hb hby d1_90) rfl (flt h90).1 ?_
      exact Bst_17 (hv0.trans (if_neg h90))
  have Bst_19 (hv0 : v_st_0 = own_st_0_19 p1) : Steps p.tables e below (s₁.setTop (mkF m 79 #[.val (.int p1)] [])) (s₁.setFrames fs) := by
    show Steps p.tables e below (s₁.setTop (mkF m 79 #[.val (.int p1)] [])) _
    refine XS.iloadN X0.here hx rfl (hb hby d1_79) rfl ?_
    show Steps p.tables e below (s₁.setTop (mkF m 80 #[.val (.int p1)] [(.int p1)])) _
    refine XS.sipush X0.here hx rfl (hb hby d1_80) ?_
    show Steps p.tables e below (s₁.setTop (mkF m 83 #[.val (.int p1)] [(.int (893 : Int32)), (.int p1)])) _
    by_cases h83 : (893 : Int32) < p1
    · refine XS.icmpNo X0.here hx rfl (hb hby d1_83) rfl (tlt h83).2.2.2 ?_
      exact Bst_18 (hv0.trans (if_pos h83))
    · refine XS.icmpYes X0.here hx rfl (pc0 := 83) (pc' := 191) rfl (hb hby d1_83) rfl (flt h83).2.2.2 (by decide) (by decide) ?_
      exact Bst_1 (hv0.trans (if_neg h83))
  have Bst_20 (hv0 : v_st_0 = own_st_0_20 p1) : Steps p.tables e below (s₁.setTop (mkF m 72 #[.val (.int p1)] [])) (s₁.setFrames fs) := by
    show Steps p.tables e below (s₁.setTop (mkF m 72 #[.val (.int p1)] [])) _
    refine XS.iloadN X0.here hx rfl (hb hby d1_72) rfl ?_
    show Steps p.tables e below (s₁.setTop (mkF m 73 #[.val (.int p1)] [(.int p1)])) _
    refine XS.sipush X0.here hx rfl (hb hby d1_73) ?_
    show Steps p.tables e below (s₁.setTop (mkF m 76 #[.val (.int p1)] [(.int (880 : Int32)), (.int p1)])) _
    by_cases h76 : p1 < (880 : Int32)
    · refine XS.icmpYes X0.here hx rfl (pc0 := 76) (pc' := 86) rfl (hb hby d1_76) rfl (tlt h76).1 (by decide) (by decide) ?_
      exact Bst_18 (hv0.trans (if_pos h76))
    · refine XS.icmpNo X0.here hx rfl (hb hby d1_76) rfl (flt h76).1 ?_
      exact Bst_19 (hv0.trans (if_neg h76))
  have Bst_21 (hv0 : v_st_0 = own_st_0_21 p1) : Steps p.tables e below (s₁.setTop (mkF m 65 #[.val (.int p1)] [])) (s₁.setFrames fs) := by
    show Steps p.tables e below (s₁.setTop (mkF m 65 #[.val (.int p1)] [])) _
    refine XS.iloadN X0.here hx rfl (hb hby d1_65) rfl ?_
    show Steps p.tables e below (s₁.setTop (mkF m 66 #[.val (.int p1)] [(.int p1)])) _
    refine XS.sipush X0.here hx rfl (hb hby d1_66) ?_
    show Steps p.tables e below (s₁.setTop (mkF m 69 #[.val (.int p1)] [(.int (767 : Int32)), (.int p1)])) _
    by_cases h69 : (767 : Int32) < p1
    · refine XS.icmpNo X0.here hx rfl (hb hby d1_69) rfl (tlt h69).2.2.2 ?_
      exact Bst_20 (hv0.trans (if_pos h69))
    · refine XS.icmpYes X0.here hx rfl (pc0 := 69) (pc' := 191) rfl (hb hby d1_69) rfl (flt h69).2.2.2 (by decide) (by decide) ?_
      exact Bst_1 (hv0.trans (if_neg h69))
  have Bst_22 (hv0 : v_st_0 = own_st_0_22 p1) : Steps p.tables e below (s₁.setTop (mkF m 58 #[.val (.int p1)] [])) (s₁.setFrames fs) := by
    show Steps p.tables e below (s₁.setTop (mkF m 58 #[.val (.int p1)] [])) _
    refine XS.iloadN X0.here hx rfl (hb hby d1_58) rfl ?_
    show Steps p.tables e below (s₁.setTop (mkF m 59 #[.val (.int p1)] [(.int p1)])) _
    refine XS.sipush X0.here hx rfl (hb hby d1_59) ?_
    show Steps p.tables e below (s₁.setTop (mkF m 62 #[.val (.int p1)] [(.int (248 : Int32)), (.int p1)])) _
    by_cases h62 : p1 < (248 : Int32)
    · refine XS.icmpYes X0.here hx rfl (pc0 := 62) (pc' := 72) rfl (hb hby d1_62) rfl (tlt h62).1 (by decide) (by decide) ?_
      exact Bst_20 (hv0.trans (if_pos h62))
    · refine XS.icmpNo X0.here hx rfl (hb hby d1_62) rfl (flt h62).1 ?_
      exact Bst_21 (hv0.trans (if_neg h62))
  have Bst_23 (hv0 : v_st_0 = own_st_0_23 p1) : Steps p.tables e below (s₁.setTop (mkF m 51 #[.val (.int p1)] [])) (s₁.setFrames fs) := by
    show Steps p.tables e below (s₁.setTop (mkF m 51 #[.val (.int p1)] [])) _
    refine XS.iloadN X0.here hx rfl (hb hby d1_51) rfl ?_
    show Steps p.tables e below (s₁.setTop (mkF m 52 #[.val (.int p1)] [(.int p1)])) _
    refine XS.sipush X0.here hx rfl (hb hby d1_52) ?_
    show Steps p.tables e below (s₁.setTop (mkF m 55 #[.val (.int p1)] [(.int (246 : Int32)), (.int p1)])) _
    by_cases h55 : (246 : Int32) < p1
    · refine XS.icmpNo X0.here hx rfl (hb hby d1_55) rfl (tlt h55).2.2.2 ?_
      exact Bst_22 (hv0.trans (if_pos h55))
    · refine XS.icmpYes X0.here hx rfl (pc0 := 55) (pc' := 191) rfl (hb hby d1_55) rfl (flt h55).2.2.2 (by decide) (by decide) ?_
      exact Bst_1 (hv0.trans (if_neg h55))
  have Bst_24 (hv0 : v_st_0 = own_st_0_24 p1) : Steps p.tables e below (s₁.setTop (mkF m 44 #[.val (.int p1)] [])) (s₁.setFrames fs) := by
    show Steps p.tables e below (s₁.setTop (mkF m 44 #[.val (.int p1)] [])) _
    refine XS.iloadN X0.here hx rfl (hb hby d1_44) rfl ?_
    show Steps p.tables e below (s₁.setTop (mkF m 45 #[.val (.int p1)] [(.int p1)])) _
    refine XS.sipush X0.here hx rfl (hb hby d1_45) ?_
    show Steps p.tables e below (s₁.setTop (mkF m 48 #[.val (.int p1)] [(.int (216 : Int32)), (.int p1)])) _
    by_cases h48 : p1 < (216 : Int32)
    · refine XS.icmpYes X0.here hx rfl (pc0 := 48) (pc' := 58) rfl (hb hby d1_48) rfl (tlt h48).1 (by decide) (by decide) ?_
      exact Bst_22 (hv0.trans (if_pos h48))
    · refine XS.icmpNo X0.here hx rfl (hb hby d1_48) rfl (flt h48).1 ?_
      exact Bst_23 (hv0.trans (if_neg h48))
  have Bst_25 (hv0 : v_st_0 = own_st_0_25 p1) : Steps p.tables e below (s₁.setTop (mkF m 37 #[.val (.int p1)] [])) (s₁.setFrames fs) := by
    show Steps p.tables e below (s₁.setTop (mkF m 37 #[.val (.int p1)] [])) _
    refine XS.iloadN X0.here hx rfl (hb hby d1_37) rfl ?_
    show Steps p.tables e below (s₁.setTop (mkF m 38 #[.val (.int p1)] [(.int p1)])) _
    refine XS.sipush X0.here hx rfl (hb hby d1_38) ?_
    show Steps p.tables e below (s₁.setTop (mkF m 41 #[.val (.int p1)] [(.int (214 : Int32)), (.int p1)])) _
    by_cases h41 : (214 : Int32) < p1
    · refine XS.icmpNo X0.here hx rfl (hb hby d1_41) rfl (tlt h41).2.2.2 ?_
      exact Bst_24 (hv0.trans (if_pos h41))
    · refine XS.icmpYes X0.here hx rfl (pc0 := 41) (pc' := 191) rfl (hb hby d1_41) rfl (flt h41).2.2.2 (by decide) (by decide) ?_
      exact Bst_1 (hv0.trans (if_neg h41))
  have Bst_26 (hv0 : v_st_0 = own_st_0_26 p1) : Steps p.tables e below (s₁.setTop (mkF m 30 #[.val (.int p1)] [])) (s₁.setFrames fs) := by
    show Steps p.tables e below (s₁.setTop (mkF m 30 #[.val (.int p1)] [])) _
    refine XS.iloadN X0.here hx rfl (hb hby d1_30) rfl ?_
    show Steps p.tables e below (s₁.setTop (mkF m 31 #[.val (.int p1)] [(.int p1)])) _
    refine XS.sipush X0.here hx rfl (hb hby d1_31) ?_
    show Steps p.tables e below (s₁.setTop (mkF m 34 #[.val (.int p1)] [(.int (192 : Int32)), (.int p1)])) _
    by_cases h34 : p1 < (192 : Int32)
    · refine XS.icmpYes X0.here hx rfl (pc0 := 34) (pc' := 44) rfl (hb hby d1_34) rfl (tlt h34).1 (by decide) (by decide) ?_
      exact Bst_24 (hv0.trans (if_pos h34))
    · refine XS.icmpNo X0.here hx rfl (hb hby d1_34) rfl (flt h34).1 ?_
      exact Bst_25 (hv0.trans (if_neg h34))
  have Bst_27 (hv0 : v_st_0 = own_st_0_27 p1) : Steps p.tables e below (s₁.setTop (mkF m 24 #[.val (.int p1)] [])) (s₁.setFrames fs) := by
    show Steps p.tables e below (s₁.setTop (mkF m 24 #[.val (.int p1)] [])) _
    refine XS.iloadN X0.here hx rfl (hb hby d1_24) rfl ?_
    show Steps p.tables e below (s₁.setTop (mkF m 25 #[.val (.int p1)] [(.int p1)])) _
    refine XS.bipush X0.here hx rfl (hb hby d1_25) ?_
    show Steps p.tables e below (s₁.setTop (mkF m 27 #[.val (.int p1)] [(.int (95 : Int32)), (.int p1)])) _
    by_cases h27 : p1 = (95 : Int32)
    · refine XS.icmpYes X0.here hx rfl (pc0 := 27) (pc' := 191) rfl (hb hby d1_27) rfl (teq h27).1 (by decide) (by decide) ?_
      exact Bst_1 (hv0.trans (if_pos h27))
    · refine XS.icmpNo X0.here hx rfl (hb hby d1_27) rfl (feq h27).1 ?_
      exact Bst_26 (hv0.trans (if_neg h27))
  have Bst_28 (hv0 : v_st_0 = own_st_0_28 p1) : Steps p.tables e below (s₁.setTop (mkF m 18 #[.val (.int p1)] [])) (s₁.setFrames fs) := by
    show Steps p.tables e below (s₁.setTop (mkF m 18 #[.val (.int p1)] [])) _
    refine XS.iloadN X0.here hx rfl (hb hby d1_18) rfl ?_
    show Steps p.tables e below (s₁.setTop (mkF m 19 #[.val (.int p1)] [(.int p1)])) _
    refine XS.bipush X0.here hx rfl (hb hby d1_19) ?_
    show Steps p.tables e below (s₁.setTop (mkF m 21 #[.val (.int p1)] [(.int (90 : Int32)), (.int p1)])) _
    by_cases h21 : (90 : Int32) < p1
    · refine XS.icmpNo X0.here hx rfl (hb hby d1_21) rfl (tlt h21).2.2.2 ?_
      exact Bst_27 (hv0.trans (if_pos h21))
    · refine XS.icmpYes X0.here hx rfl (pc0 := 21) (pc' := 191) rfl (hb hby d1_21) rfl (flt h21).2.2.2 (by decide) (by decide) ?_
      exact Bst_1 (hv0.trans (if_neg h21))
  have Bst_29 (hv0 : v_st_0 = own_st_0_29 p1) : Steps p.tables e below (s₁.setTop (mkF m 12 #[.val (.int p1)] [])) (s₁.setFrames fs) := by
    show Steps p.tables e below (s₁.setTop (mkF m 12 #[.val (.int p1)] [])) _
    refine XS.iloadN X0.here hx rfl (hb hby d1_12) rfl ?_
    show Steps p.tables e below (s₁.setTop (mkF m 13 #[.val (.int p1)] [(.int p1)])) _
    refine XS.bipush X0.here hx rfl (hb hby d1_13) ?_
    show Steps p.tables e below (s₁.setTop (mkF m 15 #[.val (.int p1)] [(.int (65 : Int32)), (.int p1)])) _
    by_cases h15 : p1 < (65 : Int32)
    · refine XS.icmpYes X0.here hx rfl (pc0 := 15) (pc' := 24) rfl (hb hby d1_15) rfl (tlt h15).1 (by decide) (by decide) ?_
      exact Bst_27 (hv0.trans (if_pos h15))
    · refine XS.icmpNo X0.here hx rfl (hb hby d1_15) rfl (flt h15).1 ?_
      exact Bst_28 (hv0.trans (if_neg h15))
  have Bst_30 (hv0 : v_st_0 = own_st_0_30 p1) : Steps p.tables e below (s₁.setTop (mkF m 6 #[.val (.int p1)] [])) (s₁.setFrames fs) := by
    show Steps p.tables e below (s₁.setTop (mkF m 6 #[.val (.int p1)] [])) _
    refine XS.iloadN X0.here hx rfl (hb hby d1_6) rfl ?_
    show Steps p.tables e below (s₁.setTop (mkF m 7 #[.val (.int p1)] [(.int p1)])) _
    refine XS.bipush X0.here hx rfl (hb hby d1_7) ?_
    show Steps p.tables e below (s₁.setTop (mkF m 9 #[.val (.int p1)] [(.int (122 : Int32)), (.int p1)])) _
    by_cases h9 : (122 : Int32) < p1
    · refine XS.icmpNo X0.here hx rfl (hb hby d1_9) rfl (tlt h9).2.2.2 ?_
      exact Bst_29 (hv0.trans (if_pos h9))
    · refine XS.icmpYes X0.here hx rfl (pc0 := 9) (pc' := 191) rfl (hb hby d1_9) rfl (flt h9).2.2.2 (by decide) (by decide) ?_
      exact Bst_1 (hv0.trans (if_neg h9))
  have Bst_31 (hv0 : v_st_0 = own_st_0_31 p1) : Steps p.tables e below (s₁.setTop (mkF m 0 #[.val (.int p1)] [])) (s₁.setFrames fs) := by
    show Steps p.tables e below (s₁.setTop (mkF m 0 #[.val (.int p1)] [])) _
    refine XS.iloadN X0.here hx rfl (hb hby d1_0) rfl ?_
    show Steps p.tables e below (s₁.setTop (mkF m 1 #[.val (.int p1)] [(.int p1)])) _
    refine XS.bipush X0.here hx rfl (hb hby d1_1) ?_
    show Steps p.tables e below (s₁.setTop (mkF m 3 #[.val (.int p1)] [(.int (97 : Int32)), (.int p1)])) _
    by_cases h3 : p1 < (97 : Int32)
    · refine XS.icmpYes X0.here hx rfl (pc0 := 3) (pc' := 12) rfl (hb hby d1_3) rfl (tlt h3).1 (by decide) (by decide) ?_
      exact Bst_29 (hv0.trans (if_pos h3))
    · refine XS.icmpNo X0.here hx rfl (hb hby d1_3) rfl (flt h3).1 ?_
      exact Bst_30 (hv0.trans (if_neg h3))
  have pre1 : Steps p.tables e below _ (s₁.setFrames fs) := pre0.trans (Bst_31 h_v_st_0)
  refine ⟨_, _, pre1, hrun, hended, _, _, rfl, ?_, ⟨_, rfl⟩, hW, hsame.mono (by decide) (by decide)⟩
  exact ⟨by rw [h_v_st_0], N0, e0⟩
theorem d2_0 : decode method_2_code 0 = .ok (.iload_n 0, 1) := by decide +kernel
theorem d2_1 : decode method_2_code 1 = .ok (.ifCond .lt 9, 3) := by decide +kernel
theorem d2_4 : decode method_2_code 4 = .ok (.iload_n 0, 1) := by decide +kernel
theorem d2_5 : decode method_2_code 5 = .ok (.ldc 7, 2) := by decide +kernel
theorem d2_7 : decode method_2_code 7 = .ok (.if_icmp .le 5, 3) := by decide +kernel
theorem d2_10 : decode method_2_code 10 = .ok (.iconst 0, 1) := by decide +kernel
theorem d2_11 : decode method_2_code 11 = .ok (.ireturn, 1) := by decide +kernel
theorem d2_12 : decode method_2_code 12 = .ok (.iload_n 0, 1) := by decide +kernel
theorem d2_13 : decode method_2_code 13 = .ok (.ldc 8, 2) := by decide +kernel
theorem d2_15 : decode method_2_code 15 = .ok (.if_icmp .lt 5, 3) := by decide +kernel
theorem d2_18 : decode method_2_code 18 = .ok (.iconst 1, 1) := by decide +kernel
theorem d2_19 : decode method_2_code 19 = .ok (.ireturn, 1) := by decide +kernel
theorem d2_20 : decode method_2_code 20 = .ok (.iload_n 0, 1) := by decide +kernel
theorem d2_21 : decode method_2_code 21 = .ok (.sipush 128, 3) := by decide +kernel
theorem d2_24 : decode method_2_code 24 = .ok (.if_icmp .ge 32, 3) := by decide +kernel
theorem d2_27 : decode method_2_code 27 = .ok (.iload_n 0, 1) := by decide +kernel
theorem d2_28 : decode method_2_code 28 = .ok (.bipush 32, 2) := by decide +kernel
theorem d2_30 : decode method_2_code 30 = .ok (.ior, 1) := by decide +kernel
theorem d2_31 : decode method_2_code 31 = .ok (.istore_n 1, 1) := by decide +kernel
theorem d2_32 : decode method_2_code 32 = .ok (.iload_n 1, 1) := by decide +kernel
theorem d2_33 : decode method_2_code 33 = .ok (.bipush 97, 2) := by decide +kernel
theorem d2_35 : decode method_2_code 35 = .ok (.if_icmp .lt 9, 3) := by decide +kernel
theorem d2_38 : decode method_2_code 38 = .ok (.iload_n 1, 1) := by decide +kernel
theorem d2_39 : decode method_2_code 39 = .ok (.bipush 122, 2) := by decide +kernel
theorem d2_41 : decode method_2_code 41 = .ok (.if_icmp .le 9, 3) := by decide +kernel
theorem d2_44 : decode method_2_code 44 = .ok (.iload_n 0, 1) := by decide +kernel
theorem d2_45 : decode method_2_code 45 = .ok (.bipush 95, 2) := by decide +kernel
theorem d2_47 : decode method_2_code 47 = .ok (.if_icmp .ne 7, 3) := by decide +kernel
theorem d2_50 : decode method_2_code 50 = .ok (.iconst 1, 1) := by decide +kernel
theorem d2_51 : decode method_2_code 51 = .ok (.goto 4, 3) := by decide +kernel
theorem d2_54 : decode method_2_code 54 = .ok (.iconst 0, 1) := by decide +kernel
theorem d2_55 : decode method_2_code 55 = .ok (.ireturn, 1) := by decide +kernel
theorem d2_56 : decode method_2_code 56 = .ok (.iload_n 0, 1) := by decide +kernel
theorem d2_57 : decode method_2_code 57 = .ok (.sipush 192, 3) := by decide +kernel
theorem d2_60 : decode method_2_code 60 = .ok (.if_icmp .ge 5, 3) := by decide +kernel
theorem d2_63 : decode method_2_code 63 = .ok (.iconst 0, 1) := by decide +kernel
theorem d2_64 : decode method_2_code 64 = .ok (.ireturn, 1) := by decide +kernel
theorem d2_65 : decode method_2_code 65 = .ok (.iload_n 0, 1) := by decide +kernel
theorem d2_66 : decode method_2_code 66 = .ok (.sipush 767, 3) := by decide +kernel
theorem d2_69 : decode method_2_code 69 = .ok (.if_icmp .gt 23, 3) := by decide +kernel
theorem d2_72 : decode method_2_code 72 = .ok (.iload_n 0, 1) := by decide +kernel
theorem d2_73 : decode method_2_code 73 = .ok (.sipush 215, 3) := by decide +kernel
theorem d2_76 : decode method_2_code 76 = .ok (.if_icmp .eq 14, 3) := by decide +kernel
theorem d2_79 : decode method_2_code 79 = .ok (.iload_n 0, 1) := by decide +kernel
theorem d2_80 : decode method_2_code 80 = .ok (.sipush 247, 3) := by decide +kernel
theorem d2_83 : decode method_2_code 83 = .ok (.if_icmp .eq 7, 3) := by decide +kernel
theorem d2_86 : decode method_2_code 86 = .ok (.iconst 1, 1) := by decide +kernel
theorem d2_87 : decode method_2_code 87 = .ok (.goto 4, 3) := by decide +kernel
theorem d2_90 : decode method_2_code 90 = .ok (.iconst 0, 1) := by decide +kernel
theorem d2_91 : decode method_2_code 91 = .ok (.ireturn, 1) := by decide +kernel
theorem d2_92 : decode method_2_code 92 = .ok (.iload_n 0, 1) := by decide +kernel
theorem d2_93 : decode method_2_code 93 = .ok (.sipush 880, 3) := by decide +kernel
theorem d2_96 : decode method_2_code 96 = .ok (.if_icmp .ge 5, 3) := by decide +kernel
theorem d2_99 : decode method_2_code 99 = .ok (.iconst 0, 1) := by decide +kernel
theorem d2_100 : decode method_2_code 100 = .ok (.ireturn, 1) := by decide +kernel
theorem d2_101 : decode method_2_code 101 = .ok (.iload_n 0, 1) := by decide +kernel
theorem d2_102 : decode method_2_code 102 = .ok (.sipush 8191, 3) := by decide +kernel
theorem d2_105 : decode method_2_code 105 = .ok (.if_icmp .gt 16, 3) := by decide +kernel
theorem d2_108 : decode method_2_code 108 = .ok (.iload_n 0, 1) := by decide +kernel
theorem d2_109 : decode method_2_code 109 = .ok (.sipush 894, 3) := by decide +kernel
theorem d2_112 : decode method_2_code 112 = .ok (.if_icmp .eq 7, 3) := by decide +kernel
theorem d2_115 : decode method_2_code 115 = .ok (.iconst 1, 1) := by decide +kernel
theorem d2_116 : decode method_2_code 116 = .ok (.goto 4, 3) := by decide +kernel
theorem d2_119 : decode method_2_code 119 = .ok (.iconst 0, 1) := by decide +kernel
theorem d2_120 : decode method_2_code 120 = .ok (.ireturn, 1) := by decide +kernel
theorem d2_121 : decode method_2_code 121 = .ok (.iload_n 0, 1) := by decide +kernel
theorem d2_122 : decode method_2_code 122 = .ok (.sipush 8304, 3) := by decide +kernel
theorem d2_125 : decode method_2_code 125 = .ok (.if_icmp .ge 23, 3) := by decide +kernel
theorem d2_128 : decode method_2_code 128 = .ok (.iload_n 0, 1) := by decide +kernel
theorem d2_129 : decode method_2_code 129 = .ok (.sipush 8204, 3) := by decide +kernel
theorem d2_132 : decode method_2_code 132 = .ok (.if_icmp .eq 10, 3) := by decide +kernel
theorem d2_135 : decode method_2_code 135 = .ok (.iload_n 0, 1) := by decide +kernel
theorem d2_136 : decode method_2_code 136 = .ok (.sipush 8205, 3) := by decide +kernel
theorem d2_139 : decode method_2_code 139 = .ok (.if_icmp .ne 7, 3) := by decide +kernel
theorem d2_142 : decode method_2_code 142 = .ok (.iconst 1, 1) := by decide +kernel
theorem d2_143 : decode method_2_code 143 = .ok (.goto 4, 3) := by decide +kernel
theorem d2_146 : decode method_2_code 146 = .ok (.iconst 0, 1) := by decide +kernel
theorem d2_147 : decode method_2_code 147 = .ok (.ireturn, 1) := by decide +kernel
theorem d2_148 : decode method_2_code 148 = .ok (.iload_n 0, 1) := by decide +kernel
theorem d2_149 : decode method_2_code 149 = .ok (.sipush 8591, 3) := by decide +kernel
theorem d2_152 : decode method_2_code 152 = .ok (.if_icmp .gt 5, 3) := by decide +kernel
theorem d2_155 : decode method_2_code 155 = .ok (.iconst 1, 1) := by decide +kernel
theorem d2_156 : decode method_2_code 156 = .ok (.ireturn, 1) := by decide +kernel
theorem d2_157 : decode method_2_code 157 = .ok (.iload_n 0, 1) := by decide +kernel
theorem d2_158 : decode method_2_code 158 = .ok (.sipush 11264, 3) := by decide +kernel
theorem d2_161 : decode method_2_code 161 = .ok (.if_icmp .ge 5, 3) := by decide +kernel
theorem d2_164 : decode method_2_code 164 = .ok (.iconst 0, 1) := by decide +kernel
theorem d2_165 : decode method_2_code 165 = .ok (.ireturn, 1) := by decide +kernel
theorem d2_166 : decode method_2_code 166 = .ok (.iload_n 0, 1) := by decide +kernel
theorem d2_167 : decode method_2_code 167 = .ok (.sipush 12271, 3) := by decide +kernel
theorem d2_170 : decode method_2_code 170 = .ok (.if_icmp .gt 5, 3) := by decide +kernel
theorem d2_173 : decode method_2_code 173 = .ok (.iconst 1, 1) := by decide +kernel
theorem d2_174 : decode method_2_code 174 = .ok (.ireturn, 1) := by decide +kernel
theorem d2_175 : decode method_2_code 175 = .ok (.iload_n 0, 1) := by decide +kernel
theorem d2_176 : decode method_2_code 176 = .ok (.sipush 12288, 3) := by decide +kernel
theorem d2_179 : decode method_2_code 179 = .ok (.if_icmp .gt 5, 3) := by decide +kernel
theorem d2_182 : decode method_2_code 182 = .ok (.iconst 0, 1) := by decide +kernel
theorem d2_183 : decode method_2_code 183 = .ok (.ireturn, 1) := by decide +kernel
theorem d2_184 : decode method_2_code 184 = .ok (.iload_n 0, 1) := by decide +kernel
theorem d2_185 : decode method_2_code 185 = .ok (.ldc 9, 2) := by decide +kernel
theorem d2_187 : decode method_2_code 187 = .ok (.if_icmp .gt 5, 3) := by decide +kernel
theorem d2_190 : decode method_2_code 190 = .ok (.iconst 1, 1) := by decide +kernel
theorem d2_191 : decode method_2_code 191 = .ok (.ireturn, 1) := by decide +kernel
theorem d2_192 : decode method_2_code 192 = .ok (.iload_n 0, 1) := by decide +kernel
theorem d2_193 : decode method_2_code 193 = .ok (.ldc 10, 2) := by decide +kernel
theorem d2_195 : decode method_2_code 195 = .ok (.if_icmp .ge 5, 3) := by decide +kernel
theorem d2_198 : decode method_2_code 198 = .ok (.iconst 0, 1) := by decide +kernel
theorem d2_199 : decode method_2_code 199 = .ok (.ireturn, 1) := by decide +kernel
theorem d2_200 : decode method_2_code 200 = .ok (.iload_n 0, 1) := by decide +kernel
theorem d2_201 : decode method_2_code 201 = .ok (.ldc 11, 2) := by decide +kernel
theorem d2_203 : decode method_2_code 203 = .ok (.if_icmp .gt 5, 3) := by decide +kernel
theorem d2_206 : decode method_2_code 206 = .ok (.iconst 1, 1) := by decide +kernel
theorem d2_207 : decode method_2_code 207 = .ok (.ireturn, 1) := by decide +kernel
theorem d2_208 : decode method_2_code 208 = .ok (.iload_n 0, 1) := by decide +kernel
theorem d2_209 : decode method_2_code 209 = .ok (.ldc 12, 2) := by decide +kernel
theorem d2_211 : decode method_2_code 211 = .ok (.if_icmp .ge 5, 3) := by decide +kernel
theorem d2_214 : decode method_2_code 214 = .ok (.iconst 0, 1) := by decide +kernel
theorem d2_215 : decode method_2_code 215 = .ok (.ireturn, 1) := by decide +kernel
theorem d2_216 : decode method_2_code 216 = .ok (.iload_n 0, 1) := by decide +kernel
theorem d2_217 : decode method_2_code 217 = .ok (.ldc 13, 2) := by decide +kernel
theorem d2_219 : decode method_2_code 219 = .ok (.if_icmp .gt 7, 3) := by decide +kernel
theorem d2_222 : decode method_2_code 222 = .ok (.iconst 1, 1) := by decide +kernel
theorem d2_223 : decode method_2_code 223 = .ok (.goto 4, 3) := by decide +kernel
theorem d2_226 : decode method_2_code 226 = .ok (.iconst 0, 1) := by decide +kernel
theorem d2_227 : decode method_2_code 227 = .ok (.ireturn, 1) := by decide +kernel
theorem pn_rm2 : plainName "com/example/rulecast/rulecast/NamesIsNameStartCharPinLaw" = true := by first | (simp [plainName, overriddenIn]; done) | decide +kernel
theorem ef_rm2 (m : MethodId) (p1 : Int32) : entryFrame m #[(.int p1)] 2 = (mkF m 0 #[.val (.int p1), .unset] []) := by first | (simp [entryFrame, mkF, argsToLocals, Value.category]; done) | rfl
def own_rf_0_1 (p1 : Int32) : Int32 := (0 : Int32)
def own_rf_0_2 (p1 : Int32) : Int32 := (0 : Int32)
def own_rf_0_3 (p1 : Int32) : Int32 := (1 : Int32)
def own_rf_0_4 (p1 : Int32) : Int32 := if (65533 : Int32) < p1 then own_rf_0_2 p1 else own_rf_0_3 p1
def own_rf_0_5 (p1 : Int32) : Int32 := (0 : Int32)
def own_rf_0_6 (p1 : Int32) : Int32 := if p1 < (65008 : Int32) then own_rf_0_5 p1 else own_rf_0_4 p1
def own_rf_0_7 (p1 : Int32) : Int32 := (1 : Int32)
def own_rf_0_8 (p1 : Int32) : Int32 := if (64975 : Int32) < p1 then own_rf_0_6 p1 else own_rf_0_7 p1
def own_rf_0_9 (p1 : Int32) : Int32 := (0 : Int32)
def own_rf_0_10 (p1 : Int32) : Int32 := if p1 < (63744 : Int32) then own_rf_0_9 p1 else own_rf_0_8 p1
def own_rf_0_11 (p1 : Int32) : Int32 := (1 : Int32)
def own_rf_0_12 (p1 : Int32) : Int32 := if (55295 : Int32) < p1 then own_rf_0_10 p1 else own_rf_0_11 p1
def own_rf_0_13 (p1 : Int32) : Int32 := (0 : Int32)
def own_rf_0_14 (p1 : Int32) : Int32 := if (12288 : Int32) < p1 then own_rf_0_12 p1 else own_rf_0_13 p1
def own_rf_0_15 (p1 : Int32) : Int32 := (1 : Int32)
def own_rf_0_16 (p1 : Int32) : Int32 := if (12271 : Int32) < p1 then own_rf_0_14 p1 else own_rf_0_15 p1
def own_rf_0_17 (p1 : Int32) : Int32 := (0 : Int32)
def own_rf_0_18 (p1 : Int32) : Int32 := if p1 < (11264 : Int32) then own_rf_0_17 p1 else own_rf_0_16 p1
def own_rf_0_19 (p1 : Int32) : Int32 := (1 : Int32)
def own_rf_0_20 (p1 : Int32) : Int32 := if (8591 : Int32) < p1 then own_rf_0_18 p1 else own_rf_0_19 p1
def own_rf_0_21 (p1 : Int32) : Int32 := (1 : Int32)
def own_rf_0_22 (p1 : Int32) : Int32 := (0 : Int32)
def own_rf_0_23 (p1 : Int32) : Int32 := if p1 = (8205 : Int32) then own_rf_0_21 p1 else own_rf_0_22 p1
def own_rf_0_24 (p1 : Int32) : Int32 := if p1 = (8204 : Int32) then own_rf_0_21 p1 else own_rf_0_23 p1
def own_rf_0_25 (p1 : Int32) : Int32 := if p1 < (8304 : Int32) then own_rf_0_24 p1 else own_rf_0_20 p1
def own_rf_0_26 (p1 : Int32) : Int32 := (0 : Int32)
def own_rf_0_27 (p1 : Int32) : Int32 := (1 : Int32)
def own_rf_0_28 (p1 : Int32) : Int32 := if p1 = (894 : Int32) then own_rf_0_26 p1 else own_rf_0_27 p1
def own_rf_0_29 (p1 : Int32) : Int32 := if (8191 : Int32) < p1 then own_rf_0_25 p1 else own_rf_0_28 p1
def own_rf_0_30 (p1 : Int32) : Int32 := (0 : Int32)
def own_rf_0_31 (p1 : Int32) : Int32 := if p1 < (880 : Int32) then own_rf_0_30 p1 else own_rf_0_29 p1
def own_rf_0_32 (p1 : Int32) : Int32 := (0 : Int32)
def own_rf_0_33 (p1 : Int32) : Int32 := (1 : Int32)
def own_rf_0_34 (p1 : Int32) : Int32 := if p1 = (247 : Int32) then own_rf_0_32 p1 else own_rf_0_33 p1
def own_rf_0_35 (p1 : Int32) : Int32 := if p1 = (215 : Int32) then own_rf_0_32 p1 else own_rf_0_34 p1
def own_rf_0_36 (p1 : Int32) : Int32 := if (767 : Int32) < p1 then own_rf_0_31 p1 else own_rf_0_35 p1
def own_rf_0_37 (p1 : Int32) : Int32 := (0 : Int32)
def own_rf_0_38 (p1 : Int32) : Int32 := if p1 < (192 : Int32) then own_rf_0_37 p1 else own_rf_0_36 p1
def own_rf_0_39 (p1 : Int32) : Int32 := (0 : Int32)
def own_rf_0_40 (p1 : Int32) : Int32 := (1 : Int32)
def own_rf_0_41 (p1 : Int32) : Int32 := if p1 = (95 : Int32) then own_rf_0_40 p1 else own_rf_0_39 p1
def own_rf_0_42 (p1 : Int32) : Int32 := if (122 : Int32) < (p1 ||| (32 : Int32)) then own_rf_0_41 p1 else own_rf_0_40 p1
def own_rf_0_43 (p1 : Int32) : Int32 := if (p1 ||| (32 : Int32)) < (97 : Int32) then own_rf_0_41 p1 else own_rf_0_42 p1
def own_rf_0_44 (p1 : Int32) : Int32 := if p1 < (128 : Int32) then own_rf_0_43 p1 else own_rf_0_38 p1
def own_rf_0_45 (p1 : Int32) : Int32 := (1 : Int32)
def own_rf_0_46 (p1 : Int32) : Int32 := if p1 < (65536 : Int32) then own_rf_0_44 p1 else own_rf_0_45 p1
def own_rf_0_47 (p1 : Int32) : Int32 := if (983039 : Int32) < p1 then own_rf_0_1 p1 else own_rf_0_46 p1
def own_rf_0_48 (p1 : Int32) : Int32 := if p1 < (0 : Int32) then own_rf_0_1 p1 else own_rf_0_47 p1
def Q_rm2 (Z : State) (p1 : Int32)  (h0 : Heap) (n0 : Nat) (v : Option Value) (h : Heap) (L : List Loc) : Prop := v = some (.int (own_rf_0_48 p1)) ∧ Fr n0 L ∧ h = h0
set_option maxRecDepth 65536 in
set_option maxHeartbeats 40000000 in
theorem rm2 (l : Launch) (Z : State) (a0 : Array Value) (hw : ∀ d ∈ tables_1, d.before a0 Z = true) (ws : List Jvm.Cond) (p1 : Int32)  (h0 : Heap) (n0 : Nat) (Z0 : n0 ≤ h0.size)  :
    MetFree l (⟨"com/example/rulecast/rulecast/NamesIsNameStartCharPinLaw", "ref", "(I)Z"⟩ : MethodName) (head1 (Jvm.Cond.code (⟨"com/example/rulecast/rulecast/NamesIsNameStartCharPinLaw", "ref", "(I)Z"⟩ : MethodName) method_2_code 2 (some .boolean) :: ws) ({ frames := 0, cells := 0, slots := 0, locals := 0 } : Room)) (fun a U => a = #[(.int p1)] ∧ Z.Warmed39 U.vm ∧ U.heap = h0) (fun _ _ _ _ _ => True) (fun _ U o U' => ∃ v L, o = .returned v ∧ Q_rm2 Z p1 h0 n0 v U'.heap L ∧ FrameEnd U o U' L ({ frames := 0, cells := 0, slots := 0, locals := 0 } : Room).cells ({ frames := 0, cells := 0, slots := 0, locals := 0 } : Room).slots) := by
  refine MetFree.of_bodySF (plainFor_of_name pn_rm2) hisR ?_
  intro p e s m args below meth c s₁ Bd hml0 hP hK
  obtain ⟨rfl, hZ, hh⟩ := hP
  have hx := Bd.exec
  have hby := Bd.bytes
  have hml : c.maxLocals = 2 := hml0
  have hown : s.vm.findClass "com/example/rulecast/rulecast/NamesIsNameStartCharPinLaw" = some m.cls := findClass_of_methodNamed Bd.named
  have hnm := (name_of_methodNamed Bd.named Bd.method).1
  have X0 : Stand p l e ({ frames := 0, cells := 0, slots := 0, locals := 0 } : Room) s m #[(.int p1)] below meth c s₁ [] 0 0 := Stand.of_body Bd
  have e0 : s₁.heap = h0 := by rw [← hh, Bd.state]; rfl
  have N0 := Fr.nil n0
  have pre0 : Steps p.tables e below (s₁.setTop (entryFrame m #[(.int p1)] 2)) (s₁.setTop (mkF m 0 #[.val (.int p1), .unset] [])) := castTop (ef_rm2 m p1) (Steps.refl _)
  obtain ⟨v_rf_0, h_v_rf_0⟩ : ∃ z, z = own_rf_0_48 p1 := ⟨_, rfl⟩
  obtain ⟨fs, hr, hrun, hended, hW, hsame⟩ := X0.leave (v := some (.int v_rf_0)) (fun h => by rw [Bd.returns] at h; cases h)
  have Brf_1 (hv0 : v_rf_0 = own_rf_0_1 p1) : Steps p.tables e below (s₁.setTop (mkF m 10 #[.val (.int p1), .unset] [])) (s₁.setFrames fs) := by
    have hw0 : v_rf_0 = (0 : Int32) := hv0
    rw [hw0] at hr
    show Steps p.tables e below (s₁.setTop (mkF m 10 #[.val (.int p1), .unset] [])) _
    refine XS.iconst X0.here hx rfl (hb hby d2_10) ?_
    show Steps p.tables e below (s₁.setTop (mkF m 11 #[.val (.int p1), .unset] [(.int (0 : Int32))])) _
    exact retN X0 hx (t := .boolean) Bd.returns (by simp) (hb hby d2_11) hr
  have Brf_2 (hv0 : v_rf_0 = own_rf_0_2 p1) : Steps p.tables e below (s₁.setTop (mkF m 226 #[.val (.int p1), .unset] [])) (s₁.setFrames fs) := by
    have hw0 : v_rf_0 = (0 : Int32) := hv0
    rw [hw0] at hr
    show Steps p.tables e below (s₁.setTop (mkF m 226 #[.val (.int p1), .unset] [])) _
    refine XS.iconst X0.here hx rfl (hb hby d2_226) ?_
    show Steps p.tables e below (s₁.setTop (mkF m 227 #[.val (.int p1), .unset] [(.int (0 : Int32))])) _
    exact retN X0 hx (t := .boolean) Bd.returns (by simp) (hb hby d2_227) hr
  have Brf_3 (hv0 : v_rf_0 = own_rf_0_3 p1) : Steps p.tables e below (s₁.setTop (mkF m 222 #[.val (.int p1), .unset] [])) (s₁.setFrames fs) := by
    have hw0 : v_rf_0 = (1 : Int32) := hv0
    rw [hw0] at hr
    show Steps p.tables e below (s₁.setTop (mkF m 222 #[.val (.int p1), .unset] [])) _
    refine XS.iconst X0.here hx rfl (hb hby d2_222) ?_
    show Steps p.tables e below (s₁.setTop (mkF m 223 #[.val (.int p1), .unset] [(.int (1 : Int32))])) _
    refine XS.goto X0.here hx rfl (pc0 := 223) (pc' := 227) rfl (hb hby d2_223) (by decide) (by decide) ?_
    show Steps p.tables e below (s₁.setTop (mkF m 227 #[.val (.int p1), .unset] [(.int (1 : Int32))])) _
    exact retN X0 hx (t := .boolean) Bd.returns (by simp) (hb hby d2_227) hr
  have Brf_4 (hv0 : v_rf_0 = own_rf_0_4 p1) : Steps p.tables e below (s₁.setTop (mkF m 216 #[.val (.int p1), .unset] [])) (s₁.setFrames fs) := by
    show Steps p.tables e below (s₁.setTop (mkF m 216 #[.val (.int p1), .unset] [])) _
    refine XS.iloadN X0.here hx rfl (hb hby d2_216) rfl ?_
    show Steps p.tables e below (s₁.setTop (mkF m 217 #[.val (.int p1), .unset] [(.int p1)])) _
    refine X0.ldcInt hx hown (mvT hZ (hw _ (List.mem_of_getElem? (i := 5) rfl))) (g := (mkF m 217 #[.val (.int p1), .unset] [(.int p1)])) rfl (hb hby d2_217) _ ?_
    show Steps p.tables e below (s₁.setTop (mkF m 219 #[.val (.int p1), .unset] [(.int (65533 : Int32)), (.int p1)])) _
    by_cases h219 : (65533 : Int32) < p1
    · refine XS.icmpYes X0.here hx rfl (pc0 := 219) (pc' := 226) rfl (hb hby d2_219) rfl (tlt h219).2.2.1 (by decide) (by decide) ?_
      exact Brf_2 (hv0.trans (if_pos h219))
    · refine XS.icmpNo X0.here hx rfl (hb hby d2_219) rfl (flt h219).2.2.1 ?_
      exact Brf_3 (hv0.trans (if_neg h219))
  have Brf_5 (hv0 : v_rf_0 = own_rf_0_5 p1) : Steps p.tables e below (s₁.setTop (mkF m 214 #[.val (.int p1), .unset] [])) (s₁.setFrames fs) := by
    have hw0 : v_rf_0 = (0 : Int32) := hv0
    rw [hw0] at hr
    show Steps p.tables e below (s₁.setTop (mkF m 214 #[.val (.int p1), .unset] [])) _
    refine XS.iconst X0.here hx rfl (hb hby d2_214) ?_
    show Steps p.tables e below (s₁.setTop (mkF m 215 #[.val (.int p1), .unset] [(.int (0 : Int32))])) _
    exact retN X0 hx (t := .boolean) Bd.returns (by simp) (hb hby d2_215) hr
  have Brf_6 (hv0 : v_rf_0 = own_rf_0_6 p1) : Steps p.tables e below (s₁.setTop (mkF m 208 #[.val (.int p1), .unset] [])) (s₁.setFrames fs) := by
    show Steps p.tables e below (s₁.setTop (mkF m 208 #[.val (.int p1), .unset] [])) _
    refine XS.iloadN X0.here hx rfl (hb hby d2_208) rfl ?_
    show Steps p.tables e below (s₁.setTop (mkF m 209 #[.val (.int p1), .unset] [(.int p1)])) _
    refine X0.ldcInt hx hown (mvT hZ (hw _ (List.mem_of_getElem? (i := 4) rfl))) (g := (mkF m 209 #[.val (.int p1), .unset] [(.int p1)])) rfl (hb hby d2_209) _ ?_
    show Steps p.tables e below (s₁.setTop (mkF m 211 #[.val (.int p1), .unset] [(.int (65008 : Int32)), (.int p1)])) _
    by_cases h211 : p1 < (65008 : Int32)
    · refine XS.icmpNo X0.here hx rfl (hb hby d2_211) rfl (tlt h211).2.1 ?_
      exact Brf_5 (hv0.trans (if_pos h211))
    · refine XS.icmpYes X0.here hx rfl (pc0 := 211) (pc' := 216) rfl (hb hby d2_211) rfl (flt h211).2.1 (by decide) (by decide) ?_
      exact Brf_4 (hv0.trans (if_neg h211))
  have Brf_7 (hv0 : v_rf_0 = own_rf_0_7 p1) : Steps p.tables e below (s₁.setTop (mkF m 206 #[.val (.int p1), .unset] [])) (s₁.setFrames fs) := by
    have hw0 : v_rf_0 = (1 : Int32) := hv0
    rw [hw0] at hr
    show Steps p.tables e below (s₁.setTop (mkF m 206 #[.val (.int p1), .unset] [])) _
    refine XS.iconst X0.here hx rfl (hb hby d2_206) ?_
    show Steps p.tables e below (s₁.setTop (mkF m 207 #[.val (.int p1), .unset] [(.int (1 : Int32))])) _
    exact retN X0 hx (t := .boolean) Bd.returns (by simp) (hb hby d2_207) hr
  have Brf_8 (hv0 : v_rf_0 = own_rf_0_8 p1) : Steps p.tables e below (s₁.setTop (mkF m 200 #[.val (.int p1), .unset] [])) (s₁.setFrames fs) := by
    show Steps p.tables e below (s₁.setTop (mkF m 200 #[.val (.int p1), .unset] [])) _
    refine XS.iloadN X0.here hx rfl (hb hby d2_200) rfl ?_
    show Steps p.tables e below (s₁.setTop (mkF m 201 #[.val (.int p1), .unset] [(.int p1)])) _
    refine X0.ldcInt hx hown (mvT hZ (hw _ (List.mem_of_getElem? (i := 3) rfl))) (g := (mkF m 201 #[.val (.int p1), .unset] [(.int p1)])) rfl (hb hby d2_201) _ ?_
    show Steps p.tables e below (s₁.setTop (mkF m 203 #[.val (.int p1), .unset] [(.int (64975 : Int32)), (.int p1)])) _
    by_cases h203 : (64975 : Int32) < p1
    · refine XS.icmpYes X0.here hx rfl (pc0 := 203) (pc' := 208) rfl (hb hby d2_203) rfl (tlt h203).2.2.1 (by decide) (by decide) ?_
      exact Brf_6 (hv0.trans (if_pos h203))
    · refine XS.icmpNo X0.here hx rfl (hb hby d2_203) rfl (flt h203).2.2.1 ?_
      exact Brf_7 (hv0.trans (if_neg h203))
  have Brf_9 (hv0 : v_rf_0 = own_rf_0_9 p1) : Steps p.tables e below (s₁.setTop (mkF m 198 #[.val (.int p1), .unset] [])) (s₁.setFrames fs) := by
    have hw0 : v_rf_0 = (0 : Int32) := hv0
    rw [hw0] at hr
    show Steps p.tables e below (s₁.setTop (mkF m 198 #[.val (.int p1), .unset] [])) _
    refine XS.iconst X0.here hx rfl (hb hby d2_198) ?_
    show Steps p.tables e below (s₁.setTop (mkF m 199 #[.val (.int p1), .unset] [(.int (0 : Int32))])) _
    exact retN X0 hx (t := .boolean) Bd.returns (by simp) (hb hby d2_199) hr
  have Brf_10 (hv0 : v_rf_0 = own_rf_0_10 p1) : Steps p.tables e below (s₁.setTop (mkF m 192 #[.val (.int p1), .unset] [])) (s₁.setFrames fs) := by
    show Steps p.tables e below (s₁.setTop (mkF m 192 #[.val (.int p1), .unset] [])) _
    refine XS.iloadN X0.here hx rfl (hb hby d2_192) rfl ?_
    show Steps p.tables e below (s₁.setTop (mkF m 193 #[.val (.int p1), .unset] [(.int p1)])) _
    refine X0.ldcInt hx hown (mvT hZ (hw _ (List.mem_of_getElem? (i := 2) rfl))) (g := (mkF m 193 #[.val (.int p1), .unset] [(.int p1)])) rfl (hb hby d2_193) _ ?_
    show Steps p.tables e below (s₁.setTop (mkF m 195 #[.val (.int p1), .unset] [(.int (63744 : Int32)), (.int p1)])) _
    by_cases h195 : p1 < (63744 : Int32)
    · refine XS.icmpNo X0.here hx rfl (hb hby d2_195) rfl (tlt h195).2.1 ?_
      exact Brf_9 (hv0.trans (if_pos h195))
    · refine XS.icmpYes X0.here hx rfl (pc0 := 195) (pc' := 200) rfl (hb hby d2_195) rfl (flt h195).2.1 (by decide) (by decide) ?_
      exact Brf_8 (hv0.trans (if_neg h195))
  have Brf_11 (hv0 : v_rf_0 = own_rf_0_11 p1) : Steps p.tables e below (s₁.setTop (mkF m 190 #[.val (.int p1), .unset] [])) (s₁.setFrames fs) := by
    have hw0 : v_rf_0 = (1 : Int32) := hv0
    rw [hw0] at hr
    show Steps p.tables e below (s₁.setTop (mkF m 190 #[.val (.int p1), .unset] [])) _
    refine XS.iconst X0.here hx rfl (hb hby d2_190) ?_
    show Steps p.tables e below (s₁.setTop (mkF m 191 #[.val (.int p1), .unset] [(.int (1 : Int32))])) _
    exact retN X0 hx (t := .boolean) Bd.returns (by simp) (hb hby d2_191) hr
  have Brf_12 (hv0 : v_rf_0 = own_rf_0_12 p1) : Steps p.tables e below (s₁.setTop (mkF m 184 #[.val (.int p1), .unset] [])) (s₁.setFrames fs) := by
    show Steps p.tables e below (s₁.setTop (mkF m 184 #[.val (.int p1), .unset] [])) _
    refine XS.iloadN X0.here hx rfl (hb hby d2_184) rfl ?_
    show Steps p.tables e below (s₁.setTop (mkF m 185 #[.val (.int p1), .unset] [(.int p1)])) _
    refine X0.ldcInt hx hown (mvT hZ (hw _ (List.mem_of_getElem? (i := 1) rfl))) (g := (mkF m 185 #[.val (.int p1), .unset] [(.int p1)])) rfl (hb hby d2_185) _ ?_
    show Steps p.tables e below (s₁.setTop (mkF m 187 #[.val (.int p1), .unset] [(.int (55295 : Int32)), (.int p1)])) _
    by_cases h187 : (55295 : Int32) < p1
    · refine XS.icmpYes X0.here hx rfl (pc0 := 187) (pc' := 192) rfl (hb hby d2_187) rfl (tlt h187).2.2.1 (by decide) (by decide) ?_
      exact Brf_10 (hv0.trans (if_pos h187))
    · refine XS.icmpNo X0.here hx rfl (hb hby d2_187) rfl (flt h187).2.2.1 ?_
      exact Brf_11 (hv0.trans (if_neg h187))
  have Brf_13 (hv0 : v_rf_0 = own_rf_0_13 p1) : Steps p.tables e below (s₁.setTop (mkF m 182 #[.val (.int p1), .unset] [])) (s₁.setFrames fs) := by
    have hw0 : v_rf_0 = (0 : Int32) := hv0
    rw [hw0] at hr
    show Steps p.tables e below (s₁.setTop (mkF m 182 #[.val (.int p1), .unset] [])) _
    refine XS.iconst X0.here hx rfl (hb hby d2_182) ?_
    show Steps p.tables e below (s₁.setTop (mkF m 183 #[.val (.int p1), .unset] [(.int (0 : Int32))])) _
    exact retN X0 hx (t := .boolean) Bd.returns (by simp) (hb hby d2_183) hr
  have Brf_14 (hv0 : v_rf_0 = own_rf_0_14 p1) : Steps p.tables e below (s₁.setTop (mkF m 175 #[.val (.int p1), .unset] [])) (s₁.setFrames fs) := by
    show Steps p.tables e below (s₁.setTop (mkF m 175 #[.val (.int p1), .unset] [])) _
    refine XS.iloadN X0.here hx rfl (hb hby d2_175) rfl ?_
    show Steps p.tables e below (s₁.setTop (mkF m 176 #[.val (.int p1), .unset] [(.int p1)])) _
    refine XS.sipush X0.here hx rfl (hb hby d2_176) ?_
    show Steps p.tables e below (s₁.setTop (mkF m 179 #[.val (.int p1), .unset] [(.int (12288 : Int32)), (.int p1)])) _
    by_cases h179 : (12288 : Int32) < p1
    · refine XS.icmpYes X0.here hx rfl (pc0 := 179) (pc' := 184) rfl (hb hby d2_179) rfl (tlt h179).2.2.1 (by decide) (by decide) ?_
      exact Brf_12 (hv0.trans (if_pos h179))
    · refine XS.icmpNo X0.here hx rfl (hb hby d2_179) rfl (flt h179).2.2.1 ?_
      exact Brf_13 (hv0.trans (if_neg h179))
  have Brf_15 (hv0 : v_rf_0 = own_rf_0_15 p1) : Steps p.tables e below (s₁.setTop (mkF m 173 #[.val (.int p1), .unset] [])) (s₁.setFrames fs) := by
    have hw0 : v_rf_0 = (1 : Int32) := hv0
    rw [hw0] at hr
    show Steps p.tables e below (s₁.setTop (mkF m 173 #[.val (.int p1), .unset] [])) _
    refine XS.iconst X0.here hx rfl (hb hby d2_173) ?_
    show Steps p.tables e below (s₁.setTop (mkF m 174 #[.val (.int p1), .unset] [(.int (1 : Int32))])) _
    exact retN X0 hx (t := .boolean) Bd.returns (by simp) (hb hby d2_174) hr
  have Brf_16 (hv0 : v_rf_0 = own_rf_0_16 p1) : Steps p.tables e below (s₁.setTop (mkF m 166 #[.val (.int p1), .unset] [])) (s₁.setFrames fs) := by
    show Steps p.tables e below (s₁.setTop (mkF m 166 #[.val (.int p1), .unset] [])) _
    refine XS.iloadN X0.here hx rfl (hb hby d2_166) rfl ?_
    show Steps p.tables e below (s₁.setTop (mkF m 167 #[.val (.int p1), .unset] [(.int p1)])) _
    refine XS.sipush X0.here hx rfl (hb hby d2_167) ?_
    show Steps p.tables e below (s₁.setTop (mkF m 170 #[.val (.int p1), .unset] [(.int (12271 : Int32)), (.int p1)])) _
    by_cases h170 : (12271 : Int32) < p1
    · refine XS.icmpYes X0.here hx rfl (pc0 := 170) (pc' := 175) rfl (hb hby d2_170) rfl (tlt h170).2.2.1 (by decide) (by decide) ?_
      exact Brf_14 (hv0.trans (if_pos h170))
    · refine XS.icmpNo X0.here hx rfl (hb hby d2_170) rfl (flt h170).2.2.1 ?_
      exact Brf_15 (hv0.trans (if_neg h170))
  have Brf_17 (hv0 : v_rf_0 = own_rf_0_17 p1) : Steps p.tables e below (s₁.setTop (mkF m 164 #[.val (.int p1), .unset] [])) (s₁.setFrames fs) := by
    have hw0 : v_rf_0 = (0 : Int32) := hv0
    rw [hw0] at hr
    show Steps p.tables e below (s₁.setTop (mkF m 164 #[.val (.int p1), .unset] [])) _
    refine XS.iconst X0.here hx rfl (hb hby d2_164) ?_
    show Steps p.tables e below (s₁.setTop (mkF m 165 #[.val (.int p1), .unset] [(.int (0 : Int32))])) _
    exact retN X0 hx (t := .boolean) Bd.returns (by simp) (hb hby d2_165) hr
  have Brf_18 (hv0 : v_rf_0 = own_rf_0_18 p1) : Steps p.tables e below (s₁.setTop (mkF m 157 #[.val (.int p1), .unset] [])) (s₁.setFrames fs) := by
    show Steps p.tables e below (s₁.setTop (mkF m 157 #[.val (.int p1), .unset] [])) _
    refine XS.iloadN X0.here hx rfl (hb hby d2_157) rfl ?_
    show Steps p.tables e below (s₁.setTop (mkF m 158 #[.val (.int p1), .unset] [(.int p1)])) _
    refine XS.sipush X0.here hx rfl (hb hby d2_158) ?_
    show Steps p.tables e below (s₁.setTop (mkF m 161 #[.val (.int p1), .unset] [(.int (11264 : Int32)), (.int p1)])) _
    by_cases h161 : p1 < (11264 : Int32)
    · refine XS.icmpNo X0.here hx rfl (hb hby d2_161) rfl (tlt h161).2.1 ?_
      exact Brf_17 (hv0.trans (if_pos h161))
    · refine XS.icmpYes X0.here hx rfl (pc0 := 161) (pc' := 166) rfl (hb hby d2_161) rfl (flt h161).2.1 (by decide) (by decide) ?_
      exact Brf_16 (hv0.trans (if_neg h161))
  have Brf_19 (hv0 : v_rf_0 = own_rf_0_19 p1) : Steps p.tables e below (s₁.setTop (mkF m 155 #[.val (.int p1), .unset] [])) (s₁.setFrames fs) := by
    have hw0 : v_rf_0 = (1 : Int32) := hv0
    rw [hw0] at hr
    show Steps p.tables e below (s₁.setTop (mkF m 155 #[.val (.int p1), .unset] [])) _
    refine XS.iconst X0.here hx rfl (hb hby d2_155) ?_
    show Steps p.tables e below (s₁.setTop (mkF m 156 #[.val (.int p1), .unset] [(.int (1 : Int32))])) _
    exact retN X0 hx (t := .boolean) Bd.returns (by simp) (hb hby d2_156) hr
  have Brf_20 (hv0 : v_rf_0 = own_rf_0_20 p1) : Steps p.tables e below (s₁.setTop (mkF m 148 #[.val (.int p1), .unset] [])) (s₁.setFrames fs) := by
    show Steps p.tables e below (s₁.setTop (mkF m 148 #[.val (.int p1), .unset] [])) _
    refine XS.iloadN X0.here hx rfl (hb hby d2_148) rfl ?_
    show Steps p.tables e below (s₁.setTop (mkF m 149 #[.val (.int p1), .unset] [(.int p1)])) _
    refine XS.sipush X0.here hx rfl (hb hby d2_149) ?_
    show Steps p.tables e below (s₁.setTop (mkF m 152 #[.val (.int p1), .unset] [(.int (8591 : Int32)), (.int p1)])) _
    by_cases h152 : (8591 : Int32) < p1
    · refine XS.icmpYes X0.here hx rfl (pc0 := 152) (pc' := 157) rfl (hb hby d2_152) rfl (tlt h152).2.2.1 (by decide) (by decide) ?_
      exact Brf_18 (hv0.trans (if_pos h152))
    · refine XS.icmpNo X0.here hx rfl (hb hby d2_152) rfl (flt h152).2.2.1 ?_
      exact Brf_19 (hv0.trans (if_neg h152))
  have Brf_21 (hv0 : v_rf_0 = own_rf_0_21 p1) : Steps p.tables e below (s₁.setTop (mkF m 142 #[.val (.int p1), .unset] [])) (s₁.setFrames fs) := by
    have hw0 : v_rf_0 = (1 : Int32) := hv0
    rw [hw0] at hr
    show Steps p.tables e below (s₁.setTop (mkF m 142 #[.val (.int p1), .unset] [])) _
    refine XS.iconst X0.here hx rfl (hb hby d2_142) ?_
    show Steps p.tables e below (s₁.setTop (mkF m 143 #[.val (.int p1), .unset] [(.int (1 : Int32))])) _
    refine XS.goto X0.here hx rfl (pc0 := 143) (pc' := 147) rfl (hb hby d2_143) (by decide) (by decide) ?_
    show Steps p.tables e below (s₁.setTop (mkF m 147 #[.val (.int p1), .unset] [(.int (1 : Int32))])) _
    exact retN X0 hx (t := .boolean) Bd.returns (by simp) (hb hby d2_147) hr
  have Brf_22 (hv0 : v_rf_0 = own_rf_0_22 p1) : Steps p.tables e below (s₁.setTop (mkF m 146 #[.val (.int p1), .unset] [])) (s₁.setFrames fs) := by
    have hw0 : v_rf_0 = (0 : Int32) := hv0
    rw [hw0] at hr
    show Steps p.tables e below (s₁.setTop (mkF m 146 #[.val (.int p1), .unset] [])) _
    refine XS.iconst X0.here hx rfl (hb hby d2_146) ?_
    show Steps p.tables e below (s₁.setTop (mkF m 147 #[.val (.int p1), .unset] [(.int (0 : Int32))])) _
    exact retN X0 hx (t := .boolean) Bd.returns (by simp) (hb hby d2_147) hr
  have Brf_23 (hv0 : v_rf_0 = own_rf_0_23 p1) : Steps p.tables e below (s₁.setTop (mkF m 135 #[.val (.int p1), .unset] [])) (s₁.setFrames fs) := by
    show Steps p.tables e below (s₁.setTop (mkF m 135 #[.val (.int p1), .unset] [])) _
    refine XS.iloadN X0.here hx rfl (hb hby d2_135) rfl ?_
    show Steps p.tables e below (s₁.setTop (mkF m 136 #[.val (.int p1), .unset] [(.int p1)])) _
    refine XS.sipush X0.here hx rfl (hb hby d2_136) ?_
    show Steps p.tables e below (s₁.setTop (mkF m 139 #[.val (.int p1), .unset] [(.int (8205 : Int32)), (.int p1)])) _
    by_cases h139 : p1 = (8205 : Int32)
    · refine XS.icmpNo X0.here hx rfl (hb hby d2_139) rfl (teq h139).2 ?_
      exact Brf_21 (hv0.trans (if_pos h139))
    · refine XS.icmpYes X0.here hx rfl (pc0 := 139) (pc' := 146) rfl (hb hby d2_139) rfl (feq h139).2 (by decide) (by decide) ?_
      exact Brf_22 (hv0.trans (if_neg h139))
  have Brf_24 (hv0 : v_rf_0 = own_rf_0_24 p1) : Steps p.tables e below (s₁.setTop (mkF m 128 #[.val (.int p1), .unset] [])) (s₁.setFrames fs) := by
    show Steps p.tables e below (s₁.setTop (mkF m 128 #[.val (.int p1), .unset] [])) _
    refine XS.iloadN X0.here hx rfl (hb hby d2_128) rfl ?_
    show Steps p.tables e below (s₁.setTop (mkF m 129 #[.val (.int p1), .unset] [(.int p1)])) _
    refine XS.sipush X0.here hx rfl (hb hby d2_129) ?_
    show Steps p.tables e below (s₁.setTop (mkF m 132 #[.val (.int p1), .unset] [(.int (8204 : Int32)), (.int p1)])) _
    by_cases h132 : p1 = (8204 : Int32)
    · refine XS.icmpYes X0.here hx rfl (pc0 := 132) (pc' := 142) rfl (hb hby d2_132) rfl (teq h132).1 (by decide) (by decide) ?_
      exact Brf_21 (hv0.trans (if_pos h132))
    · refine XS.icmpNo X0.here hx rfl (hb hby d2_132) rfl (feq h132).1 ?_
      exact Brf_23 (hv0.trans (if_neg h132))
  have Brf_25 (hv0 : v_rf_0 = own_rf_0_25 p1) : Steps p.tables e below (s₁.setTop (mkF m 121 #[.val (.int p1), .unset] [])) (s₁.setFrames fs) := by
    show Steps p.tables e below (s₁.setTop (mkF m 121 #[.val (.int p1), .unset] [])) _
    refine XS.iloadN X0.here hx rfl (hb hby d2_121) rfl ?_
    show Steps p.tables e below (s₁.setTop (mkF m 122 #[.val (.int p1), .unset] [(.int p1)])) _
    refine XS.sipush X0.here hx rfl (hb hby d2_122) ?_
    show Steps p.tables e below (s₁.setTop (mkF m 125 #[.val (.int p1), .unset] [(.int (8304 : Int32)), (.int p1)])) _
    by_cases h125 : p1 < (8304 : Int32)
    · refine XS.icmpNo X0.here hx rfl (hb hby d2_125) rfl (tlt h125).2.1 ?_
      exact Brf_24 (hv0.trans (if_pos h125))
    · refine XS.icmpYes X0.here hx rfl (pc0 := 125) (pc' := 148) rfl (hb hby d2_125) rfl (flt h125).2.1 (by decide) (by decide) ?_
      exact Brf_20 (hv0.trans (if_neg h125))
  have Brf_26 (hv0 : v_rf_0 = own_rf_0_26 p1) : Steps p.tables e below (s₁.setTop (mkF m 119 #[.val (.int p1), .unset] [])) (s₁.setFrames fs) := by
    have hw0 : v_rf_0 = (0 : Int32) := hv0
    rw [hw0] at hr
    show Steps p.tables e below (s₁.setTop (mkF m 119 #[.val (.int p1), .unset] [])) _
    refine XS.iconst X0.here hx rfl (hb hby d2_119) ?_
    show Steps p.tables e below (s₁.setTop (mkF m 120 #[.val (.int p1), .unset] [(.int (0 : Int32))])) _
    exact retN X0 hx (t := .boolean) Bd.returns (by simp) (hb hby d2_120) hr
  have Brf_27 (hv0 : v_rf_0 = own_rf_0_27 p1) : Steps p.tables e below (s₁.setTop (mkF m 115 #[.val (.int p1), .unset] [])) (s₁.setFrames fs) := by
    have hw0 : v_rf_0 = (1 : Int32) := hv0
    rw [hw0] at hr
    show Steps p.tables e below (s₁.setTop (mkF m 115 #[.val (.int p1), .unset] [])) _
    refine XS.iconst X0.here hx rfl (hb hby d2_115) ?_
    show Steps p.tables e below (s₁.setTop (mkF m 116 #[.val (.int p1), .unset] [(.int (1 : Int32))])) _
    refine XS.goto X0.here hx rfl (pc0 := 116) (pc' := 120) rfl (hb hby d2_116) (by decide) (by decide) ?_
    show Steps p.tables e below (s₁.setTop (mkF m 120 #[.val (.int p1), .unset] [(.int (1 : Int32))])) _
    exact retN X0 hx (t := .boolean) Bd.returns (by simp) (hb hby d2_120) hr
  have Brf_28 (hv0 : v_rf_0 = own_rf_0_28 p1) : Steps p.tables e below (s₁.setTop (mkF m 108 #[.val (.int p1), .unset] [])) (s₁.setFrames fs) := by
    show Steps p.tables e below (s₁.setTop (mkF m 108 #[.val (.int p1), .unset] [])) _
    refine XS.iloadN X0.here hx rfl (hb hby d2_108) rfl ?_
    show Steps p.tables e below (s₁.setTop (mkF m 109 #[.val (.int p1), .unset] [(.int p1)])) _
    refine XS.sipush X0.here hx rfl (hb hby d2_109) ?_
    show Steps p.tables e below (s₁.setTop (mkF m 112 #[.val (.int p1), .unset] [(.int (894 : Int32)), (.int p1)])) _
    by_cases h112 : p1 = (894 : Int32)
    · refine XS.icmpYes X0.here hx rfl (pc0 := 112) (pc' := 119) rfl (hb hby d2_112) rfl (teq h112).1 (by decide) (by decide) ?_
      exact Brf_26 (hv0.trans (if_pos h112))
    · refine XS.icmpNo X0.here hx rfl (hb hby d2_112) rfl (feq h112).1 ?_
      exact Brf_27 (hv0.trans (if_neg h112))
  have Brf_29 (hv0 : v_rf_0 = own_rf_0_29 p1) : Steps p.tables e below (s₁.setTop (mkF m 101 #[.val (.int p1), .unset] [])) (s₁.setFrames fs) := by
    show Steps p.tables e below (s₁.setTop (mkF m 101 #[.val (.int p1), .unset] [])) _
    refine XS.iloadN X0.here hx rfl (hb hby d2_101) rfl ?_
    show Steps p.tables e below (s₁.setTop (mkF m 102 #[.val (.int p1), .unset] [(.int p1)])) _
    refine XS.sipush X0.here hx rfl (hb hby d2_102) ?_
    show Steps p.tables e below (s₁.setTop (mkF m 105 #[.val (.int p1), .unset] [(.int (8191 : Int32)), (.int p1)])) _
    by_cases h105 : (8191 : Int32) < p1
    · refine XS.icmpYes X0.here hx rfl (pc0 := 105) (pc' := 121) rfl (hb hby d2_105) rfl (tlt h105).2.2.1 (by decide) (by decide) ?_
      exact Brf_25 (hv0.trans (if_pos h105))
    · refine XS.icmpNo X0.here hx rfl (hb hby d2_105) rfl (flt h105).2.2.1 ?_
      exact Brf_28 (hv0.trans (if_neg h105))
  have Brf_30 (hv0 : v_rf_0 = own_rf_0_30 p1) : Steps p.tables e below (s₁.setTop (mkF m 99 #[.val (.int p1), .unset] [])) (s₁.setFrames fs) := by
    have hw0 : v_rf_0 = (0 : Int32) := hv0
    rw [hw0] at hr
    show Steps p.tables e below (s₁.setTop (mkF m 99 #[.val (.int p1), .unset] [])) _
    refine XS.iconst X0.here hx rfl (hb hby d2_99) ?_
    show Steps p.tables e below (s₁.setTop (mkF m 100 #[.val (.int p1), .unset] [(.int (0 : Int32))])) _
    exact retN X0 hx (t := .boolean) Bd.returns (by simp) (hb hby d2_100) hr
  have Brf_31 (hv0 : v_rf_0 = own_rf_0_31 p1) : Steps p.tables e below (s₁.setTop (mkF m 92 #[.val (.int p1), .unset] [])) (s₁.setFrames fs) := by
    show Steps p.tables e below (s₁.setTop (mkF m 92 #[.val (.int p1), .unset] [])) _
    refine XS.iloadN X0.here hx rfl (hb hby d2_92) rfl ?_
    show Steps p.tables e below (s₁.setTop (mkF m 93 #[.val (.int p1), .unset] [(.int p1)])) _
    refine XS.sipush X0.here hx rfl (hb hby d2_93) ?_
    show Steps p.tables e below (s₁.setTop (mkF m 96 #[.val (.int p1), .unset] [(.int (880 : Int32)), (.int p1)])) _
    by_cases h96 : p1 < (880 : Int32)
    · refine XS.icmpNo X0.here hx rfl (hb hby d2_96) rfl (tlt h96).2.1 ?_
      exact Brf_30 (hv0.trans (if_pos h96))
    · refine XS.icmpYes X0.here hx rfl (pc0 := 96) (pc' := 101) rfl (hb hby d2_96) rfl (flt h96).2.1 (by decide) (by decide) ?_
      exact Brf_29 (hv0.trans (if_neg h96))
  have Brf_32 (hv0 : v_rf_0 = own_rf_0_32 p1) : Steps p.tables e below (s₁.setTop (mkF m 90 #[.val (.int p1), .unset] [])) (s₁.setFrames fs) := by
    have hw0 : v_rf_0 = (0 : Int32) := hv0
    rw [hw0] at hr
    show Steps p.tables e below (s₁.setTop (mkF m 90 #[.val (.int p1), .unset] [])) _
    refine XS.iconst X0.here hx rfl (hb hby d2_90) ?_
    show Steps p.tables e below (s₁.setTop (mkF m 91 #[.val (.int p1), .unset] [(.int (0 : Int32))])) _
    exact retN X0 hx (t := .boolean) Bd.returns (by simp) (hb hby d2_91) hr
  have Brf_33 (hv0 : v_rf_0 = own_rf_0_33 p1) : Steps p.tables e below (s₁.setTop (mkF m 86 #[.val (.int p1), .unset] [])) (s₁.setFrames fs) := by
    have hw0 : v_rf_0 = (1 : Int32) := hv0
    rw [hw0] at hr
    show Steps p.tables e below (s₁.setTop (mkF m 86 #[.val (.int p1), .unset] [])) _
    refine XS.iconst X0.here hx rfl (hb hby d2_86) ?_
    show Steps p.tables e below (s₁.setTop (mkF m 87 #[.val (.int p1), .unset] [(.int (1 : Int32))])) _
    refine XS.goto X0.here hx rfl (pc0 := 87) (pc' := 91) rfl (hb hby d2_87) (by decide) (by decide) ?_
    show Steps p.tables e below (s₁.setTop (mkF m 91 #[.val (.int p1), .unset] [(.int (1 : Int32))])) _
    exact retN X0 hx (t := .boolean) Bd.returns (by simp) (hb hby d2_91) hr
  have Brf_34 (hv0 : v_rf_0 = own_rf_0_34 p1) : Steps p.tables e below (s₁.setTop (mkF m 79 #[.val (.int p1), .unset] [])) (s₁.setFrames fs) := by
    show Steps p.tables e below (s₁.setTop (mkF m 79 #[.val (.int p1), .unset] [])) _
    refine XS.iloadN X0.here hx rfl (hb hby d2_79) rfl ?_
    show Steps p.tables e below (s₁.setTop (mkF m 80 #[.val (.int p1), .unset] [(.int p1)])) _
    refine XS.sipush X0.here hx rfl (hb hby d2_80) ?_
    show Steps p.tables e below (s₁.setTop (mkF m 83 #[.val (.int p1), .unset] [(.int (247 : Int32)), (.int p1)])) _
    by_cases h83 : p1 = (247 : Int32)
    · refine XS.icmpYes X0.here hx rfl (pc0 := 83) (pc' := 90) rfl (hb hby d2_83) rfl (teq h83).1 (by decide) (by decide) ?_
      exact Brf_32 (hv0.trans (if_pos h83))
    · refine XS.icmpNo X0.here hx rfl (hb hby d2_83) rfl (feq h83).1 ?_
      exact Brf_33 (hv0.trans (if_neg h83))
  have Brf_35 (hv0 : v_rf_0 = own_rf_0_35 p1) : Steps p.tables e below (s₁.setTop (mkF m 72 #[.val (.int p1), .unset] [])) (s₁.setFrames fs) := by
    show Steps p.tables e below (s₁.setTop (mkF m 72 #[.val (.int p1), .unset] [])) _
    refine XS.iloadN X0.here hx rfl (hb hby d2_72) rfl ?_
    show Steps p.tables e below (s₁.setTop (mkF m 73 #[.val (.int p1), .unset] [(.int p1)])) _
    refine XS.sipush X0.here hx rfl (hb hby d2_73) ?_
    show Steps p.tables e below (s₁.setTop (mkF m 76 #[.val (.int p1), .unset] [(.int (215 : Int32)), (.int p1)])) _
    by_cases h76 : p1 = (215 : Int32)
    · refine XS.icmpYes X0.here hx rfl (pc0 := 76) (pc' := 90) rfl (hb hby d2_76) rfl (teq h76).1 (by decide) (by decide) ?_
      exact Brf_32 (hv0.trans (if_pos h76))
    · refine XS.icmpNo X0.here hx rfl (hb hby d2_76) rfl (feq h76).1 ?_
      exact Brf_34 (hv0.trans (if_neg h76))
  have Brf_36 (hv0 : v_rf_0 = own_rf_0_36 p1) : Steps p.tables e below (s₁.setTop (mkF m 65 #[.val (.int p1), .unset] [])) (s₁.setFrames fs) := by
    show Steps p.tables e below (s₁.setTop (mkF m 65 #[.val (.int p1), .unset] [])) _
    refine XS.iloadN X0.here hx rfl (hb hby d2_65) rfl ?_
    show Steps p.tables e below (s₁.setTop (mkF m 66 #[.val (.int p1), .unset] [(.int p1)])) _
    refine XS.sipush X0.here hx rfl (hb hby d2_66) ?_
    show Steps p.tables e below (s₁.setTop (mkF m 69 #[.val (.int p1), .unset] [(.int (767 : Int32)), (.int p1)])) _
    by_cases h69 : (767 : Int32) < p1
    · refine XS.icmpYes X0.here hx rfl (pc0 := 69) (pc' := 92) rfl (hb hby d2_69) rfl (tlt h69).2.2.1 (by decide) (by decide) ?_
      exact Brf_31 (hv0.trans (if_pos h69))
    · refine XS.icmpNo X0.here hx rfl (hb hby d2_69) rfl (flt h69).2.2.1 ?_
      exact Brf_35 (hv0.trans (if_neg h69))
  have Brf_37 (hv0 : v_rf_0 = own_rf_0_37 p1) : Steps p.tables e below (s₁.setTop (mkF m 63 #[.val (.int p1), .unset] [])) (s₁.setFrames fs) := by
    have hw0 : v_rf_0 = (0 : Int32) := hv0
    rw [hw0] at hr
    show Steps p.tables e below (s₁.setTop (mkF m 63 #[.val (.int p1), .unset] [])) _
    refine XS.iconst X0.here hx rfl (hb hby d2_63) ?_
    show Steps p.tables e below (s₁.setTop (mkF m 64 #[.val (.int p1), .unset] [(.int (0 : Int32))])) _
    exact retN X0 hx (t := .boolean) Bd.returns (by simp) (hb hby d2_64) hr
  have Brf_38 (hv0 : v_rf_0 = own_rf_0_38 p1) : Steps p.tables e below (s₁.setTop (mkF m 56 #[.val (.int p1), .unset] [])) (s₁.setFrames fs) := by
    show Steps p.tables e below (s₁.setTop (mkF m 56 #[.val (.int p1), .unset] [])) _
    refine XS.iloadN X0.here hx rfl (hb hby d2_56) rfl ?_
    show Steps p.tables e below (s₁.setTop (mkF m 57 #[.val (.int p1), .unset] [(.int p1)])) _
    refine XS.sipush X0.here hx rfl (hb hby d2_57) ?_
    show Steps p.tables e below (s₁.setTop (mkF m 60 #[.val (.int p1), .unset] [(.int (192 : Int32)), (.int p1)])) _
    by_cases h60 : p1 < (192 : Int32)
    · refine XS.icmpNo X0.here hx rfl (hb hby d2_60) rfl (tlt h60).2.1 ?_
      exact Brf_37 (hv0.trans (if_pos h60))
    · refine XS.icmpYes X0.here hx rfl (pc0 := 60) (pc' := 65) rfl (hb hby d2_60) rfl (flt h60).2.1 (by decide) (by decide) ?_
      exact Brf_36 (hv0.trans (if_neg h60))
  have Brf_39 (hv0 : v_rf_0 = own_rf_0_39 p1) : Steps p.tables e below (s₁.setTop (mkF m 54 #[.val (.int p1), .val (.int (p1 ||| (32 : Int32)))] [])) (s₁.setFrames fs) := by
    have hw0 : v_rf_0 = (0 : Int32) := hv0
    rw [hw0] at hr
    show Steps p.tables e below (s₁.setTop (mkF m 54 #[.val (.int p1), .val (.int (p1 ||| (32 : Int32)))] [])) _
    refine XS.iconst X0.here hx rfl (hb hby d2_54) ?_
    show Steps p.tables e below (s₁.setTop (mkF m 55 #[.val (.int p1), .val (.int (p1 ||| (32 : Int32)))] [(.int (0 : Int32))])) _
    exact retN X0 hx (t := .boolean) Bd.returns (by simp) (hb hby d2_55) hr
  have Brf_40 (hv0 : v_rf_0 = own_rf_0_40 p1) : Steps p.tables e below (s₁.setTop (mkF m 50 #[.val (.int p1), .val (.int (p1 ||| (32 : Int32)))] [])) (s₁.setFrames fs) := by
    have hw0 : v_rf_0 = (1 : Int32) := hv0
    rw [hw0] at hr
    show Steps p.tables e below (s₁.setTop (mkF m 50 #[.val (.int p1), .val (.int (p1 ||| (32 : Int32)))] [])) _
    refine XS.iconst X0.here hx rfl (hb hby d2_50) ?_
    show Steps p.tables e below (s₁.setTop (mkF m 51 #[.val (.int p1), .val (.int (p1 ||| (32 : Int32)))] [(.int (1 : Int32))])) _
    refine XS.goto X0.here hx rfl (pc0 := 51) (pc' := 55) rfl (hb hby d2_51) (by decide) (by decide) ?_
    show Steps p.tables e below (s₁.setTop (mkF m 55 #[.val (.int p1), .val (.int (p1 ||| (32 : Int32)))] [(.int (1 : Int32))])) _
    exact retN X0 hx (t := .boolean) Bd.returns (by simp) (hb hby d2_55) hr
  have Brf_41 (hv0 : v_rf_0 = own_rf_0_41 p1) : Steps p.tables e below (s₁.setTop (mkF m 44 #[.val (.int p1), .val (.int (p1 ||| (32 : Int32)))] [])) (s₁.setFrames fs) := by
    show Steps p.tables e below (s₁.setTop (mkF m 44 #[.val (.int p1), .val (.int (p1 ||| (32 : Int32)))] [])) _
    refine XS.iloadN X0.here hx rfl (hb hby d2_44) rfl ?_
    show Steps p.tables e below (s₁.setTop (mkF m 45 #[.val (.int p1), .val (.int (p1 ||| (32 : Int32)))] [(.int p1)])) _
    refine XS.bipush X0.here hx rfl (hb hby d2_45) ?_
    show Steps p.tables e below (s₁.setTop (mkF m 47 #[.val (.int p1), .val (.int (p1 ||| (32 : Int32)))] [(.int (95 : Int32)), (.int p1)])) _
    by_cases h47 : p1 = (95 : Int32)
    · refine XS.icmpNo X0.here hx rfl (hb hby d2_47) rfl (teq h47).2 ?_
      exact Brf_40 (hv0.trans (if_pos h47))
    · refine XS.icmpYes X0.here hx rfl (pc0 := 47) (pc' := 54) rfl (hb hby d2_47) rfl (feq h47).2 (by decide) (by decide) ?_
      exact Brf_39 (hv0.trans (if_neg h47))
  have Brf_42 (hv0 : v_rf_0 = own_rf_0_42 p1) : Steps p.tables e below (s₁.setTop (mkF m 38 #[.val (.int p1), .val (.int (p1 ||| (32 : Int32)))] [])) (s₁.setFrames fs) := by
    show Steps p.tables e below (s₁.setTop (mkF m 38 #[.val (.int p1), .val (.int (p1 ||| (32 : Int32)))] [])) _
    refine XS.iloadN X0.here hx rfl (hb hby d2_38) rfl ?_
    show Steps p.tables e below (s₁.setTop (mkF m 39 #[.val (.int p1), .val (.int (p1 ||| (32 : Int32)))] [(.int (p1 ||| (32 : Int32)))])) _
    refine XS.bipush X0.here hx rfl (hb hby d2_39) ?_
    show Steps p.tables e below (s₁.setTop (mkF m 41 #[.val (.int p1), .val (.int (p1 ||| (32 : Int32)))] [(.int (122 : Int32)), (.int (p1 ||| (32 : Int32)))])) _
    by_cases h41 : (122 : Int32) < (p1 ||| (32 : Int32))
    · refine XS.icmpNo X0.here hx rfl (hb hby d2_41) rfl (tlt h41).2.2.2 ?_
      exact Brf_41 (hv0.trans (if_pos h41))
    · refine XS.icmpYes X0.here hx rfl (pc0 := 41) (pc' := 50) rfl (hb hby d2_41) rfl (flt h41).2.2.2 (by decide) (by decide) ?_
      exact Brf_40 (hv0.trans (if_neg h41))
  have Brf_43 (hv0 : v_rf_0 = own_rf_0_43 p1) : Steps p.tables e below (s₁.setTop (mkF m 27 #[.val (.int p1), .unset] [])) (s₁.setFrames fs) := by
    show Steps p.tables e below (s₁.setTop (mkF m 27 #[.val (.int p1), .unset] [])) _
    refine XS.iloadN X0.here hx rfl (hb hby d2_27) rfl ?_
    show Steps p.tables e below (s₁.setTop (mkF m 28 #[.val (.int p1), .unset] [(.int p1)])) _
    refine XS.bipush X0.here hx rfl (hb hby d2_28) ?_
    show Steps p.tables e below (s₁.setTop (mkF m 30 #[.val (.int p1), .unset] [(.int (32 : Int32)), (.int p1)])) _
    refine XS.ior X0.here hx rfl (hb hby d2_30) rfl ?_
    show Steps p.tables e below (s₁.setTop (mkF m 31 #[.val (.int p1), .unset] [(.int (p1 ||| (32 : Int32)))])) _
    refine XS.istoreN X0.here hx rfl (hb hby d2_31) rfl (l' := #[.val (.int p1), .val (.int (p1 ||| (32 : Int32)))]) rfl ?_
    show Steps p.tables e below (s₁.setTop (mkF m 32 #[.val (.int p1), .val (.int (p1 ||| (32 : Int32)))] [])) _
    refine XS.iloadN X0.here hx rfl (hb hby d2_32) rfl ?_
    show Steps p.tables e below (s₁.setTop (mkF m 33 #[.val (.int p1), .val (.int (p1 ||| (32 : Int32)))] [(.int (p1 ||| (32 : Int32)))])) _
    refine XS.bipush X0.here hx rfl (hb hby d2_33) ?_
    show Steps p.tables e below (s₁.setTop (mkF m 35 #[.val (.int p1), .val (.int (p1 ||| (32 : Int32)))] [(.int (97 : Int32)), (.int (p1 ||| (32 : Int32)))])) _
    by_cases h35 : (p1 ||| (32 : Int32)) < (97 : Int32)
    · refine XS.icmpYes X0.here hx rfl (pc0 := 35) (pc' := 44) rfl (hb hby d2_35) rfl (tlt h35).1 (by decide) (by decide) ?_
      exact Brf_41 (hv0.trans (if_pos h35))
    · refine XS.icmpNo X0.here hx rfl (hb hby d2_35) rfl (flt h35).1 ?_
      exact Brf_42 (hv0.trans (if_neg h35))
  have Brf_44 (hv0 : v_rf_0 = own_rf_0_44 p1) : Steps p.tables e below (s₁.setTop (mkF m 20 #[.val (.int p1), .unset] [])) (s₁.setFrames fs) := by
    show Steps p.tables e below (s₁.setTop (mkF m 20 #[.val (.int p1), .unset] [])) _
    refine XS.iloadN X0.here hx rfl (hb hby d2_20) rfl ?_
    show Steps p.tables e below (s₁.setTop (mkF m 21 #[.val (.int p1), .unset] [(.int p1)])) _
    refine XS.sipush X0.here hx rfl (hb hby d2_21) ?_
    show Steps p.tables e below (s₁.setTop (mkF m 24 #[.val (.int p1), .unset] [(.int (128 : Int32)), (.int p1)])) _
    by_cases h24 : p1 < (128 : Int32)
    · refine XS.icmpNo X0.here hx rfl (hb hby d2_24) rfl (tlt h24).2.1 ?_
      exact Brf_43 (hv0.trans (if_pos h24))
    · refine XS.icmpYes X0.here hx rfl (pc0 := 24) (pc' := 56) rfl (hb hby d2_24) rfl (flt h24).2.1 (by decide) (by decide) ?_
      exact Brf_38 (hv0.trans (if_neg h24))
  have Brf_45 (hv0 : v_rf_0 = own_rf_0_45 p1) : Steps p.tables e below (s₁.setTop (mkF m 18 #[.val (.int p1), .unset] [])) (s₁.setFrames fs) := by
    have hw0 : v_rf_0 = (1 : Int32) := hv0
    rw [hw0] at hr
    show Steps p.tables e below (s₁.setTop (mkF m 18 #[.val (.int p1), .unset] [])) _
    refine XS.iconst X0.here hx rfl (hb hby d2_18) ?_
    show Steps p.tables e below (s₁.setTop (mkF m 19 #[.val (.int p1), .unset] [(.int (1 : Int32))])) _
    exact retN X0 hx (t := .boolean) Bd.returns (by simp) (hb hby d2_19) hr
  have Brf_46 (hv0 : v_rf_0 = own_rf_0_46 p1) : Steps p.tables e below (s₁.setTop (mkF m 12 #[.val (.int p1), .unset] [])) (s₁.setFrames fs) := by
    show Steps p.tables e below (s₁.setTop (mkF m 12 #[.val (.int p1), .unset] [])) _
    refine XS.iloadN X0.here hx rfl (hb hby d2_12) rfl ?_
    show Steps p.tables e below (s₁.setTop (mkF m 13 #[.val (.int p1), .unset] [(.int p1)])) _
    refine X0.ldcInt hx hown (mvT hZ (hw _ (List.mem_of_getElem? (i := 6) rfl))) (g := (mkF m 13 #[.val (.int p1), .unset] [(.int p1)])) rfl (hb hby d2_13) _ ?_
    show Steps p.tables e below (s₁.setTop (mkF m 15 #[.val (.int p1), .unset] [(.int (65536 : Int32)), (.int p1)])) _
    by_cases h15 : p1 < (65536 : Int32)
    · refine XS.icmpYes X0.here hx rfl (pc0 := 15) (pc' := 20) rfl (hb hby d2_15) rfl (tlt h15).1 (by decide) (by decide) ?_
      exact Brf_44 (hv0.trans (if_pos h15))
    · refine XS.icmpNo X0.here hx rfl (hb hby d2_15) rfl (flt h15).1 ?_
      exact Brf_45 (hv0.trans (if_neg h15))
  have Brf_47 (hv0 : v_rf_0 = own_rf_0_47 p1) : Steps p.tables e below (s₁.setTop (mkF m 4 #[.val (.int p1), .unset] [])) (s₁.setFrames fs) := by
    show Steps p.tables e below (s₁.setTop (mkF m 4 #[.val (.int p1), .unset] [])) _
    refine XS.iloadN X0.here hx rfl (hb hby d2_4) rfl ?_
    show Steps p.tables e below (s₁.setTop (mkF m 5 #[.val (.int p1), .unset] [(.int p1)])) _
    refine X0.ldcInt hx hown (mvT hZ (hw _ (List.mem_of_getElem? (i := 7) rfl))) (g := (mkF m 5 #[.val (.int p1), .unset] [(.int p1)])) rfl (hb hby d2_5) _ ?_
    show Steps p.tables e below (s₁.setTop (mkF m 7 #[.val (.int p1), .unset] [(.int (983039 : Int32)), (.int p1)])) _
    by_cases h7 : (983039 : Int32) < p1
    · refine XS.icmpNo X0.here hx rfl (hb hby d2_7) rfl (tlt h7).2.2.2 ?_
      exact Brf_1 (hv0.trans (if_pos h7))
    · refine XS.icmpYes X0.here hx rfl (pc0 := 7) (pc' := 12) rfl (hb hby d2_7) rfl (flt h7).2.2.2 (by decide) (by decide) ?_
      exact Brf_46 (hv0.trans (if_neg h7))
  have Brf_48 (hv0 : v_rf_0 = own_rf_0_48 p1) : Steps p.tables e below (s₁.setTop (mkF m 0 #[.val (.int p1), .unset] [])) (s₁.setFrames fs) := by
    show Steps p.tables e below (s₁.setTop (mkF m 0 #[.val (.int p1), .unset] [])) _
    refine XS.iloadN X0.here hx rfl (hb hby d2_0) rfl ?_
    show Steps p.tables e below (s₁.setTop (mkF m 1 #[.val (.int p1), .unset] [(.int p1)])) _
    by_cases h1 : p1 < (0 : Int32)
    · refine XS.ifYes X0.here hx rfl (pc0 := 1) (pc' := 10) rfl (hb hby d2_1) rfl ((if0 _ _).trans (tlt h1).1) (by decide) (by decide) ?_
      exact Brf_1 (hv0.trans (if_pos h1))
    · refine XS.ifNo X0.here hx rfl (hb hby d2_1) rfl ((if0 _ _).trans (flt h1).1) ?_
      exact Brf_47 (hv0.trans (if_neg h1))
  have pre1 : Steps p.tables e below _ (s₁.setFrames fs) := pre0.trans (Brf_48 h_v_rf_0)
  refine ⟨_, _, pre1, hrun, hended, _, _, rfl, ?_, ⟨_, rfl⟩, hW, hsame.mono (by decide) (by decide)⟩
  exact ⟨by rw [h_v_rf_0], N0, e0⟩
theorem own_ifc {P Q : Prop} [Decidable P] [Decidable Q] (h : P ↔ Q) : (if P then (1 : Int32) else 0) = if Q then 1 else 0 := by
  by_cases p : P
  · rw [if_pos p, if_pos (h.mp p)]
  · rw [if_neg p, if_neg (fun q => p (h.mpr q))]
theorem own_small (c : Int32) (h0 : 0 ≤ c.toInt) (n : Nat) (P : Int32 → Prop) (h : ∀ k : Fin n, P (Int32.ofInt (k.1 : Int))) (hn : c.toInt < n) : P c := by
  have q := h ⟨c.toInt.toNat, by omega⟩
  simp only [Int.toNat_of_nonneg h0, Int32.ofInt_toInt] at q
  exact q
theorem own_eq_iff (c k : Int32) : c = k ↔ c.toInt = k.toInt := Int32.toInt_inj.symm
theorem sp_own_st_0_1 (c : Int32) : own_st_0_1 c = if True then 1 else 0 := rfl
theorem sp_own_st_0_2 (c : Int32) : own_st_0_2 c = if False then 1 else 0 := rfl
theorem sp_own_st_0_3 (c : Int32) : own_st_0_3 c = if c.toInt ≤ 983039 then 1 else 0 := by
  have hz : ((983039 : Int32) < c) ↔ 983039 < c.toInt := by simp only [Int32.lt_iff_toInt_lt, Int32.reduceToInt]
  show (if (983039 : Int32) < c then own_st_0_2 c else own_st_0_1 c) = _
  rw [sp_own_st_0_2, sp_own_st_0_1]
  by_cases h : (983039 : Int32) < c
  · rw [if_pos h]; rw [hz] at h
    exact (if_neg (fun q => q)).trans (if_neg (fun q => by
        omega
        )).symm
  · rw [if_neg h]; rw [hz] at h
    exact (if_pos trivial).trans (if_pos ((by omega))).symm
theorem sp_own_st_0_4 (c : Int32) : own_st_0_4 c = if (65536 ≤ c.toInt ∧ c.toInt ≤ 983039) then 1 else 0 := by
  have hz : (c < (65536 : Int32)) ↔ c.toInt < 65536 := by simp only [Int32.lt_iff_toInt_lt, Int32.reduceToInt]
  show (if c < (65536 : Int32) then own_st_0_2 c else own_st_0_3 c) = _
  rw [sp_own_st_0_2, sp_own_st_0_3]
  by_cases h : c < (65536 : Int32)
  · rw [if_pos h]; rw [hz] at h
    exact (if_neg (fun q => q)).trans (if_neg (fun q => by
        omega
        )).symm
  · rw [if_neg h]; rw [hz] at h
    refine own_ifc ⟨fun q => ?_, fun q => ?_⟩
    · skip
      exact (by omega)
    · skip
      exact (by omega)
theorem sp_own_st_0_5 (c : Int32) : own_st_0_5 c = if c.toInt ≤ 65533 ∨ (65536 ≤ c.toInt ∧ c.toInt ≤ 983039) then 1 else 0 := by
  have hz : ((65533 : Int32) < c) ↔ 65533 < c.toInt := by simp only [Int32.lt_iff_toInt_lt, Int32.reduceToInt]
  show (if (65533 : Int32) < c then own_st_0_4 c else own_st_0_1 c) = _
  rw [sp_own_st_0_4, sp_own_st_0_1]
  by_cases h : (65533 : Int32) < c
  · rw [if_pos h]; rw [hz] at h
    refine own_ifc ⟨fun q => ?_, fun q => ?_⟩
    · skip
      exact Or.inr ((by omega))
    · skip
      rcases q with q | q
      · exact absurd q (by omega)
      · exact (by omega)
  · rw [if_neg h]; rw [hz] at h
    exact (if_pos trivial).trans (if_pos (Or.inl (by omega))).symm
theorem sp_own_st_0_6 (c : Int32) : own_st_0_6 c = if (65008 ≤ c.toInt ∧ c.toInt ≤ 65533) ∨ (65536 ≤ c.toInt ∧ c.toInt ≤ 983039) then 1 else 0 := by
  have hz : (c < (65008 : Int32)) ↔ c.toInt < 65008 := by simp only [Int32.lt_iff_toInt_lt, Int32.reduceToInt]
  show (if c < (65008 : Int32) then own_st_0_4 c else own_st_0_5 c) = _
  rw [sp_own_st_0_4, sp_own_st_0_5]
  by_cases h : c < (65008 : Int32)
  · rw [if_pos h]; rw [hz] at h
    refine own_ifc ⟨fun q => ?_, fun q => ?_⟩
    · skip
      exact absurd q (by omega)
    · skip
      rcases q with q | q
      · exact absurd q (by omega)
      · exact absurd q (by omega)
  · rw [if_neg h]; rw [hz] at h
    refine own_ifc ⟨fun q => ?_, fun q => ?_⟩
    · skip
      rcases q with q | q
      · exact Or.inl (by omega)
      · exact Or.inr ((by omega))
    · skip
      rcases q with q | q
      · exact Or.inl (by omega)
      · exact Or.inr ((by omega))
theorem sp_own_st_0_7 (c : Int32) : own_st_0_7 c = if c.toInt ≤ 64975 ∨ (65008 ≤ c.toInt ∧ c.toInt ≤ 65533) ∨ (65536 ≤ c.toInt ∧ c.toInt ≤ 983039) then 1 else 0 := by
  have hz : ((64975 : Int32) < c) ↔ 64975 < c.toInt := by simp only [Int32.lt_iff_toInt_lt, Int32.reduceToInt]
  show (if (64975 : Int32) < c then own_st_0_6 c else own_st_0_1 c) = _
  rw [sp_own_st_0_6, sp_own_st_0_1]
  by_cases h : (64975 : Int32) < c
  · rw [if_pos h]; rw [hz] at h
    refine own_ifc ⟨fun q => ?_, fun q => ?_⟩
    · skip
      rcases q with q | q
      · exact Or.inr (Or.inl (by omega))
      · exact Or.inr (Or.inr ((by omega)))
    · skip
      rcases q with q | q | q
      · exact absurd q (by omega)
      · exact Or.inl (by omega)
      · exact Or.inr ((by omega))
  · rw [if_neg h]; rw [hz] at h
    exact (if_pos trivial).trans (if_pos (Or.inl (by omega))).symm
theorem sp_own_st_0_8 (c : Int32) : own_st_0_8 c = if (63744 ≤ c.toInt ∧ c.toInt ≤ 64975) ∨ (65008 ≤ c.toInt ∧ c.toInt ≤ 65533) ∨ (65536 ≤ c.toInt ∧ c.toInt ≤ 983039) then 1 else 0 := by
  have hz : (c < (63744 : Int32)) ↔ c.toInt < 63744 := by simp only [Int32.lt_iff_toInt_lt, Int32.reduceToInt]
  show (if c < (63744 : Int32) then own_st_0_6 c else own_st_0_7 c) = _
  rw [sp_own_st_0_6, sp_own_st_0_7]
  by_cases h : c < (63744 : Int32)
  · rw [if_pos h]; rw [hz] at h
    refine own_ifc ⟨fun q => ?_, fun q => ?_⟩
    · skip
      rcases q with q | q
      · exact absurd q (by omega)
      · exact absurd q (by omega)
    · skip
      rcases q with q | q | q
      · exact absurd q (by omega)
      · exact absurd q (by omega)
      · exact absurd q (by omega)
  · rw [if_neg h]; rw [hz] at h
    refine own_ifc ⟨fun q => ?_, fun q => ?_⟩
    · skip
      rcases q with q | q | q
      · exact Or.inl (by omega)
      · exact Or.inr (Or.inl (by omega))
      · exact Or.inr (Or.inr ((by omega)))
    · skip
      rcases q with q | q | q
      · exact Or.inl (by omega)
      · exact Or.inr (Or.inl (by omega))
      · exact Or.inr (Or.inr ((by omega)))
theorem sp_own_st_0_9 (c : Int32) : own_st_0_9 c = if c.toInt ≤ 55295 ∨ (63744 ≤ c.toInt ∧ c.toInt ≤ 64975) ∨ (65008 ≤ c.toInt ∧ c.toInt ≤ 65533) ∨ (65536 ≤ c.toInt ∧ c.toInt ≤ 983039) then 1 else 0 := by
  have hz : ((55295 : Int32) < c) ↔ 55295 < c.toInt := by simp only [Int32.lt_iff_toInt_lt, Int32.reduceToInt]
  show (if (55295 : Int32) < c then own_st_0_8 c else own_st_0_1 c) = _
  rw [sp_own_st_0_8, sp_own_st_0_1]
  by_cases h : (55295 : Int32) < c
  · rw [if_pos h]; rw [hz] at h
    refine own_ifc ⟨fun q => ?_, fun q => ?_⟩
    · skip
      rcases q with q | q | q
      · exact Or.inr (Or.inl (by omega))
      · exact Or.inr (Or.inr (Or.inl (by omega)))
      · exact Or.inr (Or.inr (Or.inr ((by omega))))
    · skip
      rcases q with q | q | q | q
      · exact absurd q (by omega)
      · exact Or.inl (by omega)
      · exact Or.inr (Or.inl (by omega))
      · exact Or.inr (Or.inr ((by omega)))
  · rw [if_neg h]; rw [hz] at h
    exact (if_pos trivial).trans (if_pos (Or.inl (by omega))).symm
theorem sp_own_st_0_10 (c : Int32) : own_st_0_10 c = if (12289 ≤ c.toInt ∧ c.toInt ≤ 55295) ∨ (63744 ≤ c.toInt ∧ c.toInt ≤ 64975) ∨ (65008 ≤ c.toInt ∧ c.toInt ≤ 65533) ∨ (65536 ≤ c.toInt ∧ c.toInt ≤ 983039) then 1 else 0 := by
  have hz : (c < (12289 : Int32)) ↔ c.toInt < 12289 := by simp only [Int32.lt_iff_toInt_lt, Int32.reduceToInt]
  show (if c < (12289 : Int32) then own_st_0_8 c else own_st_0_9 c) = _
  rw [sp_own_st_0_8, sp_own_st_0_9]
  by_cases h : c < (12289 : Int32)
  · rw [if_pos h]; rw [hz] at h
    refine own_ifc ⟨fun q => ?_, fun q => ?_⟩
    · skip
      rcases q with q | q | q
      · exact absurd q (by omega)
      · exact absurd q (by omega)
      · exact absurd q (by omega)
    · skip
      rcases q with q | q | q | q
      · exact absurd q (by omega)
      · exact absurd q (by omega)
      · exact absurd q (by omega)
      · exact absurd q (by omega)
  · rw [if_neg h]; rw [hz] at h
    refine own_ifc ⟨fun q => ?_, fun q => ?_⟩
    · skip
      rcases q with q | q | q | q
      · exact Or.inl (by omega)
      · exact Or.inr (Or.inl (by omega))
      · exact Or.inr (Or.inr (Or.inl (by omega)))
      · exact Or.inr (Or.inr (Or.inr ((by omega))))
    · skip
      rcases q with q | q | q | q
      · exact Or.inl (by omega)
      · exact Or.inr (Or.inl (by omega))
      · exact Or.inr (Or.inr (Or.inl (by omega)))
      · exact Or.inr (Or.inr (Or.inr ((by omega))))
theorem sp_own_st_0_11 (c : Int32) : own_st_0_11 c = if c.toInt ≤ 12271 ∨ (12289 ≤ c.toInt ∧ c.toInt ≤ 55295) ∨ (63744 ≤ c.toInt ∧ c.toInt ≤ 64975) ∨ (65008 ≤ c.toInt ∧ c.toInt ≤ 65533) ∨ (65536 ≤ c.toInt ∧ c.toInt ≤ 983039) then 1 else 0 := by
  have hz : ((12271 : Int32) < c) ↔ 12271 < c.toInt := by simp only [Int32.lt_iff_toInt_lt, Int32.reduceToInt]
  show (if (12271 : Int32) < c then own_st_0_10 c else own_st_0_1 c) = _
  rw [sp_own_st_0_10, sp_own_st_0_1]
  by_cases h : (12271 : Int32) < c
  · rw [if_pos h]; rw [hz] at h
    refine own_ifc ⟨fun q => ?_, fun q => ?_⟩
    · skip
      rcases q with q | q | q | q
      · exact Or.inr (Or.inl (by omega))
      · exact Or.inr (Or.inr (Or.inl (by omega)))
      · exact Or.inr (Or.inr (Or.inr (Or.inl (by omega))))
      · exact Or.inr (Or.inr (Or.inr (Or.inr ((by omega)))))
    · skip
      rcases q with q | q | q | q | q
      · exact absurd q (by omega)
      · exact Or.inl (by omega)
      · exact Or.inr (Or.inl (by omega))
      · exact Or.inr (Or.inr (Or.inl (by omega)))
      · exact Or.inr (Or.inr (Or.inr ((by omega))))
  · rw [if_neg h]; rw [hz] at h
    exact (if_pos trivial).trans (if_pos (Or.inl (by omega))).symm
theorem sp_own_st_0_12 (c : Int32) : own_st_0_12 c = if (11264 ≤ c.toInt ∧ c.toInt ≤ 12271) ∨ (12289 ≤ c.toInt ∧ c.toInt ≤ 55295) ∨ (63744 ≤ c.toInt ∧ c.toInt ≤ 64975) ∨ (65008 ≤ c.toInt ∧ c.toInt ≤ 65533) ∨ (65536 ≤ c.toInt ∧ c.toInt ≤ 983039) then 1 else 0 := by
  have hz : (c < (11264 : Int32)) ↔ c.toInt < 11264 := by simp only [Int32.lt_iff_toInt_lt, Int32.reduceToInt]
  show (if c < (11264 : Int32) then own_st_0_10 c else own_st_0_11 c) = _
  rw [sp_own_st_0_10, sp_own_st_0_11]
  by_cases h : c < (11264 : Int32)
  · rw [if_pos h]; rw [hz] at h
    refine own_ifc ⟨fun q => ?_, fun q => ?_⟩
    · skip
      rcases q with q | q | q | q
      · exact absurd q (by omega)
      · exact absurd q (by omega)
      · exact absurd q (by omega)
      · exact absurd q (by omega)
    · skip
      rcases q with q | q | q | q | q
      · exact absurd q (by omega)
      · exact absurd q (by omega)
      · exact absurd q (by omega)
      · exact absurd q (by omega)
      · exact absurd q (by omega)
  · rw [if_neg h]; rw [hz] at h
    refine own_ifc ⟨fun q => ?_, fun q => ?_⟩
    · skip
      rcases q with q | q | q | q | q
      · exact Or.inl (by omega)
      · exact Or.inr (Or.inl (by omega))
      · exact Or.inr (Or.inr (Or.inl (by omega)))
      · exact Or.inr (Or.inr (Or.inr (Or.inl (by omega))))
      · exact Or.inr (Or.inr (Or.inr (Or.inr ((by omega)))))
    · skip
      rcases q with q | q | q | q | q
      · exact Or.inl (by omega)
      · exact Or.inr (Or.inl (by omega))
      · exact Or.inr (Or.inr (Or.inl (by omega)))
      · exact Or.inr (Or.inr (Or.inr (Or.inl (by omega))))
      · exact Or.inr (Or.inr (Or.inr (Or.inr ((by omega)))))
theorem sp_own_st_0_13 (c : Int32) : own_st_0_13 c = if c.toInt ≤ 8591 ∨ (11264 ≤ c.toInt ∧ c.toInt ≤ 12271) ∨ (12289 ≤ c.toInt ∧ c.toInt ≤ 55295) ∨ (63744 ≤ c.toInt ∧ c.toInt ≤ 64975) ∨ (65008 ≤ c.toInt ∧ c.toInt ≤ 65533) ∨ (65536 ≤ c.toInt ∧ c.toInt ≤ 983039) then 1 else 0 := by
  have hz : ((8591 : Int32) < c) ↔ 8591 < c.toInt := by simp only [Int32.lt_iff_toInt_lt, Int32.reduceToInt]
  show (if (8591 : Int32) < c then own_st_0_12 c else own_st_0_1 c) = _
  rw [sp_own_st_0_12, sp_own_st_0_1]
  by_cases h : (8591 : Int32) < c
  · rw [if_pos h]; rw [hz] at h
    refine own_ifc ⟨fun q => ?_, fun q => ?_⟩
    · skip
      rcases q with q | q | q | q | q
      · exact Or.inr (Or.inl (by omega))
      · exact Or.inr (Or.inr (Or.inl (by omega)))
      · exact Or.inr (Or.inr (Or.inr (Or.inl (by omega))))
      · exact Or.inr (Or.inr (Or.inr (Or.inr (Or.inl (by omega)))))
      · exact Or.inr (Or.inr (Or.inr (Or.inr (Or.inr ((by omega))))))
    · skip
      rcases q with q | q | q | q | q | q
      · exact absurd q (by omega)
      · exact Or.inl (by omega)
      · exact Or.inr (Or.inl (by omega))
      · exact Or.inr (Or.inr (Or.inl (by omega)))
      · exact Or.inr (Or.inr (Or.inr (Or.inl (by omega))))
      · exact Or.inr (Or.inr (Or.inr (Or.inr ((by omega)))))
  · rw [if_neg h]; rw [hz] at h
    exact (if_pos trivial).trans (if_pos (Or.inl (by omega))).symm
theorem sp_own_st_0_14 (c : Int32) : own_st_0_14 c = if (8304 ≤ c.toInt ∧ c.toInt ≤ 8591) ∨ (11264 ≤ c.toInt ∧ c.toInt ≤ 12271) ∨ (12289 ≤ c.toInt ∧ c.toInt ≤ 55295) ∨ (63744 ≤ c.toInt ∧ c.toInt ≤ 64975) ∨ (65008 ≤ c.toInt ∧ c.toInt ≤ 65533) ∨ (65536 ≤ c.toInt ∧ c.toInt ≤ 983039) then 1 else 0 := by
  have hz : (c < (8304 : Int32)) ↔ c.toInt < 8304 := by simp only [Int32.lt_iff_toInt_lt, Int32.reduceToInt]
  show (if c < (8304 : Int32) then own_st_0_12 c else own_st_0_13 c) = _
  rw [sp_own_st_0_12, sp_own_st_0_13]
  by_cases h : c < (8304 : Int32)
  · rw [if_pos h]; rw [hz] at h
    refine own_ifc ⟨fun q => ?_, fun q => ?_⟩
    · skip
      rcases q with q | q | q | q | q
      · exact absurd q (by omega)
      · exact absurd q (by omega)
      · exact absurd q (by omega)
      · exact absurd q (by omega)
      · exact absurd q (by omega)
    · skip
      rcases q with q | q | q | q | q | q
      · exact absurd q (by omega)
      · exact absurd q (by omega)
      · exact absurd q (by omega)
      · exact absurd q (by omega)
      · exact absurd q (by omega)
      · exact absurd q (by omega)
  · rw [if_neg h]; rw [hz] at h
    refine own_ifc ⟨fun q => ?_, fun q => ?_⟩
    · skip
      rcases q with q | q | q | q | q | q
      · exact Or.inl (by omega)
      · exact Or.inr (Or.inl (by omega))
      · exact Or.inr (Or.inr (Or.inl (by omega)))
      · exact Or.inr (Or.inr (Or.inr (Or.inl (by omega))))
      · exact Or.inr (Or.inr (Or.inr (Or.inr (Or.inl (by omega)))))
      · exact Or.inr (Or.inr (Or.inr (Or.inr (Or.inr ((by omega))))))
    · skip
      rcases q with q | q | q | q | q | q
      · exact Or.inl (by omega)
      · exact Or.inr (Or.inl (by omega))
      · exact Or.inr (Or.inr (Or.inl (by omega)))
      · exact Or.inr (Or.inr (Or.inr (Or.inl (by omega))))
      · exact Or.inr (Or.inr (Or.inr (Or.inr (Or.inl (by omega)))))
      · exact Or.inr (Or.inr (Or.inr (Or.inr (Or.inr ((by omega))))))
theorem sp_own_st_0_15 (c : Int32) : own_st_0_15 c = if c.toInt ≤ 8205 ∨ (8304 ≤ c.toInt ∧ c.toInt ≤ 8591) ∨ (11264 ≤ c.toInt ∧ c.toInt ≤ 12271) ∨ (12289 ≤ c.toInt ∧ c.toInt ≤ 55295) ∨ (63744 ≤ c.toInt ∧ c.toInt ≤ 64975) ∨ (65008 ≤ c.toInt ∧ c.toInt ≤ 65533) ∨ (65536 ≤ c.toInt ∧ c.toInt ≤ 983039) then 1 else 0 := by
  have hz : ((8205 : Int32) < c) ↔ 8205 < c.toInt := by simp only [Int32.lt_iff_toInt_lt, Int32.reduceToInt]
  show (if (8205 : Int32) < c then own_st_0_14 c else own_st_0_1 c) = _
  rw [sp_own_st_0_14, sp_own_st_0_1]
  by_cases h : (8205 : Int32) < c
  · rw [if_pos h]; rw [hz] at h
    refine own_ifc ⟨fun q => ?_, fun q => ?_⟩
    · skip
      rcases q with q | q | q | q | q | q
      · exact Or.inr (Or.inl (by omega))
      · exact Or.inr (Or.inr (Or.inl (by omega)))
      · exact Or.inr (Or.inr (Or.inr (Or.inl (by omega))))
      · exact Or.inr (Or.inr (Or.inr (Or.inr (Or.inl (by omega)))))
      · exact Or.inr (Or.inr (Or.inr (Or.inr (Or.inr (Or.inl (by omega))))))
      · exact Or.inr (Or.inr (Or.inr (Or.inr (Or.inr (Or.inr ((by omega)))))))
    · skip
      rcases q with q | q | q | q | q | q | q
      · exact absurd q (by omega)
      · exact Or.inl (by omega)
      · exact Or.inr (Or.inl (by omega))
      · exact Or.inr (Or.inr (Or.inl (by omega)))
      · exact Or.inr (Or.inr (Or.inr (Or.inl (by omega))))
      · exact Or.inr (Or.inr (Or.inr (Or.inr (Or.inl (by omega)))))
      · exact Or.inr (Or.inr (Or.inr (Or.inr (Or.inr ((by omega))))))
  · rw [if_neg h]; rw [hz] at h
    exact (if_pos trivial).trans (if_pos (Or.inl (by omega))).symm
theorem sp_own_st_0_16 (c : Int32) : own_st_0_16 c = if (8204 ≤ c.toInt ∧ c.toInt ≤ 8205) ∨ (8304 ≤ c.toInt ∧ c.toInt ≤ 8591) ∨ (11264 ≤ c.toInt ∧ c.toInt ≤ 12271) ∨ (12289 ≤ c.toInt ∧ c.toInt ≤ 55295) ∨ (63744 ≤ c.toInt ∧ c.toInt ≤ 64975) ∨ (65008 ≤ c.toInt ∧ c.toInt ≤ 65533) ∨ (65536 ≤ c.toInt ∧ c.toInt ≤ 983039) then 1 else 0 := by
  have hz : (c < (8204 : Int32)) ↔ c.toInt < 8204 := by simp only [Int32.lt_iff_toInt_lt, Int32.reduceToInt]
  show (if c < (8204 : Int32) then own_st_0_14 c else own_st_0_15 c) = _
  rw [sp_own_st_0_14, sp_own_st_0_15]
  by_cases h : c < (8204 : Int32)
  · rw [if_pos h]; rw [hz] at h
    refine own_ifc ⟨fun q => ?_, fun q => ?_⟩
    · skip
      rcases q with q | q | q | q | q | q
      · exact absurd q (by omega)
      · exact absurd q (by omega)
      · exact absurd q (by omega)
      · exact absurd q (by omega)
      · exact absurd q (by omega)
      · exact absurd q (by omega)
    · skip
      rcases q with q | q | q | q | q | q | q
      · exact absurd q (by omega)
      · exact absurd q (by omega)
      · exact absurd q (by omega)
      · exact absurd q (by omega)
      · exact absurd q (by omega)
      · exact absurd q (by omega)
      · exact absurd q (by omega)
  · rw [if_neg h]; rw [hz] at h
    refine own_ifc ⟨fun q => ?_, fun q => ?_⟩
    · skip
      rcases q with q | q | q | q | q | q | q
      · exact Or.inl (by omega)
      · exact Or.inr (Or.inl (by omega))
      · exact Or.inr (Or.inr (Or.inl (by omega)))
      · exact Or.inr (Or.inr (Or.inr (Or.inl (by omega))))
      · exact Or.inr (Or.inr (Or.inr (Or.inr (Or.inl (by omega)))))
      · exact Or.inr (Or.inr (Or.inr (Or.inr (Or.inr (Or.inl (by omega))))))
      · exact Or.inr (Or.inr (Or.inr (Or.inr (Or.inr (Or.inr ((by omega)))))))
    · skip
      rcases q with q | q | q | q | q | q | q
      · exact Or.inl (by omega)
      · exact Or.inr (Or.inl (by omega))
      · exact Or.inr (Or.inr (Or.inl (by omega)))
      · exact Or.inr (Or.inr (Or.inr (Or.inl (by omega))))
      · exact Or.inr (Or.inr (Or.inr (Or.inr (Or.inl (by omega)))))
      · exact Or.inr (Or.inr (Or.inr (Or.inr (Or.inr (Or.inl (by omega))))))
      · exact Or.inr (Or.inr (Or.inr (Or.inr (Or.inr (Or.inr ((by omega)))))))
theorem sp_own_st_0_17 (c : Int32) : own_st_0_17 c = if c.toInt ≤ 8191 ∨ (8204 ≤ c.toInt ∧ c.toInt ≤ 8205) ∨ (8304 ≤ c.toInt ∧ c.toInt ≤ 8591) ∨ (11264 ≤ c.toInt ∧ c.toInt ≤ 12271) ∨ (12289 ≤ c.toInt ∧ c.toInt ≤ 55295) ∨ (63744 ≤ c.toInt ∧ c.toInt ≤ 64975) ∨ (65008 ≤ c.toInt ∧ c.toInt ≤ 65533) ∨ (65536 ≤ c.toInt ∧ c.toInt ≤ 983039) then 1 else 0 := by
  have hz : ((8191 : Int32) < c) ↔ 8191 < c.toInt := by simp only [Int32.lt_iff_toInt_lt, Int32.reduceToInt]
  show (if (8191 : Int32) < c then own_st_0_16 c else own_st_0_1 c) = _
  rw [sp_own_st_0_16, sp_own_st_0_1]
  by_cases h : (8191 : Int32) < c
  · rw [if_pos h]; rw [hz] at h
    refine own_ifc ⟨fun q => ?_, fun q => ?_⟩
    · skip
      rcases q with q | q | q | q | q | q | q
      · exact Or.inr (Or.inl (by omega))
      · exact Or.inr (Or.inr (Or.inl (by omega)))
      · exact Or.inr (Or.inr (Or.inr (Or.inl (by omega))))
      · exact Or.inr (Or.inr (Or.inr (Or.inr (Or.inl (by omega)))))
      · exact Or.inr (Or.inr (Or.inr (Or.inr (Or.inr (Or.inl (by omega))))))
      · exact Or.inr (Or.inr (Or.inr (Or.inr (Or.inr (Or.inr (Or.inl (by omega)))))))
      · exact Or.inr (Or.inr (Or.inr (Or.inr (Or.inr (Or.inr (Or.inr ((by omega))))))))
    · skip
      rcases q with q | q | q | q | q | q | q | q
      · exact absurd q (by omega)
      · exact Or.inl (by omega)
      · exact Or.inr (Or.inl (by omega))
      · exact Or.inr (Or.inr (Or.inl (by omega)))
      · exact Or.inr (Or.inr (Or.inr (Or.inl (by omega))))
      · exact Or.inr (Or.inr (Or.inr (Or.inr (Or.inl (by omega)))))
      · exact Or.inr (Or.inr (Or.inr (Or.inr (Or.inr (Or.inl (by omega))))))
      · exact Or.inr (Or.inr (Or.inr (Or.inr (Or.inr (Or.inr ((by omega)))))))
  · rw [if_neg h]; rw [hz] at h
    exact (if_pos trivial).trans (if_pos (Or.inl (by omega))).symm
theorem sp_own_st_0_18 (c : Int32) : own_st_0_18 c = if (895 ≤ c.toInt ∧ c.toInt ≤ 8191) ∨ (8204 ≤ c.toInt ∧ c.toInt ≤ 8205) ∨ (8304 ≤ c.toInt ∧ c.toInt ≤ 8591) ∨ (11264 ≤ c.toInt ∧ c.toInt ≤ 12271) ∨ (12289 ≤ c.toInt ∧ c.toInt ≤ 55295) ∨ (63744 ≤ c.toInt ∧ c.toInt ≤ 64975) ∨ (65008 ≤ c.toInt ∧ c.toInt ≤ 65533) ∨ (65536 ≤ c.toInt ∧ c.toInt ≤ 983039) then 1 else 0 := by
  have hz : (c < (895 : Int32)) ↔ c.toInt < 895 := by simp only [Int32.lt_iff_toInt_lt, Int32.reduceToInt]
  show (if c < (895 : Int32) then own_st_0_16 c else own_st_0_17 c) = _
  rw [sp_own_st_0_16, sp_own_st_0_17]
  by_cases h : c < (895 : Int32)
  · rw [if_pos h]; rw [hz] at h
    refine own_ifc ⟨fun q => ?_, fun q => ?_⟩
    · skip
      rcases q with q | q | q | q | q | q | q
      · exact absurd q (by omega)
      · exact absurd q (by omega)
      · exact absurd q (by omega)
      · exact absurd q (by omega)
      · exact absurd q (by omega)
      · exact absurd q (by omega)
      · exact absurd q (by omega)
    · skip
      rcases q with q | q | q | q | q | q | q | q
      · exact absurd q (by omega)
      · exact absurd q (by omega)
      · exact absurd q (by omega)
      · exact absurd q (by omega)
      · exact absurd q (by omega)
      · exact absurd q (by omega)
      · exact absurd q (by omega)
      · exact absurd q (by omega)
  · rw [if_neg h]; rw [hz] at h
    refine own_ifc ⟨fun q => ?_, fun q => ?_⟩
    · skip
      rcases q with q | q | q | q | q | q | q | q
      · exact Or.inl (by omega)
      · exact Or.inr (Or.inl (by omega))
      · exact Or.inr (Or.inr (Or.inl (by omega)))
      · exact Or.inr (Or.inr (Or.inr (Or.inl (by omega))))
      · exact Or.inr (Or.inr (Or.inr (Or.inr (Or.inl (by omega)))))
      · exact Or.inr (Or.inr (Or.inr (Or.inr (Or.inr (Or.inl (by omega))))))
      · exact Or.inr (Or.inr (Or.inr (Or.inr (Or.inr (Or.inr (Or.inl (by omega)))))))
      · exact Or.inr (Or.inr (Or.inr (Or.inr (Or.inr (Or.inr (Or.inr ((by omega))))))))
    · skip
      rcases q with q | q | q | q | q | q | q | q
      · exact Or.inl (by omega)
      · exact Or.inr (Or.inl (by omega))
      · exact Or.inr (Or.inr (Or.inl (by omega)))
      · exact Or.inr (Or.inr (Or.inr (Or.inl (by omega))))
      · exact Or.inr (Or.inr (Or.inr (Or.inr (Or.inl (by omega)))))
      · exact Or.inr (Or.inr (Or.inr (Or.inr (Or.inr (Or.inl (by omega))))))
      · exact Or.inr (Or.inr (Or.inr (Or.inr (Or.inr (Or.inr (Or.inl (by omega)))))))
      · exact Or.inr (Or.inr (Or.inr (Or.inr (Or.inr (Or.inr (Or.inr ((by omega))))))))
theorem sp_own_st_0_19 (c : Int32) : own_st_0_19 c = if c.toInt ≤ 893 ∨ (895 ≤ c.toInt ∧ c.toInt ≤ 8191) ∨ (8204 ≤ c.toInt ∧ c.toInt ≤ 8205) ∨ (8304 ≤ c.toInt ∧ c.toInt ≤ 8591) ∨ (11264 ≤ c.toInt ∧ c.toInt ≤ 12271) ∨ (12289 ≤ c.toInt ∧ c.toInt ≤ 55295) ∨ (63744 ≤ c.toInt ∧ c.toInt ≤ 64975) ∨ (65008 ≤ c.toInt ∧ c.toInt ≤ 65533) ∨ (65536 ≤ c.toInt ∧ c.toInt ≤ 983039) then 1 else 0 := by
  have hz : ((893 : Int32) < c) ↔ 893 < c.toInt := by simp only [Int32.lt_iff_toInt_lt, Int32.reduceToInt]
  show (if (893 : Int32) < c then own_st_0_18 c else own_st_0_1 c) = _
  rw [sp_own_st_0_18, sp_own_st_0_1]
  by_cases h : (893 : Int32) < c
  · rw [if_pos h]; rw [hz] at h
    refine own_ifc ⟨fun q => ?_, fun q => ?_⟩
    · skip
      rcases q with q | q | q | q | q | q | q | q
      · exact Or.inr (Or.inl (by omega))
      · exact Or.inr (Or.inr (Or.inl (by omega)))
      · exact Or.inr (Or.inr (Or.inr (Or.inl (by omega))))
      · exact Or.inr (Or.inr (Or.inr (Or.inr (Or.inl (by omega)))))
      · exact Or.inr (Or.inr (Or.inr (Or.inr (Or.inr (Or.inl (by omega))))))
      · exact Or.inr (Or.inr (Or.inr (Or.inr (Or.inr (Or.inr (Or.inl (by omega)))))))
      · exact Or.inr (Or.inr (Or.inr (Or.inr (Or.inr (Or.inr (Or.inr (Or.inl (by omega))))))))
      · exact Or.inr (Or.inr (Or.inr (Or.inr (Or.inr (Or.inr (Or.inr (Or.inr ((by omega)))))))))
    · skip
      rcases q with q | q | q | q | q | q | q | q | q
      · exact absurd q (by omega)
      · exact Or.inl (by omega)
      · exact Or.inr (Or.inl (by omega))
      · exact Or.inr (Or.inr (Or.inl (by omega)))
      · exact Or.inr (Or.inr (Or.inr (Or.inl (by omega))))
      · exact Or.inr (Or.inr (Or.inr (Or.inr (Or.inl (by omega)))))
      · exact Or.inr (Or.inr (Or.inr (Or.inr (Or.inr (Or.inl (by omega))))))
      · exact Or.inr (Or.inr (Or.inr (Or.inr (Or.inr (Or.inr (Or.inl (by omega)))))))
      · exact Or.inr (Or.inr (Or.inr (Or.inr (Or.inr (Or.inr (Or.inr ((by omega))))))))
  · rw [if_neg h]; rw [hz] at h
    exact (if_pos trivial).trans (if_pos (Or.inl (by omega))).symm
theorem sp_own_st_0_20 (c : Int32) : own_st_0_20 c = if (880 ≤ c.toInt ∧ c.toInt ≤ 893) ∨ (895 ≤ c.toInt ∧ c.toInt ≤ 8191) ∨ (8204 ≤ c.toInt ∧ c.toInt ≤ 8205) ∨ (8304 ≤ c.toInt ∧ c.toInt ≤ 8591) ∨ (11264 ≤ c.toInt ∧ c.toInt ≤ 12271) ∨ (12289 ≤ c.toInt ∧ c.toInt ≤ 55295) ∨ (63744 ≤ c.toInt ∧ c.toInt ≤ 64975) ∨ (65008 ≤ c.toInt ∧ c.toInt ≤ 65533) ∨ (65536 ≤ c.toInt ∧ c.toInt ≤ 983039) then 1 else 0 := by
  have hz : (c < (880 : Int32)) ↔ c.toInt < 880 := by simp only [Int32.lt_iff_toInt_lt, Int32.reduceToInt]
  show (if c < (880 : Int32) then own_st_0_18 c else own_st_0_19 c) = _
  rw [sp_own_st_0_18, sp_own_st_0_19]
  by_cases h : c < (880 : Int32)
  · rw [if_pos h]; rw [hz] at h
    refine own_ifc ⟨fun q => ?_, fun q => ?_⟩
    · skip
      rcases q with q | q | q | q | q | q | q | q
      · exact absurd q (by omega)
      · exact absurd q (by omega)
      · exact absurd q (by omega)
      · exact absurd q (by omega)
      · exact absurd q (by omega)
      · exact absurd q (by omega)
      · exact absurd q (by omega)
      · exact absurd q (by omega)
    · skip
      rcases q with q | q | q | q | q | q | q | q | q
      · exact absurd q (by omega)
      · exact absurd q (by omega)
      · exact absurd q (by omega)
      · exact absurd q (by omega)
      · exact absurd q (by omega)
      · exact absurd q (by omega)
      · exact absurd q (by omega)
      · exact absurd q (by omega)
      · exact absurd q (by omega)
  · rw [if_neg h]; rw [hz] at h
    refine own_ifc ⟨fun q => ?_, fun q => ?_⟩
    · skip
      rcases q with q | q | q | q | q | q | q | q | q
      · exact Or.inl (by omega)
      · exact Or.inr (Or.inl (by omega))
      · exact Or.inr (Or.inr (Or.inl (by omega)))
      · exact Or.inr (Or.inr (Or.inr (Or.inl (by omega))))
      · exact Or.inr (Or.inr (Or.inr (Or.inr (Or.inl (by omega)))))
      · exact Or.inr (Or.inr (Or.inr (Or.inr (Or.inr (Or.inl (by omega))))))
      · exact Or.inr (Or.inr (Or.inr (Or.inr (Or.inr (Or.inr (Or.inl (by omega)))))))
      · exact Or.inr (Or.inr (Or.inr (Or.inr (Or.inr (Or.inr (Or.inr (Or.inl (by omega))))))))
      · exact Or.inr (Or.inr (Or.inr (Or.inr (Or.inr (Or.inr (Or.inr (Or.inr ((by omega)))))))))
    · skip
      rcases q with q | q | q | q | q | q | q | q | q
      · exact Or.inl (by omega)
      · exact Or.inr (Or.inl (by omega))
      · exact Or.inr (Or.inr (Or.inl (by omega)))
      · exact Or.inr (Or.inr (Or.inr (Or.inl (by omega))))
      · exact Or.inr (Or.inr (Or.inr (Or.inr (Or.inl (by omega)))))
      · exact Or.inr (Or.inr (Or.inr (Or.inr (Or.inr (Or.inl (by omega))))))
      · exact Or.inr (Or.inr (Or.inr (Or.inr (Or.inr (Or.inr (Or.inl (by omega)))))))
      · exact Or.inr (Or.inr (Or.inr (Or.inr (Or.inr (Or.inr (Or.inr (Or.inl (by omega))))))))
      · exact Or.inr (Or.inr (Or.inr (Or.inr (Or.inr (Or.inr (Or.inr (Or.inr ((by omega)))))))))
theorem sp_own_st_0_21 (c : Int32) : own_st_0_21 c = if c.toInt ≤ 767 ∨ (880 ≤ c.toInt ∧ c.toInt ≤ 893) ∨ (895 ≤ c.toInt ∧ c.toInt ≤ 8191) ∨ (8204 ≤ c.toInt ∧ c.toInt ≤ 8205) ∨ (8304 ≤ c.toInt ∧ c.toInt ≤ 8591) ∨ (11264 ≤ c.toInt ∧ c.toInt ≤ 12271) ∨ (12289 ≤ c.toInt ∧ c.toInt ≤ 55295) ∨ (63744 ≤ c.toInt ∧ c.toInt ≤ 64975) ∨ (65008 ≤ c.toInt ∧ c.toInt ≤ 65533) ∨ (65536 ≤ c.toInt ∧ c.toInt ≤ 983039) then 1 else 0 := by
  have hz : ((767 : Int32) < c) ↔ 767 < c.toInt := by simp only [Int32.lt_iff_toInt_lt, Int32.reduceToInt]
  show (if (767 : Int32) < c then own_st_0_20 c else own_st_0_1 c) = _
  rw [sp_own_st_0_20, sp_own_st_0_1]
  by_cases h : (767 : Int32) < c
  · rw [if_pos h]; rw [hz] at h
    refine own_ifc ⟨fun q => ?_, fun q => ?_⟩
    · skip
      rcases q with q | q | q | q | q | q | q | q | q
      · exact Or.inr (Or.inl (by omega))
      · exact Or.inr (Or.inr (Or.inl (by omega)))
      · exact Or.inr (Or.inr (Or.inr (Or.inl (by omega))))
      · exact Or.inr (Or.inr (Or.inr (Or.inr (Or.inl (by omega)))))
      · exact Or.inr (Or.inr (Or.inr (Or.inr (Or.inr (Or.inl (by omega))))))
      · exact Or.inr (Or.inr (Or.inr (Or.inr (Or.inr (Or.inr (Or.inl (by omega)))))))
      · exact Or.inr (Or.inr (Or.inr (Or.inr (Or.inr (Or.inr (Or.inr (Or.inl (by omega))))))))
      · exact Or.inr (Or.inr (Or.inr (Or.inr (Or.inr (Or.inr (Or.inr (Or.inr (Or.inl (by omega)))))))))
      · exact Or.inr (Or.inr (Or.inr (Or.inr (Or.inr (Or.inr (Or.inr (Or.inr (Or.inr ((by omega))))))))))
    · skip
      rcases q with q | q | q | q | q | q | q | q | q | q
      · exact absurd q (by omega)
      · exact Or.inl (by omega)
      · exact Or.inr (Or.inl (by omega))
      · exact Or.inr (Or.inr (Or.inl (by omega)))
      · exact Or.inr (Or.inr (Or.inr (Or.inl (by omega))))
      · exact Or.inr (Or.inr (Or.inr (Or.inr (Or.inl (by omega)))))
      · exact Or.inr (Or.inr (Or.inr (Or.inr (Or.inr (Or.inl (by omega))))))
      · exact Or.inr (Or.inr (Or.inr (Or.inr (Or.inr (Or.inr (Or.inl (by omega)))))))
      · exact Or.inr (Or.inr (Or.inr (Or.inr (Or.inr (Or.inr (Or.inr (Or.inl (by omega))))))))
      · exact Or.inr (Or.inr (Or.inr (Or.inr (Or.inr (Or.inr (Or.inr (Or.inr ((by omega)))))))))
  · rw [if_neg h]; rw [hz] at h
    exact (if_pos trivial).trans (if_pos (Or.inl (by omega))).symm
theorem sp_own_st_0_22 (c : Int32) : own_st_0_22 c = if (248 ≤ c.toInt ∧ c.toInt ≤ 767) ∨ (880 ≤ c.toInt ∧ c.toInt ≤ 893) ∨ (895 ≤ c.toInt ∧ c.toInt ≤ 8191) ∨ (8204 ≤ c.toInt ∧ c.toInt ≤ 8205) ∨ (8304 ≤ c.toInt ∧ c.toInt ≤ 8591) ∨ (11264 ≤ c.toInt ∧ c.toInt ≤ 12271) ∨ (12289 ≤ c.toInt ∧ c.toInt ≤ 55295) ∨ (63744 ≤ c.toInt ∧ c.toInt ≤ 64975) ∨ (65008 ≤ c.toInt ∧ c.toInt ≤ 65533) ∨ (65536 ≤ c.toInt ∧ c.toInt ≤ 983039) then 1 else 0 := by
  have hz : (c < (248 : Int32)) ↔ c.toInt < 248 := by simp only [Int32.lt_iff_toInt_lt, Int32.reduceToInt]
  show (if c < (248 : Int32) then own_st_0_20 c else own_st_0_21 c) = _
  rw [sp_own_st_0_20, sp_own_st_0_21]
  by_cases h : c < (248 : Int32)
  · rw [if_pos h]; rw [hz] at h
    refine own_ifc ⟨fun q => ?_, fun q => ?_⟩
    · skip
      rcases q with q | q | q | q | q | q | q | q | q
      · exact absurd q (by omega)
      · exact absurd q (by omega)
      · exact absurd q (by omega)
      · exact absurd q (by omega)
      · exact absurd q (by omega)
      · exact absurd q (by omega)
      · exact absurd q (by omega)
      · exact absurd q (by omega)
      · exact absurd q (by omega)
    · skip
      rcases q with q | q | q | q | q | q | q | q | q | q
      · exact absurd q (by omega)
      · exact absurd q (by omega)
      · exact absurd q (by omega)
      · exact absurd q (by omega)
      · exact absurd q (by omega)
      · exact absurd q (by omega)
      · exact absurd q (by omega)
      · exact absurd q (by omega)
      · exact absurd q (by omega)
      · exact absurd q (by omega)
  · rw [if_neg h]; rw [hz] at h
    refine own_ifc ⟨fun q => ?_, fun q => ?_⟩
    · skip
      rcases q with q | q | q | q | q | q | q | q | q | q
      · exact Or.inl (by omega)
      · exact Or.inr (Or.inl (by omega))
      · exact Or.inr (Or.inr (Or.inl (by omega)))
      · exact Or.inr (Or.inr (Or.inr (Or.inl (by omega))))
      · exact Or.inr (Or.inr (Or.inr (Or.inr (Or.inl (by omega)))))
      · exact Or.inr (Or.inr (Or.inr (Or.inr (Or.inr (Or.inl (by omega))))))
      · exact Or.inr (Or.inr (Or.inr (Or.inr (Or.inr (Or.inr (Or.inl (by omega)))))))
      · exact Or.inr (Or.inr (Or.inr (Or.inr (Or.inr (Or.inr (Or.inr (Or.inl (by omega))))))))
      · exact Or.inr (Or.inr (Or.inr (Or.inr (Or.inr (Or.inr (Or.inr (Or.inr (Or.inl (by omega)))))))))
      · exact Or.inr (Or.inr (Or.inr (Or.inr (Or.inr (Or.inr (Or.inr (Or.inr (Or.inr ((by omega))))))))))
    · skip
      rcases q with q | q | q | q | q | q | q | q | q | q
      · exact Or.inl (by omega)
      · exact Or.inr (Or.inl (by omega))
      · exact Or.inr (Or.inr (Or.inl (by omega)))
      · exact Or.inr (Or.inr (Or.inr (Or.inl (by omega))))
      · exact Or.inr (Or.inr (Or.inr (Or.inr (Or.inl (by omega)))))
      · exact Or.inr (Or.inr (Or.inr (Or.inr (Or.inr (Or.inl (by omega))))))
      · exact Or.inr (Or.inr (Or.inr (Or.inr (Or.inr (Or.inr (Or.inl (by omega)))))))
      · exact Or.inr (Or.inr (Or.inr (Or.inr (Or.inr (Or.inr (Or.inr (Or.inl (by omega))))))))
      · exact Or.inr (Or.inr (Or.inr (Or.inr (Or.inr (Or.inr (Or.inr (Or.inr (Or.inl (by omega)))))))))
      · exact Or.inr (Or.inr (Or.inr (Or.inr (Or.inr (Or.inr (Or.inr (Or.inr (Or.inr ((by omega))))))))))
theorem sp_own_st_0_23 (c : Int32) : own_st_0_23 c = if c.toInt ≤ 246 ∨ (248 ≤ c.toInt ∧ c.toInt ≤ 767) ∨ (880 ≤ c.toInt ∧ c.toInt ≤ 893) ∨ (895 ≤ c.toInt ∧ c.toInt ≤ 8191) ∨ (8204 ≤ c.toInt ∧ c.toInt ≤ 8205) ∨ (8304 ≤ c.toInt ∧ c.toInt ≤ 8591) ∨ (11264 ≤ c.toInt ∧ c.toInt ≤ 12271) ∨ (12289 ≤ c.toInt ∧ c.toInt ≤ 55295) ∨ (63744 ≤ c.toInt ∧ c.toInt ≤ 64975) ∨ (65008 ≤ c.toInt ∧ c.toInt ≤ 65533) ∨ (65536 ≤ c.toInt ∧ c.toInt ≤ 983039) then 1 else 0 := by
  have hz : ((246 : Int32) < c) ↔ 246 < c.toInt := by simp only [Int32.lt_iff_toInt_lt, Int32.reduceToInt]
  show (if (246 : Int32) < c then own_st_0_22 c else own_st_0_1 c) = _
  rw [sp_own_st_0_22, sp_own_st_0_1]
  by_cases h : (246 : Int32) < c
  · rw [if_pos h]; rw [hz] at h
    refine own_ifc ⟨fun q => ?_, fun q => ?_⟩
    · skip
      rcases q with q | q | q | q | q | q | q | q | q | q
      · exact Or.inr (Or.inl (by omega))
      · exact Or.inr (Or.inr (Or.inl (by omega)))
      · exact Or.inr (Or.inr (Or.inr (Or.inl (by omega))))
      · exact Or.inr (Or.inr (Or.inr (Or.inr (Or.inl (by omega)))))
      · exact Or.inr (Or.inr (Or.inr (Or.inr (Or.inr (Or.inl (by omega))))))
      · exact Or.inr (Or.inr (Or.inr (Or.inr (Or.inr (Or.inr (Or.inl (by omega)))))))
      · exact Or.inr (Or.inr (Or.inr (Or.inr (Or.inr (Or.inr (Or.inr (Or.inl (by omega))))))))
      · exact Or.inr (Or.inr (Or.inr (Or.inr (Or.inr (Or.inr (Or.inr (Or.inr (Or.inl (by omega)))))))))
      · exact Or.inr (Or.inr (Or.inr (Or.inr (Or.inr (Or.inr (Or.inr (Or.inr (Or.inr (Or.inl (by omega))))))))))
      · exact Or.inr (Or.inr (Or.inr (Or.inr (Or.inr (Or.inr (Or.inr (Or.inr (Or.inr (Or.inr ((by omega)))))))))))
    · skip
      rcases q with q | q | q | q | q | q | q | q | q | q | q
      · exact absurd q (by omega)
      · exact Or.inl (by omega)
      · exact Or.inr (Or.inl (by omega))
      · exact Or.inr (Or.inr (Or.inl (by omega)))
      · exact Or.inr (Or.inr (Or.inr (Or.inl (by omega))))
      · exact Or.inr (Or.inr (Or.inr (Or.inr (Or.inl (by omega)))))
      · exact Or.inr (Or.inr (Or.inr (Or.inr (Or.inr (Or.inl (by omega))))))
      · exact Or.inr (Or.inr (Or.inr (Or.inr (Or.inr (Or.inr (Or.inl (by omega)))))))
      · exact Or.inr (Or.inr (Or.inr (Or.inr (Or.inr (Or.inr (Or.inr (Or.inl (by omega))))))))
      · exact Or.inr (Or.inr (Or.inr (Or.inr (Or.inr (Or.inr (Or.inr (Or.inr (Or.inl (by omega)))))))))
      · exact Or.inr (Or.inr (Or.inr (Or.inr (Or.inr (Or.inr (Or.inr (Or.inr (Or.inr ((by omega))))))))))
  · rw [if_neg h]; rw [hz] at h
    exact (if_pos trivial).trans (if_pos (Or.inl (by omega))).symm
theorem sp_own_st_0_24 (c : Int32) : own_st_0_24 c = if (216 ≤ c.toInt ∧ c.toInt ≤ 246) ∨ (248 ≤ c.toInt ∧ c.toInt ≤ 767) ∨ (880 ≤ c.toInt ∧ c.toInt ≤ 893) ∨ (895 ≤ c.toInt ∧ c.toInt ≤ 8191) ∨ (8204 ≤ c.toInt ∧ c.toInt ≤ 8205) ∨ (8304 ≤ c.toInt ∧ c.toInt ≤ 8591) ∨ (11264 ≤ c.toInt ∧ c.toInt ≤ 12271) ∨ (12289 ≤ c.toInt ∧ c.toInt ≤ 55295) ∨ (63744 ≤ c.toInt ∧ c.toInt ≤ 64975) ∨ (65008 ≤ c.toInt ∧ c.toInt ≤ 65533) ∨ (65536 ≤ c.toInt ∧ c.toInt ≤ 983039) then 1 else 0 := by
  have hz : (c < (216 : Int32)) ↔ c.toInt < 216 := by simp only [Int32.lt_iff_toInt_lt, Int32.reduceToInt]
  show (if c < (216 : Int32) then own_st_0_22 c else own_st_0_23 c) = _
  rw [sp_own_st_0_22, sp_own_st_0_23]
  by_cases h : c < (216 : Int32)
  · rw [if_pos h]; rw [hz] at h
    refine own_ifc ⟨fun q => ?_, fun q => ?_⟩
    · skip
      rcases q with q | q | q | q | q | q | q | q | q | q
      · exact absurd q (by omega)
      · exact absurd q (by omega)
      · exact absurd q (by omega)
      · exact absurd q (by omega)
      · exact absurd q (by omega)
      · exact absurd q (by omega)
      · exact absurd q (by omega)
      · exact absurd q (by omega)
      · exact absurd q (by omega)
      · exact absurd q (by omega)
    · skip
      rcases q with q | q | q | q | q | q | q | q | q | q | q
      · exact absurd q (by omega)
      · exact absurd q (by omega)
      · exact absurd q (by omega)
      · exact absurd q (by omega)
      · exact absurd q (by omega)
      · exact absurd q (by omega)
      · exact absurd q (by omega)
      · exact absurd q (by omega)
      · exact absurd q (by omega)
      · exact absurd q (by omega)
      · exact absurd q (by omega)
  · rw [if_neg h]; rw [hz] at h
    refine own_ifc ⟨fun q => ?_, fun q => ?_⟩
    · skip
      rcases q with q | q | q | q | q | q | q | q | q | q | q
      · exact Or.inl (by omega)
      · exact Or.inr (Or.inl (by omega))
      · exact Or.inr (Or.inr (Or.inl (by omega)))
      · exact Or.inr (Or.inr (Or.inr (Or.inl (by omega))))
      · exact Or.inr (Or.inr (Or.inr (Or.inr (Or.inl (by omega)))))
      · exact Or.inr (Or.inr (Or.inr (Or.inr (Or.inr (Or.inl (by omega))))))
      · exact Or.inr (Or.inr (Or.inr (Or.inr (Or.inr (Or.inr (Or.inl (by omega)))))))
      · exact Or.inr (Or.inr (Or.inr (Or.inr (Or.inr (Or.inr (Or.inr (Or.inl (by omega))))))))
      · exact Or.inr (Or.inr (Or.inr (Or.inr (Or.inr (Or.inr (Or.inr (Or.inr (Or.inl (by omega)))))))))
      · exact Or.inr (Or.inr (Or.inr (Or.inr (Or.inr (Or.inr (Or.inr (Or.inr (Or.inr (Or.inl (by omega))))))))))
      · exact Or.inr (Or.inr (Or.inr (Or.inr (Or.inr (Or.inr (Or.inr (Or.inr (Or.inr (Or.inr ((by omega)))))))))))
    · skip
      rcases q with q | q | q | q | q | q | q | q | q | q | q
      · exact Or.inl (by omega)
      · exact Or.inr (Or.inl (by omega))
      · exact Or.inr (Or.inr (Or.inl (by omega)))
      · exact Or.inr (Or.inr (Or.inr (Or.inl (by omega))))
      · exact Or.inr (Or.inr (Or.inr (Or.inr (Or.inl (by omega)))))
      · exact Or.inr (Or.inr (Or.inr (Or.inr (Or.inr (Or.inl (by omega))))))
      · exact Or.inr (Or.inr (Or.inr (Or.inr (Or.inr (Or.inr (Or.inl (by omega)))))))
      · exact Or.inr (Or.inr (Or.inr (Or.inr (Or.inr (Or.inr (Or.inr (Or.inl (by omega))))))))
      · exact Or.inr (Or.inr (Or.inr (Or.inr (Or.inr (Or.inr (Or.inr (Or.inr (Or.inl (by omega)))))))))
      · exact Or.inr (Or.inr (Or.inr (Or.inr (Or.inr (Or.inr (Or.inr (Or.inr (Or.inr (Or.inl (by omega))))))))))
      · exact Or.inr (Or.inr (Or.inr (Or.inr (Or.inr (Or.inr (Or.inr (Or.inr (Or.inr (Or.inr ((by omega)))))))))))
theorem sp_own_st_0_25 (c : Int32) : own_st_0_25 c = if c.toInt ≤ 214 ∨ (216 ≤ c.toInt ∧ c.toInt ≤ 246) ∨ (248 ≤ c.toInt ∧ c.toInt ≤ 767) ∨ (880 ≤ c.toInt ∧ c.toInt ≤ 893) ∨ (895 ≤ c.toInt ∧ c.toInt ≤ 8191) ∨ (8204 ≤ c.toInt ∧ c.toInt ≤ 8205) ∨ (8304 ≤ c.toInt ∧ c.toInt ≤ 8591) ∨ (11264 ≤ c.toInt ∧ c.toInt ≤ 12271) ∨ (12289 ≤ c.toInt ∧ c.toInt ≤ 55295) ∨ (63744 ≤ c.toInt ∧ c.toInt ≤ 64975) ∨ (65008 ≤ c.toInt ∧ c.toInt ≤ 65533) ∨ (65536 ≤ c.toInt ∧ c.toInt ≤ 983039) then 1 else 0 := by
  have hz : ((214 : Int32) < c) ↔ 214 < c.toInt := by simp only [Int32.lt_iff_toInt_lt, Int32.reduceToInt]
  show (if (214 : Int32) < c then own_st_0_24 c else own_st_0_1 c) = _
  rw [sp_own_st_0_24, sp_own_st_0_1]
  by_cases h : (214 : Int32) < c
  · rw [if_pos h]; rw [hz] at h
    refine own_ifc ⟨fun q => ?_, fun q => ?_⟩
    · skip
      rcases q with q | q | q | q | q | q | q | q | q | q | q
      · exact Or.inr (Or.inl (by omega))
      · exact Or.inr (Or.inr (Or.inl (by omega)))
      · exact Or.inr (Or.inr (Or.inr (Or.inl (by omega))))
      · exact Or.inr (Or.inr (Or.inr (Or.inr (Or.inl (by omega)))))
      · exact Or.inr (Or.inr (Or.inr (Or.inr (Or.inr (Or.inl (by omega))))))
      · exact Or.inr (Or.inr (Or.inr (Or.inr (Or.inr (Or.inr (Or.inl (by omega)))))))
      · exact Or.inr (Or.inr (Or.inr (Or.inr (Or.inr (Or.inr (Or.inr (Or.inl (by omega))))))))
      · exact Or.inr (Or.inr (Or.inr (Or.inr (Or.inr (Or.inr (Or.inr (Or.inr (Or.inl (by omega)))))))))
      · exact Or.inr (Or.inr (Or.inr (Or.inr (Or.inr (Or.inr (Or.inr (Or.inr (Or.inr (Or.inl (by omega))))))))))
      · exact Or.inr (Or.inr (Or.inr (Or.inr (Or.inr (Or.inr (Or.inr (Or.inr (Or.inr (Or.inr (Or.inl (by omega)))))))))))
      · exact Or.inr (Or.inr (Or.inr (Or.inr (Or.inr (Or.inr (Or.inr (Or.inr (Or.inr (Or.inr (Or.inr ((by omega))))))))))))
    · skip
      rcases q with q | q | q | q | q | q | q | q | q | q | q | q
      · exact absurd q (by omega)
      · exact Or.inl (by omega)
      · exact Or.inr (Or.inl (by omega))
      · exact Or.inr (Or.inr (Or.inl (by omega)))
      · exact Or.inr (Or.inr (Or.inr (Or.inl (by omega))))
      · exact Or.inr (Or.inr (Or.inr (Or.inr (Or.inl (by omega)))))
      · exact Or.inr (Or.inr (Or.inr (Or.inr (Or.inr (Or.inl (by omega))))))
      · exact Or.inr (Or.inr (Or.inr (Or.inr (Or.inr (Or.inr (Or.inl (by omega)))))))
      · exact Or.inr (Or.inr (Or.inr (Or.inr (Or.inr (Or.inr (Or.inr (Or.inl (by omega))))))))
      · exact Or.inr (Or.inr (Or.inr (Or.inr (Or.inr (Or.inr (Or.inr (Or.inr (Or.inl (by omega)))))))))
      · exact Or.inr (Or.inr (Or.inr (Or.inr (Or.inr (Or.inr (Or.inr (Or.inr (Or.inr (Or.inl (by omega))))))))))
      · exact Or.inr (Or.inr (Or.inr (Or.inr (Or.inr (Or.inr (Or.inr (Or.inr (Or.inr (Or.inr ((by omega)))))))))))
  · rw [if_neg h]; rw [hz] at h
    exact (if_pos trivial).trans (if_pos (Or.inl (by omega))).symm
theorem sp_own_st_0_26 (c : Int32) : own_st_0_26 c = if (192 ≤ c.toInt ∧ c.toInt ≤ 214) ∨ (216 ≤ c.toInt ∧ c.toInt ≤ 246) ∨ (248 ≤ c.toInt ∧ c.toInt ≤ 767) ∨ (880 ≤ c.toInt ∧ c.toInt ≤ 893) ∨ (895 ≤ c.toInt ∧ c.toInt ≤ 8191) ∨ (8204 ≤ c.toInt ∧ c.toInt ≤ 8205) ∨ (8304 ≤ c.toInt ∧ c.toInt ≤ 8591) ∨ (11264 ≤ c.toInt ∧ c.toInt ≤ 12271) ∨ (12289 ≤ c.toInt ∧ c.toInt ≤ 55295) ∨ (63744 ≤ c.toInt ∧ c.toInt ≤ 64975) ∨ (65008 ≤ c.toInt ∧ c.toInt ≤ 65533) ∨ (65536 ≤ c.toInt ∧ c.toInt ≤ 983039) then 1 else 0 := by
  have hz : (c < (192 : Int32)) ↔ c.toInt < 192 := by simp only [Int32.lt_iff_toInt_lt, Int32.reduceToInt]
  show (if c < (192 : Int32) then own_st_0_24 c else own_st_0_25 c) = _
  rw [sp_own_st_0_24, sp_own_st_0_25]
  by_cases h : c < (192 : Int32)
  · rw [if_pos h]; rw [hz] at h
    refine own_ifc ⟨fun q => ?_, fun q => ?_⟩
    · skip
      rcases q with q | q | q | q | q | q | q | q | q | q | q
      · exact absurd q (by omega)
      · exact absurd q (by omega)
      · exact absurd q (by omega)
      · exact absurd q (by omega)
      · exact absurd q (by omega)
      · exact absurd q (by omega)
      · exact absurd q (by omega)
      · exact absurd q (by omega)
      · exact absurd q (by omega)
      · exact absurd q (by omega)
      · exact absurd q (by omega)
    · skip
      rcases q with q | q | q | q | q | q | q | q | q | q | q | q
      · exact absurd q (by omega)
      · exact absurd q (by omega)
      · exact absurd q (by omega)
      · exact absurd q (by omega)
      · exact absurd q (by omega)
      · exact absurd q (by omega)
      · exact absurd q (by omega)
      · exact absurd q (by omega)
      · exact absurd q (by omega)
      · exact absurd q (by omega)
      · exact absurd q (by omega)
      · exact absurd q (by omega)
  · rw [if_neg h]; rw [hz] at h
    refine own_ifc ⟨fun q => ?_, fun q => ?_⟩
    · skip
      rcases q with q | q | q | q | q | q | q | q | q | q | q | q
      · exact Or.inl (by omega)
      · exact Or.inr (Or.inl (by omega))
      · exact Or.inr (Or.inr (Or.inl (by omega)))
      · exact Or.inr (Or.inr (Or.inr (Or.inl (by omega))))
      · exact Or.inr (Or.inr (Or.inr (Or.inr (Or.inl (by omega)))))
      · exact Or.inr (Or.inr (Or.inr (Or.inr (Or.inr (Or.inl (by omega))))))
      · exact Or.inr (Or.inr (Or.inr (Or.inr (Or.inr (Or.inr (Or.inl (by omega)))))))
      · exact Or.inr (Or.inr (Or.inr (Or.inr (Or.inr (Or.inr (Or.inr (Or.inl (by omega))))))))
      · exact Or.inr (Or.inr (Or.inr (Or.inr (Or.inr (Or.inr (Or.inr (Or.inr (Or.inl (by omega)))))))))
      · exact Or.inr (Or.inr (Or.inr (Or.inr (Or.inr (Or.inr (Or.inr (Or.inr (Or.inr (Or.inl (by omega))))))))))
      · exact Or.inr (Or.inr (Or.inr (Or.inr (Or.inr (Or.inr (Or.inr (Or.inr (Or.inr (Or.inr (Or.inl (by omega)))))))))))
      · exact Or.inr (Or.inr (Or.inr (Or.inr (Or.inr (Or.inr (Or.inr (Or.inr (Or.inr (Or.inr (Or.inr ((by omega))))))))))))
    · skip
      rcases q with q | q | q | q | q | q | q | q | q | q | q | q
      · exact Or.inl (by omega)
      · exact Or.inr (Or.inl (by omega))
      · exact Or.inr (Or.inr (Or.inl (by omega)))
      · exact Or.inr (Or.inr (Or.inr (Or.inl (by omega))))
      · exact Or.inr (Or.inr (Or.inr (Or.inr (Or.inl (by omega)))))
      · exact Or.inr (Or.inr (Or.inr (Or.inr (Or.inr (Or.inl (by omega))))))
      · exact Or.inr (Or.inr (Or.inr (Or.inr (Or.inr (Or.inr (Or.inl (by omega)))))))
      · exact Or.inr (Or.inr (Or.inr (Or.inr (Or.inr (Or.inr (Or.inr (Or.inl (by omega))))))))
      · exact Or.inr (Or.inr (Or.inr (Or.inr (Or.inr (Or.inr (Or.inr (Or.inr (Or.inl (by omega)))))))))
      · exact Or.inr (Or.inr (Or.inr (Or.inr (Or.inr (Or.inr (Or.inr (Or.inr (Or.inr (Or.inl (by omega))))))))))
      · exact Or.inr (Or.inr (Or.inr (Or.inr (Or.inr (Or.inr (Or.inr (Or.inr (Or.inr (Or.inr (Or.inl (by omega)))))))))))
      · exact Or.inr (Or.inr (Or.inr (Or.inr (Or.inr (Or.inr (Or.inr (Or.inr (Or.inr (Or.inr (Or.inr ((by omega))))))))))))
theorem sp_own_st_0_27 (c : Int32) : own_st_0_27 c = if c.toInt = 95 ∨ (192 ≤ c.toInt ∧ c.toInt ≤ 214) ∨ (216 ≤ c.toInt ∧ c.toInt ≤ 246) ∨ (248 ≤ c.toInt ∧ c.toInt ≤ 767) ∨ (880 ≤ c.toInt ∧ c.toInt ≤ 893) ∨ (895 ≤ c.toInt ∧ c.toInt ≤ 8191) ∨ (8204 ≤ c.toInt ∧ c.toInt ≤ 8205) ∨ (8304 ≤ c.toInt ∧ c.toInt ≤ 8591) ∨ (11264 ≤ c.toInt ∧ c.toInt ≤ 12271) ∨ (12289 ≤ c.toInt ∧ c.toInt ≤ 55295) ∨ (63744 ≤ c.toInt ∧ c.toInt ≤ 64975) ∨ (65008 ≤ c.toInt ∧ c.toInt ≤ 65533) ∨ (65536 ≤ c.toInt ∧ c.toInt ≤ 983039) then 1 else 0 := by
  have hz : (c = (95 : Int32)) ↔ c.toInt = 95 := by rw [own_eq_iff]; simp only [Int32.reduceToInt]
  show (if c = (95 : Int32) then own_st_0_1 c else own_st_0_26 c) = _
  rw [sp_own_st_0_1, sp_own_st_0_26]
  by_cases h : c = (95 : Int32)
  · rw [if_pos h]; rw [hz] at h
    exact (if_pos trivial).trans (if_pos (Or.inl (by omega))).symm
  · rw [if_neg h]; rw [hz] at h
    refine own_ifc ⟨fun q => ?_, fun q => ?_⟩
    · skip
      rcases q with q | q | q | q | q | q | q | q | q | q | q | q
      · exact Or.inr (Or.inl (by omega))
      · exact Or.inr (Or.inr (Or.inl (by omega)))
      · exact Or.inr (Or.inr (Or.inr (Or.inl (by omega))))
      · exact Or.inr (Or.inr (Or.inr (Or.inr (Or.inl (by omega)))))
      · exact Or.inr (Or.inr (Or.inr (Or.inr (Or.inr (Or.inl (by omega))))))
      · exact Or.inr (Or.inr (Or.inr (Or.inr (Or.inr (Or.inr (Or.inl (by omega)))))))
      · exact Or.inr (Or.inr (Or.inr (Or.inr (Or.inr (Or.inr (Or.inr (Or.inl (by omega))))))))
      · exact Or.inr (Or.inr (Or.inr (Or.inr (Or.inr (Or.inr (Or.inr (Or.inr (Or.inl (by omega)))))))))
      · exact Or.inr (Or.inr (Or.inr (Or.inr (Or.inr (Or.inr (Or.inr (Or.inr (Or.inr (Or.inl (by omega))))))))))
      · exact Or.inr (Or.inr (Or.inr (Or.inr (Or.inr (Or.inr (Or.inr (Or.inr (Or.inr (Or.inr (Or.inl (by omega)))))))))))
      · exact Or.inr (Or.inr (Or.inr (Or.inr (Or.inr (Or.inr (Or.inr (Or.inr (Or.inr (Or.inr (Or.inr (Or.inl (by omega))))))))))))
      · exact Or.inr (Or.inr (Or.inr (Or.inr (Or.inr (Or.inr (Or.inr (Or.inr (Or.inr (Or.inr (Or.inr (Or.inr ((by omega)))))))))))))
    · skip
      rcases q with q | q | q | q | q | q | q | q | q | q | q | q | q
      · exact absurd q (by omega)
      · exact Or.inl (by omega)
      · exact Or.inr (Or.inl (by omega))
      · exact Or.inr (Or.inr (Or.inl (by omega)))
      · exact Or.inr (Or.inr (Or.inr (Or.inl (by omega))))
      · exact Or.inr (Or.inr (Or.inr (Or.inr (Or.inl (by omega)))))
      · exact Or.inr (Or.inr (Or.inr (Or.inr (Or.inr (Or.inl (by omega))))))
      · exact Or.inr (Or.inr (Or.inr (Or.inr (Or.inr (Or.inr (Or.inl (by omega)))))))
      · exact Or.inr (Or.inr (Or.inr (Or.inr (Or.inr (Or.inr (Or.inr (Or.inl (by omega))))))))
      · exact Or.inr (Or.inr (Or.inr (Or.inr (Or.inr (Or.inr (Or.inr (Or.inr (Or.inl (by omega)))))))))
      · exact Or.inr (Or.inr (Or.inr (Or.inr (Or.inr (Or.inr (Or.inr (Or.inr (Or.inr (Or.inl (by omega))))))))))
      · exact Or.inr (Or.inr (Or.inr (Or.inr (Or.inr (Or.inr (Or.inr (Or.inr (Or.inr (Or.inr (Or.inl (by omega)))))))))))
      · exact Or.inr (Or.inr (Or.inr (Or.inr (Or.inr (Or.inr (Or.inr (Or.inr (Or.inr (Or.inr (Or.inr ((by omega))))))))))))
theorem sp_own_st_0_28 (c : Int32) : own_st_0_28 c = if c.toInt ≤ 90 ∨ c.toInt = 95 ∨ (192 ≤ c.toInt ∧ c.toInt ≤ 214) ∨ (216 ≤ c.toInt ∧ c.toInt ≤ 246) ∨ (248 ≤ c.toInt ∧ c.toInt ≤ 767) ∨ (880 ≤ c.toInt ∧ c.toInt ≤ 893) ∨ (895 ≤ c.toInt ∧ c.toInt ≤ 8191) ∨ (8204 ≤ c.toInt ∧ c.toInt ≤ 8205) ∨ (8304 ≤ c.toInt ∧ c.toInt ≤ 8591) ∨ (11264 ≤ c.toInt ∧ c.toInt ≤ 12271) ∨ (12289 ≤ c.toInt ∧ c.toInt ≤ 55295) ∨ (63744 ≤ c.toInt ∧ c.toInt ≤ 64975) ∨ (65008 ≤ c.toInt ∧ c.toInt ≤ 65533) ∨ (65536 ≤ c.toInt ∧ c.toInt ≤ 983039) then 1 else 0 := by
  have hz : ((90 : Int32) < c) ↔ 90 < c.toInt := by simp only [Int32.lt_iff_toInt_lt, Int32.reduceToInt]
  show (if (90 : Int32) < c then own_st_0_27 c else own_st_0_1 c) = _
  rw [sp_own_st_0_27, sp_own_st_0_1]
  by_cases h : (90 : Int32) < c
  · rw [if_pos h]; rw [hz] at h
    refine own_ifc ⟨fun q => ?_, fun q => ?_⟩
    · skip
      rcases q with q | q | q | q | q | q | q | q | q | q | q | q | q
      · exact Or.inr (Or.inl (by omega))
      · exact Or.inr (Or.inr (Or.inl (by omega)))
      · exact Or.inr (Or.inr (Or.inr (Or.inl (by omega))))
      · exact Or.inr (Or.inr (Or.inr (Or.inr (Or.inl (by omega)))))
      · exact Or.inr (Or.inr (Or.inr (Or.inr (Or.inr (Or.inl (by omega))))))
      · exact Or.inr (Or.inr (Or.inr (Or.inr (Or.inr (Or.inr (Or.inl (by omega)))))))
      · exact Or.inr (Or.inr (Or.inr (Or.inr (Or.inr (Or.inr (Or.inr (Or.inl (by omega))))))))
      · exact Or.inr (Or.inr (Or.inr (Or.inr (Or.inr (Or.inr (Or.inr (Or.inr (Or.inl (by omega)))))))))
      · exact Or.inr (Or.inr (Or.inr (Or.inr (Or.inr (Or.inr (Or.inr (Or.inr (Or.inr (Or.inl (by omega))))))))))
      · exact Or.inr (Or.inr (Or.inr (Or.inr (Or.inr (Or.inr (Or.inr (Or.inr (Or.inr (Or.inr (Or.inl (by omega)))))))))))
      · exact Or.inr (Or.inr (Or.inr (Or.inr (Or.inr (Or.inr (Or.inr (Or.inr (Or.inr (Or.inr (Or.inr (Or.inl (by omega))))))))))))
      · exact Or.inr (Or.inr (Or.inr (Or.inr (Or.inr (Or.inr (Or.inr (Or.inr (Or.inr (Or.inr (Or.inr (Or.inr (Or.inl (by omega)))))))))))))
      · exact Or.inr (Or.inr (Or.inr (Or.inr (Or.inr (Or.inr (Or.inr (Or.inr (Or.inr (Or.inr (Or.inr (Or.inr (Or.inr ((by omega))))))))))))))
    · skip
      rcases q with q | q | q | q | q | q | q | q | q | q | q | q | q | q
      · exact absurd q (by omega)
      · exact Or.inl (by omega)
      · exact Or.inr (Or.inl (by omega))
      · exact Or.inr (Or.inr (Or.inl (by omega)))
      · exact Or.inr (Or.inr (Or.inr (Or.inl (by omega))))
      · exact Or.inr (Or.inr (Or.inr (Or.inr (Or.inl (by omega)))))
      · exact Or.inr (Or.inr (Or.inr (Or.inr (Or.inr (Or.inl (by omega))))))
      · exact Or.inr (Or.inr (Or.inr (Or.inr (Or.inr (Or.inr (Or.inl (by omega)))))))
      · exact Or.inr (Or.inr (Or.inr (Or.inr (Or.inr (Or.inr (Or.inr (Or.inl (by omega))))))))
      · exact Or.inr (Or.inr (Or.inr (Or.inr (Or.inr (Or.inr (Or.inr (Or.inr (Or.inl (by omega)))))))))
      · exact Or.inr (Or.inr (Or.inr (Or.inr (Or.inr (Or.inr (Or.inr (Or.inr (Or.inr (Or.inl (by omega))))))))))
      · exact Or.inr (Or.inr (Or.inr (Or.inr (Or.inr (Or.inr (Or.inr (Or.inr (Or.inr (Or.inr (Or.inl (by omega)))))))))))
      · exact Or.inr (Or.inr (Or.inr (Or.inr (Or.inr (Or.inr (Or.inr (Or.inr (Or.inr (Or.inr (Or.inr (Or.inl (by omega))))))))))))
      · exact Or.inr (Or.inr (Or.inr (Or.inr (Or.inr (Or.inr (Or.inr (Or.inr (Or.inr (Or.inr (Or.inr (Or.inr ((by omega)))))))))))))
  · rw [if_neg h]; rw [hz] at h
    exact (if_pos trivial).trans (if_pos (Or.inl (by omega))).symm
theorem sp_own_st_0_29 (c : Int32) : own_st_0_29 c = if (65 ≤ c.toInt ∧ c.toInt ≤ 90) ∨ c.toInt = 95 ∨ (192 ≤ c.toInt ∧ c.toInt ≤ 214) ∨ (216 ≤ c.toInt ∧ c.toInt ≤ 246) ∨ (248 ≤ c.toInt ∧ c.toInt ≤ 767) ∨ (880 ≤ c.toInt ∧ c.toInt ≤ 893) ∨ (895 ≤ c.toInt ∧ c.toInt ≤ 8191) ∨ (8204 ≤ c.toInt ∧ c.toInt ≤ 8205) ∨ (8304 ≤ c.toInt ∧ c.toInt ≤ 8591) ∨ (11264 ≤ c.toInt ∧ c.toInt ≤ 12271) ∨ (12289 ≤ c.toInt ∧ c.toInt ≤ 55295) ∨ (63744 ≤ c.toInt ∧ c.toInt ≤ 64975) ∨ (65008 ≤ c.toInt ∧ c.toInt ≤ 65533) ∨ (65536 ≤ c.toInt ∧ c.toInt ≤ 983039) then 1 else 0 := by
  have hz : (c < (65 : Int32)) ↔ c.toInt < 65 := by simp only [Int32.lt_iff_toInt_lt, Int32.reduceToInt]
  show (if c < (65 : Int32) then own_st_0_27 c else own_st_0_28 c) = _
  rw [sp_own_st_0_27, sp_own_st_0_28]
  by_cases h : c < (65 : Int32)
  · rw [if_pos h]; rw [hz] at h
    refine own_ifc ⟨fun q => ?_, fun q => ?_⟩
    · skip
      rcases q with q | q | q | q | q | q | q | q | q | q | q | q | q
      · exact absurd q (by omega)
      · exact absurd q (by omega)
      · exact absurd q (by omega)
      · exact absurd q (by omega)
      · exact absurd q (by omega)
      · exact absurd q (by omega)
      · exact absurd q (by omega)
      · exact absurd q (by omega)
      · exact absurd q (by omega)
      · exact absurd q (by omega)
      · exact absurd q (by omega)
      · exact absurd q (by omega)
      · exact absurd q (by omega)
    · skip
      rcases q with q | q | q | q | q | q | q | q | q | q | q | q | q | q
      · exact absurd q (by omega)
      · exact absurd q (by omega)
      · exact absurd q (by omega)
      · exact absurd q (by omega)
      · exact absurd q (by omega)
      · exact absurd q (by omega)
      · exact absurd q (by omega)
      · exact absurd q (by omega)
      · exact absurd q (by omega)
      · exact absurd q (by omega)
      · exact absurd q (by omega)
      · exact absurd q (by omega)
      · exact absurd q (by omega)
      · exact absurd q (by omega)
  · rw [if_neg h]; rw [hz] at h
    refine own_ifc ⟨fun q => ?_, fun q => ?_⟩
    · skip
      rcases q with q | q | q | q | q | q | q | q | q | q | q | q | q | q
      · exact Or.inl (by omega)
      · exact Or.inr (Or.inl (by omega))
      · exact Or.inr (Or.inr (Or.inl (by omega)))
      · exact Or.inr (Or.inr (Or.inr (Or.inl (by omega))))
      · exact Or.inr (Or.inr (Or.inr (Or.inr (Or.inl (by omega)))))
      · exact Or.inr (Or.inr (Or.inr (Or.inr (Or.inr (Or.inl (by omega))))))
      · exact Or.inr (Or.inr (Or.inr (Or.inr (Or.inr (Or.inr (Or.inl (by omega)))))))
      · exact Or.inr (Or.inr (Or.inr (Or.inr (Or.inr (Or.inr (Or.inr (Or.inl (by omega))))))))
      · exact Or.inr (Or.inr (Or.inr (Or.inr (Or.inr (Or.inr (Or.inr (Or.inr (Or.inl (by omega)))))))))
      · exact Or.inr (Or.inr (Or.inr (Or.inr (Or.inr (Or.inr (Or.inr (Or.inr (Or.inr (Or.inl (by omega))))))))))
      · exact Or.inr (Or.inr (Or.inr (Or.inr (Or.inr (Or.inr (Or.inr (Or.inr (Or.inr (Or.inr (Or.inl (by omega)))))))))))
      · exact Or.inr (Or.inr (Or.inr (Or.inr (Or.inr (Or.inr (Or.inr (Or.inr (Or.inr (Or.inr (Or.inr (Or.inl (by omega))))))))))))
      · exact Or.inr (Or.inr (Or.inr (Or.inr (Or.inr (Or.inr (Or.inr (Or.inr (Or.inr (Or.inr (Or.inr (Or.inr (Or.inl (by omega)))))))))))))
      · exact Or.inr (Or.inr (Or.inr (Or.inr (Or.inr (Or.inr (Or.inr (Or.inr (Or.inr (Or.inr (Or.inr (Or.inr (Or.inr ((by omega))))))))))))))
    · skip
      rcases q with q | q | q | q | q | q | q | q | q | q | q | q | q | q
      · exact Or.inl (by omega)
      · exact Or.inr (Or.inl (by omega))
      · exact Or.inr (Or.inr (Or.inl (by omega)))
      · exact Or.inr (Or.inr (Or.inr (Or.inl (by omega))))
      · exact Or.inr (Or.inr (Or.inr (Or.inr (Or.inl (by omega)))))
      · exact Or.inr (Or.inr (Or.inr (Or.inr (Or.inr (Or.inl (by omega))))))
      · exact Or.inr (Or.inr (Or.inr (Or.inr (Or.inr (Or.inr (Or.inl (by omega)))))))
      · exact Or.inr (Or.inr (Or.inr (Or.inr (Or.inr (Or.inr (Or.inr (Or.inl (by omega))))))))
      · exact Or.inr (Or.inr (Or.inr (Or.inr (Or.inr (Or.inr (Or.inr (Or.inr (Or.inl (by omega)))))))))
      · exact Or.inr (Or.inr (Or.inr (Or.inr (Or.inr (Or.inr (Or.inr (Or.inr (Or.inr (Or.inl (by omega))))))))))
      · exact Or.inr (Or.inr (Or.inr (Or.inr (Or.inr (Or.inr (Or.inr (Or.inr (Or.inr (Or.inr (Or.inl (by omega)))))))))))
      · exact Or.inr (Or.inr (Or.inr (Or.inr (Or.inr (Or.inr (Or.inr (Or.inr (Or.inr (Or.inr (Or.inr (Or.inl (by omega))))))))))))
      · exact Or.inr (Or.inr (Or.inr (Or.inr (Or.inr (Or.inr (Or.inr (Or.inr (Or.inr (Or.inr (Or.inr (Or.inr (Or.inl (by omega)))))))))))))
      · exact Or.inr (Or.inr (Or.inr (Or.inr (Or.inr (Or.inr (Or.inr (Or.inr (Or.inr (Or.inr (Or.inr (Or.inr (Or.inr ((by omega))))))))))))))
theorem sp_own_st_0_30 (c : Int32) : own_st_0_30 c = if c.toInt ≤ 122 ∨ (192 ≤ c.toInt ∧ c.toInt ≤ 214) ∨ (216 ≤ c.toInt ∧ c.toInt ≤ 246) ∨ (248 ≤ c.toInt ∧ c.toInt ≤ 767) ∨ (880 ≤ c.toInt ∧ c.toInt ≤ 893) ∨ (895 ≤ c.toInt ∧ c.toInt ≤ 8191) ∨ (8204 ≤ c.toInt ∧ c.toInt ≤ 8205) ∨ (8304 ≤ c.toInt ∧ c.toInt ≤ 8591) ∨ (11264 ≤ c.toInt ∧ c.toInt ≤ 12271) ∨ (12289 ≤ c.toInt ∧ c.toInt ≤ 55295) ∨ (63744 ≤ c.toInt ∧ c.toInt ≤ 64975) ∨ (65008 ≤ c.toInt ∧ c.toInt ≤ 65533) ∨ (65536 ≤ c.toInt ∧ c.toInt ≤ 983039) then 1 else 0 := by
  have hz : ((122 : Int32) < c) ↔ 122 < c.toInt := by simp only [Int32.lt_iff_toInt_lt, Int32.reduceToInt]
  show (if (122 : Int32) < c then own_st_0_29 c else own_st_0_1 c) = _
  rw [sp_own_st_0_29, sp_own_st_0_1]
  by_cases h : (122 : Int32) < c
  · rw [if_pos h]; rw [hz] at h
    refine own_ifc ⟨fun q => ?_, fun q => ?_⟩
    · skip
      rcases q with q | q | q | q | q | q | q | q | q | q | q | q | q | q
      · exact absurd q (by omega)
      · exact absurd q (by omega)
      · exact Or.inr (Or.inl (by omega))
      · exact Or.inr (Or.inr (Or.inl (by omega)))
      · exact Or.inr (Or.inr (Or.inr (Or.inl (by omega))))
      · exact Or.inr (Or.inr (Or.inr (Or.inr (Or.inl (by omega)))))
      · exact Or.inr (Or.inr (Or.inr (Or.inr (Or.inr (Or.inl (by omega))))))
      · exact Or.inr (Or.inr (Or.inr (Or.inr (Or.inr (Or.inr (Or.inl (by omega)))))))
      · exact Or.inr (Or.inr (Or.inr (Or.inr (Or.inr (Or.inr (Or.inr (Or.inl (by omega))))))))
      · exact Or.inr (Or.inr (Or.inr (Or.inr (Or.inr (Or.inr (Or.inr (Or.inr (Or.inl (by omega)))))))))
      · exact Or.inr (Or.inr (Or.inr (Or.inr (Or.inr (Or.inr (Or.inr (Or.inr (Or.inr (Or.inl (by omega))))))))))
      · exact Or.inr (Or.inr (Or.inr (Or.inr (Or.inr (Or.inr (Or.inr (Or.inr (Or.inr (Or.inr (Or.inl (by omega)))))))))))
      · exact Or.inr (Or.inr (Or.inr (Or.inr (Or.inr (Or.inr (Or.inr (Or.inr (Or.inr (Or.inr (Or.inr (Or.inl (by omega))))))))))))
      · exact Or.inr (Or.inr (Or.inr (Or.inr (Or.inr (Or.inr (Or.inr (Or.inr (Or.inr (Or.inr (Or.inr (Or.inr ((by omega)))))))))))))
    · skip
      rcases q with q | q | q | q | q | q | q | q | q | q | q | q | q
      · exact absurd q (by omega)
      · exact Or.inr (Or.inr (Or.inl (by omega)))
      · exact Or.inr (Or.inr (Or.inr (Or.inl (by omega))))
      · exact Or.inr (Or.inr (Or.inr (Or.inr (Or.inl (by omega)))))
      · exact Or.inr (Or.inr (Or.inr (Or.inr (Or.inr (Or.inl (by omega))))))
      · exact Or.inr (Or.inr (Or.inr (Or.inr (Or.inr (Or.inr (Or.inl (by omega)))))))
      · exact Or.inr (Or.inr (Or.inr (Or.inr (Or.inr (Or.inr (Or.inr (Or.inl (by omega))))))))
      · exact Or.inr (Or.inr (Or.inr (Or.inr (Or.inr (Or.inr (Or.inr (Or.inr (Or.inl (by omega)))))))))
      · exact Or.inr (Or.inr (Or.inr (Or.inr (Or.inr (Or.inr (Or.inr (Or.inr (Or.inr (Or.inl (by omega))))))))))
      · exact Or.inr (Or.inr (Or.inr (Or.inr (Or.inr (Or.inr (Or.inr (Or.inr (Or.inr (Or.inr (Or.inl (by omega)))))))))))
      · exact Or.inr (Or.inr (Or.inr (Or.inr (Or.inr (Or.inr (Or.inr (Or.inr (Or.inr (Or.inr (Or.inr (Or.inl (by omega))))))))))))
      · exact Or.inr (Or.inr (Or.inr (Or.inr (Or.inr (Or.inr (Or.inr (Or.inr (Or.inr (Or.inr (Or.inr (Or.inr (Or.inl (by omega)))))))))))))
      · exact Or.inr (Or.inr (Or.inr (Or.inr (Or.inr (Or.inr (Or.inr (Or.inr (Or.inr (Or.inr (Or.inr (Or.inr (Or.inr ((by omega))))))))))))))
  · rw [if_neg h]; rw [hz] at h
    exact (if_pos trivial).trans (if_pos (Or.inl (by omega))).symm
theorem sp_own_st_0_31 (c : Int32) : own_st_0_31 c = if (65 ≤ c.toInt ∧ c.toInt ≤ 90) ∨ c.toInt = 95 ∨ (97 ≤ c.toInt ∧ c.toInt ≤ 122) ∨ (192 ≤ c.toInt ∧ c.toInt ≤ 214) ∨ (216 ≤ c.toInt ∧ c.toInt ≤ 246) ∨ (248 ≤ c.toInt ∧ c.toInt ≤ 767) ∨ (880 ≤ c.toInt ∧ c.toInt ≤ 893) ∨ (895 ≤ c.toInt ∧ c.toInt ≤ 8191) ∨ (8204 ≤ c.toInt ∧ c.toInt ≤ 8205) ∨ (8304 ≤ c.toInt ∧ c.toInt ≤ 8591) ∨ (11264 ≤ c.toInt ∧ c.toInt ≤ 12271) ∨ (12289 ≤ c.toInt ∧ c.toInt ≤ 55295) ∨ (63744 ≤ c.toInt ∧ c.toInt ≤ 64975) ∨ (65008 ≤ c.toInt ∧ c.toInt ≤ 65533) ∨ (65536 ≤ c.toInt ∧ c.toInt ≤ 983039) then 1 else 0 := by
  have hz : (c < (97 : Int32)) ↔ c.toInt < 97 := by simp only [Int32.lt_iff_toInt_lt, Int32.reduceToInt]
  show (if c < (97 : Int32) then own_st_0_29 c else own_st_0_30 c) = _
  rw [sp_own_st_0_29, sp_own_st_0_30]
  by_cases h : c < (97 : Int32)
  · rw [if_pos h]; rw [hz] at h
    refine own_ifc ⟨fun q => ?_, fun q => ?_⟩
    · skip
      rcases q with q | q | q | q | q | q | q | q | q | q | q | q | q | q
      · exact Or.inl (by omega)
      · exact Or.inr (Or.inl (by omega))
      · exact absurd q (by omega)
      · exact absurd q (by omega)
      · exact absurd q (by omega)
      · exact absurd q (by omega)
      · exact absurd q (by omega)
      · exact absurd q (by omega)
      · exact absurd q (by omega)
      · exact absurd q (by omega)
      · exact absurd q (by omega)
      · exact absurd q (by omega)
      · exact absurd q (by omega)
      · exact absurd q (by omega)
    · skip
      rcases q with q | q | q | q | q | q | q | q | q | q | q | q | q | q | q
      · exact Or.inl (by omega)
      · exact Or.inr (Or.inl (by omega))
      · exact absurd q (by omega)
      · exact absurd q (by omega)
      · exact absurd q (by omega)
      · exact absurd q (by omega)
      · exact absurd q (by omega)
      · exact absurd q (by omega)
      · exact absurd q (by omega)
      · exact absurd q (by omega)
      · exact absurd q (by omega)
      · exact absurd q (by omega)
      · exact absurd q (by omega)
      · exact absurd q (by omega)
      · exact absurd q (by omega)
  · rw [if_neg h]; rw [hz] at h
    refine own_ifc ⟨fun q => ?_, fun q => ?_⟩
    · skip
      rcases q with q | q | q | q | q | q | q | q | q | q | q | q | q
      · exact Or.inr (Or.inr (Or.inl (by omega)))
      · exact Or.inr (Or.inr (Or.inr (Or.inl (by omega))))
      · exact Or.inr (Or.inr (Or.inr (Or.inr (Or.inl (by omega)))))
      · exact Or.inr (Or.inr (Or.inr (Or.inr (Or.inr (Or.inl (by omega))))))
      · exact Or.inr (Or.inr (Or.inr (Or.inr (Or.inr (Or.inr (Or.inl (by omega)))))))
      · exact Or.inr (Or.inr (Or.inr (Or.inr (Or.inr (Or.inr (Or.inr (Or.inl (by omega))))))))
      · exact Or.inr (Or.inr (Or.inr (Or.inr (Or.inr (Or.inr (Or.inr (Or.inr (Or.inl (by omega)))))))))
      · exact Or.inr (Or.inr (Or.inr (Or.inr (Or.inr (Or.inr (Or.inr (Or.inr (Or.inr (Or.inl (by omega))))))))))
      · exact Or.inr (Or.inr (Or.inr (Or.inr (Or.inr (Or.inr (Or.inr (Or.inr (Or.inr (Or.inr (Or.inl (by omega)))))))))))
      · exact Or.inr (Or.inr (Or.inr (Or.inr (Or.inr (Or.inr (Or.inr (Or.inr (Or.inr (Or.inr (Or.inr (Or.inl (by omega))))))))))))
      · exact Or.inr (Or.inr (Or.inr (Or.inr (Or.inr (Or.inr (Or.inr (Or.inr (Or.inr (Or.inr (Or.inr (Or.inr (Or.inl (by omega)))))))))))))
      · exact Or.inr (Or.inr (Or.inr (Or.inr (Or.inr (Or.inr (Or.inr (Or.inr (Or.inr (Or.inr (Or.inr (Or.inr (Or.inr (Or.inl (by omega))))))))))))))
      · exact Or.inr (Or.inr (Or.inr (Or.inr (Or.inr (Or.inr (Or.inr (Or.inr (Or.inr (Or.inr (Or.inr (Or.inr (Or.inr (Or.inr ((by omega)))))))))))))))
    · skip
      rcases q with q | q | q | q | q | q | q | q | q | q | q | q | q | q | q
      · exact absurd q (by omega)
      · exact absurd q (by omega)
      · exact Or.inl (by omega)
      · exact Or.inr (Or.inl (by omega))
      · exact Or.inr (Or.inr (Or.inl (by omega)))
      · exact Or.inr (Or.inr (Or.inr (Or.inl (by omega))))
      · exact Or.inr (Or.inr (Or.inr (Or.inr (Or.inl (by omega)))))
      · exact Or.inr (Or.inr (Or.inr (Or.inr (Or.inr (Or.inl (by omega))))))
      · exact Or.inr (Or.inr (Or.inr (Or.inr (Or.inr (Or.inr (Or.inl (by omega)))))))
      · exact Or.inr (Or.inr (Or.inr (Or.inr (Or.inr (Or.inr (Or.inr (Or.inl (by omega))))))))
      · exact Or.inr (Or.inr (Or.inr (Or.inr (Or.inr (Or.inr (Or.inr (Or.inr (Or.inl (by omega)))))))))
      · exact Or.inr (Or.inr (Or.inr (Or.inr (Or.inr (Or.inr (Or.inr (Or.inr (Or.inr (Or.inl (by omega))))))))))
      · exact Or.inr (Or.inr (Or.inr (Or.inr (Or.inr (Or.inr (Or.inr (Or.inr (Or.inr (Or.inr (Or.inl (by omega)))))))))))
      · exact Or.inr (Or.inr (Or.inr (Or.inr (Or.inr (Or.inr (Or.inr (Or.inr (Or.inr (Or.inr (Or.inr (Or.inl (by omega))))))))))))
      · exact Or.inr (Or.inr (Or.inr (Or.inr (Or.inr (Or.inr (Or.inr (Or.inr (Or.inr (Or.inr (Or.inr (Or.inr ((by omega)))))))))))))
theorem sp_own_rf_0_1 (c : Int32) : own_rf_0_1 c = if False then 1 else 0 := rfl
theorem sp_own_rf_0_2 (c : Int32) : own_rf_0_2 c = if False then 1 else 0 := rfl
theorem sp_own_rf_0_3 (c : Int32) : own_rf_0_3 c = if True then 1 else 0 := rfl
theorem sp_own_rf_0_4 (c : Int32) : own_rf_0_4 c = if c.toInt ≤ 65533 then 1 else 0 := by
  have hz : ((65533 : Int32) < c) ↔ 65533 < c.toInt := by simp only [Int32.lt_iff_toInt_lt, Int32.reduceToInt]
  show (if (65533 : Int32) < c then own_rf_0_2 c else own_rf_0_3 c) = _
  rw [sp_own_rf_0_2, sp_own_rf_0_3]
  by_cases h : (65533 : Int32) < c
  · rw [if_pos h]; rw [hz] at h
    exact (if_neg (fun q => q)).trans (if_neg (fun q => by
        omega
        )).symm
  · rw [if_neg h]; rw [hz] at h
    exact (if_pos trivial).trans (if_pos ((by omega))).symm
theorem sp_own_rf_0_5 (c : Int32) : own_rf_0_5 c = if False then 1 else 0 := rfl
theorem sp_own_rf_0_6 (c : Int32) : own_rf_0_6 c = if (65008 ≤ c.toInt ∧ c.toInt ≤ 65533) then 1 else 0 := by
  have hz : (c < (65008 : Int32)) ↔ c.toInt < 65008 := by simp only [Int32.lt_iff_toInt_lt, Int32.reduceToInt]
  show (if c < (65008 : Int32) then own_rf_0_5 c else own_rf_0_4 c) = _
  rw [sp_own_rf_0_5, sp_own_rf_0_4]
  by_cases h : c < (65008 : Int32)
  · rw [if_pos h]; rw [hz] at h
    exact (if_neg (fun q => q)).trans (if_neg (fun q => by
        omega
        )).symm
  · rw [if_neg h]; rw [hz] at h
    refine own_ifc ⟨fun q => ?_, fun q => ?_⟩
    · skip
      exact (by omega)
    · skip
      exact (by omega)
theorem sp_own_rf_0_7 (c : Int32) : own_rf_0_7 c = if True then 1 else 0 := rfl
theorem sp_own_rf_0_8 (c : Int32) : own_rf_0_8 c = if c.toInt ≤ 64975 ∨ (65008 ≤ c.toInt ∧ c.toInt ≤ 65533) then 1 else 0 := by
  have hz : ((64975 : Int32) < c) ↔ 64975 < c.toInt := by simp only [Int32.lt_iff_toInt_lt, Int32.reduceToInt]
  show (if (64975 : Int32) < c then own_rf_0_6 c else own_rf_0_7 c) = _
  rw [sp_own_rf_0_6, sp_own_rf_0_7]
  by_cases h : (64975 : Int32) < c
  · rw [if_pos h]; rw [hz] at h
    refine own_ifc ⟨fun q => ?_, fun q => ?_⟩
    · skip
      exact Or.inr ((by omega))
    · skip
      rcases q with q | q
      · exact absurd q (by omega)
      · exact (by omega)
  · rw [if_neg h]; rw [hz] at h
    exact (if_pos trivial).trans (if_pos (Or.inl (by omega))).symm
theorem sp_own_rf_0_9 (c : Int32) : own_rf_0_9 c = if False then 1 else 0 := rfl
theorem sp_own_rf_0_10 (c : Int32) : own_rf_0_10 c = if (63744 ≤ c.toInt ∧ c.toInt ≤ 64975) ∨ (65008 ≤ c.toInt ∧ c.toInt ≤ 65533) then 1 else 0 := by
  have hz : (c < (63744 : Int32)) ↔ c.toInt < 63744 := by simp only [Int32.lt_iff_toInt_lt, Int32.reduceToInt]
  show (if c < (63744 : Int32) then own_rf_0_9 c else own_rf_0_8 c) = _
  rw [sp_own_rf_0_9, sp_own_rf_0_8]
  by_cases h : c < (63744 : Int32)
  · rw [if_pos h]; rw [hz] at h
    exact (if_neg (fun q => q)).trans (if_neg (fun q => by
        rcases q with q | q <;> omega
        )).symm
  · rw [if_neg h]; rw [hz] at h
    refine own_ifc ⟨fun q => ?_, fun q => ?_⟩
    · skip
      rcases q with q | q
      · exact Or.inl (by omega)
      · exact Or.inr ((by omega))
    · skip
      rcases q with q | q
      · exact Or.inl (by omega)
      · exact Or.inr ((by omega))
theorem sp_own_rf_0_11 (c : Int32) : own_rf_0_11 c = if True then 1 else 0 := rfl
theorem sp_own_rf_0_12 (c : Int32) : own_rf_0_12 c = if c.toInt ≤ 55295 ∨ (63744 ≤ c.toInt ∧ c.toInt ≤ 64975) ∨ (65008 ≤ c.toInt ∧ c.toInt ≤ 65533) then 1 else 0 := by
  have hz : ((55295 : Int32) < c) ↔ 55295 < c.toInt := by simp only [Int32.lt_iff_toInt_lt, Int32.reduceToInt]
  show (if (55295 : Int32) < c then own_rf_0_10 c else own_rf_0_11 c) = _
  rw [sp_own_rf_0_10, sp_own_rf_0_11]
  by_cases h : (55295 : Int32) < c
  · rw [if_pos h]; rw [hz] at h
    refine own_ifc ⟨fun q => ?_, fun q => ?_⟩
    · skip
      rcases q with q | q
      · exact Or.inr (Or.inl (by omega))
      · exact Or.inr (Or.inr ((by omega)))
    · skip
      rcases q with q | q | q
      · exact absurd q (by omega)
      · exact Or.inl (by omega)
      · exact Or.inr ((by omega))
  · rw [if_neg h]; rw [hz] at h
    exact (if_pos trivial).trans (if_pos (Or.inl (by omega))).symm
theorem sp_own_rf_0_13 (c : Int32) : own_rf_0_13 c = if False then 1 else 0 := rfl
theorem sp_own_rf_0_14 (c : Int32) : own_rf_0_14 c = if (12289 ≤ c.toInt ∧ c.toInt ≤ 55295) ∨ (63744 ≤ c.toInt ∧ c.toInt ≤ 64975) ∨ (65008 ≤ c.toInt ∧ c.toInt ≤ 65533) then 1 else 0 := by
  have hz : ((12288 : Int32) < c) ↔ 12288 < c.toInt := by simp only [Int32.lt_iff_toInt_lt, Int32.reduceToInt]
  show (if (12288 : Int32) < c then own_rf_0_12 c else own_rf_0_13 c) = _
  rw [sp_own_rf_0_12, sp_own_rf_0_13]
  by_cases h : (12288 : Int32) < c
  · rw [if_pos h]; rw [hz] at h
    refine own_ifc ⟨fun q => ?_, fun q => ?_⟩
    · skip
      rcases q with q | q | q
      · exact Or.inl (by omega)
      · exact Or.inr (Or.inl (by omega))
      · exact Or.inr (Or.inr ((by omega)))
    · skip
      rcases q with q | q | q
      · exact Or.inl (by omega)
      · exact Or.inr (Or.inl (by omega))
      · exact Or.inr (Or.inr ((by omega)))
  · rw [if_neg h]; rw [hz] at h
    exact (if_neg (fun q => q)).trans (if_neg (fun q => by
        rcases q with q | q | q <;> omega
        )).symm
theorem sp_own_rf_0_15 (c : Int32) : own_rf_0_15 c = if True then 1 else 0 := rfl
theorem sp_own_rf_0_16 (c : Int32) : own_rf_0_16 c = if c.toInt ≤ 12271 ∨ (12289 ≤ c.toInt ∧ c.toInt ≤ 55295) ∨ (63744 ≤ c.toInt ∧ c.toInt ≤ 64975) ∨ (65008 ≤ c.toInt ∧ c.toInt ≤ 65533) then 1 else 0 := by
  have hz : ((12271 : Int32) < c) ↔ 12271 < c.toInt := by simp only [Int32.lt_iff_toInt_lt, Int32.reduceToInt]
  show (if (12271 : Int32) < c then own_rf_0_14 c else own_rf_0_15 c) = _
  rw [sp_own_rf_0_14, sp_own_rf_0_15]
  by_cases h : (12271 : Int32) < c
  · rw [if_pos h]; rw [hz] at h
    refine own_ifc ⟨fun q => ?_, fun q => ?_⟩
    · skip
      rcases q with q | q | q
      · exact Or.inr (Or.inl (by omega))
      · exact Or.inr (Or.inr (Or.inl (by omega)))
      · exact Or.inr (Or.inr (Or.inr ((by omega))))
    · skip
      rcases q with q | q | q | q
      · exact absurd q (by omega)
      · exact Or.inl (by omega)
      · exact Or.inr (Or.inl (by omega))
      · exact Or.inr (Or.inr ((by omega)))
  · rw [if_neg h]; rw [hz] at h
    exact (if_pos trivial).trans (if_pos (Or.inl (by omega))).symm
theorem sp_own_rf_0_17 (c : Int32) : own_rf_0_17 c = if False then 1 else 0 := rfl
theorem sp_own_rf_0_18 (c : Int32) : own_rf_0_18 c = if (11264 ≤ c.toInt ∧ c.toInt ≤ 12271) ∨ (12289 ≤ c.toInt ∧ c.toInt ≤ 55295) ∨ (63744 ≤ c.toInt ∧ c.toInt ≤ 64975) ∨ (65008 ≤ c.toInt ∧ c.toInt ≤ 65533) then 1 else 0 := by
  have hz : (c < (11264 : Int32)) ↔ c.toInt < 11264 := by simp only [Int32.lt_iff_toInt_lt, Int32.reduceToInt]
  show (if c < (11264 : Int32) then own_rf_0_17 c else own_rf_0_16 c) = _
  rw [sp_own_rf_0_17, sp_own_rf_0_16]
  by_cases h : c < (11264 : Int32)
  · rw [if_pos h]; rw [hz] at h
    exact (if_neg (fun q => q)).trans (if_neg (fun q => by
        rcases q with q | q | q | q <;> omega
        )).symm
  · rw [if_neg h]; rw [hz] at h
    refine own_ifc ⟨fun q => ?_, fun q => ?_⟩
    · skip
      rcases q with q | q | q | q
      · exact Or.inl (by omega)
      · exact Or.inr (Or.inl (by omega))
      · exact Or.inr (Or.inr (Or.inl (by omega)))
      · exact Or.inr (Or.inr (Or.inr ((by omega))))
    · skip
      rcases q with q | q | q | q
      · exact Or.inl (by omega)
      · exact Or.inr (Or.inl (by omega))
      · exact Or.inr (Or.inr (Or.inl (by omega)))
      · exact Or.inr (Or.inr (Or.inr ((by omega))))
theorem sp_own_rf_0_19 (c : Int32) : own_rf_0_19 c = if True then 1 else 0 := rfl
theorem sp_own_rf_0_20 (c : Int32) : own_rf_0_20 c = if c.toInt ≤ 8591 ∨ (11264 ≤ c.toInt ∧ c.toInt ≤ 12271) ∨ (12289 ≤ c.toInt ∧ c.toInt ≤ 55295) ∨ (63744 ≤ c.toInt ∧ c.toInt ≤ 64975) ∨ (65008 ≤ c.toInt ∧ c.toInt ≤ 65533) then 1 else 0 := by
  have hz : ((8591 : Int32) < c) ↔ 8591 < c.toInt := by simp only [Int32.lt_iff_toInt_lt, Int32.reduceToInt]
  show (if (8591 : Int32) < c then own_rf_0_18 c else own_rf_0_19 c) = _
  rw [sp_own_rf_0_18, sp_own_rf_0_19]
  by_cases h : (8591 : Int32) < c
  · rw [if_pos h]; rw [hz] at h
    refine own_ifc ⟨fun q => ?_, fun q => ?_⟩
    · skip
      rcases q with q | q | q | q
      · exact Or.inr (Or.inl (by omega))
      · exact Or.inr (Or.inr (Or.inl (by omega)))
      · exact Or.inr (Or.inr (Or.inr (Or.inl (by omega))))
      · exact Or.inr (Or.inr (Or.inr (Or.inr ((by omega)))))
    · skip
      rcases q with q | q | q | q | q
      · exact absurd q (by omega)
      · exact Or.inl (by omega)
      · exact Or.inr (Or.inl (by omega))
      · exact Or.inr (Or.inr (Or.inl (by omega)))
      · exact Or.inr (Or.inr (Or.inr ((by omega))))
  · rw [if_neg h]; rw [hz] at h
    exact (if_pos trivial).trans (if_pos (Or.inl (by omega))).symm
theorem sp_own_rf_0_21 (c : Int32) : own_rf_0_21 c = if True then 1 else 0 := rfl
theorem sp_own_rf_0_22 (c : Int32) : own_rf_0_22 c = if False then 1 else 0 := rfl
theorem sp_own_rf_0_23 (c : Int32) : own_rf_0_23 c = if c.toInt = 8205 then 1 else 0 := by
  have hz : (c = (8205 : Int32)) ↔ c.toInt = 8205 := by rw [own_eq_iff]; simp only [Int32.reduceToInt]
  show (if c = (8205 : Int32) then own_rf_0_21 c else own_rf_0_22 c) = _
  rw [sp_own_rf_0_21, sp_own_rf_0_22]
  by_cases h : c = (8205 : Int32)
  · rw [if_pos h]; rw [hz] at h
    exact (if_pos trivial).trans (if_pos ((by omega))).symm
  · rw [if_neg h]; rw [hz] at h
    exact (if_neg (fun q => q)).trans (if_neg (fun q => by
        omega
        )).symm
theorem sp_own_rf_0_24 (c : Int32) : own_rf_0_24 c = if (8204 ≤ c.toInt ∧ c.toInt ≤ 8205) then 1 else 0 := by
  have hz : (c = (8204 : Int32)) ↔ c.toInt = 8204 := by rw [own_eq_iff]; simp only [Int32.reduceToInt]
  show (if c = (8204 : Int32) then own_rf_0_21 c else own_rf_0_23 c) = _
  rw [sp_own_rf_0_21, sp_own_rf_0_23]
  by_cases h : c = (8204 : Int32)
  · rw [if_pos h]; rw [hz] at h
    exact (if_pos trivial).trans (if_pos ((by omega))).symm
  · rw [if_neg h]; rw [hz] at h
    refine own_ifc ⟨fun q => ?_, fun q => ?_⟩
    · skip
      exact (by omega)
    · skip
      exact (by omega)
theorem sp_own_rf_0_25 (c : Int32) : own_rf_0_25 c = if (8204 ≤ c.toInt ∧ c.toInt ≤ 8205) ∨ (8304 ≤ c.toInt ∧ c.toInt ≤ 8591) ∨ (11264 ≤ c.toInt ∧ c.toInt ≤ 12271) ∨ (12289 ≤ c.toInt ∧ c.toInt ≤ 55295) ∨ (63744 ≤ c.toInt ∧ c.toInt ≤ 64975) ∨ (65008 ≤ c.toInt ∧ c.toInt ≤ 65533) then 1 else 0 := by
  have hz : (c < (8304 : Int32)) ↔ c.toInt < 8304 := by simp only [Int32.lt_iff_toInt_lt, Int32.reduceToInt]
  show (if c < (8304 : Int32) then own_rf_0_24 c else own_rf_0_20 c) = _
  rw [sp_own_rf_0_24, sp_own_rf_0_20]
  by_cases h : c < (8304 : Int32)
  · rw [if_pos h]; rw [hz] at h
    refine own_ifc ⟨fun q => ?_, fun q => ?_⟩
    · skip
      exact Or.inl (by omega)
    · skip
      rcases q with q | q | q | q | q | q
      · exact (by omega)
      · exact absurd q (by omega)
      · exact absurd q (by omega)
      · exact absurd q (by omega)
      · exact absurd q (by omega)
      · exact absurd q (by omega)
  · rw [if_neg h]; rw [hz] at h
    refine own_ifc ⟨fun q => ?_, fun q => ?_⟩
    · skip
      rcases q with q | q | q | q | q
      · exact Or.inr (Or.inl (by omega))
      · exact Or.inr (Or.inr (Or.inl (by omega)))
      · exact Or.inr (Or.inr (Or.inr (Or.inl (by omega))))
      · exact Or.inr (Or.inr (Or.inr (Or.inr (Or.inl (by omega)))))
      · exact Or.inr (Or.inr (Or.inr (Or.inr (Or.inr ((by omega))))))
    · skip
      rcases q with q | q | q | q | q | q
      · exact absurd q (by omega)
      · exact Or.inl (by omega)
      · exact Or.inr (Or.inl (by omega))
      · exact Or.inr (Or.inr (Or.inl (by omega)))
      · exact Or.inr (Or.inr (Or.inr (Or.inl (by omega))))
      · exact Or.inr (Or.inr (Or.inr (Or.inr ((by omega)))))
theorem sp_own_rf_0_26 (c : Int32) : own_rf_0_26 c = if False then 1 else 0 := rfl
theorem sp_own_rf_0_27 (c : Int32) : own_rf_0_27 c = if True then 1 else 0 := rfl
theorem sp_own_rf_0_28 (c : Int32) : own_rf_0_28 c = if c.toInt ≤ 893 ∨ 895 ≤ c.toInt then 1 else 0 := by
  have hz : (c = (894 : Int32)) ↔ c.toInt = 894 := by rw [own_eq_iff]; simp only [Int32.reduceToInt]
  show (if c = (894 : Int32) then own_rf_0_26 c else own_rf_0_27 c) = _
  rw [sp_own_rf_0_26, sp_own_rf_0_27]
  by_cases h : c = (894 : Int32)
  · rw [if_pos h]; rw [hz] at h
    exact (if_neg (fun q => q)).trans (if_neg (fun q => by
        rcases q with q | q <;> omega
        )).symm
  · rw [if_neg h]; rw [hz] at h
    rcases (show c.toInt < 894 ∨ 894 < c.toInt by omega) with u | u
    · exact (if_pos trivial).trans (if_pos (Or.inl (by omega))).symm
    · exact (if_pos trivial).trans (if_pos (Or.inr ((by omega)))).symm
theorem sp_own_rf_0_29 (c : Int32) : own_rf_0_29 c = if c.toInt ≤ 893 ∨ (895 ≤ c.toInt ∧ c.toInt ≤ 8191) ∨ (8204 ≤ c.toInt ∧ c.toInt ≤ 8205) ∨ (8304 ≤ c.toInt ∧ c.toInt ≤ 8591) ∨ (11264 ≤ c.toInt ∧ c.toInt ≤ 12271) ∨ (12289 ≤ c.toInt ∧ c.toInt ≤ 55295) ∨ (63744 ≤ c.toInt ∧ c.toInt ≤ 64975) ∨ (65008 ≤ c.toInt ∧ c.toInt ≤ 65533) then 1 else 0 := by
  have hz : ((8191 : Int32) < c) ↔ 8191 < c.toInt := by simp only [Int32.lt_iff_toInt_lt, Int32.reduceToInt]
  show (if (8191 : Int32) < c then own_rf_0_25 c else own_rf_0_28 c) = _
  rw [sp_own_rf_0_25, sp_own_rf_0_28]
  by_cases h : (8191 : Int32) < c
  · rw [if_pos h]; rw [hz] at h
    refine own_ifc ⟨fun q => ?_, fun q => ?_⟩
    · skip
      rcases q with q | q | q | q | q | q
      · exact Or.inr (Or.inr (Or.inl (by omega)))
      · exact Or.inr (Or.inr (Or.inr (Or.inl (by omega))))
      · exact Or.inr (Or.inr (Or.inr (Or.inr (Or.inl (by omega)))))
      · exact Or.inr (Or.inr (Or.inr (Or.inr (Or.inr (Or.inl (by omega))))))
      · exact Or.inr (Or.inr (Or.inr (Or.inr (Or.inr (Or.inr (Or.inl (by omega)))))))
      · exact Or.inr (Or.inr (Or.inr (Or.inr (Or.inr (Or.inr (Or.inr ((by omega))))))))
    · skip
      rcases q with q | q | q | q | q | q | q | q
      · exact absurd q (by omega)
      · exact absurd q (by omega)
      · exact Or.inl (by omega)
      · exact Or.inr (Or.inl (by omega))
      · exact Or.inr (Or.inr (Or.inl (by omega)))
      · exact Or.inr (Or.inr (Or.inr (Or.inl (by omega))))
      · exact Or.inr (Or.inr (Or.inr (Or.inr (Or.inl (by omega)))))
      · exact Or.inr (Or.inr (Or.inr (Or.inr (Or.inr ((by omega))))))
  · rw [if_neg h]; rw [hz] at h
    refine own_ifc ⟨fun q => ?_, fun q => ?_⟩
    · skip
      rcases q with q | q
      · exact Or.inl (by omega)
      · exact Or.inr (Or.inl (by omega))
    · skip
      rcases q with q | q | q | q | q | q | q | q
      · exact Or.inl (by omega)
      · exact Or.inr ((by omega))
      · exact absurd q (by omega)
      · exact absurd q (by omega)
      · exact absurd q (by omega)
      · exact absurd q (by omega)
      · exact absurd q (by omega)
      · exact absurd q (by omega)
theorem sp_own_rf_0_30 (c : Int32) : own_rf_0_30 c = if False then 1 else 0 := rfl
theorem sp_own_rf_0_31 (c : Int32) : own_rf_0_31 c = if (880 ≤ c.toInt ∧ c.toInt ≤ 893) ∨ (895 ≤ c.toInt ∧ c.toInt ≤ 8191) ∨ (8204 ≤ c.toInt ∧ c.toInt ≤ 8205) ∨ (8304 ≤ c.toInt ∧ c.toInt ≤ 8591) ∨ (11264 ≤ c.toInt ∧ c.toInt ≤ 12271) ∨ (12289 ≤ c.toInt ∧ c.toInt ≤ 55295) ∨ (63744 ≤ c.toInt ∧ c.toInt ≤ 64975) ∨ (65008 ≤ c.toInt ∧ c.toInt ≤ 65533) then 1 else 0 := by
  have hz : (c < (880 : Int32)) ↔ c.toInt < 880 := by simp only [Int32.lt_iff_toInt_lt, Int32.reduceToInt]
  show (if c < (880 : Int32) then own_rf_0_30 c else own_rf_0_29 c) = _
  rw [sp_own_rf_0_30, sp_own_rf_0_29]
  by_cases h : c < (880 : Int32)
  · rw [if_pos h]; rw [hz] at h
    exact (if_neg (fun q => q)).trans (if_neg (fun q => by
        rcases q with q | q | q | q | q | q | q | q <;> omega
        )).symm
  · rw [if_neg h]; rw [hz] at h
    refine own_ifc ⟨fun q => ?_, fun q => ?_⟩
    · skip
      rcases q with q | q | q | q | q | q | q | q
      · exact Or.inl (by omega)
      · exact Or.inr (Or.inl (by omega))
      · exact Or.inr (Or.inr (Or.inl (by omega)))
      · exact Or.inr (Or.inr (Or.inr (Or.inl (by omega))))
      · exact Or.inr (Or.inr (Or.inr (Or.inr (Or.inl (by omega)))))
      · exact Or.inr (Or.inr (Or.inr (Or.inr (Or.inr (Or.inl (by omega))))))
      · exact Or.inr (Or.inr (Or.inr (Or.inr (Or.inr (Or.inr (Or.inl (by omega)))))))
      · exact Or.inr (Or.inr (Or.inr (Or.inr (Or.inr (Or.inr (Or.inr ((by omega))))))))
    · skip
      rcases q with q | q | q | q | q | q | q | q
      · exact Or.inl (by omega)
      · exact Or.inr (Or.inl (by omega))
      · exact Or.inr (Or.inr (Or.inl (by omega)))
      · exact Or.inr (Or.inr (Or.inr (Or.inl (by omega))))
      · exact Or.inr (Or.inr (Or.inr (Or.inr (Or.inl (by omega)))))
      · exact Or.inr (Or.inr (Or.inr (Or.inr (Or.inr (Or.inl (by omega))))))
      · exact Or.inr (Or.inr (Or.inr (Or.inr (Or.inr (Or.inr (Or.inl (by omega)))))))
      · exact Or.inr (Or.inr (Or.inr (Or.inr (Or.inr (Or.inr (Or.inr ((by omega))))))))
theorem sp_own_rf_0_32 (c : Int32) : own_rf_0_32 c = if False then 1 else 0 := rfl
theorem sp_own_rf_0_33 (c : Int32) : own_rf_0_33 c = if True then 1 else 0 := rfl
theorem sp_own_rf_0_34 (c : Int32) : own_rf_0_34 c = if c.toInt ≤ 246 ∨ 248 ≤ c.toInt then 1 else 0 := by
  have hz : (c = (247 : Int32)) ↔ c.toInt = 247 := by rw [own_eq_iff]; simp only [Int32.reduceToInt]
  show (if c = (247 : Int32) then own_rf_0_32 c else own_rf_0_33 c) = _
  rw [sp_own_rf_0_32, sp_own_rf_0_33]
  by_cases h : c = (247 : Int32)
  · rw [if_pos h]; rw [hz] at h
    exact (if_neg (fun q => q)).trans (if_neg (fun q => by
        rcases q with q | q <;> omega
        )).symm
  · rw [if_neg h]; rw [hz] at h
    rcases (show c.toInt < 247 ∨ 247 < c.toInt by omega) with u | u
    · exact (if_pos trivial).trans (if_pos (Or.inl (by omega))).symm
    · exact (if_pos trivial).trans (if_pos (Or.inr ((by omega)))).symm
theorem sp_own_rf_0_35 (c : Int32) : own_rf_0_35 c = if c.toInt ≤ 214 ∨ (216 ≤ c.toInt ∧ c.toInt ≤ 246) ∨ 248 ≤ c.toInt then 1 else 0 := by
  have hz : (c = (215 : Int32)) ↔ c.toInt = 215 := by rw [own_eq_iff]; simp only [Int32.reduceToInt]
  show (if c = (215 : Int32) then own_rf_0_32 c else own_rf_0_34 c) = _
  rw [sp_own_rf_0_32, sp_own_rf_0_34]
  by_cases h : c = (215 : Int32)
  · rw [if_pos h]; rw [hz] at h
    exact (if_neg (fun q => q)).trans (if_neg (fun q => by
        rcases q with q | q | q <;> omega
        )).symm
  · rw [if_neg h]; rw [hz] at h
    refine own_ifc ⟨fun q => ?_, fun q => ?_⟩
    · skip
      rcases q with q | q
      · rcases (show c.toInt < 215 ∨ 215 < c.toInt by omega) with u | u
        · exact Or.inl (by omega)
        · exact Or.inr (Or.inl (by omega))
      · exact Or.inr (Or.inr ((by omega)))
    · skip
      rcases q with q | q | q
      · exact Or.inl (by omega)
      · exact Or.inl (by omega)
      · exact Or.inr ((by omega))
theorem sp_own_rf_0_36 (c : Int32) : own_rf_0_36 c = if c.toInt ≤ 214 ∨ (216 ≤ c.toInt ∧ c.toInt ≤ 246) ∨ (248 ≤ c.toInt ∧ c.toInt ≤ 767) ∨ (880 ≤ c.toInt ∧ c.toInt ≤ 893) ∨ (895 ≤ c.toInt ∧ c.toInt ≤ 8191) ∨ (8204 ≤ c.toInt ∧ c.toInt ≤ 8205) ∨ (8304 ≤ c.toInt ∧ c.toInt ≤ 8591) ∨ (11264 ≤ c.toInt ∧ c.toInt ≤ 12271) ∨ (12289 ≤ c.toInt ∧ c.toInt ≤ 55295) ∨ (63744 ≤ c.toInt ∧ c.toInt ≤ 64975) ∨ (65008 ≤ c.toInt ∧ c.toInt ≤ 65533) then 1 else 0 := by
  have hz : ((767 : Int32) < c) ↔ 767 < c.toInt := by simp only [Int32.lt_iff_toInt_lt, Int32.reduceToInt]
  show (if (767 : Int32) < c then own_rf_0_31 c else own_rf_0_35 c) = _
  rw [sp_own_rf_0_31, sp_own_rf_0_35]
  by_cases h : (767 : Int32) < c
  · rw [if_pos h]; rw [hz] at h
    refine own_ifc ⟨fun q => ?_, fun q => ?_⟩
    · skip
      rcases q with q | q | q | q | q | q | q | q
      · exact Or.inr (Or.inr (Or.inr (Or.inl (by omega))))
      · exact Or.inr (Or.inr (Or.inr (Or.inr (Or.inl (by omega)))))
      · exact Or.inr (Or.inr (Or.inr (Or.inr (Or.inr (Or.inl (by omega))))))
      · exact Or.inr (Or.inr (Or.inr (Or.inr (Or.inr (Or.inr (Or.inl (by omega)))))))
      · exact Or.inr (Or.inr (Or.inr (Or.inr (Or.inr (Or.inr (Or.inr (Or.inl (by omega))))))))
      · exact Or.inr (Or.inr (Or.inr (Or.inr (Or.inr (Or.inr (Or.inr (Or.inr (Or.inl (by omega)))))))))
      · exact Or.inr (Or.inr (Or.inr (Or.inr (Or.inr (Or.inr (Or.inr (Or.inr (Or.inr (Or.inl (by omega))))))))))
      · exact Or.inr (Or.inr (Or.inr (Or.inr (Or.inr (Or.inr (Or.inr (Or.inr (Or.inr (Or.inr ((by omega)))))))))))
    · skip
      rcases q with q | q | q | q | q | q | q | q | q | q | q
      · exact absurd q (by omega)
      · exact absurd q (by omega)
      · exact absurd q (by omega)
      · exact Or.inl (by omega)
      · exact Or.inr (Or.inl (by omega))
      · exact Or.inr (Or.inr (Or.inl (by omega)))
      · exact Or.inr (Or.inr (Or.inr (Or.inl (by omega))))
      · exact Or.inr (Or.inr (Or.inr (Or.inr (Or.inl (by omega)))))
      · exact Or.inr (Or.inr (Or.inr (Or.inr (Or.inr (Or.inl (by omega))))))
      · exact Or.inr (Or.inr (Or.inr (Or.inr (Or.inr (Or.inr (Or.inl (by omega)))))))
      · exact Or.inr (Or.inr (Or.inr (Or.inr (Or.inr (Or.inr (Or.inr ((by omega))))))))
  · rw [if_neg h]; rw [hz] at h
    refine own_ifc ⟨fun q => ?_, fun q => ?_⟩
    · skip
      rcases q with q | q | q
      · exact Or.inl (by omega)
      · exact Or.inr (Or.inl (by omega))
      · exact Or.inr (Or.inr (Or.inl (by omega)))
    · skip
      rcases q with q | q | q | q | q | q | q | q | q | q | q
      · exact Or.inl (by omega)
      · exact Or.inr (Or.inl (by omega))
      · exact Or.inr (Or.inr ((by omega)))
      · exact absurd q (by omega)
      · exact absurd q (by omega)
      · exact absurd q (by omega)
      · exact absurd q (by omega)
      · exact absurd q (by omega)
      · exact absurd q (by omega)
      · exact absurd q (by omega)
      · exact absurd q (by omega)
theorem sp_own_rf_0_37 (c : Int32) : own_rf_0_37 c = if False then 1 else 0 := rfl
theorem sp_own_rf_0_38 (c : Int32) : own_rf_0_38 c = if (192 ≤ c.toInt ∧ c.toInt ≤ 214) ∨ (216 ≤ c.toInt ∧ c.toInt ≤ 246) ∨ (248 ≤ c.toInt ∧ c.toInt ≤ 767) ∨ (880 ≤ c.toInt ∧ c.toInt ≤ 893) ∨ (895 ≤ c.toInt ∧ c.toInt ≤ 8191) ∨ (8204 ≤ c.toInt ∧ c.toInt ≤ 8205) ∨ (8304 ≤ c.toInt ∧ c.toInt ≤ 8591) ∨ (11264 ≤ c.toInt ∧ c.toInt ≤ 12271) ∨ (12289 ≤ c.toInt ∧ c.toInt ≤ 55295) ∨ (63744 ≤ c.toInt ∧ c.toInt ≤ 64975) ∨ (65008 ≤ c.toInt ∧ c.toInt ≤ 65533) then 1 else 0 := by
  have hz : (c < (192 : Int32)) ↔ c.toInt < 192 := by simp only [Int32.lt_iff_toInt_lt, Int32.reduceToInt]
  show (if c < (192 : Int32) then own_rf_0_37 c else own_rf_0_36 c) = _
  rw [sp_own_rf_0_37, sp_own_rf_0_36]
  by_cases h : c < (192 : Int32)
  · rw [if_pos h]; rw [hz] at h
    exact (if_neg (fun q => q)).trans (if_neg (fun q => by
        rcases q with q | q | q | q | q | q | q | q | q | q | q <;> omega
        )).symm
  · rw [if_neg h]; rw [hz] at h
    refine own_ifc ⟨fun q => ?_, fun q => ?_⟩
    · skip
      rcases q with q | q | q | q | q | q | q | q | q | q | q
      · exact Or.inl (by omega)
      · exact Or.inr (Or.inl (by omega))
      · exact Or.inr (Or.inr (Or.inl (by omega)))
      · exact Or.inr (Or.inr (Or.inr (Or.inl (by omega))))
      · exact Or.inr (Or.inr (Or.inr (Or.inr (Or.inl (by omega)))))
      · exact Or.inr (Or.inr (Or.inr (Or.inr (Or.inr (Or.inl (by omega))))))
      · exact Or.inr (Or.inr (Or.inr (Or.inr (Or.inr (Or.inr (Or.inl (by omega)))))))
      · exact Or.inr (Or.inr (Or.inr (Or.inr (Or.inr (Or.inr (Or.inr (Or.inl (by omega))))))))
      · exact Or.inr (Or.inr (Or.inr (Or.inr (Or.inr (Or.inr (Or.inr (Or.inr (Or.inl (by omega)))))))))
      · exact Or.inr (Or.inr (Or.inr (Or.inr (Or.inr (Or.inr (Or.inr (Or.inr (Or.inr (Or.inl (by omega))))))))))
      · exact Or.inr (Or.inr (Or.inr (Or.inr (Or.inr (Or.inr (Or.inr (Or.inr (Or.inr (Or.inr ((by omega)))))))))))
    · skip
      rcases q with q | q | q | q | q | q | q | q | q | q | q
      · exact Or.inl (by omega)
      · exact Or.inr (Or.inl (by omega))
      · exact Or.inr (Or.inr (Or.inl (by omega)))
      · exact Or.inr (Or.inr (Or.inr (Or.inl (by omega))))
      · exact Or.inr (Or.inr (Or.inr (Or.inr (Or.inl (by omega)))))
      · exact Or.inr (Or.inr (Or.inr (Or.inr (Or.inr (Or.inl (by omega))))))
      · exact Or.inr (Or.inr (Or.inr (Or.inr (Or.inr (Or.inr (Or.inl (by omega)))))))
      · exact Or.inr (Or.inr (Or.inr (Or.inr (Or.inr (Or.inr (Or.inr (Or.inl (by omega))))))))
      · exact Or.inr (Or.inr (Or.inr (Or.inr (Or.inr (Or.inr (Or.inr (Or.inr (Or.inl (by omega)))))))))
      · exact Or.inr (Or.inr (Or.inr (Or.inr (Or.inr (Or.inr (Or.inr (Or.inr (Or.inr (Or.inl (by omega))))))))))
      · exact Or.inr (Or.inr (Or.inr (Or.inr (Or.inr (Or.inr (Or.inr (Or.inr (Or.inr (Or.inr ((by omega)))))))))))
theorem sp_own_rf_0_39 (c : Int32) : own_rf_0_39 c = if False then 1 else 0 := rfl
theorem sp_own_rf_0_40 (c : Int32) : own_rf_0_40 c = if True then 1 else 0 := rfl
theorem sp_own_rf_0_41 (c : Int32) : own_rf_0_41 c = if c.toInt = 95 then 1 else 0 := by
  have hz : (c = (95 : Int32)) ↔ c.toInt = 95 := by rw [own_eq_iff]; simp only [Int32.reduceToInt]
  show (if c = (95 : Int32) then own_rf_0_40 c else own_rf_0_39 c) = _
  rw [sp_own_rf_0_40, sp_own_rf_0_39]
  by_cases h : c = (95 : Int32)
  · rw [if_pos h]; rw [hz] at h
    exact (if_pos trivial).trans (if_pos ((by omega))).symm
  · rw [if_neg h]; rw [hz] at h
    exact (if_neg (fun q => q)).trans (if_neg (fun q => by
        omega
        )).symm
theorem sp_own_rf_0_45 (c : Int32) : own_rf_0_45 c = if True then 1 else 0 := rfl
def own_tab : List Int32 := [(0 : Int32), (65 : Int32), (90 : Int32), (95 : Int32), (97 : Int32), (122 : Int32), (192 : Int32), (214 : Int32), (216 : Int32), (246 : Int32), (248 : Int32), (767 : Int32), (880 : Int32), (893 : Int32), (895 : Int32), (8191 : Int32), (8204 : Int32), (8205 : Int32), (8304 : Int32), (8591 : Int32), (11264 : Int32), (12271 : Int32), (12289 : Int32), (55295 : Int32), (63744 : Int32), (64975 : Int32), (65008 : Int32), (65533 : Int32), (65536 : Int32), (983039 : Int32)]
theorem own_getD (ws : List Int32) (i : Nat) : (ws.map Value.int).getD i (.int 0) = .int (ws.getD i 0) := by
  induction ws generalizing i with
  | nil => rfl
  | cons a t ih => cases i with
    | zero => rfl
    | succ n => exact ih n
theorem own_ok (c : Int32) : own_st_0_31 c = own_rf_0_48 c := by
  by_cases h0 : c.toInt < 0
  · have n1 : c < (0 : Int32) := by simp only [Int32.lt_iff_toInt_lt, Int32.reduceToInt]; omega
    rw [sp_own_st_0_31, if_neg (fun q => by rcases q with q | q | q | q | q | q | q | q | q | q | q | q | q | q | q <;> omega)]
    exact (if_pos n1).symm
  · by_cases h : c.toInt < 128
    · exact own_small c (by omega) 128 (fun c => own_st_0_31 c = own_rf_0_48 c) (by decide +kernel) h
    · have n1 : ¬ c < (0 : Int32) := by simp only [Int32.lt_iff_toInt_lt, Int32.reduceToInt]; omega
      have n2 : ¬ c < (128 : Int32) := by simp only [Int32.lt_iff_toInt_lt, Int32.reduceToInt]; omega
      have hR : own_rf_0_48 c = if (983039 : Int32) < c then 0 else if c < (65536 : Int32) then own_rf_0_38 c else 1 := by
        simp only [own_rf_0_1, own_rf_0_44, own_rf_0_45, own_rf_0_46, own_rf_0_47, own_rf_0_48, if_neg n1, if_neg n2]
      rw [hR, sp_own_st_0_31, sp_own_rf_0_38]
      by_cases h1 : (983039 : Int32) < c
      · rw [if_pos h1]
        rw [Int32.lt_iff_toInt_lt] at h1
        simp only [Int32.reduceToInt] at h1
        exact if_neg (fun q => by rcases q with q | q | q | q | q | q | q | q | q | q | q | q | q | q | q <;> omega)
      · rw [if_neg h1]
        rw [Int32.lt_iff_toInt_lt] at h1
        simp only [Int32.reduceToInt] at h1
        by_cases h2 : c < (65536 : Int32)
        · rw [if_pos h2]
          rw [Int32.lt_iff_toInt_lt] at h2
          simp only [Int32.reduceToInt] at h2
          refine own_ifc ⟨fun q => ?_, fun q => ?_⟩
          · skip
            rcases q with q | q | q | q | q | q | q | q | q | q | q | q | q | q | q
            · exact absurd q (by omega)
            · exact absurd q (by omega)
            · exact absurd q (by omega)
            · exact Or.inl (by omega)
            · exact Or.inr (Or.inl (by omega))
            · exact Or.inr (Or.inr (Or.inl (by omega)))
            · exact Or.inr (Or.inr (Or.inr (Or.inl (by omega))))
            · exact Or.inr (Or.inr (Or.inr (Or.inr (Or.inl (by omega)))))
            · exact Or.inr (Or.inr (Or.inr (Or.inr (Or.inr (Or.inl (by omega))))))
            · exact Or.inr (Or.inr (Or.inr (Or.inr (Or.inr (Or.inr (Or.inl (by omega)))))))
            · exact Or.inr (Or.inr (Or.inr (Or.inr (Or.inr (Or.inr (Or.inr (Or.inl (by omega))))))))
            · exact Or.inr (Or.inr (Or.inr (Or.inr (Or.inr (Or.inr (Or.inr (Or.inr (Or.inl (by omega)))))))))
            · exact Or.inr (Or.inr (Or.inr (Or.inr (Or.inr (Or.inr (Or.inr (Or.inr (Or.inr (Or.inl (by omega))))))))))
            · exact Or.inr (Or.inr (Or.inr (Or.inr (Or.inr (Or.inr (Or.inr (Or.inr (Or.inr (Or.inr ((by omega)))))))))))
            · exact absurd q (by omega)
          · skip
            rcases q with q | q | q | q | q | q | q | q | q | q | q
            · exact Or.inr (Or.inr (Or.inr (Or.inl (by omega))))
            · exact Or.inr (Or.inr (Or.inr (Or.inr (Or.inl (by omega)))))
            · exact Or.inr (Or.inr (Or.inr (Or.inr (Or.inr (Or.inl (by omega))))))
            · exact Or.inr (Or.inr (Or.inr (Or.inr (Or.inr (Or.inr (Or.inl (by omega)))))))
            · exact Or.inr (Or.inr (Or.inr (Or.inr (Or.inr (Or.inr (Or.inr (Or.inl (by omega))))))))
            · exact Or.inr (Or.inr (Or.inr (Or.inr (Or.inr (Or.inr (Or.inr (Or.inr (Or.inl (by omega)))))))))
            · exact Or.inr (Or.inr (Or.inr (Or.inr (Or.inr (Or.inr (Or.inr (Or.inr (Or.inr (Or.inl (by omega))))))))))
            · exact Or.inr (Or.inr (Or.inr (Or.inr (Or.inr (Or.inr (Or.inr (Or.inr (Or.inr (Or.inr (Or.inl (by omega)))))))))))
            · exact Or.inr (Or.inr (Or.inr (Or.inr (Or.inr (Or.inr (Or.inr (Or.inr (Or.inr (Or.inr (Or.inr (Or.inl (by omega))))))))))))
            · exact Or.inr (Or.inr (Or.inr (Or.inr (Or.inr (Or.inr (Or.inr (Or.inr (Or.inr (Or.inr (Or.inr (Or.inr (Or.inl (by omega)))))))))))))
            · exact Or.inr (Or.inr (Or.inr (Or.inr (Or.inr (Or.inr (Or.inr (Or.inr (Or.inr (Or.inr (Or.inr (Or.inr (Or.inr (Or.inl (by omega))))))))))))))
        · rw [if_neg h2]
          rw [Int32.lt_iff_toInt_lt] at h2
          simp only [Int32.reduceToInt] at h2
          exact if_pos (Or.inr (Or.inr (Or.inr (Or.inr (Or.inr (Or.inr (Or.inr (Or.inr (Or.inr (Or.inr (Or.inr (Or.inr (Or.inr (Or.inr ((by omega))))))))))))))))
theorem pn_rm0 : plainName "com/example/rulecast/rulecast/NamesIsNameStartCharPinLaw" = true := by first | (simp [plainName, overriddenIn]; done) | decide +kernel
theorem pd_rm0_0 : parseMethodDescriptor "(I)Z" = some ⟨[.int], some .boolean⟩ := by decide +kernel
theorem ef_rm0 (m : MethodId) (p1 : Int32) (p2 : Int32) (p3 : Int32) : entryFrame m #[(.int p1), (.int p2), (.int p3)] maxLocals = (mkF m 0 #[.val (.int p1), .val (.int p2), .val (.int p3), .unset, .unset, .unset, .unset, .unset, .unset] []) := by first | (simp [entryFrame, mkF, argsToLocals, Value.category, maxLocals]; done) | rfl
def Q_rm0 (Z : State) (p1 : Int32) (p2 : Int32) (p3 : Int32)  (h0 : Heap) (n0 : Nat) (v : Option Value) (h : Heap) (L : List Loc) : Prop := v = some (.int (1 : Int32)) ∧ Fr n0 L
set_option maxRecDepth 65536 in
set_option maxHeartbeats 40000000 in
theorem rm0 (l : Launch) (Z : State) (a0 : Array Value) (hw : ∀ d ∈ tables_1, d.before a0 Z = true) (ws : List Jvm.Cond) (p1 : Int32) (p2 : Int32) (p3 : Int32)  (h0 : Heap) (n0 : Nat) (Z0 : n0 ≤ h0.size)  :
    MetFree l x (head1 (Jvm.Cond.code x code maxLocals ret :: ws) room_1) (fun a U => a = #[(.int p1), (.int p2), (.int p3)] ∧ Z.Warmed39 U.vm ∧ U.heap = h0) (fun _ _ _ _ _ => True) (fun _ U o U' => ∃ v L, o = .returned v ∧ Q_rm0 Z p1 p2 p3 h0 n0 v U'.heap L ∧ FrameEnd U o U' L 1 30) := by
  refine MetFree.of_bodySF (plainFor_of_name pn_rm0) hisR ?_
  intro p e s m args below meth c s₁ Bd hml0 hP hK
  obtain ⟨rfl, hZ, hh⟩ := hP
  have hx := Bd.exec
  have hby := Bd.bytes
  have hml : c.maxLocals = 9 := hml0
  have hown : s.vm.findClass "com/example/rulecast/rulecast/NamesIsNameStartCharPinLaw" = some m.cls := findClass_of_methodNamed Bd.named
  have hnm := (name_of_methodNamed Bd.named Bd.method).1
  have X0 : Stand p l e room_1 s m #[(.int p1), (.int p2), (.int p3)] below meth c s₁ [] 0 0 := Stand.of_body Bd
  have e0 : s₁.heap = h0 := by rw [← hh, Bd.state]; rfl
  have N0 := Fr.nil n0
  have pre0 : Steps p.tables e below (s₁.setTop (entryFrame m #[(.int p1), (.int p2), (.int p3)] maxLocals)) (s₁.setTop (mkF m 0 #[.val (.int p1), .val (.int p2), .val (.int p3), .unset, .unset, .unset, .unset, .unset, .unset] [])) := castTop (ef_rm0 m p1 p2 p3) (Steps.refl _)
  have pre1 : Steps p.tables e below _ (s₁.setTop (mkF m 2 #[.val (.int p1), .val (.int p2), .val (.int p3), .unset, .unset, .unset, .unset, .unset, .unset] [(.int (30 : Int32))])) := pre0.trans (by
    show Steps p.tables e below (s₁.setTop (mkF m 0 #[.val (.int p1), .val (.int p2), .val (.int p3), .unset, .unset, .unset, .unset, .unset, .unset] [])) _
    refine XS.bipush X0.here hx rfl (hb hby at_0) ?_
    exact Steps.refl _)
  obtain ⟨T2, h2, k2, X2, e2, E2, A2, st2⟩ := newP X0 hx hZ (hw _ (List.mem_of_getElem? (i := 0) rfl)) e0 (g := (mkF m 2 #[.val (.int p1), .val (.int p2), .val (.int p3), .unset, .unset, .unset, .unset, .unset, .unset] [(.int (30 : Int32))])) rfl (hb hby at_2) rfl (by decide) (cap := 30) (by decide) (by decide) (by decide) (by decide)
  obtain ⟨b2, g2⟩ : ∃ z, z = h0.size := ⟨_, rfl⟩
  rw [← g2] at A2 st2
  have g_b2 : n0 ≤ b2 := Nat.le_trans Z0 (Nat.le_of_eq g2.symm)
  have lt_b2 : b2 < h2.size := A2.lt
  have V2 : Arv Z h2 b2 k2 .int (30 : Int32) [(.int (0 : Int32)), (.int (0 : Int32)), (.int (0 : Int32)), (.int (0 : Int32)), (.int (0 : Int32)), (.int (0 : Int32)), (.int (0 : Int32)), (.int (0 : Int32)), (.int (0 : Int32)), (.int (0 : Int32)), (.int (0 : Int32)), (.int (0 : Int32)), (.int (0 : Int32)), (.int (0 : Int32)), (.int (0 : Int32)), (.int (0 : Int32)), (.int (0 : Int32)), (.int (0 : Int32)), (.int (0 : Int32)), (.int (0 : Int32)), (.int (0 : Int32)), (.int (0 : Int32)), (.int (0 : Int32)), (.int (0 : Int32)), (.int (0 : Int32)), (.int (0 : Int32)), (.int (0 : Int32)), (.int (0 : Int32)), (.int (0 : Int32)), (.int (0 : Int32))] (.int (0 : Int32)) := (Arv.new A2 (by decide)).pad (pad_rep [] (.int (0 : Int32)) 30)
  have Z2 : n0 ≤ h2.size := Nat.le_trans Z0 E2.1
  have pre2 : Steps p.tables e below _ (T2.setTop (mkF m 4 #[.val (.int p1), .val (.int p2), .val (.int p3), .unset, .unset, .unset, .unset, .unset, .unset] [(.ref b2)])) := pre1.trans (st2 _ (Steps.refl _))
  have pre3 : Steps p.tables e below _ (T2.setTop (mkF m 7 #[.val (.int p1), .val (.int p2), .val (.int p3), .unset, .unset, .unset, .unset, .unset, .unset] [(.int (0 : Int32)), (.int (0 : Int32)), (.ref b2), (.ref b2)])) := pre2.trans (by
    show Steps p.tables e below (T2.setTop (mkF m 4 #[.val (.int p1), .val (.int p2), .val (.int p3), .unset, .unset, .unset, .unset, .unset, .unset] [(.ref b2)])) _
    refine XS.dup X2.here hx rfl (hb hby at_4) rfl rfl ?_
    show Steps p.tables e below (T2.setTop (mkF m 5 #[.val (.int p1), .val (.int p2), .val (.int p3), .unset, .unset, .unset, .unset, .unset, .unset] [(.ref b2), (.ref b2)])) _
    refine XS.iconst X2.here hx rfl (hb hby at_5) ?_
    show Steps p.tables e below (T2.setTop (mkF m 6 #[.val (.int p1), .val (.int p2), .val (.int p3), .unset, .unset, .unset, .unset, .unset, .unset] [(.int (0 : Int32)), (.ref b2), (.ref b2)])) _
    refine XS.iconst X2.here hx rfl (hb hby at_6) ?_
    exact Steps.refl _)
  obtain ⟨cl4, Ar4, q4, S4, M4, H4, G4⟩ := V2
  have hin4 : ¬ ((0 : Int32) < 0 ∨ cl4.slots.size ≤ ((0 : Int32)).toNatClampNeg) := inb_of S4 ⟨by decide, by decide⟩
  obtain ⟨T4, h4, X4, e4, W4, st4⟩ := stI X2 hx hZ e2 Ar4 (j := (0 : Int32)) hin4 (g := (mkF m 7 #[.val (.int p1), .val (.int p2), .val (.int p3), .unset, .unset, .unset, .unset, .unset, .unset] [(.int (0 : Int32)), (.int (0 : Int32)), (.ref b2), (.ref b2)])) rfl rfl (hb hby at_7)
  have V4 : Arv Z h4 b2 k2 .int (30 : Int32) [(.int (0 : Int32)), (.int (0 : Int32)), (.int (0 : Int32)), (.int (0 : Int32)), (.int (0 : Int32)), (.int (0 : Int32)), (.int (0 : Int32)), (.int (0 : Int32)), (.int (0 : Int32)), (.int (0 : Int32)), (.int (0 : Int32)), (.int (0 : Int32)), (.int (0 : Int32)), (.int (0 : Int32)), (.int (0 : Int32)), (.int (0 : Int32)), (.int (0 : Int32)), (.int (0 : Int32)), (.int (0 : Int32)), (.int (0 : Int32)), (.int (0 : Int32)), (.int (0 : Int32)), (.int (0 : Int32)), (.int (0 : Int32)), (.int (0 : Int32)), (.int (0 : Int32)), (.int (0 : Int32)), (.int (0 : Int32)), (.int (0 : Int32)), (.int (0 : Int32))] (.int (0 : Int32)) := Arv.set Ar4 q4 S4 M4 H4 G4 rfl W4 0 rfl (Nat.le_of_ble_eq_true rfl)
  have N4 := Fr.snoc X4 N0 g_b2
  have Z4 : n0 ≤ h4.size := Nat.le_trans Z2 (Keep.of_wr W4).1
  have pre4 : Steps p.tables e below _ (T4.setTop (mkF m 8 #[.val (.int p1), .val (.int p2), .val (.int p3), .unset, .unset, .unset, .unset, .unset, .unset] [(.ref b2)])) := pre3.trans (st4 _ (Steps.refl _))
  have pre5 : Steps p.tables e below _ (T4.setTop (mkF m 12 #[.val (.int p1), .val (.int p2), .val (.int p3), .unset, .unset, .unset, .unset, .unset, .unset] [(.int (65 : Int32)), (.int (1 : Int32)), (.ref b2), (.ref b2)])) := pre4.trans (by
    show Steps p.tables e below (T4.setTop (mkF m 8 #[.val (.int p1), .val (.int p2), .val (.int p3), .unset, .unset, .unset, .unset, .unset, .unset] [(.ref b2)])) _
    refine XS.dup X4.here hx rfl (hb hby at_8) rfl rfl ?_
    show Steps p.tables e below (T4.setTop (mkF m 9 #[.val (.int p1), .val (.int p2), .val (.int p3), .unset, .unset, .unset, .unset, .unset, .unset] [(.ref b2), (.ref b2)])) _
    refine XS.iconst X4.here hx rfl (hb hby at_9) ?_
    show Steps p.tables e below (T4.setTop (mkF m 10 #[.val (.int p1), .val (.int p2), .val (.int p3), .unset, .unset, .unset, .unset, .unset, .unset] [(.int (1 : Int32)), (.ref b2), (.ref b2)])) _
    refine XS.bipush X4.here hx rfl (hb hby at_10) ?_
    exact Steps.refl _)
  obtain ⟨cl6, Ar6, q6, S6, M6, H6, G6⟩ := V4
  have hin6 : ¬ ((1 : Int32) < 0 ∨ cl6.slots.size ≤ ((1 : Int32)).toNatClampNeg) := inb_of S6 ⟨by decide, by decide⟩
  obtain ⟨T6, h6, X6, e6, W6, st6⟩ := stI X4 hx hZ e4 Ar6 (j := (1 : Int32)) hin6 (g := (mkF m 12 #[.val (.int p1), .val (.int p2), .val (.int p3), .unset, .unset, .unset, .unset, .unset, .unset] [(.int (65 : Int32)), (.int (1 : Int32)), (.ref b2), (.ref b2)])) rfl rfl (hb hby at_12)
  have V6 : Arv Z h6 b2 k2 .int (30 : Int32) [(.int (0 : Int32)), (.int (65 : Int32)), (.int (0 : Int32)), (.int (0 : Int32)), (.int (0 : Int32)), (.int (0 : Int32)), (.int (0 : Int32)), (.int (0 : Int32)), (.int (0 : Int32)), (.int (0 : Int32)), (.int (0 : Int32)), (.int (0 : Int32)), (.int (0 : Int32)), (.int (0 : Int32)), (.int (0 : Int32)), (.int (0 : Int32)), (.int (0 : Int32)), (.int (0 : Int32)), (.int (0 : Int32)), (.int (0 : Int32)), (.int (0 : Int32)), (.int (0 : Int32)), (.int (0 : Int32)), (.int (0 : Int32)), (.int (0 : Int32)), (.int (0 : Int32)), (.int (0 : Int32)), (.int (0 : Int32)), (.int (0 : Int32)), (.int (0 : Int32))] (.int (0 : Int32)) := Arv.set Ar6 q6 S6 M6 H6 G6 rfl W6 1 rfl (Nat.le_of_ble_eq_true rfl)
  have N6 := Fr.snoc X6 N4 g_b2
  have Z6 : n0 ≤ h6.size := Nat.le_trans Z4 (Keep.of_wr W6).1
  have pre6 : Steps p.tables e below _ (T6.setTop (mkF m 13 #[.val (.int p1), .val (.int p2), .val (.int p3), .unset, .unset, .unset, .unset, .unset, .unset] [(.ref b2)])) := pre5.trans (st6 _ (Steps.refl _))
  have pre7 : Steps p.tables e below _ (T6.setTop (mkF m 17 #[.val (.int p1), .val (.int p2), .val (.int p3), .unset, .unset, .unset, .unset, .unset, .unset] [(.int (90 : Int32)), (.int (2 : Int32)), (.ref b2), (.ref b2)])) := pre6.trans (by
    show Steps p.tables e below (T6.setTop (mkF m 13 #[.val (.int p1), .val (.int p2), .val (.int p3), .unset, .unset, .unset, .unset, .unset, .unset] [(.ref b2)])) _
    refine XS.dup X6.here hx rfl (hb hby at_13) rfl rfl ?_
    show Steps p.tables e below (T6.setTop (mkF m 14 #[.val (.int p1), .val (.int p2), .val (.int p3), .unset, .unset, .unset, .unset, .unset, .unset] [(.ref b2), (.ref b2)])) _
    refine XS.iconst X6.here hx rfl (hb hby at_14) ?_
    show Steps p.tables e below (T6.setTop (mkF m 15 #[.val (.int p1), .val (.int p2), .val (.int p3), .unset, .unset, .unset, .unset, .unset, .unset] [(.int (2 : Int32)), (.ref b2), (.ref b2)])) _
    refine XS.bipush X6.here hx rfl (hb hby at_15) ?_
    exact Steps.refl _)
  obtain ⟨cl8, Ar8, q8, S8, M8, H8, G8⟩ := V6
  have hin8 : ¬ ((2 : Int32) < 0 ∨ cl8.slots.size ≤ ((2 : Int32)).toNatClampNeg) := inb_of S8 ⟨by decide, by decide⟩
  obtain ⟨T8, h8, X8, e8, W8, st8⟩ := stI X6 hx hZ e6 Ar8 (j := (2 : Int32)) hin8 (g := (mkF m 17 #[.val (.int p1), .val (.int p2), .val (.int p3), .unset, .unset, .unset, .unset, .unset, .unset] [(.int (90 : Int32)), (.int (2 : Int32)), (.ref b2), (.ref b2)])) rfl rfl (hb hby at_17)
  have V8 : Arv Z h8 b2 k2 .int (30 : Int32) [(.int (0 : Int32)), (.int (65 : Int32)), (.int (90 : Int32)), (.int (0 : Int32)), (.int (0 : Int32)), (.int (0 : Int32)), (.int (0 : Int32)), (.int (0 : Int32)), (.int (0 : Int32)), (.int (0 : Int32)), (.int (0 : Int32)), (.int (0 : Int32)), (.int (0 : Int32)), (.int (0 : Int32)), (.int (0 : Int32)), (.int (0 : Int32)), (.int (0 : Int32)), (.int (0 : Int32)), (.int (0 : Int32)), (.int (0 : Int32)), (.int (0 : Int32)), (.int (0 : Int32)), (.int (0 : Int32)), (.int (0 : Int32)), (.int (0 : Int32)), (.int (0 : Int32)), (.int (0 : Int32)), (.int (0 : Int32)), (.int (0 : Int32)), (.int (0 : Int32))] (.int (0 : Int32)) := Arv.set Ar8 q8 S8 M8 H8 G8 rfl W8 2 rfl (Nat.le_of_ble_eq_true rfl)
  have N8 := Fr.snoc X8 N6 g_b2
  have Z8 : n0 ≤ h8.size := Nat.le_trans Z6 (Keep.of_wr W8).1
  have pre8 : Steps p.tables e below _ (T8.setTop (mkF m 18 #[.val (.int p1), .val (.int p2), .val (.int p3), .unset, .unset, .unset, .unset, .unset, .unset] [(.ref b2)])) := pre7.trans (st8 _ (Steps.refl _))
  have pre9 : Steps p.tables e below _ (T8.setTop (mkF m 22 #[.val (.int p1), .val (.int p2), .val (.int p3), .unset, .unset, .unset, .unset, .unset, .unset] [(.int (95 : Int32)), (.int (3 : Int32)), (.ref b2), (.ref b2)])) := pre8.trans (by
    show Steps p.tables e below (T8.setTop (mkF m 18 #[.val (.int p1), .val (.int p2), .val (.int p3), .unset, .unset, .unset, .unset, .unset, .unset] [(.ref b2)])) _
    refine XS.dup X8.here hx rfl (hb hby at_18) rfl rfl ?_
    show Steps p.tables e below (T8.setTop (mkF m 19 #[.val (.int p1), .val (.int p2), .val (.int p3), .unset, .unset, .unset, .unset, .unset, .unset] [(.ref b2), (.ref b2)])) _
    refine XS.iconst X8.here hx rfl (hb hby at_19) ?_
    show Steps p.tables e below (T8.setTop (mkF m 20 #[.val (.int p1), .val (.int p2), .val (.int p3), .unset, .unset, .unset, .unset, .unset, .unset] [(.int (3 : Int32)), (.ref b2), (.ref b2)])) _
    refine XS.bipush X8.here hx rfl (hb hby at_20) ?_
    exact Steps.refl _)
  obtain ⟨cl10, Ar10, q10, S10, M10, H10, G10⟩ := V8
  have hin10 : ¬ ((3 : Int32) < 0 ∨ cl10.slots.size ≤ ((3 : Int32)).toNatClampNeg) := inb_of S10 ⟨by decide, by decide⟩
  obtain ⟨T10, h10, X10, e10, W10, st10⟩ := stI X8 hx hZ e8 Ar10 (j := (3 : Int32)) hin10 (g := (mkF m 22 #[.val (.int p1), .val (.int p2), .val (.int p3), .unset, .unset, .unset, .unset, .unset, .unset] [(.int (95 : Int32)), (.int (3 : Int32)), (.ref b2), (.ref b2)])) rfl rfl (hb hby at_22)
  have V10 : Arv Z h10 b2 k2 .int (30 : Int32) [(.int (0 : Int32)), (.int (65 : Int32)), (.int (90 : Int32)), (.int (95 : Int32)), (.int (0 : Int32)), (.int (0 : Int32)), (.int (0 : Int32)), (.int (0 : Int32)), (.int (0 : Int32)), (.int (0 : Int32)), (.int (0 : Int32)), (.int (0 : Int32)), (.int (0 : Int32)), (.int (0 : Int32)), (.int (0 : Int32)), (.int (0 : Int32)), (.int (0 : Int32)), (.int (0 : Int32)), (.int (0 : Int32)), (.int (0 : Int32)), (.int (0 : Int32)), (.int (0 : Int32)), (.int (0 : Int32)), (.int (0 : Int32)), (.int (0 : Int32)), (.int (0 : Int32)), (.int (0 : Int32)), (.int (0 : Int32)), (.int (0 : Int32)), (.int (0 : Int32))] (.int (0 : Int32)) := Arv.set Ar10 q10 S10 M10 H10 G10 rfl W10 3 rfl (Nat.le_of_ble_eq_true rfl)
  have N10 := Fr.snoc X10 N8 g_b2
  have Z10 : n0 ≤ h10.size := Nat.le_trans Z8 (Keep.of_wr W10).1
  have pre10 : Steps p.tables e below _ (T10.setTop (mkF m 23 #[.val (.int p1), .val (.int p2), .val (.int p3), .unset, .unset, .unset, .unset, .unset, .unset] [(.ref b2)])) := pre9.trans (st10 _ (Steps.refl _))
  have pre11 : Steps p.tables e below _ (T10.setTop (mkF m 27 #[.val (.int p1), .val (.int p2), .val (.int p3), .unset, .unset, .unset, .unset, .unset, .unset] [(.int (97 : Int32)), (.int (4 : Int32)), (.ref b2), (.ref b2)])) := pre10.trans (by
    show Steps p.tables e below (T10.setTop (mkF m 23 #[.val (.int p1), .val (.int p2), .val (.int p3), .unset, .unset, .unset, .unset, .unset, .unset] [(.ref b2)])) _
    refine XS.dup X10.here hx rfl (hb hby at_23) rfl rfl ?_
    show Steps p.tables e below (T10.setTop (mkF m 24 #[.val (.int p1), .val (.int p2), .val (.int p3), .unset, .unset, .unset, .unset, .unset, .unset] [(.ref b2), (.ref b2)])) _
    refine XS.iconst X10.here hx rfl (hb hby at_24) ?_
    show Steps p.tables e below (T10.setTop (mkF m 25 #[.val (.int p1), .val (.int p2), .val (.int p3), .unset, .unset, .unset, .unset, .unset, .unset] [(.int (4 : Int32)), (.ref b2), (.ref b2)])) _
    refine XS.bipush X10.here hx rfl (hb hby at_25) ?_
    exact Steps.refl _)
  obtain ⟨cl12, Ar12, q12, S12, M12, H12, G12⟩ := V10
  have hin12 : ¬ ((4 : Int32) < 0 ∨ cl12.slots.size ≤ ((4 : Int32)).toNatClampNeg) := inb_of S12 ⟨by decide, by decide⟩
  obtain ⟨T12, h12, X12, e12, W12, st12⟩ := stI X10 hx hZ e10 Ar12 (j := (4 : Int32)) hin12 (g := (mkF m 27 #[.val (.int p1), .val (.int p2), .val (.int p3), .unset, .unset, .unset, .unset, .unset, .unset] [(.int (97 : Int32)), (.int (4 : Int32)), (.ref b2), (.ref b2)])) rfl rfl (hb hby at_27)
  have V12 : Arv Z h12 b2 k2 .int (30 : Int32) [(.int (0 : Int32)), (.int (65 : Int32)), (.int (90 : Int32)), (.int (95 : Int32)), (.int (97 : Int32)), (.int (0 : Int32)), (.int (0 : Int32)), (.int (0 : Int32)), (.int (0 : Int32)), (.int (0 : Int32)), (.int (0 : Int32)), (.int (0 : Int32)), (.int (0 : Int32)), (.int (0 : Int32)), (.int (0 : Int32)), (.int (0 : Int32)), (.int (0 : Int32)), (.int (0 : Int32)), (.int (0 : Int32)), (.int (0 : Int32)), (.int (0 : Int32)), (.int (0 : Int32)), (.int (0 : Int32)), (.int (0 : Int32)), (.int (0 : Int32)), (.int (0 : Int32)), (.int (0 : Int32)), (.int (0 : Int32)), (.int (0 : Int32)), (.int (0 : Int32))] (.int (0 : Int32)) := Arv.set Ar12 q12 S12 M12 H12 G12 rfl W12 4 rfl (Nat.le_of_ble_eq_true rfl)
  have N12 := Fr.snoc X12 N10 g_b2
  have Z12 : n0 ≤ h12.size := Nat.le_trans Z10 (Keep.of_wr W12).1
  have pre12 : Steps p.tables e below _ (T12.setTop (mkF m 28 #[.val (.int p1), .val (.int p2), .val (.int p3), .unset, .unset, .unset, .unset, .unset, .unset] [(.ref b2)])) := pre11.trans (st12 _ (Steps.refl _))
  have pre13 : Steps p.tables e below _ (T12.setTop (mkF m 32 #[.val (.int p1), .val (.int p2), .val (.int p3), .unset, .unset, .unset, .unset, .unset, .unset] [(.int (122 : Int32)), (.int (5 : Int32)), (.ref b2), (.ref b2)])) := pre12.trans (by
    show Steps p.tables e below (T12.setTop (mkF m 28 #[.val (.int p1), .val (.int p2), .val (.int p3), .unset, .unset, .unset, .unset, .unset, .unset] [(.ref b2)])) _
    refine XS.dup X12.here hx rfl (hb hby at_28) rfl rfl ?_
    show Steps p.tables e below (T12.setTop (mkF m 29 #[.val (.int p1), .val (.int p2), .val (.int p3), .unset, .unset, .unset, .unset, .unset, .unset] [(.ref b2), (.ref b2)])) _
    refine XS.iconst X12.here hx rfl (hb hby at_29) ?_
    show Steps p.tables e below (T12.setTop (mkF m 30 #[.val (.int p1), .val (.int p2), .val (.int p3), .unset, .unset, .unset, .unset, .unset, .unset] [(.int (5 : Int32)), (.ref b2), (.ref b2)])) _
    refine XS.bipush X12.here hx rfl (hb hby at_30) ?_
    exact Steps.refl _)
  obtain ⟨cl14, Ar14, q14, S14, M14, H14, G14⟩ := V12
  have hin14 : ¬ ((5 : Int32) < 0 ∨ cl14.slots.size ≤ ((5 : Int32)).toNatClampNeg) := inb_of S14 ⟨by decide, by decide⟩
  obtain ⟨T14, h14, X14, e14, W14, st14⟩ := stI X12 hx hZ e12 Ar14 (j := (5 : Int32)) hin14 (g := (mkF m 32 #[.val (.int p1), .val (.int p2), .val (.int p3), .unset, .unset, .unset, .unset, .unset, .unset] [(.int (122 : Int32)), (.int (5 : Int32)), (.ref b2), (.ref b2)])) rfl rfl (hb hby at_32)
  have V14 : Arv Z h14 b2 k2 .int (30 : Int32) [(.int (0 : Int32)), (.int (65 : Int32)), (.int (90 : Int32)), (.int (95 : Int32)), (.int (97 : Int32)), (.int (122 : Int32)), (.int (0 : Int32)), (.int (0 : Int32)), (.int (0 : Int32)), (.int (0 : Int32)), (.int (0 : Int32)), (.int (0 : Int32)), (.int (0 : Int32)), (.int (0 : Int32)), (.int (0 : Int32)), (.int (0 : Int32)), (.int (0 : Int32)), (.int (0 : Int32)), (.int (0 : Int32)), (.int (0 : Int32)), (.int (0 : Int32)), (.int (0 : Int32)), (.int (0 : Int32)), (.int (0 : Int32)), (.int (0 : Int32)), (.int (0 : Int32)), (.int (0 : Int32)), (.int (0 : Int32)), (.int (0 : Int32)), (.int (0 : Int32))] (.int (0 : Int32)) := Arv.set Ar14 q14 S14 M14 H14 G14 rfl W14 5 rfl (Nat.le_of_ble_eq_true rfl)
  have N14 := Fr.snoc X14 N12 g_b2
  have Z14 : n0 ≤ h14.size := Nat.le_trans Z12 (Keep.of_wr W14).1
  have pre14 : Steps p.tables e below _ (T14.setTop (mkF m 33 #[.val (.int p1), .val (.int p2), .val (.int p3), .unset, .unset, .unset, .unset, .unset, .unset] [(.ref b2)])) := pre13.trans (st14 _ (Steps.refl _))
  obtain ⟨lc15, X15, N15⟩ : ∃ lc : List Loc, Stand p l e room_1 s m #[(.int p1), (.int p2), (.int p3)] below meth c T14 lc 1 30 ∧ Fr n0 lc := ⟨_, X14, N14⟩
  have pre16 : Steps p.tables e below _ (T14.setTop (mkF m 39 #[.val (.int p1), .val (.int p2), .val (.int p3), .unset, .unset, .unset, .unset, .unset, .unset] [(.int (192 : Int32)), (.int (6 : Int32)), (.ref b2), (.ref b2)])) := pre14.trans (by
    show Steps p.tables e below (T14.setTop (mkF m 33 #[.val (.int p1), .val (.int p2), .val (.int p3), .unset, .unset, .unset, .unset, .unset, .unset] [(.ref b2)])) _
    refine XS.dup X15.here hx rfl (hb hby at_33) rfl rfl ?_
    show Steps p.tables e below (T14.setTop (mkF m 34 #[.val (.int p1), .val (.int p2), .val (.int p3), .unset, .unset, .unset, .unset, .unset, .unset] [(.ref b2), (.ref b2)])) _
    refine XS.bipush X15.here hx rfl (hb hby at_34) ?_
    show Steps p.tables e below (T14.setTop (mkF m 36 #[.val (.int p1), .val (.int p2), .val (.int p3), .unset, .unset, .unset, .unset, .unset, .unset] [(.int (6 : Int32)), (.ref b2), (.ref b2)])) _
    refine XS.sipush X15.here hx rfl (hb hby at_36) ?_
    exact Steps.refl _)
  obtain ⟨cl17, Ar17, q17, S17, M17, H17, G17⟩ := V14
  have hin17 : ¬ ((6 : Int32) < 0 ∨ cl17.slots.size ≤ ((6 : Int32)).toNatClampNeg) := inb_of S17 ⟨by decide, by decide⟩
  obtain ⟨T17, h17, X17, e17, W17, st17⟩ := stI X15 hx hZ e14 Ar17 (j := (6 : Int32)) hin17 (g := (mkF m 39 #[.val (.int p1), .val (.int p2), .val (.int p3), .unset, .unset, .unset, .unset, .unset, .unset] [(.int (192 : Int32)), (.int (6 : Int32)), (.ref b2), (.ref b2)])) rfl rfl (hb hby at_39)
  have V17 : Arv Z h17 b2 k2 .int (30 : Int32) [(.int (0 : Int32)), (.int (65 : Int32)), (.int (90 : Int32)), (.int (95 : Int32)), (.int (97 : Int32)), (.int (122 : Int32)), (.int (192 : Int32)), (.int (0 : Int32)), (.int (0 : Int32)), (.int (0 : Int32)), (.int (0 : Int32)), (.int (0 : Int32)), (.int (0 : Int32)), (.int (0 : Int32)), (.int (0 : Int32)), (.int (0 : Int32)), (.int (0 : Int32)), (.int (0 : Int32)), (.int (0 : Int32)), (.int (0 : Int32)), (.int (0 : Int32)), (.int (0 : Int32)), (.int (0 : Int32)), (.int (0 : Int32)), (.int (0 : Int32)), (.int (0 : Int32)), (.int (0 : Int32)), (.int (0 : Int32)), (.int (0 : Int32)), (.int (0 : Int32))] (.int (0 : Int32)) := Arv.set Ar17 q17 S17 M17 H17 G17 rfl W17 6 rfl (Nat.le_of_ble_eq_true rfl)
  have N17 := Fr.snoc X17 N15 g_b2
  have Z17 : n0 ≤ h17.size := Nat.le_trans Z14 (Keep.of_wr W17).1
  have pre17 : Steps p.tables e below _ (T17.setTop (mkF m 40 #[.val (.int p1), .val (.int p2), .val (.int p3), .unset, .unset, .unset, .unset, .unset, .unset] [(.ref b2)])) := pre16.trans (st17 _ (Steps.refl _))
  have pre18 : Steps p.tables e below _ (T17.setTop (mkF m 46 #[.val (.int p1), .val (.int p2), .val (.int p3), .unset, .unset, .unset, .unset, .unset, .unset] [(.int (214 : Int32)), (.int (7 : Int32)), (.ref b2), (.ref b2)])) := pre17.trans (by
    show Steps p.tables e below (T17.setTop (mkF m 40 #[.val (.int p1), .val (.int p2), .val (.int p3), .unset, .unset, .unset, .unset, .unset, .unset] [(.ref b2)])) _
    refine XS.dup X17.here hx rfl (hb hby at_40) rfl rfl ?_
    show Steps p.tables e below (T17.setTop (mkF m 41 #[.val (.int p1), .val (.int p2), .val (.int p3), .unset, .unset, .unset, .unset, .unset, .unset] [(.ref b2), (.ref b2)])) _
    refine XS.bipush X17.here hx rfl (hb hby at_41) ?_
    show Steps p.tables e below (T17.setTop (mkF m 43 #[.val (.int p1), .val (.int p2), .val (.int p3), .unset, .unset, .unset, .unset, .unset, .unset] [(.int (7 : Int32)), (.ref b2), (.ref b2)])) _
    refine XS.sipush X17.here hx rfl (hb hby at_43) ?_
    exact Steps.refl _)
  obtain ⟨cl19, Ar19, q19, S19, M19, H19, G19⟩ := V17
  have hin19 : ¬ ((7 : Int32) < 0 ∨ cl19.slots.size ≤ ((7 : Int32)).toNatClampNeg) := inb_of S19 ⟨by decide, by decide⟩
  obtain ⟨T19, h19, X19, e19, W19, st19⟩ := stI X17 hx hZ e17 Ar19 (j := (7 : Int32)) hin19 (g := (mkF m 46 #[.val (.int p1), .val (.int p2), .val (.int p3), .unset, .unset, .unset, .unset, .unset, .unset] [(.int (214 : Int32)), (.int (7 : Int32)), (.ref b2), (.ref b2)])) rfl rfl (hb hby at_46)
  have V19 : Arv Z h19 b2 k2 .int (30 : Int32) [(.int (0 : Int32)), (.int (65 : Int32)), (.int (90 : Int32)), (.int (95 : Int32)), (.int (97 : Int32)), (.int (122 : Int32)), (.int (192 : Int32)), (.int (214 : Int32)), (.int (0 : Int32)), (.int (0 : Int32)), (.int (0 : Int32)), (.int (0 : Int32)), (.int (0 : Int32)), (.int (0 : Int32)), (.int (0 : Int32)), (.int (0 : Int32)), (.int (0 : Int32)), (.int (0 : Int32)), (.int (0 : Int32)), (.int (0 : Int32)), (.int (0 : Int32)), (.int (0 : Int32)), (.int (0 : Int32)), (.int (0 : Int32)), (.int (0 : Int32)), (.int (0 : Int32)), (.int (0 : Int32)), (.int (0 : Int32)), (.int (0 : Int32)), (.int (0 : Int32))] (.int (0 : Int32)) := Arv.set Ar19 q19 S19 M19 H19 G19 rfl W19 7 rfl (Nat.le_of_ble_eq_true rfl)
  have N19 := Fr.snoc X19 N17 g_b2
  have Z19 : n0 ≤ h19.size := Nat.le_trans Z17 (Keep.of_wr W19).1
  have pre19 : Steps p.tables e below _ (T19.setTop (mkF m 47 #[.val (.int p1), .val (.int p2), .val (.int p3), .unset, .unset, .unset, .unset, .unset, .unset] [(.ref b2)])) := pre18.trans (st19 _ (Steps.refl _))
  have pre20 : Steps p.tables e below _ (T19.setTop (mkF m 53 #[.val (.int p1), .val (.int p2), .val (.int p3), .unset, .unset, .unset, .unset, .unset, .unset] [(.int (216 : Int32)), (.int (8 : Int32)), (.ref b2), (.ref b2)])) := pre19.trans (by
    show Steps p.tables e below (T19.setTop (mkF m 47 #[.val (.int p1), .val (.int p2), .val (.int p3), .unset, .unset, .unset, .unset, .unset, .unset] [(.ref b2)])) _
    refine XS.dup X19.here hx rfl (hb hby at_47) rfl rfl ?_
    show Steps p.tables e below (T19.setTop (mkF m 48 #[.val (.int p1), .val (.int p2), .val (.int p3), .unset, .unset, .unset, .unset, .unset, .unset] [(.ref b2), (.ref b2)])) _
    refine XS.bipush X19.here hx rfl (hb hby at_48) ?_
    show Steps p.tables e below (T19.setTop (mkF m 50 #[.val (.int p1), .val (.int p2), .val (.int p3), .unset, .unset, .unset, .unset, .unset, .unset] [(.int (8 : Int32)), (.ref b2), (.ref b2)])) _
    refine XS.sipush X19.here hx rfl (hb hby at_50) ?_
    exact Steps.refl _)
  obtain ⟨cl21, Ar21, q21, S21, M21, H21, G21⟩ := V19
  have hin21 : ¬ ((8 : Int32) < 0 ∨ cl21.slots.size ≤ ((8 : Int32)).toNatClampNeg) := inb_of S21 ⟨by decide, by decide⟩
  obtain ⟨T21, h21, X21, e21, W21, st21⟩ := stI X19 hx hZ e19 Ar21 (j := (8 : Int32)) hin21 (g := (mkF m 53 #[.val (.int p1), .val (.int p2), .val (.int p3), .unset, .unset, .unset, .unset, .unset, .unset] [(.int (216 : Int32)), (.int (8 : Int32)), (.ref b2), (.ref b2)])) rfl rfl (hb hby at_53)
  have V21 : Arv Z h21 b2 k2 .int (30 : Int32) [(.int (0 : Int32)), (.int (65 : Int32)), (.int (90 : Int32)), (.int (95 : Int32)), (.int (97 : Int32)), (.int (122 : Int32)), (.int (192 : Int32)), (.int (214 : Int32)), (.int (216 : Int32)), (.int (0 : Int32)), (.int (0 : Int32)), (.int (0 : Int32)), (.int (0 : Int32)), (.int (0 : Int32)), (.int (0 : Int32)), (.int (0 : Int32)), (.int (0 : Int32)), (.int (0 : Int32)), (.int (0 : Int32)), (.int (0 : Int32)), (.int (0 : Int32)), (.int (0 : Int32)), (.int (0 : Int32)), (.int (0 : Int32)), (.int (0 : Int32)), (.int (0 : Int32)), (.int (0 : Int32)), (.int (0 : Int32)), (.int (0 : Int32)), (.int (0 : Int32))] (.int (0 : Int32)) := Arv.set Ar21 q21 S21 M21 H21 G21 rfl W21 8 rfl (Nat.le_of_ble_eq_true rfl)
  have N21 := Fr.snoc X21 N19 g_b2
  have Z21 : n0 ≤ h21.size := Nat.le_trans Z19 (Keep.of_wr W21).1
  have pre21 : Steps p.tables e below _ (T21.setTop (mkF m 54 #[.val (.int p1), .val (.int p2), .val (.int p3), .unset, .unset, .unset, .unset, .unset, .unset] [(.ref b2)])) := pre20.trans (st21 _ (Steps.refl _))
  have pre22 : Steps p.tables e below _ (T21.setTop (mkF m 60 #[.val (.int p1), .val (.int p2), .val (.int p3), .unset, .unset, .unset, .unset, .unset, .unset] [(.int (246 : Int32)), (.int (9 : Int32)), (.ref b2), (.ref b2)])) := pre21.trans (by
    show Steps p.tables e below (T21.setTop (mkF m 54 #[.val (.int p1), .val (.int p2), .val (.int p3), .unset, .unset, .unset, .unset, .unset, .unset] [(.ref b2)])) _
    refine XS.dup X21.here hx rfl (hb hby at_54) rfl rfl ?_
    show Steps p.tables e below (T21.setTop (mkF m 55 #[.val (.int p1), .val (.int p2), .val (.int p3), .unset, .unset, .unset, .unset, .unset, .unset] [(.ref b2), (.ref b2)])) _
    refine XS.bipush X21.here hx rfl (hb hby at_55) ?_
    show Steps p.tables e below (T21.setTop (mkF m 57 #[.val (.int p1), .val (.int p2), .val (.int p3), .unset, .unset, .unset, .unset, .unset, .unset] [(.int (9 : Int32)), (.ref b2), (.ref b2)])) _
    refine XS.sipush X21.here hx rfl (hb hby at_57) ?_
    exact Steps.refl _)
  obtain ⟨cl23, Ar23, q23, S23, M23, H23, G23⟩ := V21
  have hin23 : ¬ ((9 : Int32) < 0 ∨ cl23.slots.size ≤ ((9 : Int32)).toNatClampNeg) := inb_of S23 ⟨by decide, by decide⟩
  obtain ⟨T23, h23, X23, e23, W23, st23⟩ := stI X21 hx hZ e21 Ar23 (j := (9 : Int32)) hin23 (g := (mkF m 60 #[.val (.int p1), .val (.int p2), .val (.int p3), .unset, .unset, .unset, .unset, .unset, .unset] [(.int (246 : Int32)), (.int (9 : Int32)), (.ref b2), (.ref b2)])) rfl rfl (hb hby at_60)
  have V23 : Arv Z h23 b2 k2 .int (30 : Int32) [(.int (0 : Int32)), (.int (65 : Int32)), (.int (90 : Int32)), (.int (95 : Int32)), (.int (97 : Int32)), (.int (122 : Int32)), (.int (192 : Int32)), (.int (214 : Int32)), (.int (216 : Int32)), (.int (246 : Int32)), (.int (0 : Int32)), (.int (0 : Int32)), (.int (0 : Int32)), (.int (0 : Int32)), (.int (0 : Int32)), (.int (0 : Int32)), (.int (0 : Int32)), (.int (0 : Int32)), (.int (0 : Int32)), (.int (0 : Int32)), (.int (0 : Int32)), (.int (0 : Int32)), (.int (0 : Int32)), (.int (0 : Int32)), (.int (0 : Int32)), (.int (0 : Int32)), (.int (0 : Int32)), (.int (0 : Int32)), (.int (0 : Int32)), (.int (0 : Int32))] (.int (0 : Int32)) := Arv.set Ar23 q23 S23 M23 H23 G23 rfl W23 9 rfl (Nat.le_of_ble_eq_true rfl)
  have N23 := Fr.snoc X23 N21 g_b2
  have Z23 : n0 ≤ h23.size := Nat.le_trans Z21 (Keep.of_wr W23).1
  have pre23 : Steps p.tables e below _ (T23.setTop (mkF m 61 #[.val (.int p1), .val (.int p2), .val (.int p3), .unset, .unset, .unset, .unset, .unset, .unset] [(.ref b2)])) := pre22.trans (st23 _ (Steps.refl _))
  have pre24 : Steps p.tables e below _ (T23.setTop (mkF m 67 #[.val (.int p1), .val (.int p2), .val (.int p3), .unset, .unset, .unset, .unset, .unset, .unset] [(.int (248 : Int32)), (.int (10 : Int32)), (.ref b2), (.ref b2)])) := pre23.trans (by
    show Steps p.tables e below (T23.setTop (mkF m 61 #[.val (.int p1), .val (.int p2), .val (.int p3), .unset, .unset, .unset, .unset, .unset, .unset] [(.ref b2)])) _
    refine XS.dup X23.here hx rfl (hb hby at_61) rfl rfl ?_
    show Steps p.tables e below (T23.setTop (mkF m 62 #[.val (.int p1), .val (.int p2), .val (.int p3), .unset, .unset, .unset, .unset, .unset, .unset] [(.ref b2), (.ref b2)])) _
    refine XS.bipush X23.here hx rfl (hb hby at_62) ?_
    show Steps p.tables e below (T23.setTop (mkF m 64 #[.val (.int p1), .val (.int p2), .val (.int p3), .unset, .unset, .unset, .unset, .unset, .unset] [(.int (10 : Int32)), (.ref b2), (.ref b2)])) _
    refine XS.sipush X23.here hx rfl (hb hby at_64) ?_
    exact Steps.refl _)
  obtain ⟨cl25, Ar25, q25, S25, M25, H25, G25⟩ := V23
  have hin25 : ¬ ((10 : Int32) < 0 ∨ cl25.slots.size ≤ ((10 : Int32)).toNatClampNeg) := inb_of S25 ⟨by decide, by decide⟩
  obtain ⟨T25, h25, X25, e25, W25, st25⟩ := stI X23 hx hZ e23 Ar25 (j := (10 : Int32)) hin25 (g := (mkF m 67 #[.val (.int p1), .val (.int p2), .val (.int p3), .unset, .unset, .unset, .unset, .unset, .unset] [(.int (248 : Int32)), (.int (10 : Int32)), (.ref b2), (.ref b2)])) rfl rfl (hb hby at_67)
  have V25 : Arv Z h25 b2 k2 .int (30 : Int32) [(.int (0 : Int32)), (.int (65 : Int32)), (.int (90 : Int32)), (.int (95 : Int32)), (.int (97 : Int32)), (.int (122 : Int32)), (.int (192 : Int32)), (.int (214 : Int32)), (.int (216 : Int32)), (.int (246 : Int32)), (.int (248 : Int32)), (.int (0 : Int32)), (.int (0 : Int32)), (.int (0 : Int32)), (.int (0 : Int32)), (.int (0 : Int32)), (.int (0 : Int32)), (.int (0 : Int32)), (.int (0 : Int32)), (.int (0 : Int32)), (.int (0 : Int32)), (.int (0 : Int32)), (.int (0 : Int32)), (.int (0 : Int32)), (.int (0 : Int32)), (.int (0 : Int32)), (.int (0 : Int32)), (.int (0 : Int32)), (.int (0 : Int32)), (.int (0 : Int32))] (.int (0 : Int32)) := Arv.set Ar25 q25 S25 M25 H25 G25 rfl W25 10 rfl (Nat.le_of_ble_eq_true rfl)
  have N25 := Fr.snoc X25 N23 g_b2
  have Z25 : n0 ≤ h25.size := Nat.le_trans Z23 (Keep.of_wr W25).1
  have pre25 : Steps p.tables e below _ (T25.setTop (mkF m 68 #[.val (.int p1), .val (.int p2), .val (.int p3), .unset, .unset, .unset, .unset, .unset, .unset] [(.ref b2)])) := pre24.trans (st25 _ (Steps.refl _))
  have pre26 : Steps p.tables e below _ (T25.setTop (mkF m 74 #[.val (.int p1), .val (.int p2), .val (.int p3), .unset, .unset, .unset, .unset, .unset, .unset] [(.int (767 : Int32)), (.int (11 : Int32)), (.ref b2), (.ref b2)])) := pre25.trans (by
    show Steps p.tables e below (T25.setTop (mkF m 68 #[.val (.int p1), .val (.int p2), .val (.int p3), .unset, .unset, .unset, .unset, .unset, .unset] [(.ref b2)])) _
    refine XS.dup X25.here hx rfl (hb hby at_68) rfl rfl ?_
    show Steps p.tables e below (T25.setTop (mkF m 69 #[.val (.int p1), .val (.int p2), .val (.int p3), .unset, .unset, .unset, .unset, .unset, .unset] [(.ref b2), (.ref b2)])) _
    refine XS.bipush X25.here hx rfl (hb hby at_69) ?_
    show Steps p.tables e below (T25.setTop (mkF m 71 #[.val (.int p1), .val (.int p2), .val (.int p3), .unset, .unset, .unset, .unset, .unset, .unset] [(.int (11 : Int32)), (.ref b2), (.ref b2)])) _
    refine XS.sipush X25.here hx rfl (hb hby at_71) ?_
    exact Steps.refl _)
  obtain ⟨cl27, Ar27, q27, S27, M27, H27, G27⟩ := V25
  have hin27 : ¬ ((11 : Int32) < 0 ∨ cl27.slots.size ≤ ((11 : Int32)).toNatClampNeg) := inb_of S27 ⟨by decide, by decide⟩
  obtain ⟨T27, h27, X27, e27, W27, st27⟩ := stI X25 hx hZ e25 Ar27 (j := (11 : Int32)) hin27 (g := (mkF m 74 #[.val (.int p1), .val (.int p2), .val (.int p3), .unset, .unset, .unset, .unset, .unset, .unset] [(.int (767 : Int32)), (.int (11 : Int32)), (.ref b2), (.ref b2)])) rfl rfl (hb hby at_74)
  have V27 : Arv Z h27 b2 k2 .int (30 : Int32) [(.int (0 : Int32)), (.int (65 : Int32)), (.int (90 : Int32)), (.int (95 : Int32)), (.int (97 : Int32)), (.int (122 : Int32)), (.int (192 : Int32)), (.int (214 : Int32)), (.int (216 : Int32)), (.int (246 : Int32)), (.int (248 : Int32)), (.int (767 : Int32)), (.int (0 : Int32)), (.int (0 : Int32)), (.int (0 : Int32)), (.int (0 : Int32)), (.int (0 : Int32)), (.int (0 : Int32)), (.int (0 : Int32)), (.int (0 : Int32)), (.int (0 : Int32)), (.int (0 : Int32)), (.int (0 : Int32)), (.int (0 : Int32)), (.int (0 : Int32)), (.int (0 : Int32)), (.int (0 : Int32)), (.int (0 : Int32)), (.int (0 : Int32)), (.int (0 : Int32))] (.int (0 : Int32)) := Arv.set Ar27 q27 S27 M27 H27 G27 rfl W27 11 rfl (Nat.le_of_ble_eq_true rfl)
  have N27 := Fr.snoc X27 N25 g_b2
  have Z27 : n0 ≤ h27.size := Nat.le_trans Z25 (Keep.of_wr W27).1
  have pre27 : Steps p.tables e below _ (T27.setTop (mkF m 75 #[.val (.int p1), .val (.int p2), .val (.int p3), .unset, .unset, .unset, .unset, .unset, .unset] [(.ref b2)])) := pre26.trans (st27 _ (Steps.refl _))
  obtain ⟨lc28, X28, N28⟩ : ∃ lc : List Loc, Stand p l e room_1 s m #[(.int p1), (.int p2), (.int p3)] below meth c T27 lc 1 30 ∧ Fr n0 lc := ⟨_, X27, N27⟩
  have pre29 : Steps p.tables e below _ (T27.setTop (mkF m 81 #[.val (.int p1), .val (.int p2), .val (.int p3), .unset, .unset, .unset, .unset, .unset, .unset] [(.int (880 : Int32)), (.int (12 : Int32)), (.ref b2), (.ref b2)])) := pre27.trans (by
    show Steps p.tables e below (T27.setTop (mkF m 75 #[.val (.int p1), .val (.int p2), .val (.int p3), .unset, .unset, .unset, .unset, .unset, .unset] [(.ref b2)])) _
    refine XS.dup X28.here hx rfl (hb hby at_75) rfl rfl ?_
    show Steps p.tables e below (T27.setTop (mkF m 76 #[.val (.int p1), .val (.int p2), .val (.int p3), .unset, .unset, .unset, .unset, .unset, .unset] [(.ref b2), (.ref b2)])) _
    refine XS.bipush X28.here hx rfl (hb hby at_76) ?_
    show Steps p.tables e below (T27.setTop (mkF m 78 #[.val (.int p1), .val (.int p2), .val (.int p3), .unset, .unset, .unset, .unset, .unset, .unset] [(.int (12 : Int32)), (.ref b2), (.ref b2)])) _
    refine XS.sipush X28.here hx rfl (hb hby at_78) ?_
    exact Steps.refl _)
  obtain ⟨cl30, Ar30, q30, S30, M30, H30, G30⟩ := V27
  have hin30 : ¬ ((12 : Int32) < 0 ∨ cl30.slots.size ≤ ((12 : Int32)).toNatClampNeg) := inb_of S30 ⟨by decide, by decide⟩
  obtain ⟨T30, h30, X30, e30, W30, st30⟩ := stI X28 hx hZ e27 Ar30 (j := (12 : Int32)) hin30 (g := (mkF m 81 #[.val (.int p1), .val (.int p2), .val (.int p3), .unset, .unset, .unset, .unset, .unset, .unset] [(.int (880 : Int32)), (.int (12 : Int32)), (.ref b2), (.ref b2)])) rfl rfl (hb hby at_81)
  have V30 : Arv Z h30 b2 k2 .int (30 : Int32) [(.int (0 : Int32)), (.int (65 : Int32)), (.int (90 : Int32)), (.int (95 : Int32)), (.int (97 : Int32)), (.int (122 : Int32)), (.int (192 : Int32)), (.int (214 : Int32)), (.int (216 : Int32)), (.int (246 : Int32)), (.int (248 : Int32)), (.int (767 : Int32)), (.int (880 : Int32)), (.int (0 : Int32)), (.int (0 : Int32)), (.int (0 : Int32)), (.int (0 : Int32)), (.int (0 : Int32)), (.int (0 : Int32)), (.int (0 : Int32)), (.int (0 : Int32)), (.int (0 : Int32)), (.int (0 : Int32)), (.int (0 : Int32)), (.int (0 : Int32)), (.int (0 : Int32)), (.int (0 : Int32)), (.int (0 : Int32)), (.int (0 : Int32)), (.int (0 : Int32))] (.int (0 : Int32)) := Arv.set Ar30 q30 S30 M30 H30 G30 rfl W30 12 rfl (Nat.le_of_ble_eq_true rfl)
  have N30 := Fr.snoc X30 N28 g_b2
  have Z30 : n0 ≤ h30.size := Nat.le_trans Z27 (Keep.of_wr W30).1
  have pre30 : Steps p.tables e below _ (T30.setTop (mkF m 82 #[.val (.int p1), .val (.int p2), .val (.int p3), .unset, .unset, .unset, .unset, .unset, .unset] [(.ref b2)])) := pre29.trans (st30 _ (Steps.refl _))
  have pre31 : Steps p.tables e below _ (T30.setTop (mkF m 88 #[.val (.int p1), .val (.int p2), .val (.int p3), .unset, .unset, .unset, .unset, .unset, .unset] [(.int (893 : Int32)), (.int (13 : Int32)), (.ref b2), (.ref b2)])) := pre30.trans (by
    show Steps p.tables e below (T30.setTop (mkF m 82 #[.val (.int p1), .val (.int p2), .val (.int p3), .unset, .unset, .unset, .unset, .unset, .unset] [(.ref b2)])) _
    refine XS.dup X30.here hx rfl (hb hby at_82) rfl rfl ?_
    show Steps p.tables e below (T30.setTop (mkF m 83 #[.val (.int p1), .val (.int p2), .val (.int p3), .unset, .unset, .unset, .unset, .unset, .unset] [(.ref b2), (.ref b2)])) _
    refine XS.bipush X30.here hx rfl (hb hby at_83) ?_
    show Steps p.tables e below (T30.setTop (mkF m 85 #[.val (.int p1), .val (.int p2), .val (.int p3), .unset, .unset, .unset, .unset, .unset, .unset] [(.int (13 : Int32)), (.ref b2), (.ref b2)])) _
    refine XS.sipush X30.here hx rfl (hb hby at_85) ?_
    exact Steps.refl _)
  obtain ⟨cl32, Ar32, q32, S32, M32, H32, G32⟩ := V30
  have hin32 : ¬ ((13 : Int32) < 0 ∨ cl32.slots.size ≤ ((13 : Int32)).toNatClampNeg) := inb_of S32 ⟨by decide, by decide⟩
  obtain ⟨T32, h32, X32, e32, W32, st32⟩ := stI X30 hx hZ e30 Ar32 (j := (13 : Int32)) hin32 (g := (mkF m 88 #[.val (.int p1), .val (.int p2), .val (.int p3), .unset, .unset, .unset, .unset, .unset, .unset] [(.int (893 : Int32)), (.int (13 : Int32)), (.ref b2), (.ref b2)])) rfl rfl (hb hby at_88)
  have V32 : Arv Z h32 b2 k2 .int (30 : Int32) [(.int (0 : Int32)), (.int (65 : Int32)), (.int (90 : Int32)), (.int (95 : Int32)), (.int (97 : Int32)), (.int (122 : Int32)), (.int (192 : Int32)), (.int (214 : Int32)), (.int (216 : Int32)), (.int (246 : Int32)), (.int (248 : Int32)), (.int (767 : Int32)), (.int (880 : Int32)), (.int (893 : Int32)), (.int (0 : Int32)), (.int (0 : Int32)), (.int (0 : Int32)), (.int (0 : Int32)), (.int (0 : Int32)), (.int (0 : Int32)), (.int (0 : Int32)), (.int (0 : Int32)), (.int (0 : Int32)), (.int (0 : Int32)), (.int (0 : Int32)), (.int (0 : Int32)), (.int (0 : Int32)), (.int (0 : Int32)), (.int (0 : Int32)), (.int (0 : Int32))] (.int (0 : Int32)) := Arv.set Ar32 q32 S32 M32 H32 G32 rfl W32 13 rfl (Nat.le_of_ble_eq_true rfl)
  have N32 := Fr.snoc X32 N30 g_b2
  have Z32 : n0 ≤ h32.size := Nat.le_trans Z30 (Keep.of_wr W32).1
  have pre32 : Steps p.tables e below _ (T32.setTop (mkF m 89 #[.val (.int p1), .val (.int p2), .val (.int p3), .unset, .unset, .unset, .unset, .unset, .unset] [(.ref b2)])) := pre31.trans (st32 _ (Steps.refl _))
  have pre33 : Steps p.tables e below _ (T32.setTop (mkF m 95 #[.val (.int p1), .val (.int p2), .val (.int p3), .unset, .unset, .unset, .unset, .unset, .unset] [(.int (895 : Int32)), (.int (14 : Int32)), (.ref b2), (.ref b2)])) := pre32.trans (by
    show Steps p.tables e below (T32.setTop (mkF m 89 #[.val (.int p1), .val (.int p2), .val (.int p3), .unset, .unset, .unset, .unset, .unset, .unset] [(.ref b2)])) _
    refine XS.dup X32.here hx rfl (hb hby at_89) rfl rfl ?_
    show Steps p.tables e below (T32.setTop (mkF m 90 #[.val (.int p1), .val (.int p2), .val (.int p3), .unset, .unset, .unset, .unset, .unset, .unset] [(.ref b2), (.ref b2)])) _
    refine XS.bipush X32.here hx rfl (hb hby at_90) ?_
    show Steps p.tables e below (T32.setTop (mkF m 92 #[.val (.int p1), .val (.int p2), .val (.int p3), .unset, .unset, .unset, .unset, .unset, .unset] [(.int (14 : Int32)), (.ref b2), (.ref b2)])) _
    refine XS.sipush X32.here hx rfl (hb hby at_92) ?_
    exact Steps.refl _)
  obtain ⟨cl34, Ar34, q34, S34, M34, H34, G34⟩ := V32
  have hin34 : ¬ ((14 : Int32) < 0 ∨ cl34.slots.size ≤ ((14 : Int32)).toNatClampNeg) := inb_of S34 ⟨by decide, by decide⟩
  obtain ⟨T34, h34, X34, e34, W34, st34⟩ := stI X32 hx hZ e32 Ar34 (j := (14 : Int32)) hin34 (g := (mkF m 95 #[.val (.int p1), .val (.int p2), .val (.int p3), .unset, .unset, .unset, .unset, .unset, .unset] [(.int (895 : Int32)), (.int (14 : Int32)), (.ref b2), (.ref b2)])) rfl rfl (hb hby at_95)
  have V34 : Arv Z h34 b2 k2 .int (30 : Int32) [(.int (0 : Int32)), (.int (65 : Int32)), (.int (90 : Int32)), (.int (95 : Int32)), (.int (97 : Int32)), (.int (122 : Int32)), (.int (192 : Int32)), (.int (214 : Int32)), (.int (216 : Int32)), (.int (246 : Int32)), (.int (248 : Int32)), (.int (767 : Int32)), (.int (880 : Int32)), (.int (893 : Int32)), (.int (895 : Int32)), (.int (0 : Int32)), (.int (0 : Int32)), (.int (0 : Int32)), (.int (0 : Int32)), (.int (0 : Int32)), (.int (0 : Int32)), (.int (0 : Int32)), (.int (0 : Int32)), (.int (0 : Int32)), (.int (0 : Int32)), (.int (0 : Int32)), (.int (0 : Int32)), (.int (0 : Int32)), (.int (0 : Int32)), (.int (0 : Int32))] (.int (0 : Int32)) := Arv.set Ar34 q34 S34 M34 H34 G34 rfl W34 14 rfl (Nat.le_of_ble_eq_true rfl)
  have N34 := Fr.snoc X34 N32 g_b2
  have Z34 : n0 ≤ h34.size := Nat.le_trans Z32 (Keep.of_wr W34).1
  have pre34 : Steps p.tables e below _ (T34.setTop (mkF m 96 #[.val (.int p1), .val (.int p2), .val (.int p3), .unset, .unset, .unset, .unset, .unset, .unset] [(.ref b2)])) := pre33.trans (st34 _ (Steps.refl _))
  have pre35 : Steps p.tables e below _ (T34.setTop (mkF m 102 #[.val (.int p1), .val (.int p2), .val (.int p3), .unset, .unset, .unset, .unset, .unset, .unset] [(.int (8191 : Int32)), (.int (15 : Int32)), (.ref b2), (.ref b2)])) := pre34.trans (by
    show Steps p.tables e below (T34.setTop (mkF m 96 #[.val (.int p1), .val (.int p2), .val (.int p3), .unset, .unset, .unset, .unset, .unset, .unset] [(.ref b2)])) _
    refine XS.dup X34.here hx rfl (hb hby at_96) rfl rfl ?_
    show Steps p.tables e below (T34.setTop (mkF m 97 #[.val (.int p1), .val (.int p2), .val (.int p3), .unset, .unset, .unset, .unset, .unset, .unset] [(.ref b2), (.ref b2)])) _
    refine XS.bipush X34.here hx rfl (hb hby at_97) ?_
    show Steps p.tables e below (T34.setTop (mkF m 99 #[.val (.int p1), .val (.int p2), .val (.int p3), .unset, .unset, .unset, .unset, .unset, .unset] [(.int (15 : Int32)), (.ref b2), (.ref b2)])) _
    refine XS.sipush X34.here hx rfl (hb hby at_99) ?_
    exact Steps.refl _)
  obtain ⟨cl36, Ar36, q36, S36, M36, H36, G36⟩ := V34
  have hin36 : ¬ ((15 : Int32) < 0 ∨ cl36.slots.size ≤ ((15 : Int32)).toNatClampNeg) := inb_of S36 ⟨by decide, by decide⟩
  obtain ⟨T36, h36, X36, e36, W36, st36⟩ := stI X34 hx hZ e34 Ar36 (j := (15 : Int32)) hin36 (g := (mkF m 102 #[.val (.int p1), .val (.int p2), .val (.int p3), .unset, .unset, .unset, .unset, .unset, .unset] [(.int (8191 : Int32)), (.int (15 : Int32)), (.ref b2), (.ref b2)])) rfl rfl (hb hby at_102)
  have V36 : Arv Z h36 b2 k2 .int (30 : Int32) [(.int (0 : Int32)), (.int (65 : Int32)), (.int (90 : Int32)), (.int (95 : Int32)), (.int (97 : Int32)), (.int (122 : Int32)), (.int (192 : Int32)), (.int (214 : Int32)), (.int (216 : Int32)), (.int (246 : Int32)), (.int (248 : Int32)), (.int (767 : Int32)), (.int (880 : Int32)), (.int (893 : Int32)), (.int (895 : Int32)), (.int (8191 : Int32)), (.int (0 : Int32)), (.int (0 : Int32)), (.int (0 : Int32)), (.int (0 : Int32)), (.int (0 : Int32)), (.int (0 : Int32)), (.int (0 : Int32)), (.int (0 : Int32)), (.int (0 : Int32)), (.int (0 : Int32)), (.int (0 : Int32)), (.int (0 : Int32)), (.int (0 : Int32)), (.int (0 : Int32))] (.int (0 : Int32)) := Arv.set Ar36 q36 S36 M36 H36 G36 rfl W36 15 rfl (Nat.le_of_ble_eq_true rfl)
  have N36 := Fr.snoc X36 N34 g_b2
  have Z36 : n0 ≤ h36.size := Nat.le_trans Z34 (Keep.of_wr W36).1
  have pre36 : Steps p.tables e below _ (T36.setTop (mkF m 103 #[.val (.int p1), .val (.int p2), .val (.int p3), .unset, .unset, .unset, .unset, .unset, .unset] [(.ref b2)])) := pre35.trans (st36 _ (Steps.refl _))
  have pre37 : Steps p.tables e below _ (T36.setTop (mkF m 109 #[.val (.int p1), .val (.int p2), .val (.int p3), .unset, .unset, .unset, .unset, .unset, .unset] [(.int (8204 : Int32)), (.int (16 : Int32)), (.ref b2), (.ref b2)])) := pre36.trans (by
    show Steps p.tables e below (T36.setTop (mkF m 103 #[.val (.int p1), .val (.int p2), .val (.int p3), .unset, .unset, .unset, .unset, .unset, .unset] [(.ref b2)])) _
    refine XS.dup X36.here hx rfl (hb hby at_103) rfl rfl ?_
    show Steps p.tables e below (T36.setTop (mkF m 104 #[.val (.int p1), .val (.int p2), .val (.int p3), .unset, .unset, .unset, .unset, .unset, .unset] [(.ref b2), (.ref b2)])) _
    refine XS.bipush X36.here hx rfl (hb hby at_104) ?_
    show Steps p.tables e below (T36.setTop (mkF m 106 #[.val (.int p1), .val (.int p2), .val (.int p3), .unset, .unset, .unset, .unset, .unset, .unset] [(.int (16 : Int32)), (.ref b2), (.ref b2)])) _
    refine XS.sipush X36.here hx rfl (hb hby at_106) ?_
    exact Steps.refl _)
  obtain ⟨cl38, Ar38, q38, S38, M38, H38, G38⟩ := V36
  have hin38 : ¬ ((16 : Int32) < 0 ∨ cl38.slots.size ≤ ((16 : Int32)).toNatClampNeg) := inb_of S38 ⟨by decide, by decide⟩
  obtain ⟨T38, h38, X38, e38, W38, st38⟩ := stI X36 hx hZ e36 Ar38 (j := (16 : Int32)) hin38 (g := (mkF m 109 #[.val (.int p1), .val (.int p2), .val (.int p3), .unset, .unset, .unset, .unset, .unset, .unset] [(.int (8204 : Int32)), (.int (16 : Int32)), (.ref b2), (.ref b2)])) rfl rfl (hb hby at_109)
  have V38 : Arv Z h38 b2 k2 .int (30 : Int32) [(.int (0 : Int32)), (.int (65 : Int32)), (.int (90 : Int32)), (.int (95 : Int32)), (.int (97 : Int32)), (.int (122 : Int32)), (.int (192 : Int32)), (.int (214 : Int32)), (.int (216 : Int32)), (.int (246 : Int32)), (.int (248 : Int32)), (.int (767 : Int32)), (.int (880 : Int32)), (.int (893 : Int32)), (.int (895 : Int32)), (.int (8191 : Int32)), (.int (8204 : Int32)), (.int (0 : Int32)), (.int (0 : Int32)), (.int (0 : Int32)), (.int (0 : Int32)), (.int (0 : Int32)), (.int (0 : Int32)), (.int (0 : Int32)), (.int (0 : Int32)), (.int (0 : Int32)), (.int (0 : Int32)), (.int (0 : Int32)), (.int (0 : Int32)), (.int (0 : Int32))] (.int (0 : Int32)) := Arv.set Ar38 q38 S38 M38 H38 G38 rfl W38 16 rfl (Nat.le_of_ble_eq_true rfl)
  have N38 := Fr.snoc X38 N36 g_b2
  have Z38 : n0 ≤ h38.size := Nat.le_trans Z36 (Keep.of_wr W38).1
  have pre38 : Steps p.tables e below _ (T38.setTop (mkF m 110 #[.val (.int p1), .val (.int p2), .val (.int p3), .unset, .unset, .unset, .unset, .unset, .unset] [(.ref b2)])) := pre37.trans (st38 _ (Steps.refl _))
  have pre39 : Steps p.tables e below _ (T38.setTop (mkF m 116 #[.val (.int p1), .val (.int p2), .val (.int p3), .unset, .unset, .unset, .unset, .unset, .unset] [(.int (8205 : Int32)), (.int (17 : Int32)), (.ref b2), (.ref b2)])) := pre38.trans (by
    show Steps p.tables e below (T38.setTop (mkF m 110 #[.val (.int p1), .val (.int p2), .val (.int p3), .unset, .unset, .unset, .unset, .unset, .unset] [(.ref b2)])) _
    refine XS.dup X38.here hx rfl (hb hby at_110) rfl rfl ?_
    show Steps p.tables e below (T38.setTop (mkF m 111 #[.val (.int p1), .val (.int p2), .val (.int p3), .unset, .unset, .unset, .unset, .unset, .unset] [(.ref b2), (.ref b2)])) _
    refine XS.bipush X38.here hx rfl (hb hby at_111) ?_
    show Steps p.tables e below (T38.setTop (mkF m 113 #[.val (.int p1), .val (.int p2), .val (.int p3), .unset, .unset, .unset, .unset, .unset, .unset] [(.int (17 : Int32)), (.ref b2), (.ref b2)])) _
    refine XS.sipush X38.here hx rfl (hb hby at_113) ?_
    exact Steps.refl _)
  obtain ⟨cl40, Ar40, q40, S40, M40, H40, G40⟩ := V38
  have hin40 : ¬ ((17 : Int32) < 0 ∨ cl40.slots.size ≤ ((17 : Int32)).toNatClampNeg) := inb_of S40 ⟨by decide, by decide⟩
  obtain ⟨T40, h40, X40, e40, W40, st40⟩ := stI X38 hx hZ e38 Ar40 (j := (17 : Int32)) hin40 (g := (mkF m 116 #[.val (.int p1), .val (.int p2), .val (.int p3), .unset, .unset, .unset, .unset, .unset, .unset] [(.int (8205 : Int32)), (.int (17 : Int32)), (.ref b2), (.ref b2)])) rfl rfl (hb hby at_116)
  have V40 : Arv Z h40 b2 k2 .int (30 : Int32) [(.int (0 : Int32)), (.int (65 : Int32)), (.int (90 : Int32)), (.int (95 : Int32)), (.int (97 : Int32)), (.int (122 : Int32)), (.int (192 : Int32)), (.int (214 : Int32)), (.int (216 : Int32)), (.int (246 : Int32)), (.int (248 : Int32)), (.int (767 : Int32)), (.int (880 : Int32)), (.int (893 : Int32)), (.int (895 : Int32)), (.int (8191 : Int32)), (.int (8204 : Int32)), (.int (8205 : Int32)), (.int (0 : Int32)), (.int (0 : Int32)), (.int (0 : Int32)), (.int (0 : Int32)), (.int (0 : Int32)), (.int (0 : Int32)), (.int (0 : Int32)), (.int (0 : Int32)), (.int (0 : Int32)), (.int (0 : Int32)), (.int (0 : Int32)), (.int (0 : Int32))] (.int (0 : Int32)) := Arv.set Ar40 q40 S40 M40 H40 G40 rfl W40 17 rfl (Nat.le_of_ble_eq_true rfl)
  have N40 := Fr.snoc X40 N38 g_b2
  have Z40 : n0 ≤ h40.size := Nat.le_trans Z38 (Keep.of_wr W40).1
  have pre40 : Steps p.tables e below _ (T40.setTop (mkF m 117 #[.val (.int p1), .val (.int p2), .val (.int p3), .unset, .unset, .unset, .unset, .unset, .unset] [(.ref b2)])) := pre39.trans (st40 _ (Steps.refl _))
  obtain ⟨lc41, X41, N41⟩ : ∃ lc : List Loc, Stand p l e room_1 s m #[(.int p1), (.int p2), (.int p3)] below meth c T40 lc 1 30 ∧ Fr n0 lc := ⟨_, X40, N40⟩
  have pre42 : Steps p.tables e below _ (T40.setTop (mkF m 123 #[.val (.int p1), .val (.int p2), .val (.int p3), .unset, .unset, .unset, .unset, .unset, .unset] [(.int (8304 : Int32)), (.int (18 : Int32)), (.ref b2), (.ref b2)])) := pre40.trans (by
    show Steps p.tables e below (T40.setTop (mkF m 117 #[.val (.int p1), .val (.int p2), .val (.int p3), .unset, .unset, .unset, .unset, .unset, .unset] [(.ref b2)])) _
    refine XS.dup X41.here hx rfl (hb hby at_117) rfl rfl ?_
    show Steps p.tables e below (T40.setTop (mkF m 118 #[.val (.int p1), .val (.int p2), .val (.int p3), .unset, .unset, .unset, .unset, .unset, .unset] [(.ref b2), (.ref b2)])) _
    refine XS.bipush X41.here hx rfl (hb hby at_118) ?_
    show Steps p.tables e below (T40.setTop (mkF m 120 #[.val (.int p1), .val (.int p2), .val (.int p3), .unset, .unset, .unset, .unset, .unset, .unset] [(.int (18 : Int32)), (.ref b2), (.ref b2)])) _
    refine XS.sipush X41.here hx rfl (hb hby at_120) ?_
    exact Steps.refl _)
  obtain ⟨cl43, Ar43, q43, S43, M43, H43, G43⟩ := V40
  have hin43 : ¬ ((18 : Int32) < 0 ∨ cl43.slots.size ≤ ((18 : Int32)).toNatClampNeg) := inb_of S43 ⟨by decide, by decide⟩
  obtain ⟨T43, h43, X43, e43, W43, st43⟩ := stI X41 hx hZ e40 Ar43 (j := (18 : Int32)) hin43 (g := (mkF m 123 #[.val (.int p1), .val (.int p2), .val (.int p3), .unset, .unset, .unset, .unset, .unset, .unset] [(.int (8304 : Int32)), (.int (18 : Int32)), (.ref b2), (.ref b2)])) rfl rfl (hb hby at_123)
  have V43 : Arv Z h43 b2 k2 .int (30 : Int32) [(.int (0 : Int32)), (.int (65 : Int32)), (.int (90 : Int32)), (.int (95 : Int32)), (.int (97 : Int32)), (.int (122 : Int32)), (.int (192 : Int32)), (.int (214 : Int32)), (.int (216 : Int32)), (.int (246 : Int32)), (.int (248 : Int32)), (.int (767 : Int32)), (.int (880 : Int32)), (.int (893 : Int32)), (.int (895 : Int32)), (.int (8191 : Int32)), (.int (8204 : Int32)), (.int (8205 : Int32)), (.int (8304 : Int32)), (.int (0 : Int32)), (.int (0 : Int32)), (.int (0 : Int32)), (.int (0 : Int32)), (.int (0 : Int32)), (.int (0 : Int32)), (.int (0 : Int32)), (.int (0 : Int32)), (.int (0 : Int32)), (.int (0 : Int32)), (.int (0 : Int32))] (.int (0 : Int32)) := Arv.set Ar43 q43 S43 M43 H43 G43 rfl W43 18 rfl (Nat.le_of_ble_eq_true rfl)
  have N43 := Fr.snoc X43 N41 g_b2
  have Z43 : n0 ≤ h43.size := Nat.le_trans Z40 (Keep.of_wr W43).1
  have pre43 : Steps p.tables e below _ (T43.setTop (mkF m 124 #[.val (.int p1), .val (.int p2), .val (.int p3), .unset, .unset, .unset, .unset, .unset, .unset] [(.ref b2)])) := pre42.trans (st43 _ (Steps.refl _))
  have pre44 : Steps p.tables e below _ (T43.setTop (mkF m 130 #[.val (.int p1), .val (.int p2), .val (.int p3), .unset, .unset, .unset, .unset, .unset, .unset] [(.int (8591 : Int32)), (.int (19 : Int32)), (.ref b2), (.ref b2)])) := pre43.trans (by
    show Steps p.tables e below (T43.setTop (mkF m 124 #[.val (.int p1), .val (.int p2), .val (.int p3), .unset, .unset, .unset, .unset, .unset, .unset] [(.ref b2)])) _
    refine XS.dup X43.here hx rfl (hb hby at_124) rfl rfl ?_
    show Steps p.tables e below (T43.setTop (mkF m 125 #[.val (.int p1), .val (.int p2), .val (.int p3), .unset, .unset, .unset, .unset, .unset, .unset] [(.ref b2), (.ref b2)])) _
    refine XS.bipush X43.here hx rfl (hb hby at_125) ?_
    show Steps p.tables e below (T43.setTop (mkF m 127 #[.val (.int p1), .val (.int p2), .val (.int p3), .unset, .unset, .unset, .unset, .unset, .unset] [(.int (19 : Int32)), (.ref b2), (.ref b2)])) _
    refine XS.sipush X43.here hx rfl (hb hby at_127) ?_
    exact Steps.refl _)
  obtain ⟨cl45, Ar45, q45, S45, M45, H45, G45⟩ := V43
  have hin45 : ¬ ((19 : Int32) < 0 ∨ cl45.slots.size ≤ ((19 : Int32)).toNatClampNeg) := inb_of S45 ⟨by decide, by decide⟩
  obtain ⟨T45, h45, X45, e45, W45, st45⟩ := stI X43 hx hZ e43 Ar45 (j := (19 : Int32)) hin45 (g := (mkF m 130 #[.val (.int p1), .val (.int p2), .val (.int p3), .unset, .unset, .unset, .unset, .unset, .unset] [(.int (8591 : Int32)), (.int (19 : Int32)), (.ref b2), (.ref b2)])) rfl rfl (hb hby at_130)
  have V45 : Arv Z h45 b2 k2 .int (30 : Int32) [(.int (0 : Int32)), (.int (65 : Int32)), (.int (90 : Int32)), (.int (95 : Int32)), (.int (97 : Int32)), (.int (122 : Int32)), (.int (192 : Int32)), (.int (214 : Int32)), (.int (216 : Int32)), (.int (246 : Int32)), (.int (248 : Int32)), (.int (767 : Int32)), (.int (880 : Int32)), (.int (893 : Int32)), (.int (895 : Int32)), (.int (8191 : Int32)), (.int (8204 : Int32)), (.int (8205 : Int32)), (.int (8304 : Int32)), (.int (8591 : Int32)), (.int (0 : Int32)), (.int (0 : Int32)), (.int (0 : Int32)), (.int (0 : Int32)), (.int (0 : Int32)), (.int (0 : Int32)), (.int (0 : Int32)), (.int (0 : Int32)), (.int (0 : Int32)), (.int (0 : Int32))] (.int (0 : Int32)) := Arv.set Ar45 q45 S45 M45 H45 G45 rfl W45 19 rfl (Nat.le_of_ble_eq_true rfl)
  have N45 := Fr.snoc X45 N43 g_b2
  have Z45 : n0 ≤ h45.size := Nat.le_trans Z43 (Keep.of_wr W45).1
  have pre45 : Steps p.tables e below _ (T45.setTop (mkF m 131 #[.val (.int p1), .val (.int p2), .val (.int p3), .unset, .unset, .unset, .unset, .unset, .unset] [(.ref b2)])) := pre44.trans (st45 _ (Steps.refl _))
  have pre46 : Steps p.tables e below _ (T45.setTop (mkF m 137 #[.val (.int p1), .val (.int p2), .val (.int p3), .unset, .unset, .unset, .unset, .unset, .unset] [(.int (11264 : Int32)), (.int (20 : Int32)), (.ref b2), (.ref b2)])) := pre45.trans (by
    show Steps p.tables e below (T45.setTop (mkF m 131 #[.val (.int p1), .val (.int p2), .val (.int p3), .unset, .unset, .unset, .unset, .unset, .unset] [(.ref b2)])) _
    refine XS.dup X45.here hx rfl (hb hby at_131) rfl rfl ?_
    show Steps p.tables e below (T45.setTop (mkF m 132 #[.val (.int p1), .val (.int p2), .val (.int p3), .unset, .unset, .unset, .unset, .unset, .unset] [(.ref b2), (.ref b2)])) _
    refine XS.bipush X45.here hx rfl (hb hby at_132) ?_
    show Steps p.tables e below (T45.setTop (mkF m 134 #[.val (.int p1), .val (.int p2), .val (.int p3), .unset, .unset, .unset, .unset, .unset, .unset] [(.int (20 : Int32)), (.ref b2), (.ref b2)])) _
    refine XS.sipush X45.here hx rfl (hb hby at_134) ?_
    exact Steps.refl _)
  obtain ⟨cl47, Ar47, q47, S47, M47, H47, G47⟩ := V45
  have hin47 : ¬ ((20 : Int32) < 0 ∨ cl47.slots.size ≤ ((20 : Int32)).toNatClampNeg) := inb_of S47 ⟨by decide, by decide⟩
  obtain ⟨T47, h47, X47, e47, W47, st47⟩ := stI X45 hx hZ e45 Ar47 (j := (20 : Int32)) hin47 (g := (mkF m 137 #[.val (.int p1), .val (.int p2), .val (.int p3), .unset, .unset, .unset, .unset, .unset, .unset] [(.int (11264 : Int32)), (.int (20 : Int32)), (.ref b2), (.ref b2)])) rfl rfl (hb hby at_137)
  have V47 : Arv Z h47 b2 k2 .int (30 : Int32) [(.int (0 : Int32)), (.int (65 : Int32)), (.int (90 : Int32)), (.int (95 : Int32)), (.int (97 : Int32)), (.int (122 : Int32)), (.int (192 : Int32)), (.int (214 : Int32)), (.int (216 : Int32)), (.int (246 : Int32)), (.int (248 : Int32)), (.int (767 : Int32)), (.int (880 : Int32)), (.int (893 : Int32)), (.int (895 : Int32)), (.int (8191 : Int32)), (.int (8204 : Int32)), (.int (8205 : Int32)), (.int (8304 : Int32)), (.int (8591 : Int32)), (.int (11264 : Int32)), (.int (0 : Int32)), (.int (0 : Int32)), (.int (0 : Int32)), (.int (0 : Int32)), (.int (0 : Int32)), (.int (0 : Int32)), (.int (0 : Int32)), (.int (0 : Int32)), (.int (0 : Int32))] (.int (0 : Int32)) := Arv.set Ar47 q47 S47 M47 H47 G47 rfl W47 20 rfl (Nat.le_of_ble_eq_true rfl)
  have N47 := Fr.snoc X47 N45 g_b2
  have Z47 : n0 ≤ h47.size := Nat.le_trans Z45 (Keep.of_wr W47).1
  have pre47 : Steps p.tables e below _ (T47.setTop (mkF m 138 #[.val (.int p1), .val (.int p2), .val (.int p3), .unset, .unset, .unset, .unset, .unset, .unset] [(.ref b2)])) := pre46.trans (st47 _ (Steps.refl _))
  have pre48 : Steps p.tables e below _ (T47.setTop (mkF m 144 #[.val (.int p1), .val (.int p2), .val (.int p3), .unset, .unset, .unset, .unset, .unset, .unset] [(.int (12271 : Int32)), (.int (21 : Int32)), (.ref b2), (.ref b2)])) := pre47.trans (by
    show Steps p.tables e below (T47.setTop (mkF m 138 #[.val (.int p1), .val (.int p2), .val (.int p3), .unset, .unset, .unset, .unset, .unset, .unset] [(.ref b2)])) _
    refine XS.dup X47.here hx rfl (hb hby at_138) rfl rfl ?_
    show Steps p.tables e below (T47.setTop (mkF m 139 #[.val (.int p1), .val (.int p2), .val (.int p3), .unset, .unset, .unset, .unset, .unset, .unset] [(.ref b2), (.ref b2)])) _
    refine XS.bipush X47.here hx rfl (hb hby at_139) ?_
    show Steps p.tables e below (T47.setTop (mkF m 141 #[.val (.int p1), .val (.int p2), .val (.int p3), .unset, .unset, .unset, .unset, .unset, .unset] [(.int (21 : Int32)), (.ref b2), (.ref b2)])) _
    refine XS.sipush X47.here hx rfl (hb hby at_141) ?_
    exact Steps.refl _)
  obtain ⟨cl49, Ar49, q49, S49, M49, H49, G49⟩ := V47
  have hin49 : ¬ ((21 : Int32) < 0 ∨ cl49.slots.size ≤ ((21 : Int32)).toNatClampNeg) := inb_of S49 ⟨by decide, by decide⟩
  obtain ⟨T49, h49, X49, e49, W49, st49⟩ := stI X47 hx hZ e47 Ar49 (j := (21 : Int32)) hin49 (g := (mkF m 144 #[.val (.int p1), .val (.int p2), .val (.int p3), .unset, .unset, .unset, .unset, .unset, .unset] [(.int (12271 : Int32)), (.int (21 : Int32)), (.ref b2), (.ref b2)])) rfl rfl (hb hby at_144)
  have V49 : Arv Z h49 b2 k2 .int (30 : Int32) [(.int (0 : Int32)), (.int (65 : Int32)), (.int (90 : Int32)), (.int (95 : Int32)), (.int (97 : Int32)), (.int (122 : Int32)), (.int (192 : Int32)), (.int (214 : Int32)), (.int (216 : Int32)), (.int (246 : Int32)), (.int (248 : Int32)), (.int (767 : Int32)), (.int (880 : Int32)), (.int (893 : Int32)), (.int (895 : Int32)), (.int (8191 : Int32)), (.int (8204 : Int32)), (.int (8205 : Int32)), (.int (8304 : Int32)), (.int (8591 : Int32)), (.int (11264 : Int32)), (.int (12271 : Int32)), (.int (0 : Int32)), (.int (0 : Int32)), (.int (0 : Int32)), (.int (0 : Int32)), (.int (0 : Int32)), (.int (0 : Int32)), (.int (0 : Int32)), (.int (0 : Int32))] (.int (0 : Int32)) := Arv.set Ar49 q49 S49 M49 H49 G49 rfl W49 21 rfl (Nat.le_of_ble_eq_true rfl)
  have N49 := Fr.snoc X49 N47 g_b2
  have Z49 : n0 ≤ h49.size := Nat.le_trans Z47 (Keep.of_wr W49).1
  have pre49 : Steps p.tables e below _ (T49.setTop (mkF m 145 #[.val (.int p1), .val (.int p2), .val (.int p3), .unset, .unset, .unset, .unset, .unset, .unset] [(.ref b2)])) := pre48.trans (st49 _ (Steps.refl _))
  have pre50 : Steps p.tables e below _ (T49.setTop (mkF m 151 #[.val (.int p1), .val (.int p2), .val (.int p3), .unset, .unset, .unset, .unset, .unset, .unset] [(.int (12289 : Int32)), (.int (22 : Int32)), (.ref b2), (.ref b2)])) := pre49.trans (by
    show Steps p.tables e below (T49.setTop (mkF m 145 #[.val (.int p1), .val (.int p2), .val (.int p3), .unset, .unset, .unset, .unset, .unset, .unset] [(.ref b2)])) _
    refine XS.dup X49.here hx rfl (hb hby at_145) rfl rfl ?_
    show Steps p.tables e below (T49.setTop (mkF m 146 #[.val (.int p1), .val (.int p2), .val (.int p3), .unset, .unset, .unset, .unset, .unset, .unset] [(.ref b2), (.ref b2)])) _
    refine XS.bipush X49.here hx rfl (hb hby at_146) ?_
    show Steps p.tables e below (T49.setTop (mkF m 148 #[.val (.int p1), .val (.int p2), .val (.int p3), .unset, .unset, .unset, .unset, .unset, .unset] [(.int (22 : Int32)), (.ref b2), (.ref b2)])) _
    refine XS.sipush X49.here hx rfl (hb hby at_148) ?_
    exact Steps.refl _)
  obtain ⟨cl51, Ar51, q51, S51, M51, H51, G51⟩ := V49
  have hin51 : ¬ ((22 : Int32) < 0 ∨ cl51.slots.size ≤ ((22 : Int32)).toNatClampNeg) := inb_of S51 ⟨by decide, by decide⟩
  obtain ⟨T51, h51, X51, e51, W51, st51⟩ := stI X49 hx hZ e49 Ar51 (j := (22 : Int32)) hin51 (g := (mkF m 151 #[.val (.int p1), .val (.int p2), .val (.int p3), .unset, .unset, .unset, .unset, .unset, .unset] [(.int (12289 : Int32)), (.int (22 : Int32)), (.ref b2), (.ref b2)])) rfl rfl (hb hby at_151)
  have V51 : Arv Z h51 b2 k2 .int (30 : Int32) [(.int (0 : Int32)), (.int (65 : Int32)), (.int (90 : Int32)), (.int (95 : Int32)), (.int (97 : Int32)), (.int (122 : Int32)), (.int (192 : Int32)), (.int (214 : Int32)), (.int (216 : Int32)), (.int (246 : Int32)), (.int (248 : Int32)), (.int (767 : Int32)), (.int (880 : Int32)), (.int (893 : Int32)), (.int (895 : Int32)), (.int (8191 : Int32)), (.int (8204 : Int32)), (.int (8205 : Int32)), (.int (8304 : Int32)), (.int (8591 : Int32)), (.int (11264 : Int32)), (.int (12271 : Int32)), (.int (12289 : Int32)), (.int (0 : Int32)), (.int (0 : Int32)), (.int (0 : Int32)), (.int (0 : Int32)), (.int (0 : Int32)), (.int (0 : Int32)), (.int (0 : Int32))] (.int (0 : Int32)) := Arv.set Ar51 q51 S51 M51 H51 G51 rfl W51 22 rfl (Nat.le_of_ble_eq_true rfl)
  have N51 := Fr.snoc X51 N49 g_b2
  have Z51 : n0 ≤ h51.size := Nat.le_trans Z49 (Keep.of_wr W51).1
  have pre51 : Steps p.tables e below _ (T51.setTop (mkF m 152 #[.val (.int p1), .val (.int p2), .val (.int p3), .unset, .unset, .unset, .unset, .unset, .unset] [(.ref b2)])) := pre50.trans (st51 _ (Steps.refl _))
  have pre52 : Steps p.tables e below _ (T51.setTop (mkF m 157 #[.val (.int p1), .val (.int p2), .val (.int p3), .unset, .unset, .unset, .unset, .unset, .unset] [(.int (55295 : Int32)), (.int (23 : Int32)), (.ref b2), (.ref b2)])) := pre51.trans (by
    show Steps p.tables e below (T51.setTop (mkF m 152 #[.val (.int p1), .val (.int p2), .val (.int p3), .unset, .unset, .unset, .unset, .unset, .unset] [(.ref b2)])) _
    refine XS.dup X51.here hx rfl (hb hby at_152) rfl rfl ?_
    show Steps p.tables e below (T51.setTop (mkF m 153 #[.val (.int p1), .val (.int p2), .val (.int p3), .unset, .unset, .unset, .unset, .unset, .unset] [(.ref b2), (.ref b2)])) _
    refine XS.bipush X51.here hx rfl (hb hby at_153) ?_
    show Steps p.tables e below (T51.setTop (mkF m 155 #[.val (.int p1), .val (.int p2), .val (.int p3), .unset, .unset, .unset, .unset, .unset, .unset] [(.int (23 : Int32)), (.ref b2), (.ref b2)])) _
    refine X51.ldcInt hx hown (mvT hZ (hw _ (List.mem_of_getElem? (i := 1) rfl))) (g := (mkF m 155 #[.val (.int p1), .val (.int p2), .val (.int p3), .unset, .unset, .unset, .unset, .unset, .unset] [(.int (23 : Int32)), (.ref b2), (.ref b2)])) rfl (hb hby at_155) _ ?_
    exact Steps.refl _)
  obtain ⟨cl53, Ar53, q53, S53, M53, H53, G53⟩ := V51
  have hin53 : ¬ ((23 : Int32) < 0 ∨ cl53.slots.size ≤ ((23 : Int32)).toNatClampNeg) := inb_of S53 ⟨by decide, by decide⟩
  obtain ⟨T53, h53, X53, e53, W53, st53⟩ := stI X51 hx hZ e51 Ar53 (j := (23 : Int32)) hin53 (g := (mkF m 157 #[.val (.int p1), .val (.int p2), .val (.int p3), .unset, .unset, .unset, .unset, .unset, .unset] [(.int (55295 : Int32)), (.int (23 : Int32)), (.ref b2), (.ref b2)])) rfl rfl (hb hby at_157)
  have V53 : Arv Z h53 b2 k2 .int (30 : Int32) [(.int (0 : Int32)), (.int (65 : Int32)), (.int (90 : Int32)), (.int (95 : Int32)), (.int (97 : Int32)), (.int (122 : Int32)), (.int (192 : Int32)), (.int (214 : Int32)), (.int (216 : Int32)), (.int (246 : Int32)), (.int (248 : Int32)), (.int (767 : Int32)), (.int (880 : Int32)), (.int (893 : Int32)), (.int (895 : Int32)), (.int (8191 : Int32)), (.int (8204 : Int32)), (.int (8205 : Int32)), (.int (8304 : Int32)), (.int (8591 : Int32)), (.int (11264 : Int32)), (.int (12271 : Int32)), (.int (12289 : Int32)), (.int (55295 : Int32)), (.int (0 : Int32)), (.int (0 : Int32)), (.int (0 : Int32)), (.int (0 : Int32)), (.int (0 : Int32)), (.int (0 : Int32))] (.int (0 : Int32)) := Arv.set Ar53 q53 S53 M53 H53 G53 rfl W53 23 rfl (Nat.le_of_ble_eq_true rfl)
  have N53 := Fr.snoc X53 N51 g_b2
  have Z53 : n0 ≤ h53.size := Nat.le_trans Z51 (Keep.of_wr W53).1
  have pre53 : Steps p.tables e below _ (T53.setTop (mkF m 158 #[.val (.int p1), .val (.int p2), .val (.int p3), .unset, .unset, .unset, .unset, .unset, .unset] [(.ref b2)])) := pre52.trans (st53 _ (Steps.refl _))
  obtain ⟨lc54, X54, N54⟩ : ∃ lc : List Loc, Stand p l e room_1 s m #[(.int p1), (.int p2), (.int p3)] below meth c T53 lc 1 30 ∧ Fr n0 lc := ⟨_, X53, N53⟩
  have pre55 : Steps p.tables e below _ (T53.setTop (mkF m 163 #[.val (.int p1), .val (.int p2), .val (.int p3), .unset, .unset, .unset, .unset, .unset, .unset] [(.int (63744 : Int32)), (.int (24 : Int32)), (.ref b2), (.ref b2)])) := pre53.trans (by
    show Steps p.tables e below (T53.setTop (mkF m 158 #[.val (.int p1), .val (.int p2), .val (.int p3), .unset, .unset, .unset, .unset, .unset, .unset] [(.ref b2)])) _
    refine XS.dup X54.here hx rfl (hb hby at_158) rfl rfl ?_
    show Steps p.tables e below (T53.setTop (mkF m 159 #[.val (.int p1), .val (.int p2), .val (.int p3), .unset, .unset, .unset, .unset, .unset, .unset] [(.ref b2), (.ref b2)])) _
    refine XS.bipush X54.here hx rfl (hb hby at_159) ?_
    show Steps p.tables e below (T53.setTop (mkF m 161 #[.val (.int p1), .val (.int p2), .val (.int p3), .unset, .unset, .unset, .unset, .unset, .unset] [(.int (24 : Int32)), (.ref b2), (.ref b2)])) _
    refine X54.ldcInt hx hown (mvT hZ (hw _ (List.mem_of_getElem? (i := 2) rfl))) (g := (mkF m 161 #[.val (.int p1), .val (.int p2), .val (.int p3), .unset, .unset, .unset, .unset, .unset, .unset] [(.int (24 : Int32)), (.ref b2), (.ref b2)])) rfl (hb hby at_161) _ ?_
    exact Steps.refl _)
  obtain ⟨cl56, Ar56, q56, S56, M56, H56, G56⟩ := V53
  have hin56 : ¬ ((24 : Int32) < 0 ∨ cl56.slots.size ≤ ((24 : Int32)).toNatClampNeg) := inb_of S56 ⟨by decide, by decide⟩
  obtain ⟨T56, h56, X56, e56, W56, st56⟩ := stI X54 hx hZ e53 Ar56 (j := (24 : Int32)) hin56 (g := (mkF m 163 #[.val (.int p1), .val (.int p2), .val (.int p3), .unset, .unset, .unset, .unset, .unset, .unset] [(.int (63744 : Int32)), (.int (24 : Int32)), (.ref b2), (.ref b2)])) rfl rfl (hb hby at_163)
  have V56 : Arv Z h56 b2 k2 .int (30 : Int32) [(.int (0 : Int32)), (.int (65 : Int32)), (.int (90 : Int32)), (.int (95 : Int32)), (.int (97 : Int32)), (.int (122 : Int32)), (.int (192 : Int32)), (.int (214 : Int32)), (.int (216 : Int32)), (.int (246 : Int32)), (.int (248 : Int32)), (.int (767 : Int32)), (.int (880 : Int32)), (.int (893 : Int32)), (.int (895 : Int32)), (.int (8191 : Int32)), (.int (8204 : Int32)), (.int (8205 : Int32)), (.int (8304 : Int32)), (.int (8591 : Int32)), (.int (11264 : Int32)), (.int (12271 : Int32)), (.int (12289 : Int32)), (.int (55295 : Int32)), (.int (63744 : Int32)), (.int (0 : Int32)), (.int (0 : Int32)), (.int (0 : Int32)), (.int (0 : Int32)), (.int (0 : Int32))] (.int (0 : Int32)) := Arv.set Ar56 q56 S56 M56 H56 G56 rfl W56 24 rfl (Nat.le_of_ble_eq_true rfl)
  have N56 := Fr.snoc X56 N54 g_b2
  have Z56 : n0 ≤ h56.size := Nat.le_trans Z53 (Keep.of_wr W56).1
  have pre56 : Steps p.tables e below _ (T56.setTop (mkF m 164 #[.val (.int p1), .val (.int p2), .val (.int p3), .unset, .unset, .unset, .unset, .unset, .unset] [(.ref b2)])) := pre55.trans (st56 _ (Steps.refl _))
  have pre57 : Steps p.tables e below _ (T56.setTop (mkF m 169 #[.val (.int p1), .val (.int p2), .val (.int p3), .unset, .unset, .unset, .unset, .unset, .unset] [(.int (64975 : Int32)), (.int (25 : Int32)), (.ref b2), (.ref b2)])) := pre56.trans (by
    show Steps p.tables e below (T56.setTop (mkF m 164 #[.val (.int p1), .val (.int p2), .val (.int p3), .unset, .unset, .unset, .unset, .unset, .unset] [(.ref b2)])) _
    refine XS.dup X56.here hx rfl (hb hby at_164) rfl rfl ?_
    show Steps p.tables e below (T56.setTop (mkF m 165 #[.val (.int p1), .val (.int p2), .val (.int p3), .unset, .unset, .unset, .unset, .unset, .unset] [(.ref b2), (.ref b2)])) _
    refine XS.bipush X56.here hx rfl (hb hby at_165) ?_
    show Steps p.tables e below (T56.setTop (mkF m 167 #[.val (.int p1), .val (.int p2), .val (.int p3), .unset, .unset, .unset, .unset, .unset, .unset] [(.int (25 : Int32)), (.ref b2), (.ref b2)])) _
    refine X56.ldcInt hx hown (mvT hZ (hw _ (List.mem_of_getElem? (i := 3) rfl))) (g := (mkF m 167 #[.val (.int p1), .val (.int p2), .val (.int p3), .unset, .unset, .unset, .unset, .unset, .unset] [(.int (25 : Int32)), (.ref b2), (.ref b2)])) rfl (hb hby at_167) _ ?_
    exact Steps.refl _)
  obtain ⟨cl58, Ar58, q58, S58, M58, H58, G58⟩ := V56
  have hin58 : ¬ ((25 : Int32) < 0 ∨ cl58.slots.size ≤ ((25 : Int32)).toNatClampNeg) := inb_of S58 ⟨by decide, by decide⟩
  obtain ⟨T58, h58, X58, e58, W58, st58⟩ := stI X56 hx hZ e56 Ar58 (j := (25 : Int32)) hin58 (g := (mkF m 169 #[.val (.int p1), .val (.int p2), .val (.int p3), .unset, .unset, .unset, .unset, .unset, .unset] [(.int (64975 : Int32)), (.int (25 : Int32)), (.ref b2), (.ref b2)])) rfl rfl (hb hby at_169)
  have V58 : Arv Z h58 b2 k2 .int (30 : Int32) [(.int (0 : Int32)), (.int (65 : Int32)), (.int (90 : Int32)), (.int (95 : Int32)), (.int (97 : Int32)), (.int (122 : Int32)), (.int (192 : Int32)), (.int (214 : Int32)), (.int (216 : Int32)), (.int (246 : Int32)), (.int (248 : Int32)), (.int (767 : Int32)), (.int (880 : Int32)), (.int (893 : Int32)), (.int (895 : Int32)), (.int (8191 : Int32)), (.int (8204 : Int32)), (.int (8205 : Int32)), (.int (8304 : Int32)), (.int (8591 : Int32)), (.int (11264 : Int32)), (.int (12271 : Int32)), (.int (12289 : Int32)), (.int (55295 : Int32)), (.int (63744 : Int32)), (.int (64975 : Int32)), (.int (0 : Int32)), (.int (0 : Int32)), (.int (0 : Int32)), (.int (0 : Int32))] (.int (0 : Int32)) := Arv.set Ar58 q58 S58 M58 H58 G58 rfl W58 25 rfl (Nat.le_of_ble_eq_true rfl)
  have N58 := Fr.snoc X58 N56 g_b2
  have Z58 : n0 ≤ h58.size := Nat.le_trans Z56 (Keep.of_wr W58).1
  have pre58 : Steps p.tables e below _ (T58.setTop (mkF m 170 #[.val (.int p1), .val (.int p2), .val (.int p3), .unset, .unset, .unset, .unset, .unset, .unset] [(.ref b2)])) := pre57.trans (st58 _ (Steps.refl _))
  have pre59 : Steps p.tables e below _ (T58.setTop (mkF m 175 #[.val (.int p1), .val (.int p2), .val (.int p3), .unset, .unset, .unset, .unset, .unset, .unset] [(.int (65008 : Int32)), (.int (26 : Int32)), (.ref b2), (.ref b2)])) := pre58.trans (by
    show Steps p.tables e below (T58.setTop (mkF m 170 #[.val (.int p1), .val (.int p2), .val (.int p3), .unset, .unset, .unset, .unset, .unset, .unset] [(.ref b2)])) _
    refine XS.dup X58.here hx rfl (hb hby at_170) rfl rfl ?_
    show Steps p.tables e below (T58.setTop (mkF m 171 #[.val (.int p1), .val (.int p2), .val (.int p3), .unset, .unset, .unset, .unset, .unset, .unset] [(.ref b2), (.ref b2)])) _
    refine XS.bipush X58.here hx rfl (hb hby at_171) ?_
    show Steps p.tables e below (T58.setTop (mkF m 173 #[.val (.int p1), .val (.int p2), .val (.int p3), .unset, .unset, .unset, .unset, .unset, .unset] [(.int (26 : Int32)), (.ref b2), (.ref b2)])) _
    refine X58.ldcInt hx hown (mvT hZ (hw _ (List.mem_of_getElem? (i := 4) rfl))) (g := (mkF m 173 #[.val (.int p1), .val (.int p2), .val (.int p3), .unset, .unset, .unset, .unset, .unset, .unset] [(.int (26 : Int32)), (.ref b2), (.ref b2)])) rfl (hb hby at_173) _ ?_
    exact Steps.refl _)
  obtain ⟨cl60, Ar60, q60, S60, M60, H60, G60⟩ := V58
  have hin60 : ¬ ((26 : Int32) < 0 ∨ cl60.slots.size ≤ ((26 : Int32)).toNatClampNeg) := inb_of S60 ⟨by decide, by decide⟩
  obtain ⟨T60, h60, X60, e60, W60, st60⟩ := stI X58 hx hZ e58 Ar60 (j := (26 : Int32)) hin60 (g := (mkF m 175 #[.val (.int p1), .val (.int p2), .val (.int p3), .unset, .unset, .unset, .unset, .unset, .unset] [(.int (65008 : Int32)), (.int (26 : Int32)), (.ref b2), (.ref b2)])) rfl rfl (hb hby at_175)
  have V60 : Arv Z h60 b2 k2 .int (30 : Int32) [(.int (0 : Int32)), (.int (65 : Int32)), (.int (90 : Int32)), (.int (95 : Int32)), (.int (97 : Int32)), (.int (122 : Int32)), (.int (192 : Int32)), (.int (214 : Int32)), (.int (216 : Int32)), (.int (246 : Int32)), (.int (248 : Int32)), (.int (767 : Int32)), (.int (880 : Int32)), (.int (893 : Int32)), (.int (895 : Int32)), (.int (8191 : Int32)), (.int (8204 : Int32)), (.int (8205 : Int32)), (.int (8304 : Int32)), (.int (8591 : Int32)), (.int (11264 : Int32)), (.int (12271 : Int32)), (.int (12289 : Int32)), (.int (55295 : Int32)), (.int (63744 : Int32)), (.int (64975 : Int32)), (.int (65008 : Int32)), (.int (0 : Int32)), (.int (0 : Int32)), (.int (0 : Int32))] (.int (0 : Int32)) := Arv.set Ar60 q60 S60 M60 H60 G60 rfl W60 26 rfl (Nat.le_of_ble_eq_true rfl)
  have N60 := Fr.snoc X60 N58 g_b2
  have Z60 : n0 ≤ h60.size := Nat.le_trans Z58 (Keep.of_wr W60).1
  have pre60 : Steps p.tables e below _ (T60.setTop (mkF m 176 #[.val (.int p1), .val (.int p2), .val (.int p3), .unset, .unset, .unset, .unset, .unset, .unset] [(.ref b2)])) := pre59.trans (st60 _ (Steps.refl _))
  have pre61 : Steps p.tables e below _ (T60.setTop (mkF m 181 #[.val (.int p1), .val (.int p2), .val (.int p3), .unset, .unset, .unset, .unset, .unset, .unset] [(.int (65533 : Int32)), (.int (27 : Int32)), (.ref b2), (.ref b2)])) := pre60.trans (by
    show Steps p.tables e below (T60.setTop (mkF m 176 #[.val (.int p1), .val (.int p2), .val (.int p3), .unset, .unset, .unset, .unset, .unset, .unset] [(.ref b2)])) _
    refine XS.dup X60.here hx rfl (hb hby at_176) rfl rfl ?_
    show Steps p.tables e below (T60.setTop (mkF m 177 #[.val (.int p1), .val (.int p2), .val (.int p3), .unset, .unset, .unset, .unset, .unset, .unset] [(.ref b2), (.ref b2)])) _
    refine XS.bipush X60.here hx rfl (hb hby at_177) ?_
    show Steps p.tables e below (T60.setTop (mkF m 179 #[.val (.int p1), .val (.int p2), .val (.int p3), .unset, .unset, .unset, .unset, .unset, .unset] [(.int (27 : Int32)), (.ref b2), (.ref b2)])) _
    refine X60.ldcInt hx hown (mvT hZ (hw _ (List.mem_of_getElem? (i := 5) rfl))) (g := (mkF m 179 #[.val (.int p1), .val (.int p2), .val (.int p3), .unset, .unset, .unset, .unset, .unset, .unset] [(.int (27 : Int32)), (.ref b2), (.ref b2)])) rfl (hb hby at_179) _ ?_
    exact Steps.refl _)
  obtain ⟨cl62, Ar62, q62, S62, M62, H62, G62⟩ := V60
  have hin62 : ¬ ((27 : Int32) < 0 ∨ cl62.slots.size ≤ ((27 : Int32)).toNatClampNeg) := inb_of S62 ⟨by decide, by decide⟩
  obtain ⟨T62, h62, X62, e62, W62, st62⟩ := stI X60 hx hZ e60 Ar62 (j := (27 : Int32)) hin62 (g := (mkF m 181 #[.val (.int p1), .val (.int p2), .val (.int p3), .unset, .unset, .unset, .unset, .unset, .unset] [(.int (65533 : Int32)), (.int (27 : Int32)), (.ref b2), (.ref b2)])) rfl rfl (hb hby at_181)
  have V62 : Arv Z h62 b2 k2 .int (30 : Int32) [(.int (0 : Int32)), (.int (65 : Int32)), (.int (90 : Int32)), (.int (95 : Int32)), (.int (97 : Int32)), (.int (122 : Int32)), (.int (192 : Int32)), (.int (214 : Int32)), (.int (216 : Int32)), (.int (246 : Int32)), (.int (248 : Int32)), (.int (767 : Int32)), (.int (880 : Int32)), (.int (893 : Int32)), (.int (895 : Int32)), (.int (8191 : Int32)), (.int (8204 : Int32)), (.int (8205 : Int32)), (.int (8304 : Int32)), (.int (8591 : Int32)), (.int (11264 : Int32)), (.int (12271 : Int32)), (.int (12289 : Int32)), (.int (55295 : Int32)), (.int (63744 : Int32)), (.int (64975 : Int32)), (.int (65008 : Int32)), (.int (65533 : Int32)), (.int (0 : Int32)), (.int (0 : Int32))] (.int (0 : Int32)) := Arv.set Ar62 q62 S62 M62 H62 G62 rfl W62 27 rfl (Nat.le_of_ble_eq_true rfl)
  have N62 := Fr.snoc X62 N60 g_b2
  have Z62 : n0 ≤ h62.size := Nat.le_trans Z60 (Keep.of_wr W62).1
  have pre62 : Steps p.tables e below _ (T62.setTop (mkF m 182 #[.val (.int p1), .val (.int p2), .val (.int p3), .unset, .unset, .unset, .unset, .unset, .unset] [(.ref b2)])) := pre61.trans (st62 _ (Steps.refl _))
  have pre63 : Steps p.tables e below _ (T62.setTop (mkF m 187 #[.val (.int p1), .val (.int p2), .val (.int p3), .unset, .unset, .unset, .unset, .unset, .unset] [(.int (65536 : Int32)), (.int (28 : Int32)), (.ref b2), (.ref b2)])) := pre62.trans (by
    show Steps p.tables e below (T62.setTop (mkF m 182 #[.val (.int p1), .val (.int p2), .val (.int p3), .unset, .unset, .unset, .unset, .unset, .unset] [(.ref b2)])) _
    refine XS.dup X62.here hx rfl (hb hby at_182) rfl rfl ?_
    show Steps p.tables e below (T62.setTop (mkF m 183 #[.val (.int p1), .val (.int p2), .val (.int p3), .unset, .unset, .unset, .unset, .unset, .unset] [(.ref b2), (.ref b2)])) _
    refine XS.bipush X62.here hx rfl (hb hby at_183) ?_
    show Steps p.tables e below (T62.setTop (mkF m 185 #[.val (.int p1), .val (.int p2), .val (.int p3), .unset, .unset, .unset, .unset, .unset, .unset] [(.int (28 : Int32)), (.ref b2), (.ref b2)])) _
    refine X62.ldcInt hx hown (mvT hZ (hw _ (List.mem_of_getElem? (i := 6) rfl))) (g := (mkF m 185 #[.val (.int p1), .val (.int p2), .val (.int p3), .unset, .unset, .unset, .unset, .unset, .unset] [(.int (28 : Int32)), (.ref b2), (.ref b2)])) rfl (hb hby at_185) _ ?_
    exact Steps.refl _)
  obtain ⟨cl64, Ar64, q64, S64, M64, H64, G64⟩ := V62
  have hin64 : ¬ ((28 : Int32) < 0 ∨ cl64.slots.size ≤ ((28 : Int32)).toNatClampNeg) := inb_of S64 ⟨by decide, by decide⟩
  obtain ⟨T64, h64, X64, e64, W64, st64⟩ := stI X62 hx hZ e62 Ar64 (j := (28 : Int32)) hin64 (g := (mkF m 187 #[.val (.int p1), .val (.int p2), .val (.int p3), .unset, .unset, .unset, .unset, .unset, .unset] [(.int (65536 : Int32)), (.int (28 : Int32)), (.ref b2), (.ref b2)])) rfl rfl (hb hby at_187)
  have V64 : Arv Z h64 b2 k2 .int (30 : Int32) [(.int (0 : Int32)), (.int (65 : Int32)), (.int (90 : Int32)), (.int (95 : Int32)), (.int (97 : Int32)), (.int (122 : Int32)), (.int (192 : Int32)), (.int (214 : Int32)), (.int (216 : Int32)), (.int (246 : Int32)), (.int (248 : Int32)), (.int (767 : Int32)), (.int (880 : Int32)), (.int (893 : Int32)), (.int (895 : Int32)), (.int (8191 : Int32)), (.int (8204 : Int32)), (.int (8205 : Int32)), (.int (8304 : Int32)), (.int (8591 : Int32)), (.int (11264 : Int32)), (.int (12271 : Int32)), (.int (12289 : Int32)), (.int (55295 : Int32)), (.int (63744 : Int32)), (.int (64975 : Int32)), (.int (65008 : Int32)), (.int (65533 : Int32)), (.int (65536 : Int32)), (.int (0 : Int32))] (.int (0 : Int32)) := Arv.set Ar64 q64 S64 M64 H64 G64 rfl W64 28 rfl (Nat.le_of_ble_eq_true rfl)
  have N64 := Fr.snoc X64 N62 g_b2
  have Z64 : n0 ≤ h64.size := Nat.le_trans Z62 (Keep.of_wr W64).1
  have pre64 : Steps p.tables e below _ (T64.setTop (mkF m 188 #[.val (.int p1), .val (.int p2), .val (.int p3), .unset, .unset, .unset, .unset, .unset, .unset] [(.ref b2)])) := pre63.trans (st64 _ (Steps.refl _))
  have pre65 : Steps p.tables e below _ (T64.setTop (mkF m 193 #[.val (.int p1), .val (.int p2), .val (.int p3), .unset, .unset, .unset, .unset, .unset, .unset] [(.int (983039 : Int32)), (.int (29 : Int32)), (.ref b2), (.ref b2)])) := pre64.trans (by
    show Steps p.tables e below (T64.setTop (mkF m 188 #[.val (.int p1), .val (.int p2), .val (.int p3), .unset, .unset, .unset, .unset, .unset, .unset] [(.ref b2)])) _
    refine XS.dup X64.here hx rfl (hb hby at_188) rfl rfl ?_
    show Steps p.tables e below (T64.setTop (mkF m 189 #[.val (.int p1), .val (.int p2), .val (.int p3), .unset, .unset, .unset, .unset, .unset, .unset] [(.ref b2), (.ref b2)])) _
    refine XS.bipush X64.here hx rfl (hb hby at_189) ?_
    show Steps p.tables e below (T64.setTop (mkF m 191 #[.val (.int p1), .val (.int p2), .val (.int p3), .unset, .unset, .unset, .unset, .unset, .unset] [(.int (29 : Int32)), (.ref b2), (.ref b2)])) _
    refine X64.ldcInt hx hown (mvT hZ (hw _ (List.mem_of_getElem? (i := 7) rfl))) (g := (mkF m 191 #[.val (.int p1), .val (.int p2), .val (.int p3), .unset, .unset, .unset, .unset, .unset, .unset] [(.int (29 : Int32)), (.ref b2), (.ref b2)])) rfl (hb hby at_191) _ ?_
    exact Steps.refl _)
  obtain ⟨cl66, Ar66, q66, S66, M66, H66, G66⟩ := V64
  have hin66 : ¬ ((29 : Int32) < 0 ∨ cl66.slots.size ≤ ((29 : Int32)).toNatClampNeg) := inb_of S66 ⟨by decide, by decide⟩
  obtain ⟨T66, h66, X66, e66, W66, st66⟩ := stI X64 hx hZ e64 Ar66 (j := (29 : Int32)) hin66 (g := (mkF m 193 #[.val (.int p1), .val (.int p2), .val (.int p3), .unset, .unset, .unset, .unset, .unset, .unset] [(.int (983039 : Int32)), (.int (29 : Int32)), (.ref b2), (.ref b2)])) rfl rfl (hb hby at_193)
  have V66 : Arv Z h66 b2 k2 .int (30 : Int32) [(.int (0 : Int32)), (.int (65 : Int32)), (.int (90 : Int32)), (.int (95 : Int32)), (.int (97 : Int32)), (.int (122 : Int32)), (.int (192 : Int32)), (.int (214 : Int32)), (.int (216 : Int32)), (.int (246 : Int32)), (.int (248 : Int32)), (.int (767 : Int32)), (.int (880 : Int32)), (.int (893 : Int32)), (.int (895 : Int32)), (.int (8191 : Int32)), (.int (8204 : Int32)), (.int (8205 : Int32)), (.int (8304 : Int32)), (.int (8591 : Int32)), (.int (11264 : Int32)), (.int (12271 : Int32)), (.int (12289 : Int32)), (.int (55295 : Int32)), (.int (63744 : Int32)), (.int (64975 : Int32)), (.int (65008 : Int32)), (.int (65533 : Int32)), (.int (65536 : Int32)), (.int (983039 : Int32))] (.int (0 : Int32)) := Arv.set Ar66 q66 S66 M66 H66 G66 rfl W66 29 rfl (Nat.le_of_ble_eq_true rfl)
  have N66 := Fr.snoc X66 N64 g_b2
  have Z66 : n0 ≤ h66.size := Nat.le_trans Z64 (Keep.of_wr W66).1
  have pre66 : Steps p.tables e below _ (T66.setTop (mkF m 194 #[.val (.int p1), .val (.int p2), .val (.int p3), .unset, .unset, .unset, .unset, .unset, .unset] [(.ref b2)])) := pre65.trans (st66 _ (Steps.refl _))
  obtain ⟨lc67, X67, N67⟩ : ∃ lc : List Loc, Stand p l e room_1 s m #[(.int p1), (.int p2), (.int p3)] below meth c T66 lc 1 30 ∧ Fr n0 lc := ⟨_, X66, N66⟩
  obtain ⟨lc68, X68, N68⟩ : ∃ lc : List Loc, Stand p l e room_1 s m #[(.int p1), (.int p2), (.int p3)] below meth c T66 lc 1 30 ∧ Fr n0 lc := ⟨_, X67, N67⟩
  have pre69 : Steps p.tables e below _ (T66.setTop (mkF m 204 #[.val (.int p1), .val (.int p2), .val (.int p3), .val (.ref b2), .val (.int ((p2 &&& (2147483647 : Int32)) % (30 : Int32))), .unset, .unset, .unset, .unset] [])) := pre66.trans (by
    show Steps p.tables e below (T66.setTop (mkF m 194 #[.val (.int p1), .val (.int p2), .val (.int p3), .unset, .unset, .unset, .unset, .unset, .unset] [(.ref b2)])) _
    refine XS.astoreN X68.here hx rfl (hb hby at_194) rfl rfl (l' := #[.val (.int p1), .val (.int p2), .val (.int p3), .val (.ref b2), .unset, .unset, .unset, .unset, .unset]) rfl ?_
    show Steps p.tables e below (T66.setTop (mkF m 195 #[.val (.int p1), .val (.int p2), .val (.int p3), .val (.ref b2), .unset, .unset, .unset, .unset, .unset] [])) _
    refine XS.iloadN X68.here hx rfl (hb hby at_195) rfl ?_
    show Steps p.tables e below (T66.setTop (mkF m 196 #[.val (.int p1), .val (.int p2), .val (.int p3), .val (.ref b2), .unset, .unset, .unset, .unset, .unset] [(.int p2)])) _
    refine X68.ldcInt hx hown (mvT hZ (hw _ (List.mem_of_getElem? (i := 8) rfl))) (g := (mkF m 196 #[.val (.int p1), .val (.int p2), .val (.int p3), .val (.ref b2), .unset, .unset, .unset, .unset, .unset] [(.int p2)])) rfl (hb hby at_196) _ ?_
    show Steps p.tables e below (T66.setTop (mkF m 198 #[.val (.int p1), .val (.int p2), .val (.int p3), .val (.ref b2), .unset, .unset, .unset, .unset, .unset] [(.int (2147483647 : Int32)), (.int p2)])) _
    refine XS.iand X68.here hx rfl (hb hby at_198) rfl ?_
    show Steps p.tables e below (T66.setTop (mkF m 199 #[.val (.int p1), .val (.int p2), .val (.int p3), .val (.ref b2), .unset, .unset, .unset, .unset, .unset] [(.int (p2 &&& (2147483647 : Int32)))])) _
    refine XS.bipush X68.here hx rfl (hb hby at_199) ?_
    show Steps p.tables e below (T66.setTop (mkF m 201 #[.val (.int p1), .val (.int p2), .val (.int p3), .val (.ref b2), .unset, .unset, .unset, .unset, .unset] [(.int (30 : Int32)), (.int (p2 &&& (2147483647 : Int32)))])) _
    refine iremM X68 hx rfl (hb hby at_201) rfl (by decide) ?_
    show Steps p.tables e below (T66.setTop (mkF m 202 #[.val (.int p1), .val (.int p2), .val (.int p3), .val (.ref b2), .unset, .unset, .unset, .unset, .unset] [(.int ((p2 &&& (2147483647 : Int32)) % (30 : Int32)))])) _
    refine XS.istore X68.here hx rfl (hb hby at_202) rfl (l' := #[.val (.int p1), .val (.int p2), .val (.int p3), .val (.ref b2), .val (.int ((p2 &&& (2147483647 : Int32)) % (30 : Int32))), .unset, .unset, .unset, .unset]) rfl ?_
    exact Steps.refl _)
  obtain ⟨ix, h_ix⟩ : ∃ z, z = ((p2 &&& (2147483647 : Int32)) % (30 : Int32)) := ⟨_, rfl⟩
  rw [← h_ix] at pre69
  have bx : 0 ≤ ix.toInt ∧ ix.toInt < 30 := by have q : (p2 &&& (2147483647 : Int32)).toInt = p2.toInt % 2147483648 := c_mask p2 2147483647 31 (by decide) (by decide); have r := (c_irem (p2 &&& 2147483647) 30 30 (by decide)).1 (by omega); rw [← h_ix] at r; omega
  have bx1 : ¬ ix < (0 : Int32) := by simp only [Int32.lt_iff_toInt_lt, Int32.reduceToInt]; omega
  have bx2 : ix < (30 : Int32) := by simp only [Int32.lt_iff_toInt_lt, Int32.reduceToInt]; omega
  have pre70 : Steps p.tables e below _ (T66.setTop (mkF m 214 #[.val (.int p1), .val (.int p2), .val (.int p3), .val (.ref b2), .val (.int ix), .val (.int (((p3 &&& (2147483647 : Int32)) % (3 : Int32)) - (1 : Int32))), .unset, .unset, .unset] [])) := pre69.trans (by
    show Steps p.tables e below (T66.setTop (mkF m 204 #[.val (.int p1), .val (.int p2), .val (.int p3), .val (.ref b2), .val (.int ix), .unset, .unset, .unset, .unset] [])) _
    refine XS.iloadN X68.here hx rfl (hb hby at_204) rfl ?_
    show Steps p.tables e below (T66.setTop (mkF m 205 #[.val (.int p1), .val (.int p2), .val (.int p3), .val (.ref b2), .val (.int ix), .unset, .unset, .unset, .unset] [(.int p3)])) _
    refine X68.ldcInt hx hown (mvT hZ (hw _ (List.mem_of_getElem? (i := 8) rfl))) (g := (mkF m 205 #[.val (.int p1), .val (.int p2), .val (.int p3), .val (.ref b2), .val (.int ix), .unset, .unset, .unset, .unset] [(.int p3)])) rfl (hb hby at_205) _ ?_
    show Steps p.tables e below (T66.setTop (mkF m 207 #[.val (.int p1), .val (.int p2), .val (.int p3), .val (.ref b2), .val (.int ix), .unset, .unset, .unset, .unset] [(.int (2147483647 : Int32)), (.int p3)])) _
    refine XS.iand X68.here hx rfl (hb hby at_207) rfl ?_
    show Steps p.tables e below (T66.setTop (mkF m 208 #[.val (.int p1), .val (.int p2), .val (.int p3), .val (.ref b2), .val (.int ix), .unset, .unset, .unset, .unset] [(.int (p3 &&& (2147483647 : Int32)))])) _
    refine XS.iconst X68.here hx rfl (hb hby at_208) ?_
    show Steps p.tables e below (T66.setTop (mkF m 209 #[.val (.int p1), .val (.int p2), .val (.int p3), .val (.ref b2), .val (.int ix), .unset, .unset, .unset, .unset] [(.int (3 : Int32)), (.int (p3 &&& (2147483647 : Int32)))])) _
    refine iremM X68 hx rfl (hb hby at_209) rfl (by decide) ?_
    show Steps p.tables e below (T66.setTop (mkF m 210 #[.val (.int p1), .val (.int p2), .val (.int p3), .val (.ref b2), .val (.int ix), .unset, .unset, .unset, .unset] [(.int ((p3 &&& (2147483647 : Int32)) % (3 : Int32)))])) _
    refine XS.iconst X68.here hx rfl (hb hby at_210) ?_
    show Steps p.tables e below (T66.setTop (mkF m 211 #[.val (.int p1), .val (.int p2), .val (.int p3), .val (.ref b2), .val (.int ix), .unset, .unset, .unset, .unset] [(.int (1 : Int32)), (.int ((p3 &&& (2147483647 : Int32)) % (3 : Int32)))])) _
    refine XS.isub X68.here hx rfl (hb hby at_211) rfl ?_
    show Steps p.tables e below (T66.setTop (mkF m 212 #[.val (.int p1), .val (.int p2), .val (.int p3), .val (.ref b2), .val (.int ix), .unset, .unset, .unset, .unset] [(.int (((p3 &&& (2147483647 : Int32)) % (3 : Int32)) - (1 : Int32)))])) _
    refine XS.istore X68.here hx rfl (hb hby at_212) rfl (l' := #[.val (.int p1), .val (.int p2), .val (.int p3), .val (.ref b2), .val (.int ix), .val (.int (((p3 &&& (2147483647 : Int32)) % (3 : Int32)) - (1 : Int32))), .unset, .unset, .unset]) rfl ?_
    exact Steps.refl _)
  obtain ⟨cl_t, Ar_t, q_t, S_t, M_t, H_t, G_t⟩ := id V66
  have hin : ¬ (ix < 0 ∨ cl_t.slots.size ≤ ix.toNatClampNeg) := inb_of S_t ⟨bx1, bx2⟩
  obtain ⟨wv, hat⟩ : ∃ wv, cl_t.slots[ix.toNatClampNeg]? = some (.int wv) := ⟨_, Has.at H_t hin (own_getD own_tab _)⟩
  have pre71 : Steps p.tables e below _ (T66.setTop (mkF m 221 #[.val (.int p1), .val (.int p2), .val (.int p3), .val (.ref b2), .val (.int ix), .val (.int (((p3 &&& (2147483647 : Int32)) % (3 : Int32)) - (1 : Int32))), .unset, .unset, .unset] [(.int (wv + (((p3 &&& (2147483647 : Int32)) % (3 : Int32)) - (1 : Int32))))])) := pre70.trans (by
    show Steps p.tables e below (T66.setTop (mkF m 214 #[.val (.int p1), .val (.int p2), .val (.int p3), .val (.ref b2), .val (.int ix), .val (.int (((p3 &&& (2147483647 : Int32)) % (3 : Int32)) - (1 : Int32))), .unset, .unset, .unset] [])) _
    refine XS.aloadN X68.here hx rfl (hb hby at_214) rfl rfl ?_
    show Steps p.tables e below (T66.setTop (mkF m 215 #[.val (.int p1), .val (.int p2), .val (.int p3), .val (.ref b2), .val (.int ix), .val (.int (((p3 &&& (2147483647 : Int32)) % (3 : Int32)) - (1 : Int32))), .unset, .unset, .unset] [(.ref b2)])) _
    refine XS.iload X68.here hx rfl (hb hby at_215) rfl ?_
    show Steps p.tables e below (T66.setTop (mkF m 217 #[.val (.int p1), .val (.int p2), .val (.int p3), .val (.ref b2), .val (.int ix), .val (.int (((p3 &&& (2147483647 : Int32)) % (3 : Int32)) - (1 : Int32))), .unset, .unset, .unset] [(.int ix), (.ref b2)])) _
    refine X68.iaload hx (j := ix) (v := (.int wv)) (by rw [e66]; exact Ar_t.1) (State.isArrayOf_alike hZ.alike Ar_t.2.1) Ar_t.2.2 hin hat (g := (mkF m 217 #[.val (.int p1), .val (.int p2), .val (.int p3), .val (.ref b2), .val (.int ix), .val (.int (((p3 &&& (2147483647 : Int32)) % (3 : Int32)) - (1 : Int32))), .unset, .unset, .unset] [(.int ix), (.ref b2)])) rfl rfl (hb hby at_217) _ ?_
    show Steps p.tables e below (T66.setTop (mkF m 218 #[.val (.int p1), .val (.int p2), .val (.int p3), .val (.ref b2), .val (.int ix), .val (.int (((p3 &&& (2147483647 : Int32)) % (3 : Int32)) - (1 : Int32))), .unset, .unset, .unset] [(.int wv)])) _
    refine XS.iload X68.here hx rfl (hb hby at_218) rfl ?_
    show Steps p.tables e below (T66.setTop (mkF m 220 #[.val (.int p1), .val (.int p2), .val (.int p3), .val (.ref b2), .val (.int ix), .val (.int (((p3 &&& (2147483647 : Int32)) % (3 : Int32)) - (1 : Int32))), .unset, .unset, .unset] [(.int (((p3 &&& (2147483647 : Int32)) % (3 : Int32)) - (1 : Int32))), (.int wv)])) _
    refine XS.iadd X68.here hx rfl (hb hby at_220) rfl ?_
    exact Steps.refl _)
  obtain ⟨bb, h_bb⟩ : ∃ z, z = (wv + (((p3 &&& (2147483647 : Int32)) % (3 : Int32)) - (1 : Int32))) := ⟨_, rfl⟩
  rw [← h_bb] at pre71
  have pre72 : Steps p.tables e below _ (T66.setTop (mkF m 224 #[.val (.int p1), .val (.int p2), .val (.int p3), .val (.ref b2), .val (.int ix), .val (.int (((p3 &&& (2147483647 : Int32)) % (3 : Int32)) - (1 : Int32))), .val (.int bb), .unset, .unset] [(.int p1)])) := pre71.trans (by
    show Steps p.tables e below (T66.setTop (mkF m 221 #[.val (.int p1), .val (.int p2), .val (.int p3), .val (.ref b2), .val (.int ix), .val (.int (((p3 &&& (2147483647 : Int32)) % (3 : Int32)) - (1 : Int32))), .unset, .unset, .unset] [(.int bb)])) _
    refine XS.istore X68.here hx rfl (hb hby at_221) rfl (l' := #[.val (.int p1), .val (.int p2), .val (.int p3), .val (.ref b2), .val (.int ix), .val (.int (((p3 &&& (2147483647 : Int32)) % (3 : Int32)) - (1 : Int32))), .val (.int bb), .unset, .unset]) rfl ?_
    show Steps p.tables e below (T66.setTop (mkF m 223 #[.val (.int p1), .val (.int p2), .val (.int p3), .val (.ref b2), .val (.int ix), .val (.int (((p3 &&& (2147483647 : Int32)) % (3 : Int32)) - (1 : Int32))), .val (.int bb), .unset, .unset] [])) _
    refine XS.iloadN X68.here hx rfl (hb hby at_223) rfl ?_
    exact Steps.refl _)
  obtain ⟨_, _, ⟨T73, L73, k73, n73⟩, -, X73, ⟨Lc73, hQ73, l73, y73, z73⟩, st73⟩ := Jvm.LawKit.callS X68 hx (y := (⟨"com/example/rulecast/rulecast/Names", "isNameStartChar", "(I)Z"⟩ : MethodName)) hown (mvT hZ (hw _ (List.mem_of_getElem? (i := 9) rfl))) (mvT hZ (hw _ (List.mem_of_getElem? (i := 10) rfl))) (mvT hZ (hw _ (List.mem_of_getElem? (i := 11) rfl))) (mvT hZ (hw _ (List.mem_of_getElem? (i := 12) rfl))) (by decide) (backOf (W := 0) (rm1 l Z a0 hw [] p1 h66 n0 Z66) hZ (hw _ (List.mem_of_getElem? (i := 12) rfl)) (hw _ (List.mem_of_getElem? (i := 11) rfl)) (by decide) (by decide)) (g := (mkF m 224 #[.val (.int p1), .val (.int p2), .val (.int p3), .val (.ref b2), .val (.int ix), .val (.int (((p3 &&& (2147483647 : Int32)) % (3 : Int32)) - (1 : Int32))), .val (.int bb), .unset, .unset] [(.int p1)])) rfl (by rw [hml]; rfl) (argsL := [(.int p1)]) (rest := []) (lenOf pd_rm0_0 rfl) rfl (by show 2 * 0 + _ ≤ _; exact Nat.le_of_eq rfl) (hb hby at_224) (fun _ _ => ⟨rfl, e66, (by decide : 1 + 0 ≤ _), (by decide : 30 + 0 ≤ _)⟩)
  dsimp only [Pt.U, Pt.locs, Pt.cells, Pt.slots] at X73 l73 y73 z73 st73 hQ73
  subst l73 y73 z73
  obtain ⟨rfl, N73q, hh73⟩ := hQ73
  have N73 := Fr.app N68 N73q
  have pre73 : Steps p.tables e below _ (T73.setTop (mkF m 227 #[.val (.int p1), .val (.int p2), .val (.int p3), .val (.ref b2), .val (.int ix), .val (.int (((p3 &&& (2147483647 : Int32)) % (3 : Int32)) - (1 : Int32))), .val (.int bb), .unset, .unset] [(.int (own_st_0_31 p1))])) := pre72.trans (st73 _ (Steps.refl _))
  have pre74 : Steps p.tables e below _ (T73.setTop (mkF m 228 #[.val (.int p1), .val (.int p2), .val (.int p3), .val (.ref b2), .val (.int ix), .val (.int (((p3 &&& (2147483647 : Int32)) % (3 : Int32)) - (1 : Int32))), .val (.int bb), .unset, .unset] [(.int p1), (.int (own_st_0_31 p1))])) := pre73.trans (by
    show Steps p.tables e below (T73.setTop (mkF m 227 #[.val (.int p1), .val (.int p2), .val (.int p3), .val (.ref b2), .val (.int ix), .val (.int (((p3 &&& (2147483647 : Int32)) % (3 : Int32)) - (1 : Int32))), .val (.int bb), .unset, .unset] [(.int (own_st_0_31 p1))])) _
    refine XS.iloadN X73.here hx rfl (hb hby at_227) rfl ?_
    exact Steps.refl _)
  obtain ⟨_, _, ⟨T75, L75, k75, n75⟩, -, X75, ⟨Lc75, hQ75, l75, y75, z75⟩, st75⟩ := Jvm.LawKit.callS X73 hx (y := (⟨"com/example/rulecast/rulecast/NamesIsNameStartCharPinLaw", "ref", "(I)Z"⟩ : MethodName)) hown (mvT hZ (hw _ (List.mem_of_getElem? (i := 16) rfl))) (mvT hZ (hw _ (List.mem_of_getElem? (i := 17) rfl))) (mvT hZ (hw _ (List.mem_of_getElem? (i := 18) rfl))) (mvT hZ (hw _ (List.mem_of_getElem? (i := 19) rfl))) (by decide) (backOf (W := 1) (rm2 l Z a0 hw [] p1 h66 n0 Z66) hZ (hw _ (List.mem_of_getElem? (i := 19) rfl)) (hw _ (List.mem_of_getElem? (i := 18) rfl)) (by decide) (by decide)) (g := (mkF m 228 #[.val (.int p1), .val (.int p2), .val (.int p3), .val (.ref b2), .val (.int ix), .val (.int (((p3 &&& (2147483647 : Int32)) % (3 : Int32)) - (1 : Int32))), .val (.int bb), .unset, .unset] [(.int p1), (.int (own_st_0_31 p1))])) rfl (by rw [hml]; rfl) (argsL := [(.int p1)]) (rest := [(.int (own_st_0_31 p1))]) (lenOf pd_rm0_0 rfl) rfl (by show 2 * 0 + _ ≤ _; exact Nat.le_of_eq rfl) (hb hby at_228) (fun _ _ => ⟨rfl, hh73, (by decide : 1 + 0 ≤ _), (by decide : 30 + 0 ≤ _)⟩)
  dsimp only [Pt.U, Pt.locs, Pt.cells, Pt.slots] at X75 l75 y75 z75 st75 hQ75
  subst l75 y75 z75
  obtain ⟨rfl, N75q, hh75⟩ := hQ75
  have N75 := Fr.app N73 N75q
  have pre75 : Steps p.tables e below _ (T75.setTop (mkF m 231 #[.val (.int p1), .val (.int p2), .val (.int p3), .val (.ref b2), .val (.int ix), .val (.int (((p3 &&& (2147483647 : Int32)) % (3 : Int32)) - (1 : Int32))), .val (.int bb), .unset, .unset] [(.int (own_rf_0_48 p1)), (.int (own_st_0_31 p1))])) := pre74.trans (st75 _ (Steps.refl _))
  have hres_p1 : own_st_0_31 p1 = own_rf_0_48 p1 := own_ok p1
  have pre76 : Steps p.tables e below _ (T75.setTop (mkF m 243 #[.val (.int p1), .val (.int p2), .val (.int p3), .val (.ref b2), .val (.int ix), .val (.int (((p3 &&& (2147483647 : Int32)) % (3 : Int32)) - (1 : Int32))), .val (.int bb), .val (.int (1 : Int32)), .unset] [(.int bb)])) := pre75.trans (by
    show Steps p.tables e below (T75.setTop (mkF m 231 #[.val (.int p1), .val (.int p2), .val (.int p3), .val (.ref b2), .val (.int ix), .val (.int (((p3 &&& (2147483647 : Int32)) % (3 : Int32)) - (1 : Int32))), .val (.int bb), .unset, .unset] [(.int (own_rf_0_48 p1)), (.int (own_st_0_31 p1))])) _
    refine XS.icmpNo X75.here hx rfl (hb hby at_231) rfl (teq (hres_p1)).2 ?_
    show Steps p.tables e below (T75.setTop (mkF m 234 #[.val (.int p1), .val (.int p2), .val (.int p3), .val (.ref b2), .val (.int ix), .val (.int (((p3 &&& (2147483647 : Int32)) % (3 : Int32)) - (1 : Int32))), .val (.int bb), .unset, .unset] [])) _
    refine XS.iconst X75.here hx rfl (hb hby at_234) ?_
    show Steps p.tables e below (T75.setTop (mkF m 235 #[.val (.int p1), .val (.int p2), .val (.int p3), .val (.ref b2), .val (.int ix), .val (.int (((p3 &&& (2147483647 : Int32)) % (3 : Int32)) - (1 : Int32))), .val (.int bb), .unset, .unset] [(.int (1 : Int32))])) _
    refine XS.goto X75.here hx rfl (pc0 := 235) (pc' := 239) rfl (hb hby at_235) (by decide) (by decide) ?_
    show Steps p.tables e below (T75.setTop (mkF m 239 #[.val (.int p1), .val (.int p2), .val (.int p3), .val (.ref b2), .val (.int ix), .val (.int (((p3 &&& (2147483647 : Int32)) % (3 : Int32)) - (1 : Int32))), .val (.int bb), .unset, .unset] [(.int (1 : Int32))])) _
    refine XS.istore X75.here hx rfl (hb hby at_239) rfl (l' := #[.val (.int p1), .val (.int p2), .val (.int p3), .val (.ref b2), .val (.int ix), .val (.int (((p3 &&& (2147483647 : Int32)) % (3 : Int32)) - (1 : Int32))), .val (.int bb), .val (.int (1 : Int32)), .unset]) rfl ?_
    show Steps p.tables e below (T75.setTop (mkF m 241 #[.val (.int p1), .val (.int p2), .val (.int p3), .val (.ref b2), .val (.int ix), .val (.int (((p3 &&& (2147483647 : Int32)) % (3 : Int32)) - (1 : Int32))), .val (.int bb), .val (.int (1 : Int32)), .unset] [])) _
    refine XS.iload X75.here hx rfl (hb hby at_241) rfl ?_
    exact Steps.refl _)
  obtain ⟨_, _, ⟨T77, L77, k77, n77⟩, -, X77, ⟨Lc77, hQ77, l77, y77, z77⟩, st77⟩ := Jvm.LawKit.callS X75 hx (y := (⟨"com/example/rulecast/rulecast/Names", "isNameStartChar", "(I)Z"⟩ : MethodName)) hown (mvT hZ (hw _ (List.mem_of_getElem? (i := 9) rfl))) (mvT hZ (hw _ (List.mem_of_getElem? (i := 10) rfl))) (mvT hZ (hw _ (List.mem_of_getElem? (i := 11) rfl))) (mvT hZ (hw _ (List.mem_of_getElem? (i := 12) rfl))) (by decide) (backOf (W := 0) (rm1 l Z a0 hw [] bb h66 n0 Z66) hZ (hw _ (List.mem_of_getElem? (i := 12) rfl)) (hw _ (List.mem_of_getElem? (i := 11) rfl)) (by decide) (by decide)) (g := (mkF m 243 #[.val (.int p1), .val (.int p2), .val (.int p3), .val (.ref b2), .val (.int ix), .val (.int (((p3 &&& (2147483647 : Int32)) % (3 : Int32)) - (1 : Int32))), .val (.int bb), .val (.int (1 : Int32)), .unset] [(.int bb)])) rfl (by rw [hml]; rfl) (argsL := [(.int bb)]) (rest := []) (lenOf pd_rm0_0 rfl) rfl (by show 2 * 0 + _ ≤ _; exact Nat.le_of_eq rfl) (hb hby at_243) (fun _ _ => ⟨rfl, hh75, (by decide : 1 + 0 ≤ _), (by decide : 30 + 0 ≤ _)⟩)
  dsimp only [Pt.U, Pt.locs, Pt.cells, Pt.slots] at X77 l77 y77 z77 st77 hQ77
  subst l77 y77 z77
  obtain ⟨rfl, N77q, hh77⟩ := hQ77
  have N77 := Fr.app N75 N77q
  have pre77 : Steps p.tables e below _ (T77.setTop (mkF m 246 #[.val (.int p1), .val (.int p2), .val (.int p3), .val (.ref b2), .val (.int ix), .val (.int (((p3 &&& (2147483647 : Int32)) % (3 : Int32)) - (1 : Int32))), .val (.int bb), .val (.int (1 : Int32)), .unset] [(.int (own_st_0_31 bb))])) := pre76.trans (st77 _ (Steps.refl _))
  have pre78 : Steps p.tables e below _ (T77.setTop (mkF m 248 #[.val (.int p1), .val (.int p2), .val (.int p3), .val (.ref b2), .val (.int ix), .val (.int (((p3 &&& (2147483647 : Int32)) % (3 : Int32)) - (1 : Int32))), .val (.int bb), .val (.int (1 : Int32)), .unset] [(.int bb), (.int (own_st_0_31 bb))])) := pre77.trans (by
    show Steps p.tables e below (T77.setTop (mkF m 246 #[.val (.int p1), .val (.int p2), .val (.int p3), .val (.ref b2), .val (.int ix), .val (.int (((p3 &&& (2147483647 : Int32)) % (3 : Int32)) - (1 : Int32))), .val (.int bb), .val (.int (1 : Int32)), .unset] [(.int (own_st_0_31 bb))])) _
    refine XS.iload X77.here hx rfl (hb hby at_246) rfl ?_
    exact Steps.refl _)
  obtain ⟨_, _, ⟨T79, L79, k79, n79⟩, -, X79, ⟨Lc79, hQ79, l79, y79, z79⟩, st79⟩ := Jvm.LawKit.callS X77 hx (y := (⟨"com/example/rulecast/rulecast/NamesIsNameStartCharPinLaw", "ref", "(I)Z"⟩ : MethodName)) hown (mvT hZ (hw _ (List.mem_of_getElem? (i := 16) rfl))) (mvT hZ (hw _ (List.mem_of_getElem? (i := 17) rfl))) (mvT hZ (hw _ (List.mem_of_getElem? (i := 18) rfl))) (mvT hZ (hw _ (List.mem_of_getElem? (i := 19) rfl))) (by decide) (backOf (W := 1) (rm2 l Z a0 hw [] bb h66 n0 Z66) hZ (hw _ (List.mem_of_getElem? (i := 19) rfl)) (hw _ (List.mem_of_getElem? (i := 18) rfl)) (by decide) (by decide)) (g := (mkF m 248 #[.val (.int p1), .val (.int p2), .val (.int p3), .val (.ref b2), .val (.int ix), .val (.int (((p3 &&& (2147483647 : Int32)) % (3 : Int32)) - (1 : Int32))), .val (.int bb), .val (.int (1 : Int32)), .unset] [(.int bb), (.int (own_st_0_31 bb))])) rfl (by rw [hml]; rfl) (argsL := [(.int bb)]) (rest := [(.int (own_st_0_31 bb))]) (lenOf pd_rm0_0 rfl) rfl (by show 2 * 0 + _ ≤ _; exact Nat.le_of_eq rfl) (hb hby at_248) (fun _ _ => ⟨rfl, hh77, (by decide : 1 + 0 ≤ _), (by decide : 30 + 0 ≤ _)⟩)
  dsimp only [Pt.U, Pt.locs, Pt.cells, Pt.slots] at X79 l79 y79 z79 st79 hQ79
  subst l79 y79 z79
  obtain ⟨rfl, N79q, hh79⟩ := hQ79
  have N79 := Fr.app N77 N79q
  have pre79 : Steps p.tables e below _ (T79.setTop (mkF m 251 #[.val (.int p1), .val (.int p2), .val (.int p3), .val (.ref b2), .val (.int ix), .val (.int (((p3 &&& (2147483647 : Int32)) % (3 : Int32)) - (1 : Int32))), .val (.int bb), .val (.int (1 : Int32)), .unset] [(.int (own_rf_0_48 bb)), (.int (own_st_0_31 bb))])) := pre78.trans (st79 _ (Steps.refl _))
  have hres_bb : own_st_0_31 bb = own_rf_0_48 bb := own_ok bb
  have pre80 : Steps p.tables e below _ (T79.setTop (mkF m 276 #[.val (.int p1), .val (.int p2), .val (.int p3), .val (.ref b2), .val (.int ix), .val (.int (((p3 &&& (2147483647 : Int32)) % (3 : Int32)) - (1 : Int32))), .val (.int bb), .val (.int (1 : Int32)), .val (.int (1 : Int32))] [(.int (1 : Int32))])) := pre79.trans (by
    show Steps p.tables e below (T79.setTop (mkF m 251 #[.val (.int p1), .val (.int p2), .val (.int p3), .val (.ref b2), .val (.int ix), .val (.int (((p3 &&& (2147483647 : Int32)) % (3 : Int32)) - (1 : Int32))), .val (.int bb), .val (.int (1 : Int32)), .unset] [(.int (own_rf_0_48 bb)), (.int (own_st_0_31 bb))])) _
    refine XS.icmpNo X79.here hx rfl (hb hby at_251) rfl (teq (hres_bb)).2 ?_
    show Steps p.tables e below (T79.setTop (mkF m 254 #[.val (.int p1), .val (.int p2), .val (.int p3), .val (.ref b2), .val (.int ix), .val (.int (((p3 &&& (2147483647 : Int32)) % (3 : Int32)) - (1 : Int32))), .val (.int bb), .val (.int (1 : Int32)), .unset] [])) _
    refine XS.iconst X79.here hx rfl (hb hby at_254) ?_
    show Steps p.tables e below (T79.setTop (mkF m 255 #[.val (.int p1), .val (.int p2), .val (.int p3), .val (.ref b2), .val (.int ix), .val (.int (((p3 &&& (2147483647 : Int32)) % (3 : Int32)) - (1 : Int32))), .val (.int bb), .val (.int (1 : Int32)), .unset] [(.int (1 : Int32))])) _
    refine XS.goto X79.here hx rfl (pc0 := 255) (pc' := 259) rfl (hb hby at_255) (by decide) (by decide) ?_
    show Steps p.tables e below (T79.setTop (mkF m 259 #[.val (.int p1), .val (.int p2), .val (.int p3), .val (.ref b2), .val (.int ix), .val (.int (((p3 &&& (2147483647 : Int32)) % (3 : Int32)) - (1 : Int32))), .val (.int bb), .val (.int (1 : Int32)), .unset] [(.int (1 : Int32))])) _
    refine XS.istore X79.here hx rfl (hb hby at_259) rfl (l' := #[.val (.int p1), .val (.int p2), .val (.int p3), .val (.ref b2), .val (.int ix), .val (.int (((p3 &&& (2147483647 : Int32)) % (3 : Int32)) - (1 : Int32))), .val (.int bb), .val (.int (1 : Int32)), .val (.int (1 : Int32))]) rfl ?_
    show Steps p.tables e below (T79.setTop (mkF m 261 #[.val (.int p1), .val (.int p2), .val (.int p3), .val (.ref b2), .val (.int ix), .val (.int (((p3 &&& (2147483647 : Int32)) % (3 : Int32)) - (1 : Int32))), .val (.int bb), .val (.int (1 : Int32)), .val (.int (1 : Int32))] [])) _
    refine XS.iload X79.here hx rfl (hb hby at_261) rfl ?_
    show Steps p.tables e below (T79.setTop (mkF m 263 #[.val (.int p1), .val (.int p2), .val (.int p3), .val (.ref b2), .val (.int ix), .val (.int (((p3 &&& (2147483647 : Int32)) % (3 : Int32)) - (1 : Int32))), .val (.int bb), .val (.int (1 : Int32)), .val (.int (1 : Int32))] [(.int (1 : Int32))])) _
    refine XS.ifNo X79.here hx rfl (hb hby at_263) rfl ((if0 _ _).trans (feq (by decide : ¬ (1 : Int32) = 0)).1) ?_
    show Steps p.tables e below (T79.setTop (mkF m 266 #[.val (.int p1), .val (.int p2), .val (.int p3), .val (.ref b2), .val (.int ix), .val (.int (((p3 &&& (2147483647 : Int32)) % (3 : Int32)) - (1 : Int32))), .val (.int bb), .val (.int (1 : Int32)), .val (.int (1 : Int32))] [])) _
    refine XS.iload X79.here hx rfl (hb hby at_266) rfl ?_
    show Steps p.tables e below (T79.setTop (mkF m 268 #[.val (.int p1), .val (.int p2), .val (.int p3), .val (.ref b2), .val (.int ix), .val (.int (((p3 &&& (2147483647 : Int32)) % (3 : Int32)) - (1 : Int32))), .val (.int bb), .val (.int (1 : Int32)), .val (.int (1 : Int32))] [(.int (1 : Int32))])) _
    refine XS.ifNo X79.here hx rfl (hb hby at_268) rfl ((if0 _ _).trans (feq (by decide : ¬ (1 : Int32) = 0)).1) ?_
    show Steps p.tables e below (T79.setTop (mkF m 271 #[.val (.int p1), .val (.int p2), .val (.int p3), .val (.ref b2), .val (.int ix), .val (.int (((p3 &&& (2147483647 : Int32)) % (3 : Int32)) - (1 : Int32))), .val (.int bb), .val (.int (1 : Int32)), .val (.int (1 : Int32))] [])) _
    refine XS.iconst X79.here hx rfl (hb hby at_271) ?_
    show Steps p.tables e below (T79.setTop (mkF m 272 #[.val (.int p1), .val (.int p2), .val (.int p3), .val (.ref b2), .val (.int ix), .val (.int (((p3 &&& (2147483647 : Int32)) % (3 : Int32)) - (1 : Int32))), .val (.int bb), .val (.int (1 : Int32)), .val (.int (1 : Int32))] [(.int (1 : Int32))])) _
    refine XS.goto X79.here hx rfl (pc0 := 272) (pc' := 276) rfl (hb hby at_272) (by decide) (by decide) ?_
    exact Steps.refl _)
  obtain ⟨fs, hr, hrun, hended, hW, hsame⟩ := X79.leave (v := some (.int (1 : Int32))) (fun h => by rw [Bd.returns] at h; cases h)
  refine ⟨_, _, pre80.trans ?_, hrun, hended, _, _, rfl, ?_, ⟨_, rfl⟩, hW, hsame.mono (by decide) (by decide)⟩
  · exact retN X79 hx (t := .boolean) Bd.returns (by simp) (hb hby at_276) hr
  · exact ⟨rfl, N79⟩
set_option maxRecDepth 65536 in
set_option maxHeartbeats 40000000 in
theorem comes_1 {Post : Tables → Env → Array Value → State → Outcome → State → Prop} (hpost : ∀ tb e args s v u, (limb_1_1.after args s (.returned v) u = true ∧ limb_1_2.after args s (.returned v) u = true ∧ True) → FrameEnd s (.returned v) u (Jvm.fieldLocs frame_1_writes args s ++ Jvm.arrayLocs frame_1_arrays args s ++ Jvm.staticLocs frame_1_statics s) 16 128 → Post tb e args s (.returned v) u) :
    ArmFor flags0 classFile x code maxLocals ret World_1 tables_1 room_1 Calls_1 rest_1 Pre_1 Post := by
  intro l hfl _ _ p e ha hc hk s m args below hf hA hF happ hP
  obtain ⟨hcalls, hrest, hpre⟩ := hP
  obtain ⟨-, -, -, hnamed, -, -, -, hat⟩ := (Spec.applies_iff hf).mp happ
  obtain ⟨hg, hn⟩ := and_e (Cond.before_iff.mp (show (Jvm.Cond.and given_1 narrow_1).before args s = true from hpre))
  obtain ⟨g0, r0⟩ := and_e hg
  obtain ⟨w0, w1, w2, rfl⟩ : ∃ w0 w1 w2 : Value, args = #[w0, w1, w2] := by
    have hs : args.size = 3 := by simpa [Cond.value, given_1] using g0
    obtain ⟨L⟩ := args
    match L, hs with
    | [w0, w1, w2], _ => exact ⟨w0, w1, w2, rfl⟩
  have hw := fun d (hd : d ∈ tables_1) => atoms_spec (ws := Jvm.Cond.code x code maxLocals ret :: tables_1) hat d (List.mem_cons_of_mem _ hd)
  have hfit : Fit s := fun {y c} hc i hi => by
    obtain ⟨ha, rfl⟩ := Array.getElem?_eq_some_iff.mp hc
    have q := List.all_eq_true.mp ((Array.all_eq_true_iff_forall_mem.mp hF) _ (Array.getElem_mem ha)) i (List.mem_range.mpr hi)
    simpa [Array.getElem?_eq_getElem hi] using q
  obtain ⟨g1, r1⟩ := and_e r0
  obtain ⟨i0, ei0⟩ := is_v g1
  obtain rfl : w0 = (.int i0) := Option.some.inj ei0
  obtain ⟨g2, r2⟩ := and_e r1
  obtain ⟨i1, ei1⟩ := is_v g2
  obtain rfl : w1 = (.int i1) := Option.some.inj ei1
  obtain ⟨i2, ei2⟩ := is_v r2
  obtain rfl : w2 = (.int i2) := Option.some.inj ei2
  obtain ⟨n, o, h1, h2, h3, _, L, rfl, ⟨rfl, N⟩, hq⟩ := rm0 l s _ hw tables_1 i0 i1 i2 s.heap s.heap.size (Nat.le_refl _)  p e ha hc hk s m _ below hf ((Spec.applies_iff_loose hf).mp happ).1 ⟨rfl, State.Warmed39.refl s, rfl⟩ trivial
  refine ⟨n, _, h1, h2, h3, hpost _ _ _ _ _ _ ⟨Cond.after_iff.mpr rfl, Cond.after_iff.mpr (eq_i res_at (Term.int_eval (1)) rfl), trivial⟩ ⟨hq.1, hq.2.1, (hq.2.2.sift fun y hy => Or.inr (N y hy)).mono (by decide) (by decide)⟩⟩
theorem main_1_1 : Claimed_1_1 := comes_1 fun _ _ _ _ _ _ h hF => ⟨h.1, hF⟩
theorem main_1_2 : Claimed_1_2 := comes_1 fun _ _ _ _ _ _ h hF => ⟨h.2.1, hF⟩
end Jvm.Pilot.@@N@@
namespace Jvm.Pilot.@@N@@
open Jvm Jvm.ClassFile Sem Op Lib Jvm.Free Jvm.Stand Jvm.Pilot.@@N@@.Jvm.D
/-! MADE BY PROGRAM (witnessworld.py) out of the Statement's table words and the real class files: 9 classes; the members and pool entries that the words name. The judged class is class 1, her method 2. -/
namespace start1
open Jvm.ClassFile
def u (s : String) : CpInfo := .utf8 (stringToUtf16 s)
/-- a pool by its gaps: so many unusable entries, then the entry; so many at the end -/
def gap : Nat → List CpInfo → List CpInfo
  | 0, r => r
  | n + 1, r => .unusable :: gap n r
def poolList (es : List (Nat × CpInfo)) (last : Nat) : List CpInfo := es.foldr (fun e r => gap e.1 (e.2 :: r)) (gap last [])
def pool (es : List (Nat × CpInfo)) (last : Nat) : Array CpInfo := ⟨poolList es last⟩
def fileOf (pool : Array CpInfo) (this : Nat) (attrs : Array Attribute := #[]) (ms : Array MethodInfo := #[]) (fl : Nat := 33) (sup : Nat := 0) (ifs : Array Nat := #[]) (fds : Array FieldInfo := #[]) : ClassFile where
  minorVersion := 0
  majorVersion := 65
  constantPool := pool
  accessFlags := fl
  thisClass := this
  superClass := sup
  interfaces := ifs
  fields := fds
  methods := ms
  attributes := attrs
def plain (name : String) (sup : Option ClassId) : Class where
  name := name
  kind := .ordinary
  loader := none
  accessFlags := 33
  super := sup
  interfaces := #[]
  cf := none
  fields := #[]
  methods := #[]
  instanceTypes := #[]
  staticTypes := #[]
  resolved := #[]
  callSites := []
  init := .initialized
  statics := none
  mirror := none

def pool0 : Array CpInfo := pool [(5, u "<init>"), (0, u "()V"), (1, .class_ 10), (1, u "java/lang/Object")] 113

def k0m0 : Method := { name := "<init>", desc := "()V", sig := { parameters := [], returnType := none }, accessFlags := 1, code := none }
/-- java/lang/Object -/
def k0 : Class := { plain "java/lang/Object" none with
  accessFlags := 33
  interfaces := #[]
  cf := some (fileOf pool0 8 #[] #[{ accessFlags := 1, nameIndex := 5, descriptorIndex := 6, attributes := #[] }] 33 0 #[] #[])
  fields := #[]
  methods := #[k0m0]
  instanceTypes := #[]
  staticTypes := #[]
  resolved := Array.replicate 124 none
  statics := none }

def pool1 : Array CpInfo := pool [(2, .class_ 4), (1, u "java/lang/Object"), (0, u "<init>"), (0, u "()V"), (0, .integer 983039), (0, .integer 65536), (0, .integer 55295), (0, .integer 63744), (0, .integer 64975), (0, .integer 65008), (0, .integer 65533), (0, .integer 2147483647), (0, .methodref 16 17), (0, .class_ 18), (0, .nameAndType 19 20), (0, u "com/example/rulecast/rulecast/Names"), (0, u "isNameStartChar"), (0, u "(I)Z"), (0, .methodref 22 23), (0, .class_ 24), (0, .nameAndType 25 20), (0, u "com/example/rulecast/rulecast/NamesIsNameStartCharPinLaw"), (0, u "ref"), (3, u "law"), (0, u "(III)Z")] 4

def k1m0 : Method := { name := "<init>", desc := "()V", sig := { parameters := [], returnType := none }, accessFlags := 2, code := none }
def k1c1 : Code := { maxStack := 2, maxLocals := 2, code := method_2_code, exceptionTable := #[], attributes := #[] }
def k1m1 : Method := { name := "ref", desc := "(I)Z", sig := { parameters := [.int], returnType := some .boolean }, accessFlags := 10, code := some k1c1 }
def k1c2 : Code := { maxStack := 4, maxLocals := 9, code := code, exceptionTable := #[], attributes := #[] }
def k1m2 : Method := { name := "law", desc := "(III)Z", sig := { parameters := [.int, .int, .int], returnType := some .boolean }, accessFlags := 9, code := some k1c2 }
/-- com/example/rulecast/rulecast/NamesIsNameStartCharPinLaw -/
def k1 : Class := { plain "com/example/rulecast/rulecast/NamesIsNameStartCharPinLaw" (some 0) with
  accessFlags := 49
  interfaces := #[]
  cf := some (fileOf pool1 22 #[] #[{ accessFlags := 2, nameIndex := 5, descriptorIndex := 6, attributes := #[] }, { accessFlags := 10, nameIndex := 25, descriptorIndex := 20, attributes := #[] }, { accessFlags := 9, nameIndex := 29, descriptorIndex := 30, attributes := #[] }] 49 2 #[] #[])
  fields := #[]
  methods := #[k1m0, k1m1, k1m2]
  instanceTypes := #[]
  staticTypes := #[]
  resolved := Array.replicate 35 none
  statics := none }

def pool2 : Array CpInfo := pool [(2, .class_ 4), (1, u "java/lang/Object"), (0, u "<init>"), (0, u "()V"), (0, .integer 55295), (0, .integer 63744), (0, .integer 64975), (0, .integer 65008), (0, .integer 65533), (0, .integer 65536), (0, .integer 983039), (1, .class_ 17), (1, u "com/example/rulecast/rulecast/Names"), (0, u "isNameStartChar"), (0, u "(I)Z")] 42

def k2m0 : Method := { name := "<init>", desc := "()V", sig := { parameters := [], returnType := none }, accessFlags := 2, code := none }
def k2c1 : Code := { maxStack := 2, maxLocals := 1, code := prog_2_method_2_code, exceptionTable := #[], attributes := #[] }
def k2m1 : Method := { name := "isNameStartChar", desc := "(I)Z", sig := { parameters := [.int], returnType := some .boolean }, accessFlags := 9, code := some k2c1 }
/-- com/example/rulecast/rulecast/Names -/
def k2 : Class := { plain "com/example/rulecast/rulecast/Names" (some 0) with
  accessFlags := 49
  interfaces := #[]
  cf := some (fileOf pool2 15 #[] #[{ accessFlags := 2, nameIndex := 5, descriptorIndex := 6, attributes := #[] }, { accessFlags := 9, nameIndex := 18, descriptorIndex := 19, attributes := #[] }] 49 2 #[] #[])
  fields := #[]
  methods := #[k2m0, k2m1]
  instanceTypes := #[]
  staticTypes := #[]
  resolved := Array.replicate 62 none
  statics := none }

def pool3 : Array CpInfo := pool [(1, u "java/lang/Cloneable"), (0, .class_ 1), (0, u "java/lang/Object"), (0, .class_ 3)] 3

/-- java/lang/Cloneable -/
def k3 : Class := { plain "java/lang/Cloneable" (some 0) with
  accessFlags := 1537
  interfaces := #[]
  cf := some (fileOf pool3 2 #[] #[] 1537 4 #[] #[])
  fields := #[]
  methods := #[]
  instanceTypes := #[]
  staticTypes := #[]
  resolved := Array.replicate 8 none
  statics := none }

def pool4 : Array CpInfo := pool [(1, u "java/io/Serializable"), (0, .class_ 1), (0, u "java/lang/Object"), (0, .class_ 3)] 3

/-- java/io/Serializable -/
def k4 : Class := { plain "java/io/Serializable" (some 0) with
  accessFlags := 1537
  interfaces := #[]
  cf := some (fileOf pool4 2 #[] #[] 1537 4 #[] #[])
  fields := #[]
  methods := #[]
  instanceTypes := #[]
  staticTypes := #[]
  resolved := Array.replicate 8 none
  statics := none }

/-- the primitive byte -/
def k5 : Class := { plain "byte" none with kind := .primitive 'B', accessFlags := 0x411 }
/-- [B -/
def k6 : Class := { plain "[B" (some 0) with kind := .array 5 .byte, interfaces := #[3, 4], accessFlags := 1041 }

/-- the primitive int -/
def k7 : Class := { plain "int" none with kind := .primitive 'I', accessFlags := 0x411 }
/-- [I -/
def k8 : Class := { plain "[I" (some 0) with kind := .array 7 .int, interfaces := #[3, 4], accessFlags := 1041 }

def heap : Heap := #[]
def classes : Array Class := #[k0, k1, k2, k3, k4, k5, k6, k7, k8]
def interned : List (Array UInt16 × Addr) := []
def slotsUsed : Nat := 0
def theMethod : MethodId := ⟨1, 2⟩
def args0 : Array Value := #[.int 97, .int 2, .int 3]
def aboutOver (below : List Frame) : State where
  vm := { classes := classes, interned := interned.toArray }
  heap := heap
  slotsUsed := slotsUsed
  threads := #[{ frames := .invoking theMethod args0 :: below }]
def below0 : List Frame := [.native { method := ⟨0, 0⟩, args := #[] }]
def about1 : State := aboutOver below0
def p0 : Program := .bare "" "" ""
def e0 : Env := launch0.env 0 0 0
theorem w_frames : about1.frames = Frame.invoking theMethod args0 :: below0 := rfl
set_option maxRecDepth 65536 in
theorem w_args : argsFit about1.vm theMethod args0 = true := by decide +kernel
set_option maxRecDepth 65536 in
theorem w_heap : heapFits about1 = true := by decide +kernel
set_option maxRecDepth 65536 in
theorem w_runnable : about1.curStatus? = some .runnable := by decide +kernel
set_option maxRecDepth 65536 in
theorem w_alone : about1.alone = true := by decide +kernel
set_option maxRecDepth 65536 in
theorem w_named : about1.methodNamed? x = some theMethod := by decide +kernel
set_option maxRecDepth 65536 in
theorem w_hears : about1.hears theMethod below0 = true := by decide +kernel
set_option maxRecDepth 65536 in
theorem w_ripe : about1.ripe theMethod args0 below0 = true := by decide +kernel
theorem w_running : about1.status = .running := rfl
set_option maxRecDepth 65536 in
theorem w_room : about1.hasRoom e0.platform room_1 = true :=
  launch0.hasRoom_least _ room_1 (by decide +kernel) (by decide +kernel) (by decide +kernel) (by decide +kernel) (by decide +kernel) (by decide +kernel)
theorem allAtoms_all (ts : List Jvm.Cond) (a : Array Jvm.Value) (st : Jvm.State) : (allAtoms ts).before a st = ts.all (fun c => c.before a st) := by
  induction ts with
  | nil => rfl
  | cons c t ih =>
    show (Jvm.Cond.and c (allAtoms t)).before a st = _
    rw [Jvm.Cond.before_and, ih, List.all_cons]
def words1 : List Jvm.Cond := Jvm.Cond.code x code maxLocals ret :: tables_1
/-- a 'code' word, met by the world's own term for the bytes: nothing is compared byte by byte -/
theorem code_word {y : MethodName} {bytes : ByteArray} {mx : Nat} {rt : Option FieldType} {a : Array Value} {s : State} {m : MethodId} {meth : Method} {c : Code} (h1 : s.methodNamed? y = some m) (h2 : s.vm.method? m = some meth) (h3 : meth.code = some c) (h4 : c.code = bytes)
    (h5 : (c.maxLocals == mx && c.exceptionTable.isEmpty && decide (c.maxStack ≤ mostOperands) && decide (meth.sig.returnType = rt) && !meth.locks && decide (parseMethodDescriptor y.desc = some meth.sig)) = true) : (Jvm.Cond.code y bytes mx rt).before a s = true := by
  simp only [Bool.and_eq_true, beq_iff_eq, Bool.not_eq_true', decide_eq_true_eq] at h5
  obtain ⟨⟨⟨⟨⟨g1, g2⟩, g3⟩, g4⟩, g5⟩, g6⟩ := h5
  simp [Cond.before, Cond.holds, Cond.value, h1, h2, h3, h4, g1, g2, g3, g4, g5, g6]
def isCode : Jvm.Cond → Bool
  | .code _ _ _ _ => true
  | _ => false
theorem all_split {L : List Jvm.Cond} {P : Jvm.Cond → Bool} (h1 : L.all (fun c => isCode c || P c) = true) (h2 : ∀ c ∈ L.filter isCode, P c = true) : L.all P = true := by
  refine List.all_eq_true.mpr fun c hc => ?_
  have h := List.all_eq_true.mp h1 c hc
  rcases Bool.eq_false_or_eq_true (isCode c) with hi | hi
  · exact h2 c (List.mem_filter.mpr ⟨hc, hi⟩)
  · simpa [hi] using h
set_option maxRecDepth 65536 in
theorem w_c0 : (Jvm.Cond.code x code maxLocals ret).before args0 about1 = true := code_word (m := ⟨1, 2⟩) (meth := k1m2) (c := k1c2) (by decide +kernel) rfl rfl rfl (by decide +kernel)
set_option maxRecDepth 65536 in
theorem w_c1 : (Jvm.Cond.code ({ cls := "com/example/rulecast/rulecast/Names", name := "isNameStartChar", desc := "(I)Z" } : Jvm.MethodName) prog_2_method_2_code (1 : Nat) (Option.some Jvm.ClassFile.FieldType.boolean)).before args0 about1 = true := code_word (m := ⟨2, 1⟩) (meth := k2m1) (c := k2c1) (by decide +kernel) rfl rfl rfl (by decide +kernel)
set_option maxRecDepth 65536 in
theorem w_c2 : (Jvm.Cond.code ({ cls := "com/example/rulecast/rulecast/NamesIsNameStartCharPinLaw", name := "ref", desc := "(I)Z" } : Jvm.MethodName) method_2_code (2 : Nat) (Option.some Jvm.ClassFile.FieldType.boolean)).before args0 about1 = true := code_word (m := ⟨1, 1⟩) (meth := k1m1) (c := k1c1) (by decide +kernel) rfl rfl rfl (by decide +kernel)
def codes1 : List Jvm.Cond := [Jvm.Cond.code x code maxLocals ret, Jvm.Cond.code ({ cls := "com/example/rulecast/rulecast/Names", name := "isNameStartChar", desc := "(I)Z" } : Jvm.MethodName) prog_2_method_2_code (1 : Nat) (Option.some Jvm.ClassFile.FieldType.boolean), Jvm.Cond.code ({ cls := "com/example/rulecast/rulecast/NamesIsNameStartCharPinLaw", name := "ref", desc := "(I)Z" } : Jvm.MethodName) method_2_code (2 : Nat) (Option.some Jvm.ClassFile.FieldType.boolean)]
set_option maxRecDepth 65536 in
theorem codes_eq : words1.filter isCode = codes1 := rfl
theorem w_codes : ∀ c ∈ words1.filter isCode, c.before args0 about1 = true := by
  rw [codes_eq]
  intro c hc
  simp only [codes1, List.mem_cons, List.not_mem_nil, or_false] at hc
  rcases hc with rfl | rfl | rfl
  · exact w_c0
  · exact w_c1
  · exact w_c2
set_option maxRecDepth 65536 in
theorem w_t1 : (words1.take 24).all (fun c => isCode c || c.before args0 about1) = true := by decide +kernel
set_option maxRecDepth 65536 in
theorem w_t2 : (words1.drop 24).all (fun c => isCode c || c.before args0 about1) = true := by decide +kernel
theorem w_tables : (allAtoms (Jvm.Cond.code x code maxLocals ret :: tables_1)).before args0 about1 = true := by
  rw [allAtoms_all]
  show words1.all (fun c => c.before args0 about1) = true
  refine all_split ?_ w_codes
  rw [← List.take_append_drop 24 words1, List.all_append, w_t1, w_t2]
  rfl
set_option maxRecDepth 65536 in
theorem w_case : (Jvm.Cond.and given_1 narrow_1).before args0 about1 = true := by decide +kernel
theorem w_applies : (headSpec (Jvm.Cond.code x code maxLocals ret :: tables_1) room_1).applies x e0.platform about1 = true :=
  (Spec.applies_iff w_frames).mpr ⟨w_running, w_runnable, w_alone, w_named, w_hears, w_ripe, w_room, w_tables⟩
theorem atStart : AtStart classFile x code maxLocals ret World_1 tables_1 room_1 Calls_1 rest_1 Pre_1 launch0 p0 e0 about1 theMethod args0 below0 :=
  ⟨lists_1, trivial, launch0.admits_env _ _ _, launch0.least_env, fairChoices_fair.cas, fairChoices_fair.clock, w_frames, w_args, w_heap, w_applies, trivial, trivial, w_case⟩
end start1
theorem witness_1 : WitnessClaimed_1 := ⟨start1.p0, start1.e0, start1.about1, start1.theMethod, start1.args0, start1.below0, start1.atStart⟩
end Jvm.Pilot.@@N@@
