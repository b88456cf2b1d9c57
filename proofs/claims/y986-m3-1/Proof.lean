import JvmDerived
import JvmDerived.Pilot.@@N@@Statement
import JvmDerived.Pilot.@@N@@Code
set_option linter.unusedVariables false
set_option linter.unusedSimpArgs false
namespace Jvm.Pilot.@@N@@
open Jvm Jvm.ClassFile Sem Op Lib Jvm.Free Jvm.Stand Jvm.LawKit Jvm.RoadKit Bundle Jvm.Pilot.@@N@@.Jvm.D
theorem d2_0 : decode prog_60_method_2_code 0 = .ok (.iload_n 0, 1) := by decide +kernel
theorem d2_1 : decode prog_60_method_2_code 1 = .ok (.bipush 97, 2) := by decide +kernel
theorem d2_3 : decode prog_60_method_2_code 3 = .ok (.if_icmp .lt 9, 3) := by decide +kernel
theorem d2_6 : decode prog_60_method_2_code 6 = .ok (.iload_n 0, 1) := by decide +kernel
theorem d2_7 : decode prog_60_method_2_code 7 = .ok (.bipush 122, 2) := by decide +kernel
theorem d2_9 : decode prog_60_method_2_code 9 = .ok (.if_icmp .le 188, 3) := by decide +kernel
theorem d2_12 : decode prog_60_method_2_code 12 = .ok (.iload_n 0, 1) := by decide +kernel
theorem d2_13 : decode prog_60_method_2_code 13 = .ok (.bipush 65, 2) := by decide +kernel
theorem d2_15 : decode prog_60_method_2_code 15 = .ok (.if_icmp .lt 9, 3) := by decide +kernel
theorem d2_18 : decode prog_60_method_2_code 18 = .ok (.iload_n 0, 1) := by decide +kernel
theorem d2_19 : decode prog_60_method_2_code 19 = .ok (.bipush 90, 2) := by decide +kernel
theorem d2_21 : decode prog_60_method_2_code 21 = .ok (.if_icmp .le 176, 3) := by decide +kernel
theorem d2_24 : decode prog_60_method_2_code 24 = .ok (.iload_n 0, 1) := by decide +kernel
theorem d2_25 : decode prog_60_method_2_code 25 = .ok (.bipush 95, 2) := by decide +kernel
theorem d2_27 : decode prog_60_method_2_code 27 = .ok (.if_icmp .eq 170, 3) := by decide +kernel
theorem d2_30 : decode prog_60_method_2_code 30 = .ok (.iload_n 0, 1) := by decide +kernel
theorem d2_31 : decode prog_60_method_2_code 31 = .ok (.bipush 58, 2) := by decide +kernel
theorem d2_33 : decode prog_60_method_2_code 33 = .ok (.if_icmp .eq 164, 3) := by decide +kernel
theorem d2_36 : decode prog_60_method_2_code 36 = .ok (.iload_n 0, 1) := by decide +kernel
theorem d2_37 : decode prog_60_method_2_code 37 = .ok (.sipush 192, 3) := by decide +kernel
theorem d2_40 : decode prog_60_method_2_code 40 = .ok (.if_icmp .lt 10, 3) := by decide +kernel
theorem d2_43 : decode prog_60_method_2_code 43 = .ok (.iload_n 0, 1) := by decide +kernel
theorem d2_44 : decode prog_60_method_2_code 44 = .ok (.sipush 214, 3) := by decide +kernel
theorem d2_47 : decode prog_60_method_2_code 47 = .ok (.if_icmp .le 150, 3) := by decide +kernel
theorem d2_50 : decode prog_60_method_2_code 50 = .ok (.iload_n 0, 1) := by decide +kernel
theorem d2_51 : decode prog_60_method_2_code 51 = .ok (.sipush 216, 3) := by decide +kernel
theorem d2_54 : decode prog_60_method_2_code 54 = .ok (.if_icmp .lt 10, 3) := by decide +kernel
theorem d2_57 : decode prog_60_method_2_code 57 = .ok (.iload_n 0, 1) := by decide +kernel
theorem d2_58 : decode prog_60_method_2_code 58 = .ok (.sipush 246, 3) := by decide +kernel
theorem d2_61 : decode prog_60_method_2_code 61 = .ok (.if_icmp .le 136, 3) := by decide +kernel
theorem d2_64 : decode prog_60_method_2_code 64 = .ok (.iload_n 0, 1) := by decide +kernel
theorem d2_65 : decode prog_60_method_2_code 65 = .ok (.sipush 248, 3) := by decide +kernel
theorem d2_68 : decode prog_60_method_2_code 68 = .ok (.if_icmp .lt 10, 3) := by decide +kernel
theorem d2_71 : decode prog_60_method_2_code 71 = .ok (.iload_n 0, 1) := by decide +kernel
theorem d2_72 : decode prog_60_method_2_code 72 = .ok (.sipush 767, 3) := by decide +kernel
theorem d2_75 : decode prog_60_method_2_code 75 = .ok (.if_icmp .le 122, 3) := by decide +kernel
theorem d2_78 : decode prog_60_method_2_code 78 = .ok (.iload_n 0, 1) := by decide +kernel
theorem d2_79 : decode prog_60_method_2_code 79 = .ok (.sipush 880, 3) := by decide +kernel
theorem d2_82 : decode prog_60_method_2_code 82 = .ok (.if_icmp .lt 10, 3) := by decide +kernel
theorem d2_85 : decode prog_60_method_2_code 85 = .ok (.iload_n 0, 1) := by decide +kernel
theorem d2_86 : decode prog_60_method_2_code 86 = .ok (.sipush 893, 3) := by decide +kernel
theorem d2_89 : decode prog_60_method_2_code 89 = .ok (.if_icmp .le 108, 3) := by decide +kernel
theorem d2_92 : decode prog_60_method_2_code 92 = .ok (.iload_n 0, 1) := by decide +kernel
theorem d2_93 : decode prog_60_method_2_code 93 = .ok (.sipush 895, 3) := by decide +kernel
theorem d2_96 : decode prog_60_method_2_code 96 = .ok (.if_icmp .lt 10, 3) := by decide +kernel
theorem d2_99 : decode prog_60_method_2_code 99 = .ok (.iload_n 0, 1) := by decide +kernel
theorem d2_100 : decode prog_60_method_2_code 100 = .ok (.sipush 8191, 3) := by decide +kernel
theorem d2_103 : decode prog_60_method_2_code 103 = .ok (.if_icmp .le 94, 3) := by decide +kernel
theorem d2_106 : decode prog_60_method_2_code 106 = .ok (.iload_n 0, 1) := by decide +kernel
theorem d2_107 : decode prog_60_method_2_code 107 = .ok (.sipush 8204, 3) := by decide +kernel
theorem d2_110 : decode prog_60_method_2_code 110 = .ok (.if_icmp .eq 87, 3) := by decide +kernel
theorem d2_113 : decode prog_60_method_2_code 113 = .ok (.iload_n 0, 1) := by decide +kernel
theorem d2_114 : decode prog_60_method_2_code 114 = .ok (.sipush 8205, 3) := by decide +kernel
theorem d2_117 : decode prog_60_method_2_code 117 = .ok (.if_icmp .eq 80, 3) := by decide +kernel
theorem d2_120 : decode prog_60_method_2_code 120 = .ok (.iload_n 0, 1) := by decide +kernel
theorem d2_121 : decode prog_60_method_2_code 121 = .ok (.sipush 8304, 3) := by decide +kernel
theorem d2_124 : decode prog_60_method_2_code 124 = .ok (.if_icmp .lt 10, 3) := by decide +kernel
theorem d2_127 : decode prog_60_method_2_code 127 = .ok (.iload_n 0, 1) := by decide +kernel
theorem d2_128 : decode prog_60_method_2_code 128 = .ok (.sipush 8591, 3) := by decide +kernel
theorem d2_131 : decode prog_60_method_2_code 131 = .ok (.if_icmp .le 66, 3) := by decide +kernel
theorem d2_134 : decode prog_60_method_2_code 134 = .ok (.iload_n 0, 1) := by decide +kernel
theorem d2_135 : decode prog_60_method_2_code 135 = .ok (.sipush 11264, 3) := by decide +kernel
theorem d2_138 : decode prog_60_method_2_code 138 = .ok (.if_icmp .lt 10, 3) := by decide +kernel
theorem d2_141 : decode prog_60_method_2_code 141 = .ok (.iload_n 0, 1) := by decide +kernel
theorem d2_142 : decode prog_60_method_2_code 142 = .ok (.sipush 12271, 3) := by decide +kernel
theorem d2_145 : decode prog_60_method_2_code 145 = .ok (.if_icmp .le 52, 3) := by decide +kernel
theorem d2_148 : decode prog_60_method_2_code 148 = .ok (.iload_n 0, 1) := by decide +kernel
theorem d2_149 : decode prog_60_method_2_code 149 = .ok (.sipush 12289, 3) := by decide +kernel
theorem d2_152 : decode prog_60_method_2_code 152 = .ok (.if_icmp .lt 9, 3) := by decide +kernel
theorem d2_155 : decode prog_60_method_2_code 155 = .ok (.iload_n 0, 1) := by decide +kernel
theorem d2_156 : decode prog_60_method_2_code 156 = .ok (.ldc 7, 2) := by decide +kernel
theorem d2_158 : decode prog_60_method_2_code 158 = .ok (.if_icmp .le 39, 3) := by decide +kernel
theorem d2_161 : decode prog_60_method_2_code 161 = .ok (.iload_n 0, 1) := by decide +kernel
theorem d2_162 : decode prog_60_method_2_code 162 = .ok (.ldc 8, 2) := by decide +kernel
theorem d2_164 : decode prog_60_method_2_code 164 = .ok (.if_icmp .lt 9, 3) := by decide +kernel
theorem d2_167 : decode prog_60_method_2_code 167 = .ok (.iload_n 0, 1) := by decide +kernel
theorem d2_168 : decode prog_60_method_2_code 168 = .ok (.ldc 9, 2) := by decide +kernel
theorem d2_170 : decode prog_60_method_2_code 170 = .ok (.if_icmp .le 27, 3) := by decide +kernel
theorem d2_173 : decode prog_60_method_2_code 173 = .ok (.iload_n 0, 1) := by decide +kernel
theorem d2_174 : decode prog_60_method_2_code 174 = .ok (.ldc 10, 2) := by decide +kernel
theorem d2_176 : decode prog_60_method_2_code 176 = .ok (.if_icmp .lt 9, 3) := by decide +kernel
theorem d2_179 : decode prog_60_method_2_code 179 = .ok (.iload_n 0, 1) := by decide +kernel
theorem d2_180 : decode prog_60_method_2_code 180 = .ok (.ldc 11, 2) := by decide +kernel
theorem d2_182 : decode prog_60_method_2_code 182 = .ok (.if_icmp .le 15, 3) := by decide +kernel
theorem d2_185 : decode prog_60_method_2_code 185 = .ok (.iload_n 0, 1) := by decide +kernel
theorem d2_186 : decode prog_60_method_2_code 186 = .ok (.ldc 12, 2) := by decide +kernel
theorem d2_188 : decode prog_60_method_2_code 188 = .ok (.if_icmp .lt 13, 3) := by decide +kernel
theorem d2_191 : decode prog_60_method_2_code 191 = .ok (.iload_n 0, 1) := by decide +kernel
theorem d2_192 : decode prog_60_method_2_code 192 = .ok (.ldc 13, 2) := by decide +kernel
theorem d2_194 : decode prog_60_method_2_code 194 = .ok (.if_icmp .gt 7, 3) := by decide +kernel
theorem d2_197 : decode prog_60_method_2_code 197 = .ok (.iconst 1, 1) := by decide +kernel
theorem d2_198 : decode prog_60_method_2_code 198 = .ok (.goto 4, 3) := by decide +kernel
theorem d2_201 : decode prog_60_method_2_code 201 = .ok (.iconst 0, 1) := by decide +kernel
theorem d2_202 : decode prog_60_method_2_code 202 = .ok (.ireturn, 1) := by decide +kernel
theorem pn_rmS : plainName "com/example/summarium/summarium/cda/XmlNames" = true := by first | (simp [plainName, overriddenIn]; done) | decide +kernel
theorem ef_rmS (m : MethodId) (p1 : Int32) : entryFrame m #[(.int p1)] 1 = (mkF m 0 #[.val (.int p1)] []) := by first | (simp [entryFrame, mkF, argsToLocals, Value.category]; done) | rfl
def own_ns_0_1 (p1 : Int32) : Int32 := (1 : Int32)
def own_ns_0_2 (p1 : Int32) : Int32 := (0 : Int32)
def own_ns_0_3 (p1 : Int32) : Int32 := if (983039 : Int32) < p1 then own_ns_0_2 p1 else own_ns_0_1 p1
def own_ns_0_4 (p1 : Int32) : Int32 := if p1 < (65536 : Int32) then own_ns_0_2 p1 else own_ns_0_3 p1
def own_ns_0_5 (p1 : Int32) : Int32 := if (65533 : Int32) < p1 then own_ns_0_4 p1 else own_ns_0_1 p1
def own_ns_0_6 (p1 : Int32) : Int32 := if p1 < (65008 : Int32) then own_ns_0_4 p1 else own_ns_0_5 p1
def own_ns_0_7 (p1 : Int32) : Int32 := if (64975 : Int32) < p1 then own_ns_0_6 p1 else own_ns_0_1 p1
def own_ns_0_8 (p1 : Int32) : Int32 := if p1 < (63744 : Int32) then own_ns_0_6 p1 else own_ns_0_7 p1
def own_ns_0_9 (p1 : Int32) : Int32 := if (55295 : Int32) < p1 then own_ns_0_8 p1 else own_ns_0_1 p1
def own_ns_0_10 (p1 : Int32) : Int32 := if p1 < (12289 : Int32) then own_ns_0_8 p1 else own_ns_0_9 p1
def own_ns_0_11 (p1 : Int32) : Int32 := if (12271 : Int32) < p1 then own_ns_0_10 p1 else own_ns_0_1 p1
def own_ns_0_12 (p1 : Int32) : Int32 := if p1 < (11264 : Int32) then own_ns_0_10 p1 else own_ns_0_11 p1
def own_ns_0_13 (p1 : Int32) : Int32 := if (8591 : Int32) < p1 then own_ns_0_12 p1 else own_ns_0_1 p1
def own_ns_0_14 (p1 : Int32) : Int32 := if p1 < (8304 : Int32) then own_ns_0_12 p1 else own_ns_0_13 p1
def own_ns_0_15 (p1 : Int32) : Int32 := if p1 = (8205 : Int32) then own_ns_0_1 p1 else own_ns_0_14 p1
def own_ns_0_16 (p1 : Int32) : Int32 := if p1 = (8204 : Int32) then own_ns_0_1 p1 else own_ns_0_15 p1
def own_ns_0_17 (p1 : Int32) : Int32 := if (8191 : Int32) < p1 then own_ns_0_16 p1 else own_ns_0_1 p1
def own_ns_0_18 (p1 : Int32) : Int32 := if p1 < (895 : Int32) then own_ns_0_16 p1 else own_ns_0_17 p1
def own_ns_0_19 (p1 : Int32) : Int32 := if (893 : Int32) < p1 then own_ns_0_18 p1 else own_ns_0_1 p1
def own_ns_0_20 (p1 : Int32) : Int32 := if p1 < (880 : Int32) then own_ns_0_18 p1 else own_ns_0_19 p1
def own_ns_0_21 (p1 : Int32) : Int32 := if (767 : Int32) < p1 then own_ns_0_20 p1 else own_ns_0_1 p1
def own_ns_0_22 (p1 : Int32) : Int32 := if p1 < (248 : Int32) then own_ns_0_20 p1 else own_ns_0_21 p1
def own_ns_0_23 (p1 : Int32) : Int32 := if (246 : Int32) < p1 then own_ns_0_22 p1 else own_ns_0_1 p1
def own_ns_0_24 (p1 : Int32) : Int32 := if p1 < (216 : Int32) then own_ns_0_22 p1 else own_ns_0_23 p1
def own_ns_0_25 (p1 : Int32) : Int32 := if (214 : Int32) < p1 then own_ns_0_24 p1 else own_ns_0_1 p1
def own_ns_0_26 (p1 : Int32) : Int32 := if p1 < (192 : Int32) then own_ns_0_24 p1 else own_ns_0_25 p1
def own_ns_0_27 (p1 : Int32) : Int32 := if p1 = (58 : Int32) then own_ns_0_1 p1 else own_ns_0_26 p1
def own_ns_0_28 (p1 : Int32) : Int32 := if p1 = (95 : Int32) then own_ns_0_1 p1 else own_ns_0_27 p1
def own_ns_0_29 (p1 : Int32) : Int32 := if (90 : Int32) < p1 then own_ns_0_28 p1 else own_ns_0_1 p1
def own_ns_0_30 (p1 : Int32) : Int32 := if p1 < (65 : Int32) then own_ns_0_28 p1 else own_ns_0_29 p1
def own_ns_0_31 (p1 : Int32) : Int32 := if (122 : Int32) < p1 then own_ns_0_30 p1 else own_ns_0_1 p1
def own_ns_0_32 (p1 : Int32) : Int32 := if p1 < (97 : Int32) then own_ns_0_30 p1 else own_ns_0_31 p1
def Q_rmS (Z : State) (p1 : Int32)  (h0 : Heap) (n0 : Nat) (v : Option Value) (h : Heap) (L : List Loc) : Prop := v = some (.int (own_ns_0_32 p1)) ∧ Fr n0 L ∧ h = h0
set_option maxRecDepth 65536 in
set_option maxHeartbeats 40000000 in
theorem rmS (l : Launch) (Z : State) (a0 : Array Value) (hw : ∀ d ∈ tables_1, d.before a0 Z = true) (ws : List Jvm.Cond) (p1 : Int32)  (h0 : Heap) (n0 : Nat) (Z0 : n0 ≤ h0.size)  :
    MetFree l (⟨"com/example/summarium/summarium/cda/XmlNames", "isNameStart", "(I)Z"⟩ : MethodName) (head1 (Jvm.Cond.code (⟨"com/example/summarium/summarium/cda/XmlNames", "isNameStart", "(I)Z"⟩ : MethodName) prog_60_method_2_code 1 (some .boolean) :: ws) ({ frames := 0, cells := 0, slots := 0, locals := 0 } : Room)) (fun a U => a = #[(.int p1)] ∧ Z.Warmed39 U.vm ∧ U.heap = h0) (fun _ _ _ _ _ => True) (fun _ U o U' => ∃ v L, o = .returned v ∧ Q_rmS Z p1 h0 n0 v U'.heap L ∧ FrameEnd U o U' L ({ frames := 0, cells := 0, slots := 0, locals := 0 } : Room).cells ({ frames := 0, cells := 0, slots := 0, locals := 0 } : Room).slots) := by
  refine MetFree.of_bodySF (plainFor_of_name pn_rmS) hisR ?_
  intro p e s m args below meth c s₁ Bd hml0 hP hK
  obtain ⟨rfl, hZ, hh⟩ := hP
  have hx := Bd.exec
  have hby := Bd.bytes
  have hml : c.maxLocals = 1 := hml0
  have hown : s.vm.findClass "com/example/summarium/summarium/cda/XmlNames" = some m.cls := findClass_of_methodNamed Bd.named
  have hnm := (name_of_methodNamed Bd.named Bd.method).1
  have X0 : Stand p l e ({ frames := 0, cells := 0, slots := 0, locals := 0 } : Room) s m #[(.int p1)] below meth c s₁ [] 0 0 := Stand.of_body Bd
  have e0 : s₁.heap = h0 := by rw [← hh, Bd.state]; rfl
  have N0 := Fr.nil n0
  have pre0 : Steps p.tables e below (s₁.setTop (entryFrame m #[(.int p1)] 1)) (s₁.setTop (mkF m 0 #[.val (.int p1)] [])) := castTop (ef_rmS m p1) (Steps.refl _)
  obtain ⟨v_ns_0, h_v_ns_0⟩ : ∃ z, z = own_ns_0_32 p1 := ⟨_, rfl⟩
  obtain ⟨fs, hr, hrun, hended, hW, hsame⟩ := X0.leave (v := some (.int v_ns_0)) (fun h => by rw [Bd.returns] at h; cases h)
  have Bns_1 (hv0 : v_ns_0 = own_ns_0_1 p1) : Steps p.tables e below (s₁.setTop (mkF m 197 #[.val (.int p1)] [])) (s₁.setFrames fs) := by
    have hw0 : v_ns_0 = (1 : Int32) := hv0
    rw [hw0] at hr
    show Steps p.tables e below (s₁.setTop (mkF m 197 #[.val (.int p1)] [])) _
    refine XS.iconst X0.here hx rfl (hb hby d2_197) ?_
    show Steps p.tables e below (s₁.setTop (mkF m 198 #[.val (.int p1)] [(.int (1 : Int32))])) _
    refine XS.goto X0.here hx rfl (pc0 := 198) (pc' := 202) rfl (hb hby d2_198) (by decide) (by decide) ?_
    show Steps p.tables e below (s₁.setTop (mkF m 202 #[.val (.int p1)] [(.int (1 : Int32))])) _
    exact retN X0 hx (t := .boolean) Bd.returns (by simp) (hb hby d2_202) hr
  have Bns_2 (hv0 : v_ns_0 = own_ns_0_2 p1) : Steps p.tables e below (s₁.setTop (mkF m 201 #[.val (.int p1)] [])) (s₁.setFrames fs) := by
    have hw0 : v_ns_0 = (0 : Int32) := hv0
    rw [hw0] at hr
    show Steps p.tables e below (s₁.setTop (mkF m 201 #[.val (.int p1)] [])) _
    refine XS.iconst X0.here hx rfl (hb hby d2_201) ?_
    show Steps p.tables e below (s₁.setTop (mkF m 202 #[.val (.int p1)] [(.int (0 : Int32))])) _
    exact retN X0 hx (t := .boolean) Bd.returns (by simp) (hb hby d2_202) hr
  have Bns_3 (hv0 : v_ns_0 = own_ns_0_3 p1) : Steps p.tables e below (s₁.setTop (mkF m 191 #[.val (.int p1)] [])) (s₁.setFrames fs) := by
    show Steps p.tables e below (s₁.setTop (mkF m 191 #[.val (.int p1)] [])) _
    refine XS.iloadN X0.here hx rfl (hb hby d2_191) rfl ?_
    show Steps p.tables e below (s₁.setTop (mkF m 192 #[.val (.int p1)] [(.int p1)])) _
    refine X0.ldcInt hx hown (mvT hZ (hw _ (List.mem_of_getElem? (i := 30) rfl))) (g := (mkF m 192 #[.val (.int p1)] [(.int p1)])) rfl (hb hby d2_192) _ ?_
    show Steps p.tables e below (s₁.setTop (mkF m 194 #[.val (.int p1)] [(.int (983039 : Int32)), (.int p1)])) _
    by_cases h194 : (983039 : Int32) < p1
    · refine XS.icmpYes X0.here hx rfl (pc0 := 194) (pc' := 201) rfl (hb hby d2_194) rfl (tlt h194).2.2.1 (by decide) (by decide) ?_
      exact Bns_2 (hv0.trans (if_pos h194))
    · refine XS.icmpNo X0.here hx rfl (hb hby d2_194) rfl (flt h194).2.2.1 ?_
      exact Bns_1 (hv0.trans (if_neg h194))
  have Bns_4 (hv0 : v_ns_0 = own_ns_0_4 p1) : Steps p.tables e below (s₁.setTop (mkF m 185 #[.val (.int p1)] [])) (s₁.setFrames fs) := by
    show Steps p.tables e below (s₁.setTop (mkF m 185 #[.val (.int p1)] [])) _
    refine XS.iloadN X0.here hx rfl (hb hby d2_185) rfl ?_
    show Steps p.tables e below (s₁.setTop (mkF m 186 #[.val (.int p1)] [(.int p1)])) _
    refine X0.ldcInt hx hown (mvT hZ (hw _ (List.mem_of_getElem? (i := 19) rfl))) (g := (mkF m 186 #[.val (.int p1)] [(.int p1)])) rfl (hb hby d2_186) _ ?_
    show Steps p.tables e below (s₁.setTop (mkF m 188 #[.val (.int p1)] [(.int (65536 : Int32)), (.int p1)])) _
    by_cases h188 : p1 < (65536 : Int32)
    · refine XS.icmpYes X0.here hx rfl (pc0 := 188) (pc' := 201) rfl (hb hby d2_188) rfl (tlt h188).1 (by decide) (by decide) ?_
      exact Bns_2 (hv0.trans (if_pos h188))
    · refine XS.icmpNo X0.here hx rfl (hb hby d2_188) rfl (flt h188).1 ?_
      exact Bns_3 (hv0.trans (if_neg h188))
  have Bns_5 (hv0 : v_ns_0 = own_ns_0_5 p1) : Steps p.tables e below (s₁.setTop (mkF m 179 #[.val (.int p1)] [])) (s₁.setFrames fs) := by
    show Steps p.tables e below (s₁.setTop (mkF m 179 #[.val (.int p1)] [])) _
    refine XS.iloadN X0.here hx rfl (hb hby d2_179) rfl ?_
    show Steps p.tables e below (s₁.setTop (mkF m 180 #[.val (.int p1)] [(.int p1)])) _
    refine X0.ldcInt hx hown (mvT hZ (hw _ (List.mem_of_getElem? (i := 29) rfl))) (g := (mkF m 180 #[.val (.int p1)] [(.int p1)])) rfl (hb hby d2_180) _ ?_
    show Steps p.tables e below (s₁.setTop (mkF m 182 #[.val (.int p1)] [(.int (65533 : Int32)), (.int p1)])) _
    by_cases h182 : (65533 : Int32) < p1
    · refine XS.icmpNo X0.here hx rfl (hb hby d2_182) rfl (tlt h182).2.2.2 ?_
      exact Bns_4 (hv0.trans (if_pos h182))
    · refine XS.icmpYes X0.here hx rfl (pc0 := 182) (pc' := 197) rfl (hb hby d2_182) rfl (flt h182).2.2.2 (by decide) (by decide) ?_
      exact Bns_1 (hv0.trans (if_neg h182))
  have Bns_6 (hv0 : v_ns_0 = own_ns_0_6 p1) : Steps p.tables e below (s₁.setTop (mkF m 173 #[.val (.int p1)] [])) (s₁.setFrames fs) := by
    show Steps p.tables e below (s₁.setTop (mkF m 173 #[.val (.int p1)] [])) _
    refine XS.iloadN X0.here hx rfl (hb hby d2_173) rfl ?_
    show Steps p.tables e below (s₁.setTop (mkF m 174 #[.val (.int p1)] [(.int p1)])) _
    refine X0.ldcInt hx hown (mvT hZ (hw _ (List.mem_of_getElem? (i := 18) rfl))) (g := (mkF m 174 #[.val (.int p1)] [(.int p1)])) rfl (hb hby d2_174) _ ?_
    show Steps p.tables e below (s₁.setTop (mkF m 176 #[.val (.int p1)] [(.int (65008 : Int32)), (.int p1)])) _
    by_cases h176 : p1 < (65008 : Int32)
    · refine XS.icmpYes X0.here hx rfl (pc0 := 176) (pc' := 185) rfl (hb hby d2_176) rfl (tlt h176).1 (by decide) (by decide) ?_
      exact Bns_4 (hv0.trans (if_pos h176))
    · refine XS.icmpNo X0.here hx rfl (hb hby d2_176) rfl (flt h176).1 ?_
      exact Bns_5 (hv0.trans (if_neg h176))
  have Bns_7 (hv0 : v_ns_0 = own_ns_0_7 p1) : Steps p.tables e below (s₁.setTop (mkF m 167 #[.val (.int p1)] [])) (s₁.setFrames fs) := by
    show Steps p.tables e below (s₁.setTop (mkF m 167 #[.val (.int p1)] [])) _
    refine XS.iloadN X0.here hx rfl (hb hby d2_167) rfl ?_
    show Steps p.tables e below (s₁.setTop (mkF m 168 #[.val (.int p1)] [(.int p1)])) _
    refine X0.ldcInt hx hown (mvT hZ (hw _ (List.mem_of_getElem? (i := 28) rfl))) (g := (mkF m 168 #[.val (.int p1)] [(.int p1)])) rfl (hb hby d2_168) _ ?_
    show Steps p.tables e below (s₁.setTop (mkF m 170 #[.val (.int p1)] [(.int (64975 : Int32)), (.int p1)])) _
    by_cases h170 : (64975 : Int32) < p1
    · refine XS.icmpNo X0.here hx rfl (hb hby d2_170) rfl (tlt h170).2.2.2 ?_
      exact Bns_6 (hv0.trans (if_pos h170))
    · refine XS.icmpYes X0.here hx rfl (pc0 := 170) (pc' := 197) rfl (hb hby d2_170) rfl (flt h170).2.2.2 (by decide) (by decide) ?_
      exact Bns_1 (hv0.trans (if_neg h170))
  have Bns_8 (hv0 : v_ns_0 = own_ns_0_8 p1) : Steps p.tables e below (s₁.setTop (mkF m 161 #[.val (.int p1)] [])) (s₁.setFrames fs) := by
    show Steps p.tables e below (s₁.setTop (mkF m 161 #[.val (.int p1)] [])) _
    refine XS.iloadN X0.here hx rfl (hb hby d2_161) rfl ?_
    show Steps p.tables e below (s₁.setTop (mkF m 162 #[.val (.int p1)] [(.int p1)])) _
    refine X0.ldcInt hx hown (mvT hZ (hw _ (List.mem_of_getElem? (i := 17) rfl))) (g := (mkF m 162 #[.val (.int p1)] [(.int p1)])) rfl (hb hby d2_162) _ ?_
    show Steps p.tables e below (s₁.setTop (mkF m 164 #[.val (.int p1)] [(.int (63744 : Int32)), (.int p1)])) _
    by_cases h164 : p1 < (63744 : Int32)
    · refine XS.icmpYes X0.here hx rfl (pc0 := 164) (pc' := 173) rfl (hb hby d2_164) rfl (tlt h164).1 (by decide) (by decide) ?_
      exact Bns_6 (hv0.trans (if_pos h164))
    · refine XS.icmpNo X0.here hx rfl (hb hby d2_164) rfl (flt h164).1 ?_
      exact Bns_7 (hv0.trans (if_neg h164))
  have Bns_9 (hv0 : v_ns_0 = own_ns_0_9 p1) : Steps p.tables e below (s₁.setTop (mkF m 155 #[.val (.int p1)] [])) (s₁.setFrames fs) := by
    show Steps p.tables e below (s₁.setTop (mkF m 155 #[.val (.int p1)] [])) _
    refine XS.iloadN X0.here hx rfl (hb hby d2_155) rfl ?_
    show Steps p.tables e below (s₁.setTop (mkF m 156 #[.val (.int p1)] [(.int p1)])) _
    refine X0.ldcInt hx hown (mvT hZ (hw _ (List.mem_of_getElem? (i := 27) rfl))) (g := (mkF m 156 #[.val (.int p1)] [(.int p1)])) rfl (hb hby d2_156) _ ?_
    show Steps p.tables e below (s₁.setTop (mkF m 158 #[.val (.int p1)] [(.int (55295 : Int32)), (.int p1)])) _
    by_cases h158 : (55295 : Int32) < p1
    · refine XS.icmpNo X0.here hx rfl (hb hby d2_158) rfl (tlt h158).2.2.2 ?_
      exact Bns_8 (hv0.trans (if_pos h158))
    · refine XS.icmpYes X0.here hx rfl (pc0 := 158) (pc' := 197) rfl (hb hby d2_158) rfl (flt h158).2.2.2 (by decide) (by decide) ?_
      exact Bns_1 (hv0.trans (if_neg h158))
  have Bns_10 (hv0 : v_ns_0 = own_ns_0_10 p1) : Steps p.tables e below (s₁.setTop (mkF m 148 #[.val (.int p1)] [])) (s₁.setFrames fs) := by
    show Steps p.tables e below (s₁.setTop (mkF m 148 #[.val (.int p1)] [])) _
    refine XS.iloadN X0.here hx rfl (hb hby d2_148) rfl ?_
    show Steps p.tables e below (s₁.setTop (mkF m 149 #[.val (.int p1)] [(.int p1)])) _
    refine XS.sipush X0.here hx rfl (hb hby d2_149) ?_
    show Steps p.tables e below (s₁.setTop (mkF m 152 #[.val (.int p1)] [(.int (12289 : Int32)), (.int p1)])) _
    by_cases h152 : p1 < (12289 : Int32)
    · refine XS.icmpYes X0.here hx rfl (pc0 := 152) (pc' := 161) rfl (hb hby d2_152) rfl (tlt h152).1 (by decide) (by decide) ?_
      exact Bns_8 (hv0.trans (if_pos h152))
    · refine XS.icmpNo X0.here hx rfl (hb hby d2_152) rfl (flt h152).1 ?_
      exact Bns_9 (hv0.trans (if_neg h152))
  have Bns_11 (hv0 : v_ns_0 = own_ns_0_11 p1) : Steps p.tables e below (s₁.setTop (mkF m 141 #[.val (.int p1)] [])) (s₁.setFrames fs) := by
    show Steps p.tables e below (s₁.setTop (mkF m 141 #[.val (.int p1)] [])) _
    refine XS.iloadN X0.here hx rfl (hb hby d2_141) rfl ?_
    show Steps p.tables e below (s₁.setTop (mkF m 142 #[.val (.int p1)] [(.int p1)])) _
    refine XS.sipush X0.here hx rfl (hb hby d2_142) ?_
    show Steps p.tables e below (s₁.setTop (mkF m 145 #[.val (.int p1)] [(.int (12271 : Int32)), (.int p1)])) _
    by_cases h145 : (12271 : Int32) < p1
    · refine XS.icmpNo X0.here hx rfl (hb hby d2_145) rfl (tlt h145).2.2.2 ?_
      exact Bns_10 (hv0.trans (if_pos h145))
    · refine XS.icmpYes X0.here hx rfl (pc0 := 145) (pc' := 197) rfl (hb hby d2_145) rfl (flt h145).2.2.2 (by decide) (by decide) ?_
      exact Bns_1 (hv0.trans (if_neg h145))
  have Bns_12 (hv0 : v_ns_0 = own_ns_0_12 p1) : Steps p.tables e below (s₁.setTop (mkF m 134 #[.val (.int p1)] [])) (s₁.setFrames fs) := by
    show Steps p.tables e below (s₁.setTop (mkF m 134 #[.val (.int p1)] [])) _
    refine XS.iloadN X0.here hx rfl (hb hby d2_134) rfl ?_
    show Steps p.tables e below (s₁.setTop (mkF m 135 #[.val (.int p1)] [(.int p1)])) _
    refine XS.sipush X0.here hx rfl (hb hby d2_135) ?_
    show Steps p.tables e below (s₁.setTop (mkF m 138 #[.val (.int p1)] [(.int (11264 : Int32)), (.int p1)])) _
    by_cases h138 : p1 < (11264 : Int32)
    · refine XS.icmpYes X0.here hx rfl (pc0 := 138) (pc' := 148) rfl (hb hby d2_138) rfl (tlt h138).1 (by decide) (by decide) ?_
      exact Bns_10 (hv0.trans (if_pos h138))
    · refine XS.icmpNo X0.here hx rfl (hb hby d2_138) rfl (flt h138).1 ?_
      exact Bns_11 (hv0.trans (if_neg h138))
  have Bns_13 (hv0 : v_ns_0 = own_ns_0_13 p1) : Steps p.tables e below (s₁.setTop (mkF m 127 #[.val (.int p1)] [])) (s₁.setFrames fs) := by
    show Steps p.tables e below (s₁.setTop (mkF m 127 #[.val (.int p1)] [])) _
    refine XS.iloadN X0.here hx rfl (hb hby d2_127) rfl ?_
    show Steps p.tables e below (s₁.setTop (mkF m 128 #[.val (.int p1)] [(.int p1)])) _
    refine XS.sipush X0.here hx rfl (hb hby d2_128) ?_
    show Steps p.tables e below (s₁.setTop (mkF m 131 #[.val (.int p1)] [(.int (8591 : Int32)), (.int p1)])) _
    by_cases h131 : (8591 : Int32) < p1
    · refine XS.icmpNo X0.here hx rfl (hb hby d2_131) rfl (tlt h131).2.2.2 ?_
      exact Bns_12 (hv0.trans (if_pos h131))
    · refine XS.icmpYes X0.here hx rfl (pc0 := 131) (pc' := 197) rfl (hb hby d2_131) rfl (flt h131).2.2.2 (by decide) (by decide) ?_
      exact Bns_1 (hv0.trans (if_neg h131))
  have Bns_14 (hv0 : v_ns_0 = own_ns_0_14 p1) : Steps p.tables e below (s₁.setTop (mkF m 120 #[.val (.int p1)] [])) (s₁.setFrames fs) := by
    show Steps p.tables e below (s₁.setTop (mkF m 120 #[.val (.int p1)] [])) _
    refine XS.iloadN X0.here hx rfl (hb hby d2_120) rfl ?_
    show Steps p.tables e below (s₁.setTop (mkF m 121 #[.val (.int p1)] [(.int p1)])) _
    refine XS.sipush X0.here hx rfl (hb hby d2_121) ?_
    show Steps p.tables e below (s₁.setTop (mkF m 124 #[.val (.int p1)] [(.int (8304 : Int32)), (.int p1)])) _
    by_cases h124 : p1 < (8304 : Int32)
    · refine XS.icmpYes X0.here hx rfl (pc0 := 124) (pc' := 134) rfl (hb hby d2_124) rfl (tlt h124).1 (by decide) (by decide) ?_
      exact Bns_12 (hv0.trans (if_pos h124))
    · refine XS.icmpNo X0.here hx rfl (hb hby d2_124) rfl (flt h124).1 ?_
      exact Bns_13 (hv0.trans (if_neg h124))
  have Bns_15 (hv0 : v_ns_0 = own_ns_0_15 p1) : Steps p.tables e below (s₁.setTop (mkF m 113 #[.val (.int p1)] [])) (s₁.setFrames fs) := by
    show Steps p.tables e below (s₁.setTop (mkF m 113 #[.val (.int p1)] [])) _
    refine XS.iloadN X0.here hx rfl (hb hby d2_113) rfl ?_
    show Steps p.tables e below (s₁.setTop (mkF m 114 #[.val (.int p1)] [(.int p1)])) _
    refine XS.sipush X0.here hx rfl (hb hby d2_114) ?_
    show Steps p.tables e below (s₁.setTop (mkF m 117 #[.val (.int p1)] [(.int (8205 : Int32)), (.int p1)])) _
    by_cases h117 : p1 = (8205 : Int32)
    · refine XS.icmpYes X0.here hx rfl (pc0 := 117) (pc' := 197) rfl (hb hby d2_117) rfl (teq h117).1 (by decide) (by decide) ?_
      exact Bns_1 (hv0.trans (if_pos h117))
    · refine XS.icmpNo X0.here hx rfl (hb hby d2_117) rfl (feq h117).1 ?_
      exact Bns_14 (hv0.trans (if_neg h117))
  have Bns_16 (hv0 : v_ns_0 = own_ns_0_16 p1) : Steps p.tables e below (s₁.setTop (mkF m 106 #[.val (.int p1)] [])) (s₁.setFrames fs) := by
    show Steps p.tables e below (s₁.setTop (mkF m 106 #[.val (.int p1)] [])) _
    refine XS.iloadN X0.here hx rfl (hb hby d2_106) rfl ?_
    show Steps p.tables e below (s₁.setTop (mkF m 107 #[.val (.int p1)] [(.int p1)])) _
    refine XS.sipush X0.here hx rfl (hb hby d2_107) ?_
    show Steps p.tables e below (s₁.setTop (mkF m 110 #[.val (.int p1)] [(.int (8204 : Int32)), (.int p1)])) _
    by_cases h110 : p1 = (8204 : Int32)
    · refine XS.icmpYes X0.here hx rfl (pc0 := 110) (pc' := 197) rfl (hb hby d2_110) rfl (teq h110).1 (by decide) (by decide) ?_
      exact Bns_1 (hv0.trans (if_pos h110))
    · refine XS.icmpNo X0.here hx rfl (hb hby d2_110) rfl (feq h110).1 ?_
      exact Bns_15 (hv0.trans (if_neg h110))
  have Bns_17 (hv0 : v_ns_0 = own_ns_0_17 p1) : Steps p.tables e below (s₁.setTop (mkF m 99 #[.val (.int p1)] [])) (s₁.setFrames fs) := by
    show Steps p.tables e below (s₁.setTop (mkF m 99 #[.val (.int p1)] [])) _
    refine XS.iloadN X0.here hx rfl (hb hby d2_99) rfl ?_
    show Steps p.tables e below (s₁.setTop (mkF m 100 #[.val (.int p1)] [(.int p1)])) _
    refine XS.sipush X0.here hx rfl (hb hby d2_100) ?_
    show Steps p.tables e below (s₁.setTop (mkF m 103 #[.val (.int p1)] [(.int (8191 : Int32)), (.int p1)])) _
    by_cases h103 : (8191 : Int32) < p1
    · refine XS.icmpNo X0.here hx rfl (hb hby d2_103) rfl (tlt h103).2.2.2 ?_
      exact Bns_16 (hv0.trans (if_pos h103))
    · refine XS.icmpYes X0.here hx rfl (pc0 := 103) (pc' := 197) rfl (hb hby d2_103) rfl (flt h103).2.2.2 (by decide) (by decide) ?_
      exact Bns_1 (hv0.trans (if_neg h103))
  have Bns_18 (hv0 : v_ns_0 = own_ns_0_18 p1) : Steps p.tables e below (s₁.setTop (mkF m 92 #[.val (.int p1)] [])) (s₁.setFrames fs) := by
    show Steps p.tables e below (s₁.setTop (mkF m 92 #[.val (.int p1)] [])) _
    refine XS.iloadN X0.here hx rfl (hb hby d2_92) rfl ?_
    show Steps p.tables e below (s₁.setTop (mkF m 93 #[.val (.int p1)] [(.int p1)])) _
    refine XS.sipush X0.here hx rfl (hb hby d2_93) ?_
    show Steps p.tables e below (s₁.setTop (mkF m 96 #[.val (.int p1)] [(.int (895 : Int32)), (.int p1)])) _
    by_cases h96 : p1 < (895 : Int32)
    · refine XS.icmpYes X0.here hx rfl (pc0 := 96) (pc' := 106) rfl (hb hby d2_96) rfl (tlt h96).1 (by decide) (by decide) ?_
      exact Bns_16 (hv0.trans (if_pos h96))
    · refine XS.icmpNo X0.here hx rfl (hb hby d2_96) rfl (flt h96).1 ?_
      exact Bns_17 (hv0.trans (if_neg h96))
  have Bns_19 (hv0 : v_ns_0 = own_ns_0_19 p1) : Steps p.tables e below (s₁.setTop (mkF m 85 #[.val (.int p1)] [])) (s₁.setFrames fs) := by
    show Steps p.tables e below (s₁.setTop (mkF m 85 #[.val (.int p1)] [])) _
    refine XS.iloadN X0.here hx rfl (hb hby d2_85) rfl ?_
    show Steps p.tables e below (s₁.setTop (mkF m 86 #[.val (.int p1)] [(.int p1)])) _
    refine XS.sipush X0.here hx rfl (hb hby d2_86) ?_
    show Steps p.tables e below (s₁.setTop (mkF m 89 #[.val (.int p1)] [(.int (893 : Int32)), (.int p1)])) _
    by_cases h89 : (893 : Int32) < p1
    · refine XS.icmpNo X0.here hx rfl (hb hby d2_89) rfl (tlt h89).2.2.2 ?_
      exact Bns_18 (hv0.trans (if_pos h89))
    · refine XS.icmpYes X0.here hx rfl (pc0 := 89) (pc' := 197) rfl (hb hby d2_89) rfl (flt h89).2.2.2 (by decide) (by decide) ?_
      exact Bns_1 (hv0.trans (if_neg h89))
  have Bns_20 (hv0 : v_ns_0 = own_ns_0_20 p1) : Steps p.tables e below (s₁.setTop (mkF m 78 #[.val (.int p1)] [])) (s₁.setFrames fs) := by
    show Steps p.tables e below (s₁.setTop (mkF m 78 #[.val (.int p1)] [])) _
    refine XS.iloadN X0.here hx rfl (hb hby d2_78) rfl ?_
    show Steps p.tables e below (s₁.setTop (mkF m 79 #[.val (.int p1)] [(.int p1)])) _
    refine XS.sipush X0.here hx rfl (hb hby d2_79) ?_
    show Steps p.tables e below (s₁.setTop (mkF m 82 #[.val (.int p1)] [(.int (880 : Int32)), (.int p1)])) _
    by_cases h82 : p1 < (880 : Int32)
    · refine XS.icmpYes X0.here hx rfl (pc0 := 82) (pc' := 92) rfl (hb hby d2_82) rfl (tlt h82).1 (by decide) (by decide) ?_
      exact Bns_18 (hv0.trans (if_pos h82))
    · refine XS.icmpNo X0.here hx rfl (hb hby d2_82) rfl (flt h82).1 ?_
      exact Bns_19 (hv0.trans (if_neg h82))
  have Bns_21 (hv0 : v_ns_0 = own_ns_0_21 p1) : Steps p.tables e below (s₁.setTop (mkF m 71 #[.val (.int p1)] [])) (s₁.setFrames fs) := by
    show Steps p.tables e below (s₁.setTop (mkF m 71 #[.val (.int p1)] [])) _
    refine XS.iloadN X0.here hx rfl (hb hby d2_71) rfl ?_
    show Steps p.tables e below (s₁.setTop (mkF m 72 #[.val (.int p1)] [(.int p1)])) _
    refine XS.sipush X0.here hx rfl (hb hby d2_72) ?_
    show Steps p.tables e below (s₁.setTop (mkF m 75 #[.val (.int p1)] [(.int (767 : Int32)), (.int p1)])) _
    by_cases h75 : (767 : Int32) < p1
    · refine XS.icmpNo X0.here hx rfl (hb hby d2_75) rfl (tlt h75).2.2.2 ?_
      exact Bns_20 (hv0.trans (if_pos h75))
    · refine XS.icmpYes X0.here hx rfl (pc0 := 75) (pc' := 197) rfl (hb hby d2_75) rfl (flt h75).2.2.2 (by decide) (by decide) ?_
      exact Bns_1 (hv0.trans (if_neg h75))
  have Bns_22 (hv0 : v_ns_0 = own_ns_0_22 p1) : Steps p.tables e below (s₁.setTop (mkF m 64 #[.val (.int p1)] [])) (s₁.setFrames fs) := by
    show Steps p.tables e below (s₁.setTop (mkF m 64 #[.val (.int p1)] [])) _
    refine XS.iloadN X0.here hx rfl (hb hby d2_64) rfl ?_
    show Steps p.tables e below (s₁.setTop (mkF m 65 #[.val (.int p1)] [(.int p1)])) _
    refine XS.sipush X0.here hx rfl (hb hby d2_65) ?_
    show Steps p.tables e below (s₁.setTop (mkF m 68 #[.val (.int p1)] [(.int (248 : Int32)), (.int p1)])) _
    by_cases h68 : p1 < (248 : Int32)
    · refine XS.icmpYes X0.here hx rfl (pc0 := 68) (pc' := 78) rfl (hb hby d2_68) rfl (tlt h68).1 (by decide) (by decide) ?_
      exact Bns_20 (hv0.trans (if_pos h68))
    · refine XS.icmpNo X0.here hx rfl (hb hby d2_68) rfl (flt h68).1 ?_
      exact Bns_21 (hv0.trans (if_neg h68))
  have Bns_23 (hv0 : v_ns_0 = own_ns_0_23 p1) : Steps p.tables e below (s₁.setTop (mkF m 57 #[.val (.int p1)] [])) (s₁.setFrames fs) := by
    show Steps p.tables e below (s₁.setTop (mkF m 57 #[.val (.int p1)] [])) _
    refine XS.iloadN X0.here hx rfl (hb hby d2_57) rfl ?_
    show Steps p.tables e below (s₁.setTop (mkF m 58 #[.val (.int p1)] [(.int p1)])) _
    refine XS.sipush X0.here hx rfl (hb hby d2_58) ?_
    show Steps p.tables e below (s₁.setTop (mkF m 61 #[.val (.int p1)] [(.int (246 : Int32)), (.int p1)])) _
    by_cases h61 : (246 : Int32) < p1
    · refine XS.icmpNo X0.here hx rfl (hb hby d2_61) rfl (tlt h61).2.2.2 ?_
      exact Bns_22 (hv0.trans (if_pos h61))
    · refine XS.icmpYes X0.here hx rfl (pc0 := 61) (pc' := 197) rfl (hb hby d2_61) rfl (flt h61).2.2.2 (by decide) (by decide) ?_
      exact Bns_1 (hv0.trans (if_neg h61))
  have Bns_24 (hv0 : v_ns_0 = own_ns_0_24 p1) : Steps p.tables e below (s₁.setTop (mkF m 50 #[.val (.int p1)] [])) (s₁.setFrames fs) := by
    show Steps p.tables e below (s₁.setTop (mkF m 50 #[.val (.int p1)] [])) _
    refine XS.iloadN X0.here hx rfl (hb hby d2_50) rfl ?_
    show Steps p.tables e below (s₁.setTop (mkF m 51 #[.val (.int p1)] [(.int p1)])) _
    refine XS.sipush X0.here hx rfl (hb hby d2_51) ?_
    show Steps p.tables e below (s₁.setTop (mkF m 54 #[.val (.int p1)] [(.int (216 : Int32)), (.int p1)])) _
    by_cases h54 : p1 < (216 : Int32)
    · refine XS.icmpYes X0.here hx rfl (pc0 := 54) (pc' := 64) rfl (hb hby d2_54) rfl (tlt h54).1 (by decide) (by decide) ?_
      exact Bns_22 (hv0.trans (if_pos h54))
    · refine XS.icmpNo X0.here hx rfl (hb hby d2_54) rfl (flt h54).1 ?_
      exact Bns_23 (hv0.trans (if_neg h54))
  have Bns_25 (hv0 : v_ns_0 = own_ns_0_25 p1) : Steps p.tables e below (s₁.setTop (mkF m 43 #[.val (.int p1)] [])) (s₁.setFrames fs) := by
    show Steps p.tables e below (s₁.setTop (mkF m 43 #[.val (.int p1)] [])) _
    refine XS.iloadN X0.here hx rfl (hb hby d2_43) rfl ?_
    show Steps p.tables e below (s₁.setTop (mkF m 44 #[.val (.int p1)] [(.int p1)])) _
    refine XS.sipush X0.here hx rfl (hb hby d2_44) ?_
    show Steps p.tables e below (s₁.setTop (mkF m 47 #[.val (.int p1)] [(.int (214 : Int32)), (.int p1)])) _
    by_cases h47 : (214 : Int32) < p1
    · refine XS.icmpNo X0.here hx rfl (hb hby d2_47) rfl (tlt h47).2.2.2 ?_
      exact Bns_24 (hv0.trans (if_pos h47))
    · refine XS.icmpYes X0.here hx rfl (pc0 := 47) (pc' := 197) rfl (hb hby d2_47) rfl (flt h47).2.2.2 (by decide) (by decide) ?_
      exact Bns_1 (hv0.trans (if_neg h47))
  have Bns_26 (hv0 : v_ns_0 = own_ns_0_26 p1) : Steps p.tables e below (s₁.setTop (mkF m 36 #[.val (.int p1)] [])) (s₁.setFrames fs) := by
    show Steps p.tables e below (s₁.setTop (mkF m 36 #[.val (.int p1)] [])) _
    refine XS.iloadN X0.here hx rfl (hb hby d2_36) rfl ?_
    show Steps p.tables e below (s₁.setTop (mkF m 37 #[.val (.int p1)] [(.int p1)])) _
    refine XS.sipush X0.here hx rfl (hb hby d2_37) ?_
    show Steps p.tables e below (s₁.setTop (mkF m 40 #[.val (.int p1)] [(.int (192 : Int32)), (.int p1)])) _
    by_cases h40 : p1 < (192 : Int32)
    · refine XS.icmpYes X0.here hx rfl (pc0 := 40) (pc' := 50) rfl (hb hby d2_40) rfl (tlt h40).1 (by decide) (by decide) ?_
      exact Bns_24 (hv0.trans (if_pos h40))
    · refine XS.icmpNo X0.here hx rfl (hb hby d2_40) rfl (flt h40).1 ?_
      exact Bns_25 (hv0.trans (if_neg h40))
  have Bns_27 (hv0 : v_ns_0 = own_ns_0_27 p1) : Steps p.tables e below (s₁.setTop (mkF m 30 #[.val (.int p1)] [])) (s₁.setFrames fs) := by
    show Steps p.tables e below (s₁.setTop (mkF m 30 #[.val (.int p1)] [])) _
    refine XS.iloadN X0.here hx rfl (hb hby d2_30) rfl ?_
    show Steps p.tables e below (s₁.setTop (mkF m 31 #[.val (.int p1)] [(.int p1)])) _
    refine XS.bipush X0.here hx rfl (hb hby d2_31) ?_
    show Steps p.tables e below (s₁.setTop (mkF m 33 #[.val (.int p1)] [(.int (58 : Int32)), (.int p1)])) _
    by_cases h33 : p1 = (58 : Int32)
    · refine XS.icmpYes X0.here hx rfl (pc0 := 33) (pc' := 197) rfl (hb hby d2_33) rfl (teq h33).1 (by decide) (by decide) ?_
      exact Bns_1 (hv0.trans (if_pos h33))
    · refine XS.icmpNo X0.here hx rfl (hb hby d2_33) rfl (feq h33).1 ?_
      exact Bns_26 (hv0.trans (if_neg h33))
  have Bns_28 (hv0 : v_ns_0 = own_ns_0_28 p1) : Steps p.tables e below (s₁.setTop (mkF m 24 #[.val (.int p1)] [])) (s₁.setFrames fs) := by
    show Steps p.tables e below (s₁.setTop (mkF m 24 #[.val (.int p1)] [])) _
    refine XS.iloadN X0.here hx rfl (hb hby d2_24) rfl ?_
    show Steps p.tables e below (s₁.setTop (mkF m 25 #[.val (.int p1)] [(.int p1)])) _
    refine XS.bipush X0.here hx rfl (hb hby d2_25) ?_
    show Steps p.tables e below (s₁.setTop (mkF m 27 #[.val (.int p1)] [(.int (95 : Int32)), (.int p1)])) _
    by_cases h27 : p1 = (95 : Int32)
    · refine XS.icmpYes X0.here hx rfl (pc0 := 27) (pc' := 197) rfl (hb hby d2_27) rfl (teq h27).1 (by decide) (by decide) ?_
      exact Bns_1 (hv0.trans (if_pos h27))
    · refine XS.icmpNo X0.here hx rfl (hb hby d2_27) rfl (feq h27).1 ?_
      exact Bns_27 (hv0.trans (if_neg h27))
  have Bns_29 (hv0 : v_ns_0 = own_ns_0_29 p1) : Steps p.tables e below (s₁.setTop (mkF m 18 #[.val (.int p1)] [])) (s₁.setFrames fs) := by
    show Steps p.tables e below (s₁.setTop (mkF m 18 #[.val (.int p1)] [])) _
    refine XS.iloadN X0.here hx rfl (hb hby d2_18) rfl ?_
    show Steps p.tables e below (s₁.setTop (mkF m 19 #[.val (.int p1)] [(.int p1)])) _
    refine XS.bipush X0.here hx rfl (hb hby d2_19) ?_
    show Steps p.tables e below (s₁.setTop (mkF m 21 #[.val (.int p1)] [(.int (90 : Int32)), (.int p1)])) _
    by_cases h21 : (90 : Int32) < p1
    · refine XS.icmpNo X0.here hx rfl (hb hby d2_21) rfl (tlt h21).2.2.2 ?_
      exact Bns_28 (hv0.trans (if_pos h21))
    · refine XS.icmpYes X0.here hx rfl (pc0 := 21) (pc' := 197) rfl (hb hby d2_21) rfl (flt h21).2.2.2 (by decide) (by decide) ?_
      exact Bns_1 (hv0.trans (if_neg h21))
  have Bns_30 (hv0 : v_ns_0 = own_ns_0_30 p1) : Steps p.tables e below (s₁.setTop (mkF m 12 #[.val (.int p1)] [])) (s₁.setFrames fs) := by
    show Steps p.tables e below (s₁.setTop (mkF m 12 #[.val (.int p1)] [])) _
    refine XS.iloadN X0.here hx rfl (hb hby d2_12) rfl ?_
    show Steps p.tables e below (s₁.setTop (mkF m 13 #[.val (.int p1)] [(.int p1)])) _
    refine XS.bipush X0.here hx rfl (hb hby d2_13) ?_
    show Steps p.tables e below (s₁.setTop (mkF m 15 #[.val (.int p1)] [(.int (65 : Int32)), (.int p1)])) _
    by_cases h15 : p1 < (65 : Int32)
    · refine XS.icmpYes X0.here hx rfl (pc0 := 15) (pc' := 24) rfl (hb hby d2_15) rfl (tlt h15).1 (by decide) (by decide) ?_
      exact Bns_28 (hv0.trans (if_pos h15))
    · refine XS.icmpNo X0.here hx rfl (hb hby d2_15) rfl (flt h15).1 ?_
      exact Bns_29 (hv0.trans (if_neg h15))
  have Bns_31 (hv0 : v_ns_0 = own_ns_0_31 p1) : Steps p.tables e below (s₁.setTop (mkF m 6 #[.val (.int p1)] [])) (s₁.setFrames fs) := by
    show Steps p.tables e below (s₁.setTop (mkF m 6 #[.val (.int p1)] [])) _
    refine XS.iloadN X0.here hx rfl (hb hby d2_6) rfl ?_
    show Steps p.tables e below (s₁.setTop (mkF m 7 #[.val (.int p1)] [(.int p1)])) _
    refine XS.bipush X0.here hx rfl (hb hby d2_7) ?_
    show Steps p.tables e below (s₁.setTop (mkF m 9 #[.val (.int p1)] [(.int (122 : Int32)), (.int p1)])) _
    by_cases h9 : (122 : Int32) < p1
    · refine XS.icmpNo X0.here hx rfl (hb hby d2_9) rfl (tlt h9).2.2.2 ?_
      exact Bns_30 (hv0.trans (if_pos h9))
    · refine XS.icmpYes X0.here hx rfl (pc0 := 9) (pc' := 197) rfl (hb hby d2_9) rfl (flt h9).2.2.2 (by decide) (by decide) ?_
      exact Bns_1 (hv0.trans (if_neg h9))
  have Bns_32 (hv0 : v_ns_0 = own_ns_0_32 p1) : Steps p.tables e below (s₁.setTop (mkF m 0 #[.val (.int p1)] [])) (s₁.setFrames fs) := by
    show Steps p.tables e below (s₁.setTop (mkF m 0 #[.val (.int p1)] [])) _
    refine XS.iloadN X0.here hx rfl (hb hby d2_0) rfl ?_
    show Steps p.tables e below (s₁.setTop (mkF m 1 #[.val (.int p1)] [(.int p1)])) _
    refine XS.bipush X0.here hx rfl (hb hby d2_1) ?_
    show Steps p.tables e below (s₁.setTop (mkF m 3 #[.val (.int p1)] [(.int (97 : Int32)), (.int p1)])) _
    by_cases h3 : p1 < (97 : Int32)
    · refine XS.icmpYes X0.here hx rfl (pc0 := 3) (pc' := 12) rfl (hb hby d2_3) rfl (tlt h3).1 (by decide) (by decide) ?_
      exact Bns_30 (hv0.trans (if_pos h3))
    · refine XS.icmpNo X0.here hx rfl (hb hby d2_3) rfl (flt h3).1 ?_
      exact Bns_31 (hv0.trans (if_neg h3))
  have pre1 : Steps p.tables e below _ (s₁.setFrames fs) := pre0.trans (Bns_32 h_v_ns_0)
  refine ⟨_, _, pre1, hrun, hended, _, _, rfl, ?_, ⟨_, rfl⟩, hW, hsame.mono (by decide) (by decide)⟩
  exact ⟨by rw [h_v_ns_0], N0, e0⟩
theorem d4_0 : decode method_2_code 0 = .ok (.iload_n 0, 1) := by decide +kernel
theorem d4_1 : decode method_2_code 1 = .ok (.iload_n 1, 1) := by decide +kernel
theorem d4_2 : decode method_2_code 2 = .ok (.if_icmp .lt 12, 3) := by decide +kernel
theorem d4_5 : decode method_2_code 5 = .ok (.iload_n 0, 1) := by decide +kernel
theorem d4_6 : decode method_2_code 6 = .ok (.iload_n 2, 1) := by decide +kernel
theorem d4_7 : decode method_2_code 7 = .ok (.if_icmp .gt 7, 3) := by decide +kernel
theorem d4_10 : decode method_2_code 10 = .ok (.iconst 1, 1) := by decide +kernel
theorem d4_11 : decode method_2_code 11 = .ok (.goto 4, 3) := by decide +kernel
theorem d4_14 : decode method_2_code 14 = .ok (.iconst 0, 1) := by decide +kernel
theorem d4_15 : decode method_2_code 15 = .ok (.ireturn, 1) := by decide +kernel
theorem pn_rmI : plainName "com/example/summarium/summarium/cda/XmlNamesIsNameCharPinLaw" = true := by first | (simp [plainName, overriddenIn]; done) | decide +kernel
theorem ef_rmI (m : MethodId) (p1 : Int32) (p2 : Int32) (p3 : Int32) : entryFrame m #[(.int p1), (.int p2), (.int p3)] 3 = (mkF m 0 #[.val (.int p1), .val (.int p2), .val (.int p3)] []) := by first | (simp [entryFrame, mkF, argsToLocals, Value.category]; done) | rfl
def own_in_0_1 (p1 : Int32) (p2 : Int32) (p3 : Int32) : Int32 := (0 : Int32)
def own_in_0_2 (p1 : Int32) (p2 : Int32) (p3 : Int32) : Int32 := (1 : Int32)
def own_in_0_3 (p1 : Int32) (p2 : Int32) (p3 : Int32) : Int32 := if p3 < p1 then own_in_0_1 p1 p2 p3 else own_in_0_2 p1 p2 p3
def own_in_0_4 (p1 : Int32) (p2 : Int32) (p3 : Int32) : Int32 := if p1 < p2 then own_in_0_1 p1 p2 p3 else own_in_0_3 p1 p2 p3
def Q_rmI (Z : State) (p1 : Int32) (p2 : Int32) (p3 : Int32)  (h0 : Heap) (n0 : Nat) (v : Option Value) (h : Heap) (L : List Loc) : Prop := v = some (.int (own_in_0_4 p1 p2 p3)) ∧ Fr n0 L ∧ h = h0
set_option maxRecDepth 65536 in
set_option maxHeartbeats 40000000 in
theorem rmI (l : Launch) (Z : State) (a0 : Array Value) (hw : ∀ d ∈ tables_1, d.before a0 Z = true) (ws : List Jvm.Cond) (p1 : Int32) (p2 : Int32) (p3 : Int32)  (h0 : Heap) (n0 : Nat) (Z0 : n0 ≤ h0.size)  :
    MetFree l (⟨"com/example/summarium/summarium/cda/XmlNamesIsNameCharPinLaw", "in", "(III)Z"⟩ : MethodName) (head1 (Jvm.Cond.code (⟨"com/example/summarium/summarium/cda/XmlNamesIsNameCharPinLaw", "in", "(III)Z"⟩ : MethodName) method_2_code 3 (some .boolean) :: ws) ({ frames := 0, cells := 0, slots := 0, locals := 0 } : Room)) (fun a U => a = #[(.int p1), (.int p2), (.int p3)] ∧ Z.Warmed39 U.vm ∧ U.heap = h0) (fun _ _ _ _ _ => True) (fun _ U o U' => ∃ v L, o = .returned v ∧ Q_rmI Z p1 p2 p3 h0 n0 v U'.heap L ∧ FrameEnd U o U' L ({ frames := 0, cells := 0, slots := 0, locals := 0 } : Room).cells ({ frames := 0, cells := 0, slots := 0, locals := 0 } : Room).slots) := by
  refine MetFree.of_bodySF (plainFor_of_name pn_rmI) hisR ?_
  intro p e s m args below meth c s₁ Bd hml0 hP hK
  obtain ⟨rfl, hZ, hh⟩ := hP
  have hx := Bd.exec
  have hby := Bd.bytes
  have hml : c.maxLocals = 3 := hml0
  have hown : s.vm.findClass "com/example/summarium/summarium/cda/XmlNamesIsNameCharPinLaw" = some m.cls := findClass_of_methodNamed Bd.named
  have hnm := (name_of_methodNamed Bd.named Bd.method).1
  have X0 : Stand p l e ({ frames := 0, cells := 0, slots := 0, locals := 0 } : Room) s m #[(.int p1), (.int p2), (.int p3)] below meth c s₁ [] 0 0 := Stand.of_body Bd
  have e0 : s₁.heap = h0 := by rw [← hh, Bd.state]; rfl
  have N0 := Fr.nil n0
  have pre0 : Steps p.tables e below (s₁.setTop (entryFrame m #[(.int p1), (.int p2), (.int p3)] 3)) (s₁.setTop (mkF m 0 #[.val (.int p1), .val (.int p2), .val (.int p3)] [])) := castTop (ef_rmI m p1 p2 p3) (Steps.refl _)
  obtain ⟨v_in_0, h_v_in_0⟩ : ∃ z, z = own_in_0_4 p1 p2 p3 := ⟨_, rfl⟩
  obtain ⟨fs, hr, hrun, hended, hW, hsame⟩ := X0.leave (v := some (.int v_in_0)) (fun h => by rw [Bd.returns] at h; cases h)
  have Bin_1 (hv0 : v_in_0 = own_in_0_1 p1 p2 p3) : Steps p.tables e below (s₁.setTop (mkF m 14 #[.val (.int p1), .val (.int p2), .val (.int p3)] [])) (s₁.setFrames fs) := by
    have hw0 : v_in_0 = (0 : Int32) := hv0
    rw [hw0] at hr
    show Steps p.tables e below (s₁.setTop (mkF m 14 #[.val (.int p1), .val (.int p2), .val (.int p3)] [])) _
    refine XS.iconst X0.here hx rfl (hb hby d4_14) ?_
    show Steps p.tables e below (s₁.setTop (mkF m 15 #[.val (.int p1), .val (.int p2), .val (.int p3)] [(.int (0 : Int32))])) _
    exact retN X0 hx (t := .boolean) Bd.returns (by simp) (hb hby d4_15) hr
  have Bin_2 (hv0 : v_in_0 = own_in_0_2 p1 p2 p3) : Steps p.tables e below (s₁.setTop (mkF m 10 #[.val (.int p1), .val (.int p2), .val (.int p3)] [])) (s₁.setFrames fs) := by
    have hw0 : v_in_0 = (1 : Int32) := hv0
    rw [hw0] at hr
    show Steps p.tables e below (s₁.setTop (mkF m 10 #[.val (.int p1), .val (.int p2), .val (.int p3)] [])) _
    refine XS.iconst X0.here hx rfl (hb hby d4_10) ?_
    show Steps p.tables e below (s₁.setTop (mkF m 11 #[.val (.int p1), .val (.int p2), .val (.int p3)] [(.int (1 : Int32))])) _
    refine XS.goto X0.here hx rfl (pc0 := 11) (pc' := 15) rfl (hb hby d4_11) (by decide) (by decide) ?_
    show Steps p.tables e below (s₁.setTop (mkF m 15 #[.val (.int p1), .val (.int p2), .val (.int p3)] [(.int (1 : Int32))])) _
    exact retN X0 hx (t := .boolean) Bd.returns (by simp) (hb hby d4_15) hr
  have Bin_3 (hv0 : v_in_0 = own_in_0_3 p1 p2 p3) : Steps p.tables e below (s₁.setTop (mkF m 5 #[.val (.int p1), .val (.int p2), .val (.int p3)] [])) (s₁.setFrames fs) := by
    show Steps p.tables e below (s₁.setTop (mkF m 5 #[.val (.int p1), .val (.int p2), .val (.int p3)] [])) _
    refine XS.iloadN X0.here hx rfl (hb hby d4_5) rfl ?_
    show Steps p.tables e below (s₁.setTop (mkF m 6 #[.val (.int p1), .val (.int p2), .val (.int p3)] [(.int p1)])) _
    refine XS.iloadN X0.here hx rfl (hb hby d4_6) rfl ?_
    show Steps p.tables e below (s₁.setTop (mkF m 7 #[.val (.int p1), .val (.int p2), .val (.int p3)] [(.int p3), (.int p1)])) _
    by_cases h7 : p3 < p1
    · refine XS.icmpYes X0.here hx rfl (pc0 := 7) (pc' := 14) rfl (hb hby d4_7) rfl (tlt h7).2.2.1 (by decide) (by decide) ?_
      exact Bin_1 (hv0.trans (if_pos h7))
    · refine XS.icmpNo X0.here hx rfl (hb hby d4_7) rfl (flt h7).2.2.1 ?_
      exact Bin_2 (hv0.trans (if_neg h7))
  have Bin_4 (hv0 : v_in_0 = own_in_0_4 p1 p2 p3) : Steps p.tables e below (s₁.setTop (mkF m 0 #[.val (.int p1), .val (.int p2), .val (.int p3)] [])) (s₁.setFrames fs) := by
    show Steps p.tables e below (s₁.setTop (mkF m 0 #[.val (.int p1), .val (.int p2), .val (.int p3)] [])) _
    refine XS.iloadN X0.here hx rfl (hb hby d4_0) rfl ?_
    show Steps p.tables e below (s₁.setTop (mkF m 1 #[.val (.int p1), .val (.int p2), .val (.int p3)] [(.int p1)])) _
    refine XS.iloadN X0.here hx rfl (hb hby d4_1) rfl ?_
    show Steps p.tables e below (s₁.setTop (mkF m 2 #[.val (.int p1), .val (.int p2), .val (.int p3)] [(.int p2), (.int p1)])) _
    by_cases h2 : p1 < p2
    · refine XS.icmpYes X0.here hx rfl (pc0 := 2) (pc' := 14) rfl (hb hby d4_2) rfl (tlt h2).1 (by decide) (by decide) ?_
      exact Bin_1 (hv0.trans (if_pos h2))
    · refine XS.icmpNo X0.here hx rfl (hb hby d4_2) rfl (flt h2).1 ?_
      exact Bin_3 (hv0.trans (if_neg h2))
  have pre1 : Steps p.tables e below _ (s₁.setFrames fs) := pre0.trans (Bin_4 h_v_in_0)
  refine ⟨_, _, pre1, hrun, hended, _, _, rfl, ?_, ⟨_, rfl⟩, hW, hsame.mono (by decide) (by decide)⟩
  exact ⟨by rw [h_v_in_0], N0, e0⟩
theorem d1_0 : decode prog_60_method_3_code 0 = .ok (.iload_n 0, 1) := by decide +kernel
theorem d1_1 : decode prog_60_method_3_code 1 = .ok (.invokestatic 14, 3) := by decide +kernel
theorem d1_4 : decode prog_60_method_3_code 4 = .ok (.ifCond .ne 62, 3) := by decide +kernel
theorem d1_7 : decode prog_60_method_3_code 7 = .ok (.iload_n 0, 1) := by decide +kernel
theorem d1_8 : decode prog_60_method_3_code 8 = .ok (.bipush 45, 2) := by decide +kernel
theorem d1_10 : decode prog_60_method_3_code 10 = .ok (.if_icmp .eq 56, 3) := by decide +kernel
theorem d1_13 : decode prog_60_method_3_code 13 = .ok (.iload_n 0, 1) := by decide +kernel
theorem d1_14 : decode prog_60_method_3_code 14 = .ok (.bipush 46, 2) := by decide +kernel
theorem d1_16 : decode prog_60_method_3_code 16 = .ok (.if_icmp .eq 50, 3) := by decide +kernel
theorem d1_19 : decode prog_60_method_3_code 19 = .ok (.iload_n 0, 1) := by decide +kernel
theorem d1_20 : decode prog_60_method_3_code 20 = .ok (.bipush 48, 2) := by decide +kernel
theorem d1_22 : decode prog_60_method_3_code 22 = .ok (.if_icmp .lt 9, 3) := by decide +kernel
theorem d1_25 : decode prog_60_method_3_code 25 = .ok (.iload_n 0, 1) := by decide +kernel
theorem d1_26 : decode prog_60_method_3_code 26 = .ok (.bipush 57, 2) := by decide +kernel
theorem d1_28 : decode prog_60_method_3_code 28 = .ok (.if_icmp .le 38, 3) := by decide +kernel
theorem d1_31 : decode prog_60_method_3_code 31 = .ok (.iload_n 0, 1) := by decide +kernel
theorem d1_32 : decode prog_60_method_3_code 32 = .ok (.sipush 183, 3) := by decide +kernel
theorem d1_35 : decode prog_60_method_3_code 35 = .ok (.if_icmp .eq 31, 3) := by decide +kernel
theorem d1_38 : decode prog_60_method_3_code 38 = .ok (.iload_n 0, 1) := by decide +kernel
theorem d1_39 : decode prog_60_method_3_code 39 = .ok (.sipush 768, 3) := by decide +kernel
theorem d1_42 : decode prog_60_method_3_code 42 = .ok (.if_icmp .lt 10, 3) := by decide +kernel
theorem d1_45 : decode prog_60_method_3_code 45 = .ok (.iload_n 0, 1) := by decide +kernel
theorem d1_46 : decode prog_60_method_3_code 46 = .ok (.sipush 879, 3) := by decide +kernel
theorem d1_49 : decode prog_60_method_3_code 49 = .ok (.if_icmp .le 17, 3) := by decide +kernel
theorem d1_52 : decode prog_60_method_3_code 52 = .ok (.iload_n 0, 1) := by decide +kernel
theorem d1_53 : decode prog_60_method_3_code 53 = .ok (.sipush 8255, 3) := by decide +kernel
theorem d1_56 : decode prog_60_method_3_code 56 = .ok (.if_icmp .eq 10, 3) := by decide +kernel
theorem d1_59 : decode prog_60_method_3_code 59 = .ok (.iload_n 0, 1) := by decide +kernel
theorem d1_60 : decode prog_60_method_3_code 60 = .ok (.sipush 8256, 3) := by decide +kernel
theorem d1_63 : decode prog_60_method_3_code 63 = .ok (.if_icmp .ne 7, 3) := by decide +kernel
theorem d1_66 : decode prog_60_method_3_code 66 = .ok (.iconst 1, 1) := by decide +kernel
theorem d1_67 : decode prog_60_method_3_code 67 = .ok (.goto 4, 3) := by decide +kernel
theorem d1_70 : decode prog_60_method_3_code 70 = .ok (.iconst 0, 1) := by decide +kernel
theorem d1_71 : decode prog_60_method_3_code 71 = .ok (.ireturn, 1) := by decide +kernel
theorem pn_rmC : plainName "com/example/summarium/summarium/cda/XmlNames" = true := by first | (simp [plainName, overriddenIn]; done) | decide +kernel
theorem pd_rmC_0 : parseMethodDescriptor "(I)Z" = some ⟨[.int], some .boolean⟩ := by decide +kernel
theorem ef_rmC (m : MethodId) (p1 : Int32) : entryFrame m #[(.int p1)] 1 = (mkF m 0 #[.val (.int p1)] []) := by first | (simp [entryFrame, mkF, argsToLocals, Value.category]; done) | rfl
def own_nc_0_1 (p1 : Int32) : Int32 := (1 : Int32)
def own_nc_0_2 (p1 : Int32) : Int32 := (0 : Int32)
def own_nc_0_3 (p1 : Int32) : Int32 := if p1 = (8256 : Int32) then own_nc_0_1 p1 else own_nc_0_2 p1
def own_nc_0_4 (p1 : Int32) : Int32 := if p1 = (8255 : Int32) then own_nc_0_1 p1 else own_nc_0_3 p1
def own_nc_0_5 (p1 : Int32) : Int32 := if (879 : Int32) < p1 then own_nc_0_4 p1 else own_nc_0_1 p1
def own_nc_0_6 (p1 : Int32) : Int32 := if p1 < (768 : Int32) then own_nc_0_4 p1 else own_nc_0_5 p1
def own_nc_0_7 (p1 : Int32) : Int32 := if p1 = (183 : Int32) then own_nc_0_1 p1 else own_nc_0_6 p1
def own_nc_0_8 (p1 : Int32) : Int32 := if (57 : Int32) < p1 then own_nc_0_7 p1 else own_nc_0_1 p1
def own_nc_0_9 (p1 : Int32) : Int32 := if p1 < (48 : Int32) then own_nc_0_7 p1 else own_nc_0_8 p1
def own_nc_0_10 (p1 : Int32) : Int32 := if p1 = (46 : Int32) then own_nc_0_1 p1 else own_nc_0_9 p1
def own_nc_0_11 (p1 : Int32) : Int32 := if p1 = (45 : Int32) then own_nc_0_1 p1 else own_nc_0_10 p1
def own_nc_0_12 (p1 : Int32) : Int32 := if (own_ns_0_32 p1) = (0 : Int32) then own_nc_0_11 p1 else own_nc_0_1 p1
def Q_rmC (Z : State) (p1 : Int32)  (h0 : Heap) (n0 : Nat) (v : Option Value) (h : Heap) (L : List Loc) : Prop := v = some (.int (own_nc_0_12 p1)) ∧ Fr n0 L ∧ h = h0
set_option maxRecDepth 65536 in
set_option maxHeartbeats 40000000 in
theorem rmC (l : Launch) (Z : State) (a0 : Array Value) (hw : ∀ d ∈ tables_1, d.before a0 Z = true) (ws : List Jvm.Cond) (p1 : Int32)  (h0 : Heap) (n0 : Nat) (Z0 : n0 ≤ h0.size)  :
    MetFree l (⟨"com/example/summarium/summarium/cda/XmlNames", "isNameChar", "(I)Z"⟩ : MethodName) (head1 (Jvm.Cond.code (⟨"com/example/summarium/summarium/cda/XmlNames", "isNameChar", "(I)Z"⟩ : MethodName) prog_60_method_3_code 1 (some .boolean) :: ws) ({ frames := 1, cells := 0, slots := 0, locals := 12 } : Room)) (fun a U => a = #[(.int p1)] ∧ Z.Warmed39 U.vm ∧ U.heap = h0) (fun _ _ _ _ _ => True) (fun _ U o U' => ∃ v L, o = .returned v ∧ Q_rmC Z p1 h0 n0 v U'.heap L ∧ FrameEnd U o U' L ({ frames := 1, cells := 0, slots := 0, locals := 12 } : Room).cells ({ frames := 1, cells := 0, slots := 0, locals := 12 } : Room).slots) := by
  refine MetFree.of_bodySF (plainFor_of_name pn_rmC) hisR ?_
  intro p e s m args below meth c s₁ Bd hml0 hP hK
  obtain ⟨rfl, hZ, hh⟩ := hP
  have hx := Bd.exec
  have hby := Bd.bytes
  have hml : c.maxLocals = 1 := hml0
  have hown : s.vm.findClass "com/example/summarium/summarium/cda/XmlNames" = some m.cls := findClass_of_methodNamed Bd.named
  have hnm := (name_of_methodNamed Bd.named Bd.method).1
  have X0 : Stand p l e ({ frames := 1, cells := 0, slots := 0, locals := 12 } : Room) s m #[(.int p1)] below meth c s₁ [] 0 0 := Stand.of_body Bd
  have e0 : s₁.heap = h0 := by rw [← hh, Bd.state]; rfl
  have N0 := Fr.nil n0
  have pre0 : Steps p.tables e below (s₁.setTop (entryFrame m #[(.int p1)] 1)) (s₁.setTop (mkF m 0 #[.val (.int p1)] [])) := castTop (ef_rmC m p1) (Steps.refl _)
  have pre1 : Steps p.tables e below _ (s₁.setTop (mkF m 1 #[.val (.int p1)] [(.int p1)])) := pre0.trans (by
    show Steps p.tables e below (s₁.setTop (mkF m 0 #[.val (.int p1)] [])) _
    refine XS.iloadN X0.here hx rfl (hb hby d1_0) rfl ?_
    exact Steps.refl _)
  obtain ⟨_, _, ⟨T2, L2, k2, n2⟩, -, X2, ⟨Lc2, hQ2, l2, y2, z2⟩, st2⟩ := Jvm.LawKit.callS X0 hx (y := (⟨"com/example/summarium/summarium/cda/XmlNames", "isNameStart", "(I)Z"⟩ : MethodName)) hown (mvT hZ (hw _ (List.mem_of_getElem? (i := 14) rfl))) (mvT hZ (hw _ (List.mem_of_getElem? (i := 15) rfl))) (mvT hZ (hw _ (List.mem_of_getElem? (i := 12) rfl))) (mvT hZ (hw _ (List.mem_of_getElem? (i := 16) rfl))) (by decide) (backOf (W := 0) (rmS l Z a0 hw [] p1 h0 n0 Z0) hZ (hw _ (List.mem_of_getElem? (i := 16) rfl)) (hw _ (List.mem_of_getElem? (i := 12) rfl)) (by decide) (by decide)) (g := (mkF m 1 #[.val (.int p1)] [(.int p1)])) rfl (by rw [hml]; rfl) (argsL := [(.int p1)]) (rest := []) (lenOf pd_rmC_0 rfl) rfl (by show 2 * 0 + _ ≤ _; exact Nat.le_of_eq rfl) (hb hby d1_1) (fun _ _ => ⟨rfl, e0, (by decide : 0 + 0 ≤ _), (by decide : 0 + 0 ≤ _)⟩)
  dsimp only [Pt.U, Pt.locs, Pt.cells, Pt.slots] at X2 l2 y2 z2 st2 hQ2
  subst l2 y2 z2
  obtain ⟨rfl, N2q, hh2⟩ := hQ2
  have N2 := Fr.app N0 N2q
  have pre2 : Steps p.tables e below _ (T2.setTop (mkF m 4 #[.val (.int p1)] [(.int (own_ns_0_32 p1))])) := pre1.trans (st2 _ (Steps.refl _))
  obtain ⟨v_nc_0, h_v_nc_0⟩ : ∃ z, z = own_nc_0_12 p1 := ⟨_, rfl⟩
  obtain ⟨fs, hr, hrun, hended, hW, hsame⟩ := X2.leave (v := some (.int v_nc_0)) (fun h => by rw [Bd.returns] at h; cases h)
  have Bnc_1 (hv0 : v_nc_0 = own_nc_0_1 p1) : Steps p.tables e below (T2.setTop (mkF m 66 #[.val (.int p1)] [])) (T2.setFrames fs) := by
    have hw0 : v_nc_0 = (1 : Int32) := hv0
    rw [hw0] at hr
    show Steps p.tables e below (T2.setTop (mkF m 66 #[.val (.int p1)] [])) _
    refine XS.iconst X2.here hx rfl (hb hby d1_66) ?_
    show Steps p.tables e below (T2.setTop (mkF m 67 #[.val (.int p1)] [(.int (1 : Int32))])) _
    refine XS.goto X2.here hx rfl (pc0 := 67) (pc' := 71) rfl (hb hby d1_67) (by decide) (by decide) ?_
    show Steps p.tables e below (T2.setTop (mkF m 71 #[.val (.int p1)] [(.int (1 : Int32))])) _
    exact retN X2 hx (t := .boolean) Bd.returns (by simp) (hb hby d1_71) hr
  have Bnc_2 (hv0 : v_nc_0 = own_nc_0_2 p1) : Steps p.tables e below (T2.setTop (mkF m 70 #[.val (.int p1)] [])) (T2.setFrames fs) := by
    have hw0 : v_nc_0 = (0 : Int32) := hv0
    rw [hw0] at hr
    show Steps p.tables e below (T2.setTop (mkF m 70 #[.val (.int p1)] [])) _
    refine XS.iconst X2.here hx rfl (hb hby d1_70) ?_
    show Steps p.tables e below (T2.setTop (mkF m 71 #[.val (.int p1)] [(.int (0 : Int32))])) _
    exact retN X2 hx (t := .boolean) Bd.returns (by simp) (hb hby d1_71) hr
  have Bnc_3 (hv0 : v_nc_0 = own_nc_0_3 p1) : Steps p.tables e below (T2.setTop (mkF m 59 #[.val (.int p1)] [])) (T2.setFrames fs) := by
    show Steps p.tables e below (T2.setTop (mkF m 59 #[.val (.int p1)] [])) _
    refine XS.iloadN X2.here hx rfl (hb hby d1_59) rfl ?_
    show Steps p.tables e below (T2.setTop (mkF m 60 #[.val (.int p1)] [(.int p1)])) _
    refine XS.sipush X2.here hx rfl (hb hby d1_60) ?_
    show Steps p.tables e below (T2.setTop (mkF m 63 #[.val (.int p1)] [(.int (8256 : Int32)), (.int p1)])) _
    by_cases h63 : p1 = (8256 : Int32)
    · refine XS.icmpNo X2.here hx rfl (hb hby d1_63) rfl (teq h63).2 ?_
      exact Bnc_1 (hv0.trans (if_pos h63))
    · refine XS.icmpYes X2.here hx rfl (pc0 := 63) (pc' := 70) rfl (hb hby d1_63) rfl (feq h63).2 (by decide) (by decide) ?_
      exact Bnc_2 (hv0.trans (if_neg h63))
  have Bnc_4 (hv0 : v_nc_0 = own_nc_0_4 p1) : Steps p.tables e below (T2.setTop (mkF m 52 #[.val (.int p1)] [])) (T2.setFrames fs) := by
    show Steps p.tables e below (T2.setTop (mkF m 52 #[.val (.int p1)] [])) _
    refine XS.iloadN X2.here hx rfl (hb hby d1_52) rfl ?_
    show Steps p.tables e below (T2.setTop (mkF m 53 #[.val (.int p1)] [(.int p1)])) _
    refine XS.sipush X2.here hx rfl (hb hby d1_53) ?_
    show Steps p.tables e below (T2.setTop (mkF m 56 #[.val (.int p1)] [(.int (8255 : Int32)), (.int p1)])) _
    by_cases h56 : p1 = (8255 : Int32)
    · refine XS.icmpYes X2.here hx rfl (pc0 := 56) (pc' := 66) rfl (hb hby d1_56) rfl (teq h56).1 (by decide) (by decide) ?_
      exact Bnc_1 (hv0.trans (if_pos h56))
    · refine XS.icmpNo X2.here hx rfl (hb hby d1_56) rfl (feq h56).1 ?_
      exact Bnc_3 (hv0.trans (if_neg h56))
  have Bnc_5 (hv0 : v_nc_0 = own_nc_0_5 p1) : Steps p.tables e below (T2.setTop (mkF m 45 #[.val (.int p1)] [])) (T2.setFrames fs) := by
    show Steps p.tables e below (T2.setTop (mkF m 45 #[.val (.int p1)] [])) _
    refine XS.iloadN X2.here hx rfl (hb hby d1_45) rfl ?_
    show Steps p.tables e below (T2.setTop (mkF m 46 #[.val (.int p1)] [(.int p1)])) _
    refine XS.sipush X2.here hx rfl (hb hby d1_46) ?_
    show Steps p.tables e below (T2.setTop (mkF m 49 #[.val (.int p1)] [(.int (879 : Int32)), (.int p1)])) _
    by_cases h49 : (879 : Int32) < p1
    · refine XS.icmpNo X2.here hx rfl (hb hby d1_49) rfl (tlt h49).2.2.2 ?_
      exact Bnc_4 (hv0.trans (if_pos h49))
    · refine XS.icmpYes X2.here hx rfl (pc0 := 49) (pc' := 66) rfl (hb hby d1_49) rfl (flt h49).2.2.2 (by decide) (by decide) ?_
      exact Bnc_1 (hv0.trans (if_neg h49))
  have Bnc_6 (hv0 : v_nc_0 = own_nc_0_6 p1) : Steps p.tables e below (T2.setTop (mkF m 38 #[.val (.int p1)] [])) (T2.setFrames fs) := by
    show Steps p.tables e below (T2.setTop (mkF m 38 #[.val (.int p1)] [])) _
    refine XS.iloadN X2.here hx rfl (hb hby d1_38) rfl ?_
    show Steps p.tables e below (T2.setTop (mkF m 39 #[.val (.int p1)] [(.int p1)])) _
    refine XS.sipush X2.here hx rfl (hb hby d1_39) ?_
    show Steps p.tables e below (T2.setTop (mkF m 42 #[.val (.int p1)] [(.int (768 : Int32)), (.int p1)])) _
    by_cases h42 : p1 < (768 : Int32)
    · refine XS.icmpYes X2.here hx rfl (pc0 := 42) (pc' := 52) rfl (hb hby d1_42) rfl (tlt h42).1 (by decide) (by decide) ?_
      exact Bnc_4 (hv0.trans (if_pos h42))
    · refine XS.icmpNo X2.here hx rfl (hb hby d1_42) rfl (flt h42).1 ?_
      exact Bnc_5 (hv0.trans (if_neg h42))
  have Bnc_7 (hv0 : v_nc_0 = own_nc_0_7 p1) : Steps p.tables e below (T2.setTop (mkF m 31 #[.val (.int p1)] [])) (T2.setFrames fs) := by
    show Steps p.tables e below (T2.setTop (mkF m 31 #[.val (.int p1)] [])) _
    refine XS.iloadN X2.here hx rfl (hb hby d1_31) rfl ?_
    show Steps p.tables e below (T2.setTop (mkF m 32 #[.val (.int p1)] [(.int p1)])) _
    refine XS.sipush X2.here hx rfl (hb hby d1_32) ?_
    show Steps p.tables e below (T2.setTop (mkF m 35 #[.val (.int p1)] [(.int (183 : Int32)), (.int p1)])) _
    by_cases h35 : p1 = (183 : Int32)
    · refine XS.icmpYes X2.here hx rfl (pc0 := 35) (pc' := 66) rfl (hb hby d1_35) rfl (teq h35).1 (by decide) (by decide) ?_
      exact Bnc_1 (hv0.trans (if_pos h35))
    · refine XS.icmpNo X2.here hx rfl (hb hby d1_35) rfl (feq h35).1 ?_
      exact Bnc_6 (hv0.trans (if_neg h35))
  have Bnc_8 (hv0 : v_nc_0 = own_nc_0_8 p1) : Steps p.tables e below (T2.setTop (mkF m 25 #[.val (.int p1)] [])) (T2.setFrames fs) := by
    show Steps p.tables e below (T2.setTop (mkF m 25 #[.val (.int p1)] [])) _
    refine XS.iloadN X2.here hx rfl (hb hby d1_25) rfl ?_
    show Steps p.tables e below (T2.setTop (mkF m 26 #[.val (.int p1)] [(.int p1)])) _
    refine XS.bipush X2.here hx rfl (hb hby d1_26) ?_
    show Steps p.tables e below (T2.setTop (mkF m 28 #[.val (.int p1)] [(.int (57 : Int32)), (.int p1)])) _
    by_cases h28 : (57 : Int32) < p1
    · refine XS.icmpNo X2.here hx rfl (hb hby d1_28) rfl (tlt h28).2.2.2 ?_
      exact Bnc_7 (hv0.trans (if_pos h28))
    · refine XS.icmpYes X2.here hx rfl (pc0 := 28) (pc' := 66) rfl (hb hby d1_28) rfl (flt h28).2.2.2 (by decide) (by decide) ?_
      exact Bnc_1 (hv0.trans (if_neg h28))
  have Bnc_9 (hv0 : v_nc_0 = own_nc_0_9 p1) : Steps p.tables e below (T2.setTop (mkF m 19 #[.val (.int p1)] [])) (T2.setFrames fs) := by
    show Steps p.tables e below (T2.setTop (mkF m 19 #[.val (.int p1)] [])) _
    refine XS.iloadN X2.here hx rfl (hb hby d1_19) rfl ?_
    show Steps p.tables e below (T2.setTop (mkF m 20 #[.val (.int p1)] [(.int p1)])) _
    refine XS.bipush X2.here hx rfl (hb hby d1_20) ?_
    show Steps p.tables e below (T2.setTop (mkF m 22 #[.val (.int p1)] [(.int (48 : Int32)), (.int p1)])) _
    by_cases h22 : p1 < (48 : Int32)
    · refine XS.icmpYes X2.here hx rfl (pc0 := 22) (pc' := 31) rfl (hb hby d1_22) rfl (tlt h22).1 (by decide) (by decide) ?_
      exact Bnc_7 (hv0.trans (if_pos h22))
    · refine XS.icmpNo X2.here hx rfl (hb hby d1_22) rfl (flt h22).1 ?_
      exact Bnc_8 (hv0.trans (if_neg h22))
  have Bnc_10 (hv0 : v_nc_0 = own_nc_0_10 p1) : Steps p.tables e below (T2.setTop (mkF m 13 #[.val (.int p1)] [])) (T2.setFrames fs) := by
    show Steps p.tables e below (T2.setTop (mkF m 13 #[.val (.int p1)] [])) _
    refine XS.iloadN X2.here hx rfl (hb hby d1_13) rfl ?_
    show Steps p.tables e below (T2.setTop (mkF m 14 #[.val (.int p1)] [(.int p1)])) _
    refine XS.bipush X2.here hx rfl (hb hby d1_14) ?_
    show Steps p.tables e below (T2.setTop (mkF m 16 #[.val (.int p1)] [(.int (46 : Int32)), (.int p1)])) _
    by_cases h16 : p1 = (46 : Int32)
    · refine XS.icmpYes X2.here hx rfl (pc0 := 16) (pc' := 66) rfl (hb hby d1_16) rfl (teq h16).1 (by decide) (by decide) ?_
      exact Bnc_1 (hv0.trans (if_pos h16))
    · refine XS.icmpNo X2.here hx rfl (hb hby d1_16) rfl (feq h16).1 ?_
      exact Bnc_9 (hv0.trans (if_neg h16))
  have Bnc_11 (hv0 : v_nc_0 = own_nc_0_11 p1) : Steps p.tables e below (T2.setTop (mkF m 7 #[.val (.int p1)] [])) (T2.setFrames fs) := by
    show Steps p.tables e below (T2.setTop (mkF m 7 #[.val (.int p1)] [])) _
    refine XS.iloadN X2.here hx rfl (hb hby d1_7) rfl ?_
    show Steps p.tables e below (T2.setTop (mkF m 8 #[.val (.int p1)] [(.int p1)])) _
    refine XS.bipush X2.here hx rfl (hb hby d1_8) ?_
    show Steps p.tables e below (T2.setTop (mkF m 10 #[.val (.int p1)] [(.int (45 : Int32)), (.int p1)])) _
    by_cases h10 : p1 = (45 : Int32)
    · refine XS.icmpYes X2.here hx rfl (pc0 := 10) (pc' := 66) rfl (hb hby d1_10) rfl (teq h10).1 (by decide) (by decide) ?_
      exact Bnc_1 (hv0.trans (if_pos h10))
    · refine XS.icmpNo X2.here hx rfl (hb hby d1_10) rfl (feq h10).1 ?_
      exact Bnc_10 (hv0.trans (if_neg h10))
  have Bnc_12 (hv0 : v_nc_0 = own_nc_0_12 p1) : Steps p.tables e below (T2.setTop (mkF m 4 #[.val (.int p1)] [(.int (own_ns_0_32 p1))])) (T2.setFrames fs) := by
    show Steps p.tables e below (T2.setTop (mkF m 4 #[.val (.int p1)] [(.int (own_ns_0_32 p1))])) _
    by_cases h4 : (own_ns_0_32 p1) = (0 : Int32)
    · refine XS.ifNo X2.here hx rfl (hb hby d1_4) rfl ((if0 _ _).trans (teq h4).2) ?_
      exact Bnc_11 (hv0.trans (if_pos h4))
    · refine XS.ifYes X2.here hx rfl (pc0 := 4) (pc' := 66) rfl (hb hby d1_4) rfl ((if0 _ _).trans (feq h4).2) (by decide) (by decide) ?_
      exact Bnc_1 (hv0.trans (if_neg h4))
  have pre3 : Steps p.tables e below _ (T2.setFrames fs) := pre2.trans (Bnc_12 h_v_nc_0)
  refine ⟨_, _, pre3, hrun, hended, _, _, rfl, ?_, ⟨_, rfl⟩, hW, hsame.mono (by decide) (by decide)⟩
  exact ⟨by rw [h_v_nc_0], N2, hh2⟩
theorem d3_0 : decode method_3_code 0 = .ok (.iload_n 0, 1) := by decide +kernel
theorem d3_1 : decode method_3_code 1 = .ok (.bipush 45, 2) := by decide +kernel
theorem d3_3 : decode method_3_code 3 = .ok (.bipush 46, 2) := by decide +kernel
theorem d3_5 : decode method_3_code 5 = .ok (.invokestatic 7, 3) := by decide +kernel
theorem d3_8 : decode method_3_code 8 = .ok (.ifCond .ne 198, 3) := by decide +kernel
theorem d3_11 : decode method_3_code 11 = .ok (.iload_n 0, 1) := by decide +kernel
theorem d3_12 : decode method_3_code 12 = .ok (.bipush 48, 2) := by decide +kernel
theorem d3_14 : decode method_3_code 14 = .ok (.bipush 58, 2) := by decide +kernel
theorem d3_16 : decode method_3_code 16 = .ok (.invokestatic 7, 3) := by decide +kernel
theorem d3_19 : decode method_3_code 19 = .ok (.ifCond .ne 187, 3) := by decide +kernel
theorem d3_22 : decode method_3_code 22 = .ok (.iload_n 0, 1) := by decide +kernel
theorem d3_23 : decode method_3_code 23 = .ok (.bipush 65, 2) := by decide +kernel
theorem d3_25 : decode method_3_code 25 = .ok (.bipush 90, 2) := by decide +kernel
theorem d3_27 : decode method_3_code 27 = .ok (.invokestatic 7, 3) := by decide +kernel
theorem d3_30 : decode method_3_code 30 = .ok (.ifCond .ne 176, 3) := by decide +kernel
theorem d3_33 : decode method_3_code 33 = .ok (.iload_n 0, 1) := by decide +kernel
theorem d3_34 : decode method_3_code 34 = .ok (.bipush 95, 2) := by decide +kernel
theorem d3_36 : decode method_3_code 36 = .ok (.if_icmp .eq 170, 3) := by decide +kernel
theorem d3_39 : decode method_3_code 39 = .ok (.iload_n 0, 1) := by decide +kernel
theorem d3_40 : decode method_3_code 40 = .ok (.bipush 97, 2) := by decide +kernel
theorem d3_42 : decode method_3_code 42 = .ok (.bipush 122, 2) := by decide +kernel
theorem d3_44 : decode method_3_code 44 = .ok (.invokestatic 7, 3) := by decide +kernel
theorem d3_47 : decode method_3_code 47 = .ok (.ifCond .ne 159, 3) := by decide +kernel
theorem d3_50 : decode method_3_code 50 = .ok (.iload_n 0, 1) := by decide +kernel
theorem d3_51 : decode method_3_code 51 = .ok (.sipush 183, 3) := by decide +kernel
theorem d3_54 : decode method_3_code 54 = .ok (.if_icmp .eq 152, 3) := by decide +kernel
theorem d3_57 : decode method_3_code 57 = .ok (.iload_n 0, 1) := by decide +kernel
theorem d3_58 : decode method_3_code 58 = .ok (.sipush 192, 3) := by decide +kernel
theorem d3_61 : decode method_3_code 61 = .ok (.sipush 214, 3) := by decide +kernel
theorem d3_64 : decode method_3_code 64 = .ok (.invokestatic 7, 3) := by decide +kernel
theorem d3_67 : decode method_3_code 67 = .ok (.ifCond .ne 139, 3) := by decide +kernel
theorem d3_70 : decode method_3_code 70 = .ok (.iload_n 0, 1) := by decide +kernel
theorem d3_71 : decode method_3_code 71 = .ok (.sipush 216, 3) := by decide +kernel
theorem d3_74 : decode method_3_code 74 = .ok (.sipush 246, 3) := by decide +kernel
theorem d3_77 : decode method_3_code 77 = .ok (.invokestatic 7, 3) := by decide +kernel
theorem d3_80 : decode method_3_code 80 = .ok (.ifCond .ne 126, 3) := by decide +kernel
theorem d3_83 : decode method_3_code 83 = .ok (.iload_n 0, 1) := by decide +kernel
theorem d3_84 : decode method_3_code 84 = .ok (.sipush 248, 3) := by decide +kernel
theorem d3_87 : decode method_3_code 87 = .ok (.sipush 893, 3) := by decide +kernel
theorem d3_90 : decode method_3_code 90 = .ok (.invokestatic 7, 3) := by decide +kernel
theorem d3_93 : decode method_3_code 93 = .ok (.ifCond .ne 113, 3) := by decide +kernel
theorem d3_96 : decode method_3_code 96 = .ok (.iload_n 0, 1) := by decide +kernel
theorem d3_97 : decode method_3_code 97 = .ok (.sipush 895, 3) := by decide +kernel
theorem d3_100 : decode method_3_code 100 = .ok (.sipush 8191, 3) := by decide +kernel
theorem d3_103 : decode method_3_code 103 = .ok (.invokestatic 7, 3) := by decide +kernel
theorem d3_106 : decode method_3_code 106 = .ok (.ifCond .ne 100, 3) := by decide +kernel
theorem d3_109 : decode method_3_code 109 = .ok (.iload_n 0, 1) := by decide +kernel
theorem d3_110 : decode method_3_code 110 = .ok (.sipush 8204, 3) := by decide +kernel
theorem d3_113 : decode method_3_code 113 = .ok (.sipush 8205, 3) := by decide +kernel
theorem d3_116 : decode method_3_code 116 = .ok (.invokestatic 7, 3) := by decide +kernel
theorem d3_119 : decode method_3_code 119 = .ok (.ifCond .ne 87, 3) := by decide +kernel
theorem d3_122 : decode method_3_code 122 = .ok (.iload_n 0, 1) := by decide +kernel
theorem d3_123 : decode method_3_code 123 = .ok (.sipush 8255, 3) := by decide +kernel
theorem d3_126 : decode method_3_code 126 = .ok (.sipush 8256, 3) := by decide +kernel
theorem d3_129 : decode method_3_code 129 = .ok (.invokestatic 7, 3) := by decide +kernel
theorem d3_132 : decode method_3_code 132 = .ok (.ifCond .ne 74, 3) := by decide +kernel
theorem d3_135 : decode method_3_code 135 = .ok (.iload_n 0, 1) := by decide +kernel
theorem d3_136 : decode method_3_code 136 = .ok (.sipush 8304, 3) := by decide +kernel
theorem d3_139 : decode method_3_code 139 = .ok (.sipush 8591, 3) := by decide +kernel
theorem d3_142 : decode method_3_code 142 = .ok (.invokestatic 7, 3) := by decide +kernel
theorem d3_145 : decode method_3_code 145 = .ok (.ifCond .ne 61, 3) := by decide +kernel
theorem d3_148 : decode method_3_code 148 = .ok (.iload_n 0, 1) := by decide +kernel
theorem d3_149 : decode method_3_code 149 = .ok (.sipush 11264, 3) := by decide +kernel
theorem d3_152 : decode method_3_code 152 = .ok (.sipush 12271, 3) := by decide +kernel
theorem d3_155 : decode method_3_code 155 = .ok (.invokestatic 7, 3) := by decide +kernel
theorem d3_158 : decode method_3_code 158 = .ok (.ifCond .ne 48, 3) := by decide +kernel
theorem d3_161 : decode method_3_code 161 = .ok (.iload_n 0, 1) := by decide +kernel
theorem d3_162 : decode method_3_code 162 = .ok (.sipush 12289, 3) := by decide +kernel
theorem d3_165 : decode method_3_code 165 = .ok (.ldc 13, 2) := by decide +kernel
theorem d3_167 : decode method_3_code 167 = .ok (.invokestatic 7, 3) := by decide +kernel
theorem d3_170 : decode method_3_code 170 = .ok (.ifCond .ne 36, 3) := by decide +kernel
theorem d3_173 : decode method_3_code 173 = .ok (.iload_n 0, 1) := by decide +kernel
theorem d3_174 : decode method_3_code 174 = .ok (.ldc 14, 2) := by decide +kernel
theorem d3_176 : decode method_3_code 176 = .ok (.ldc 15, 2) := by decide +kernel
theorem d3_178 : decode method_3_code 178 = .ok (.invokestatic 7, 3) := by decide +kernel
theorem d3_181 : decode method_3_code 181 = .ok (.ifCond .ne 25, 3) := by decide +kernel
theorem d3_184 : decode method_3_code 184 = .ok (.iload_n 0, 1) := by decide +kernel
theorem d3_185 : decode method_3_code 185 = .ok (.ldc 16, 2) := by decide +kernel
theorem d3_187 : decode method_3_code 187 = .ok (.ldc 17, 2) := by decide +kernel
theorem d3_189 : decode method_3_code 189 = .ok (.invokestatic 7, 3) := by decide +kernel
theorem d3_192 : decode method_3_code 192 = .ok (.ifCond .ne 14, 3) := by decide +kernel
theorem d3_195 : decode method_3_code 195 = .ok (.iload_n 0, 1) := by decide +kernel
theorem d3_196 : decode method_3_code 196 = .ok (.ldc 18, 2) := by decide +kernel
theorem d3_198 : decode method_3_code 198 = .ok (.ldc 19, 2) := by decide +kernel
theorem d3_200 : decode method_3_code 200 = .ok (.invokestatic 7, 3) := by decide +kernel
theorem d3_203 : decode method_3_code 203 = .ok (.ifCond .eq 7, 3) := by decide +kernel
theorem d3_206 : decode method_3_code 206 = .ok (.iconst 1, 1) := by decide +kernel
theorem d3_207 : decode method_3_code 207 = .ok (.goto 4, 3) := by decide +kernel
theorem d3_210 : decode method_3_code 210 = .ok (.iconst 0, 1) := by decide +kernel
theorem d3_211 : decode method_3_code 211 = .ok (.ireturn, 1) := by decide +kernel
theorem pn_rmR : plainName "com/example/summarium/summarium/cda/XmlNamesIsNameCharPinLaw" = true := by first | (simp [plainName, overriddenIn]; done) | decide +kernel
theorem pd_rmR_0 : parseMethodDescriptor "(III)Z" = some ⟨[.int, .int, .int], some .boolean⟩ := by decide +kernel
theorem ef_rmR (m : MethodId) (p1 : Int32) : entryFrame m #[(.int p1)] 1 = (mkF m 0 #[.val (.int p1)] []) := by first | (simp [entryFrame, mkF, argsToLocals, Value.category]; done) | rfl
def own_ref_17 (p1 : Int32) : Int32 := if (own_in_0_4 p1 (65536 : Int32) (983039 : Int32)) = (0 : Int32) then (0 : Int32) else (1 : Int32)
def own_ref_16 (p1 : Int32) : Int32 := if (own_in_0_4 p1 (65008 : Int32) (65533 : Int32)) = (0 : Int32) then own_ref_17 p1 else (1 : Int32)
def own_ref_15 (p1 : Int32) : Int32 := if (own_in_0_4 p1 (63744 : Int32) (64975 : Int32)) = (0 : Int32) then own_ref_16 p1 else (1 : Int32)
def own_ref_14 (p1 : Int32) : Int32 := if (own_in_0_4 p1 (12289 : Int32) (55295 : Int32)) = (0 : Int32) then own_ref_15 p1 else (1 : Int32)
def own_ref_13 (p1 : Int32) : Int32 := if (own_in_0_4 p1 (11264 : Int32) (12271 : Int32)) = (0 : Int32) then own_ref_14 p1 else (1 : Int32)
def own_ref_12 (p1 : Int32) : Int32 := if (own_in_0_4 p1 (8304 : Int32) (8591 : Int32)) = (0 : Int32) then own_ref_13 p1 else (1 : Int32)
def own_ref_11 (p1 : Int32) : Int32 := if (own_in_0_4 p1 (8255 : Int32) (8256 : Int32)) = (0 : Int32) then own_ref_12 p1 else (1 : Int32)
def own_ref_10 (p1 : Int32) : Int32 := if (own_in_0_4 p1 (8204 : Int32) (8205 : Int32)) = (0 : Int32) then own_ref_11 p1 else (1 : Int32)
def own_ref_9 (p1 : Int32) : Int32 := if (own_in_0_4 p1 (895 : Int32) (8191 : Int32)) = (0 : Int32) then own_ref_10 p1 else (1 : Int32)
def own_ref_8 (p1 : Int32) : Int32 := if (own_in_0_4 p1 (248 : Int32) (893 : Int32)) = (0 : Int32) then own_ref_9 p1 else (1 : Int32)
def own_ref_7 (p1 : Int32) : Int32 := if (own_in_0_4 p1 (216 : Int32) (246 : Int32)) = (0 : Int32) then own_ref_8 p1 else (1 : Int32)
def own_ref_6 (p1 : Int32) : Int32 := if (own_in_0_4 p1 (192 : Int32) (214 : Int32)) = (0 : Int32) then own_ref_7 p1 else (1 : Int32)
def own_ref_5 (p1 : Int32) : Int32 := if p1 = (183 : Int32) then (1 : Int32) else own_ref_6 p1
def own_ref_4 (p1 : Int32) : Int32 := if (own_in_0_4 p1 (97 : Int32) (122 : Int32)) = (0 : Int32) then own_ref_5 p1 else (1 : Int32)
def own_ref_3 (p1 : Int32) : Int32 := if p1 = (95 : Int32) then (1 : Int32) else own_ref_4 p1
def own_ref_2 (p1 : Int32) : Int32 := if (own_in_0_4 p1 (65 : Int32) (90 : Int32)) = (0 : Int32) then own_ref_3 p1 else (1 : Int32)
def own_ref_1 (p1 : Int32) : Int32 := if (own_in_0_4 p1 (48 : Int32) (58 : Int32)) = (0 : Int32) then own_ref_2 p1 else (1 : Int32)
def own_ref_0 (p1 : Int32) : Int32 := if (own_in_0_4 p1 (45 : Int32) (46 : Int32)) = (0 : Int32) then own_ref_1 p1 else (1 : Int32)
def Q_rmR (Z : State) (p1 : Int32)  (h0 : Heap) (n0 : Nat) (v : Option Value) (h : Heap) (L : List Loc) : Prop := v = some (.int (own_ref_0 p1)) ∧ Fr n0 L ∧ h = h0
set_option maxRecDepth 65536 in
set_option maxHeartbeats 40000000 in
theorem rmR (l : Launch) (Z : State) (a0 : Array Value) (hw : ∀ d ∈ tables_1, d.before a0 Z = true) (ws : List Jvm.Cond) (p1 : Int32)  (h0 : Heap) (n0 : Nat) (Z0 : n0 ≤ h0.size)  :
    MetFree l (⟨"com/example/summarium/summarium/cda/XmlNamesIsNameCharPinLaw", "reference", "(I)Z"⟩ : MethodName) (head1 (Jvm.Cond.code (⟨"com/example/summarium/summarium/cda/XmlNamesIsNameCharPinLaw", "reference", "(I)Z"⟩ : MethodName) method_3_code 1 (some .boolean) :: ws) ({ frames := 1, cells := 0, slots := 0, locals := 14 } : Room)) (fun a U => a = #[(.int p1)] ∧ Z.Warmed39 U.vm ∧ U.heap = h0) (fun _ _ _ _ _ => True) (fun _ U o U' => ∃ v L, o = .returned v ∧ Q_rmR Z p1 h0 n0 v U'.heap L ∧ FrameEnd U o U' L ({ frames := 1, cells := 0, slots := 0, locals := 14 } : Room).cells ({ frames := 1, cells := 0, slots := 0, locals := 14 } : Room).slots) := by
  refine MetFree.of_bodySF (plainFor_of_name pn_rmR) hisR ?_
  intro p e s m args below meth c s₁ Bd hml0 hP hK
  obtain ⟨rfl, hZ, hh⟩ := hP
  have hx := Bd.exec
  have hby := Bd.bytes
  have hml : c.maxLocals = 1 := hml0
  have hown : s.vm.findClass "com/example/summarium/summarium/cda/XmlNamesIsNameCharPinLaw" = some m.cls := findClass_of_methodNamed Bd.named
  have hnm := (name_of_methodNamed Bd.named Bd.method).1
  have X0 : Stand p l e ({ frames := 1, cells := 0, slots := 0, locals := 14 } : Room) s m #[(.int p1)] below meth c s₁ [] 0 0 := Stand.of_body Bd
  have e0 : s₁.heap = h0 := by rw [← hh, Bd.state]; rfl
  have N0 := Fr.nil n0
  have pre0 : Steps p.tables e below (s₁.setTop (entryFrame m #[(.int p1)] 1)) (s₁.setTop (mkF m 0 #[.val (.int p1)] [])) := castTop (ef_rmR m p1) (Steps.refl _)
  have pre1 : Steps p.tables e below _ (s₁.setTop (mkF m 5 #[.val (.int p1)] [(.int (46 : Int32)), (.int (45 : Int32)), (.int p1)])) := pre0.trans (by
    show Steps p.tables e below (s₁.setTop (mkF m 0 #[.val (.int p1)] [])) _
    refine XS.iloadN X0.here hx rfl (hb hby d3_0) rfl ?_
    show Steps p.tables e below (s₁.setTop (mkF m 1 #[.val (.int p1)] [(.int p1)])) _
    refine XS.bipush X0.here hx rfl (hb hby d3_1) ?_
    show Steps p.tables e below (s₁.setTop (mkF m 3 #[.val (.int p1)] [(.int (45 : Int32)), (.int p1)])) _
    refine XS.bipush X0.here hx rfl (hb hby d3_3) ?_
    exact Steps.refl _)
  obtain ⟨_, _, ⟨T2, L2, k2, n2⟩, -, X2, ⟨Lc2, hQ2, l2, y2, z2⟩, st2⟩ := Jvm.LawKit.callS X0 hx (y := (⟨"com/example/summarium/summarium/cda/XmlNamesIsNameCharPinLaw", "in", "(III)Z"⟩ : MethodName)) hown (mvT hZ (hw _ (List.mem_of_getElem? (i := 24) rfl))) (mvT hZ (hw _ (List.mem_of_getElem? (i := 25) rfl))) (mvT hZ (hw _ (List.mem_of_getElem? (i := 22) rfl))) (mvT hZ (hw _ (List.mem_of_getElem? (i := 26) rfl))) (by decide) (backOf (W := 0) (rmI l Z a0 hw [] p1 (45 : Int32) (46 : Int32) h0 n0 Z0) hZ (hw _ (List.mem_of_getElem? (i := 26) rfl)) (hw _ (List.mem_of_getElem? (i := 22) rfl)) (by decide) (by decide)) (g := (mkF m 5 #[.val (.int p1)] [(.int (46 : Int32)), (.int (45 : Int32)), (.int p1)])) rfl (by rw [hml]; rfl) (argsL := [(.int p1), (.int (45 : Int32)), (.int (46 : Int32))]) (rest := []) (lenOf pd_rmR_0 rfl) rfl (by show 2 * 0 + _ ≤ _; exact Nat.le_of_eq rfl) (hb hby d3_5) (fun _ _ => ⟨rfl, e0, (by decide : 0 + 0 ≤ _), (by decide : 0 + 0 ≤ _)⟩)
  dsimp only [Pt.U, Pt.locs, Pt.cells, Pt.slots] at X2 l2 y2 z2 st2 hQ2
  subst l2 y2 z2
  obtain ⟨rfl, N2q, hh2⟩ := hQ2
  have N2 := Fr.app N0 N2q
  have pre2 : Steps p.tables e below _ (T2.setTop (mkF m 8 #[.val (.int p1)] [(.int (own_in_0_4 p1 (45 : Int32) (46 : Int32)))])) := pre1.trans (st2 _ (Steps.refl _))
  rcases (Decidable.em ((own_in_0_4 p1 (45 : Int32) (46 : Int32)) = (0 : Int32))).symm with ht0 | ht0
  · have hv := (rfl : own_ref_0 p1 = own_ref_0 p1).trans (if_neg ht0)
    have pre3 : Steps p.tables e below _ (T2.setTop (mkF m 211 #[.val (.int p1)] [(.int (1 : Int32))])) := pre2.trans (by
      show Steps p.tables e below (T2.setTop (mkF m 8 #[.val (.int p1)] [(.int (own_in_0_4 p1 (45 : Int32) (46 : Int32)))])) _
      refine XS.ifYes X2.here hx rfl (pc0 := 8) (pc' := 206) rfl (hb hby d3_8) rfl ((if0 _ _).trans (feq ht0).2) (by decide) (by decide) ?_
      show Steps p.tables e below (T2.setTop (mkF m 206 #[.val (.int p1)] [])) _
      refine XS.iconst X2.here hx rfl (hb hby d3_206) ?_
      show Steps p.tables e below (T2.setTop (mkF m 207 #[.val (.int p1)] [(.int (1 : Int32))])) _
      refine XS.goto X2.here hx rfl (pc0 := 207) (pc' := 211) rfl (hb hby d3_207) (by decide) (by decide) ?_
      exact Steps.refl _)
    obtain ⟨fs, hr, hrun, hended, hW, hsame⟩ := X2.leave (v := some (.int (1 : Int32))) (fun h => by rw [Bd.returns] at h; cases h)
    refine ⟨_, _, pre3.trans ?_, hrun, hended, _, _, rfl, ?_, ⟨_, rfl⟩, hW, hsame.mono (by decide) (by decide)⟩
    · exact retN X2 hx (t := .boolean) Bd.returns (by simp) (hb hby d3_211) hr
    · exact ⟨by rw [hv], N2, hh2⟩
  have hv1 := (rfl : own_ref_0 p1 = own_ref_0 p1).trans (if_pos ht0)
  have pre4 : Steps p.tables e below _ (T2.setTop (mkF m 16 #[.val (.int p1)] [(.int (58 : Int32)), (.int (48 : Int32)), (.int p1)])) := pre2.trans (by
    show Steps p.tables e below (T2.setTop (mkF m 8 #[.val (.int p1)] [(.int (own_in_0_4 p1 (45 : Int32) (46 : Int32)))])) _
    refine XS.ifNo X2.here hx rfl (hb hby d3_8) rfl ((if0 _ _).trans (teq ht0).2) ?_
    show Steps p.tables e below (T2.setTop (mkF m 11 #[.val (.int p1)] [])) _
    refine XS.iloadN X2.here hx rfl (hb hby d3_11) rfl ?_
    show Steps p.tables e below (T2.setTop (mkF m 12 #[.val (.int p1)] [(.int p1)])) _
    refine XS.bipush X2.here hx rfl (hb hby d3_12) ?_
    show Steps p.tables e below (T2.setTop (mkF m 14 #[.val (.int p1)] [(.int (48 : Int32)), (.int p1)])) _
    refine XS.bipush X2.here hx rfl (hb hby d3_14) ?_
    exact Steps.refl _)
  obtain ⟨_, _, ⟨T5, L5, k5, n5⟩, -, X5, ⟨Lc5, hQ5, l5, y5, z5⟩, st5⟩ := Jvm.LawKit.callS X2 hx (y := (⟨"com/example/summarium/summarium/cda/XmlNamesIsNameCharPinLaw", "in", "(III)Z"⟩ : MethodName)) hown (mvT hZ (hw _ (List.mem_of_getElem? (i := 24) rfl))) (mvT hZ (hw _ (List.mem_of_getElem? (i := 25) rfl))) (mvT hZ (hw _ (List.mem_of_getElem? (i := 22) rfl))) (mvT hZ (hw _ (List.mem_of_getElem? (i := 26) rfl))) (by decide) (backOf (W := 0) (rmI l Z a0 hw [] p1 (48 : Int32) (58 : Int32) h0 n0 Z0) hZ (hw _ (List.mem_of_getElem? (i := 26) rfl)) (hw _ (List.mem_of_getElem? (i := 22) rfl)) (by decide) (by decide)) (g := (mkF m 16 #[.val (.int p1)] [(.int (58 : Int32)), (.int (48 : Int32)), (.int p1)])) rfl (by rw [hml]; rfl) (argsL := [(.int p1), (.int (48 : Int32)), (.int (58 : Int32))]) (rest := []) (lenOf pd_rmR_0 rfl) rfl (by show 2 * 0 + _ ≤ _; exact Nat.le_of_eq rfl) (hb hby d3_16) (fun _ _ => ⟨rfl, hh2, (by decide : 0 + 0 ≤ _), (by decide : 0 + 0 ≤ _)⟩)
  dsimp only [Pt.U, Pt.locs, Pt.cells, Pt.slots] at X5 l5 y5 z5 st5 hQ5
  subst l5 y5 z5
  obtain ⟨rfl, N5q, hh5⟩ := hQ5
  have N5 := Fr.app N2 N5q
  have pre5 : Steps p.tables e below _ (T5.setTop (mkF m 19 #[.val (.int p1)] [(.int (own_in_0_4 p1 (48 : Int32) (58 : Int32)))])) := pre4.trans (st5 _ (Steps.refl _))
  rcases (Decidable.em ((own_in_0_4 p1 (48 : Int32) (58 : Int32)) = (0 : Int32))).symm with ht1 | ht1
  · have hv := hv1.trans (if_neg ht1)
    have pre6 : Steps p.tables e below _ (T5.setTop (mkF m 211 #[.val (.int p1)] [(.int (1 : Int32))])) := pre5.trans (by
      show Steps p.tables e below (T5.setTop (mkF m 19 #[.val (.int p1)] [(.int (own_in_0_4 p1 (48 : Int32) (58 : Int32)))])) _
      refine XS.ifYes X5.here hx rfl (pc0 := 19) (pc' := 206) rfl (hb hby d3_19) rfl ((if0 _ _).trans (feq ht1).2) (by decide) (by decide) ?_
      show Steps p.tables e below (T5.setTop (mkF m 206 #[.val (.int p1)] [])) _
      refine XS.iconst X5.here hx rfl (hb hby d3_206) ?_
      show Steps p.tables e below (T5.setTop (mkF m 207 #[.val (.int p1)] [(.int (1 : Int32))])) _
      refine XS.goto X5.here hx rfl (pc0 := 207) (pc' := 211) rfl (hb hby d3_207) (by decide) (by decide) ?_
      exact Steps.refl _)
    obtain ⟨fs, hr, hrun, hended, hW, hsame⟩ := X5.leave (v := some (.int (1 : Int32))) (fun h => by rw [Bd.returns] at h; cases h)
    refine ⟨_, _, pre6.trans ?_, hrun, hended, _, _, rfl, ?_, ⟨_, rfl⟩, hW, hsame.mono (by decide) (by decide)⟩
    · exact retN X5 hx (t := .boolean) Bd.returns (by simp) (hb hby d3_211) hr
    · exact ⟨by rw [hv], N5, hh5⟩
  have hv2 := hv1.trans (if_pos ht1)
  have pre7 : Steps p.tables e below _ (T5.setTop (mkF m 27 #[.val (.int p1)] [(.int (90 : Int32)), (.int (65 : Int32)), (.int p1)])) := pre5.trans (by
    show Steps p.tables e below (T5.setTop (mkF m 19 #[.val (.int p1)] [(.int (own_in_0_4 p1 (48 : Int32) (58 : Int32)))])) _
    refine XS.ifNo X5.here hx rfl (hb hby d3_19) rfl ((if0 _ _).trans (teq ht1).2) ?_
    show Steps p.tables e below (T5.setTop (mkF m 22 #[.val (.int p1)] [])) _
    refine XS.iloadN X5.here hx rfl (hb hby d3_22) rfl ?_
    show Steps p.tables e below (T5.setTop (mkF m 23 #[.val (.int p1)] [(.int p1)])) _
    refine XS.bipush X5.here hx rfl (hb hby d3_23) ?_
    show Steps p.tables e below (T5.setTop (mkF m 25 #[.val (.int p1)] [(.int (65 : Int32)), (.int p1)])) _
    refine XS.bipush X5.here hx rfl (hb hby d3_25) ?_
    exact Steps.refl _)
  obtain ⟨_, _, ⟨T8, L8, k8, n8⟩, -, X8, ⟨Lc8, hQ8, l8, y8, z8⟩, st8⟩ := Jvm.LawKit.callS X5 hx (y := (⟨"com/example/summarium/summarium/cda/XmlNamesIsNameCharPinLaw", "in", "(III)Z"⟩ : MethodName)) hown (mvT hZ (hw _ (List.mem_of_getElem? (i := 24) rfl))) (mvT hZ (hw _ (List.mem_of_getElem? (i := 25) rfl))) (mvT hZ (hw _ (List.mem_of_getElem? (i := 22) rfl))) (mvT hZ (hw _ (List.mem_of_getElem? (i := 26) rfl))) (by decide) (backOf (W := 0) (rmI l Z a0 hw [] p1 (65 : Int32) (90 : Int32) h0 n0 Z0) hZ (hw _ (List.mem_of_getElem? (i := 26) rfl)) (hw _ (List.mem_of_getElem? (i := 22) rfl)) (by decide) (by decide)) (g := (mkF m 27 #[.val (.int p1)] [(.int (90 : Int32)), (.int (65 : Int32)), (.int p1)])) rfl (by rw [hml]; rfl) (argsL := [(.int p1), (.int (65 : Int32)), (.int (90 : Int32))]) (rest := []) (lenOf pd_rmR_0 rfl) rfl (by show 2 * 0 + _ ≤ _; exact Nat.le_of_eq rfl) (hb hby d3_27) (fun _ _ => ⟨rfl, hh5, (by decide : 0 + 0 ≤ _), (by decide : 0 + 0 ≤ _)⟩)
  dsimp only [Pt.U, Pt.locs, Pt.cells, Pt.slots] at X8 l8 y8 z8 st8 hQ8
  subst l8 y8 z8
  obtain ⟨rfl, N8q, hh8⟩ := hQ8
  have N8 := Fr.app N5 N8q
  have pre8 : Steps p.tables e below _ (T8.setTop (mkF m 30 #[.val (.int p1)] [(.int (own_in_0_4 p1 (65 : Int32) (90 : Int32)))])) := pre7.trans (st8 _ (Steps.refl _))
  rcases (Decidable.em ((own_in_0_4 p1 (65 : Int32) (90 : Int32)) = (0 : Int32))).symm with ht2 | ht2
  · have hv := hv2.trans (if_neg ht2)
    have pre9 : Steps p.tables e below _ (T8.setTop (mkF m 211 #[.val (.int p1)] [(.int (1 : Int32))])) := pre8.trans (by
      show Steps p.tables e below (T8.setTop (mkF m 30 #[.val (.int p1)] [(.int (own_in_0_4 p1 (65 : Int32) (90 : Int32)))])) _
      refine XS.ifYes X8.here hx rfl (pc0 := 30) (pc' := 206) rfl (hb hby d3_30) rfl ((if0 _ _).trans (feq ht2).2) (by decide) (by decide) ?_
      show Steps p.tables e below (T8.setTop (mkF m 206 #[.val (.int p1)] [])) _
      refine XS.iconst X8.here hx rfl (hb hby d3_206) ?_
      show Steps p.tables e below (T8.setTop (mkF m 207 #[.val (.int p1)] [(.int (1 : Int32))])) _
      refine XS.goto X8.here hx rfl (pc0 := 207) (pc' := 211) rfl (hb hby d3_207) (by decide) (by decide) ?_
      exact Steps.refl _)
    obtain ⟨fs, hr, hrun, hended, hW, hsame⟩ := X8.leave (v := some (.int (1 : Int32))) (fun h => by rw [Bd.returns] at h; cases h)
    refine ⟨_, _, pre9.trans ?_, hrun, hended, _, _, rfl, ?_, ⟨_, rfl⟩, hW, hsame.mono (by decide) (by decide)⟩
    · exact retN X8 hx (t := .boolean) Bd.returns (by simp) (hb hby d3_211) hr
    · exact ⟨by rw [hv], N8, hh8⟩
  have hv3 := hv2.trans (if_pos ht2)
  have pre10 : Steps p.tables e below _ (T8.setTop (mkF m 36 #[.val (.int p1)] [(.int (95 : Int32)), (.int p1)])) := pre8.trans (by
    show Steps p.tables e below (T8.setTop (mkF m 30 #[.val (.int p1)] [(.int (own_in_0_4 p1 (65 : Int32) (90 : Int32)))])) _
    refine XS.ifNo X8.here hx rfl (hb hby d3_30) rfl ((if0 _ _).trans (teq ht2).2) ?_
    show Steps p.tables e below (T8.setTop (mkF m 33 #[.val (.int p1)] [])) _
    refine XS.iloadN X8.here hx rfl (hb hby d3_33) rfl ?_
    show Steps p.tables e below (T8.setTop (mkF m 34 #[.val (.int p1)] [(.int p1)])) _
    refine XS.bipush X8.here hx rfl (hb hby d3_34) ?_
    exact Steps.refl _)
  rcases Decidable.em (p1 = (95 : Int32)) with ht3 | ht3
  · have hv := hv3.trans (if_pos ht3)
    have pre11 : Steps p.tables e below _ (T8.setTop (mkF m 211 #[.val (.int p1)] [(.int (1 : Int32))])) := pre10.trans (by
      show Steps p.tables e below (T8.setTop (mkF m 36 #[.val (.int p1)] [(.int (95 : Int32)), (.int p1)])) _
      refine XS.icmpYes X8.here hx rfl (pc0 := 36) (pc' := 206) rfl (hb hby d3_36) rfl (teq ht3).1 (by decide) (by decide) ?_
      show Steps p.tables e below (T8.setTop (mkF m 206 #[.val (.int p1)] [])) _
      refine XS.iconst X8.here hx rfl (hb hby d3_206) ?_
      show Steps p.tables e below (T8.setTop (mkF m 207 #[.val (.int p1)] [(.int (1 : Int32))])) _
      refine XS.goto X8.here hx rfl (pc0 := 207) (pc' := 211) rfl (hb hby d3_207) (by decide) (by decide) ?_
      exact Steps.refl _)
    obtain ⟨fs, hr, hrun, hended, hW, hsame⟩ := X8.leave (v := some (.int (1 : Int32))) (fun h => by rw [Bd.returns] at h; cases h)
    refine ⟨_, _, pre11.trans ?_, hrun, hended, _, _, rfl, ?_, ⟨_, rfl⟩, hW, hsame.mono (by decide) (by decide)⟩
    · exact retN X8 hx (t := .boolean) Bd.returns (by simp) (hb hby d3_211) hr
    · exact ⟨by rw [hv], N8, hh8⟩
  have hv4 := hv3.trans (if_neg ht3)
  have pre12 : Steps p.tables e below _ (T8.setTop (mkF m 44 #[.val (.int p1)] [(.int (122 : Int32)), (.int (97 : Int32)), (.int p1)])) := pre10.trans (by
    show Steps p.tables e below (T8.setTop (mkF m 36 #[.val (.int p1)] [(.int (95 : Int32)), (.int p1)])) _
    refine XS.icmpNo X8.here hx rfl (hb hby d3_36) rfl (feq ht3).1 ?_
    show Steps p.tables e below (T8.setTop (mkF m 39 #[.val (.int p1)] [])) _
    refine XS.iloadN X8.here hx rfl (hb hby d3_39) rfl ?_
    show Steps p.tables e below (T8.setTop (mkF m 40 #[.val (.int p1)] [(.int p1)])) _
    refine XS.bipush X8.here hx rfl (hb hby d3_40) ?_
    show Steps p.tables e below (T8.setTop (mkF m 42 #[.val (.int p1)] [(.int (97 : Int32)), (.int p1)])) _
    refine XS.bipush X8.here hx rfl (hb hby d3_42) ?_
    exact Steps.refl _)
  obtain ⟨_, _, ⟨T13, L13, k13, n13⟩, -, X13, ⟨Lc13, hQ13, l13, y13, z13⟩, st13⟩ := Jvm.LawKit.callS X8 hx (y := (⟨"com/example/summarium/summarium/cda/XmlNamesIsNameCharPinLaw", "in", "(III)Z"⟩ : MethodName)) hown (mvT hZ (hw _ (List.mem_of_getElem? (i := 24) rfl))) (mvT hZ (hw _ (List.mem_of_getElem? (i := 25) rfl))) (mvT hZ (hw _ (List.mem_of_getElem? (i := 22) rfl))) (mvT hZ (hw _ (List.mem_of_getElem? (i := 26) rfl))) (by decide) (backOf (W := 0) (rmI l Z a0 hw [] p1 (97 : Int32) (122 : Int32) h0 n0 Z0) hZ (hw _ (List.mem_of_getElem? (i := 26) rfl)) (hw _ (List.mem_of_getElem? (i := 22) rfl)) (by decide) (by decide)) (g := (mkF m 44 #[.val (.int p1)] [(.int (122 : Int32)), (.int (97 : Int32)), (.int p1)])) rfl (by rw [hml]; rfl) (argsL := [(.int p1), (.int (97 : Int32)), (.int (122 : Int32))]) (rest := []) (lenOf pd_rmR_0 rfl) rfl (by show 2 * 0 + _ ≤ _; exact Nat.le_of_eq rfl) (hb hby d3_44) (fun _ _ => ⟨rfl, hh8, (by decide : 0 + 0 ≤ _), (by decide : 0 + 0 ≤ _)⟩)
  dsimp only [Pt.U, Pt.locs, Pt.cells, Pt.slots] at X13 l13 y13 z13 st13 hQ13
  subst l13 y13 z13
  obtain ⟨rfl, N13q, hh13⟩ := hQ13
  have N13 := Fr.app N8 N13q
  have pre13 : Steps p.tables e below _ (T13.setTop (mkF m 47 #[.val (.int p1)] [(.int (own_in_0_4 p1 (97 : Int32) (122 : Int32)))])) := pre12.trans (st13 _ (Steps.refl _))
  rcases (Decidable.em ((own_in_0_4 p1 (97 : Int32) (122 : Int32)) = (0 : Int32))).symm with ht4 | ht4
  · have hv := hv4.trans (if_neg ht4)
    have pre14 : Steps p.tables e below _ (T13.setTop (mkF m 211 #[.val (.int p1)] [(.int (1 : Int32))])) := pre13.trans (by
      show Steps p.tables e below (T13.setTop (mkF m 47 #[.val (.int p1)] [(.int (own_in_0_4 p1 (97 : Int32) (122 : Int32)))])) _
      refine XS.ifYes X13.here hx rfl (pc0 := 47) (pc' := 206) rfl (hb hby d3_47) rfl ((if0 _ _).trans (feq ht4).2) (by decide) (by decide) ?_
      show Steps p.tables e below (T13.setTop (mkF m 206 #[.val (.int p1)] [])) _
      refine XS.iconst X13.here hx rfl (hb hby d3_206) ?_
      show Steps p.tables e below (T13.setTop (mkF m 207 #[.val (.int p1)] [(.int (1 : Int32))])) _
      refine XS.goto X13.here hx rfl (pc0 := 207) (pc' := 211) rfl (hb hby d3_207) (by decide) (by decide) ?_
      exact Steps.refl _)
    obtain ⟨fs, hr, hrun, hended, hW, hsame⟩ := X13.leave (v := some (.int (1 : Int32))) (fun h => by rw [Bd.returns] at h; cases h)
    refine ⟨_, _, pre14.trans ?_, hrun, hended, _, _, rfl, ?_, ⟨_, rfl⟩, hW, hsame.mono (by decide) (by decide)⟩
    · exact retN X13 hx (t := .boolean) Bd.returns (by simp) (hb hby d3_211) hr
    · exact ⟨by rw [hv], N13, hh13⟩
  have hv5 := hv4.trans (if_pos ht4)
  have pre15 : Steps p.tables e below _ (T13.setTop (mkF m 54 #[.val (.int p1)] [(.int (183 : Int32)), (.int p1)])) := pre13.trans (by
    show Steps p.tables e below (T13.setTop (mkF m 47 #[.val (.int p1)] [(.int (own_in_0_4 p1 (97 : Int32) (122 : Int32)))])) _
    refine XS.ifNo X13.here hx rfl (hb hby d3_47) rfl ((if0 _ _).trans (teq ht4).2) ?_
    show Steps p.tables e below (T13.setTop (mkF m 50 #[.val (.int p1)] [])) _
    refine XS.iloadN X13.here hx rfl (hb hby d3_50) rfl ?_
    show Steps p.tables e below (T13.setTop (mkF m 51 #[.val (.int p1)] [(.int p1)])) _
    refine XS.sipush X13.here hx rfl (hb hby d3_51) ?_
    exact Steps.refl _)
  rcases Decidable.em (p1 = (183 : Int32)) with ht5 | ht5
  · have hv := hv5.trans (if_pos ht5)
    have pre16 : Steps p.tables e below _ (T13.setTop (mkF m 211 #[.val (.int p1)] [(.int (1 : Int32))])) := pre15.trans (by
      show Steps p.tables e below (T13.setTop (mkF m 54 #[.val (.int p1)] [(.int (183 : Int32)), (.int p1)])) _
      refine XS.icmpYes X13.here hx rfl (pc0 := 54) (pc' := 206) rfl (hb hby d3_54) rfl (teq ht5).1 (by decide) (by decide) ?_
      show Steps p.tables e below (T13.setTop (mkF m 206 #[.val (.int p1)] [])) _
      refine XS.iconst X13.here hx rfl (hb hby d3_206) ?_
      show Steps p.tables e below (T13.setTop (mkF m 207 #[.val (.int p1)] [(.int (1 : Int32))])) _
      refine XS.goto X13.here hx rfl (pc0 := 207) (pc' := 211) rfl (hb hby d3_207) (by decide) (by decide) ?_
      exact Steps.refl _)
    obtain ⟨fs, hr, hrun, hended, hW, hsame⟩ := X13.leave (v := some (.int (1 : Int32))) (fun h => by rw [Bd.returns] at h; cases h)
    refine ⟨_, _, pre16.trans ?_, hrun, hended, _, _, rfl, ?_, ⟨_, rfl⟩, hW, hsame.mono (by decide) (by decide)⟩
    · exact retN X13 hx (t := .boolean) Bd.returns (by simp) (hb hby d3_211) hr
    · exact ⟨by rw [hv], N13, hh13⟩
  have hv6 := hv5.trans (if_neg ht5)
  have pre17 : Steps p.tables e below _ (T13.setTop (mkF m 64 #[.val (.int p1)] [(.int (214 : Int32)), (.int (192 : Int32)), (.int p1)])) := pre15.trans (by
    show Steps p.tables e below (T13.setTop (mkF m 54 #[.val (.int p1)] [(.int (183 : Int32)), (.int p1)])) _
    refine XS.icmpNo X13.here hx rfl (hb hby d3_54) rfl (feq ht5).1 ?_
    show Steps p.tables e below (T13.setTop (mkF m 57 #[.val (.int p1)] [])) _
    refine XS.iloadN X13.here hx rfl (hb hby d3_57) rfl ?_
    show Steps p.tables e below (T13.setTop (mkF m 58 #[.val (.int p1)] [(.int p1)])) _
    refine XS.sipush X13.here hx rfl (hb hby d3_58) ?_
    show Steps p.tables e below (T13.setTop (mkF m 61 #[.val (.int p1)] [(.int (192 : Int32)), (.int p1)])) _
    refine XS.sipush X13.here hx rfl (hb hby d3_61) ?_
    exact Steps.refl _)
  obtain ⟨_, _, ⟨T18, L18, k18, n18⟩, -, X18, ⟨Lc18, hQ18, l18, y18, z18⟩, st18⟩ := Jvm.LawKit.callS X13 hx (y := (⟨"com/example/summarium/summarium/cda/XmlNamesIsNameCharPinLaw", "in", "(III)Z"⟩ : MethodName)) hown (mvT hZ (hw _ (List.mem_of_getElem? (i := 24) rfl))) (mvT hZ (hw _ (List.mem_of_getElem? (i := 25) rfl))) (mvT hZ (hw _ (List.mem_of_getElem? (i := 22) rfl))) (mvT hZ (hw _ (List.mem_of_getElem? (i := 26) rfl))) (by decide) (backOf (W := 0) (rmI l Z a0 hw [] p1 (192 : Int32) (214 : Int32) h0 n0 Z0) hZ (hw _ (List.mem_of_getElem? (i := 26) rfl)) (hw _ (List.mem_of_getElem? (i := 22) rfl)) (by decide) (by decide)) (g := (mkF m 64 #[.val (.int p1)] [(.int (214 : Int32)), (.int (192 : Int32)), (.int p1)])) rfl (by rw [hml]; rfl) (argsL := [(.int p1), (.int (192 : Int32)), (.int (214 : Int32))]) (rest := []) (lenOf pd_rmR_0 rfl) rfl (by show 2 * 0 + _ ≤ _; exact Nat.le_of_eq rfl) (hb hby d3_64) (fun _ _ => ⟨rfl, hh13, (by decide : 0 + 0 ≤ _), (by decide : 0 + 0 ≤ _)⟩)
  dsimp only [Pt.U, Pt.locs, Pt.cells, Pt.slots] at X18 l18 y18 z18 st18 hQ18
  subst l18 y18 z18
  obtain ⟨rfl, N18q, hh18⟩ := hQ18
  have N18 := Fr.app N13 N18q
  have pre18 : Steps p.tables e below _ (T18.setTop (mkF m 67 #[.val (.int p1)] [(.int (own_in_0_4 p1 (192 : Int32) (214 : Int32)))])) := pre17.trans (st18 _ (Steps.refl _))
  rcases (Decidable.em ((own_in_0_4 p1 (192 : Int32) (214 : Int32)) = (0 : Int32))).symm with ht6 | ht6
  · have hv := hv6.trans (if_neg ht6)
    have pre19 : Steps p.tables e below _ (T18.setTop (mkF m 211 #[.val (.int p1)] [(.int (1 : Int32))])) := pre18.trans (by
      show Steps p.tables e below (T18.setTop (mkF m 67 #[.val (.int p1)] [(.int (own_in_0_4 p1 (192 : Int32) (214 : Int32)))])) _
      refine XS.ifYes X18.here hx rfl (pc0 := 67) (pc' := 206) rfl (hb hby d3_67) rfl ((if0 _ _).trans (feq ht6).2) (by decide) (by decide) ?_
      show Steps p.tables e below (T18.setTop (mkF m 206 #[.val (.int p1)] [])) _
      refine XS.iconst X18.here hx rfl (hb hby d3_206) ?_
      show Steps p.tables e below (T18.setTop (mkF m 207 #[.val (.int p1)] [(.int (1 : Int32))])) _
      refine XS.goto X18.here hx rfl (pc0 := 207) (pc' := 211) rfl (hb hby d3_207) (by decide) (by decide) ?_
      exact Steps.refl _)
    obtain ⟨fs, hr, hrun, hended, hW, hsame⟩ := X18.leave (v := some (.int (1 : Int32))) (fun h => by rw [Bd.returns] at h; cases h)
    refine ⟨_, _, pre19.trans ?_, hrun, hended, _, _, rfl, ?_, ⟨_, rfl⟩, hW, hsame.mono (by decide) (by decide)⟩
    · exact retN X18 hx (t := .boolean) Bd.returns (by simp) (hb hby d3_211) hr
    · exact ⟨by rw [hv], N18, hh18⟩
  have hv7 := hv6.trans (if_pos ht6)
  have pre20 : Steps p.tables e below _ (T18.setTop (mkF m 77 #[.val (.int p1)] [(.int (246 : Int32)), (.int (216 : Int32)), (.int p1)])) := pre18.trans (by
    show Steps p.tables e below (T18.setTop (mkF m 67 #[.val (.int p1)] [(.int (own_in_0_4 p1 (192 : Int32) (214 : Int32)))])) _
    refine XS.ifNo X18.here hx rfl (hb hby d3_67) rfl ((if0 _ _).trans (teq ht6).2) ?_
    show Steps p.tables e below (T18.setTop (mkF m 70 #[.val (.int p1)] [])) _
    refine XS.iloadN X18.here hx rfl (hb hby d3_70) rfl ?_
    show Steps p.tables e below (T18.setTop (mkF m 71 #[.val (.int p1)] [(.int p1)])) _
    refine XS.sipush X18.here hx rfl (hb hby d3_71) ?_
    show Steps p.tables e below (T18.setTop (mkF m 74 #[.val (.int p1)] [(.int (216 : Int32)), (.int p1)])) _
    refine XS.sipush X18.here hx rfl (hb hby d3_74) ?_
    exact Steps.refl _)
  obtain ⟨_, _, ⟨T21, L21, k21, n21⟩, -, X21, ⟨Lc21, hQ21, l21, y21, z21⟩, st21⟩ := Jvm.LawKit.callS X18 hx (y := (⟨"com/example/summarium/summarium/cda/XmlNamesIsNameCharPinLaw", "in", "(III)Z"⟩ : MethodName)) hown (mvT hZ (hw _ (List.mem_of_getElem? (i := 24) rfl))) (mvT hZ (hw _ (List.mem_of_getElem? (i := 25) rfl))) (mvT hZ (hw _ (List.mem_of_getElem? (i := 22) rfl))) (mvT hZ (hw _ (List.mem_of_getElem? (i := 26) rfl))) (by decide) (backOf (W := 0) (rmI l Z a0 hw [] p1 (216 : Int32) (246 : Int32) h0 n0 Z0) hZ (hw _ (List.mem_of_getElem? (i := 26) rfl)) (hw _ (List.mem_of_getElem? (i := 22) rfl)) (by decide) (by decide)) (g := (mkF m 77 #[.val (.int p1)] [(.int (246 : Int32)), (.int (216 : Int32)), (.int p1)])) rfl (by rw [hml]; rfl) (argsL := [(.int p1), (.int (216 : Int32)), (.int (246 : Int32))]) (rest := []) (lenOf pd_rmR_0 rfl) rfl (by show 2 * 0 + _ ≤ _; exact Nat.le_of_eq rfl) (hb hby d3_77) (fun _ _ => ⟨rfl, hh18, (by decide : 0 + 0 ≤ _), (by decide : 0 + 0 ≤ _)⟩)
  dsimp only [Pt.U, Pt.locs, Pt.cells, Pt.slots] at X21 l21 y21 z21 st21 hQ21
  subst l21 y21 z21
  obtain ⟨rfl, N21q, hh21⟩ := hQ21
  have N21 := Fr.app N18 N21q
  have pre21 : Steps p.tables e below _ (T21.setTop (mkF m 80 #[.val (.int p1)] [(.int (own_in_0_4 p1 (216 : Int32) (246 : Int32)))])) := pre20.trans (st21 _ (Steps.refl _))
  rcases (Decidable.em ((own_in_0_4 p1 (216 : Int32) (246 : Int32)) = (0 : Int32))).symm with ht7 | ht7
  · have hv := hv7.trans (if_neg ht7)
    have pre22 : Steps p.tables e below _ (T21.setTop (mkF m 211 #[.val (.int p1)] [(.int (1 : Int32))])) := pre21.trans (by
      show Steps p.tables e below (T21.setTop (mkF m 80 #[.val (.int p1)] [(.int (own_in_0_4 p1 (216 : Int32) (246 : Int32)))])) _
      refine XS.ifYes X21.here hx rfl (pc0 := 80) (pc' := 206) rfl (hb hby d3_80) rfl ((if0 _ _).trans (feq ht7).2) (by decide) (by decide) ?_
      show Steps p.tables e below (T21.setTop (mkF m 206 #[.val (.int p1)] [])) _
      refine XS.iconst X21.here hx rfl (hb hby d3_206) ?_
      show Steps p.tables e below (T21.setTop (mkF m 207 #[.val (.int p1)] [(.int (1 : Int32))])) _
      refine XS.goto X21.here hx rfl (pc0 := 207) (pc' := 211) rfl (hb hby d3_207) (by decide) (by decide) ?_
      exact Steps.refl _)
    obtain ⟨fs, hr, hrun, hended, hW, hsame⟩ := X21.leave (v := some (.int (1 : Int32))) (fun h => by rw [Bd.returns] at h; cases h)
    refine ⟨_, _, pre22.trans ?_, hrun, hended, _, _, rfl, ?_, ⟨_, rfl⟩, hW, hsame.mono (by decide) (by decide)⟩
    · exact retN X21 hx (t := .boolean) Bd.returns (by simp) (hb hby d3_211) hr
    · exact ⟨by rw [hv], N21, hh21⟩
  have hv8 := hv7.trans (if_pos ht7)
  have pre23 : Steps p.tables e below _ (T21.setTop (mkF m 90 #[.val (.int p1)] [(.int (893 : Int32)), (.int (248 : Int32)), (.int p1)])) := pre21.trans (by
    show Steps p.tables e below (T21.setTop (mkF m 80 #[.val (.int p1)] [(.int (own_in_0_4 p1 (216 : Int32) (246 : Int32)))])) _
    refine XS.ifNo X21.here hx rfl (hb hby d3_80) rfl ((if0 _ _).trans (teq ht7).2) ?_
    show Steps p.tables e below (T21.setTop (mkF m 83 #[.val (.int p1)] [])) _
    refine XS.iloadN X21.here hx rfl (hb hby d3_83) rfl ?_
    show Steps p.tables e below (T21.setTop (mkF m 84 #[.val (.int p1)] [(.int p1)])) _
    refine XS.sipush X21.here hx rfl (hb hby d3_84) ?_
    show Steps p.tables e below (T21.setTop (mkF m 87 #[.val (.int p1)] [(.int (248 : Int32)), (.int p1)])) _
    refine XS.sipush X21.here hx rfl (hb hby d3_87) ?_
    exact Steps.refl _)
  obtain ⟨_, _, ⟨T24, L24, k24, n24⟩, -, X24, ⟨Lc24, hQ24, l24, y24, z24⟩, st24⟩ := Jvm.LawKit.callS X21 hx (y := (⟨"com/example/summarium/summarium/cda/XmlNamesIsNameCharPinLaw", "in", "(III)Z"⟩ : MethodName)) hown (mvT hZ (hw _ (List.mem_of_getElem? (i := 24) rfl))) (mvT hZ (hw _ (List.mem_of_getElem? (i := 25) rfl))) (mvT hZ (hw _ (List.mem_of_getElem? (i := 22) rfl))) (mvT hZ (hw _ (List.mem_of_getElem? (i := 26) rfl))) (by decide) (backOf (W := 0) (rmI l Z a0 hw [] p1 (248 : Int32) (893 : Int32) h0 n0 Z0) hZ (hw _ (List.mem_of_getElem? (i := 26) rfl)) (hw _ (List.mem_of_getElem? (i := 22) rfl)) (by decide) (by decide)) (g := (mkF m 90 #[.val (.int p1)] [(.int (893 : Int32)), (.int (248 : Int32)), (.int p1)])) rfl (by rw [hml]; rfl) (argsL := [(.int p1), (.int (248 : Int32)), (.int (893 : Int32))]) (rest := []) (lenOf pd_rmR_0 rfl) rfl (by show 2 * 0 + _ ≤ _; exact Nat.le_of_eq rfl) (hb hby d3_90) (fun _ _ => ⟨rfl, hh21, (by decide : 0 + 0 ≤ _), (by decide : 0 + 0 ≤ _)⟩)
  dsimp only [Pt.U, Pt.locs, Pt.cells, Pt.slots] at X24 l24 y24 z24 st24 hQ24
  subst l24 y24 z24
  obtain ⟨rfl, N24q, hh24⟩ := hQ24
  have N24 := Fr.app N21 N24q
  have pre24 : Steps p.tables e below _ (T24.setTop (mkF m 93 #[.val (.int p1)] [(.int (own_in_0_4 p1 (248 : Int32) (893 : Int32)))])) := pre23.trans (st24 _ (Steps.refl _))
  rcases (Decidable.em ((own_in_0_4 p1 (248 : Int32) (893 : Int32)) = (0 : Int32))).symm with ht8 | ht8
  · have hv := hv8.trans (if_neg ht8)
    have pre25 : Steps p.tables e below _ (T24.setTop (mkF m 211 #[.val (.int p1)] [(.int (1 : Int32))])) := pre24.trans (by
      show Steps p.tables e below (T24.setTop (mkF m 93 #[.val (.int p1)] [(.int (own_in_0_4 p1 (248 : Int32) (893 : Int32)))])) _
      refine XS.ifYes X24.here hx rfl (pc0 := 93) (pc' := 206) rfl (hb hby d3_93) rfl ((if0 _ _).trans (feq ht8).2) (by decide) (by decide) ?_
      show Steps p.tables e below (T24.setTop (mkF m 206 #[.val (.int p1)] [])) _
      refine XS.iconst X24.here hx rfl (hb hby d3_206) ?_
      show Steps p.tables e below (T24.setTop (mkF m 207 #[.val (.int p1)] [(.int (1 : Int32))])) _
      refine XS.goto X24.here hx rfl (pc0 := 207) (pc' := 211) rfl (hb hby d3_207) (by decide) (by decide) ?_
      exact Steps.refl _)
    obtain ⟨fs, hr, hrun, hended, hW, hsame⟩ := X24.leave (v := some (.int (1 : Int32))) (fun h => by rw [Bd.returns] at h; cases h)
    refine ⟨_, _, pre25.trans ?_, hrun, hended, _, _, rfl, ?_, ⟨_, rfl⟩, hW, hsame.mono (by decide) (by decide)⟩
    · exact retN X24 hx (t := .boolean) Bd.returns (by simp) (hb hby d3_211) hr
    · exact ⟨by rw [hv], N24, hh24⟩
  have hv9 := hv8.trans (if_pos ht8)
  have pre26 : Steps p.tables e below _ (T24.setTop (mkF m 103 #[.val (.int p1)] [(.int (8191 : Int32)), (.int (895 : Int32)), (.int p1)])) := pre24.trans (by
    show Steps p.tables e below (T24.setTop (mkF m 93 #[.val (.int p1)] [(.int (own_in_0_4 p1 (248 : Int32) (893 : Int32)))])) _
    refine XS.ifNo X24.here hx rfl (hb hby d3_93) rfl ((if0 _ _).trans (teq ht8).2) ?_
    show Steps p.tables e below (T24.setTop (mkF m 96 #[.val (.int p1)] [])) _
    refine XS.iloadN X24.here hx rfl (hb hby d3_96) rfl ?_
    show Steps p.tables e below (T24.setTop (mkF m 97 #[.val (.int p1)] [(.int p1)])) _
    refine XS.sipush X24.here hx rfl (hb hby d3_97) ?_
    show Steps p.tables e below (T24.setTop (mkF m 100 #[.val (.int p1)] [(.int (895 : Int32)), (.int p1)])) _
    refine XS.sipush X24.here hx rfl (hb hby d3_100) ?_
    exact Steps.refl _)
  obtain ⟨_, _, ⟨T27, L27, k27, n27⟩, -, X27, ⟨Lc27, hQ27, l27, y27, z27⟩, st27⟩ := Jvm.LawKit.callS X24 hx (y := (⟨"com/example/summarium/summarium/cda/XmlNamesIsNameCharPinLaw", "in", "(III)Z"⟩ : MethodName)) hown (mvT hZ (hw _ (List.mem_of_getElem? (i := 24) rfl))) (mvT hZ (hw _ (List.mem_of_getElem? (i := 25) rfl))) (mvT hZ (hw _ (List.mem_of_getElem? (i := 22) rfl))) (mvT hZ (hw _ (List.mem_of_getElem? (i := 26) rfl))) (by decide) (backOf (W := 0) (rmI l Z a0 hw [] p1 (895 : Int32) (8191 : Int32) h0 n0 Z0) hZ (hw _ (List.mem_of_getElem? (i := 26) rfl)) (hw _ (List.mem_of_getElem? (i := 22) rfl)) (by decide) (by decide)) (g := (mkF m 103 #[.val (.int p1)] [(.int (8191 : Int32)), (.int (895 : Int32)), (.int p1)])) rfl (by rw [hml]; rfl) (argsL := [(.int p1), (.int (895 : Int32)), (.int (8191 : Int32))]) (rest := []) (lenOf pd_rmR_0 rfl) rfl (by show 2 * 0 + _ ≤ _; exact Nat.le_of_eq rfl) (hb hby d3_103) (fun _ _ => ⟨rfl, hh24, (by decide : 0 + 0 ≤ _), (by decide : 0 + 0 ≤ _)⟩)
  dsimp only [Pt.U, Pt.locs, Pt.cells, Pt.slots] at X27 l27 y27 z27 st27 hQ27
  subst l27 y27 z27
  obtain ⟨rfl, N27q, hh27⟩ := hQ27
  have N27 := Fr.app N24 N27q
  have pre27 : Steps p.tables e below _ (T27.setTop (mkF m 106 #[.val (.int p1)] [(.int (own_in_0_4 p1 (895 : Int32) (8191 : Int32)))])) := pre26.trans (st27 _ (Steps.refl _))
  rcases (Decidable.em ((own_in_0_4 p1 (895 : Int32) (8191 : Int32)) = (0 : Int32))).symm with ht9 | ht9
  · have hv := hv9.trans (if_neg ht9)
    have pre28 : Steps p.tables e below _ (T27.setTop (mkF m 211 #[.val (.int p1)] [(.int (1 : Int32))])) := pre27.trans (by
      show Steps p.tables e below (T27.setTop (mkF m 106 #[.val (.int p1)] [(.int (own_in_0_4 p1 (895 : Int32) (8191 : Int32)))])) _
      refine XS.ifYes X27.here hx rfl (pc0 := 106) (pc' := 206) rfl (hb hby d3_106) rfl ((if0 _ _).trans (feq ht9).2) (by decide) (by decide) ?_
      show Steps p.tables e below (T27.setTop (mkF m 206 #[.val (.int p1)] [])) _
      refine XS.iconst X27.here hx rfl (hb hby d3_206) ?_
      show Steps p.tables e below (T27.setTop (mkF m 207 #[.val (.int p1)] [(.int (1 : Int32))])) _
      refine XS.goto X27.here hx rfl (pc0 := 207) (pc' := 211) rfl (hb hby d3_207) (by decide) (by decide) ?_
      exact Steps.refl _)
    obtain ⟨fs, hr, hrun, hended, hW, hsame⟩ := X27.leave (v := some (.int (1 : Int32))) (fun h => by rw [Bd.returns] at h; cases h)
    refine ⟨_, _, pre28.trans ?_, hrun, hended, _, _, rfl, ?_, ⟨_, rfl⟩, hW, hsame.mono (by decide) (by decide)⟩
    · exact retN X27 hx (t := .boolean) Bd.returns (by simp) (hb hby d3_211) hr
    · exact ⟨by rw [hv], N27, hh27⟩
  have hv10 := hv9.trans (if_pos ht9)
  have pre29 : Steps p.tables e below _ (T27.setTop (mkF m 116 #[.val (.int p1)] [(.int (8205 : Int32)), (.int (8204 : Int32)), (.int p1)])) := pre27.trans (by
    show Steps p.tables e below (T27.setTop (mkF m 106 #[.val (.int p1)] [(.int (own_in_0_4 p1 (895 : Int32) (8191 : Int32)))])) _
    refine XS.ifNo X27.here hx rfl (hb hby d3_106) rfl ((if0 _ _).trans (teq ht9).2) ?_
    show Steps p.tables e below (T27.setTop (mkF m 109 #[.val (.int p1)] [])) _
    refine XS.iloadN X27.here hx rfl (hb hby d3_109) rfl ?_
    show Steps p.tables e below (T27.setTop (mkF m 110 #[.val (.int p1)] [(.int p1)])) _
    refine XS.sipush X27.here hx rfl (hb hby d3_110) ?_
    show Steps p.tables e below (T27.setTop (mkF m 113 #[.val (.int p1)] [(.int (8204 : Int32)), (.int p1)])) _
    refine XS.sipush X27.here hx rfl (hb hby d3_113) ?_
    exact Steps.refl _)
  obtain ⟨_, _, ⟨T30, L30, k30, n30⟩, -, X30, ⟨Lc30, hQ30, l30, y30, z30⟩, st30⟩ := Jvm.LawKit.callS X27 hx (y := (⟨"com/example/summarium/summarium/cda/XmlNamesIsNameCharPinLaw", "in", "(III)Z"⟩ : MethodName)) hown (mvT hZ (hw _ (List.mem_of_getElem? (i := 24) rfl))) (mvT hZ (hw _ (List.mem_of_getElem? (i := 25) rfl))) (mvT hZ (hw _ (List.mem_of_getElem? (i := 22) rfl))) (mvT hZ (hw _ (List.mem_of_getElem? (i := 26) rfl))) (by decide) (backOf (W := 0) (rmI l Z a0 hw [] p1 (8204 : Int32) (8205 : Int32) h0 n0 Z0) hZ (hw _ (List.mem_of_getElem? (i := 26) rfl)) (hw _ (List.mem_of_getElem? (i := 22) rfl)) (by decide) (by decide)) (g := (mkF m 116 #[.val (.int p1)] [(.int (8205 : Int32)), (.int (8204 : Int32)), (.int p1)])) rfl (by rw [hml]; rfl) (argsL := [(.int p1), (.int (8204 : Int32)), (.int (8205 : Int32))]) (rest := []) (lenOf pd_rmR_0 rfl) rfl (by show 2 * 0 + _ ≤ _; exact Nat.le_of_eq rfl) (hb hby d3_116) (fun _ _ => ⟨rfl, hh27, (by decide : 0 + 0 ≤ _), (by decide : 0 + 0 ≤ _)⟩)
  dsimp only [Pt.U, Pt.locs, Pt.cells, Pt.slots] at X30 l30 y30 z30 st30 hQ30
  subst l30 y30 z30
  obtain ⟨rfl, N30q, hh30⟩ := hQ30
  have N30 := Fr.app N27 N30q
  have pre30 : Steps p.tables e below _ (T30.setTop (mkF m 119 #[.val (.int p1)] [(.int (own_in_0_4 p1 (8204 : Int32) (8205 : Int32)))])) := pre29.trans (st30 _ (Steps.refl _))
  rcases (Decidable.em ((own_in_0_4 p1 (8204 : Int32) (8205 : Int32)) = (0 : Int32))).symm with ht10 | ht10
  · have hv := hv10.trans (if_neg ht10)
    have pre31 : Steps p.tables e below _ (T30.setTop (mkF m 211 #[.val (.int p1)] [(.int (1 : Int32))])) := pre30.trans (by
      show Steps p.tables e below (T30.setTop (mkF m 119 #[.val (.int p1)] [(.int (own_in_0_4 p1 (8204 : Int32) (8205 : Int32)))])) _
      refine XS.ifYes X30.here hx rfl (pc0 := 119) (pc' := 206) rfl (hb hby d3_119) rfl ((if0 _ _).trans (feq ht10).2) (by decide) (by decide) ?_
      show Steps p.tables e below (T30.setTop (mkF m 206 #[.val (.int p1)] [])) _
      refine XS.iconst X30.here hx rfl (hb hby d3_206) ?_
      show Steps p.tables e below (T30.setTop (mkF m 207 #[.val (.int p1)] [(.int (1 : Int32))])) _
      refine XS.goto X30.here hx rfl (pc0 := 207) (pc' := 211) rfl (hb hby d3_207) (by decide) (by decide) ?_
      exact Steps.refl _)
    obtain ⟨fs, hr, hrun, hended, hW, hsame⟩ := X30.leave (v := some (.int (1 : Int32))) (fun h => by rw [Bd.returns] at h; cases h)
    refine ⟨_, _, pre31.trans ?_, hrun, hended, _, _, rfl, ?_, ⟨_, rfl⟩, hW, hsame.mono (by decide) (by decide)⟩
    · exact retN X30 hx (t := .boolean) Bd.returns (by simp) (hb hby d3_211) hr
    · exact ⟨by rw [hv], N30, hh30⟩
  have hv11 := hv10.trans (if_pos ht10)
  have pre32 : Steps p.tables e below _ (T30.setTop (mkF m 129 #[.val (.int p1)] [(.int (8256 : Int32)), (.int (8255 : Int32)), (.int p1)])) := pre30.trans (by
    show Steps p.tables e below (T30.setTop (mkF m 119 #[.val (.int p1)] [(.int (own_in_0_4 p1 (8204 : Int32) (8205 : Int32)))])) _
    refine XS.ifNo X30.here hx rfl (hb hby d3_119) rfl ((if0 _ _).trans (teq ht10).2) ?_
    show Steps p.tables e below (T30.setTop (mkF m 122 #[.val (.int p1)] [])) _
    refine XS.iloadN X30.here hx rfl (hb hby d3_122) rfl ?_
    show Steps p.tables e below (T30.setTop (mkF m 123 #[.val (.int p1)] [(.int p1)])) _
    refine XS.sipush X30.here hx rfl (hb hby d3_123) ?_
    show Steps p.tables e below (T30.setTop (mkF m 126 #[.val (.int p1)] [(.int (8255 : Int32)), (.int p1)])) _
    refine XS.sipush X30.here hx rfl (hb hby d3_126) ?_
    exact Steps.refl _)
  obtain ⟨_, _, ⟨T33, L33, k33, n33⟩, -, X33, ⟨Lc33, hQ33, l33, y33, z33⟩, st33⟩ := Jvm.LawKit.callS X30 hx (y := (⟨"com/example/summarium/summarium/cda/XmlNamesIsNameCharPinLaw", "in", "(III)Z"⟩ : MethodName)) hown (mvT hZ (hw _ (List.mem_of_getElem? (i := 24) rfl))) (mvT hZ (hw _ (List.mem_of_getElem? (i := 25) rfl))) (mvT hZ (hw _ (List.mem_of_getElem? (i := 22) rfl))) (mvT hZ (hw _ (List.mem_of_getElem? (i := 26) rfl))) (by decide) (backOf (W := 0) (rmI l Z a0 hw [] p1 (8255 : Int32) (8256 : Int32) h0 n0 Z0) hZ (hw _ (List.mem_of_getElem? (i := 26) rfl)) (hw _ (List.mem_of_getElem? (i := 22) rfl)) (by decide) (by decide)) (g := (mkF m 129 #[.val (.int p1)] [(.int (8256 : Int32)), (.int (8255 : Int32)), (.int p1)])) rfl (by rw [hml]; rfl) (argsL := [(.int p1), (.int (8255 : Int32)), (.int (8256 : Int32))]) (rest := []) (lenOf pd_rmR_0 rfl) rfl (by show 2 * 0 + _ ≤ _; exact Nat.le_of_eq rfl) (hb hby d3_129) (fun _ _ => ⟨rfl, hh30, (by decide : 0 + 0 ≤ _), (by decide : 0 + 0 ≤ _)⟩)
  dsimp only [Pt.U, Pt.locs, Pt.cells, Pt.slots] at X33 l33 y33 z33 st33 hQ33
  subst l33 y33 z33
  obtain ⟨rfl, N33q, hh33⟩ := hQ33
  have N33 := Fr.app N30 N33q
  have pre33 : Steps p.tables e below _ (T33.setTop (mkF m 132 #[.val (.int p1)] [(.int (own_in_0_4 p1 (8255 : Int32) (8256 : Int32)))])) := pre32.trans (st33 _ (Steps.refl _))
  rcases (Decidable.em ((own_in_0_4 p1 (8255 : Int32) (8256 : Int32)) = (0 : Int32))).symm with ht11 | ht11
  · have hv := hv11.trans (if_neg ht11)
    have pre34 : Steps p.tables e below _ (T33.setTop (mkF m 211 #[.val (.int p1)] [(.int (1 : Int32))])) := pre33.trans (by
      show Steps p.tables e below (T33.setTop (mkF m 132 #[.val (.int p1)] [(.int (own_in_0_4 p1 (8255 : Int32) (8256 : Int32)))])) _
      refine XS.ifYes X33.here hx rfl (pc0 := 132) (pc' := 206) rfl (hb hby d3_132) rfl ((if0 _ _).trans (feq ht11).2) (by decide) (by decide) ?_
      show Steps p.tables e below (T33.setTop (mkF m 206 #[.val (.int p1)] [])) _
      refine XS.iconst X33.here hx rfl (hb hby d3_206) ?_
      show Steps p.tables e below (T33.setTop (mkF m 207 #[.val (.int p1)] [(.int (1 : Int32))])) _
      refine XS.goto X33.here hx rfl (pc0 := 207) (pc' := 211) rfl (hb hby d3_207) (by decide) (by decide) ?_
      exact Steps.refl _)
    obtain ⟨fs, hr, hrun, hended, hW, hsame⟩ := X33.leave (v := some (.int (1 : Int32))) (fun h => by rw [Bd.returns] at h; cases h)
    refine ⟨_, _, pre34.trans ?_, hrun, hended, _, _, rfl, ?_, ⟨_, rfl⟩, hW, hsame.mono (by decide) (by decide)⟩
    · exact retN X33 hx (t := .boolean) Bd.returns (by simp) (hb hby d3_211) hr
    · exact ⟨by rw [hv], N33, hh33⟩
  have hv12 := hv11.trans (if_pos ht11)
  have pre35 : Steps p.tables e below _ (T33.setTop (mkF m 142 #[.val (.int p1)] [(.int (8591 : Int32)), (.int (8304 : Int32)), (.int p1)])) := pre33.trans (by
    show Steps p.tables e below (T33.setTop (mkF m 132 #[.val (.int p1)] [(.int (own_in_0_4 p1 (8255 : Int32) (8256 : Int32)))])) _
    refine XS.ifNo X33.here hx rfl (hb hby d3_132) rfl ((if0 _ _).trans (teq ht11).2) ?_
    show Steps p.tables e below (T33.setTop (mkF m 135 #[.val (.int p1)] [])) _
    refine XS.iloadN X33.here hx rfl (hb hby d3_135) rfl ?_
    show Steps p.tables e below (T33.setTop (mkF m 136 #[.val (.int p1)] [(.int p1)])) _
    refine XS.sipush X33.here hx rfl (hb hby d3_136) ?_
    show Steps p.tables e below (T33.setTop (mkF m 139 #[.val (.int p1)] [(.int (8304 : Int32)), (.int p1)])) _
    refine XS.sipush X33.here hx rfl (hb hby d3_139) ?_
    exact Steps.refl _)
  obtain ⟨_, _, ⟨T36, L36, k36, n36⟩, -, X36, ⟨Lc36, hQ36, l36, y36, z36⟩, st36⟩ := Jvm.LawKit.callS X33 hx (y := (⟨"com/example/summarium/summarium/cda/XmlNamesIsNameCharPinLaw", "in", "(III)Z"⟩ : MethodName)) hown (mvT hZ (hw _ (List.mem_of_getElem? (i := 24) rfl))) (mvT hZ (hw _ (List.mem_of_getElem? (i := 25) rfl))) (mvT hZ (hw _ (List.mem_of_getElem? (i := 22) rfl))) (mvT hZ (hw _ (List.mem_of_getElem? (i := 26) rfl))) (by decide) (backOf (W := 0) (rmI l Z a0 hw [] p1 (8304 : Int32) (8591 : Int32) h0 n0 Z0) hZ (hw _ (List.mem_of_getElem? (i := 26) rfl)) (hw _ (List.mem_of_getElem? (i := 22) rfl)) (by decide) (by decide)) (g := (mkF m 142 #[.val (.int p1)] [(.int (8591 : Int32)), (.int (8304 : Int32)), (.int p1)])) rfl (by rw [hml]; rfl) (argsL := [(.int p1), (.int (8304 : Int32)), (.int (8591 : Int32))]) (rest := []) (lenOf pd_rmR_0 rfl) rfl (by show 2 * 0 + _ ≤ _; exact Nat.le_of_eq rfl) (hb hby d3_142) (fun _ _ => ⟨rfl, hh33, (by decide : 0 + 0 ≤ _), (by decide : 0 + 0 ≤ _)⟩)
  dsimp only [Pt.U, Pt.locs, Pt.cells, Pt.slots] at X36 l36 y36 z36 st36 hQ36
  subst l36 y36 z36
  obtain ⟨rfl, N36q, hh36⟩ := hQ36
  have N36 := Fr.app N33 N36q
  have pre36 : Steps p.tables e below _ (T36.setTop (mkF m 145 #[.val (.int p1)] [(.int (own_in_0_4 p1 (8304 : Int32) (8591 : Int32)))])) := pre35.trans (st36 _ (Steps.refl _))
  rcases (Decidable.em ((own_in_0_4 p1 (8304 : Int32) (8591 : Int32)) = (0 : Int32))).symm with ht12 | ht12
  · have hv := hv12.trans (if_neg ht12)
    have pre37 : Steps p.tables e below _ (T36.setTop (mkF m 211 #[.val (.int p1)] [(.int (1 : Int32))])) := pre36.trans (by
      show Steps p.tables e below (T36.setTop (mkF m 145 #[.val (.int p1)] [(.int (own_in_0_4 p1 (8304 : Int32) (8591 : Int32)))])) _
      refine XS.ifYes X36.here hx rfl (pc0 := 145) (pc' := 206) rfl (hb hby d3_145) rfl ((if0 _ _).trans (feq ht12).2) (by decide) (by decide) ?_
      show Steps p.tables e below (T36.setTop (mkF m 206 #[.val (.int p1)] [])) _
      refine XS.iconst X36.here hx rfl (hb hby d3_206) ?_
      show Steps p.tables e below (T36.setTop (mkF m 207 #[.val (.int p1)] [(.int (1 : Int32))])) _
      refine XS.goto X36.here hx rfl (pc0 := 207) (pc' := 211) rfl (hb hby d3_207) (by decide) (by decide) ?_
      exact Steps.refl _)
    obtain ⟨fs, hr, hrun, hended, hW, hsame⟩ := X36.leave (v := some (.int (1 : Int32))) (fun h => by rw [Bd.returns] at h; cases h)
    refine ⟨_, _, pre37.trans ?_, hrun, hended, _, _, rfl, ?_, ⟨_, rfl⟩, hW, hsame.mono (by decide) (by decide)⟩
    · exact retN X36 hx (t := .boolean) Bd.returns (by simp) (hb hby d3_211) hr
    · exact ⟨by rw [hv], N36, hh36⟩
  have hv13 := hv12.trans (if_pos ht12)
  have pre38 : Steps p.tables e below _ (T36.setTop (mkF m 155 #[.val (.int p1)] [(.int (12271 : Int32)), (.int (11264 : Int32)), (.int p1)])) := pre36.trans (by
    show Steps p.tables e below (T36.setTop (mkF m 145 #[.val (.int p1)] [(.int (own_in_0_4 p1 (8304 : Int32) (8591 : Int32)))])) _
    refine XS.ifNo X36.here hx rfl (hb hby d3_145) rfl ((if0 _ _).trans (teq ht12).2) ?_
    show Steps p.tables e below (T36.setTop (mkF m 148 #[.val (.int p1)] [])) _
    refine XS.iloadN X36.here hx rfl (hb hby d3_148) rfl ?_
    show Steps p.tables e below (T36.setTop (mkF m 149 #[.val (.int p1)] [(.int p1)])) _
    refine XS.sipush X36.here hx rfl (hb hby d3_149) ?_
    show Steps p.tables e below (T36.setTop (mkF m 152 #[.val (.int p1)] [(.int (11264 : Int32)), (.int p1)])) _
    refine XS.sipush X36.here hx rfl (hb hby d3_152) ?_
    exact Steps.refl _)
  obtain ⟨_, _, ⟨T39, L39, k39, n39⟩, -, X39, ⟨Lc39, hQ39, l39, y39, z39⟩, st39⟩ := Jvm.LawKit.callS X36 hx (y := (⟨"com/example/summarium/summarium/cda/XmlNamesIsNameCharPinLaw", "in", "(III)Z"⟩ : MethodName)) hown (mvT hZ (hw _ (List.mem_of_getElem? (i := 24) rfl))) (mvT hZ (hw _ (List.mem_of_getElem? (i := 25) rfl))) (mvT hZ (hw _ (List.mem_of_getElem? (i := 22) rfl))) (mvT hZ (hw _ (List.mem_of_getElem? (i := 26) rfl))) (by decide) (backOf (W := 0) (rmI l Z a0 hw [] p1 (11264 : Int32) (12271 : Int32) h0 n0 Z0) hZ (hw _ (List.mem_of_getElem? (i := 26) rfl)) (hw _ (List.mem_of_getElem? (i := 22) rfl)) (by decide) (by decide)) (g := (mkF m 155 #[.val (.int p1)] [(.int (12271 : Int32)), (.int (11264 : Int32)), (.int p1)])) rfl (by rw [hml]; rfl) (argsL := [(.int p1), (.int (11264 : Int32)), (.int (12271 : Int32))]) (rest := []) (lenOf pd_rmR_0 rfl) rfl (by show 2 * 0 + _ ≤ _; exact Nat.le_of_eq rfl) (hb hby d3_155) (fun _ _ => ⟨rfl, hh36, (by decide : 0 + 0 ≤ _), (by decide : 0 + 0 ≤ _)⟩)
  dsimp only [Pt.U, Pt.locs, Pt.cells, Pt.slots] at X39 l39 y39 z39 st39 hQ39
  subst l39 y39 z39
  obtain ⟨rfl, N39q, hh39⟩ := hQ39
  have N39 := Fr.app N36 N39q
  have pre39 : Steps p.tables e below _ (T39.setTop (mkF m 158 #[.val (.int p1)] [(.int (own_in_0_4 p1 (11264 : Int32) (12271 : Int32)))])) := pre38.trans (st39 _ (Steps.refl _))
  rcases (Decidable.em ((own_in_0_4 p1 (11264 : Int32) (12271 : Int32)) = (0 : Int32))).symm with ht13 | ht13
  · have hv := hv13.trans (if_neg ht13)
    have pre40 : Steps p.tables e below _ (T39.setTop (mkF m 211 #[.val (.int p1)] [(.int (1 : Int32))])) := pre39.trans (by
      show Steps p.tables e below (T39.setTop (mkF m 158 #[.val (.int p1)] [(.int (own_in_0_4 p1 (11264 : Int32) (12271 : Int32)))])) _
      refine XS.ifYes X39.here hx rfl (pc0 := 158) (pc' := 206) rfl (hb hby d3_158) rfl ((if0 _ _).trans (feq ht13).2) (by decide) (by decide) ?_
      show Steps p.tables e below (T39.setTop (mkF m 206 #[.val (.int p1)] [])) _
      refine XS.iconst X39.here hx rfl (hb hby d3_206) ?_
      show Steps p.tables e below (T39.setTop (mkF m 207 #[.val (.int p1)] [(.int (1 : Int32))])) _
      refine XS.goto X39.here hx rfl (pc0 := 207) (pc' := 211) rfl (hb hby d3_207) (by decide) (by decide) ?_
      exact Steps.refl _)
    obtain ⟨fs, hr, hrun, hended, hW, hsame⟩ := X39.leave (v := some (.int (1 : Int32))) (fun h => by rw [Bd.returns] at h; cases h)
    refine ⟨_, _, pre40.trans ?_, hrun, hended, _, _, rfl, ?_, ⟨_, rfl⟩, hW, hsame.mono (by decide) (by decide)⟩
    · exact retN X39 hx (t := .boolean) Bd.returns (by simp) (hb hby d3_211) hr
    · exact ⟨by rw [hv], N39, hh39⟩
  have hv14 := hv13.trans (if_pos ht13)
  have pre41 : Steps p.tables e below _ (T39.setTop (mkF m 167 #[.val (.int p1)] [(.int (55295 : Int32)), (.int (12289 : Int32)), (.int p1)])) := pre39.trans (by
    show Steps p.tables e below (T39.setTop (mkF m 158 #[.val (.int p1)] [(.int (own_in_0_4 p1 (11264 : Int32) (12271 : Int32)))])) _
    refine XS.ifNo X39.here hx rfl (hb hby d3_158) rfl ((if0 _ _).trans (teq ht13).2) ?_
    show Steps p.tables e below (T39.setTop (mkF m 161 #[.val (.int p1)] [])) _
    refine XS.iloadN X39.here hx rfl (hb hby d3_161) rfl ?_
    show Steps p.tables e below (T39.setTop (mkF m 162 #[.val (.int p1)] [(.int p1)])) _
    refine XS.sipush X39.here hx rfl (hb hby d3_162) ?_
    show Steps p.tables e below (T39.setTop (mkF m 165 #[.val (.int p1)] [(.int (12289 : Int32)), (.int p1)])) _
    refine X39.ldcInt hx hown (mvT hZ (hw _ (List.mem_of_getElem? (i := 1) rfl))) (g := (mkF m 165 #[.val (.int p1)] [(.int (12289 : Int32)), (.int p1)])) rfl (hb hby d3_165) _ ?_
    exact Steps.refl _)
  obtain ⟨_, _, ⟨T42, L42, k42, n42⟩, -, X42, ⟨Lc42, hQ42, l42, y42, z42⟩, st42⟩ := Jvm.LawKit.callS X39 hx (y := (⟨"com/example/summarium/summarium/cda/XmlNamesIsNameCharPinLaw", "in", "(III)Z"⟩ : MethodName)) hown (mvT hZ (hw _ (List.mem_of_getElem? (i := 24) rfl))) (mvT hZ (hw _ (List.mem_of_getElem? (i := 25) rfl))) (mvT hZ (hw _ (List.mem_of_getElem? (i := 22) rfl))) (mvT hZ (hw _ (List.mem_of_getElem? (i := 26) rfl))) (by decide) (backOf (W := 0) (rmI l Z a0 hw [] p1 (12289 : Int32) (55295 : Int32) h0 n0 Z0) hZ (hw _ (List.mem_of_getElem? (i := 26) rfl)) (hw _ (List.mem_of_getElem? (i := 22) rfl)) (by decide) (by decide)) (g := (mkF m 167 #[.val (.int p1)] [(.int (55295 : Int32)), (.int (12289 : Int32)), (.int p1)])) rfl (by rw [hml]; rfl) (argsL := [(.int p1), (.int (12289 : Int32)), (.int (55295 : Int32))]) (rest := []) (lenOf pd_rmR_0 rfl) rfl (by show 2 * 0 + _ ≤ _; exact Nat.le_of_eq rfl) (hb hby d3_167) (fun _ _ => ⟨rfl, hh39, (by decide : 0 + 0 ≤ _), (by decide : 0 + 0 ≤ _)⟩)
  dsimp only [Pt.U, Pt.locs, Pt.cells, Pt.slots] at X42 l42 y42 z42 st42 hQ42
  subst l42 y42 z42
  obtain ⟨rfl, N42q, hh42⟩ := hQ42
  have N42 := Fr.app N39 N42q
  have pre42 : Steps p.tables e below _ (T42.setTop (mkF m 170 #[.val (.int p1)] [(.int (own_in_0_4 p1 (12289 : Int32) (55295 : Int32)))])) := pre41.trans (st42 _ (Steps.refl _))
  rcases (Decidable.em ((own_in_0_4 p1 (12289 : Int32) (55295 : Int32)) = (0 : Int32))).symm with ht14 | ht14
  · have hv := hv14.trans (if_neg ht14)
    have pre43 : Steps p.tables e below _ (T42.setTop (mkF m 211 #[.val (.int p1)] [(.int (1 : Int32))])) := pre42.trans (by
      show Steps p.tables e below (T42.setTop (mkF m 170 #[.val (.int p1)] [(.int (own_in_0_4 p1 (12289 : Int32) (55295 : Int32)))])) _
      refine XS.ifYes X42.here hx rfl (pc0 := 170) (pc' := 206) rfl (hb hby d3_170) rfl ((if0 _ _).trans (feq ht14).2) (by decide) (by decide) ?_
      show Steps p.tables e below (T42.setTop (mkF m 206 #[.val (.int p1)] [])) _
      refine XS.iconst X42.here hx rfl (hb hby d3_206) ?_
      show Steps p.tables e below (T42.setTop (mkF m 207 #[.val (.int p1)] [(.int (1 : Int32))])) _
      refine XS.goto X42.here hx rfl (pc0 := 207) (pc' := 211) rfl (hb hby d3_207) (by decide) (by decide) ?_
      exact Steps.refl _)
    obtain ⟨fs, hr, hrun, hended, hW, hsame⟩ := X42.leave (v := some (.int (1 : Int32))) (fun h => by rw [Bd.returns] at h; cases h)
    refine ⟨_, _, pre43.trans ?_, hrun, hended, _, _, rfl, ?_, ⟨_, rfl⟩, hW, hsame.mono (by decide) (by decide)⟩
    · exact retN X42 hx (t := .boolean) Bd.returns (by simp) (hb hby d3_211) hr
    · exact ⟨by rw [hv], N42, hh42⟩
  have hv15 := hv14.trans (if_pos ht14)
  have pre44 : Steps p.tables e below _ (T42.setTop (mkF m 178 #[.val (.int p1)] [(.int (64975 : Int32)), (.int (63744 : Int32)), (.int p1)])) := pre42.trans (by
    show Steps p.tables e below (T42.setTop (mkF m 170 #[.val (.int p1)] [(.int (own_in_0_4 p1 (12289 : Int32) (55295 : Int32)))])) _
    refine XS.ifNo X42.here hx rfl (hb hby d3_170) rfl ((if0 _ _).trans (teq ht14).2) ?_
    show Steps p.tables e below (T42.setTop (mkF m 173 #[.val (.int p1)] [])) _
    refine XS.iloadN X42.here hx rfl (hb hby d3_173) rfl ?_
    show Steps p.tables e below (T42.setTop (mkF m 174 #[.val (.int p1)] [(.int p1)])) _
    refine X42.ldcInt hx hown (mvT hZ (hw _ (List.mem_of_getElem? (i := 2) rfl))) (g := (mkF m 174 #[.val (.int p1)] [(.int p1)])) rfl (hb hby d3_174) _ ?_
    show Steps p.tables e below (T42.setTop (mkF m 176 #[.val (.int p1)] [(.int (63744 : Int32)), (.int p1)])) _
    refine X42.ldcInt hx hown (mvT hZ (hw _ (List.mem_of_getElem? (i := 3) rfl))) (g := (mkF m 176 #[.val (.int p1)] [(.int (63744 : Int32)), (.int p1)])) rfl (hb hby d3_176) _ ?_
    exact Steps.refl _)
  obtain ⟨_, _, ⟨T45, L45, k45, n45⟩, -, X45, ⟨Lc45, hQ45, l45, y45, z45⟩, st45⟩ := Jvm.LawKit.callS X42 hx (y := (⟨"com/example/summarium/summarium/cda/XmlNamesIsNameCharPinLaw", "in", "(III)Z"⟩ : MethodName)) hown (mvT hZ (hw _ (List.mem_of_getElem? (i := 24) rfl))) (mvT hZ (hw _ (List.mem_of_getElem? (i := 25) rfl))) (mvT hZ (hw _ (List.mem_of_getElem? (i := 22) rfl))) (mvT hZ (hw _ (List.mem_of_getElem? (i := 26) rfl))) (by decide) (backOf (W := 0) (rmI l Z a0 hw [] p1 (63744 : Int32) (64975 : Int32) h0 n0 Z0) hZ (hw _ (List.mem_of_getElem? (i := 26) rfl)) (hw _ (List.mem_of_getElem? (i := 22) rfl)) (by decide) (by decide)) (g := (mkF m 178 #[.val (.int p1)] [(.int (64975 : Int32)), (.int (63744 : Int32)), (.int p1)])) rfl (by rw [hml]; rfl) (argsL := [(.int p1), (.int (63744 : Int32)), (.int (64975 : Int32))]) (rest := []) (lenOf pd_rmR_0 rfl) rfl (by show 2 * 0 + _ ≤ _; exact Nat.le_of_eq rfl) (hb hby d3_178) (fun _ _ => ⟨rfl, hh42, (by decide : 0 + 0 ≤ _), (by decide : 0 + 0 ≤ _)⟩)
  dsimp only [Pt.U, Pt.locs, Pt.cells, Pt.slots] at X45 l45 y45 z45 st45 hQ45
  subst l45 y45 z45
  obtain ⟨rfl, N45q, hh45⟩ := hQ45
  have N45 := Fr.app N42 N45q
  have pre45 : Steps p.tables e below _ (T45.setTop (mkF m 181 #[.val (.int p1)] [(.int (own_in_0_4 p1 (63744 : Int32) (64975 : Int32)))])) := pre44.trans (st45 _ (Steps.refl _))
  rcases (Decidable.em ((own_in_0_4 p1 (63744 : Int32) (64975 : Int32)) = (0 : Int32))).symm with ht15 | ht15
  · have hv := hv15.trans (if_neg ht15)
    have pre46 : Steps p.tables e below _ (T45.setTop (mkF m 211 #[.val (.int p1)] [(.int (1 : Int32))])) := pre45.trans (by
      show Steps p.tables e below (T45.setTop (mkF m 181 #[.val (.int p1)] [(.int (own_in_0_4 p1 (63744 : Int32) (64975 : Int32)))])) _
      refine XS.ifYes X45.here hx rfl (pc0 := 181) (pc' := 206) rfl (hb hby d3_181) rfl ((if0 _ _).trans (feq ht15).2) (by decide) (by decide) ?_
      show Steps p.tables e below (T45.setTop (mkF m 206 #[.val (.int p1)] [])) _
      refine XS.iconst X45.here hx rfl (hb hby d3_206) ?_
      show Steps p.tables e below (T45.setTop (mkF m 207 #[.val (.int p1)] [(.int (1 : Int32))])) _
      refine XS.goto X45.here hx rfl (pc0 := 207) (pc' := 211) rfl (hb hby d3_207) (by decide) (by decide) ?_
      exact Steps.refl _)
    obtain ⟨fs, hr, hrun, hended, hW, hsame⟩ := X45.leave (v := some (.int (1 : Int32))) (fun h => by rw [Bd.returns] at h; cases h)
    refine ⟨_, _, pre46.trans ?_, hrun, hended, _, _, rfl, ?_, ⟨_, rfl⟩, hW, hsame.mono (by decide) (by decide)⟩
    · exact retN X45 hx (t := .boolean) Bd.returns (by simp) (hb hby d3_211) hr
    · exact ⟨by rw [hv], N45, hh45⟩
  have hv16 := hv15.trans (if_pos ht15)
  have pre47 : Steps p.tables e below _ (T45.setTop (mkF m 189 #[.val (.int p1)] [(.int (65533 : Int32)), (.int (65008 : Int32)), (.int p1)])) := pre45.trans (by
    show Steps p.tables e below (T45.setTop (mkF m 181 #[.val (.int p1)] [(.int (own_in_0_4 p1 (63744 : Int32) (64975 : Int32)))])) _
    refine XS.ifNo X45.here hx rfl (hb hby d3_181) rfl ((if0 _ _).trans (teq ht15).2) ?_
    show Steps p.tables e below (T45.setTop (mkF m 184 #[.val (.int p1)] [])) _
    refine XS.iloadN X45.here hx rfl (hb hby d3_184) rfl ?_
    show Steps p.tables e below (T45.setTop (mkF m 185 #[.val (.int p1)] [(.int p1)])) _
    refine X45.ldcInt hx hown (mvT hZ (hw _ (List.mem_of_getElem? (i := 4) rfl))) (g := (mkF m 185 #[.val (.int p1)] [(.int p1)])) rfl (hb hby d3_185) _ ?_
    show Steps p.tables e below (T45.setTop (mkF m 187 #[.val (.int p1)] [(.int (65008 : Int32)), (.int p1)])) _
    refine X45.ldcInt hx hown (mvT hZ (hw _ (List.mem_of_getElem? (i := 5) rfl))) (g := (mkF m 187 #[.val (.int p1)] [(.int (65008 : Int32)), (.int p1)])) rfl (hb hby d3_187) _ ?_
    exact Steps.refl _)
  obtain ⟨_, _, ⟨T48, L48, k48, n48⟩, -, X48, ⟨Lc48, hQ48, l48, y48, z48⟩, st48⟩ := Jvm.LawKit.callS X45 hx (y := (⟨"com/example/summarium/summarium/cda/XmlNamesIsNameCharPinLaw", "in", "(III)Z"⟩ : MethodName)) hown (mvT hZ (hw _ (List.mem_of_getElem? (i := 24) rfl))) (mvT hZ (hw _ (List.mem_of_getElem? (i := 25) rfl))) (mvT hZ (hw _ (List.mem_of_getElem? (i := 22) rfl))) (mvT hZ (hw _ (List.mem_of_getElem? (i := 26) rfl))) (by decide) (backOf (W := 0) (rmI l Z a0 hw [] p1 (65008 : Int32) (65533 : Int32) h0 n0 Z0) hZ (hw _ (List.mem_of_getElem? (i := 26) rfl)) (hw _ (List.mem_of_getElem? (i := 22) rfl)) (by decide) (by decide)) (g := (mkF m 189 #[.val (.int p1)] [(.int (65533 : Int32)), (.int (65008 : Int32)), (.int p1)])) rfl (by rw [hml]; rfl) (argsL := [(.int p1), (.int (65008 : Int32)), (.int (65533 : Int32))]) (rest := []) (lenOf pd_rmR_0 rfl) rfl (by show 2 * 0 + _ ≤ _; exact Nat.le_of_eq rfl) (hb hby d3_189) (fun _ _ => ⟨rfl, hh45, (by decide : 0 + 0 ≤ _), (by decide : 0 + 0 ≤ _)⟩)
  dsimp only [Pt.U, Pt.locs, Pt.cells, Pt.slots] at X48 l48 y48 z48 st48 hQ48
  subst l48 y48 z48
  obtain ⟨rfl, N48q, hh48⟩ := hQ48
  have N48 := Fr.app N45 N48q
  have pre48 : Steps p.tables e below _ (T48.setTop (mkF m 192 #[.val (.int p1)] [(.int (own_in_0_4 p1 (65008 : Int32) (65533 : Int32)))])) := pre47.trans (st48 _ (Steps.refl _))
  rcases (Decidable.em ((own_in_0_4 p1 (65008 : Int32) (65533 : Int32)) = (0 : Int32))).symm with ht16 | ht16
  · have hv := hv16.trans (if_neg ht16)
    have pre49 : Steps p.tables e below _ (T48.setTop (mkF m 211 #[.val (.int p1)] [(.int (1 : Int32))])) := pre48.trans (by
      show Steps p.tables e below (T48.setTop (mkF m 192 #[.val (.int p1)] [(.int (own_in_0_4 p1 (65008 : Int32) (65533 : Int32)))])) _
      refine XS.ifYes X48.here hx rfl (pc0 := 192) (pc' := 206) rfl (hb hby d3_192) rfl ((if0 _ _).trans (feq ht16).2) (by decide) (by decide) ?_
      show Steps p.tables e below (T48.setTop (mkF m 206 #[.val (.int p1)] [])) _
      refine XS.iconst X48.here hx rfl (hb hby d3_206) ?_
      show Steps p.tables e below (T48.setTop (mkF m 207 #[.val (.int p1)] [(.int (1 : Int32))])) _
      refine XS.goto X48.here hx rfl (pc0 := 207) (pc' := 211) rfl (hb hby d3_207) (by decide) (by decide) ?_
      exact Steps.refl _)
    obtain ⟨fs, hr, hrun, hended, hW, hsame⟩ := X48.leave (v := some (.int (1 : Int32))) (fun h => by rw [Bd.returns] at h; cases h)
    refine ⟨_, _, pre49.trans ?_, hrun, hended, _, _, rfl, ?_, ⟨_, rfl⟩, hW, hsame.mono (by decide) (by decide)⟩
    · exact retN X48 hx (t := .boolean) Bd.returns (by simp) (hb hby d3_211) hr
    · exact ⟨by rw [hv], N48, hh48⟩
  have hv17 := hv16.trans (if_pos ht16)
  have pre50 : Steps p.tables e below _ (T48.setTop (mkF m 200 #[.val (.int p1)] [(.int (983039 : Int32)), (.int (65536 : Int32)), (.int p1)])) := pre48.trans (by
    show Steps p.tables e below (T48.setTop (mkF m 192 #[.val (.int p1)] [(.int (own_in_0_4 p1 (65008 : Int32) (65533 : Int32)))])) _
    refine XS.ifNo X48.here hx rfl (hb hby d3_192) rfl ((if0 _ _).trans (teq ht16).2) ?_
    show Steps p.tables e below (T48.setTop (mkF m 195 #[.val (.int p1)] [])) _
    refine XS.iloadN X48.here hx rfl (hb hby d3_195) rfl ?_
    show Steps p.tables e below (T48.setTop (mkF m 196 #[.val (.int p1)] [(.int p1)])) _
    refine X48.ldcInt hx hown (mvT hZ (hw _ (List.mem_of_getElem? (i := 6) rfl))) (g := (mkF m 196 #[.val (.int p1)] [(.int p1)])) rfl (hb hby d3_196) _ ?_
    show Steps p.tables e below (T48.setTop (mkF m 198 #[.val (.int p1)] [(.int (65536 : Int32)), (.int p1)])) _
    refine X48.ldcInt hx hown (mvT hZ (hw _ (List.mem_of_getElem? (i := 7) rfl))) (g := (mkF m 198 #[.val (.int p1)] [(.int (65536 : Int32)), (.int p1)])) rfl (hb hby d3_198) _ ?_
    exact Steps.refl _)
  obtain ⟨_, _, ⟨T51, L51, k51, n51⟩, -, X51, ⟨Lc51, hQ51, l51, y51, z51⟩, st51⟩ := Jvm.LawKit.callS X48 hx (y := (⟨"com/example/summarium/summarium/cda/XmlNamesIsNameCharPinLaw", "in", "(III)Z"⟩ : MethodName)) hown (mvT hZ (hw _ (List.mem_of_getElem? (i := 24) rfl))) (mvT hZ (hw _ (List.mem_of_getElem? (i := 25) rfl))) (mvT hZ (hw _ (List.mem_of_getElem? (i := 22) rfl))) (mvT hZ (hw _ (List.mem_of_getElem? (i := 26) rfl))) (by decide) (backOf (W := 0) (rmI l Z a0 hw [] p1 (65536 : Int32) (983039 : Int32) h0 n0 Z0) hZ (hw _ (List.mem_of_getElem? (i := 26) rfl)) (hw _ (List.mem_of_getElem? (i := 22) rfl)) (by decide) (by decide)) (g := (mkF m 200 #[.val (.int p1)] [(.int (983039 : Int32)), (.int (65536 : Int32)), (.int p1)])) rfl (by rw [hml]; rfl) (argsL := [(.int p1), (.int (65536 : Int32)), (.int (983039 : Int32))]) (rest := []) (lenOf pd_rmR_0 rfl) rfl (by show 2 * 0 + _ ≤ _; exact Nat.le_of_eq rfl) (hb hby d3_200) (fun _ _ => ⟨rfl, hh48, (by decide : 0 + 0 ≤ _), (by decide : 0 + 0 ≤ _)⟩)
  dsimp only [Pt.U, Pt.locs, Pt.cells, Pt.slots] at X51 l51 y51 z51 st51 hQ51
  subst l51 y51 z51
  obtain ⟨rfl, N51q, hh51⟩ := hQ51
  have N51 := Fr.app N48 N51q
  have pre51 : Steps p.tables e below _ (T51.setTop (mkF m 203 #[.val (.int p1)] [(.int (own_in_0_4 p1 (65536 : Int32) (983039 : Int32)))])) := pre50.trans (st51 _ (Steps.refl _))
  rcases (Decidable.em ((own_in_0_4 p1 (65536 : Int32) (983039 : Int32)) = (0 : Int32))) with h | h
  · have hv := hv17.trans (if_pos h)
    have pre52 : Steps p.tables e below _ (T51.setTop (mkF m 211 #[.val (.int p1)] [(.int (0 : Int32))])) := pre51.trans (by
      show Steps p.tables e below (T51.setTop (mkF m 203 #[.val (.int p1)] [(.int (own_in_0_4 p1 (65536 : Int32) (983039 : Int32)))])) _
      refine XS.ifYes X51.here hx rfl (pc0 := 203) (pc' := 210) rfl (hb hby d3_203) rfl ((if0 _ _).trans (teq h).1) (by decide) (by decide) ?_
      show Steps p.tables e below (T51.setTop (mkF m 210 #[.val (.int p1)] [])) _
      refine XS.iconst X51.here hx rfl (hb hby d3_210) ?_
      exact Steps.refl _)
    obtain ⟨fs, hr, hrun, hended, hW, hsame⟩ := X51.leave (v := some (.int (0 : Int32))) (fun h => by rw [Bd.returns] at h; cases h)
    refine ⟨_, _, pre52.trans ?_, hrun, hended, _, _, rfl, ?_, ⟨_, rfl⟩, hW, hsame.mono (by decide) (by decide)⟩
    · exact retN X51 hx (t := .boolean) Bd.returns (by simp) (hb hby d3_211) hr
    · exact ⟨by rw [hv], N51, hh51⟩
  · have hv := hv17.trans (if_neg h)
    have pre53 : Steps p.tables e below _ (T51.setTop (mkF m 211 #[.val (.int p1)] [(.int (1 : Int32))])) := pre51.trans (by
      show Steps p.tables e below (T51.setTop (mkF m 203 #[.val (.int p1)] [(.int (own_in_0_4 p1 (65536 : Int32) (983039 : Int32)))])) _
      refine XS.ifNo X51.here hx rfl (hb hby d3_203) rfl ((if0 _ _).trans (feq h).1) ?_
      show Steps p.tables e below (T51.setTop (mkF m 206 #[.val (.int p1)] [])) _
      refine XS.iconst X51.here hx rfl (hb hby d3_206) ?_
      show Steps p.tables e below (T51.setTop (mkF m 207 #[.val (.int p1)] [(.int (1 : Int32))])) _
      refine XS.goto X51.here hx rfl (pc0 := 207) (pc' := 211) rfl (hb hby d3_207) (by decide) (by decide) ?_
      exact Steps.refl _)
    obtain ⟨fs, hr, hrun, hended, hW, hsame⟩ := X51.leave (v := some (.int (1 : Int32))) (fun h => by rw [Bd.returns] at h; cases h)
    refine ⟨_, _, pre53.trans ?_, hrun, hended, _, _, rfl, ?_, ⟨_, rfl⟩, hW, hsame.mono (by decide) (by decide)⟩
    · exact retN X51 hx (t := .boolean) Bd.returns (by simp) (hb hby d3_211) hr
    · exact ⟨by rw [hv], N51, hh51⟩
theorem own_ifc {P Q : Prop} [Decidable P] [Decidable Q] (h : P ↔ Q) : (if P then (1 : Int32) else 0) = if Q then 1 else 0 := by
  by_cases p : P
  · rw [if_pos p, if_pos (h.mp p)]
  · rw [if_neg p, if_neg (fun q => p (h.mpr q))]
theorem own_small (c : Int32) (h0 : 0 ≤ c.toInt) (n : Nat) (P : Int32 → Prop) (h : ∀ k : Fin n, P (Int32.ofInt (k.1 : Int))) (hn : c.toInt < n) : P c := by
  have q := h ⟨c.toInt.toNat, by omega⟩
  simp only [Int.toNat_of_nonneg h0, Int32.ofInt_toInt] at q
  exact q
theorem own_eq_iff (c k : Int32) : c = k ↔ c.toInt = k.toInt := Int32.toInt_inj.symm
theorem own_if0 (P : Prop) [Decidable P] : (if P then (1 : Int32) else 0) = 0 ↔ ¬ P := by
  by_cases h : P
  · rw [if_pos h]; exact ⟨fun q => absurd q (by decide), fun q => absurd h q⟩
  · rw [if_neg h]; exact ⟨fun _ => h, fun _ => rfl⟩
def own_tab : List Int32 := [(45 : Int32), (46 : Int32), (48 : Int32), (57 : Int32), (58 : Int32), (65 : Int32), (90 : Int32), (95 : Int32), (97 : Int32), (122 : Int32), (183 : Int32), (192 : Int32), (214 : Int32), (216 : Int32), (246 : Int32), (248 : Int32), (767 : Int32), (768 : Int32), (879 : Int32), (880 : Int32), (893 : Int32), (895 : Int32), (8191 : Int32), (8204 : Int32), (8205 : Int32), (8255 : Int32), (8256 : Int32), (8304 : Int32), (8591 : Int32), (11264 : Int32), (12271 : Int32), (12289 : Int32), (55295 : Int32), (63744 : Int32), (64975 : Int32), (65008 : Int32), (65533 : Int32), (65536 : Int32), (983039 : Int32), (0 : Int32), (-2147483648 : Int32), (2147483647 : Int32)]
theorem own_getD (ws : List Int32) (i : Nat) : (ws.map Value.int).getD i (.int 0) = .int (ws.getD i 0) := by
  induction ws generalizing i with
  | nil => rfl
  | cons a t ih => cases i with
    | zero => rfl
    | succ n => exact ih n
theorem sp_own_ns_0_1 (c : Int32) : own_ns_0_1 c = if True then 1 else 0 := rfl
theorem sp_own_ns_0_2 (c : Int32) : own_ns_0_2 c = if False then 1 else 0 := rfl
theorem sp_own_ns_0_3 (c : Int32) : own_ns_0_3 c = if c.toInt ≤ 983039 then 1 else 0 := by
  have hz : ((983039 : Int32) < c) ↔ 983039 < c.toInt := by simp only [Int32.lt_iff_toInt_lt, Int32.reduceToInt]
  show (if (983039 : Int32) < c then own_ns_0_2 c else own_ns_0_1 c) = _
  rw [sp_own_ns_0_2, sp_own_ns_0_1]
  by_cases h : (983039 : Int32) < c
  · rw [if_pos h]; rw [hz] at h
    exact (if_neg (fun q => q)).trans (if_neg (fun q => by
        omega
        )).symm
  · rw [if_neg h]; rw [hz] at h
    exact (if_pos trivial).trans (if_pos ((by omega))).symm
theorem sp_own_ns_0_4 (c : Int32) : own_ns_0_4 c = if (65536 ≤ c.toInt ∧ c.toInt ≤ 983039) then 1 else 0 := by
  have hz : (c < (65536 : Int32)) ↔ c.toInt < 65536 := by simp only [Int32.lt_iff_toInt_lt, Int32.reduceToInt]
  show (if c < (65536 : Int32) then own_ns_0_2 c else own_ns_0_3 c) = _
  rw [sp_own_ns_0_2, sp_own_ns_0_3]
  by_cases h : c < (65536 : Int32)
  · rw [if_pos h]; rw [hz] at h
    exact (if_neg (fun q => q)).trans (if_neg (fun q => by
        omega
        )).symm
  · rw [if_neg h]; rw [hz] at h
    refine own_ifc ⟨fun q => ?_, fun q => ?_⟩
    · skip
      exact (by omega)
    · skip
      exact (by omega)
theorem sp_own_ns_0_5 (c : Int32) : own_ns_0_5 c = if c.toInt ≤ 65533 ∨ (65536 ≤ c.toInt ∧ c.toInt ≤ 983039) then 1 else 0 := by
  have hz : ((65533 : Int32) < c) ↔ 65533 < c.toInt := by simp only [Int32.lt_iff_toInt_lt, Int32.reduceToInt]
  show (if (65533 : Int32) < c then own_ns_0_4 c else own_ns_0_1 c) = _
  rw [sp_own_ns_0_4, sp_own_ns_0_1]
  by_cases h : (65533 : Int32) < c
  · rw [if_pos h]; rw [hz] at h
    refine own_ifc ⟨fun q => ?_, fun q => ?_⟩
    · skip
      exact Or.inr ((by omega))
    · skip
      rcases q with q | q
      · exact absurd q (by omega)
      · exact (by omega)
  · rw [if_neg h]; rw [hz] at h
    exact (if_pos trivial).trans (if_pos (Or.inl (by omega))).symm
theorem sp_own_ns_0_6 (c : Int32) : own_ns_0_6 c = if (65008 ≤ c.toInt ∧ c.toInt ≤ 65533) ∨ (65536 ≤ c.toInt ∧ c.toInt ≤ 983039) then 1 else 0 := by
  have hz : (c < (65008 : Int32)) ↔ c.toInt < 65008 := by simp only [Int32.lt_iff_toInt_lt, Int32.reduceToInt]
  show (if c < (65008 : Int32) then own_ns_0_4 c else own_ns_0_5 c) = _
  rw [sp_own_ns_0_4, sp_own_ns_0_5]
  by_cases h : c < (65008 : Int32)
  · rw [if_pos h]; rw [hz] at h
    refine own_ifc ⟨fun q => ?_, fun q => ?_⟩
    · skip
      exact absurd q (by omega)
    · skip
      rcases q with q | q
      · exact absurd q (by omega)
      · exact absurd q (by omega)
  · rw [if_neg h]; rw [hz] at h
    refine own_ifc ⟨fun q => ?_, fun q => ?_⟩
    · skip
      rcases q with q | q
      · exact Or.inl (by omega)
      · exact Or.inr ((by omega))
    · skip
      rcases q with q | q
      · exact Or.inl (by omega)
      · exact Or.inr ((by omega))
theorem sp_own_ns_0_7 (c : Int32) : own_ns_0_7 c = if c.toInt ≤ 64975 ∨ (65008 ≤ c.toInt ∧ c.toInt ≤ 65533) ∨ (65536 ≤ c.toInt ∧ c.toInt ≤ 983039) then 1 else 0 := by
  have hz : ((64975 : Int32) < c) ↔ 64975 < c.toInt := by simp only [Int32.lt_iff_toInt_lt, Int32.reduceToInt]
  show (if (64975 : Int32) < c then own_ns_0_6 c else own_ns_0_1 c) = _
  rw [sp_own_ns_0_6, sp_own_ns_0_1]
  by_cases h : (64975 : Int32) < c
  · rw [if_pos h]; rw [hz] at h
    refine own_ifc ⟨fun q => ?_, fun q => ?_⟩
    · skip
      rcases q with q | q
      · exact Or.inr (Or.inl (by omega))
      · exact Or.inr (Or.inr ((by omega)))
    · skip
      rcases q with q | q | q
      · exact absurd q (by omega)
      · exact Or.inl (by omega)
      · exact Or.inr ((by omega))
  · rw [if_neg h]; rw [hz] at h
    exact (if_pos trivial).trans (if_pos (Or.inl (by omega))).symm
theorem sp_own_ns_0_8 (c : Int32) : own_ns_0_8 c = if (63744 ≤ c.toInt ∧ c.toInt ≤ 64975) ∨ (65008 ≤ c.toInt ∧ c.toInt ≤ 65533) ∨ (65536 ≤ c.toInt ∧ c.toInt ≤ 983039) then 1 else 0 := by
  have hz : (c < (63744 : Int32)) ↔ c.toInt < 63744 := by simp only [Int32.lt_iff_toInt_lt, Int32.reduceToInt]
  show (if c < (63744 : Int32) then own_ns_0_6 c else own_ns_0_7 c) = _
  rw [sp_own_ns_0_6, sp_own_ns_0_7]
  by_cases h : c < (63744 : Int32)
  · rw [if_pos h]; rw [hz] at h
    refine own_ifc ⟨fun q => ?_, fun q => ?_⟩
    · skip
      rcases q with q | q
      · exact absurd q (by omega)
      · exact absurd q (by omega)
    · skip
      rcases q with q | q | q
      · exact absurd q (by omega)
      · exact absurd q (by omega)
      · exact absurd q (by omega)
  · rw [if_neg h]; rw [hz] at h
    refine own_ifc ⟨fun q => ?_, fun q => ?_⟩
    · skip
      rcases q with q | q | q
      · exact Or.inl (by omega)
      · exact Or.inr (Or.inl (by omega))
      · exact Or.inr (Or.inr ((by omega)))
    · skip
      rcases q with q | q | q
      · exact Or.inl (by omega)
      · exact Or.inr (Or.inl (by omega))
      · exact Or.inr (Or.inr ((by omega)))
theorem sp_own_ns_0_9 (c : Int32) : own_ns_0_9 c = if c.toInt ≤ 55295 ∨ (63744 ≤ c.toInt ∧ c.toInt ≤ 64975) ∨ (65008 ≤ c.toInt ∧ c.toInt ≤ 65533) ∨ (65536 ≤ c.toInt ∧ c.toInt ≤ 983039) then 1 else 0 := by
  have hz : ((55295 : Int32) < c) ↔ 55295 < c.toInt := by simp only [Int32.lt_iff_toInt_lt, Int32.reduceToInt]
  show (if (55295 : Int32) < c then own_ns_0_8 c else own_ns_0_1 c) = _
  rw [sp_own_ns_0_8, sp_own_ns_0_1]
  by_cases h : (55295 : Int32) < c
  · rw [if_pos h]; rw [hz] at h
    refine own_ifc ⟨fun q => ?_, fun q => ?_⟩
    · skip
      rcases q with q | q | q
      · exact Or.inr (Or.inl (by omega))
      · exact Or.inr (Or.inr (Or.inl (by omega)))
      · exact Or.inr (Or.inr (Or.inr ((by omega))))
    · skip
      rcases q with q | q | q | q
      · exact absurd q (by omega)
      · exact Or.inl (by omega)
      · exact Or.inr (Or.inl (by omega))
      · exact Or.inr (Or.inr ((by omega)))
  · rw [if_neg h]; rw [hz] at h
    exact (if_pos trivial).trans (if_pos (Or.inl (by omega))).symm
theorem sp_own_ns_0_10 (c : Int32) : own_ns_0_10 c = if (12289 ≤ c.toInt ∧ c.toInt ≤ 55295) ∨ (63744 ≤ c.toInt ∧ c.toInt ≤ 64975) ∨ (65008 ≤ c.toInt ∧ c.toInt ≤ 65533) ∨ (65536 ≤ c.toInt ∧ c.toInt ≤ 983039) then 1 else 0 := by
  have hz : (c < (12289 : Int32)) ↔ c.toInt < 12289 := by simp only [Int32.lt_iff_toInt_lt, Int32.reduceToInt]
  show (if c < (12289 : Int32) then own_ns_0_8 c else own_ns_0_9 c) = _
  rw [sp_own_ns_0_8, sp_own_ns_0_9]
  by_cases h : c < (12289 : Int32)
  · rw [if_pos h]; rw [hz] at h
    refine own_ifc ⟨fun q => ?_, fun q => ?_⟩
    · skip
      rcases q with q | q | q
      · exact absurd q (by omega)
      · exact absurd q (by omega)
      · exact absurd q (by omega)
    · skip
      rcases q with q | q | q | q
      · exact absurd q (by omega)
      · exact absurd q (by omega)
      · exact absurd q (by omega)
      · exact absurd q (by omega)
  · rw [if_neg h]; rw [hz] at h
    refine own_ifc ⟨fun q => ?_, fun q => ?_⟩
    · skip
      rcases q with q | q | q | q
      · exact Or.inl (by omega)
      · exact Or.inr (Or.inl (by omega))
      · exact Or.inr (Or.inr (Or.inl (by omega)))
      · exact Or.inr (Or.inr (Or.inr ((by omega))))
    · skip
      rcases q with q | q | q | q
      · exact Or.inl (by omega)
      · exact Or.inr (Or.inl (by omega))
      · exact Or.inr (Or.inr (Or.inl (by omega)))
      · exact Or.inr (Or.inr (Or.inr ((by omega))))
theorem sp_own_ns_0_11 (c : Int32) : own_ns_0_11 c = if c.toInt ≤ 12271 ∨ (12289 ≤ c.toInt ∧ c.toInt ≤ 55295) ∨ (63744 ≤ c.toInt ∧ c.toInt ≤ 64975) ∨ (65008 ≤ c.toInt ∧ c.toInt ≤ 65533) ∨ (65536 ≤ c.toInt ∧ c.toInt ≤ 983039) then 1 else 0 := by
  have hz : ((12271 : Int32) < c) ↔ 12271 < c.toInt := by simp only [Int32.lt_iff_toInt_lt, Int32.reduceToInt]
  show (if (12271 : Int32) < c then own_ns_0_10 c else own_ns_0_1 c) = _
  rw [sp_own_ns_0_10, sp_own_ns_0_1]
  by_cases h : (12271 : Int32) < c
  · rw [if_pos h]; rw [hz] at h
    refine own_ifc ⟨fun q => ?_, fun q => ?_⟩
    · skip
      rcases q with q | q | q | q
      · exact Or.inr (Or.inl (by omega))
      · exact Or.inr (Or.inr (Or.inl (by omega)))
      · exact Or.inr (Or.inr (Or.inr (Or.inl (by omega))))
      · exact Or.inr (Or.inr (Or.inr (Or.inr ((by omega)))))
    · skip
      rcases q with q | q | q | q | q
      · exact absurd q (by omega)
      · exact Or.inl (by omega)
      · exact Or.inr (Or.inl (by omega))
      · exact Or.inr (Or.inr (Or.inl (by omega)))
      · exact Or.inr (Or.inr (Or.inr ((by omega))))
  · rw [if_neg h]; rw [hz] at h
    exact (if_pos trivial).trans (if_pos (Or.inl (by omega))).symm
theorem sp_own_ns_0_12 (c : Int32) : own_ns_0_12 c = if (11264 ≤ c.toInt ∧ c.toInt ≤ 12271) ∨ (12289 ≤ c.toInt ∧ c.toInt ≤ 55295) ∨ (63744 ≤ c.toInt ∧ c.toInt ≤ 64975) ∨ (65008 ≤ c.toInt ∧ c.toInt ≤ 65533) ∨ (65536 ≤ c.toInt ∧ c.toInt ≤ 983039) then 1 else 0 := by
  have hz : (c < (11264 : Int32)) ↔ c.toInt < 11264 := by simp only [Int32.lt_iff_toInt_lt, Int32.reduceToInt]
  show (if c < (11264 : Int32) then own_ns_0_10 c else own_ns_0_11 c) = _
  rw [sp_own_ns_0_10, sp_own_ns_0_11]
  by_cases h : c < (11264 : Int32)
  · rw [if_pos h]; rw [hz] at h
    refine own_ifc ⟨fun q => ?_, fun q => ?_⟩
    · skip
      rcases q with q | q | q | q
      · exact absurd q (by omega)
      · exact absurd q (by omega)
      · exact absurd q (by omega)
      · exact absurd q (by omega)
    · skip
      rcases q with q | q | q | q | q
      · exact absurd q (by omega)
      · exact absurd q (by omega)
      · exact absurd q (by omega)
      · exact absurd q (by omega)
      · exact absurd q (by omega)
  · rw [if_neg h]; rw [hz] at h
    refine own_ifc ⟨fun q => ?_, fun q => ?_⟩
    · skip
      rcases q with q | q | q | q | q
      · exact Or.inl (by omega)
      · exact Or.inr (Or.inl (by omega))
      · exact Or.inr (Or.inr (Or.inl (by omega)))
      · exact Or.inr (Or.inr (Or.inr (Or.inl (by omega))))
      · exact Or.inr (Or.inr (Or.inr (Or.inr ((by omega)))))
    · skip
      rcases q with q | q | q | q | q
      · exact Or.inl (by omega)
      · exact Or.inr (Or.inl (by omega))
      · exact Or.inr (Or.inr (Or.inl (by omega)))
      · exact Or.inr (Or.inr (Or.inr (Or.inl (by omega))))
      · exact Or.inr (Or.inr (Or.inr (Or.inr ((by omega)))))
theorem sp_own_ns_0_13 (c : Int32) : own_ns_0_13 c = if c.toInt ≤ 8591 ∨ (11264 ≤ c.toInt ∧ c.toInt ≤ 12271) ∨ (12289 ≤ c.toInt ∧ c.toInt ≤ 55295) ∨ (63744 ≤ c.toInt ∧ c.toInt ≤ 64975) ∨ (65008 ≤ c.toInt ∧ c.toInt ≤ 65533) ∨ (65536 ≤ c.toInt ∧ c.toInt ≤ 983039) then 1 else 0 := by
  have hz : ((8591 : Int32) < c) ↔ 8591 < c.toInt := by simp only [Int32.lt_iff_toInt_lt, Int32.reduceToInt]
  show (if (8591 : Int32) < c then own_ns_0_12 c else own_ns_0_1 c) = _
  rw [sp_own_ns_0_12, sp_own_ns_0_1]
  by_cases h : (8591 : Int32) < c
  · rw [if_pos h]; rw [hz] at h
    refine own_ifc ⟨fun q => ?_, fun q => ?_⟩
    · skip
      rcases q with q | q | q | q | q
      · exact Or.inr (Or.inl (by omega))
      · exact Or.inr (Or.inr (Or.inl (by omega)))
      · exact Or.inr (Or.inr (Or.inr (Or.inl (by omega))))
      · exact Or.inr (Or.inr (Or.inr (Or.inr (Or.inl (by omega)))))
      · exact Or.inr (Or.inr (Or.inr (Or.inr (Or.inr ((by omega))))))
    · skip
      rcases q with q | q | q | q | q | q
      · exact absurd q (by omega)
      · exact Or.inl (by omega)
      · exact Or.inr (Or.inl (by omega))
      · exact Or.inr (Or.inr (Or.inl (by omega)))
      · exact Or.inr (Or.inr (Or.inr (Or.inl (by omega))))
      · exact Or.inr (Or.inr (Or.inr (Or.inr ((by omega)))))
  · rw [if_neg h]; rw [hz] at h
    exact (if_pos trivial).trans (if_pos (Or.inl (by omega))).symm
theorem sp_own_ns_0_14 (c : Int32) : own_ns_0_14 c = if (8304 ≤ c.toInt ∧ c.toInt ≤ 8591) ∨ (11264 ≤ c.toInt ∧ c.toInt ≤ 12271) ∨ (12289 ≤ c.toInt ∧ c.toInt ≤ 55295) ∨ (63744 ≤ c.toInt ∧ c.toInt ≤ 64975) ∨ (65008 ≤ c.toInt ∧ c.toInt ≤ 65533) ∨ (65536 ≤ c.toInt ∧ c.toInt ≤ 983039) then 1 else 0 := by
  have hz : (c < (8304 : Int32)) ↔ c.toInt < 8304 := by simp only [Int32.lt_iff_toInt_lt, Int32.reduceToInt]
  show (if c < (8304 : Int32) then own_ns_0_12 c else own_ns_0_13 c) = _
  rw [sp_own_ns_0_12, sp_own_ns_0_13]
  by_cases h : c < (8304 : Int32)
  · rw [if_pos h]; rw [hz] at h
    refine own_ifc ⟨fun q => ?_, fun q => ?_⟩
    · skip
      rcases q with q | q | q | q | q
      · exact absurd q (by omega)
      · exact absurd q (by omega)
      · exact absurd q (by omega)
      · exact absurd q (by omega)
      · exact absurd q (by omega)
    · skip
      rcases q with q | q | q | q | q | q
      · exact absurd q (by omega)
      · exact absurd q (by omega)
      · exact absurd q (by omega)
      · exact absurd q (by omega)
      · exact absurd q (by omega)
      · exact absurd q (by omega)
  · rw [if_neg h]; rw [hz] at h
    refine own_ifc ⟨fun q => ?_, fun q => ?_⟩
    · skip
      rcases q with q | q | q | q | q | q
      · exact Or.inl (by omega)
      · exact Or.inr (Or.inl (by omega))
      · exact Or.inr (Or.inr (Or.inl (by omega)))
      · exact Or.inr (Or.inr (Or.inr (Or.inl (by omega))))
      · exact Or.inr (Or.inr (Or.inr (Or.inr (Or.inl (by omega)))))
      · exact Or.inr (Or.inr (Or.inr (Or.inr (Or.inr ((by omega))))))
    · skip
      rcases q with q | q | q | q | q | q
      · exact Or.inl (by omega)
      · exact Or.inr (Or.inl (by omega))
      · exact Or.inr (Or.inr (Or.inl (by omega)))
      · exact Or.inr (Or.inr (Or.inr (Or.inl (by omega))))
      · exact Or.inr (Or.inr (Or.inr (Or.inr (Or.inl (by omega)))))
      · exact Or.inr (Or.inr (Or.inr (Or.inr (Or.inr ((by omega))))))
theorem sp_own_ns_0_15 (c : Int32) : own_ns_0_15 c = if c.toInt = 8205 ∨ (8304 ≤ c.toInt ∧ c.toInt ≤ 8591) ∨ (11264 ≤ c.toInt ∧ c.toInt ≤ 12271) ∨ (12289 ≤ c.toInt ∧ c.toInt ≤ 55295) ∨ (63744 ≤ c.toInt ∧ c.toInt ≤ 64975) ∨ (65008 ≤ c.toInt ∧ c.toInt ≤ 65533) ∨ (65536 ≤ c.toInt ∧ c.toInt ≤ 983039) then 1 else 0 := by
  have hz : (c = (8205 : Int32)) ↔ c.toInt = 8205 := by rw [own_eq_iff]; simp only [Int32.reduceToInt]
  show (if c = (8205 : Int32) then own_ns_0_1 c else own_ns_0_14 c) = _
  rw [sp_own_ns_0_1, sp_own_ns_0_14]
  by_cases h : c = (8205 : Int32)
  · rw [if_pos h]; rw [hz] at h
    exact (if_pos trivial).trans (if_pos (Or.inl (by omega))).symm
  · rw [if_neg h]; rw [hz] at h
    refine own_ifc ⟨fun q => ?_, fun q => ?_⟩
    · skip
      rcases q with q | q | q | q | q | q
      · exact Or.inr (Or.inl (by omega))
      · exact Or.inr (Or.inr (Or.inl (by omega)))
      · exact Or.inr (Or.inr (Or.inr (Or.inl (by omega))))
      · exact Or.inr (Or.inr (Or.inr (Or.inr (Or.inl (by omega)))))
      · exact Or.inr (Or.inr (Or.inr (Or.inr (Or.inr (Or.inl (by omega))))))
      · exact Or.inr (Or.inr (Or.inr (Or.inr (Or.inr (Or.inr ((by omega)))))))
    · skip
      rcases q with q | q | q | q | q | q | q
      · exact absurd q (by omega)
      · exact Or.inl (by omega)
      · exact Or.inr (Or.inl (by omega))
      · exact Or.inr (Or.inr (Or.inl (by omega)))
      · exact Or.inr (Or.inr (Or.inr (Or.inl (by omega))))
      · exact Or.inr (Or.inr (Or.inr (Or.inr (Or.inl (by omega)))))
      · exact Or.inr (Or.inr (Or.inr (Or.inr (Or.inr ((by omega))))))
theorem sp_own_ns_0_16 (c : Int32) : own_ns_0_16 c = if (8204 ≤ c.toInt ∧ c.toInt ≤ 8205) ∨ (8304 ≤ c.toInt ∧ c.toInt ≤ 8591) ∨ (11264 ≤ c.toInt ∧ c.toInt ≤ 12271) ∨ (12289 ≤ c.toInt ∧ c.toInt ≤ 55295) ∨ (63744 ≤ c.toInt ∧ c.toInt ≤ 64975) ∨ (65008 ≤ c.toInt ∧ c.toInt ≤ 65533) ∨ (65536 ≤ c.toInt ∧ c.toInt ≤ 983039) then 1 else 0 := by
  have hz : (c = (8204 : Int32)) ↔ c.toInt = 8204 := by rw [own_eq_iff]; simp only [Int32.reduceToInt]
  show (if c = (8204 : Int32) then own_ns_0_1 c else own_ns_0_15 c) = _
  rw [sp_own_ns_0_1, sp_own_ns_0_15]
  by_cases h : c = (8204 : Int32)
  · rw [if_pos h]; rw [hz] at h
    exact (if_pos trivial).trans (if_pos (Or.inl (by omega))).symm
  · rw [if_neg h]; rw [hz] at h
    refine own_ifc ⟨fun q => ?_, fun q => ?_⟩
    · skip
      rcases q with q | q | q | q | q | q | q
      · exact Or.inl (by omega)
      · exact Or.inr (Or.inl (by omega))
      · exact Or.inr (Or.inr (Or.inl (by omega)))
      · exact Or.inr (Or.inr (Or.inr (Or.inl (by omega))))
      · exact Or.inr (Or.inr (Or.inr (Or.inr (Or.inl (by omega)))))
      · exact Or.inr (Or.inr (Or.inr (Or.inr (Or.inr (Or.inl (by omega))))))
      · exact Or.inr (Or.inr (Or.inr (Or.inr (Or.inr (Or.inr ((by omega)))))))
    · skip
      rcases q with q | q | q | q | q | q | q
      · exact Or.inl (by omega)
      · exact Or.inr (Or.inl (by omega))
      · exact Or.inr (Or.inr (Or.inl (by omega)))
      · exact Or.inr (Or.inr (Or.inr (Or.inl (by omega))))
      · exact Or.inr (Or.inr (Or.inr (Or.inr (Or.inl (by omega)))))
      · exact Or.inr (Or.inr (Or.inr (Or.inr (Or.inr (Or.inl (by omega))))))
      · exact Or.inr (Or.inr (Or.inr (Or.inr (Or.inr (Or.inr ((by omega)))))))
theorem sp_own_ns_0_17 (c : Int32) : own_ns_0_17 c = if c.toInt ≤ 8191 ∨ (8204 ≤ c.toInt ∧ c.toInt ≤ 8205) ∨ (8304 ≤ c.toInt ∧ c.toInt ≤ 8591) ∨ (11264 ≤ c.toInt ∧ c.toInt ≤ 12271) ∨ (12289 ≤ c.toInt ∧ c.toInt ≤ 55295) ∨ (63744 ≤ c.toInt ∧ c.toInt ≤ 64975) ∨ (65008 ≤ c.toInt ∧ c.toInt ≤ 65533) ∨ (65536 ≤ c.toInt ∧ c.toInt ≤ 983039) then 1 else 0 := by
  have hz : ((8191 : Int32) < c) ↔ 8191 < c.toInt := by simp only [Int32.lt_iff_toInt_lt, Int32.reduceToInt]
  show (if (8191 : Int32) < c then own_ns_0_16 c else own_ns_0_1 c) = _
  rw [sp_own_ns_0_16, sp_own_ns_0_1]
  by_cases h : (8191 : Int32) < c
  · rw [if_pos h]; rw [hz] at h
    refine own_ifc ⟨fun q => ?_, fun q => ?_⟩
    · skip
      rcases q with q | q | q | q | q | q | q
      · exact Or.inr (Or.inl (by omega))
      · exact Or.inr (Or.inr (Or.inl (by omega)))
      · exact Or.inr (Or.inr (Or.inr (Or.inl (by omega))))
      · exact Or.inr (Or.inr (Or.inr (Or.inr (Or.inl (by omega)))))
      · exact Or.inr (Or.inr (Or.inr (Or.inr (Or.inr (Or.inl (by omega))))))
      · exact Or.inr (Or.inr (Or.inr (Or.inr (Or.inr (Or.inr (Or.inl (by omega)))))))
      · exact Or.inr (Or.inr (Or.inr (Or.inr (Or.inr (Or.inr (Or.inr ((by omega))))))))
    · skip
      rcases q with q | q | q | q | q | q | q | q
      · exact absurd q (by omega)
      · exact Or.inl (by omega)
      · exact Or.inr (Or.inl (by omega))
      · exact Or.inr (Or.inr (Or.inl (by omega)))
      · exact Or.inr (Or.inr (Or.inr (Or.inl (by omega))))
      · exact Or.inr (Or.inr (Or.inr (Or.inr (Or.inl (by omega)))))
      · exact Or.inr (Or.inr (Or.inr (Or.inr (Or.inr (Or.inl (by omega))))))
      · exact Or.inr (Or.inr (Or.inr (Or.inr (Or.inr (Or.inr ((by omega)))))))
  · rw [if_neg h]; rw [hz] at h
    exact (if_pos trivial).trans (if_pos (Or.inl (by omega))).symm
theorem sp_own_ns_0_18 (c : Int32) : own_ns_0_18 c = if (895 ≤ c.toInt ∧ c.toInt ≤ 8191) ∨ (8204 ≤ c.toInt ∧ c.toInt ≤ 8205) ∨ (8304 ≤ c.toInt ∧ c.toInt ≤ 8591) ∨ (11264 ≤ c.toInt ∧ c.toInt ≤ 12271) ∨ (12289 ≤ c.toInt ∧ c.toInt ≤ 55295) ∨ (63744 ≤ c.toInt ∧ c.toInt ≤ 64975) ∨ (65008 ≤ c.toInt ∧ c.toInt ≤ 65533) ∨ (65536 ≤ c.toInt ∧ c.toInt ≤ 983039) then 1 else 0 := by
  have hz : (c < (895 : Int32)) ↔ c.toInt < 895 := by simp only [Int32.lt_iff_toInt_lt, Int32.reduceToInt]
  show (if c < (895 : Int32) then own_ns_0_16 c else own_ns_0_17 c) = _
  rw [sp_own_ns_0_16, sp_own_ns_0_17]
  by_cases h : c < (895 : Int32)
  · rw [if_pos h]; rw [hz] at h
    refine own_ifc ⟨fun q => ?_, fun q => ?_⟩
    · skip
      rcases q with q | q | q | q | q | q | q
      · exact absurd q (by omega)
      · exact absurd q (by omega)
      · exact absurd q (by omega)
      · exact absurd q (by omega)
      · exact absurd q (by omega)
      · exact absurd q (by omega)
      · exact absurd q (by omega)
    · skip
      rcases q with q | q | q | q | q | q | q | q
      · exact absurd q (by omega)
      · exact absurd q (by omega)
      · exact absurd q (by omega)
      · exact absurd q (by omega)
      · exact absurd q (by omega)
      · exact absurd q (by omega)
      · exact absurd q (by omega)
      · exact absurd q (by omega)
  · rw [if_neg h]; rw [hz] at h
    refine own_ifc ⟨fun q => ?_, fun q => ?_⟩
    · skip
      rcases q with q | q | q | q | q | q | q | q
      · exact Or.inl (by omega)
      · exact Or.inr (Or.inl (by omega))
      · exact Or.inr (Or.inr (Or.inl (by omega)))
      · exact Or.inr (Or.inr (Or.inr (Or.inl (by omega))))
      · exact Or.inr (Or.inr (Or.inr (Or.inr (Or.inl (by omega)))))
      · exact Or.inr (Or.inr (Or.inr (Or.inr (Or.inr (Or.inl (by omega))))))
      · exact Or.inr (Or.inr (Or.inr (Or.inr (Or.inr (Or.inr (Or.inl (by omega)))))))
      · exact Or.inr (Or.inr (Or.inr (Or.inr (Or.inr (Or.inr (Or.inr ((by omega))))))))
    · skip
      rcases q with q | q | q | q | q | q | q | q
      · exact Or.inl (by omega)
      · exact Or.inr (Or.inl (by omega))
      · exact Or.inr (Or.inr (Or.inl (by omega)))
      · exact Or.inr (Or.inr (Or.inr (Or.inl (by omega))))
      · exact Or.inr (Or.inr (Or.inr (Or.inr (Or.inl (by omega)))))
      · exact Or.inr (Or.inr (Or.inr (Or.inr (Or.inr (Or.inl (by omega))))))
      · exact Or.inr (Or.inr (Or.inr (Or.inr (Or.inr (Or.inr (Or.inl (by omega)))))))
      · exact Or.inr (Or.inr (Or.inr (Or.inr (Or.inr (Or.inr (Or.inr ((by omega))))))))
theorem sp_own_ns_0_19 (c : Int32) : own_ns_0_19 c = if c.toInt ≤ 893 ∨ (895 ≤ c.toInt ∧ c.toInt ≤ 8191) ∨ (8204 ≤ c.toInt ∧ c.toInt ≤ 8205) ∨ (8304 ≤ c.toInt ∧ c.toInt ≤ 8591) ∨ (11264 ≤ c.toInt ∧ c.toInt ≤ 12271) ∨ (12289 ≤ c.toInt ∧ c.toInt ≤ 55295) ∨ (63744 ≤ c.toInt ∧ c.toInt ≤ 64975) ∨ (65008 ≤ c.toInt ∧ c.toInt ≤ 65533) ∨ (65536 ≤ c.toInt ∧ c.toInt ≤ 983039) then 1 else 0 := by
  have hz : ((893 : Int32) < c) ↔ 893 < c.toInt := by simp only [Int32.lt_iff_toInt_lt, Int32.reduceToInt]
  show (if (893 : Int32) < c then own_ns_0_18 c else own_ns_0_1 c) = _
  rw [sp_own_ns_0_18, sp_own_ns_0_1]
  by_cases h : (893 : Int32) < c
  · rw [if_pos h]; rw [hz] at h
    refine own_ifc ⟨fun q => ?_, fun q => ?_⟩
    · skip
      rcases q with q | q | q | q | q | q | q | q
      · exact Or.inr (Or.inl (by omega))
      · exact Or.inr (Or.inr (Or.inl (by omega)))
      · exact Or.inr (Or.inr (Or.inr (Or.inl (by omega))))
      · exact Or.inr (Or.inr (Or.inr (Or.inr (Or.inl (by omega)))))
      · exact Or.inr (Or.inr (Or.inr (Or.inr (Or.inr (Or.inl (by omega))))))
      · exact Or.inr (Or.inr (Or.inr (Or.inr (Or.inr (Or.inr (Or.inl (by omega)))))))
      · exact Or.inr (Or.inr (Or.inr (Or.inr (Or.inr (Or.inr (Or.inr (Or.inl (by omega))))))))
      · exact Or.inr (Or.inr (Or.inr (Or.inr (Or.inr (Or.inr (Or.inr (Or.inr ((by omega)))))))))
    · skip
      rcases q with q | q | q | q | q | q | q | q | q
      · exact absurd q (by omega)
      · exact Or.inl (by omega)
      · exact Or.inr (Or.inl (by omega))
      · exact Or.inr (Or.inr (Or.inl (by omega)))
      · exact Or.inr (Or.inr (Or.inr (Or.inl (by omega))))
      · exact Or.inr (Or.inr (Or.inr (Or.inr (Or.inl (by omega)))))
      · exact Or.inr (Or.inr (Or.inr (Or.inr (Or.inr (Or.inl (by omega))))))
      · exact Or.inr (Or.inr (Or.inr (Or.inr (Or.inr (Or.inr (Or.inl (by omega)))))))
      · exact Or.inr (Or.inr (Or.inr (Or.inr (Or.inr (Or.inr (Or.inr ((by omega))))))))
  · rw [if_neg h]; rw [hz] at h
    exact (if_pos trivial).trans (if_pos (Or.inl (by omega))).symm
theorem sp_own_ns_0_20 (c : Int32) : own_ns_0_20 c = if (880 ≤ c.toInt ∧ c.toInt ≤ 893) ∨ (895 ≤ c.toInt ∧ c.toInt ≤ 8191) ∨ (8204 ≤ c.toInt ∧ c.toInt ≤ 8205) ∨ (8304 ≤ c.toInt ∧ c.toInt ≤ 8591) ∨ (11264 ≤ c.toInt ∧ c.toInt ≤ 12271) ∨ (12289 ≤ c.toInt ∧ c.toInt ≤ 55295) ∨ (63744 ≤ c.toInt ∧ c.toInt ≤ 64975) ∨ (65008 ≤ c.toInt ∧ c.toInt ≤ 65533) ∨ (65536 ≤ c.toInt ∧ c.toInt ≤ 983039) then 1 else 0 := by
  have hz : (c < (880 : Int32)) ↔ c.toInt < 880 := by simp only [Int32.lt_iff_toInt_lt, Int32.reduceToInt]
  show (if c < (880 : Int32) then own_ns_0_18 c else own_ns_0_19 c) = _
  rw [sp_own_ns_0_18, sp_own_ns_0_19]
  by_cases h : c < (880 : Int32)
  · rw [if_pos h]; rw [hz] at h
    refine own_ifc ⟨fun q => ?_, fun q => ?_⟩
    · skip
      rcases q with q | q | q | q | q | q | q | q
      · exact absurd q (by omega)
      · exact absurd q (by omega)
      · exact absurd q (by omega)
      · exact absurd q (by omega)
      · exact absurd q (by omega)
      · exact absurd q (by omega)
      · exact absurd q (by omega)
      · exact absurd q (by omega)
    · skip
      rcases q with q | q | q | q | q | q | q | q | q
      · exact absurd q (by omega)
      · exact absurd q (by omega)
      · exact absurd q (by omega)
      · exact absurd q (by omega)
      · exact absurd q (by omega)
      · exact absurd q (by omega)
      · exact absurd q (by omega)
      · exact absurd q (by omega)
      · exact absurd q (by omega)
  · rw [if_neg h]; rw [hz] at h
    refine own_ifc ⟨fun q => ?_, fun q => ?_⟩
    · skip
      rcases q with q | q | q | q | q | q | q | q | q
      · exact Or.inl (by omega)
      · exact Or.inr (Or.inl (by omega))
      · exact Or.inr (Or.inr (Or.inl (by omega)))
      · exact Or.inr (Or.inr (Or.inr (Or.inl (by omega))))
      · exact Or.inr (Or.inr (Or.inr (Or.inr (Or.inl (by omega)))))
      · exact Or.inr (Or.inr (Or.inr (Or.inr (Or.inr (Or.inl (by omega))))))
      · exact Or.inr (Or.inr (Or.inr (Or.inr (Or.inr (Or.inr (Or.inl (by omega)))))))
      · exact Or.inr (Or.inr (Or.inr (Or.inr (Or.inr (Or.inr (Or.inr (Or.inl (by omega))))))))
      · exact Or.inr (Or.inr (Or.inr (Or.inr (Or.inr (Or.inr (Or.inr (Or.inr ((by omega)))))))))
    · skip
      rcases q with q | q | q | q | q | q | q | q | q
      · exact Or.inl (by omega)
      · exact Or.inr (Or.inl (by omega))
      · exact Or.inr (Or.inr (Or.inl (by omega)))
      · exact Or.inr (Or.inr (Or.inr (Or.inl (by omega))))
      · exact Or.inr (Or.inr (Or.inr (Or.inr (Or.inl (by omega)))))
      · exact Or.inr (Or.inr (Or.inr (Or.inr (Or.inr (Or.inl (by omega))))))
      · exact Or.inr (Or.inr (Or.inr (Or.inr (Or.inr (Or.inr (Or.inl (by omega)))))))
      · exact Or.inr (Or.inr (Or.inr (Or.inr (Or.inr (Or.inr (Or.inr (Or.inl (by omega))))))))
      · exact Or.inr (Or.inr (Or.inr (Or.inr (Or.inr (Or.inr (Or.inr (Or.inr ((by omega)))))))))
theorem sp_own_ns_0_21 (c : Int32) : own_ns_0_21 c = if c.toInt ≤ 767 ∨ (880 ≤ c.toInt ∧ c.toInt ≤ 893) ∨ (895 ≤ c.toInt ∧ c.toInt ≤ 8191) ∨ (8204 ≤ c.toInt ∧ c.toInt ≤ 8205) ∨ (8304 ≤ c.toInt ∧ c.toInt ≤ 8591) ∨ (11264 ≤ c.toInt ∧ c.toInt ≤ 12271) ∨ (12289 ≤ c.toInt ∧ c.toInt ≤ 55295) ∨ (63744 ≤ c.toInt ∧ c.toInt ≤ 64975) ∨ (65008 ≤ c.toInt ∧ c.toInt ≤ 65533) ∨ (65536 ≤ c.toInt ∧ c.toInt ≤ 983039) then 1 else 0 := by
  have hz : ((767 : Int32) < c) ↔ 767 < c.toInt := by simp only [Int32.lt_iff_toInt_lt, Int32.reduceToInt]
  show (if (767 : Int32) < c then own_ns_0_20 c else own_ns_0_1 c) = _
  rw [sp_own_ns_0_20, sp_own_ns_0_1]
  by_cases h : (767 : Int32) < c
  · rw [if_pos h]; rw [hz] at h
    refine own_ifc ⟨fun q => ?_, fun q => ?_⟩
    · skip
      rcases q with q | q | q | q | q | q | q | q | q
      · exact Or.inr (Or.inl (by omega))
      · exact Or.inr (Or.inr (Or.inl (by omega)))
      · exact Or.inr (Or.inr (Or.inr (Or.inl (by omega))))
      · exact Or.inr (Or.inr (Or.inr (Or.inr (Or.inl (by omega)))))
      · exact Or.inr (Or.inr (Or.inr (Or.inr (Or.inr (Or.inl (by omega))))))
      · exact Or.inr (Or.inr (Or.inr (Or.inr (Or.inr (Or.inr (Or.inl (by omega)))))))
      · exact Or.inr (Or.inr (Or.inr (Or.inr (Or.inr (Or.inr (Or.inr (Or.inl (by omega))))))))
      · exact Or.inr (Or.inr (Or.inr (Or.inr (Or.inr (Or.inr (Or.inr (Or.inr (Or.inl (by omega)))))))))
      · exact Or.inr (Or.inr (Or.inr (Or.inr (Or.inr (Or.inr (Or.inr (Or.inr (Or.inr ((by omega))))))))))
    · skip
      rcases q with q | q | q | q | q | q | q | q | q | q
      · exact absurd q (by omega)
      · exact Or.inl (by omega)
      · exact Or.inr (Or.inl (by omega))
      · exact Or.inr (Or.inr (Or.inl (by omega)))
      · exact Or.inr (Or.inr (Or.inr (Or.inl (by omega))))
      · exact Or.inr (Or.inr (Or.inr (Or.inr (Or.inl (by omega)))))
      · exact Or.inr (Or.inr (Or.inr (Or.inr (Or.inr (Or.inl (by omega))))))
      · exact Or.inr (Or.inr (Or.inr (Or.inr (Or.inr (Or.inr (Or.inl (by omega)))))))
      · exact Or.inr (Or.inr (Or.inr (Or.inr (Or.inr (Or.inr (Or.inr (Or.inl (by omega))))))))
      · exact Or.inr (Or.inr (Or.inr (Or.inr (Or.inr (Or.inr (Or.inr (Or.inr ((by omega)))))))))
  · rw [if_neg h]; rw [hz] at h
    exact (if_pos trivial).trans (if_pos (Or.inl (by omega))).symm
theorem sp_own_ns_0_22 (c : Int32) : own_ns_0_22 c = if (248 ≤ c.toInt ∧ c.toInt ≤ 767) ∨ (880 ≤ c.toInt ∧ c.toInt ≤ 893) ∨ (895 ≤ c.toInt ∧ c.toInt ≤ 8191) ∨ (8204 ≤ c.toInt ∧ c.toInt ≤ 8205) ∨ (8304 ≤ c.toInt ∧ c.toInt ≤ 8591) ∨ (11264 ≤ c.toInt ∧ c.toInt ≤ 12271) ∨ (12289 ≤ c.toInt ∧ c.toInt ≤ 55295) ∨ (63744 ≤ c.toInt ∧ c.toInt ≤ 64975) ∨ (65008 ≤ c.toInt ∧ c.toInt ≤ 65533) ∨ (65536 ≤ c.toInt ∧ c.toInt ≤ 983039) then 1 else 0 := by
  have hz : (c < (248 : Int32)) ↔ c.toInt < 248 := by simp only [Int32.lt_iff_toInt_lt, Int32.reduceToInt]
  show (if c < (248 : Int32) then own_ns_0_20 c else own_ns_0_21 c) = _
  rw [sp_own_ns_0_20, sp_own_ns_0_21]
  by_cases h : c < (248 : Int32)
  · rw [if_pos h]; rw [hz] at h
    refine own_ifc ⟨fun q => ?_, fun q => ?_⟩
    · skip
      rcases q with q | q | q | q | q | q | q | q | q
      · exact absurd q (by omega)
      · exact absurd q (by omega)
      · exact absurd q (by omega)
      · exact absurd q (by omega)
      · exact absurd q (by omega)
      · exact absurd q (by omega)
      · exact absurd q (by omega)
      · exact absurd q (by omega)
      · exact absurd q (by omega)
    · skip
      rcases q with q | q | q | q | q | q | q | q | q | q
      · exact absurd q (by omega)
      · exact absurd q (by omega)
      · exact absurd q (by omega)
      · exact absurd q (by omega)
      · exact absurd q (by omega)
      · exact absurd q (by omega)
      · exact absurd q (by omega)
      · exact absurd q (by omega)
      · exact absurd q (by omega)
      · exact absurd q (by omega)
  · rw [if_neg h]; rw [hz] at h
    refine own_ifc ⟨fun q => ?_, fun q => ?_⟩
    · skip
      rcases q with q | q | q | q | q | q | q | q | q | q
      · exact Or.inl (by omega)
      · exact Or.inr (Or.inl (by omega))
      · exact Or.inr (Or.inr (Or.inl (by omega)))
      · exact Or.inr (Or.inr (Or.inr (Or.inl (by omega))))
      · exact Or.inr (Or.inr (Or.inr (Or.inr (Or.inl (by omega)))))
      · exact Or.inr (Or.inr (Or.inr (Or.inr (Or.inr (Or.inl (by omega))))))
      · exact Or.inr (Or.inr (Or.inr (Or.inr (Or.inr (Or.inr (Or.inl (by omega)))))))
      · exact Or.inr (Or.inr (Or.inr (Or.inr (Or.inr (Or.inr (Or.inr (Or.inl (by omega))))))))
      · exact Or.inr (Or.inr (Or.inr (Or.inr (Or.inr (Or.inr (Or.inr (Or.inr (Or.inl (by omega)))))))))
      · exact Or.inr (Or.inr (Or.inr (Or.inr (Or.inr (Or.inr (Or.inr (Or.inr (Or.inr ((by omega))))))))))
    · skip
      rcases q with q | q | q | q | q | q | q | q | q | q
      · exact Or.inl (by omega)
      · exact Or.inr (Or.inl (by omega))
      · exact Or.inr (Or.inr (Or.inl (by omega)))
      · exact Or.inr (Or.inr (Or.inr (Or.inl (by omega))))
      · exact Or.inr (Or.inr (Or.inr (Or.inr (Or.inl (by omega)))))
      · exact Or.inr (Or.inr (Or.inr (Or.inr (Or.inr (Or.inl (by omega))))))
      · exact Or.inr (Or.inr (Or.inr (Or.inr (Or.inr (Or.inr (Or.inl (by omega)))))))
      · exact Or.inr (Or.inr (Or.inr (Or.inr (Or.inr (Or.inr (Or.inr (Or.inl (by omega))))))))
      · exact Or.inr (Or.inr (Or.inr (Or.inr (Or.inr (Or.inr (Or.inr (Or.inr (Or.inl (by omega)))))))))
      · exact Or.inr (Or.inr (Or.inr (Or.inr (Or.inr (Or.inr (Or.inr (Or.inr (Or.inr ((by omega))))))))))
theorem sp_own_ns_0_23 (c : Int32) : own_ns_0_23 c = if c.toInt ≤ 246 ∨ (248 ≤ c.toInt ∧ c.toInt ≤ 767) ∨ (880 ≤ c.toInt ∧ c.toInt ≤ 893) ∨ (895 ≤ c.toInt ∧ c.toInt ≤ 8191) ∨ (8204 ≤ c.toInt ∧ c.toInt ≤ 8205) ∨ (8304 ≤ c.toInt ∧ c.toInt ≤ 8591) ∨ (11264 ≤ c.toInt ∧ c.toInt ≤ 12271) ∨ (12289 ≤ c.toInt ∧ c.toInt ≤ 55295) ∨ (63744 ≤ c.toInt ∧ c.toInt ≤ 64975) ∨ (65008 ≤ c.toInt ∧ c.toInt ≤ 65533) ∨ (65536 ≤ c.toInt ∧ c.toInt ≤ 983039) then 1 else 0 := by
  have hz : ((246 : Int32) < c) ↔ 246 < c.toInt := by simp only [Int32.lt_iff_toInt_lt, Int32.reduceToInt]
  show (if (246 : Int32) < c then own_ns_0_22 c else own_ns_0_1 c) = _
  rw [sp_own_ns_0_22, sp_own_ns_0_1]
  by_cases h : (246 : Int32) < c
  · rw [if_pos h]; rw [hz] at h
    refine own_ifc ⟨fun q => ?_, fun q => ?_⟩
    · skip
      rcases q with q | q | q | q | q | q | q | q | q | q
      · exact Or.inr (Or.inl (by omega))
      · exact Or.inr (Or.inr (Or.inl (by omega)))
      · exact Or.inr (Or.inr (Or.inr (Or.inl (by omega))))
      · exact Or.inr (Or.inr (Or.inr (Or.inr (Or.inl (by omega)))))
      · exact Or.inr (Or.inr (Or.inr (Or.inr (Or.inr (Or.inl (by omega))))))
      · exact Or.inr (Or.inr (Or.inr (Or.inr (Or.inr (Or.inr (Or.inl (by omega)))))))
      · exact Or.inr (Or.inr (Or.inr (Or.inr (Or.inr (Or.inr (Or.inr (Or.inl (by omega))))))))
      · exact Or.inr (Or.inr (Or.inr (Or.inr (Or.inr (Or.inr (Or.inr (Or.inr (Or.inl (by omega)))))))))
      · exact Or.inr (Or.inr (Or.inr (Or.inr (Or.inr (Or.inr (Or.inr (Or.inr (Or.inr (Or.inl (by omega))))))))))
      · exact Or.inr (Or.inr (Or.inr (Or.inr (Or.inr (Or.inr (Or.inr (Or.inr (Or.inr (Or.inr ((by omega)))))))))))
    · skip
      rcases q with q | q | q | q | q | q | q | q | q | q | q
      · exact absurd q (by omega)
      · exact Or.inl (by omega)
      · exact Or.inr (Or.inl (by omega))
      · exact Or.inr (Or.inr (Or.inl (by omega)))
      · exact Or.inr (Or.inr (Or.inr (Or.inl (by omega))))
      · exact Or.inr (Or.inr (Or.inr (Or.inr (Or.inl (by omega)))))
      · exact Or.inr (Or.inr (Or.inr (Or.inr (Or.inr (Or.inl (by omega))))))
      · exact Or.inr (Or.inr (Or.inr (Or.inr (Or.inr (Or.inr (Or.inl (by omega)))))))
      · exact Or.inr (Or.inr (Or.inr (Or.inr (Or.inr (Or.inr (Or.inr (Or.inl (by omega))))))))
      · exact Or.inr (Or.inr (Or.inr (Or.inr (Or.inr (Or.inr (Or.inr (Or.inr (Or.inl (by omega)))))))))
      · exact Or.inr (Or.inr (Or.inr (Or.inr (Or.inr (Or.inr (Or.inr (Or.inr (Or.inr ((by omega))))))))))
  · rw [if_neg h]; rw [hz] at h
    exact (if_pos trivial).trans (if_pos (Or.inl (by omega))).symm
theorem sp_own_ns_0_24 (c : Int32) : own_ns_0_24 c = if (216 ≤ c.toInt ∧ c.toInt ≤ 246) ∨ (248 ≤ c.toInt ∧ c.toInt ≤ 767) ∨ (880 ≤ c.toInt ∧ c.toInt ≤ 893) ∨ (895 ≤ c.toInt ∧ c.toInt ≤ 8191) ∨ (8204 ≤ c.toInt ∧ c.toInt ≤ 8205) ∨ (8304 ≤ c.toInt ∧ c.toInt ≤ 8591) ∨ (11264 ≤ c.toInt ∧ c.toInt ≤ 12271) ∨ (12289 ≤ c.toInt ∧ c.toInt ≤ 55295) ∨ (63744 ≤ c.toInt ∧ c.toInt ≤ 64975) ∨ (65008 ≤ c.toInt ∧ c.toInt ≤ 65533) ∨ (65536 ≤ c.toInt ∧ c.toInt ≤ 983039) then 1 else 0 := by
  have hz : (c < (216 : Int32)) ↔ c.toInt < 216 := by simp only [Int32.lt_iff_toInt_lt, Int32.reduceToInt]
  show (if c < (216 : Int32) then own_ns_0_22 c else own_ns_0_23 c) = _
  rw [sp_own_ns_0_22, sp_own_ns_0_23]
  by_cases h : c < (216 : Int32)
  · rw [if_pos h]; rw [hz] at h
    refine own_ifc ⟨fun q => ?_, fun q => ?_⟩
    · skip
      rcases q with q | q | q | q | q | q | q | q | q | q
      · exact absurd q (by omega)
      · exact absurd q (by omega)
      · exact absurd q (by omega)
      · exact absurd q (by omega)
      · exact absurd q (by omega)
      · exact absurd q (by omega)
      · exact absurd q (by omega)
      · exact absurd q (by omega)
      · exact absurd q (by omega)
      · exact absurd q (by omega)
    · skip
      rcases q with q | q | q | q | q | q | q | q | q | q | q
      · exact absurd q (by omega)
      · exact absurd q (by omega)
      · exact absurd q (by omega)
      · exact absurd q (by omega)
      · exact absurd q (by omega)
      · exact absurd q (by omega)
      · exact absurd q (by omega)
      · exact absurd q (by omega)
      · exact absurd q (by omega)
      · exact absurd q (by omega)
      · exact absurd q (by omega)
  · rw [if_neg h]; rw [hz] at h
    refine own_ifc ⟨fun q => ?_, fun q => ?_⟩
    · skip
      rcases q with q | q | q | q | q | q | q | q | q | q | q
      · exact Or.inl (by omega)
      · exact Or.inr (Or.inl (by omega))
      · exact Or.inr (Or.inr (Or.inl (by omega)))
      · exact Or.inr (Or.inr (Or.inr (Or.inl (by omega))))
      · exact Or.inr (Or.inr (Or.inr (Or.inr (Or.inl (by omega)))))
      · exact Or.inr (Or.inr (Or.inr (Or.inr (Or.inr (Or.inl (by omega))))))
      · exact Or.inr (Or.inr (Or.inr (Or.inr (Or.inr (Or.inr (Or.inl (by omega)))))))
      · exact Or.inr (Or.inr (Or.inr (Or.inr (Or.inr (Or.inr (Or.inr (Or.inl (by omega))))))))
      · exact Or.inr (Or.inr (Or.inr (Or.inr (Or.inr (Or.inr (Or.inr (Or.inr (Or.inl (by omega)))))))))
      · exact Or.inr (Or.inr (Or.inr (Or.inr (Or.inr (Or.inr (Or.inr (Or.inr (Or.inr (Or.inl (by omega))))))))))
      · exact Or.inr (Or.inr (Or.inr (Or.inr (Or.inr (Or.inr (Or.inr (Or.inr (Or.inr (Or.inr ((by omega)))))))))))
    · skip
      rcases q with q | q | q | q | q | q | q | q | q | q | q
      · exact Or.inl (by omega)
      · exact Or.inr (Or.inl (by omega))
      · exact Or.inr (Or.inr (Or.inl (by omega)))
      · exact Or.inr (Or.inr (Or.inr (Or.inl (by omega))))
      · exact Or.inr (Or.inr (Or.inr (Or.inr (Or.inl (by omega)))))
      · exact Or.inr (Or.inr (Or.inr (Or.inr (Or.inr (Or.inl (by omega))))))
      · exact Or.inr (Or.inr (Or.inr (Or.inr (Or.inr (Or.inr (Or.inl (by omega)))))))
      · exact Or.inr (Or.inr (Or.inr (Or.inr (Or.inr (Or.inr (Or.inr (Or.inl (by omega))))))))
      · exact Or.inr (Or.inr (Or.inr (Or.inr (Or.inr (Or.inr (Or.inr (Or.inr (Or.inl (by omega)))))))))
      · exact Or.inr (Or.inr (Or.inr (Or.inr (Or.inr (Or.inr (Or.inr (Or.inr (Or.inr (Or.inl (by omega))))))))))
      · exact Or.inr (Or.inr (Or.inr (Or.inr (Or.inr (Or.inr (Or.inr (Or.inr (Or.inr (Or.inr ((by omega)))))))))))
theorem sp_own_ns_0_25 (c : Int32) : own_ns_0_25 c = if c.toInt ≤ 214 ∨ (216 ≤ c.toInt ∧ c.toInt ≤ 246) ∨ (248 ≤ c.toInt ∧ c.toInt ≤ 767) ∨ (880 ≤ c.toInt ∧ c.toInt ≤ 893) ∨ (895 ≤ c.toInt ∧ c.toInt ≤ 8191) ∨ (8204 ≤ c.toInt ∧ c.toInt ≤ 8205) ∨ (8304 ≤ c.toInt ∧ c.toInt ≤ 8591) ∨ (11264 ≤ c.toInt ∧ c.toInt ≤ 12271) ∨ (12289 ≤ c.toInt ∧ c.toInt ≤ 55295) ∨ (63744 ≤ c.toInt ∧ c.toInt ≤ 64975) ∨ (65008 ≤ c.toInt ∧ c.toInt ≤ 65533) ∨ (65536 ≤ c.toInt ∧ c.toInt ≤ 983039) then 1 else 0 := by
  have hz : ((214 : Int32) < c) ↔ 214 < c.toInt := by simp only [Int32.lt_iff_toInt_lt, Int32.reduceToInt]
  show (if (214 : Int32) < c then own_ns_0_24 c else own_ns_0_1 c) = _
  rw [sp_own_ns_0_24, sp_own_ns_0_1]
  by_cases h : (214 : Int32) < c
  · rw [if_pos h]; rw [hz] at h
    refine own_ifc ⟨fun q => ?_, fun q => ?_⟩
    · skip
      rcases q with q | q | q | q | q | q | q | q | q | q | q
      · exact Or.inr (Or.inl (by omega))
      · exact Or.inr (Or.inr (Or.inl (by omega)))
      · exact Or.inr (Or.inr (Or.inr (Or.inl (by omega))))
      · exact Or.inr (Or.inr (Or.inr (Or.inr (Or.inl (by omega)))))
      · exact Or.inr (Or.inr (Or.inr (Or.inr (Or.inr (Or.inl (by omega))))))
      · exact Or.inr (Or.inr (Or.inr (Or.inr (Or.inr (Or.inr (Or.inl (by omega)))))))
      · exact Or.inr (Or.inr (Or.inr (Or.inr (Or.inr (Or.inr (Or.inr (Or.inl (by omega))))))))
      · exact Or.inr (Or.inr (Or.inr (Or.inr (Or.inr (Or.inr (Or.inr (Or.inr (Or.inl (by omega)))))))))
      · exact Or.inr (Or.inr (Or.inr (Or.inr (Or.inr (Or.inr (Or.inr (Or.inr (Or.inr (Or.inl (by omega))))))))))
      · exact Or.inr (Or.inr (Or.inr (Or.inr (Or.inr (Or.inr (Or.inr (Or.inr (Or.inr (Or.inr (Or.inl (by omega)))))))))))
      · exact Or.inr (Or.inr (Or.inr (Or.inr (Or.inr (Or.inr (Or.inr (Or.inr (Or.inr (Or.inr (Or.inr ((by omega))))))))))))
    · skip
      rcases q with q | q | q | q | q | q | q | q | q | q | q | q
      · exact absurd q (by omega)
      · exact Or.inl (by omega)
      · exact Or.inr (Or.inl (by omega))
      · exact Or.inr (Or.inr (Or.inl (by omega)))
      · exact Or.inr (Or.inr (Or.inr (Or.inl (by omega))))
      · exact Or.inr (Or.inr (Or.inr (Or.inr (Or.inl (by omega)))))
      · exact Or.inr (Or.inr (Or.inr (Or.inr (Or.inr (Or.inl (by omega))))))
      · exact Or.inr (Or.inr (Or.inr (Or.inr (Or.inr (Or.inr (Or.inl (by omega)))))))
      · exact Or.inr (Or.inr (Or.inr (Or.inr (Or.inr (Or.inr (Or.inr (Or.inl (by omega))))))))
      · exact Or.inr (Or.inr (Or.inr (Or.inr (Or.inr (Or.inr (Or.inr (Or.inr (Or.inl (by omega)))))))))
      · exact Or.inr (Or.inr (Or.inr (Or.inr (Or.inr (Or.inr (Or.inr (Or.inr (Or.inr (Or.inl (by omega))))))))))
      · exact Or.inr (Or.inr (Or.inr (Or.inr (Or.inr (Or.inr (Or.inr (Or.inr (Or.inr (Or.inr ((by omega)))))))))))
  · rw [if_neg h]; rw [hz] at h
    exact (if_pos trivial).trans (if_pos (Or.inl (by omega))).symm
theorem sp_own_ns_0_26 (c : Int32) : own_ns_0_26 c = if (192 ≤ c.toInt ∧ c.toInt ≤ 214) ∨ (216 ≤ c.toInt ∧ c.toInt ≤ 246) ∨ (248 ≤ c.toInt ∧ c.toInt ≤ 767) ∨ (880 ≤ c.toInt ∧ c.toInt ≤ 893) ∨ (895 ≤ c.toInt ∧ c.toInt ≤ 8191) ∨ (8204 ≤ c.toInt ∧ c.toInt ≤ 8205) ∨ (8304 ≤ c.toInt ∧ c.toInt ≤ 8591) ∨ (11264 ≤ c.toInt ∧ c.toInt ≤ 12271) ∨ (12289 ≤ c.toInt ∧ c.toInt ≤ 55295) ∨ (63744 ≤ c.toInt ∧ c.toInt ≤ 64975) ∨ (65008 ≤ c.toInt ∧ c.toInt ≤ 65533) ∨ (65536 ≤ c.toInt ∧ c.toInt ≤ 983039) then 1 else 0 := by
  have hz : (c < (192 : Int32)) ↔ c.toInt < 192 := by simp only [Int32.lt_iff_toInt_lt, Int32.reduceToInt]
  show (if c < (192 : Int32) then own_ns_0_24 c else own_ns_0_25 c) = _
  rw [sp_own_ns_0_24, sp_own_ns_0_25]
  by_cases h : c < (192 : Int32)
  · rw [if_pos h]; rw [hz] at h
    refine own_ifc ⟨fun q => ?_, fun q => ?_⟩
    · skip
      rcases q with q | q | q | q | q | q | q | q | q | q | q
      · exact absurd q (by omega)
      · exact absurd q (by omega)
      · exact absurd q (by omega)
      · exact absurd q (by omega)
      · exact absurd q (by omega)
      · exact absurd q (by omega)
      · exact absurd q (by omega)
      · exact absurd q (by omega)
      · exact absurd q (by omega)
      · exact absurd q (by omega)
      · exact absurd q (by omega)
    · skip
      rcases q with q | q | q | q | q | q | q | q | q | q | q | q
      · exact absurd q (by omega)
      · exact absurd q (by omega)
      · exact absurd q (by omega)
      · exact absurd q (by omega)
      · exact absurd q (by omega)
      · exact absurd q (by omega)
      · exact absurd q (by omega)
      · exact absurd q (by omega)
      · exact absurd q (by omega)
      · exact absurd q (by omega)
      · exact absurd q (by omega)
      · exact absurd q (by omega)
  · rw [if_neg h]; rw [hz] at h
    refine own_ifc ⟨fun q => ?_, fun q => ?_⟩
    · skip
      rcases q with q | q | q | q | q | q | q | q | q | q | q | q
      · exact Or.inl (by omega)
      · exact Or.inr (Or.inl (by omega))
      · exact Or.inr (Or.inr (Or.inl (by omega)))
      · exact Or.inr (Or.inr (Or.inr (Or.inl (by omega))))
      · exact Or.inr (Or.inr (Or.inr (Or.inr (Or.inl (by omega)))))
      · exact Or.inr (Or.inr (Or.inr (Or.inr (Or.inr (Or.inl (by omega))))))
      · exact Or.inr (Or.inr (Or.inr (Or.inr (Or.inr (Or.inr (Or.inl (by omega)))))))
      · exact Or.inr (Or.inr (Or.inr (Or.inr (Or.inr (Or.inr (Or.inr (Or.inl (by omega))))))))
      · exact Or.inr (Or.inr (Or.inr (Or.inr (Or.inr (Or.inr (Or.inr (Or.inr (Or.inl (by omega)))))))))
      · exact Or.inr (Or.inr (Or.inr (Or.inr (Or.inr (Or.inr (Or.inr (Or.inr (Or.inr (Or.inl (by omega))))))))))
      · exact Or.inr (Or.inr (Or.inr (Or.inr (Or.inr (Or.inr (Or.inr (Or.inr (Or.inr (Or.inr (Or.inl (by omega)))))))))))
      · exact Or.inr (Or.inr (Or.inr (Or.inr (Or.inr (Or.inr (Or.inr (Or.inr (Or.inr (Or.inr (Or.inr ((by omega))))))))))))
    · skip
      rcases q with q | q | q | q | q | q | q | q | q | q | q | q
      · exact Or.inl (by omega)
      · exact Or.inr (Or.inl (by omega))
      · exact Or.inr (Or.inr (Or.inl (by omega)))
      · exact Or.inr (Or.inr (Or.inr (Or.inl (by omega))))
      · exact Or.inr (Or.inr (Or.inr (Or.inr (Or.inl (by omega)))))
      · exact Or.inr (Or.inr (Or.inr (Or.inr (Or.inr (Or.inl (by omega))))))
      · exact Or.inr (Or.inr (Or.inr (Or.inr (Or.inr (Or.inr (Or.inl (by omega)))))))
      · exact Or.inr (Or.inr (Or.inr (Or.inr (Or.inr (Or.inr (Or.inr (Or.inl (by omega))))))))
      · exact Or.inr (Or.inr (Or.inr (Or.inr (Or.inr (Or.inr (Or.inr (Or.inr (Or.inl (by omega)))))))))
      · exact Or.inr (Or.inr (Or.inr (Or.inr (Or.inr (Or.inr (Or.inr (Or.inr (Or.inr (Or.inl (by omega))))))))))
      · exact Or.inr (Or.inr (Or.inr (Or.inr (Or.inr (Or.inr (Or.inr (Or.inr (Or.inr (Or.inr (Or.inl (by omega)))))))))))
      · exact Or.inr (Or.inr (Or.inr (Or.inr (Or.inr (Or.inr (Or.inr (Or.inr (Or.inr (Or.inr (Or.inr ((by omega))))))))))))
theorem sp_own_ns_0_27 (c : Int32) : own_ns_0_27 c = if c.toInt = 58 ∨ (192 ≤ c.toInt ∧ c.toInt ≤ 214) ∨ (216 ≤ c.toInt ∧ c.toInt ≤ 246) ∨ (248 ≤ c.toInt ∧ c.toInt ≤ 767) ∨ (880 ≤ c.toInt ∧ c.toInt ≤ 893) ∨ (895 ≤ c.toInt ∧ c.toInt ≤ 8191) ∨ (8204 ≤ c.toInt ∧ c.toInt ≤ 8205) ∨ (8304 ≤ c.toInt ∧ c.toInt ≤ 8591) ∨ (11264 ≤ c.toInt ∧ c.toInt ≤ 12271) ∨ (12289 ≤ c.toInt ∧ c.toInt ≤ 55295) ∨ (63744 ≤ c.toInt ∧ c.toInt ≤ 64975) ∨ (65008 ≤ c.toInt ∧ c.toInt ≤ 65533) ∨ (65536 ≤ c.toInt ∧ c.toInt ≤ 983039) then 1 else 0 := by
  have hz : (c = (58 : Int32)) ↔ c.toInt = 58 := by rw [own_eq_iff]; simp only [Int32.reduceToInt]
  show (if c = (58 : Int32) then own_ns_0_1 c else own_ns_0_26 c) = _
  rw [sp_own_ns_0_1, sp_own_ns_0_26]
  by_cases h : c = (58 : Int32)
  · rw [if_pos h]; rw [hz] at h
    exact (if_pos trivial).trans (if_pos (Or.inl (by omega))).symm
  · rw [if_neg h]; rw [hz] at h
    refine own_ifc ⟨fun q => ?_, fun q => ?_⟩
    · skip
      rcases q with q | q | q | q | q | q | q | q | q | q | q | q
      · exact Or.inr (Or.inl (by omega))
      · exact Or.inr (Or.inr (Or.inl (by omega)))
      · exact Or.inr (Or.inr (Or.inr (Or.inl (by omega))))
      · exact Or.inr (Or.inr (Or.inr (Or.inr (Or.inl (by omega)))))
      · exact Or.inr (Or.inr (Or.inr (Or.inr (Or.inr (Or.inl (by omega))))))
      · exact Or.inr (Or.inr (Or.inr (Or.inr (Or.inr (Or.inr (Or.inl (by omega)))))))
      · exact Or.inr (Or.inr (Or.inr (Or.inr (Or.inr (Or.inr (Or.inr (Or.inl (by omega))))))))
      · exact Or.inr (Or.inr (Or.inr (Or.inr (Or.inr (Or.inr (Or.inr (Or.inr (Or.inl (by omega)))))))))
      · exact Or.inr (Or.inr (Or.inr (Or.inr (Or.inr (Or.inr (Or.inr (Or.inr (Or.inr (Or.inl (by omega))))))))))
      · exact Or.inr (Or.inr (Or.inr (Or.inr (Or.inr (Or.inr (Or.inr (Or.inr (Or.inr (Or.inr (Or.inl (by omega)))))))))))
      · exact Or.inr (Or.inr (Or.inr (Or.inr (Or.inr (Or.inr (Or.inr (Or.inr (Or.inr (Or.inr (Or.inr (Or.inl (by omega))))))))))))
      · exact Or.inr (Or.inr (Or.inr (Or.inr (Or.inr (Or.inr (Or.inr (Or.inr (Or.inr (Or.inr (Or.inr (Or.inr ((by omega)))))))))))))
    · skip
      rcases q with q | q | q | q | q | q | q | q | q | q | q | q | q
      · exact absurd q (by omega)
      · exact Or.inl (by omega)
      · exact Or.inr (Or.inl (by omega))
      · exact Or.inr (Or.inr (Or.inl (by omega)))
      · exact Or.inr (Or.inr (Or.inr (Or.inl (by omega))))
      · exact Or.inr (Or.inr (Or.inr (Or.inr (Or.inl (by omega)))))
      · exact Or.inr (Or.inr (Or.inr (Or.inr (Or.inr (Or.inl (by omega))))))
      · exact Or.inr (Or.inr (Or.inr (Or.inr (Or.inr (Or.inr (Or.inl (by omega)))))))
      · exact Or.inr (Or.inr (Or.inr (Or.inr (Or.inr (Or.inr (Or.inr (Or.inl (by omega))))))))
      · exact Or.inr (Or.inr (Or.inr (Or.inr (Or.inr (Or.inr (Or.inr (Or.inr (Or.inl (by omega)))))))))
      · exact Or.inr (Or.inr (Or.inr (Or.inr (Or.inr (Or.inr (Or.inr (Or.inr (Or.inr (Or.inl (by omega))))))))))
      · exact Or.inr (Or.inr (Or.inr (Or.inr (Or.inr (Or.inr (Or.inr (Or.inr (Or.inr (Or.inr (Or.inl (by omega)))))))))))
      · exact Or.inr (Or.inr (Or.inr (Or.inr (Or.inr (Or.inr (Or.inr (Or.inr (Or.inr (Or.inr (Or.inr ((by omega))))))))))))
theorem sp_own_ns_0_28 (c : Int32) : own_ns_0_28 c = if c.toInt = 58 ∨ c.toInt = 95 ∨ (192 ≤ c.toInt ∧ c.toInt ≤ 214) ∨ (216 ≤ c.toInt ∧ c.toInt ≤ 246) ∨ (248 ≤ c.toInt ∧ c.toInt ≤ 767) ∨ (880 ≤ c.toInt ∧ c.toInt ≤ 893) ∨ (895 ≤ c.toInt ∧ c.toInt ≤ 8191) ∨ (8204 ≤ c.toInt ∧ c.toInt ≤ 8205) ∨ (8304 ≤ c.toInt ∧ c.toInt ≤ 8591) ∨ (11264 ≤ c.toInt ∧ c.toInt ≤ 12271) ∨ (12289 ≤ c.toInt ∧ c.toInt ≤ 55295) ∨ (63744 ≤ c.toInt ∧ c.toInt ≤ 64975) ∨ (65008 ≤ c.toInt ∧ c.toInt ≤ 65533) ∨ (65536 ≤ c.toInt ∧ c.toInt ≤ 983039) then 1 else 0 := by
  have hz : (c = (95 : Int32)) ↔ c.toInt = 95 := by rw [own_eq_iff]; simp only [Int32.reduceToInt]
  show (if c = (95 : Int32) then own_ns_0_1 c else own_ns_0_27 c) = _
  rw [sp_own_ns_0_1, sp_own_ns_0_27]
  by_cases h : c = (95 : Int32)
  · rw [if_pos h]; rw [hz] at h
    exact (if_pos trivial).trans (if_pos (Or.inr (Or.inl (by omega)))).symm
  · rw [if_neg h]; rw [hz] at h
    refine own_ifc ⟨fun q => ?_, fun q => ?_⟩
    · skip
      rcases q with q | q | q | q | q | q | q | q | q | q | q | q | q
      · exact Or.inl (by omega)
      · exact Or.inr (Or.inr (Or.inl (by omega)))
      · exact Or.inr (Or.inr (Or.inr (Or.inl (by omega))))
      · exact Or.inr (Or.inr (Or.inr (Or.inr (Or.inl (by omega)))))
      · exact Or.inr (Or.inr (Or.inr (Or.inr (Or.inr (Or.inl (by omega))))))
      · exact Or.inr (Or.inr (Or.inr (Or.inr (Or.inr (Or.inr (Or.inl (by omega)))))))
      · exact Or.inr (Or.inr (Or.inr (Or.inr (Or.inr (Or.inr (Or.inr (Or.inl (by omega))))))))
      · exact Or.inr (Or.inr (Or.inr (Or.inr (Or.inr (Or.inr (Or.inr (Or.inr (Or.inl (by omega)))))))))
      · exact Or.inr (Or.inr (Or.inr (Or.inr (Or.inr (Or.inr (Or.inr (Or.inr (Or.inr (Or.inl (by omega))))))))))
      · exact Or.inr (Or.inr (Or.inr (Or.inr (Or.inr (Or.inr (Or.inr (Or.inr (Or.inr (Or.inr (Or.inl (by omega)))))))))))
      · exact Or.inr (Or.inr (Or.inr (Or.inr (Or.inr (Or.inr (Or.inr (Or.inr (Or.inr (Or.inr (Or.inr (Or.inl (by omega))))))))))))
      · exact Or.inr (Or.inr (Or.inr (Or.inr (Or.inr (Or.inr (Or.inr (Or.inr (Or.inr (Or.inr (Or.inr (Or.inr (Or.inl (by omega)))))))))))))
      · exact Or.inr (Or.inr (Or.inr (Or.inr (Or.inr (Or.inr (Or.inr (Or.inr (Or.inr (Or.inr (Or.inr (Or.inr (Or.inr ((by omega))))))))))))))
    · skip
      rcases q with q | q | q | q | q | q | q | q | q | q | q | q | q | q
      · exact Or.inl (by omega)
      · exact absurd q (by omega)
      · exact Or.inr (Or.inl (by omega))
      · exact Or.inr (Or.inr (Or.inl (by omega)))
      · exact Or.inr (Or.inr (Or.inr (Or.inl (by omega))))
      · exact Or.inr (Or.inr (Or.inr (Or.inr (Or.inl (by omega)))))
      · exact Or.inr (Or.inr (Or.inr (Or.inr (Or.inr (Or.inl (by omega))))))
      · exact Or.inr (Or.inr (Or.inr (Or.inr (Or.inr (Or.inr (Or.inl (by omega)))))))
      · exact Or.inr (Or.inr (Or.inr (Or.inr (Or.inr (Or.inr (Or.inr (Or.inl (by omega))))))))
      · exact Or.inr (Or.inr (Or.inr (Or.inr (Or.inr (Or.inr (Or.inr (Or.inr (Or.inl (by omega)))))))))
      · exact Or.inr (Or.inr (Or.inr (Or.inr (Or.inr (Or.inr (Or.inr (Or.inr (Or.inr (Or.inl (by omega))))))))))
      · exact Or.inr (Or.inr (Or.inr (Or.inr (Or.inr (Or.inr (Or.inr (Or.inr (Or.inr (Or.inr (Or.inl (by omega)))))))))))
      · exact Or.inr (Or.inr (Or.inr (Or.inr (Or.inr (Or.inr (Or.inr (Or.inr (Or.inr (Or.inr (Or.inr (Or.inl (by omega))))))))))))
      · exact Or.inr (Or.inr (Or.inr (Or.inr (Or.inr (Or.inr (Or.inr (Or.inr (Or.inr (Or.inr (Or.inr (Or.inr ((by omega)))))))))))))
theorem sp_own_ns_0_29 (c : Int32) : own_ns_0_29 c = if c.toInt ≤ 90 ∨ c.toInt = 95 ∨ (192 ≤ c.toInt ∧ c.toInt ≤ 214) ∨ (216 ≤ c.toInt ∧ c.toInt ≤ 246) ∨ (248 ≤ c.toInt ∧ c.toInt ≤ 767) ∨ (880 ≤ c.toInt ∧ c.toInt ≤ 893) ∨ (895 ≤ c.toInt ∧ c.toInt ≤ 8191) ∨ (8204 ≤ c.toInt ∧ c.toInt ≤ 8205) ∨ (8304 ≤ c.toInt ∧ c.toInt ≤ 8591) ∨ (11264 ≤ c.toInt ∧ c.toInt ≤ 12271) ∨ (12289 ≤ c.toInt ∧ c.toInt ≤ 55295) ∨ (63744 ≤ c.toInt ∧ c.toInt ≤ 64975) ∨ (65008 ≤ c.toInt ∧ c.toInt ≤ 65533) ∨ (65536 ≤ c.toInt ∧ c.toInt ≤ 983039) then 1 else 0 := by
  have hz : ((90 : Int32) < c) ↔ 90 < c.toInt := by simp only [Int32.lt_iff_toInt_lt, Int32.reduceToInt]
  show (if (90 : Int32) < c then own_ns_0_28 c else own_ns_0_1 c) = _
  rw [sp_own_ns_0_28, sp_own_ns_0_1]
  by_cases h : (90 : Int32) < c
  · rw [if_pos h]; rw [hz] at h
    refine own_ifc ⟨fun q => ?_, fun q => ?_⟩
    · skip
      rcases q with q | q | q | q | q | q | q | q | q | q | q | q | q | q
      · exact absurd q (by omega)
      · exact Or.inr (Or.inl (by omega))
      · exact Or.inr (Or.inr (Or.inl (by omega)))
      · exact Or.inr (Or.inr (Or.inr (Or.inl (by omega))))
      · exact Or.inr (Or.inr (Or.inr (Or.inr (Or.inl (by omega)))))
      · exact Or.inr (Or.inr (Or.inr (Or.inr (Or.inr (Or.inl (by omega))))))
      · exact Or.inr (Or.inr (Or.inr (Or.inr (Or.inr (Or.inr (Or.inl (by omega)))))))
      · exact Or.inr (Or.inr (Or.inr (Or.inr (Or.inr (Or.inr (Or.inr (Or.inl (by omega))))))))
      · exact Or.inr (Or.inr (Or.inr (Or.inr (Or.inr (Or.inr (Or.inr (Or.inr (Or.inl (by omega)))))))))
      · exact Or.inr (Or.inr (Or.inr (Or.inr (Or.inr (Or.inr (Or.inr (Or.inr (Or.inr (Or.inl (by omega))))))))))
      · exact Or.inr (Or.inr (Or.inr (Or.inr (Or.inr (Or.inr (Or.inr (Or.inr (Or.inr (Or.inr (Or.inl (by omega)))))))))))
      · exact Or.inr (Or.inr (Or.inr (Or.inr (Or.inr (Or.inr (Or.inr (Or.inr (Or.inr (Or.inr (Or.inr (Or.inl (by omega))))))))))))
      · exact Or.inr (Or.inr (Or.inr (Or.inr (Or.inr (Or.inr (Or.inr (Or.inr (Or.inr (Or.inr (Or.inr (Or.inr (Or.inl (by omega)))))))))))))
      · exact Or.inr (Or.inr (Or.inr (Or.inr (Or.inr (Or.inr (Or.inr (Or.inr (Or.inr (Or.inr (Or.inr (Or.inr (Or.inr ((by omega))))))))))))))
    · skip
      rcases q with q | q | q | q | q | q | q | q | q | q | q | q | q | q
      · exact absurd q (by omega)
      · exact Or.inr (Or.inl (by omega))
      · exact Or.inr (Or.inr (Or.inl (by omega)))
      · exact Or.inr (Or.inr (Or.inr (Or.inl (by omega))))
      · exact Or.inr (Or.inr (Or.inr (Or.inr (Or.inl (by omega)))))
      · exact Or.inr (Or.inr (Or.inr (Or.inr (Or.inr (Or.inl (by omega))))))
      · exact Or.inr (Or.inr (Or.inr (Or.inr (Or.inr (Or.inr (Or.inl (by omega)))))))
      · exact Or.inr (Or.inr (Or.inr (Or.inr (Or.inr (Or.inr (Or.inr (Or.inl (by omega))))))))
      · exact Or.inr (Or.inr (Or.inr (Or.inr (Or.inr (Or.inr (Or.inr (Or.inr (Or.inl (by omega)))))))))
      · exact Or.inr (Or.inr (Or.inr (Or.inr (Or.inr (Or.inr (Or.inr (Or.inr (Or.inr (Or.inl (by omega))))))))))
      · exact Or.inr (Or.inr (Or.inr (Or.inr (Or.inr (Or.inr (Or.inr (Or.inr (Or.inr (Or.inr (Or.inl (by omega)))))))))))
      · exact Or.inr (Or.inr (Or.inr (Or.inr (Or.inr (Or.inr (Or.inr (Or.inr (Or.inr (Or.inr (Or.inr (Or.inl (by omega))))))))))))
      · exact Or.inr (Or.inr (Or.inr (Or.inr (Or.inr (Or.inr (Or.inr (Or.inr (Or.inr (Or.inr (Or.inr (Or.inr (Or.inl (by omega)))))))))))))
      · exact Or.inr (Or.inr (Or.inr (Or.inr (Or.inr (Or.inr (Or.inr (Or.inr (Or.inr (Or.inr (Or.inr (Or.inr (Or.inr ((by omega))))))))))))))
  · rw [if_neg h]; rw [hz] at h
    exact (if_pos trivial).trans (if_pos (Or.inl (by omega))).symm
theorem sp_own_ns_0_30 (c : Int32) : own_ns_0_30 c = if c.toInt = 58 ∨ (65 ≤ c.toInt ∧ c.toInt ≤ 90) ∨ c.toInt = 95 ∨ (192 ≤ c.toInt ∧ c.toInt ≤ 214) ∨ (216 ≤ c.toInt ∧ c.toInt ≤ 246) ∨ (248 ≤ c.toInt ∧ c.toInt ≤ 767) ∨ (880 ≤ c.toInt ∧ c.toInt ≤ 893) ∨ (895 ≤ c.toInt ∧ c.toInt ≤ 8191) ∨ (8204 ≤ c.toInt ∧ c.toInt ≤ 8205) ∨ (8304 ≤ c.toInt ∧ c.toInt ≤ 8591) ∨ (11264 ≤ c.toInt ∧ c.toInt ≤ 12271) ∨ (12289 ≤ c.toInt ∧ c.toInt ≤ 55295) ∨ (63744 ≤ c.toInt ∧ c.toInt ≤ 64975) ∨ (65008 ≤ c.toInt ∧ c.toInt ≤ 65533) ∨ (65536 ≤ c.toInt ∧ c.toInt ≤ 983039) then 1 else 0 := by
  have hz : (c < (65 : Int32)) ↔ c.toInt < 65 := by simp only [Int32.lt_iff_toInt_lt, Int32.reduceToInt]
  show (if c < (65 : Int32) then own_ns_0_28 c else own_ns_0_29 c) = _
  rw [sp_own_ns_0_28, sp_own_ns_0_29]
  by_cases h : c < (65 : Int32)
  · rw [if_pos h]; rw [hz] at h
    refine own_ifc ⟨fun q => ?_, fun q => ?_⟩
    · skip
      rcases q with q | q | q | q | q | q | q | q | q | q | q | q | q | q
      · exact Or.inl (by omega)
      · exact absurd q (by omega)
      · exact absurd q (by omega)
      · exact absurd q (by omega)
      · exact absurd q (by omega)
      · exact absurd q (by omega)
      · exact absurd q (by omega)
      · exact absurd q (by omega)
      · exact absurd q (by omega)
      · exact absurd q (by omega)
      · exact absurd q (by omega)
      · exact absurd q (by omega)
      · exact absurd q (by omega)
      · exact absurd q (by omega)
    · skip
      rcases q with q | q | q | q | q | q | q | q | q | q | q | q | q | q | q
      · exact Or.inl (by omega)
      · exact absurd q (by omega)
      · exact absurd q (by omega)
      · exact absurd q (by omega)
      · exact absurd q (by omega)
      · exact absurd q (by omega)
      · exact absurd q (by omega)
      · exact absurd q (by omega)
      · exact absurd q (by omega)
      · exact absurd q (by omega)
      · exact absurd q (by omega)
      · exact absurd q (by omega)
      · exact absurd q (by omega)
      · exact absurd q (by omega)
      · exact absurd q (by omega)
  · rw [if_neg h]; rw [hz] at h
    refine own_ifc ⟨fun q => ?_, fun q => ?_⟩
    · skip
      rcases q with q | q | q | q | q | q | q | q | q | q | q | q | q | q
      · exact Or.inr (Or.inl (by omega))
      · exact Or.inr (Or.inr (Or.inl (by omega)))
      · exact Or.inr (Or.inr (Or.inr (Or.inl (by omega))))
      · exact Or.inr (Or.inr (Or.inr (Or.inr (Or.inl (by omega)))))
      · exact Or.inr (Or.inr (Or.inr (Or.inr (Or.inr (Or.inl (by omega))))))
      · exact Or.inr (Or.inr (Or.inr (Or.inr (Or.inr (Or.inr (Or.inl (by omega)))))))
      · exact Or.inr (Or.inr (Or.inr (Or.inr (Or.inr (Or.inr (Or.inr (Or.inl (by omega))))))))
      · exact Or.inr (Or.inr (Or.inr (Or.inr (Or.inr (Or.inr (Or.inr (Or.inr (Or.inl (by omega)))))))))
      · exact Or.inr (Or.inr (Or.inr (Or.inr (Or.inr (Or.inr (Or.inr (Or.inr (Or.inr (Or.inl (by omega))))))))))
      · exact Or.inr (Or.inr (Or.inr (Or.inr (Or.inr (Or.inr (Or.inr (Or.inr (Or.inr (Or.inr (Or.inl (by omega)))))))))))
      · exact Or.inr (Or.inr (Or.inr (Or.inr (Or.inr (Or.inr (Or.inr (Or.inr (Or.inr (Or.inr (Or.inr (Or.inl (by omega))))))))))))
      · exact Or.inr (Or.inr (Or.inr (Or.inr (Or.inr (Or.inr (Or.inr (Or.inr (Or.inr (Or.inr (Or.inr (Or.inr (Or.inl (by omega)))))))))))))
      · exact Or.inr (Or.inr (Or.inr (Or.inr (Or.inr (Or.inr (Or.inr (Or.inr (Or.inr (Or.inr (Or.inr (Or.inr (Or.inr (Or.inl (by omega))))))))))))))
      · exact Or.inr (Or.inr (Or.inr (Or.inr (Or.inr (Or.inr (Or.inr (Or.inr (Or.inr (Or.inr (Or.inr (Or.inr (Or.inr (Or.inr ((by omega)))))))))))))))
    · skip
      rcases q with q | q | q | q | q | q | q | q | q | q | q | q | q | q | q
      · exact absurd q (by omega)
      · exact Or.inl (by omega)
      · exact Or.inr (Or.inl (by omega))
      · exact Or.inr (Or.inr (Or.inl (by omega)))
      · exact Or.inr (Or.inr (Or.inr (Or.inl (by omega))))
      · exact Or.inr (Or.inr (Or.inr (Or.inr (Or.inl (by omega)))))
      · exact Or.inr (Or.inr (Or.inr (Or.inr (Or.inr (Or.inl (by omega))))))
      · exact Or.inr (Or.inr (Or.inr (Or.inr (Or.inr (Or.inr (Or.inl (by omega)))))))
      · exact Or.inr (Or.inr (Or.inr (Or.inr (Or.inr (Or.inr (Or.inr (Or.inl (by omega))))))))
      · exact Or.inr (Or.inr (Or.inr (Or.inr (Or.inr (Or.inr (Or.inr (Or.inr (Or.inl (by omega)))))))))
      · exact Or.inr (Or.inr (Or.inr (Or.inr (Or.inr (Or.inr (Or.inr (Or.inr (Or.inr (Or.inl (by omega))))))))))
      · exact Or.inr (Or.inr (Or.inr (Or.inr (Or.inr (Or.inr (Or.inr (Or.inr (Or.inr (Or.inr (Or.inl (by omega)))))))))))
      · exact Or.inr (Or.inr (Or.inr (Or.inr (Or.inr (Or.inr (Or.inr (Or.inr (Or.inr (Or.inr (Or.inr (Or.inl (by omega))))))))))))
      · exact Or.inr (Or.inr (Or.inr (Or.inr (Or.inr (Or.inr (Or.inr (Or.inr (Or.inr (Or.inr (Or.inr (Or.inr (Or.inl (by omega)))))))))))))
      · exact Or.inr (Or.inr (Or.inr (Or.inr (Or.inr (Or.inr (Or.inr (Or.inr (Or.inr (Or.inr (Or.inr (Or.inr (Or.inr ((by omega))))))))))))))
theorem sp_own_ns_0_31 (c : Int32) : own_ns_0_31 c = if c.toInt ≤ 122 ∨ (192 ≤ c.toInt ∧ c.toInt ≤ 214) ∨ (216 ≤ c.toInt ∧ c.toInt ≤ 246) ∨ (248 ≤ c.toInt ∧ c.toInt ≤ 767) ∨ (880 ≤ c.toInt ∧ c.toInt ≤ 893) ∨ (895 ≤ c.toInt ∧ c.toInt ≤ 8191) ∨ (8204 ≤ c.toInt ∧ c.toInt ≤ 8205) ∨ (8304 ≤ c.toInt ∧ c.toInt ≤ 8591) ∨ (11264 ≤ c.toInt ∧ c.toInt ≤ 12271) ∨ (12289 ≤ c.toInt ∧ c.toInt ≤ 55295) ∨ (63744 ≤ c.toInt ∧ c.toInt ≤ 64975) ∨ (65008 ≤ c.toInt ∧ c.toInt ≤ 65533) ∨ (65536 ≤ c.toInt ∧ c.toInt ≤ 983039) then 1 else 0 := by
  have hz : ((122 : Int32) < c) ↔ 122 < c.toInt := by simp only [Int32.lt_iff_toInt_lt, Int32.reduceToInt]
  show (if (122 : Int32) < c then own_ns_0_30 c else own_ns_0_1 c) = _
  rw [sp_own_ns_0_30, sp_own_ns_0_1]
  by_cases h : (122 : Int32) < c
  · rw [if_pos h]; rw [hz] at h
    refine own_ifc ⟨fun q => ?_, fun q => ?_⟩
    · skip
      rcases q with q | q | q | q | q | q | q | q | q | q | q | q | q | q | q
      · exact absurd q (by omega)
      · exact absurd q (by omega)
      · exact absurd q (by omega)
      · exact Or.inr (Or.inl (by omega))
      · exact Or.inr (Or.inr (Or.inl (by omega)))
      · exact Or.inr (Or.inr (Or.inr (Or.inl (by omega))))
      · exact Or.inr (Or.inr (Or.inr (Or.inr (Or.inl (by omega)))))
      · exact Or.inr (Or.inr (Or.inr (Or.inr (Or.inr (Or.inl (by omega))))))
      · exact Or.inr (Or.inr (Or.inr (Or.inr (Or.inr (Or.inr (Or.inl (by omega)))))))
      · exact Or.inr (Or.inr (Or.inr (Or.inr (Or.inr (Or.inr (Or.inr (Or.inl (by omega))))))))
      · exact Or.inr (Or.inr (Or.inr (Or.inr (Or.inr (Or.inr (Or.inr (Or.inr (Or.inl (by omega)))))))))
      · exact Or.inr (Or.inr (Or.inr (Or.inr (Or.inr (Or.inr (Or.inr (Or.inr (Or.inr (Or.inl (by omega))))))))))
      · exact Or.inr (Or.inr (Or.inr (Or.inr (Or.inr (Or.inr (Or.inr (Or.inr (Or.inr (Or.inr (Or.inl (by omega)))))))))))
      · exact Or.inr (Or.inr (Or.inr (Or.inr (Or.inr (Or.inr (Or.inr (Or.inr (Or.inr (Or.inr (Or.inr (Or.inl (by omega))))))))))))
      · exact Or.inr (Or.inr (Or.inr (Or.inr (Or.inr (Or.inr (Or.inr (Or.inr (Or.inr (Or.inr (Or.inr (Or.inr ((by omega)))))))))))))
    · skip
      rcases q with q | q | q | q | q | q | q | q | q | q | q | q | q
      · exact absurd q (by omega)
      · exact Or.inr (Or.inr (Or.inr (Or.inl (by omega))))
      · exact Or.inr (Or.inr (Or.inr (Or.inr (Or.inl (by omega)))))
      · exact Or.inr (Or.inr (Or.inr (Or.inr (Or.inr (Or.inl (by omega))))))
      · exact Or.inr (Or.inr (Or.inr (Or.inr (Or.inr (Or.inr (Or.inl (by omega)))))))
      · exact Or.inr (Or.inr (Or.inr (Or.inr (Or.inr (Or.inr (Or.inr (Or.inl (by omega))))))))
      · exact Or.inr (Or.inr (Or.inr (Or.inr (Or.inr (Or.inr (Or.inr (Or.inr (Or.inl (by omega)))))))))
      · exact Or.inr (Or.inr (Or.inr (Or.inr (Or.inr (Or.inr (Or.inr (Or.inr (Or.inr (Or.inl (by omega))))))))))
      · exact Or.inr (Or.inr (Or.inr (Or.inr (Or.inr (Or.inr (Or.inr (Or.inr (Or.inr (Or.inr (Or.inl (by omega)))))))))))
      · exact Or.inr (Or.inr (Or.inr (Or.inr (Or.inr (Or.inr (Or.inr (Or.inr (Or.inr (Or.inr (Or.inr (Or.inl (by omega))))))))))))
      · exact Or.inr (Or.inr (Or.inr (Or.inr (Or.inr (Or.inr (Or.inr (Or.inr (Or.inr (Or.inr (Or.inr (Or.inr (Or.inl (by omega)))))))))))))
      · exact Or.inr (Or.inr (Or.inr (Or.inr (Or.inr (Or.inr (Or.inr (Or.inr (Or.inr (Or.inr (Or.inr (Or.inr (Or.inr (Or.inl (by omega))))))))))))))
      · exact Or.inr (Or.inr (Or.inr (Or.inr (Or.inr (Or.inr (Or.inr (Or.inr (Or.inr (Or.inr (Or.inr (Or.inr (Or.inr (Or.inr ((by omega)))))))))))))))
  · rw [if_neg h]; rw [hz] at h
    exact (if_pos trivial).trans (if_pos (Or.inl (by omega))).symm
theorem sp_own_ns_0_32 (c : Int32) : own_ns_0_32 c = if c.toInt = 58 ∨ (65 ≤ c.toInt ∧ c.toInt ≤ 90) ∨ c.toInt = 95 ∨ (97 ≤ c.toInt ∧ c.toInt ≤ 122) ∨ (192 ≤ c.toInt ∧ c.toInt ≤ 214) ∨ (216 ≤ c.toInt ∧ c.toInt ≤ 246) ∨ (248 ≤ c.toInt ∧ c.toInt ≤ 767) ∨ (880 ≤ c.toInt ∧ c.toInt ≤ 893) ∨ (895 ≤ c.toInt ∧ c.toInt ≤ 8191) ∨ (8204 ≤ c.toInt ∧ c.toInt ≤ 8205) ∨ (8304 ≤ c.toInt ∧ c.toInt ≤ 8591) ∨ (11264 ≤ c.toInt ∧ c.toInt ≤ 12271) ∨ (12289 ≤ c.toInt ∧ c.toInt ≤ 55295) ∨ (63744 ≤ c.toInt ∧ c.toInt ≤ 64975) ∨ (65008 ≤ c.toInt ∧ c.toInt ≤ 65533) ∨ (65536 ≤ c.toInt ∧ c.toInt ≤ 983039) then 1 else 0 := by
  have hz : (c < (97 : Int32)) ↔ c.toInt < 97 := by simp only [Int32.lt_iff_toInt_lt, Int32.reduceToInt]
  show (if c < (97 : Int32) then own_ns_0_30 c else own_ns_0_31 c) = _
  rw [sp_own_ns_0_30, sp_own_ns_0_31]
  by_cases h : c < (97 : Int32)
  · rw [if_pos h]; rw [hz] at h
    refine own_ifc ⟨fun q => ?_, fun q => ?_⟩
    · skip
      rcases q with q | q | q | q | q | q | q | q | q | q | q | q | q | q | q
      · exact Or.inl (by omega)
      · exact Or.inr (Or.inl (by omega))
      · exact Or.inr (Or.inr (Or.inl (by omega)))
      · exact absurd q (by omega)
      · exact absurd q (by omega)
      · exact absurd q (by omega)
      · exact absurd q (by omega)
      · exact absurd q (by omega)
      · exact absurd q (by omega)
      · exact absurd q (by omega)
      · exact absurd q (by omega)
      · exact absurd q (by omega)
      · exact absurd q (by omega)
      · exact absurd q (by omega)
      · exact absurd q (by omega)
    · skip
      rcases q with q | q | q | q | q | q | q | q | q | q | q | q | q | q | q | q
      · exact Or.inl (by omega)
      · exact Or.inr (Or.inl (by omega))
      · exact Or.inr (Or.inr (Or.inl (by omega)))
      · exact absurd q (by omega)
      · exact absurd q (by omega)
      · exact absurd q (by omega)
      · exact absurd q (by omega)
      · exact absurd q (by omega)
      · exact absurd q (by omega)
      · exact absurd q (by omega)
      · exact absurd q (by omega)
      · exact absurd q (by omega)
      · exact absurd q (by omega)
      · exact absurd q (by omega)
      · exact absurd q (by omega)
      · exact absurd q (by omega)
  · rw [if_neg h]; rw [hz] at h
    refine own_ifc ⟨fun q => ?_, fun q => ?_⟩
    · skip
      rcases q with q | q | q | q | q | q | q | q | q | q | q | q | q
      · exact Or.inr (Or.inr (Or.inr (Or.inl (by omega))))
      · exact Or.inr (Or.inr (Or.inr (Or.inr (Or.inl (by omega)))))
      · exact Or.inr (Or.inr (Or.inr (Or.inr (Or.inr (Or.inl (by omega))))))
      · exact Or.inr (Or.inr (Or.inr (Or.inr (Or.inr (Or.inr (Or.inl (by omega)))))))
      · exact Or.inr (Or.inr (Or.inr (Or.inr (Or.inr (Or.inr (Or.inr (Or.inl (by omega))))))))
      · exact Or.inr (Or.inr (Or.inr (Or.inr (Or.inr (Or.inr (Or.inr (Or.inr (Or.inl (by omega)))))))))
      · exact Or.inr (Or.inr (Or.inr (Or.inr (Or.inr (Or.inr (Or.inr (Or.inr (Or.inr (Or.inl (by omega))))))))))
      · exact Or.inr (Or.inr (Or.inr (Or.inr (Or.inr (Or.inr (Or.inr (Or.inr (Or.inr (Or.inr (Or.inl (by omega)))))))))))
      · exact Or.inr (Or.inr (Or.inr (Or.inr (Or.inr (Or.inr (Or.inr (Or.inr (Or.inr (Or.inr (Or.inr (Or.inl (by omega))))))))))))
      · exact Or.inr (Or.inr (Or.inr (Or.inr (Or.inr (Or.inr (Or.inr (Or.inr (Or.inr (Or.inr (Or.inr (Or.inr (Or.inl (by omega)))))))))))))
      · exact Or.inr (Or.inr (Or.inr (Or.inr (Or.inr (Or.inr (Or.inr (Or.inr (Or.inr (Or.inr (Or.inr (Or.inr (Or.inr (Or.inl (by omega))))))))))))))
      · exact Or.inr (Or.inr (Or.inr (Or.inr (Or.inr (Or.inr (Or.inr (Or.inr (Or.inr (Or.inr (Or.inr (Or.inr (Or.inr (Or.inr (Or.inl (by omega)))))))))))))))
      · exact Or.inr (Or.inr (Or.inr (Or.inr (Or.inr (Or.inr (Or.inr (Or.inr (Or.inr (Or.inr (Or.inr (Or.inr (Or.inr (Or.inr (Or.inr ((by omega))))))))))))))))
    · skip
      rcases q with q | q | q | q | q | q | q | q | q | q | q | q | q | q | q | q
      · exact absurd q (by omega)
      · exact absurd q (by omega)
      · exact absurd q (by omega)
      · exact Or.inl (by omega)
      · exact Or.inr (Or.inl (by omega))
      · exact Or.inr (Or.inr (Or.inl (by omega)))
      · exact Or.inr (Or.inr (Or.inr (Or.inl (by omega))))
      · exact Or.inr (Or.inr (Or.inr (Or.inr (Or.inl (by omega)))))
      · exact Or.inr (Or.inr (Or.inr (Or.inr (Or.inr (Or.inl (by omega))))))
      · exact Or.inr (Or.inr (Or.inr (Or.inr (Or.inr (Or.inr (Or.inl (by omega)))))))
      · exact Or.inr (Or.inr (Or.inr (Or.inr (Or.inr (Or.inr (Or.inr (Or.inl (by omega))))))))
      · exact Or.inr (Or.inr (Or.inr (Or.inr (Or.inr (Or.inr (Or.inr (Or.inr (Or.inl (by omega)))))))))
      · exact Or.inr (Or.inr (Or.inr (Or.inr (Or.inr (Or.inr (Or.inr (Or.inr (Or.inr (Or.inl (by omega))))))))))
      · exact Or.inr (Or.inr (Or.inr (Or.inr (Or.inr (Or.inr (Or.inr (Or.inr (Or.inr (Or.inr (Or.inl (by omega)))))))))))
      · exact Or.inr (Or.inr (Or.inr (Or.inr (Or.inr (Or.inr (Or.inr (Or.inr (Or.inr (Or.inr (Or.inr (Or.inl (by omega))))))))))))
      · exact Or.inr (Or.inr (Or.inr (Or.inr (Or.inr (Or.inr (Or.inr (Or.inr (Or.inr (Or.inr (Or.inr (Or.inr ((by omega)))))))))))))
theorem sp_own_nc_0_1 (c : Int32) : own_nc_0_1 c = if True then 1 else 0 := rfl
theorem sp_own_nc_0_2 (c : Int32) : own_nc_0_2 c = if False then 1 else 0 := rfl
theorem sp_own_nc_0_3 (c : Int32) : own_nc_0_3 c = if c.toInt = 8256 then 1 else 0 := by
  have hz : (c = (8256 : Int32)) ↔ c.toInt = 8256 := by rw [own_eq_iff]; simp only [Int32.reduceToInt]
  show (if c = (8256 : Int32) then own_nc_0_1 c else own_nc_0_2 c) = _
  rw [sp_own_nc_0_1, sp_own_nc_0_2]
  by_cases h : c = (8256 : Int32)
  · rw [if_pos h]; rw [hz] at h
    exact (if_pos trivial).trans (if_pos ((by omega))).symm
  · rw [if_neg h]; rw [hz] at h
    exact (if_neg (fun q => q)).trans (if_neg (fun q => by
        omega
        )).symm
theorem sp_own_nc_0_4 (c : Int32) : own_nc_0_4 c = if (8255 ≤ c.toInt ∧ c.toInt ≤ 8256) then 1 else 0 := by
  have hz : (c = (8255 : Int32)) ↔ c.toInt = 8255 := by rw [own_eq_iff]; simp only [Int32.reduceToInt]
  show (if c = (8255 : Int32) then own_nc_0_1 c else own_nc_0_3 c) = _
  rw [sp_own_nc_0_1, sp_own_nc_0_3]
  by_cases h : c = (8255 : Int32)
  · rw [if_pos h]; rw [hz] at h
    exact (if_pos trivial).trans (if_pos ((by omega))).symm
  · rw [if_neg h]; rw [hz] at h
    refine own_ifc ⟨fun q => ?_, fun q => ?_⟩
    · skip
      exact (by omega)
    · skip
      exact (by omega)
theorem sp_own_nc_0_5 (c : Int32) : own_nc_0_5 c = if c.toInt ≤ 879 ∨ (8255 ≤ c.toInt ∧ c.toInt ≤ 8256) then 1 else 0 := by
  have hz : ((879 : Int32) < c) ↔ 879 < c.toInt := by simp only [Int32.lt_iff_toInt_lt, Int32.reduceToInt]
  show (if (879 : Int32) < c then own_nc_0_4 c else own_nc_0_1 c) = _
  rw [sp_own_nc_0_4, sp_own_nc_0_1]
  by_cases h : (879 : Int32) < c
  · rw [if_pos h]; rw [hz] at h
    refine own_ifc ⟨fun q => ?_, fun q => ?_⟩
    · skip
      exact Or.inr ((by omega))
    · skip
      rcases q with q | q
      · exact absurd q (by omega)
      · exact (by omega)
  · rw [if_neg h]; rw [hz] at h
    exact (if_pos trivial).trans (if_pos (Or.inl (by omega))).symm
theorem sp_own_nc_0_6 (c : Int32) : own_nc_0_6 c = if (768 ≤ c.toInt ∧ c.toInt ≤ 879) ∨ (8255 ≤ c.toInt ∧ c.toInt ≤ 8256) then 1 else 0 := by
  have hz : (c < (768 : Int32)) ↔ c.toInt < 768 := by simp only [Int32.lt_iff_toInt_lt, Int32.reduceToInt]
  show (if c < (768 : Int32) then own_nc_0_4 c else own_nc_0_5 c) = _
  rw [sp_own_nc_0_4, sp_own_nc_0_5]
  by_cases h : c < (768 : Int32)
  · rw [if_pos h]; rw [hz] at h
    refine own_ifc ⟨fun q => ?_, fun q => ?_⟩
    · skip
      exact absurd q (by omega)
    · skip
      rcases q with q | q
      · exact absurd q (by omega)
      · exact absurd q (by omega)
  · rw [if_neg h]; rw [hz] at h
    refine own_ifc ⟨fun q => ?_, fun q => ?_⟩
    · skip
      rcases q with q | q
      · exact Or.inl (by omega)
      · exact Or.inr ((by omega))
    · skip
      rcases q with q | q
      · exact Or.inl (by omega)
      · exact Or.inr ((by omega))
theorem sp_own_nc_0_7 (c : Int32) : own_nc_0_7 c = if c.toInt = 183 ∨ (768 ≤ c.toInt ∧ c.toInt ≤ 879) ∨ (8255 ≤ c.toInt ∧ c.toInt ≤ 8256) then 1 else 0 := by
  have hz : (c = (183 : Int32)) ↔ c.toInt = 183 := by rw [own_eq_iff]; simp only [Int32.reduceToInt]
  show (if c = (183 : Int32) then own_nc_0_1 c else own_nc_0_6 c) = _
  rw [sp_own_nc_0_1, sp_own_nc_0_6]
  by_cases h : c = (183 : Int32)
  · rw [if_pos h]; rw [hz] at h
    exact (if_pos trivial).trans (if_pos (Or.inl (by omega))).symm
  · rw [if_neg h]; rw [hz] at h
    refine own_ifc ⟨fun q => ?_, fun q => ?_⟩
    · skip
      rcases q with q | q
      · exact Or.inr (Or.inl (by omega))
      · exact Or.inr (Or.inr ((by omega)))
    · skip
      rcases q with q | q | q
      · exact absurd q (by omega)
      · exact Or.inl (by omega)
      · exact Or.inr ((by omega))
theorem sp_own_nc_0_8 (c : Int32) : own_nc_0_8 c = if c.toInt ≤ 57 ∨ c.toInt = 183 ∨ (768 ≤ c.toInt ∧ c.toInt ≤ 879) ∨ (8255 ≤ c.toInt ∧ c.toInt ≤ 8256) then 1 else 0 := by
  have hz : ((57 : Int32) < c) ↔ 57 < c.toInt := by simp only [Int32.lt_iff_toInt_lt, Int32.reduceToInt]
  show (if (57 : Int32) < c then own_nc_0_7 c else own_nc_0_1 c) = _
  rw [sp_own_nc_0_7, sp_own_nc_0_1]
  by_cases h : (57 : Int32) < c
  · rw [if_pos h]; rw [hz] at h
    refine own_ifc ⟨fun q => ?_, fun q => ?_⟩
    · skip
      rcases q with q | q | q
      · exact Or.inr (Or.inl (by omega))
      · exact Or.inr (Or.inr (Or.inl (by omega)))
      · exact Or.inr (Or.inr (Or.inr ((by omega))))
    · skip
      rcases q with q | q | q | q
      · exact absurd q (by omega)
      · exact Or.inl (by omega)
      · exact Or.inr (Or.inl (by omega))
      · exact Or.inr (Or.inr ((by omega)))
  · rw [if_neg h]; rw [hz] at h
    exact (if_pos trivial).trans (if_pos (Or.inl (by omega))).symm
theorem sp_own_nc_0_9 (c : Int32) : own_nc_0_9 c = if (48 ≤ c.toInt ∧ c.toInt ≤ 57) ∨ c.toInt = 183 ∨ (768 ≤ c.toInt ∧ c.toInt ≤ 879) ∨ (8255 ≤ c.toInt ∧ c.toInt ≤ 8256) then 1 else 0 := by
  have hz : (c < (48 : Int32)) ↔ c.toInt < 48 := by simp only [Int32.lt_iff_toInt_lt, Int32.reduceToInt]
  show (if c < (48 : Int32) then own_nc_0_7 c else own_nc_0_8 c) = _
  rw [sp_own_nc_0_7, sp_own_nc_0_8]
  by_cases h : c < (48 : Int32)
  · rw [if_pos h]; rw [hz] at h
    refine own_ifc ⟨fun q => ?_, fun q => ?_⟩
    · skip
      rcases q with q | q | q
      · exact absurd q (by omega)
      · exact absurd q (by omega)
      · exact absurd q (by omega)
    · skip
      rcases q with q | q | q | q
      · exact absurd q (by omega)
      · exact absurd q (by omega)
      · exact absurd q (by omega)
      · exact absurd q (by omega)
  · rw [if_neg h]; rw [hz] at h
    refine own_ifc ⟨fun q => ?_, fun q => ?_⟩
    · skip
      rcases q with q | q | q | q
      · exact Or.inl (by omega)
      · exact Or.inr (Or.inl (by omega))
      · exact Or.inr (Or.inr (Or.inl (by omega)))
      · exact Or.inr (Or.inr (Or.inr ((by omega))))
    · skip
      rcases q with q | q | q | q
      · exact Or.inl (by omega)
      · exact Or.inr (Or.inl (by omega))
      · exact Or.inr (Or.inr (Or.inl (by omega)))
      · exact Or.inr (Or.inr (Or.inr ((by omega))))
theorem sp_own_nc_0_10 (c : Int32) : own_nc_0_10 c = if c.toInt = 46 ∨ (48 ≤ c.toInt ∧ c.toInt ≤ 57) ∨ c.toInt = 183 ∨ (768 ≤ c.toInt ∧ c.toInt ≤ 879) ∨ (8255 ≤ c.toInt ∧ c.toInt ≤ 8256) then 1 else 0 := by
  have hz : (c = (46 : Int32)) ↔ c.toInt = 46 := by rw [own_eq_iff]; simp only [Int32.reduceToInt]
  show (if c = (46 : Int32) then own_nc_0_1 c else own_nc_0_9 c) = _
  rw [sp_own_nc_0_1, sp_own_nc_0_9]
  by_cases h : c = (46 : Int32)
  · rw [if_pos h]; rw [hz] at h
    exact (if_pos trivial).trans (if_pos (Or.inl (by omega))).symm
  · rw [if_neg h]; rw [hz] at h
    refine own_ifc ⟨fun q => ?_, fun q => ?_⟩
    · skip
      rcases q with q | q | q | q
      · exact Or.inr (Or.inl (by omega))
      · exact Or.inr (Or.inr (Or.inl (by omega)))
      · exact Or.inr (Or.inr (Or.inr (Or.inl (by omega))))
      · exact Or.inr (Or.inr (Or.inr (Or.inr ((by omega)))))
    · skip
      rcases q with q | q | q | q | q
      · exact absurd q (by omega)
      · exact Or.inl (by omega)
      · exact Or.inr (Or.inl (by omega))
      · exact Or.inr (Or.inr (Or.inl (by omega)))
      · exact Or.inr (Or.inr (Or.inr ((by omega))))
theorem sp_own_nc_0_11 (c : Int32) : own_nc_0_11 c = if (45 ≤ c.toInt ∧ c.toInt ≤ 46) ∨ (48 ≤ c.toInt ∧ c.toInt ≤ 57) ∨ c.toInt = 183 ∨ (768 ≤ c.toInt ∧ c.toInt ≤ 879) ∨ (8255 ≤ c.toInt ∧ c.toInt ≤ 8256) then 1 else 0 := by
  have hz : (c = (45 : Int32)) ↔ c.toInt = 45 := by rw [own_eq_iff]; simp only [Int32.reduceToInt]
  show (if c = (45 : Int32) then own_nc_0_1 c else own_nc_0_10 c) = _
  rw [sp_own_nc_0_1, sp_own_nc_0_10]
  by_cases h : c = (45 : Int32)
  · rw [if_pos h]; rw [hz] at h
    exact (if_pos trivial).trans (if_pos (Or.inl (by omega))).symm
  · rw [if_neg h]; rw [hz] at h
    refine own_ifc ⟨fun q => ?_, fun q => ?_⟩
    · skip
      rcases q with q | q | q | q | q
      · exact Or.inl (by omega)
      · exact Or.inr (Or.inl (by omega))
      · exact Or.inr (Or.inr (Or.inl (by omega)))
      · exact Or.inr (Or.inr (Or.inr (Or.inl (by omega))))
      · exact Or.inr (Or.inr (Or.inr (Or.inr ((by omega)))))
    · skip
      rcases q with q | q | q | q | q
      · exact Or.inl (by omega)
      · exact Or.inr (Or.inl (by omega))
      · exact Or.inr (Or.inr (Or.inl (by omega)))
      · exact Or.inr (Or.inr (Or.inr (Or.inl (by omega))))
      · exact Or.inr (Or.inr (Or.inr (Or.inr ((by omega)))))
theorem sp_own_nc_0_12 (c : Int32) : own_nc_0_12 c = if (45 ≤ c.toInt ∧ c.toInt ≤ 46) ∨ (48 ≤ c.toInt ∧ c.toInt ≤ 58) ∨ (65 ≤ c.toInt ∧ c.toInt ≤ 90) ∨ c.toInt = 95 ∨ (97 ≤ c.toInt ∧ c.toInt ≤ 122) ∨ c.toInt = 183 ∨ (192 ≤ c.toInt ∧ c.toInt ≤ 214) ∨ (216 ≤ c.toInt ∧ c.toInt ≤ 246) ∨ (248 ≤ c.toInt ∧ c.toInt ≤ 893) ∨ (895 ≤ c.toInt ∧ c.toInt ≤ 8191) ∨ (8204 ≤ c.toInt ∧ c.toInt ≤ 8205) ∨ (8255 ≤ c.toInt ∧ c.toInt ≤ 8256) ∨ (8304 ≤ c.toInt ∧ c.toInt ≤ 8591) ∨ (11264 ≤ c.toInt ∧ c.toInt ≤ 12271) ∨ (12289 ≤ c.toInt ∧ c.toInt ≤ 55295) ∨ (63744 ≤ c.toInt ∧ c.toInt ≤ 64975) ∨ (65008 ≤ c.toInt ∧ c.toInt ≤ 65533) ∨ (65536 ≤ c.toInt ∧ c.toInt ≤ 983039) then 1 else 0 := by
  have hz : (own_ns_0_32 c) = (0 : Int32) ↔ ¬ (c.toInt = 58 ∨ (65 ≤ c.toInt ∧ c.toInt ≤ 90) ∨ c.toInt = 95 ∨ (97 ≤ c.toInt ∧ c.toInt ≤ 122) ∨ (192 ≤ c.toInt ∧ c.toInt ≤ 214) ∨ (216 ≤ c.toInt ∧ c.toInt ≤ 246) ∨ (248 ≤ c.toInt ∧ c.toInt ≤ 767) ∨ (880 ≤ c.toInt ∧ c.toInt ≤ 893) ∨ (895 ≤ c.toInt ∧ c.toInt ≤ 8191) ∨ (8204 ≤ c.toInt ∧ c.toInt ≤ 8205) ∨ (8304 ≤ c.toInt ∧ c.toInt ≤ 8591) ∨ (11264 ≤ c.toInt ∧ c.toInt ≤ 12271) ∨ (12289 ≤ c.toInt ∧ c.toInt ≤ 55295) ∨ (63744 ≤ c.toInt ∧ c.toInt ≤ 64975) ∨ (65008 ≤ c.toInt ∧ c.toInt ≤ 65533) ∨ (65536 ≤ c.toInt ∧ c.toInt ≤ 983039)) := by rw [sp_own_ns_0_32]; exact own_if0 _
  show (if (own_ns_0_32 c) = (0 : Int32) then own_nc_0_11 c else own_nc_0_1 c) = _
  rw [sp_own_nc_0_11, sp_own_nc_0_1]
  by_cases h : (own_ns_0_32 c) = (0 : Int32)
  · rw [if_pos h]; rw [hz] at h
    refine own_ifc ⟨fun q => ?_, fun q => ?_⟩
    · skip
      rcases q with q | q | q | q | q
      · exact Or.inl (by omega)
      · exact Or.inr (Or.inl (by omega))
      · exact Or.inr (Or.inr (Or.inr (Or.inr (Or.inr (Or.inl (by omega))))))
      · exact Or.inr (Or.inr (Or.inr (Or.inr (Or.inr (Or.inr (Or.inr (Or.inr (Or.inl (by omega)))))))))
      · exact Or.inr (Or.inr (Or.inr (Or.inr (Or.inr (Or.inr (Or.inr (Or.inr (Or.inr (Or.inr (Or.inr (Or.inl (by omega))))))))))))
    · skip
      rcases q with q | q | q | q | q | q | q | q | q | q | q | q | q | q | q | q | q | q
      · exact Or.inl (by omega)
      · rcases (show (48 ≤ c.toInt ∧ c.toInt ≤ 57) ∨ c.toInt = 58 by omega) with u | u
        · exact Or.inr (Or.inl (by omega))
        · exact absurd (Or.inl (by omega)) h
      · exact absurd (Or.inr (Or.inl (by omega))) h
      · exact absurd (Or.inr (Or.inr (Or.inl (by omega)))) h
      · exact absurd (Or.inr (Or.inr (Or.inr (Or.inl (by omega))))) h
      · exact Or.inr (Or.inr (Or.inl (by omega)))
      · exact absurd (Or.inr (Or.inr (Or.inr (Or.inr (Or.inl (by omega)))))) h
      · exact absurd (Or.inr (Or.inr (Or.inr (Or.inr (Or.inr (Or.inl (by omega))))))) h
      · rcases (show (248 ≤ c.toInt ∧ c.toInt ≤ 767) ∨ (768 ≤ c.toInt ∧ c.toInt ≤ 879) ∨ (880 ≤ c.toInt ∧ c.toInt ≤ 893) by omega) with u | u | u
        · exact absurd (Or.inr (Or.inr (Or.inr (Or.inr (Or.inr (Or.inr (Or.inl (by omega)))))))) h
        · exact Or.inr (Or.inr (Or.inr (Or.inl (by omega))))
        · exact absurd (Or.inr (Or.inr (Or.inr (Or.inr (Or.inr (Or.inr (Or.inr (Or.inl (by omega))))))))) h
      · exact absurd (Or.inr (Or.inr (Or.inr (Or.inr (Or.inr (Or.inr (Or.inr (Or.inr (Or.inl (by omega)))))))))) h
      · exact absurd (Or.inr (Or.inr (Or.inr (Or.inr (Or.inr (Or.inr (Or.inr (Or.inr (Or.inr (Or.inl (by omega))))))))))) h
      · exact Or.inr (Or.inr (Or.inr (Or.inr ((by omega)))))
      · exact absurd (Or.inr (Or.inr (Or.inr (Or.inr (Or.inr (Or.inr (Or.inr (Or.inr (Or.inr (Or.inr (Or.inl (by omega)))))))))))) h
      · exact absurd (Or.inr (Or.inr (Or.inr (Or.inr (Or.inr (Or.inr (Or.inr (Or.inr (Or.inr (Or.inr (Or.inr (Or.inl (by omega))))))))))))) h
      · exact absurd (Or.inr (Or.inr (Or.inr (Or.inr (Or.inr (Or.inr (Or.inr (Or.inr (Or.inr (Or.inr (Or.inr (Or.inr (Or.inl (by omega)))))))))))))) h
      · exact absurd (Or.inr (Or.inr (Or.inr (Or.inr (Or.inr (Or.inr (Or.inr (Or.inr (Or.inr (Or.inr (Or.inr (Or.inr (Or.inr (Or.inl (by omega))))))))))))))) h
      · exact absurd (Or.inr (Or.inr (Or.inr (Or.inr (Or.inr (Or.inr (Or.inr (Or.inr (Or.inr (Or.inr (Or.inr (Or.inr (Or.inr (Or.inr (Or.inl (by omega)))))))))))))))) h
      · exact absurd (Or.inr (Or.inr (Or.inr (Or.inr (Or.inr (Or.inr (Or.inr (Or.inr (Or.inr (Or.inr (Or.inr (Or.inr (Or.inr (Or.inr (Or.inr ((by omega))))))))))))))))) h
  · rw [if_neg h]; rw [hz] at h; replace h := Decidable.not_not.mp h
    refine (if_pos trivial).trans (if_pos ?_).symm
    rcases h with h | h | h | h | h | h | h | h | h | h | h | h | h | h | h | h
    · exact Or.inr (Or.inl (by omega))
    · exact Or.inr (Or.inr (Or.inl (by omega)))
    · exact Or.inr (Or.inr (Or.inr (Or.inl (by omega))))
    · exact Or.inr (Or.inr (Or.inr (Or.inr (Or.inl (by omega)))))
    · exact Or.inr (Or.inr (Or.inr (Or.inr (Or.inr (Or.inr (Or.inl (by omega)))))))
    · exact Or.inr (Or.inr (Or.inr (Or.inr (Or.inr (Or.inr (Or.inr (Or.inl (by omega))))))))
    · exact Or.inr (Or.inr (Or.inr (Or.inr (Or.inr (Or.inr (Or.inr (Or.inr (Or.inl (by omega)))))))))
    · exact Or.inr (Or.inr (Or.inr (Or.inr (Or.inr (Or.inr (Or.inr (Or.inr (Or.inl (by omega)))))))))
    · exact Or.inr (Or.inr (Or.inr (Or.inr (Or.inr (Or.inr (Or.inr (Or.inr (Or.inr (Or.inl (by omega))))))))))
    · exact Or.inr (Or.inr (Or.inr (Or.inr (Or.inr (Or.inr (Or.inr (Or.inr (Or.inr (Or.inr (Or.inl (by omega)))))))))))
    · exact Or.inr (Or.inr (Or.inr (Or.inr (Or.inr (Or.inr (Or.inr (Or.inr (Or.inr (Or.inr (Or.inr (Or.inr (Or.inl (by omega)))))))))))))
    · exact Or.inr (Or.inr (Or.inr (Or.inr (Or.inr (Or.inr (Or.inr (Or.inr (Or.inr (Or.inr (Or.inr (Or.inr (Or.inr (Or.inl (by omega))))))))))))))
    · exact Or.inr (Or.inr (Or.inr (Or.inr (Or.inr (Or.inr (Or.inr (Or.inr (Or.inr (Or.inr (Or.inr (Or.inr (Or.inr (Or.inr (Or.inl (by omega)))))))))))))))
    · exact Or.inr (Or.inr (Or.inr (Or.inr (Or.inr (Or.inr (Or.inr (Or.inr (Or.inr (Or.inr (Or.inr (Or.inr (Or.inr (Or.inr (Or.inr (Or.inl (by omega))))))))))))))))
    · exact Or.inr (Or.inr (Or.inr (Or.inr (Or.inr (Or.inr (Or.inr (Or.inr (Or.inr (Or.inr (Or.inr (Or.inr (Or.inr (Or.inr (Or.inr (Or.inr (Or.inl (by omega)))))))))))))))))
    · exact Or.inr (Or.inr (Or.inr (Or.inr (Or.inr (Or.inr (Or.inr (Or.inr (Or.inr (Or.inr (Or.inr (Or.inr (Or.inr (Or.inr (Or.inr (Or.inr (Or.inr ((by omega))))))))))))))))))
theorem own_in0 (c lo hi : Int32) : own_in_0_4 c lo hi = (0 : Int32) ↔ ¬ (lo.toInt ≤ c.toInt ∧ c.toInt ≤ hi.toInt) := by
  show (if c < lo then (0 : Int32) else if hi < c then (0 : Int32) else (1 : Int32)) = 0 ↔ _
  by_cases h1 : c < lo
  · rw [if_pos h1]; rw [Int32.lt_iff_toInt_lt] at h1; exact ⟨fun _ q => by omega, fun _ => rfl⟩
  · rw [if_neg h1]; rw [Int32.lt_iff_toInt_lt] at h1
    by_cases h2 : hi < c
    · rw [if_pos h2]; rw [Int32.lt_iff_toInt_lt] at h2; exact ⟨fun _ q => by omega, fun _ => rfl⟩
    · rw [if_neg h2]; rw [Int32.lt_iff_toInt_lt] at h2; exact ⟨fun q => absurd q (by decide), fun q => absurd ⟨by omega, by omega⟩ q⟩
theorem sp_ref_17 (c : Int32) : own_ref_17 c = if (65536 ≤ c.toInt ∧ c.toInt ≤ 983039) then 1 else 0 := by
  have hz : ((own_in_0_4 c (65536 : Int32) (983039 : Int32)) = (0 : Int32)) ↔ ¬ (65536 ≤ c.toInt ∧ c.toInt ≤ 983039) := by rw [own_in0]; simp only [Int32.reduceToInt]
  show (if (own_in_0_4 c (65536 : Int32) (983039 : Int32)) = (0 : Int32) then (0 : Int32) else (1 : Int32)) = _
  by_cases h : (own_in_0_4 c (65536 : Int32) (983039 : Int32)) = (0 : Int32)
  · rw [if_pos h]; rw [hz] at h; exact (if_neg h).symm
  · rw [if_neg h]; rw [hz] at h; exact (if_pos (Decidable.not_not.mp h)).symm
theorem sp_ref_16 (c : Int32) : own_ref_16 c = if (65008 ≤ c.toInt ∧ c.toInt ≤ 65533) ∨ (65536 ≤ c.toInt ∧ c.toInt ≤ 983039) then 1 else 0 := by
  have hz : ((own_in_0_4 c (65008 : Int32) (65533 : Int32)) = (0 : Int32)) ↔ ¬ (65008 ≤ c.toInt ∧ c.toInt ≤ 65533) := by rw [own_in0]; simp only [Int32.reduceToInt]
  show (if (own_in_0_4 c (65008 : Int32) (65533 : Int32)) = (0 : Int32) then own_ref_17 c else (1 : Int32)) = _
  rw [sp_ref_17]
  by_cases h : (own_in_0_4 c (65008 : Int32) (65533 : Int32)) = (0 : Int32)
  · rw [if_pos h]; rw [hz] at h
    refine own_ifc ⟨fun q => ?_, fun q => ?_⟩
    · skip
      exact Or.inr ((by omega))
    · skip
      rcases q with q | q
      · exact absurd q (by omega)
      · exact (by omega)
  · rw [if_neg h]; rw [hz] at h; exact (if_pos (Or.inl (by omega))).symm
theorem sp_ref_15 (c : Int32) : own_ref_15 c = if (63744 ≤ c.toInt ∧ c.toInt ≤ 64975) ∨ (65008 ≤ c.toInt ∧ c.toInt ≤ 65533) ∨ (65536 ≤ c.toInt ∧ c.toInt ≤ 983039) then 1 else 0 := by
  have hz : ((own_in_0_4 c (63744 : Int32) (64975 : Int32)) = (0 : Int32)) ↔ ¬ (63744 ≤ c.toInt ∧ c.toInt ≤ 64975) := by rw [own_in0]; simp only [Int32.reduceToInt]
  show (if (own_in_0_4 c (63744 : Int32) (64975 : Int32)) = (0 : Int32) then own_ref_16 c else (1 : Int32)) = _
  rw [sp_ref_16]
  by_cases h : (own_in_0_4 c (63744 : Int32) (64975 : Int32)) = (0 : Int32)
  · rw [if_pos h]; rw [hz] at h
    refine own_ifc ⟨fun q => ?_, fun q => ?_⟩
    · skip
      rcases q with q | q
      · exact Or.inr (Or.inl (by omega))
      · exact Or.inr (Or.inr ((by omega)))
    · skip
      rcases q with q | q | q
      · exact absurd q (by omega)
      · exact Or.inl (by omega)
      · exact Or.inr ((by omega))
  · rw [if_neg h]; rw [hz] at h; exact (if_pos (Or.inl (by omega))).symm
theorem sp_ref_14 (c : Int32) : own_ref_14 c = if (12289 ≤ c.toInt ∧ c.toInt ≤ 55295) ∨ (63744 ≤ c.toInt ∧ c.toInt ≤ 64975) ∨ (65008 ≤ c.toInt ∧ c.toInt ≤ 65533) ∨ (65536 ≤ c.toInt ∧ c.toInt ≤ 983039) then 1 else 0 := by
  have hz : ((own_in_0_4 c (12289 : Int32) (55295 : Int32)) = (0 : Int32)) ↔ ¬ (12289 ≤ c.toInt ∧ c.toInt ≤ 55295) := by rw [own_in0]; simp only [Int32.reduceToInt]
  show (if (own_in_0_4 c (12289 : Int32) (55295 : Int32)) = (0 : Int32) then own_ref_15 c else (1 : Int32)) = _
  rw [sp_ref_15]
  by_cases h : (own_in_0_4 c (12289 : Int32) (55295 : Int32)) = (0 : Int32)
  · rw [if_pos h]; rw [hz] at h
    refine own_ifc ⟨fun q => ?_, fun q => ?_⟩
    · skip
      rcases q with q | q | q
      · exact Or.inr (Or.inl (by omega))
      · exact Or.inr (Or.inr (Or.inl (by omega)))
      · exact Or.inr (Or.inr (Or.inr ((by omega))))
    · skip
      rcases q with q | q | q | q
      · exact absurd q (by omega)
      · exact Or.inl (by omega)
      · exact Or.inr (Or.inl (by omega))
      · exact Or.inr (Or.inr ((by omega)))
  · rw [if_neg h]; rw [hz] at h; exact (if_pos (Or.inl (by omega))).symm
theorem sp_ref_13 (c : Int32) : own_ref_13 c = if (11264 ≤ c.toInt ∧ c.toInt ≤ 12271) ∨ (12289 ≤ c.toInt ∧ c.toInt ≤ 55295) ∨ (63744 ≤ c.toInt ∧ c.toInt ≤ 64975) ∨ (65008 ≤ c.toInt ∧ c.toInt ≤ 65533) ∨ (65536 ≤ c.toInt ∧ c.toInt ≤ 983039) then 1 else 0 := by
  have hz : ((own_in_0_4 c (11264 : Int32) (12271 : Int32)) = (0 : Int32)) ↔ ¬ (11264 ≤ c.toInt ∧ c.toInt ≤ 12271) := by rw [own_in0]; simp only [Int32.reduceToInt]
  show (if (own_in_0_4 c (11264 : Int32) (12271 : Int32)) = (0 : Int32) then own_ref_14 c else (1 : Int32)) = _
  rw [sp_ref_14]
  by_cases h : (own_in_0_4 c (11264 : Int32) (12271 : Int32)) = (0 : Int32)
  · rw [if_pos h]; rw [hz] at h
    refine own_ifc ⟨fun q => ?_, fun q => ?_⟩
    · skip
      rcases q with q | q | q | q
      · exact Or.inr (Or.inl (by omega))
      · exact Or.inr (Or.inr (Or.inl (by omega)))
      · exact Or.inr (Or.inr (Or.inr (Or.inl (by omega))))
      · exact Or.inr (Or.inr (Or.inr (Or.inr ((by omega)))))
    · skip
      rcases q with q | q | q | q | q
      · exact absurd q (by omega)
      · exact Or.inl (by omega)
      · exact Or.inr (Or.inl (by omega))
      · exact Or.inr (Or.inr (Or.inl (by omega)))
      · exact Or.inr (Or.inr (Or.inr ((by omega))))
  · rw [if_neg h]; rw [hz] at h; exact (if_pos (Or.inl (by omega))).symm
theorem sp_ref_12 (c : Int32) : own_ref_12 c = if (8304 ≤ c.toInt ∧ c.toInt ≤ 8591) ∨ (11264 ≤ c.toInt ∧ c.toInt ≤ 12271) ∨ (12289 ≤ c.toInt ∧ c.toInt ≤ 55295) ∨ (63744 ≤ c.toInt ∧ c.toInt ≤ 64975) ∨ (65008 ≤ c.toInt ∧ c.toInt ≤ 65533) ∨ (65536 ≤ c.toInt ∧ c.toInt ≤ 983039) then 1 else 0 := by
  have hz : ((own_in_0_4 c (8304 : Int32) (8591 : Int32)) = (0 : Int32)) ↔ ¬ (8304 ≤ c.toInt ∧ c.toInt ≤ 8591) := by rw [own_in0]; simp only [Int32.reduceToInt]
  show (if (own_in_0_4 c (8304 : Int32) (8591 : Int32)) = (0 : Int32) then own_ref_13 c else (1 : Int32)) = _
  rw [sp_ref_13]
  by_cases h : (own_in_0_4 c (8304 : Int32) (8591 : Int32)) = (0 : Int32)
  · rw [if_pos h]; rw [hz] at h
    refine own_ifc ⟨fun q => ?_, fun q => ?_⟩
    · skip
      rcases q with q | q | q | q | q
      · exact Or.inr (Or.inl (by omega))
      · exact Or.inr (Or.inr (Or.inl (by omega)))
      · exact Or.inr (Or.inr (Or.inr (Or.inl (by omega))))
      · exact Or.inr (Or.inr (Or.inr (Or.inr (Or.inl (by omega)))))
      · exact Or.inr (Or.inr (Or.inr (Or.inr (Or.inr ((by omega))))))
    · skip
      rcases q with q | q | q | q | q | q
      · exact absurd q (by omega)
      · exact Or.inl (by omega)
      · exact Or.inr (Or.inl (by omega))
      · exact Or.inr (Or.inr (Or.inl (by omega)))
      · exact Or.inr (Or.inr (Or.inr (Or.inl (by omega))))
      · exact Or.inr (Or.inr (Or.inr (Or.inr ((by omega)))))
  · rw [if_neg h]; rw [hz] at h; exact (if_pos (Or.inl (by omega))).symm
theorem sp_ref_11 (c : Int32) : own_ref_11 c = if (8255 ≤ c.toInt ∧ c.toInt ≤ 8256) ∨ (8304 ≤ c.toInt ∧ c.toInt ≤ 8591) ∨ (11264 ≤ c.toInt ∧ c.toInt ≤ 12271) ∨ (12289 ≤ c.toInt ∧ c.toInt ≤ 55295) ∨ (63744 ≤ c.toInt ∧ c.toInt ≤ 64975) ∨ (65008 ≤ c.toInt ∧ c.toInt ≤ 65533) ∨ (65536 ≤ c.toInt ∧ c.toInt ≤ 983039) then 1 else 0 := by
  have hz : ((own_in_0_4 c (8255 : Int32) (8256 : Int32)) = (0 : Int32)) ↔ ¬ (8255 ≤ c.toInt ∧ c.toInt ≤ 8256) := by rw [own_in0]; simp only [Int32.reduceToInt]
  show (if (own_in_0_4 c (8255 : Int32) (8256 : Int32)) = (0 : Int32) then own_ref_12 c else (1 : Int32)) = _
  rw [sp_ref_12]
  by_cases h : (own_in_0_4 c (8255 : Int32) (8256 : Int32)) = (0 : Int32)
  · rw [if_pos h]; rw [hz] at h
    refine own_ifc ⟨fun q => ?_, fun q => ?_⟩
    · skip
      rcases q with q | q | q | q | q | q
      · exact Or.inr (Or.inl (by omega))
      · exact Or.inr (Or.inr (Or.inl (by omega)))
      · exact Or.inr (Or.inr (Or.inr (Or.inl (by omega))))
      · exact Or.inr (Or.inr (Or.inr (Or.inr (Or.inl (by omega)))))
      · exact Or.inr (Or.inr (Or.inr (Or.inr (Or.inr (Or.inl (by omega))))))
      · exact Or.inr (Or.inr (Or.inr (Or.inr (Or.inr (Or.inr ((by omega)))))))
    · skip
      rcases q with q | q | q | q | q | q | q
      · exact absurd q (by omega)
      · exact Or.inl (by omega)
      · exact Or.inr (Or.inl (by omega))
      · exact Or.inr (Or.inr (Or.inl (by omega)))
      · exact Or.inr (Or.inr (Or.inr (Or.inl (by omega))))
      · exact Or.inr (Or.inr (Or.inr (Or.inr (Or.inl (by omega)))))
      · exact Or.inr (Or.inr (Or.inr (Or.inr (Or.inr ((by omega))))))
  · rw [if_neg h]; rw [hz] at h; exact (if_pos (Or.inl (by omega))).symm
theorem sp_ref_10 (c : Int32) : own_ref_10 c = if (8204 ≤ c.toInt ∧ c.toInt ≤ 8205) ∨ (8255 ≤ c.toInt ∧ c.toInt ≤ 8256) ∨ (8304 ≤ c.toInt ∧ c.toInt ≤ 8591) ∨ (11264 ≤ c.toInt ∧ c.toInt ≤ 12271) ∨ (12289 ≤ c.toInt ∧ c.toInt ≤ 55295) ∨ (63744 ≤ c.toInt ∧ c.toInt ≤ 64975) ∨ (65008 ≤ c.toInt ∧ c.toInt ≤ 65533) ∨ (65536 ≤ c.toInt ∧ c.toInt ≤ 983039) then 1 else 0 := by
  have hz : ((own_in_0_4 c (8204 : Int32) (8205 : Int32)) = (0 : Int32)) ↔ ¬ (8204 ≤ c.toInt ∧ c.toInt ≤ 8205) := by rw [own_in0]; simp only [Int32.reduceToInt]
  show (if (own_in_0_4 c (8204 : Int32) (8205 : Int32)) = (0 : Int32) then own_ref_11 c else (1 : Int32)) = _
  rw [sp_ref_11]
  by_cases h : (own_in_0_4 c (8204 : Int32) (8205 : Int32)) = (0 : Int32)
  · rw [if_pos h]; rw [hz] at h
    refine own_ifc ⟨fun q => ?_, fun q => ?_⟩
    · skip
      rcases q with q | q | q | q | q | q | q
      · exact Or.inr (Or.inl (by omega))
      · exact Or.inr (Or.inr (Or.inl (by omega)))
      · exact Or.inr (Or.inr (Or.inr (Or.inl (by omega))))
      · exact Or.inr (Or.inr (Or.inr (Or.inr (Or.inl (by omega)))))
      · exact Or.inr (Or.inr (Or.inr (Or.inr (Or.inr (Or.inl (by omega))))))
      · exact Or.inr (Or.inr (Or.inr (Or.inr (Or.inr (Or.inr (Or.inl (by omega)))))))
      · exact Or.inr (Or.inr (Or.inr (Or.inr (Or.inr (Or.inr (Or.inr ((by omega))))))))
    · skip
      rcases q with q | q | q | q | q | q | q | q
      · exact absurd q (by omega)
      · exact Or.inl (by omega)
      · exact Or.inr (Or.inl (by omega))
      · exact Or.inr (Or.inr (Or.inl (by omega)))
      · exact Or.inr (Or.inr (Or.inr (Or.inl (by omega))))
      · exact Or.inr (Or.inr (Or.inr (Or.inr (Or.inl (by omega)))))
      · exact Or.inr (Or.inr (Or.inr (Or.inr (Or.inr (Or.inl (by omega))))))
      · exact Or.inr (Or.inr (Or.inr (Or.inr (Or.inr (Or.inr ((by omega)))))))
  · rw [if_neg h]; rw [hz] at h; exact (if_pos (Or.inl (by omega))).symm
theorem sp_ref_9 (c : Int32) : own_ref_9 c = if (895 ≤ c.toInt ∧ c.toInt ≤ 8191) ∨ (8204 ≤ c.toInt ∧ c.toInt ≤ 8205) ∨ (8255 ≤ c.toInt ∧ c.toInt ≤ 8256) ∨ (8304 ≤ c.toInt ∧ c.toInt ≤ 8591) ∨ (11264 ≤ c.toInt ∧ c.toInt ≤ 12271) ∨ (12289 ≤ c.toInt ∧ c.toInt ≤ 55295) ∨ (63744 ≤ c.toInt ∧ c.toInt ≤ 64975) ∨ (65008 ≤ c.toInt ∧ c.toInt ≤ 65533) ∨ (65536 ≤ c.toInt ∧ c.toInt ≤ 983039) then 1 else 0 := by
  have hz : ((own_in_0_4 c (895 : Int32) (8191 : Int32)) = (0 : Int32)) ↔ ¬ (895 ≤ c.toInt ∧ c.toInt ≤ 8191) := by rw [own_in0]; simp only [Int32.reduceToInt]
  show (if (own_in_0_4 c (895 : Int32) (8191 : Int32)) = (0 : Int32) then own_ref_10 c else (1 : Int32)) = _
  rw [sp_ref_10]
  by_cases h : (own_in_0_4 c (895 : Int32) (8191 : Int32)) = (0 : Int32)
  · rw [if_pos h]; rw [hz] at h
    refine own_ifc ⟨fun q => ?_, fun q => ?_⟩
    · skip
      rcases q with q | q | q | q | q | q | q | q
      · exact Or.inr (Or.inl (by omega))
      · exact Or.inr (Or.inr (Or.inl (by omega)))
      · exact Or.inr (Or.inr (Or.inr (Or.inl (by omega))))
      · exact Or.inr (Or.inr (Or.inr (Or.inr (Or.inl (by omega)))))
      · exact Or.inr (Or.inr (Or.inr (Or.inr (Or.inr (Or.inl (by omega))))))
      · exact Or.inr (Or.inr (Or.inr (Or.inr (Or.inr (Or.inr (Or.inl (by omega)))))))
      · exact Or.inr (Or.inr (Or.inr (Or.inr (Or.inr (Or.inr (Or.inr (Or.inl (by omega))))))))
      · exact Or.inr (Or.inr (Or.inr (Or.inr (Or.inr (Or.inr (Or.inr (Or.inr ((by omega)))))))))
    · skip
      rcases q with q | q | q | q | q | q | q | q | q
      · exact absurd q (by omega)
      · exact Or.inl (by omega)
      · exact Or.inr (Or.inl (by omega))
      · exact Or.inr (Or.inr (Or.inl (by omega)))
      · exact Or.inr (Or.inr (Or.inr (Or.inl (by omega))))
      · exact Or.inr (Or.inr (Or.inr (Or.inr (Or.inl (by omega)))))
      · exact Or.inr (Or.inr (Or.inr (Or.inr (Or.inr (Or.inl (by omega))))))
      · exact Or.inr (Or.inr (Or.inr (Or.inr (Or.inr (Or.inr (Or.inl (by omega)))))))
      · exact Or.inr (Or.inr (Or.inr (Or.inr (Or.inr (Or.inr (Or.inr ((by omega))))))))
  · rw [if_neg h]; rw [hz] at h; exact (if_pos (Or.inl (by omega))).symm
theorem sp_ref_8 (c : Int32) : own_ref_8 c = if (248 ≤ c.toInt ∧ c.toInt ≤ 893) ∨ (895 ≤ c.toInt ∧ c.toInt ≤ 8191) ∨ (8204 ≤ c.toInt ∧ c.toInt ≤ 8205) ∨ (8255 ≤ c.toInt ∧ c.toInt ≤ 8256) ∨ (8304 ≤ c.toInt ∧ c.toInt ≤ 8591) ∨ (11264 ≤ c.toInt ∧ c.toInt ≤ 12271) ∨ (12289 ≤ c.toInt ∧ c.toInt ≤ 55295) ∨ (63744 ≤ c.toInt ∧ c.toInt ≤ 64975) ∨ (65008 ≤ c.toInt ∧ c.toInt ≤ 65533) ∨ (65536 ≤ c.toInt ∧ c.toInt ≤ 983039) then 1 else 0 := by
  have hz : ((own_in_0_4 c (248 : Int32) (893 : Int32)) = (0 : Int32)) ↔ ¬ (248 ≤ c.toInt ∧ c.toInt ≤ 893) := by rw [own_in0]; simp only [Int32.reduceToInt]
  show (if (own_in_0_4 c (248 : Int32) (893 : Int32)) = (0 : Int32) then own_ref_9 c else (1 : Int32)) = _
  rw [sp_ref_9]
  by_cases h : (own_in_0_4 c (248 : Int32) (893 : Int32)) = (0 : Int32)
  · rw [if_pos h]; rw [hz] at h
    refine own_ifc ⟨fun q => ?_, fun q => ?_⟩
    · skip
      rcases q with q | q | q | q | q | q | q | q | q
      · exact Or.inr (Or.inl (by omega))
      · exact Or.inr (Or.inr (Or.inl (by omega)))
      · exact Or.inr (Or.inr (Or.inr (Or.inl (by omega))))
      · exact Or.inr (Or.inr (Or.inr (Or.inr (Or.inl (by omega)))))
      · exact Or.inr (Or.inr (Or.inr (Or.inr (Or.inr (Or.inl (by omega))))))
      · exact Or.inr (Or.inr (Or.inr (Or.inr (Or.inr (Or.inr (Or.inl (by omega)))))))
      · exact Or.inr (Or.inr (Or.inr (Or.inr (Or.inr (Or.inr (Or.inr (Or.inl (by omega))))))))
      · exact Or.inr (Or.inr (Or.inr (Or.inr (Or.inr (Or.inr (Or.inr (Or.inr (Or.inl (by omega)))))))))
      · exact Or.inr (Or.inr (Or.inr (Or.inr (Or.inr (Or.inr (Or.inr (Or.inr (Or.inr ((by omega))))))))))
    · skip
      rcases q with q | q | q | q | q | q | q | q | q | q
      · exact absurd q (by omega)
      · exact Or.inl (by omega)
      · exact Or.inr (Or.inl (by omega))
      · exact Or.inr (Or.inr (Or.inl (by omega)))
      · exact Or.inr (Or.inr (Or.inr (Or.inl (by omega))))
      · exact Or.inr (Or.inr (Or.inr (Or.inr (Or.inl (by omega)))))
      · exact Or.inr (Or.inr (Or.inr (Or.inr (Or.inr (Or.inl (by omega))))))
      · exact Or.inr (Or.inr (Or.inr (Or.inr (Or.inr (Or.inr (Or.inl (by omega)))))))
      · exact Or.inr (Or.inr (Or.inr (Or.inr (Or.inr (Or.inr (Or.inr (Or.inl (by omega))))))))
      · exact Or.inr (Or.inr (Or.inr (Or.inr (Or.inr (Or.inr (Or.inr (Or.inr ((by omega)))))))))
  · rw [if_neg h]; rw [hz] at h; exact (if_pos (Or.inl (by omega))).symm
theorem sp_ref_7 (c : Int32) : own_ref_7 c = if (216 ≤ c.toInt ∧ c.toInt ≤ 246) ∨ (248 ≤ c.toInt ∧ c.toInt ≤ 893) ∨ (895 ≤ c.toInt ∧ c.toInt ≤ 8191) ∨ (8204 ≤ c.toInt ∧ c.toInt ≤ 8205) ∨ (8255 ≤ c.toInt ∧ c.toInt ≤ 8256) ∨ (8304 ≤ c.toInt ∧ c.toInt ≤ 8591) ∨ (11264 ≤ c.toInt ∧ c.toInt ≤ 12271) ∨ (12289 ≤ c.toInt ∧ c.toInt ≤ 55295) ∨ (63744 ≤ c.toInt ∧ c.toInt ≤ 64975) ∨ (65008 ≤ c.toInt ∧ c.toInt ≤ 65533) ∨ (65536 ≤ c.toInt ∧ c.toInt ≤ 983039) then 1 else 0 := by
  have hz : ((own_in_0_4 c (216 : Int32) (246 : Int32)) = (0 : Int32)) ↔ ¬ (216 ≤ c.toInt ∧ c.toInt ≤ 246) := by rw [own_in0]; simp only [Int32.reduceToInt]
  show (if (own_in_0_4 c (216 : Int32) (246 : Int32)) = (0 : Int32) then own_ref_8 c else (1 : Int32)) = _
  rw [sp_ref_8]
  by_cases h : (own_in_0_4 c (216 : Int32) (246 : Int32)) = (0 : Int32)
  · rw [if_pos h]; rw [hz] at h
    refine own_ifc ⟨fun q => ?_, fun q => ?_⟩
    · skip
      rcases q with q | q | q | q | q | q | q | q | q | q
      · exact Or.inr (Or.inl (by omega))
      · exact Or.inr (Or.inr (Or.inl (by omega)))
      · exact Or.inr (Or.inr (Or.inr (Or.inl (by omega))))
      · exact Or.inr (Or.inr (Or.inr (Or.inr (Or.inl (by omega)))))
      · exact Or.inr (Or.inr (Or.inr (Or.inr (Or.inr (Or.inl (by omega))))))
      · exact Or.inr (Or.inr (Or.inr (Or.inr (Or.inr (Or.inr (Or.inl (by omega)))))))
      · exact Or.inr (Or.inr (Or.inr (Or.inr (Or.inr (Or.inr (Or.inr (Or.inl (by omega))))))))
      · exact Or.inr (Or.inr (Or.inr (Or.inr (Or.inr (Or.inr (Or.inr (Or.inr (Or.inl (by omega)))))))))
      · exact Or.inr (Or.inr (Or.inr (Or.inr (Or.inr (Or.inr (Or.inr (Or.inr (Or.inr (Or.inl (by omega))))))))))
      · exact Or.inr (Or.inr (Or.inr (Or.inr (Or.inr (Or.inr (Or.inr (Or.inr (Or.inr (Or.inr ((by omega)))))))))))
    · skip
      rcases q with q | q | q | q | q | q | q | q | q | q | q
      · exact absurd q (by omega)
      · exact Or.inl (by omega)
      · exact Or.inr (Or.inl (by omega))
      · exact Or.inr (Or.inr (Or.inl (by omega)))
      · exact Or.inr (Or.inr (Or.inr (Or.inl (by omega))))
      · exact Or.inr (Or.inr (Or.inr (Or.inr (Or.inl (by omega)))))
      · exact Or.inr (Or.inr (Or.inr (Or.inr (Or.inr (Or.inl (by omega))))))
      · exact Or.inr (Or.inr (Or.inr (Or.inr (Or.inr (Or.inr (Or.inl (by omega)))))))
      · exact Or.inr (Or.inr (Or.inr (Or.inr (Or.inr (Or.inr (Or.inr (Or.inl (by omega))))))))
      · exact Or.inr (Or.inr (Or.inr (Or.inr (Or.inr (Or.inr (Or.inr (Or.inr (Or.inl (by omega)))))))))
      · exact Or.inr (Or.inr (Or.inr (Or.inr (Or.inr (Or.inr (Or.inr (Or.inr (Or.inr ((by omega))))))))))
  · rw [if_neg h]; rw [hz] at h; exact (if_pos (Or.inl (by omega))).symm
theorem sp_ref_6 (c : Int32) : own_ref_6 c = if (192 ≤ c.toInt ∧ c.toInt ≤ 214) ∨ (216 ≤ c.toInt ∧ c.toInt ≤ 246) ∨ (248 ≤ c.toInt ∧ c.toInt ≤ 893) ∨ (895 ≤ c.toInt ∧ c.toInt ≤ 8191) ∨ (8204 ≤ c.toInt ∧ c.toInt ≤ 8205) ∨ (8255 ≤ c.toInt ∧ c.toInt ≤ 8256) ∨ (8304 ≤ c.toInt ∧ c.toInt ≤ 8591) ∨ (11264 ≤ c.toInt ∧ c.toInt ≤ 12271) ∨ (12289 ≤ c.toInt ∧ c.toInt ≤ 55295) ∨ (63744 ≤ c.toInt ∧ c.toInt ≤ 64975) ∨ (65008 ≤ c.toInt ∧ c.toInt ≤ 65533) ∨ (65536 ≤ c.toInt ∧ c.toInt ≤ 983039) then 1 else 0 := by
  have hz : ((own_in_0_4 c (192 : Int32) (214 : Int32)) = (0 : Int32)) ↔ ¬ (192 ≤ c.toInt ∧ c.toInt ≤ 214) := by rw [own_in0]; simp only [Int32.reduceToInt]
  show (if (own_in_0_4 c (192 : Int32) (214 : Int32)) = (0 : Int32) then own_ref_7 c else (1 : Int32)) = _
  rw [sp_ref_7]
  by_cases h : (own_in_0_4 c (192 : Int32) (214 : Int32)) = (0 : Int32)
  · rw [if_pos h]; rw [hz] at h
    refine own_ifc ⟨fun q => ?_, fun q => ?_⟩
    · skip
      rcases q with q | q | q | q | q | q | q | q | q | q | q
      · exact Or.inr (Or.inl (by omega))
      · exact Or.inr (Or.inr (Or.inl (by omega)))
      · exact Or.inr (Or.inr (Or.inr (Or.inl (by omega))))
      · exact Or.inr (Or.inr (Or.inr (Or.inr (Or.inl (by omega)))))
      · exact Or.inr (Or.inr (Or.inr (Or.inr (Or.inr (Or.inl (by omega))))))
      · exact Or.inr (Or.inr (Or.inr (Or.inr (Or.inr (Or.inr (Or.inl (by omega)))))))
      · exact Or.inr (Or.inr (Or.inr (Or.inr (Or.inr (Or.inr (Or.inr (Or.inl (by omega))))))))
      · exact Or.inr (Or.inr (Or.inr (Or.inr (Or.inr (Or.inr (Or.inr (Or.inr (Or.inl (by omega)))))))))
      · exact Or.inr (Or.inr (Or.inr (Or.inr (Or.inr (Or.inr (Or.inr (Or.inr (Or.inr (Or.inl (by omega))))))))))
      · exact Or.inr (Or.inr (Or.inr (Or.inr (Or.inr (Or.inr (Or.inr (Or.inr (Or.inr (Or.inr (Or.inl (by omega)))))))))))
      · exact Or.inr (Or.inr (Or.inr (Or.inr (Or.inr (Or.inr (Or.inr (Or.inr (Or.inr (Or.inr (Or.inr ((by omega))))))))))))
    · skip
      rcases q with q | q | q | q | q | q | q | q | q | q | q | q
      · exact absurd q (by omega)
      · exact Or.inl (by omega)
      · exact Or.inr (Or.inl (by omega))
      · exact Or.inr (Or.inr (Or.inl (by omega)))
      · exact Or.inr (Or.inr (Or.inr (Or.inl (by omega))))
      · exact Or.inr (Or.inr (Or.inr (Or.inr (Or.inl (by omega)))))
      · exact Or.inr (Or.inr (Or.inr (Or.inr (Or.inr (Or.inl (by omega))))))
      · exact Or.inr (Or.inr (Or.inr (Or.inr (Or.inr (Or.inr (Or.inl (by omega)))))))
      · exact Or.inr (Or.inr (Or.inr (Or.inr (Or.inr (Or.inr (Or.inr (Or.inl (by omega))))))))
      · exact Or.inr (Or.inr (Or.inr (Or.inr (Or.inr (Or.inr (Or.inr (Or.inr (Or.inl (by omega)))))))))
      · exact Or.inr (Or.inr (Or.inr (Or.inr (Or.inr (Or.inr (Or.inr (Or.inr (Or.inr (Or.inl (by omega))))))))))
      · exact Or.inr (Or.inr (Or.inr (Or.inr (Or.inr (Or.inr (Or.inr (Or.inr (Or.inr (Or.inr ((by omega)))))))))))
  · rw [if_neg h]; rw [hz] at h; exact (if_pos (Or.inl (by omega))).symm
theorem sp_ref_5 (c : Int32) : own_ref_5 c = if c.toInt = 183 ∨ (192 ≤ c.toInt ∧ c.toInt ≤ 214) ∨ (216 ≤ c.toInt ∧ c.toInt ≤ 246) ∨ (248 ≤ c.toInt ∧ c.toInt ≤ 893) ∨ (895 ≤ c.toInt ∧ c.toInt ≤ 8191) ∨ (8204 ≤ c.toInt ∧ c.toInt ≤ 8205) ∨ (8255 ≤ c.toInt ∧ c.toInt ≤ 8256) ∨ (8304 ≤ c.toInt ∧ c.toInt ≤ 8591) ∨ (11264 ≤ c.toInt ∧ c.toInt ≤ 12271) ∨ (12289 ≤ c.toInt ∧ c.toInt ≤ 55295) ∨ (63744 ≤ c.toInt ∧ c.toInt ≤ 64975) ∨ (65008 ≤ c.toInt ∧ c.toInt ≤ 65533) ∨ (65536 ≤ c.toInt ∧ c.toInt ≤ 983039) then 1 else 0 := by
  have hz : (c = (183 : Int32)) ↔ c.toInt = 183 := by rw [own_eq_iff]; simp only [Int32.reduceToInt]
  show (if c = (183 : Int32) then (1 : Int32) else own_ref_6 c) = _
  rw [sp_ref_6]
  by_cases h : c = (183 : Int32)
  · rw [if_pos h]; rw [hz] at h; exact (if_pos (Or.inl (by omega))).symm
  · rw [if_neg h]; rw [hz] at h
    refine own_ifc ⟨fun q => ?_, fun q => ?_⟩
    · skip
      rcases q with q | q | q | q | q | q | q | q | q | q | q | q
      · exact Or.inr (Or.inl (by omega))
      · exact Or.inr (Or.inr (Or.inl (by omega)))
      · exact Or.inr (Or.inr (Or.inr (Or.inl (by omega))))
      · exact Or.inr (Or.inr (Or.inr (Or.inr (Or.inl (by omega)))))
      · exact Or.inr (Or.inr (Or.inr (Or.inr (Or.inr (Or.inl (by omega))))))
      · exact Or.inr (Or.inr (Or.inr (Or.inr (Or.inr (Or.inr (Or.inl (by omega)))))))
      · exact Or.inr (Or.inr (Or.inr (Or.inr (Or.inr (Or.inr (Or.inr (Or.inl (by omega))))))))
      · exact Or.inr (Or.inr (Or.inr (Or.inr (Or.inr (Or.inr (Or.inr (Or.inr (Or.inl (by omega)))))))))
      · exact Or.inr (Or.inr (Or.inr (Or.inr (Or.inr (Or.inr (Or.inr (Or.inr (Or.inr (Or.inl (by omega))))))))))
      · exact Or.inr (Or.inr (Or.inr (Or.inr (Or.inr (Or.inr (Or.inr (Or.inr (Or.inr (Or.inr (Or.inl (by omega)))))))))))
      · exact Or.inr (Or.inr (Or.inr (Or.inr (Or.inr (Or.inr (Or.inr (Or.inr (Or.inr (Or.inr (Or.inr (Or.inl (by omega))))))))))))
      · exact Or.inr (Or.inr (Or.inr (Or.inr (Or.inr (Or.inr (Or.inr (Or.inr (Or.inr (Or.inr (Or.inr (Or.inr ((by omega)))))))))))))
    · skip
      rcases q with q | q | q | q | q | q | q | q | q | q | q | q | q
      · exact absurd q (by omega)
      · exact Or.inl (by omega)
      · exact Or.inr (Or.inl (by omega))
      · exact Or.inr (Or.inr (Or.inl (by omega)))
      · exact Or.inr (Or.inr (Or.inr (Or.inl (by omega))))
      · exact Or.inr (Or.inr (Or.inr (Or.inr (Or.inl (by omega)))))
      · exact Or.inr (Or.inr (Or.inr (Or.inr (Or.inr (Or.inl (by omega))))))
      · exact Or.inr (Or.inr (Or.inr (Or.inr (Or.inr (Or.inr (Or.inl (by omega)))))))
      · exact Or.inr (Or.inr (Or.inr (Or.inr (Or.inr (Or.inr (Or.inr (Or.inl (by omega))))))))
      · exact Or.inr (Or.inr (Or.inr (Or.inr (Or.inr (Or.inr (Or.inr (Or.inr (Or.inl (by omega)))))))))
      · exact Or.inr (Or.inr (Or.inr (Or.inr (Or.inr (Or.inr (Or.inr (Or.inr (Or.inr (Or.inl (by omega))))))))))
      · exact Or.inr (Or.inr (Or.inr (Or.inr (Or.inr (Or.inr (Or.inr (Or.inr (Or.inr (Or.inr (Or.inl (by omega)))))))))))
      · exact Or.inr (Or.inr (Or.inr (Or.inr (Or.inr (Or.inr (Or.inr (Or.inr (Or.inr (Or.inr (Or.inr ((by omega))))))))))))
theorem sp_ref_4 (c : Int32) : own_ref_4 c = if (97 ≤ c.toInt ∧ c.toInt ≤ 122) ∨ c.toInt = 183 ∨ (192 ≤ c.toInt ∧ c.toInt ≤ 214) ∨ (216 ≤ c.toInt ∧ c.toInt ≤ 246) ∨ (248 ≤ c.toInt ∧ c.toInt ≤ 893) ∨ (895 ≤ c.toInt ∧ c.toInt ≤ 8191) ∨ (8204 ≤ c.toInt ∧ c.toInt ≤ 8205) ∨ (8255 ≤ c.toInt ∧ c.toInt ≤ 8256) ∨ (8304 ≤ c.toInt ∧ c.toInt ≤ 8591) ∨ (11264 ≤ c.toInt ∧ c.toInt ≤ 12271) ∨ (12289 ≤ c.toInt ∧ c.toInt ≤ 55295) ∨ (63744 ≤ c.toInt ∧ c.toInt ≤ 64975) ∨ (65008 ≤ c.toInt ∧ c.toInt ≤ 65533) ∨ (65536 ≤ c.toInt ∧ c.toInt ≤ 983039) then 1 else 0 := by
  have hz : ((own_in_0_4 c (97 : Int32) (122 : Int32)) = (0 : Int32)) ↔ ¬ (97 ≤ c.toInt ∧ c.toInt ≤ 122) := by rw [own_in0]; simp only [Int32.reduceToInt]
  show (if (own_in_0_4 c (97 : Int32) (122 : Int32)) = (0 : Int32) then own_ref_5 c else (1 : Int32)) = _
  rw [sp_ref_5]
  by_cases h : (own_in_0_4 c (97 : Int32) (122 : Int32)) = (0 : Int32)
  · rw [if_pos h]; rw [hz] at h
    refine own_ifc ⟨fun q => ?_, fun q => ?_⟩
    · skip
      rcases q with q | q | q | q | q | q | q | q | q | q | q | q | q
      · exact Or.inr (Or.inl (by omega))
      · exact Or.inr (Or.inr (Or.inl (by omega)))
      · exact Or.inr (Or.inr (Or.inr (Or.inl (by omega))))
      · exact Or.inr (Or.inr (Or.inr (Or.inr (Or.inl (by omega)))))
      · exact Or.inr (Or.inr (Or.inr (Or.inr (Or.inr (Or.inl (by omega))))))
      · exact Or.inr (Or.inr (Or.inr (Or.inr (Or.inr (Or.inr (Or.inl (by omega)))))))
      · exact Or.inr (Or.inr (Or.inr (Or.inr (Or.inr (Or.inr (Or.inr (Or.inl (by omega))))))))
      · exact Or.inr (Or.inr (Or.inr (Or.inr (Or.inr (Or.inr (Or.inr (Or.inr (Or.inl (by omega)))))))))
      · exact Or.inr (Or.inr (Or.inr (Or.inr (Or.inr (Or.inr (Or.inr (Or.inr (Or.inr (Or.inl (by omega))))))))))
      · exact Or.inr (Or.inr (Or.inr (Or.inr (Or.inr (Or.inr (Or.inr (Or.inr (Or.inr (Or.inr (Or.inl (by omega)))))))))))
      · exact Or.inr (Or.inr (Or.inr (Or.inr (Or.inr (Or.inr (Or.inr (Or.inr (Or.inr (Or.inr (Or.inr (Or.inl (by omega))))))))))))
      · exact Or.inr (Or.inr (Or.inr (Or.inr (Or.inr (Or.inr (Or.inr (Or.inr (Or.inr (Or.inr (Or.inr (Or.inr (Or.inl (by omega)))))))))))))
      · exact Or.inr (Or.inr (Or.inr (Or.inr (Or.inr (Or.inr (Or.inr (Or.inr (Or.inr (Or.inr (Or.inr (Or.inr (Or.inr ((by omega))))))))))))))
    · skip
      rcases q with q | q | q | q | q | q | q | q | q | q | q | q | q | q
      · exact absurd q (by omega)
      · exact Or.inl (by omega)
      · exact Or.inr (Or.inl (by omega))
      · exact Or.inr (Or.inr (Or.inl (by omega)))
      · exact Or.inr (Or.inr (Or.inr (Or.inl (by omega))))
      · exact Or.inr (Or.inr (Or.inr (Or.inr (Or.inl (by omega)))))
      · exact Or.inr (Or.inr (Or.inr (Or.inr (Or.inr (Or.inl (by omega))))))
      · exact Or.inr (Or.inr (Or.inr (Or.inr (Or.inr (Or.inr (Or.inl (by omega)))))))
      · exact Or.inr (Or.inr (Or.inr (Or.inr (Or.inr (Or.inr (Or.inr (Or.inl (by omega))))))))
      · exact Or.inr (Or.inr (Or.inr (Or.inr (Or.inr (Or.inr (Or.inr (Or.inr (Or.inl (by omega)))))))))
      · exact Or.inr (Or.inr (Or.inr (Or.inr (Or.inr (Or.inr (Or.inr (Or.inr (Or.inr (Or.inl (by omega))))))))))
      · exact Or.inr (Or.inr (Or.inr (Or.inr (Or.inr (Or.inr (Or.inr (Or.inr (Or.inr (Or.inr (Or.inl (by omega)))))))))))
      · exact Or.inr (Or.inr (Or.inr (Or.inr (Or.inr (Or.inr (Or.inr (Or.inr (Or.inr (Or.inr (Or.inr (Or.inl (by omega))))))))))))
      · exact Or.inr (Or.inr (Or.inr (Or.inr (Or.inr (Or.inr (Or.inr (Or.inr (Or.inr (Or.inr (Or.inr (Or.inr ((by omega)))))))))))))
  · rw [if_neg h]; rw [hz] at h; exact (if_pos (Or.inl (by omega))).symm
theorem sp_ref_3 (c : Int32) : own_ref_3 c = if c.toInt = 95 ∨ (97 ≤ c.toInt ∧ c.toInt ≤ 122) ∨ c.toInt = 183 ∨ (192 ≤ c.toInt ∧ c.toInt ≤ 214) ∨ (216 ≤ c.toInt ∧ c.toInt ≤ 246) ∨ (248 ≤ c.toInt ∧ c.toInt ≤ 893) ∨ (895 ≤ c.toInt ∧ c.toInt ≤ 8191) ∨ (8204 ≤ c.toInt ∧ c.toInt ≤ 8205) ∨ (8255 ≤ c.toInt ∧ c.toInt ≤ 8256) ∨ (8304 ≤ c.toInt ∧ c.toInt ≤ 8591) ∨ (11264 ≤ c.toInt ∧ c.toInt ≤ 12271) ∨ (12289 ≤ c.toInt ∧ c.toInt ≤ 55295) ∨ (63744 ≤ c.toInt ∧ c.toInt ≤ 64975) ∨ (65008 ≤ c.toInt ∧ c.toInt ≤ 65533) ∨ (65536 ≤ c.toInt ∧ c.toInt ≤ 983039) then 1 else 0 := by
  have hz : (c = (95 : Int32)) ↔ c.toInt = 95 := by rw [own_eq_iff]; simp only [Int32.reduceToInt]
  show (if c = (95 : Int32) then (1 : Int32) else own_ref_4 c) = _
  rw [sp_ref_4]
  by_cases h : c = (95 : Int32)
  · rw [if_pos h]; rw [hz] at h; exact (if_pos (Or.inl (by omega))).symm
  · rw [if_neg h]; rw [hz] at h
    refine own_ifc ⟨fun q => ?_, fun q => ?_⟩
    · skip
      rcases q with q | q | q | q | q | q | q | q | q | q | q | q | q | q
      · exact Or.inr (Or.inl (by omega))
      · exact Or.inr (Or.inr (Or.inl (by omega)))
      · exact Or.inr (Or.inr (Or.inr (Or.inl (by omega))))
      · exact Or.inr (Or.inr (Or.inr (Or.inr (Or.inl (by omega)))))
      · exact Or.inr (Or.inr (Or.inr (Or.inr (Or.inr (Or.inl (by omega))))))
      · exact Or.inr (Or.inr (Or.inr (Or.inr (Or.inr (Or.inr (Or.inl (by omega)))))))
      · exact Or.inr (Or.inr (Or.inr (Or.inr (Or.inr (Or.inr (Or.inr (Or.inl (by omega))))))))
      · exact Or.inr (Or.inr (Or.inr (Or.inr (Or.inr (Or.inr (Or.inr (Or.inr (Or.inl (by omega)))))))))
      · exact Or.inr (Or.inr (Or.inr (Or.inr (Or.inr (Or.inr (Or.inr (Or.inr (Or.inr (Or.inl (by omega))))))))))
      · exact Or.inr (Or.inr (Or.inr (Or.inr (Or.inr (Or.inr (Or.inr (Or.inr (Or.inr (Or.inr (Or.inl (by omega)))))))))))
      · exact Or.inr (Or.inr (Or.inr (Or.inr (Or.inr (Or.inr (Or.inr (Or.inr (Or.inr (Or.inr (Or.inr (Or.inl (by omega))))))))))))
      · exact Or.inr (Or.inr (Or.inr (Or.inr (Or.inr (Or.inr (Or.inr (Or.inr (Or.inr (Or.inr (Or.inr (Or.inr (Or.inl (by omega)))))))))))))
      · exact Or.inr (Or.inr (Or.inr (Or.inr (Or.inr (Or.inr (Or.inr (Or.inr (Or.inr (Or.inr (Or.inr (Or.inr (Or.inr (Or.inl (by omega))))))))))))))
      · exact Or.inr (Or.inr (Or.inr (Or.inr (Or.inr (Or.inr (Or.inr (Or.inr (Or.inr (Or.inr (Or.inr (Or.inr (Or.inr (Or.inr ((by omega)))))))))))))))
    · skip
      rcases q with q | q | q | q | q | q | q | q | q | q | q | q | q | q | q
      · exact absurd q (by omega)
      · exact Or.inl (by omega)
      · exact Or.inr (Or.inl (by omega))
      · exact Or.inr (Or.inr (Or.inl (by omega)))
      · exact Or.inr (Or.inr (Or.inr (Or.inl (by omega))))
      · exact Or.inr (Or.inr (Or.inr (Or.inr (Or.inl (by omega)))))
      · exact Or.inr (Or.inr (Or.inr (Or.inr (Or.inr (Or.inl (by omega))))))
      · exact Or.inr (Or.inr (Or.inr (Or.inr (Or.inr (Or.inr (Or.inl (by omega)))))))
      · exact Or.inr (Or.inr (Or.inr (Or.inr (Or.inr (Or.inr (Or.inr (Or.inl (by omega))))))))
      · exact Or.inr (Or.inr (Or.inr (Or.inr (Or.inr (Or.inr (Or.inr (Or.inr (Or.inl (by omega)))))))))
      · exact Or.inr (Or.inr (Or.inr (Or.inr (Or.inr (Or.inr (Or.inr (Or.inr (Or.inr (Or.inl (by omega))))))))))
      · exact Or.inr (Or.inr (Or.inr (Or.inr (Or.inr (Or.inr (Or.inr (Or.inr (Or.inr (Or.inr (Or.inl (by omega)))))))))))
      · exact Or.inr (Or.inr (Or.inr (Or.inr (Or.inr (Or.inr (Or.inr (Or.inr (Or.inr (Or.inr (Or.inr (Or.inl (by omega))))))))))))
      · exact Or.inr (Or.inr (Or.inr (Or.inr (Or.inr (Or.inr (Or.inr (Or.inr (Or.inr (Or.inr (Or.inr (Or.inr (Or.inl (by omega)))))))))))))
      · exact Or.inr (Or.inr (Or.inr (Or.inr (Or.inr (Or.inr (Or.inr (Or.inr (Or.inr (Or.inr (Or.inr (Or.inr (Or.inr ((by omega))))))))))))))
theorem sp_ref_2 (c : Int32) : own_ref_2 c = if (65 ≤ c.toInt ∧ c.toInt ≤ 90) ∨ c.toInt = 95 ∨ (97 ≤ c.toInt ∧ c.toInt ≤ 122) ∨ c.toInt = 183 ∨ (192 ≤ c.toInt ∧ c.toInt ≤ 214) ∨ (216 ≤ c.toInt ∧ c.toInt ≤ 246) ∨ (248 ≤ c.toInt ∧ c.toInt ≤ 893) ∨ (895 ≤ c.toInt ∧ c.toInt ≤ 8191) ∨ (8204 ≤ c.toInt ∧ c.toInt ≤ 8205) ∨ (8255 ≤ c.toInt ∧ c.toInt ≤ 8256) ∨ (8304 ≤ c.toInt ∧ c.toInt ≤ 8591) ∨ (11264 ≤ c.toInt ∧ c.toInt ≤ 12271) ∨ (12289 ≤ c.toInt ∧ c.toInt ≤ 55295) ∨ (63744 ≤ c.toInt ∧ c.toInt ≤ 64975) ∨ (65008 ≤ c.toInt ∧ c.toInt ≤ 65533) ∨ (65536 ≤ c.toInt ∧ c.toInt ≤ 983039) then 1 else 0 := by
  have hz : ((own_in_0_4 c (65 : Int32) (90 : Int32)) = (0 : Int32)) ↔ ¬ (65 ≤ c.toInt ∧ c.toInt ≤ 90) := by rw [own_in0]; simp only [Int32.reduceToInt]
  show (if (own_in_0_4 c (65 : Int32) (90 : Int32)) = (0 : Int32) then own_ref_3 c else (1 : Int32)) = _
  rw [sp_ref_3]
  by_cases h : (own_in_0_4 c (65 : Int32) (90 : Int32)) = (0 : Int32)
  · rw [if_pos h]; rw [hz] at h
    refine own_ifc ⟨fun q => ?_, fun q => ?_⟩
    · skip
      rcases q with q | q | q | q | q | q | q | q | q | q | q | q | q | q | q
      · exact Or.inr (Or.inl (by omega))
      · exact Or.inr (Or.inr (Or.inl (by omega)))
      · exact Or.inr (Or.inr (Or.inr (Or.inl (by omega))))
      · exact Or.inr (Or.inr (Or.inr (Or.inr (Or.inl (by omega)))))
      · exact Or.inr (Or.inr (Or.inr (Or.inr (Or.inr (Or.inl (by omega))))))
      · exact Or.inr (Or.inr (Or.inr (Or.inr (Or.inr (Or.inr (Or.inl (by omega)))))))
      · exact Or.inr (Or.inr (Or.inr (Or.inr (Or.inr (Or.inr (Or.inr (Or.inl (by omega))))))))
      · exact Or.inr (Or.inr (Or.inr (Or.inr (Or.inr (Or.inr (Or.inr (Or.inr (Or.inl (by omega)))))))))
      · exact Or.inr (Or.inr (Or.inr (Or.inr (Or.inr (Or.inr (Or.inr (Or.inr (Or.inr (Or.inl (by omega))))))))))
      · exact Or.inr (Or.inr (Or.inr (Or.inr (Or.inr (Or.inr (Or.inr (Or.inr (Or.inr (Or.inr (Or.inl (by omega)))))))))))
      · exact Or.inr (Or.inr (Or.inr (Or.inr (Or.inr (Or.inr (Or.inr (Or.inr (Or.inr (Or.inr (Or.inr (Or.inl (by omega))))))))))))
      · exact Or.inr (Or.inr (Or.inr (Or.inr (Or.inr (Or.inr (Or.inr (Or.inr (Or.inr (Or.inr (Or.inr (Or.inr (Or.inl (by omega)))))))))))))
      · exact Or.inr (Or.inr (Or.inr (Or.inr (Or.inr (Or.inr (Or.inr (Or.inr (Or.inr (Or.inr (Or.inr (Or.inr (Or.inr (Or.inl (by omega))))))))))))))
      · exact Or.inr (Or.inr (Or.inr (Or.inr (Or.inr (Or.inr (Or.inr (Or.inr (Or.inr (Or.inr (Or.inr (Or.inr (Or.inr (Or.inr (Or.inl (by omega)))))))))))))))
      · exact Or.inr (Or.inr (Or.inr (Or.inr (Or.inr (Or.inr (Or.inr (Or.inr (Or.inr (Or.inr (Or.inr (Or.inr (Or.inr (Or.inr (Or.inr ((by omega))))))))))))))))
    · skip
      rcases q with q | q | q | q | q | q | q | q | q | q | q | q | q | q | q | q
      · exact absurd q (by omega)
      · exact Or.inl (by omega)
      · exact Or.inr (Or.inl (by omega))
      · exact Or.inr (Or.inr (Or.inl (by omega)))
      · exact Or.inr (Or.inr (Or.inr (Or.inl (by omega))))
      · exact Or.inr (Or.inr (Or.inr (Or.inr (Or.inl (by omega)))))
      · exact Or.inr (Or.inr (Or.inr (Or.inr (Or.inr (Or.inl (by omega))))))
      · exact Or.inr (Or.inr (Or.inr (Or.inr (Or.inr (Or.inr (Or.inl (by omega)))))))
      · exact Or.inr (Or.inr (Or.inr (Or.inr (Or.inr (Or.inr (Or.inr (Or.inl (by omega))))))))
      · exact Or.inr (Or.inr (Or.inr (Or.inr (Or.inr (Or.inr (Or.inr (Or.inr (Or.inl (by omega)))))))))
      · exact Or.inr (Or.inr (Or.inr (Or.inr (Or.inr (Or.inr (Or.inr (Or.inr (Or.inr (Or.inl (by omega))))))))))
      · exact Or.inr (Or.inr (Or.inr (Or.inr (Or.inr (Or.inr (Or.inr (Or.inr (Or.inr (Or.inr (Or.inl (by omega)))))))))))
      · exact Or.inr (Or.inr (Or.inr (Or.inr (Or.inr (Or.inr (Or.inr (Or.inr (Or.inr (Or.inr (Or.inr (Or.inl (by omega))))))))))))
      · exact Or.inr (Or.inr (Or.inr (Or.inr (Or.inr (Or.inr (Or.inr (Or.inr (Or.inr (Or.inr (Or.inr (Or.inr (Or.inl (by omega)))))))))))))
      · exact Or.inr (Or.inr (Or.inr (Or.inr (Or.inr (Or.inr (Or.inr (Or.inr (Or.inr (Or.inr (Or.inr (Or.inr (Or.inr (Or.inl (by omega))))))))))))))
      · exact Or.inr (Or.inr (Or.inr (Or.inr (Or.inr (Or.inr (Or.inr (Or.inr (Or.inr (Or.inr (Or.inr (Or.inr (Or.inr (Or.inr ((by omega)))))))))))))))
  · rw [if_neg h]; rw [hz] at h; exact (if_pos (Or.inl (by omega))).symm
theorem sp_ref_1 (c : Int32) : own_ref_1 c = if (48 ≤ c.toInt ∧ c.toInt ≤ 58) ∨ (65 ≤ c.toInt ∧ c.toInt ≤ 90) ∨ c.toInt = 95 ∨ (97 ≤ c.toInt ∧ c.toInt ≤ 122) ∨ c.toInt = 183 ∨ (192 ≤ c.toInt ∧ c.toInt ≤ 214) ∨ (216 ≤ c.toInt ∧ c.toInt ≤ 246) ∨ (248 ≤ c.toInt ∧ c.toInt ≤ 893) ∨ (895 ≤ c.toInt ∧ c.toInt ≤ 8191) ∨ (8204 ≤ c.toInt ∧ c.toInt ≤ 8205) ∨ (8255 ≤ c.toInt ∧ c.toInt ≤ 8256) ∨ (8304 ≤ c.toInt ∧ c.toInt ≤ 8591) ∨ (11264 ≤ c.toInt ∧ c.toInt ≤ 12271) ∨ (12289 ≤ c.toInt ∧ c.toInt ≤ 55295) ∨ (63744 ≤ c.toInt ∧ c.toInt ≤ 64975) ∨ (65008 ≤ c.toInt ∧ c.toInt ≤ 65533) ∨ (65536 ≤ c.toInt ∧ c.toInt ≤ 983039) then 1 else 0 := by
  have hz : ((own_in_0_4 c (48 : Int32) (58 : Int32)) = (0 : Int32)) ↔ ¬ (48 ≤ c.toInt ∧ c.toInt ≤ 58) := by rw [own_in0]; simp only [Int32.reduceToInt]
  show (if (own_in_0_4 c (48 : Int32) (58 : Int32)) = (0 : Int32) then own_ref_2 c else (1 : Int32)) = _
  rw [sp_ref_2]
  by_cases h : (own_in_0_4 c (48 : Int32) (58 : Int32)) = (0 : Int32)
  · rw [if_pos h]; rw [hz] at h
    refine own_ifc ⟨fun q => ?_, fun q => ?_⟩
    · skip
      rcases q with q | q | q | q | q | q | q | q | q | q | q | q | q | q | q | q
      · exact Or.inr (Or.inl (by omega))
      · exact Or.inr (Or.inr (Or.inl (by omega)))
      · exact Or.inr (Or.inr (Or.inr (Or.inl (by omega))))
      · exact Or.inr (Or.inr (Or.inr (Or.inr (Or.inl (by omega)))))
      · exact Or.inr (Or.inr (Or.inr (Or.inr (Or.inr (Or.inl (by omega))))))
      · exact Or.inr (Or.inr (Or.inr (Or.inr (Or.inr (Or.inr (Or.inl (by omega)))))))
      · exact Or.inr (Or.inr (Or.inr (Or.inr (Or.inr (Or.inr (Or.inr (Or.inl (by omega))))))))
      · exact Or.inr (Or.inr (Or.inr (Or.inr (Or.inr (Or.inr (Or.inr (Or.inr (Or.inl (by omega)))))))))
      · exact Or.inr (Or.inr (Or.inr (Or.inr (Or.inr (Or.inr (Or.inr (Or.inr (Or.inr (Or.inl (by omega))))))))))
      · exact Or.inr (Or.inr (Or.inr (Or.inr (Or.inr (Or.inr (Or.inr (Or.inr (Or.inr (Or.inr (Or.inl (by omega)))))))))))
      · exact Or.inr (Or.inr (Or.inr (Or.inr (Or.inr (Or.inr (Or.inr (Or.inr (Or.inr (Or.inr (Or.inr (Or.inl (by omega))))))))))))
      · exact Or.inr (Or.inr (Or.inr (Or.inr (Or.inr (Or.inr (Or.inr (Or.inr (Or.inr (Or.inr (Or.inr (Or.inr (Or.inl (by omega)))))))))))))
      · exact Or.inr (Or.inr (Or.inr (Or.inr (Or.inr (Or.inr (Or.inr (Or.inr (Or.inr (Or.inr (Or.inr (Or.inr (Or.inr (Or.inl (by omega))))))))))))))
      · exact Or.inr (Or.inr (Or.inr (Or.inr (Or.inr (Or.inr (Or.inr (Or.inr (Or.inr (Or.inr (Or.inr (Or.inr (Or.inr (Or.inr (Or.inl (by omega)))))))))))))))
      · exact Or.inr (Or.inr (Or.inr (Or.inr (Or.inr (Or.inr (Or.inr (Or.inr (Or.inr (Or.inr (Or.inr (Or.inr (Or.inr (Or.inr (Or.inr (Or.inl (by omega))))))))))))))))
      · exact Or.inr (Or.inr (Or.inr (Or.inr (Or.inr (Or.inr (Or.inr (Or.inr (Or.inr (Or.inr (Or.inr (Or.inr (Or.inr (Or.inr (Or.inr (Or.inr ((by omega)))))))))))))))))
    · skip
      rcases q with q | q | q | q | q | q | q | q | q | q | q | q | q | q | q | q | q
      · exact absurd q (by omega)
      · exact Or.inl (by omega)
      · exact Or.inr (Or.inl (by omega))
      · exact Or.inr (Or.inr (Or.inl (by omega)))
      · exact Or.inr (Or.inr (Or.inr (Or.inl (by omega))))
      · exact Or.inr (Or.inr (Or.inr (Or.inr (Or.inl (by omega)))))
      · exact Or.inr (Or.inr (Or.inr (Or.inr (Or.inr (Or.inl (by omega))))))
      · exact Or.inr (Or.inr (Or.inr (Or.inr (Or.inr (Or.inr (Or.inl (by omega)))))))
      · exact Or.inr (Or.inr (Or.inr (Or.inr (Or.inr (Or.inr (Or.inr (Or.inl (by omega))))))))
      · exact Or.inr (Or.inr (Or.inr (Or.inr (Or.inr (Or.inr (Or.inr (Or.inr (Or.inl (by omega)))))))))
      · exact Or.inr (Or.inr (Or.inr (Or.inr (Or.inr (Or.inr (Or.inr (Or.inr (Or.inr (Or.inl (by omega))))))))))
      · exact Or.inr (Or.inr (Or.inr (Or.inr (Or.inr (Or.inr (Or.inr (Or.inr (Or.inr (Or.inr (Or.inl (by omega)))))))))))
      · exact Or.inr (Or.inr (Or.inr (Or.inr (Or.inr (Or.inr (Or.inr (Or.inr (Or.inr (Or.inr (Or.inr (Or.inl (by omega))))))))))))
      · exact Or.inr (Or.inr (Or.inr (Or.inr (Or.inr (Or.inr (Or.inr (Or.inr (Or.inr (Or.inr (Or.inr (Or.inr (Or.inl (by omega)))))))))))))
      · exact Or.inr (Or.inr (Or.inr (Or.inr (Or.inr (Or.inr (Or.inr (Or.inr (Or.inr (Or.inr (Or.inr (Or.inr (Or.inr (Or.inl (by omega))))))))))))))
      · exact Or.inr (Or.inr (Or.inr (Or.inr (Or.inr (Or.inr (Or.inr (Or.inr (Or.inr (Or.inr (Or.inr (Or.inr (Or.inr (Or.inr (Or.inl (by omega)))))))))))))))
      · exact Or.inr (Or.inr (Or.inr (Or.inr (Or.inr (Or.inr (Or.inr (Or.inr (Or.inr (Or.inr (Or.inr (Or.inr (Or.inr (Or.inr (Or.inr ((by omega))))))))))))))))
  · rw [if_neg h]; rw [hz] at h; exact (if_pos (Or.inl (by omega))).symm
theorem sp_ref_0 (c : Int32) : own_ref_0 c = if (45 ≤ c.toInt ∧ c.toInt ≤ 46) ∨ (48 ≤ c.toInt ∧ c.toInt ≤ 58) ∨ (65 ≤ c.toInt ∧ c.toInt ≤ 90) ∨ c.toInt = 95 ∨ (97 ≤ c.toInt ∧ c.toInt ≤ 122) ∨ c.toInt = 183 ∨ (192 ≤ c.toInt ∧ c.toInt ≤ 214) ∨ (216 ≤ c.toInt ∧ c.toInt ≤ 246) ∨ (248 ≤ c.toInt ∧ c.toInt ≤ 893) ∨ (895 ≤ c.toInt ∧ c.toInt ≤ 8191) ∨ (8204 ≤ c.toInt ∧ c.toInt ≤ 8205) ∨ (8255 ≤ c.toInt ∧ c.toInt ≤ 8256) ∨ (8304 ≤ c.toInt ∧ c.toInt ≤ 8591) ∨ (11264 ≤ c.toInt ∧ c.toInt ≤ 12271) ∨ (12289 ≤ c.toInt ∧ c.toInt ≤ 55295) ∨ (63744 ≤ c.toInt ∧ c.toInt ≤ 64975) ∨ (65008 ≤ c.toInt ∧ c.toInt ≤ 65533) ∨ (65536 ≤ c.toInt ∧ c.toInt ≤ 983039) then 1 else 0 := by
  have hz : ((own_in_0_4 c (45 : Int32) (46 : Int32)) = (0 : Int32)) ↔ ¬ (45 ≤ c.toInt ∧ c.toInt ≤ 46) := by rw [own_in0]; simp only [Int32.reduceToInt]
  show (if (own_in_0_4 c (45 : Int32) (46 : Int32)) = (0 : Int32) then own_ref_1 c else (1 : Int32)) = _
  rw [sp_ref_1]
  by_cases h : (own_in_0_4 c (45 : Int32) (46 : Int32)) = (0 : Int32)
  · rw [if_pos h]; rw [hz] at h
    refine own_ifc ⟨fun q => ?_, fun q => ?_⟩
    · skip
      rcases q with q | q | q | q | q | q | q | q | q | q | q | q | q | q | q | q | q
      · exact Or.inr (Or.inl (by omega))
      · exact Or.inr (Or.inr (Or.inl (by omega)))
      · exact Or.inr (Or.inr (Or.inr (Or.inl (by omega))))
      · exact Or.inr (Or.inr (Or.inr (Or.inr (Or.inl (by omega)))))
      · exact Or.inr (Or.inr (Or.inr (Or.inr (Or.inr (Or.inl (by omega))))))
      · exact Or.inr (Or.inr (Or.inr (Or.inr (Or.inr (Or.inr (Or.inl (by omega)))))))
      · exact Or.inr (Or.inr (Or.inr (Or.inr (Or.inr (Or.inr (Or.inr (Or.inl (by omega))))))))
      · exact Or.inr (Or.inr (Or.inr (Or.inr (Or.inr (Or.inr (Or.inr (Or.inr (Or.inl (by omega)))))))))
      · exact Or.inr (Or.inr (Or.inr (Or.inr (Or.inr (Or.inr (Or.inr (Or.inr (Or.inr (Or.inl (by omega))))))))))
      · exact Or.inr (Or.inr (Or.inr (Or.inr (Or.inr (Or.inr (Or.inr (Or.inr (Or.inr (Or.inr (Or.inl (by omega)))))))))))
      · exact Or.inr (Or.inr (Or.inr (Or.inr (Or.inr (Or.inr (Or.inr (Or.inr (Or.inr (Or.inr (Or.inr (Or.inl (by omega))))))))))))
      · exact Or.inr (Or.inr (Or.inr (Or.inr (Or.inr (Or.inr (Or.inr (Or.inr (Or.inr (Or.inr (Or.inr (Or.inr (Or.inl (by omega)))))))))))))
      · exact Or.inr (Or.inr (Or.inr (Or.inr (Or.inr (Or.inr (Or.inr (Or.inr (Or.inr (Or.inr (Or.inr (Or.inr (Or.inr (Or.inl (by omega))))))))))))))
      · exact Or.inr (Or.inr (Or.inr (Or.inr (Or.inr (Or.inr (Or.inr (Or.inr (Or.inr (Or.inr (Or.inr (Or.inr (Or.inr (Or.inr (Or.inl (by omega)))))))))))))))
      · exact Or.inr (Or.inr (Or.inr (Or.inr (Or.inr (Or.inr (Or.inr (Or.inr (Or.inr (Or.inr (Or.inr (Or.inr (Or.inr (Or.inr (Or.inr (Or.inl (by omega))))))))))))))))
      · exact Or.inr (Or.inr (Or.inr (Or.inr (Or.inr (Or.inr (Or.inr (Or.inr (Or.inr (Or.inr (Or.inr (Or.inr (Or.inr (Or.inr (Or.inr (Or.inr (Or.inl (by omega)))))))))))))))))
      · exact Or.inr (Or.inr (Or.inr (Or.inr (Or.inr (Or.inr (Or.inr (Or.inr (Or.inr (Or.inr (Or.inr (Or.inr (Or.inr (Or.inr (Or.inr (Or.inr (Or.inr ((by omega))))))))))))))))))
    · skip
      rcases q with q | q | q | q | q | q | q | q | q | q | q | q | q | q | q | q | q | q
      · exact absurd q (by omega)
      · exact Or.inl (by omega)
      · exact Or.inr (Or.inl (by omega))
      · exact Or.inr (Or.inr (Or.inl (by omega)))
      · exact Or.inr (Or.inr (Or.inr (Or.inl (by omega))))
      · exact Or.inr (Or.inr (Or.inr (Or.inr (Or.inl (by omega)))))
      · exact Or.inr (Or.inr (Or.inr (Or.inr (Or.inr (Or.inl (by omega))))))
      · exact Or.inr (Or.inr (Or.inr (Or.inr (Or.inr (Or.inr (Or.inl (by omega)))))))
      · exact Or.inr (Or.inr (Or.inr (Or.inr (Or.inr (Or.inr (Or.inr (Or.inl (by omega))))))))
      · exact Or.inr (Or.inr (Or.inr (Or.inr (Or.inr (Or.inr (Or.inr (Or.inr (Or.inl (by omega)))))))))
      · exact Or.inr (Or.inr (Or.inr (Or.inr (Or.inr (Or.inr (Or.inr (Or.inr (Or.inr (Or.inl (by omega))))))))))
      · exact Or.inr (Or.inr (Or.inr (Or.inr (Or.inr (Or.inr (Or.inr (Or.inr (Or.inr (Or.inr (Or.inl (by omega)))))))))))
      · exact Or.inr (Or.inr (Or.inr (Or.inr (Or.inr (Or.inr (Or.inr (Or.inr (Or.inr (Or.inr (Or.inr (Or.inl (by omega))))))))))))
      · exact Or.inr (Or.inr (Or.inr (Or.inr (Or.inr (Or.inr (Or.inr (Or.inr (Or.inr (Or.inr (Or.inr (Or.inr (Or.inl (by omega)))))))))))))
      · exact Or.inr (Or.inr (Or.inr (Or.inr (Or.inr (Or.inr (Or.inr (Or.inr (Or.inr (Or.inr (Or.inr (Or.inr (Or.inr (Or.inl (by omega))))))))))))))
      · exact Or.inr (Or.inr (Or.inr (Or.inr (Or.inr (Or.inr (Or.inr (Or.inr (Or.inr (Or.inr (Or.inr (Or.inr (Or.inr (Or.inr (Or.inl (by omega)))))))))))))))
      · exact Or.inr (Or.inr (Or.inr (Or.inr (Or.inr (Or.inr (Or.inr (Or.inr (Or.inr (Or.inr (Or.inr (Or.inr (Or.inr (Or.inr (Or.inr (Or.inl (by omega))))))))))))))))
      · exact Or.inr (Or.inr (Or.inr (Or.inr (Or.inr (Or.inr (Or.inr (Or.inr (Or.inr (Or.inr (Or.inr (Or.inr (Or.inr (Or.inr (Or.inr (Or.inr ((by omega)))))))))))))))))
  · rw [if_neg h]; rw [hz] at h; exact (if_pos (Or.inl (by omega))).symm
theorem own_ok (c : Int32) : own_nc_0_12 c = own_ref_0 c := by rw [sp_own_nc_0_12, sp_ref_0]
theorem pn_rm0 : plainName "com/example/summarium/summarium/cda/XmlNamesIsNameCharPinLaw" = true := by first | (simp [plainName, overriddenIn]; done) | decide +kernel
theorem pd_rm0_0 : parseMethodDescriptor "(I)Z" = some ⟨[.int], some .boolean⟩ := by decide +kernel
theorem ef_rm0 (m : MethodId) (p1 : Int32) (p2 : Int32) (p3 : Int32) : entryFrame m #[(.int p1), (.int p2), (.int p3)] maxLocals = (mkF m 0 #[.val (.int p1), .val (.int p2), .val (.int p3), .unset, .unset] []) := by first | (simp [entryFrame, mkF, argsToLocals, Value.category, maxLocals]; done) | rfl
def Q_rm0 (Z : State) (p1 : Int32) (p2 : Int32) (p3 : Int32)  (h0 : Heap) (n0 : Nat) (v : Option Value) (h : Heap) (L : List Loc) : Prop := v = some (.int (1 : Int32)) ∧ Fr n0 L
set_option maxRecDepth 65536 in
set_option maxHeartbeats 40000000 in
theorem rm0 (l : Launch) (Z : State) (a0 : Array Value) (hw : ∀ d ∈ tables_1, d.before a0 Z = true) (ws : List Jvm.Cond) (p1 : Int32) (p2 : Int32) (p3 : Int32)  (h0 : Heap) (n0 : Nat) (Z0 : n0 ≤ h0.size)  :
    MetFree l x (head1 (Jvm.Cond.code x code maxLocals ret :: ws) room_1) (fun a U => a = #[(.int p1), (.int p2), (.int p3)] ∧ Z.Warmed39 U.vm ∧ U.heap = h0) (fun _ _ _ _ _ => True) (fun _ U o U' => ∃ v L, o = .returned v ∧ Q_rm0 Z p1 p2 p3 h0 n0 v U'.heap L ∧ FrameEnd U o U' L 1 42) := by
  refine MetFree.of_bodySF (plainFor_of_name pn_rm0) hisR ?_
  intro p e s m args below meth c s₁ Bd hml0 hP hK
  obtain ⟨rfl, hZ, hh⟩ := hP
  have hx := Bd.exec
  have hby := Bd.bytes
  have hml : c.maxLocals = 5 := hml0
  have hown : s.vm.findClass "com/example/summarium/summarium/cda/XmlNamesIsNameCharPinLaw" = some m.cls := findClass_of_methodNamed Bd.named
  have hnm := (name_of_methodNamed Bd.named Bd.method).1
  have X0 : Stand p l e room_1 s m #[(.int p1), (.int p2), (.int p3)] below meth c s₁ [] 0 0 := Stand.of_body Bd
  have e0 : s₁.heap = h0 := by rw [← hh, Bd.state]; rfl
  have N0 := Fr.nil n0
  have pre0 : Steps p.tables e below (s₁.setTop (entryFrame m #[(.int p1), (.int p2), (.int p3)] maxLocals)) (s₁.setTop (mkF m 0 #[.val (.int p1), .val (.int p2), .val (.int p3), .unset, .unset] [])) := castTop (ef_rm0 m p1 p2 p3) (Steps.refl _)
  have pre1 : Steps p.tables e below _ (s₁.setTop (mkF m 2 #[.val (.int p1), .val (.int p2), .val (.int p3), .unset, .unset] [(.int (42 : Int32))])) := pre0.trans (by
    show Steps p.tables e below (s₁.setTop (mkF m 0 #[.val (.int p1), .val (.int p2), .val (.int p3), .unset, .unset] [])) _
    refine XS.bipush X0.here hx rfl (hb hby at_0) ?_
    exact Steps.refl _)
  obtain ⟨T2, h2, k2, X2, e2, E2, A2, st2⟩ := newP X0 hx hZ (hw _ (List.mem_of_getElem? (i := 0) rfl)) e0 (g := (mkF m 2 #[.val (.int p1), .val (.int p2), .val (.int p3), .unset, .unset] [(.int (42 : Int32))])) rfl (hb hby at_2) rfl (by decide) (cap := 42) (by decide) (by decide) (by decide) (by decide)
  obtain ⟨b2, g2⟩ : ∃ z, z = h0.size := ⟨_, rfl⟩
  rw [← g2] at A2 st2
  have g_b2 : n0 ≤ b2 := Nat.le_trans Z0 (Nat.le_of_eq g2.symm)
  have lt_b2 : b2 < h2.size := A2.lt
  have V2 : Arv Z h2 b2 k2 .int (42 : Int32) [(.int (0 : Int32)), (.int (0 : Int32)), (.int (0 : Int32)), (.int (0 : Int32)), (.int (0 : Int32)), (.int (0 : Int32)), (.int (0 : Int32)), (.int (0 : Int32)), (.int (0 : Int32)), (.int (0 : Int32)), (.int (0 : Int32)), (.int (0 : Int32)), (.int (0 : Int32)), (.int (0 : Int32)), (.int (0 : Int32)), (.int (0 : Int32)), (.int (0 : Int32)), (.int (0 : Int32)), (.int (0 : Int32)), (.int (0 : Int32)), (.int (0 : Int32)), (.int (0 : Int32)), (.int (0 : Int32)), (.int (0 : Int32)), (.int (0 : Int32)), (.int (0 : Int32)), (.int (0 : Int32)), (.int (0 : Int32)), (.int (0 : Int32)), (.int (0 : Int32)), (.int (0 : Int32)), (.int (0 : Int32)), (.int (0 : Int32)), (.int (0 : Int32)), (.int (0 : Int32)), (.int (0 : Int32)), (.int (0 : Int32)), (.int (0 : Int32)), (.int (0 : Int32)), (.int (0 : Int32)), (.int (0 : Int32)), (.int (0 : Int32))] (.int (0 : Int32)) := (Arv.new A2 (by decide)).pad (pad_rep [] (.int (0 : Int32)) 42)
  have Z2 : n0 ≤ h2.size := Nat.le_trans Z0 E2.1
  have pre2 : Steps p.tables e below _ (T2.setTop (mkF m 4 #[.val (.int p1), .val (.int p2), .val (.int p3), .unset, .unset] [(.ref b2)])) := pre1.trans (st2 _ (Steps.refl _))
  have pre3 : Steps p.tables e below _ (T2.setTop (mkF m 8 #[.val (.int p1), .val (.int p2), .val (.int p3), .unset, .unset] [(.int (45 : Int32)), (.int (0 : Int32)), (.ref b2), (.ref b2)])) := pre2.trans (by
    show Steps p.tables e below (T2.setTop (mkF m 4 #[.val (.int p1), .val (.int p2), .val (.int p3), .unset, .unset] [(.ref b2)])) _
    refine XS.dup X2.here hx rfl (hb hby at_4) rfl rfl ?_
    show Steps p.tables e below (T2.setTop (mkF m 5 #[.val (.int p1), .val (.int p2), .val (.int p3), .unset, .unset] [(.ref b2), (.ref b2)])) _
    refine XS.iconst X2.here hx rfl (hb hby at_5) ?_
    show Steps p.tables e below (T2.setTop (mkF m 6 #[.val (.int p1), .val (.int p2), .val (.int p3), .unset, .unset] [(.int (0 : Int32)), (.ref b2), (.ref b2)])) _
    refine XS.bipush X2.here hx rfl (hb hby at_6) ?_
    exact Steps.refl _)
  obtain ⟨cl4, Ar4, q4, S4, M4, H4, G4⟩ := V2
  have hin4 : ¬ ((0 : Int32) < 0 ∨ cl4.slots.size ≤ ((0 : Int32)).toNatClampNeg) := inb_of S4 ⟨by decide, by decide⟩
  obtain ⟨T4, h4, X4, e4, W4, st4⟩ := stI X2 hx hZ e2 Ar4 (j := (0 : Int32)) hin4 (g := (mkF m 8 #[.val (.int p1), .val (.int p2), .val (.int p3), .unset, .unset] [(.int (45 : Int32)), (.int (0 : Int32)), (.ref b2), (.ref b2)])) rfl rfl (hb hby at_8)
  have V4 : Arv Z h4 b2 k2 .int (42 : Int32) [(.int (45 : Int32)), (.int (0 : Int32)), (.int (0 : Int32)), (.int (0 : Int32)), (.int (0 : Int32)), (.int (0 : Int32)), (.int (0 : Int32)), (.int (0 : Int32)), (.int (0 : Int32)), (.int (0 : Int32)), (.int (0 : Int32)), (.int (0 : Int32)), (.int (0 : Int32)), (.int (0 : Int32)), (.int (0 : Int32)), (.int (0 : Int32)), (.int (0 : Int32)), (.int (0 : Int32)), (.int (0 : Int32)), (.int (0 : Int32)), (.int (0 : Int32)), (.int (0 : Int32)), (.int (0 : Int32)), (.int (0 : Int32)), (.int (0 : Int32)), (.int (0 : Int32)), (.int (0 : Int32)), (.int (0 : Int32)), (.int (0 : Int32)), (.int (0 : Int32)), (.int (0 : Int32)), (.int (0 : Int32)), (.int (0 : Int32)), (.int (0 : Int32)), (.int (0 : Int32)), (.int (0 : Int32)), (.int (0 : Int32)), (.int (0 : Int32)), (.int (0 : Int32)), (.int (0 : Int32)), (.int (0 : Int32)), (.int (0 : Int32))] (.int (0 : Int32)) := Arv.set Ar4 q4 S4 M4 H4 G4 rfl W4 0 rfl (Nat.le_of_ble_eq_true rfl)
  have N4 := Fr.snoc X4 N0 g_b2
  have Z4 : n0 ≤ h4.size := Nat.le_trans Z2 (Keep.of_wr W4).1
  have pre4 : Steps p.tables e below _ (T4.setTop (mkF m 9 #[.val (.int p1), .val (.int p2), .val (.int p3), .unset, .unset] [(.ref b2)])) := pre3.trans (st4 _ (Steps.refl _))
  have pre5 : Steps p.tables e below _ (T4.setTop (mkF m 13 #[.val (.int p1), .val (.int p2), .val (.int p3), .unset, .unset] [(.int (46 : Int32)), (.int (1 : Int32)), (.ref b2), (.ref b2)])) := pre4.trans (by
    show Steps p.tables e below (T4.setTop (mkF m 9 #[.val (.int p1), .val (.int p2), .val (.int p3), .unset, .unset] [(.ref b2)])) _
    refine XS.dup X4.here hx rfl (hb hby at_9) rfl rfl ?_
    show Steps p.tables e below (T4.setTop (mkF m 10 #[.val (.int p1), .val (.int p2), .val (.int p3), .unset, .unset] [(.ref b2), (.ref b2)])) _
    refine XS.iconst X4.here hx rfl (hb hby at_10) ?_
    show Steps p.tables e below (T4.setTop (mkF m 11 #[.val (.int p1), .val (.int p2), .val (.int p3), .unset, .unset] [(.int (1 : Int32)), (.ref b2), (.ref b2)])) _
    refine XS.bipush X4.here hx rfl (hb hby at_11) ?_
    exact Steps.refl _)
  obtain ⟨cl6, Ar6, q6, S6, M6, H6, G6⟩ := V4
  have hin6 : ¬ ((1 : Int32) < 0 ∨ cl6.slots.size ≤ ((1 : Int32)).toNatClampNeg) := inb_of S6 ⟨by decide, by decide⟩
  obtain ⟨T6, h6, X6, e6, W6, st6⟩ := stI X4 hx hZ e4 Ar6 (j := (1 : Int32)) hin6 (g := (mkF m 13 #[.val (.int p1), .val (.int p2), .val (.int p3), .unset, .unset] [(.int (46 : Int32)), (.int (1 : Int32)), (.ref b2), (.ref b2)])) rfl rfl (hb hby at_13)
  have V6 : Arv Z h6 b2 k2 .int (42 : Int32) [(.int (45 : Int32)), (.int (46 : Int32)), (.int (0 : Int32)), (.int (0 : Int32)), (.int (0 : Int32)), (.int (0 : Int32)), (.int (0 : Int32)), (.int (0 : Int32)), (.int (0 : Int32)), (.int (0 : Int32)), (.int (0 : Int32)), (.int (0 : Int32)), (.int (0 : Int32)), (.int (0 : Int32)), (.int (0 : Int32)), (.int (0 : Int32)), (.int (0 : Int32)), (.int (0 : Int32)), (.int (0 : Int32)), (.int (0 : Int32)), (.int (0 : Int32)), (.int (0 : Int32)), (.int (0 : Int32)), (.int (0 : Int32)), (.int (0 : Int32)), (.int (0 : Int32)), (.int (0 : Int32)), (.int (0 : Int32)), (.int (0 : Int32)), (.int (0 : Int32)), (.int (0 : Int32)), (.int (0 : Int32)), (.int (0 : Int32)), (.int (0 : Int32)), (.int (0 : Int32)), (.int (0 : Int32)), (.int (0 : Int32)), (.int (0 : Int32)), (.int (0 : Int32)), (.int (0 : Int32)), (.int (0 : Int32)), (.int (0 : Int32))] (.int (0 : Int32)) := Arv.set Ar6 q6 S6 M6 H6 G6 rfl W6 1 rfl (Nat.le_of_ble_eq_true rfl)
  have N6 := Fr.snoc X6 N4 g_b2
  have Z6 : n0 ≤ h6.size := Nat.le_trans Z4 (Keep.of_wr W6).1
  have pre6 : Steps p.tables e below _ (T6.setTop (mkF m 14 #[.val (.int p1), .val (.int p2), .val (.int p3), .unset, .unset] [(.ref b2)])) := pre5.trans (st6 _ (Steps.refl _))
  have pre7 : Steps p.tables e below _ (T6.setTop (mkF m 18 #[.val (.int p1), .val (.int p2), .val (.int p3), .unset, .unset] [(.int (48 : Int32)), (.int (2 : Int32)), (.ref b2), (.ref b2)])) := pre6.trans (by
    show Steps p.tables e below (T6.setTop (mkF m 14 #[.val (.int p1), .val (.int p2), .val (.int p3), .unset, .unset] [(.ref b2)])) _
    refine XS.dup X6.here hx rfl (hb hby at_14) rfl rfl ?_
    show Steps p.tables e below (T6.setTop (mkF m 15 #[.val (.int p1), .val (.int p2), .val (.int p3), .unset, .unset] [(.ref b2), (.ref b2)])) _
    refine XS.iconst X6.here hx rfl (hb hby at_15) ?_
    show Steps p.tables e below (T6.setTop (mkF m 16 #[.val (.int p1), .val (.int p2), .val (.int p3), .unset, .unset] [(.int (2 : Int32)), (.ref b2), (.ref b2)])) _
    refine XS.bipush X6.here hx rfl (hb hby at_16) ?_
    exact Steps.refl _)
  obtain ⟨cl8, Ar8, q8, S8, M8, H8, G8⟩ := V6
  have hin8 : ¬ ((2 : Int32) < 0 ∨ cl8.slots.size ≤ ((2 : Int32)).toNatClampNeg) := inb_of S8 ⟨by decide, by decide⟩
  obtain ⟨T8, h8, X8, e8, W8, st8⟩ := stI X6 hx hZ e6 Ar8 (j := (2 : Int32)) hin8 (g := (mkF m 18 #[.val (.int p1), .val (.int p2), .val (.int p3), .unset, .unset] [(.int (48 : Int32)), (.int (2 : Int32)), (.ref b2), (.ref b2)])) rfl rfl (hb hby at_18)
  have V8 : Arv Z h8 b2 k2 .int (42 : Int32) [(.int (45 : Int32)), (.int (46 : Int32)), (.int (48 : Int32)), (.int (0 : Int32)), (.int (0 : Int32)), (.int (0 : Int32)), (.int (0 : Int32)), (.int (0 : Int32)), (.int (0 : Int32)), (.int (0 : Int32)), (.int (0 : Int32)), (.int (0 : Int32)), (.int (0 : Int32)), (.int (0 : Int32)), (.int (0 : Int32)), (.int (0 : Int32)), (.int (0 : Int32)), (.int (0 : Int32)), (.int (0 : Int32)), (.int (0 : Int32)), (.int (0 : Int32)), (.int (0 : Int32)), (.int (0 : Int32)), (.int (0 : Int32)), (.int (0 : Int32)), (.int (0 : Int32)), (.int (0 : Int32)), (.int (0 : Int32)), (.int (0 : Int32)), (.int (0 : Int32)), (.int (0 : Int32)), (.int (0 : Int32)), (.int (0 : Int32)), (.int (0 : Int32)), (.int (0 : Int32)), (.int (0 : Int32)), (.int (0 : Int32)), (.int (0 : Int32)), (.int (0 : Int32)), (.int (0 : Int32)), (.int (0 : Int32)), (.int (0 : Int32))] (.int (0 : Int32)) := Arv.set Ar8 q8 S8 M8 H8 G8 rfl W8 2 rfl (Nat.le_of_ble_eq_true rfl)
  have N8 := Fr.snoc X8 N6 g_b2
  have Z8 : n0 ≤ h8.size := Nat.le_trans Z6 (Keep.of_wr W8).1
  have pre8 : Steps p.tables e below _ (T8.setTop (mkF m 19 #[.val (.int p1), .val (.int p2), .val (.int p3), .unset, .unset] [(.ref b2)])) := pre7.trans (st8 _ (Steps.refl _))
  have pre9 : Steps p.tables e below _ (T8.setTop (mkF m 23 #[.val (.int p1), .val (.int p2), .val (.int p3), .unset, .unset] [(.int (57 : Int32)), (.int (3 : Int32)), (.ref b2), (.ref b2)])) := pre8.trans (by
    show Steps p.tables e below (T8.setTop (mkF m 19 #[.val (.int p1), .val (.int p2), .val (.int p3), .unset, .unset] [(.ref b2)])) _
    refine XS.dup X8.here hx rfl (hb hby at_19) rfl rfl ?_
    show Steps p.tables e below (T8.setTop (mkF m 20 #[.val (.int p1), .val (.int p2), .val (.int p3), .unset, .unset] [(.ref b2), (.ref b2)])) _
    refine XS.iconst X8.here hx rfl (hb hby at_20) ?_
    show Steps p.tables e below (T8.setTop (mkF m 21 #[.val (.int p1), .val (.int p2), .val (.int p3), .unset, .unset] [(.int (3 : Int32)), (.ref b2), (.ref b2)])) _
    refine XS.bipush X8.here hx rfl (hb hby at_21) ?_
    exact Steps.refl _)
  obtain ⟨cl10, Ar10, q10, S10, M10, H10, G10⟩ := V8
  have hin10 : ¬ ((3 : Int32) < 0 ∨ cl10.slots.size ≤ ((3 : Int32)).toNatClampNeg) := inb_of S10 ⟨by decide, by decide⟩
  obtain ⟨T10, h10, X10, e10, W10, st10⟩ := stI X8 hx hZ e8 Ar10 (j := (3 : Int32)) hin10 (g := (mkF m 23 #[.val (.int p1), .val (.int p2), .val (.int p3), .unset, .unset] [(.int (57 : Int32)), (.int (3 : Int32)), (.ref b2), (.ref b2)])) rfl rfl (hb hby at_23)
  have V10 : Arv Z h10 b2 k2 .int (42 : Int32) [(.int (45 : Int32)), (.int (46 : Int32)), (.int (48 : Int32)), (.int (57 : Int32)), (.int (0 : Int32)), (.int (0 : Int32)), (.int (0 : Int32)), (.int (0 : Int32)), (.int (0 : Int32)), (.int (0 : Int32)), (.int (0 : Int32)), (.int (0 : Int32)), (.int (0 : Int32)), (.int (0 : Int32)), (.int (0 : Int32)), (.int (0 : Int32)), (.int (0 : Int32)), (.int (0 : Int32)), (.int (0 : Int32)), (.int (0 : Int32)), (.int (0 : Int32)), (.int (0 : Int32)), (.int (0 : Int32)), (.int (0 : Int32)), (.int (0 : Int32)), (.int (0 : Int32)), (.int (0 : Int32)), (.int (0 : Int32)), (.int (0 : Int32)), (.int (0 : Int32)), (.int (0 : Int32)), (.int (0 : Int32)), (.int (0 : Int32)), (.int (0 : Int32)), (.int (0 : Int32)), (.int (0 : Int32)), (.int (0 : Int32)), (.int (0 : Int32)), (.int (0 : Int32)), (.int (0 : Int32)), (.int (0 : Int32)), (.int (0 : Int32))] (.int (0 : Int32)) := Arv.set Ar10 q10 S10 M10 H10 G10 rfl W10 3 rfl (Nat.le_of_ble_eq_true rfl)
  have N10 := Fr.snoc X10 N8 g_b2
  have Z10 : n0 ≤ h10.size := Nat.le_trans Z8 (Keep.of_wr W10).1
  have pre10 : Steps p.tables e below _ (T10.setTop (mkF m 24 #[.val (.int p1), .val (.int p2), .val (.int p3), .unset, .unset] [(.ref b2)])) := pre9.trans (st10 _ (Steps.refl _))
  have pre11 : Steps p.tables e below _ (T10.setTop (mkF m 28 #[.val (.int p1), .val (.int p2), .val (.int p3), .unset, .unset] [(.int (58 : Int32)), (.int (4 : Int32)), (.ref b2), (.ref b2)])) := pre10.trans (by
    show Steps p.tables e below (T10.setTop (mkF m 24 #[.val (.int p1), .val (.int p2), .val (.int p3), .unset, .unset] [(.ref b2)])) _
    refine XS.dup X10.here hx rfl (hb hby at_24) rfl rfl ?_
    show Steps p.tables e below (T10.setTop (mkF m 25 #[.val (.int p1), .val (.int p2), .val (.int p3), .unset, .unset] [(.ref b2), (.ref b2)])) _
    refine XS.iconst X10.here hx rfl (hb hby at_25) ?_
    show Steps p.tables e below (T10.setTop (mkF m 26 #[.val (.int p1), .val (.int p2), .val (.int p3), .unset, .unset] [(.int (4 : Int32)), (.ref b2), (.ref b2)])) _
    refine XS.bipush X10.here hx rfl (hb hby at_26) ?_
    exact Steps.refl _)
  obtain ⟨cl12, Ar12, q12, S12, M12, H12, G12⟩ := V10
  have hin12 : ¬ ((4 : Int32) < 0 ∨ cl12.slots.size ≤ ((4 : Int32)).toNatClampNeg) := inb_of S12 ⟨by decide, by decide⟩
  obtain ⟨T12, h12, X12, e12, W12, st12⟩ := stI X10 hx hZ e10 Ar12 (j := (4 : Int32)) hin12 (g := (mkF m 28 #[.val (.int p1), .val (.int p2), .val (.int p3), .unset, .unset] [(.int (58 : Int32)), (.int (4 : Int32)), (.ref b2), (.ref b2)])) rfl rfl (hb hby at_28)
  have V12 : Arv Z h12 b2 k2 .int (42 : Int32) [(.int (45 : Int32)), (.int (46 : Int32)), (.int (48 : Int32)), (.int (57 : Int32)), (.int (58 : Int32)), (.int (0 : Int32)), (.int (0 : Int32)), (.int (0 : Int32)), (.int (0 : Int32)), (.int (0 : Int32)), (.int (0 : Int32)), (.int (0 : Int32)), (.int (0 : Int32)), (.int (0 : Int32)), (.int (0 : Int32)), (.int (0 : Int32)), (.int (0 : Int32)), (.int (0 : Int32)), (.int (0 : Int32)), (.int (0 : Int32)), (.int (0 : Int32)), (.int (0 : Int32)), (.int (0 : Int32)), (.int (0 : Int32)), (.int (0 : Int32)), (.int (0 : Int32)), (.int (0 : Int32)), (.int (0 : Int32)), (.int (0 : Int32)), (.int (0 : Int32)), (.int (0 : Int32)), (.int (0 : Int32)), (.int (0 : Int32)), (.int (0 : Int32)), (.int (0 : Int32)), (.int (0 : Int32)), (.int (0 : Int32)), (.int (0 : Int32)), (.int (0 : Int32)), (.int (0 : Int32)), (.int (0 : Int32)), (.int (0 : Int32))] (.int (0 : Int32)) := Arv.set Ar12 q12 S12 M12 H12 G12 rfl W12 4 rfl (Nat.le_of_ble_eq_true rfl)
  have N12 := Fr.snoc X12 N10 g_b2
  have Z12 : n0 ≤ h12.size := Nat.le_trans Z10 (Keep.of_wr W12).1
  have pre12 : Steps p.tables e below _ (T12.setTop (mkF m 29 #[.val (.int p1), .val (.int p2), .val (.int p3), .unset, .unset] [(.ref b2)])) := pre11.trans (st12 _ (Steps.refl _))
  have pre13 : Steps p.tables e below _ (T12.setTop (mkF m 33 #[.val (.int p1), .val (.int p2), .val (.int p3), .unset, .unset] [(.int (65 : Int32)), (.int (5 : Int32)), (.ref b2), (.ref b2)])) := pre12.trans (by
    show Steps p.tables e below (T12.setTop (mkF m 29 #[.val (.int p1), .val (.int p2), .val (.int p3), .unset, .unset] [(.ref b2)])) _
    refine XS.dup X12.here hx rfl (hb hby at_29) rfl rfl ?_
    show Steps p.tables e below (T12.setTop (mkF m 30 #[.val (.int p1), .val (.int p2), .val (.int p3), .unset, .unset] [(.ref b2), (.ref b2)])) _
    refine XS.iconst X12.here hx rfl (hb hby at_30) ?_
    show Steps p.tables e below (T12.setTop (mkF m 31 #[.val (.int p1), .val (.int p2), .val (.int p3), .unset, .unset] [(.int (5 : Int32)), (.ref b2), (.ref b2)])) _
    refine XS.bipush X12.here hx rfl (hb hby at_31) ?_
    exact Steps.refl _)
  obtain ⟨cl14, Ar14, q14, S14, M14, H14, G14⟩ := V12
  have hin14 : ¬ ((5 : Int32) < 0 ∨ cl14.slots.size ≤ ((5 : Int32)).toNatClampNeg) := inb_of S14 ⟨by decide, by decide⟩
  obtain ⟨T14, h14, X14, e14, W14, st14⟩ := stI X12 hx hZ e12 Ar14 (j := (5 : Int32)) hin14 (g := (mkF m 33 #[.val (.int p1), .val (.int p2), .val (.int p3), .unset, .unset] [(.int (65 : Int32)), (.int (5 : Int32)), (.ref b2), (.ref b2)])) rfl rfl (hb hby at_33)
  have V14 : Arv Z h14 b2 k2 .int (42 : Int32) [(.int (45 : Int32)), (.int (46 : Int32)), (.int (48 : Int32)), (.int (57 : Int32)), (.int (58 : Int32)), (.int (65 : Int32)), (.int (0 : Int32)), (.int (0 : Int32)), (.int (0 : Int32)), (.int (0 : Int32)), (.int (0 : Int32)), (.int (0 : Int32)), (.int (0 : Int32)), (.int (0 : Int32)), (.int (0 : Int32)), (.int (0 : Int32)), (.int (0 : Int32)), (.int (0 : Int32)), (.int (0 : Int32)), (.int (0 : Int32)), (.int (0 : Int32)), (.int (0 : Int32)), (.int (0 : Int32)), (.int (0 : Int32)), (.int (0 : Int32)), (.int (0 : Int32)), (.int (0 : Int32)), (.int (0 : Int32)), (.int (0 : Int32)), (.int (0 : Int32)), (.int (0 : Int32)), (.int (0 : Int32)), (.int (0 : Int32)), (.int (0 : Int32)), (.int (0 : Int32)), (.int (0 : Int32)), (.int (0 : Int32)), (.int (0 : Int32)), (.int (0 : Int32)), (.int (0 : Int32)), (.int (0 : Int32)), (.int (0 : Int32))] (.int (0 : Int32)) := Arv.set Ar14 q14 S14 M14 H14 G14 rfl W14 5 rfl (Nat.le_of_ble_eq_true rfl)
  have N14 := Fr.snoc X14 N12 g_b2
  have Z14 : n0 ≤ h14.size := Nat.le_trans Z12 (Keep.of_wr W14).1
  have pre14 : Steps p.tables e below _ (T14.setTop (mkF m 34 #[.val (.int p1), .val (.int p2), .val (.int p3), .unset, .unset] [(.ref b2)])) := pre13.trans (st14 _ (Steps.refl _))
  obtain ⟨lc15, X15, N15⟩ : ∃ lc : List Loc, Stand p l e room_1 s m #[(.int p1), (.int p2), (.int p3)] below meth c T14 lc 1 42 ∧ Fr n0 lc := ⟨_, X14, N14⟩
  have pre16 : Steps p.tables e below _ (T14.setTop (mkF m 39 #[.val (.int p1), .val (.int p2), .val (.int p3), .unset, .unset] [(.int (90 : Int32)), (.int (6 : Int32)), (.ref b2), (.ref b2)])) := pre14.trans (by
    show Steps p.tables e below (T14.setTop (mkF m 34 #[.val (.int p1), .val (.int p2), .val (.int p3), .unset, .unset] [(.ref b2)])) _
    refine XS.dup X15.here hx rfl (hb hby at_34) rfl rfl ?_
    show Steps p.tables e below (T14.setTop (mkF m 35 #[.val (.int p1), .val (.int p2), .val (.int p3), .unset, .unset] [(.ref b2), (.ref b2)])) _
    refine XS.bipush X15.here hx rfl (hb hby at_35) ?_
    show Steps p.tables e below (T14.setTop (mkF m 37 #[.val (.int p1), .val (.int p2), .val (.int p3), .unset, .unset] [(.int (6 : Int32)), (.ref b2), (.ref b2)])) _
    refine XS.bipush X15.here hx rfl (hb hby at_37) ?_
    exact Steps.refl _)
  obtain ⟨cl17, Ar17, q17, S17, M17, H17, G17⟩ := V14
  have hin17 : ¬ ((6 : Int32) < 0 ∨ cl17.slots.size ≤ ((6 : Int32)).toNatClampNeg) := inb_of S17 ⟨by decide, by decide⟩
  obtain ⟨T17, h17, X17, e17, W17, st17⟩ := stI X15 hx hZ e14 Ar17 (j := (6 : Int32)) hin17 (g := (mkF m 39 #[.val (.int p1), .val (.int p2), .val (.int p3), .unset, .unset] [(.int (90 : Int32)), (.int (6 : Int32)), (.ref b2), (.ref b2)])) rfl rfl (hb hby at_39)
  have V17 : Arv Z h17 b2 k2 .int (42 : Int32) [(.int (45 : Int32)), (.int (46 : Int32)), (.int (48 : Int32)), (.int (57 : Int32)), (.int (58 : Int32)), (.int (65 : Int32)), (.int (90 : Int32)), (.int (0 : Int32)), (.int (0 : Int32)), (.int (0 : Int32)), (.int (0 : Int32)), (.int (0 : Int32)), (.int (0 : Int32)), (.int (0 : Int32)), (.int (0 : Int32)), (.int (0 : Int32)), (.int (0 : Int32)), (.int (0 : Int32)), (.int (0 : Int32)), (.int (0 : Int32)), (.int (0 : Int32)), (.int (0 : Int32)), (.int (0 : Int32)), (.int (0 : Int32)), (.int (0 : Int32)), (.int (0 : Int32)), (.int (0 : Int32)), (.int (0 : Int32)), (.int (0 : Int32)), (.int (0 : Int32)), (.int (0 : Int32)), (.int (0 : Int32)), (.int (0 : Int32)), (.int (0 : Int32)), (.int (0 : Int32)), (.int (0 : Int32)), (.int (0 : Int32)), (.int (0 : Int32)), (.int (0 : Int32)), (.int (0 : Int32)), (.int (0 : Int32)), (.int (0 : Int32))] (.int (0 : Int32)) := Arv.set Ar17 q17 S17 M17 H17 G17 rfl W17 6 rfl (Nat.le_of_ble_eq_true rfl)
  have N17 := Fr.snoc X17 N15 g_b2
  have Z17 : n0 ≤ h17.size := Nat.le_trans Z14 (Keep.of_wr W17).1
  have pre17 : Steps p.tables e below _ (T17.setTop (mkF m 40 #[.val (.int p1), .val (.int p2), .val (.int p3), .unset, .unset] [(.ref b2)])) := pre16.trans (st17 _ (Steps.refl _))
  have pre18 : Steps p.tables e below _ (T17.setTop (mkF m 45 #[.val (.int p1), .val (.int p2), .val (.int p3), .unset, .unset] [(.int (95 : Int32)), (.int (7 : Int32)), (.ref b2), (.ref b2)])) := pre17.trans (by
    show Steps p.tables e below (T17.setTop (mkF m 40 #[.val (.int p1), .val (.int p2), .val (.int p3), .unset, .unset] [(.ref b2)])) _
    refine XS.dup X17.here hx rfl (hb hby at_40) rfl rfl ?_
    show Steps p.tables e below (T17.setTop (mkF m 41 #[.val (.int p1), .val (.int p2), .val (.int p3), .unset, .unset] [(.ref b2), (.ref b2)])) _
    refine XS.bipush X17.here hx rfl (hb hby at_41) ?_
    show Steps p.tables e below (T17.setTop (mkF m 43 #[.val (.int p1), .val (.int p2), .val (.int p3), .unset, .unset] [(.int (7 : Int32)), (.ref b2), (.ref b2)])) _
    refine XS.bipush X17.here hx rfl (hb hby at_43) ?_
    exact Steps.refl _)
  obtain ⟨cl19, Ar19, q19, S19, M19, H19, G19⟩ := V17
  have hin19 : ¬ ((7 : Int32) < 0 ∨ cl19.slots.size ≤ ((7 : Int32)).toNatClampNeg) := inb_of S19 ⟨by decide, by decide⟩
  obtain ⟨T19, h19, X19, e19, W19, st19⟩ := stI X17 hx hZ e17 Ar19 (j := (7 : Int32)) hin19 (g := (mkF m 45 #[.val (.int p1), .val (.int p2), .val (.int p3), .unset, .unset] [(.int (95 : Int32)), (.int (7 : Int32)), (.ref b2), (.ref b2)])) rfl rfl (hb hby at_45)
  have V19 : Arv Z h19 b2 k2 .int (42 : Int32) [(.int (45 : Int32)), (.int (46 : Int32)), (.int (48 : Int32)), (.int (57 : Int32)), (.int (58 : Int32)), (.int (65 : Int32)), (.int (90 : Int32)), (.int (95 : Int32)), (.int (0 : Int32)), (.int (0 : Int32)), (.int (0 : Int32)), (.int (0 : Int32)), (.int (0 : Int32)), (.int (0 : Int32)), (.int (0 : Int32)), (.int (0 : Int32)), (.int (0 : Int32)), (.int (0 : Int32)), (.int (0 : Int32)), (.int (0 : Int32)), (.int (0 : Int32)), (.int (0 : Int32)), (.int (0 : Int32)), (.int (0 : Int32)), (.int (0 : Int32)), (.int (0 : Int32)), (.int (0 : Int32)), (.int (0 : Int32)), (.int (0 : Int32)), (.int (0 : Int32)), (.int (0 : Int32)), (.int (0 : Int32)), (.int (0 : Int32)), (.int (0 : Int32)), (.int (0 : Int32)), (.int (0 : Int32)), (.int (0 : Int32)), (.int (0 : Int32)), (.int (0 : Int32)), (.int (0 : Int32)), (.int (0 : Int32)), (.int (0 : Int32))] (.int (0 : Int32)) := Arv.set Ar19 q19 S19 M19 H19 G19 rfl W19 7 rfl (Nat.le_of_ble_eq_true rfl)
  have N19 := Fr.snoc X19 N17 g_b2
  have Z19 : n0 ≤ h19.size := Nat.le_trans Z17 (Keep.of_wr W19).1
  have pre19 : Steps p.tables e below _ (T19.setTop (mkF m 46 #[.val (.int p1), .val (.int p2), .val (.int p3), .unset, .unset] [(.ref b2)])) := pre18.trans (st19 _ (Steps.refl _))
  have pre20 : Steps p.tables e below _ (T19.setTop (mkF m 51 #[.val (.int p1), .val (.int p2), .val (.int p3), .unset, .unset] [(.int (97 : Int32)), (.int (8 : Int32)), (.ref b2), (.ref b2)])) := pre19.trans (by
    show Steps p.tables e below (T19.setTop (mkF m 46 #[.val (.int p1), .val (.int p2), .val (.int p3), .unset, .unset] [(.ref b2)])) _
    refine XS.dup X19.here hx rfl (hb hby at_46) rfl rfl ?_
    show Steps p.tables e below (T19.setTop (mkF m 47 #[.val (.int p1), .val (.int p2), .val (.int p3), .unset, .unset] [(.ref b2), (.ref b2)])) _
    refine XS.bipush X19.here hx rfl (hb hby at_47) ?_
    show Steps p.tables e below (T19.setTop (mkF m 49 #[.val (.int p1), .val (.int p2), .val (.int p3), .unset, .unset] [(.int (8 : Int32)), (.ref b2), (.ref b2)])) _
    refine XS.bipush X19.here hx rfl (hb hby at_49) ?_
    exact Steps.refl _)
  obtain ⟨cl21, Ar21, q21, S21, M21, H21, G21⟩ := V19
  have hin21 : ¬ ((8 : Int32) < 0 ∨ cl21.slots.size ≤ ((8 : Int32)).toNatClampNeg) := inb_of S21 ⟨by decide, by decide⟩
  obtain ⟨T21, h21, X21, e21, W21, st21⟩ := stI X19 hx hZ e19 Ar21 (j := (8 : Int32)) hin21 (g := (mkF m 51 #[.val (.int p1), .val (.int p2), .val (.int p3), .unset, .unset] [(.int (97 : Int32)), (.int (8 : Int32)), (.ref b2), (.ref b2)])) rfl rfl (hb hby at_51)
  have V21 : Arv Z h21 b2 k2 .int (42 : Int32) [(.int (45 : Int32)), (.int (46 : Int32)), (.int (48 : Int32)), (.int (57 : Int32)), (.int (58 : Int32)), (.int (65 : Int32)), (.int (90 : Int32)), (.int (95 : Int32)), (.int (97 : Int32)), (.int (0 : Int32)), (.int (0 : Int32)), (.int (0 : Int32)), (.int (0 : Int32)), (.int (0 : Int32)), (.int (0 : Int32)), (.int (0 : Int32)), (.int (0 : Int32)), (.int (0 : Int32)), (.int (0 : Int32)), (.int (0 : Int32)), (.int (0 : Int32)), (.int (0 : Int32)), (.int (0 : Int32)), (.int (0 : Int32)), (.int (0 : Int32)), (.int (0 : Int32)), (.int (0 : Int32)), (.int (0 : Int32)), (.int (0 : Int32)), (.int (0 : Int32)), (.int (0 : Int32)), (.int (0 : Int32)), (.int (0 : Int32)), (.int (0 : Int32)), (.int (0 : Int32)), (.int (0 : Int32)), (.int (0 : Int32)), (.int (0 : Int32)), (.int (0 : Int32)), (.int (0 : Int32)), (.int (0 : Int32)), (.int (0 : Int32))] (.int (0 : Int32)) := Arv.set Ar21 q21 S21 M21 H21 G21 rfl W21 8 rfl (Nat.le_of_ble_eq_true rfl)
  have N21 := Fr.snoc X21 N19 g_b2
  have Z21 : n0 ≤ h21.size := Nat.le_trans Z19 (Keep.of_wr W21).1
  have pre21 : Steps p.tables e below _ (T21.setTop (mkF m 52 #[.val (.int p1), .val (.int p2), .val (.int p3), .unset, .unset] [(.ref b2)])) := pre20.trans (st21 _ (Steps.refl _))
  have pre22 : Steps p.tables e below _ (T21.setTop (mkF m 57 #[.val (.int p1), .val (.int p2), .val (.int p3), .unset, .unset] [(.int (122 : Int32)), (.int (9 : Int32)), (.ref b2), (.ref b2)])) := pre21.trans (by
    show Steps p.tables e below (T21.setTop (mkF m 52 #[.val (.int p1), .val (.int p2), .val (.int p3), .unset, .unset] [(.ref b2)])) _
    refine XS.dup X21.here hx rfl (hb hby at_52) rfl rfl ?_
    show Steps p.tables e below (T21.setTop (mkF m 53 #[.val (.int p1), .val (.int p2), .val (.int p3), .unset, .unset] [(.ref b2), (.ref b2)])) _
    refine XS.bipush X21.here hx rfl (hb hby at_53) ?_
    show Steps p.tables e below (T21.setTop (mkF m 55 #[.val (.int p1), .val (.int p2), .val (.int p3), .unset, .unset] [(.int (9 : Int32)), (.ref b2), (.ref b2)])) _
    refine XS.bipush X21.here hx rfl (hb hby at_55) ?_
    exact Steps.refl _)
  obtain ⟨cl23, Ar23, q23, S23, M23, H23, G23⟩ := V21
  have hin23 : ¬ ((9 : Int32) < 0 ∨ cl23.slots.size ≤ ((9 : Int32)).toNatClampNeg) := inb_of S23 ⟨by decide, by decide⟩
  obtain ⟨T23, h23, X23, e23, W23, st23⟩ := stI X21 hx hZ e21 Ar23 (j := (9 : Int32)) hin23 (g := (mkF m 57 #[.val (.int p1), .val (.int p2), .val (.int p3), .unset, .unset] [(.int (122 : Int32)), (.int (9 : Int32)), (.ref b2), (.ref b2)])) rfl rfl (hb hby at_57)
  have V23 : Arv Z h23 b2 k2 .int (42 : Int32) [(.int (45 : Int32)), (.int (46 : Int32)), (.int (48 : Int32)), (.int (57 : Int32)), (.int (58 : Int32)), (.int (65 : Int32)), (.int (90 : Int32)), (.int (95 : Int32)), (.int (97 : Int32)), (.int (122 : Int32)), (.int (0 : Int32)), (.int (0 : Int32)), (.int (0 : Int32)), (.int (0 : Int32)), (.int (0 : Int32)), (.int (0 : Int32)), (.int (0 : Int32)), (.int (0 : Int32)), (.int (0 : Int32)), (.int (0 : Int32)), (.int (0 : Int32)), (.int (0 : Int32)), (.int (0 : Int32)), (.int (0 : Int32)), (.int (0 : Int32)), (.int (0 : Int32)), (.int (0 : Int32)), (.int (0 : Int32)), (.int (0 : Int32)), (.int (0 : Int32)), (.int (0 : Int32)), (.int (0 : Int32)), (.int (0 : Int32)), (.int (0 : Int32)), (.int (0 : Int32)), (.int (0 : Int32)), (.int (0 : Int32)), (.int (0 : Int32)), (.int (0 : Int32)), (.int (0 : Int32)), (.int (0 : Int32)), (.int (0 : Int32))] (.int (0 : Int32)) := Arv.set Ar23 q23 S23 M23 H23 G23 rfl W23 9 rfl (Nat.le_of_ble_eq_true rfl)
  have N23 := Fr.snoc X23 N21 g_b2
  have Z23 : n0 ≤ h23.size := Nat.le_trans Z21 (Keep.of_wr W23).1
  have pre23 : Steps p.tables e below _ (T23.setTop (mkF m 58 #[.val (.int p1), .val (.int p2), .val (.int p3), .unset, .unset] [(.ref b2)])) := pre22.trans (st23 _ (Steps.refl _))
  have pre24 : Steps p.tables e below _ (T23.setTop (mkF m 64 #[.val (.int p1), .val (.int p2), .val (.int p3), .unset, .unset] [(.int (183 : Int32)), (.int (10 : Int32)), (.ref b2), (.ref b2)])) := pre23.trans (by
    show Steps p.tables e below (T23.setTop (mkF m 58 #[.val (.int p1), .val (.int p2), .val (.int p3), .unset, .unset] [(.ref b2)])) _
    refine XS.dup X23.here hx rfl (hb hby at_58) rfl rfl ?_
    show Steps p.tables e below (T23.setTop (mkF m 59 #[.val (.int p1), .val (.int p2), .val (.int p3), .unset, .unset] [(.ref b2), (.ref b2)])) _
    refine XS.bipush X23.here hx rfl (hb hby at_59) ?_
    show Steps p.tables e below (T23.setTop (mkF m 61 #[.val (.int p1), .val (.int p2), .val (.int p3), .unset, .unset] [(.int (10 : Int32)), (.ref b2), (.ref b2)])) _
    refine XS.sipush X23.here hx rfl (hb hby at_61) ?_
    exact Steps.refl _)
  obtain ⟨cl25, Ar25, q25, S25, M25, H25, G25⟩ := V23
  have hin25 : ¬ ((10 : Int32) < 0 ∨ cl25.slots.size ≤ ((10 : Int32)).toNatClampNeg) := inb_of S25 ⟨by decide, by decide⟩
  obtain ⟨T25, h25, X25, e25, W25, st25⟩ := stI X23 hx hZ e23 Ar25 (j := (10 : Int32)) hin25 (g := (mkF m 64 #[.val (.int p1), .val (.int p2), .val (.int p3), .unset, .unset] [(.int (183 : Int32)), (.int (10 : Int32)), (.ref b2), (.ref b2)])) rfl rfl (hb hby at_64)
  have V25 : Arv Z h25 b2 k2 .int (42 : Int32) [(.int (45 : Int32)), (.int (46 : Int32)), (.int (48 : Int32)), (.int (57 : Int32)), (.int (58 : Int32)), (.int (65 : Int32)), (.int (90 : Int32)), (.int (95 : Int32)), (.int (97 : Int32)), (.int (122 : Int32)), (.int (183 : Int32)), (.int (0 : Int32)), (.int (0 : Int32)), (.int (0 : Int32)), (.int (0 : Int32)), (.int (0 : Int32)), (.int (0 : Int32)), (.int (0 : Int32)), (.int (0 : Int32)), (.int (0 : Int32)), (.int (0 : Int32)), (.int (0 : Int32)), (.int (0 : Int32)), (.int (0 : Int32)), (.int (0 : Int32)), (.int (0 : Int32)), (.int (0 : Int32)), (.int (0 : Int32)), (.int (0 : Int32)), (.int (0 : Int32)), (.int (0 : Int32)), (.int (0 : Int32)), (.int (0 : Int32)), (.int (0 : Int32)), (.int (0 : Int32)), (.int (0 : Int32)), (.int (0 : Int32)), (.int (0 : Int32)), (.int (0 : Int32)), (.int (0 : Int32)), (.int (0 : Int32)), (.int (0 : Int32))] (.int (0 : Int32)) := Arv.set Ar25 q25 S25 M25 H25 G25 rfl W25 10 rfl (Nat.le_of_ble_eq_true rfl)
  have N25 := Fr.snoc X25 N23 g_b2
  have Z25 : n0 ≤ h25.size := Nat.le_trans Z23 (Keep.of_wr W25).1
  have pre25 : Steps p.tables e below _ (T25.setTop (mkF m 65 #[.val (.int p1), .val (.int p2), .val (.int p3), .unset, .unset] [(.ref b2)])) := pre24.trans (st25 _ (Steps.refl _))
  have pre26 : Steps p.tables e below _ (T25.setTop (mkF m 71 #[.val (.int p1), .val (.int p2), .val (.int p3), .unset, .unset] [(.int (192 : Int32)), (.int (11 : Int32)), (.ref b2), (.ref b2)])) := pre25.trans (by
    show Steps p.tables e below (T25.setTop (mkF m 65 #[.val (.int p1), .val (.int p2), .val (.int p3), .unset, .unset] [(.ref b2)])) _
    refine XS.dup X25.here hx rfl (hb hby at_65) rfl rfl ?_
    show Steps p.tables e below (T25.setTop (mkF m 66 #[.val (.int p1), .val (.int p2), .val (.int p3), .unset, .unset] [(.ref b2), (.ref b2)])) _
    refine XS.bipush X25.here hx rfl (hb hby at_66) ?_
    show Steps p.tables e below (T25.setTop (mkF m 68 #[.val (.int p1), .val (.int p2), .val (.int p3), .unset, .unset] [(.int (11 : Int32)), (.ref b2), (.ref b2)])) _
    refine XS.sipush X25.here hx rfl (hb hby at_68) ?_
    exact Steps.refl _)
  obtain ⟨cl27, Ar27, q27, S27, M27, H27, G27⟩ := V25
  have hin27 : ¬ ((11 : Int32) < 0 ∨ cl27.slots.size ≤ ((11 : Int32)).toNatClampNeg) := inb_of S27 ⟨by decide, by decide⟩
  obtain ⟨T27, h27, X27, e27, W27, st27⟩ := stI X25 hx hZ e25 Ar27 (j := (11 : Int32)) hin27 (g := (mkF m 71 #[.val (.int p1), .val (.int p2), .val (.int p3), .unset, .unset] [(.int (192 : Int32)), (.int (11 : Int32)), (.ref b2), (.ref b2)])) rfl rfl (hb hby at_71)
  have V27 : Arv Z h27 b2 k2 .int (42 : Int32) [(.int (45 : Int32)), (.int (46 : Int32)), (.int (48 : Int32)), (.int (57 : Int32)), (.int (58 : Int32)), (.int (65 : Int32)), (.int (90 : Int32)), (.int (95 : Int32)), (.int (97 : Int32)), (.int (122 : Int32)), (.int (183 : Int32)), (.int (192 : Int32)), (.int (0 : Int32)), (.int (0 : Int32)), (.int (0 : Int32)), (.int (0 : Int32)), (.int (0 : Int32)), (.int (0 : Int32)), (.int (0 : Int32)), (.int (0 : Int32)), (.int (0 : Int32)), (.int (0 : Int32)), (.int (0 : Int32)), (.int (0 : Int32)), (.int (0 : Int32)), (.int (0 : Int32)), (.int (0 : Int32)), (.int (0 : Int32)), (.int (0 : Int32)), (.int (0 : Int32)), (.int (0 : Int32)), (.int (0 : Int32)), (.int (0 : Int32)), (.int (0 : Int32)), (.int (0 : Int32)), (.int (0 : Int32)), (.int (0 : Int32)), (.int (0 : Int32)), (.int (0 : Int32)), (.int (0 : Int32)), (.int (0 : Int32)), (.int (0 : Int32))] (.int (0 : Int32)) := Arv.set Ar27 q27 S27 M27 H27 G27 rfl W27 11 rfl (Nat.le_of_ble_eq_true rfl)
  have N27 := Fr.snoc X27 N25 g_b2
  have Z27 : n0 ≤ h27.size := Nat.le_trans Z25 (Keep.of_wr W27).1
  have pre27 : Steps p.tables e below _ (T27.setTop (mkF m 72 #[.val (.int p1), .val (.int p2), .val (.int p3), .unset, .unset] [(.ref b2)])) := pre26.trans (st27 _ (Steps.refl _))
  obtain ⟨lc28, X28, N28⟩ : ∃ lc : List Loc, Stand p l e room_1 s m #[(.int p1), (.int p2), (.int p3)] below meth c T27 lc 1 42 ∧ Fr n0 lc := ⟨_, X27, N27⟩
  have pre29 : Steps p.tables e below _ (T27.setTop (mkF m 78 #[.val (.int p1), .val (.int p2), .val (.int p3), .unset, .unset] [(.int (214 : Int32)), (.int (12 : Int32)), (.ref b2), (.ref b2)])) := pre27.trans (by
    show Steps p.tables e below (T27.setTop (mkF m 72 #[.val (.int p1), .val (.int p2), .val (.int p3), .unset, .unset] [(.ref b2)])) _
    refine XS.dup X28.here hx rfl (hb hby at_72) rfl rfl ?_
    show Steps p.tables e below (T27.setTop (mkF m 73 #[.val (.int p1), .val (.int p2), .val (.int p3), .unset, .unset] [(.ref b2), (.ref b2)])) _
    refine XS.bipush X28.here hx rfl (hb hby at_73) ?_
    show Steps p.tables e below (T27.setTop (mkF m 75 #[.val (.int p1), .val (.int p2), .val (.int p3), .unset, .unset] [(.int (12 : Int32)), (.ref b2), (.ref b2)])) _
    refine XS.sipush X28.here hx rfl (hb hby at_75) ?_
    exact Steps.refl _)
  obtain ⟨cl30, Ar30, q30, S30, M30, H30, G30⟩ := V27
  have hin30 : ¬ ((12 : Int32) < 0 ∨ cl30.slots.size ≤ ((12 : Int32)).toNatClampNeg) := inb_of S30 ⟨by decide, by decide⟩
  obtain ⟨T30, h30, X30, e30, W30, st30⟩ := stI X28 hx hZ e27 Ar30 (j := (12 : Int32)) hin30 (g := (mkF m 78 #[.val (.int p1), .val (.int p2), .val (.int p3), .unset, .unset] [(.int (214 : Int32)), (.int (12 : Int32)), (.ref b2), (.ref b2)])) rfl rfl (hb hby at_78)
  have V30 : Arv Z h30 b2 k2 .int (42 : Int32) [(.int (45 : Int32)), (.int (46 : Int32)), (.int (48 : Int32)), (.int (57 : Int32)), (.int (58 : Int32)), (.int (65 : Int32)), (.int (90 : Int32)), (.int (95 : Int32)), (.int (97 : Int32)), (.int (122 : Int32)), (.int (183 : Int32)), (.int (192 : Int32)), (.int (214 : Int32)), (.int (0 : Int32)), (.int (0 : Int32)), (.int (0 : Int32)), (.int (0 : Int32)), (.int (0 : Int32)), (.int (0 : Int32)), (.int (0 : Int32)), (.int (0 : Int32)), (.int (0 : Int32)), (.int (0 : Int32)), (.int (0 : Int32)), (.int (0 : Int32)), (.int (0 : Int32)), (.int (0 : Int32)), (.int (0 : Int32)), (.int (0 : Int32)), (.int (0 : Int32)), (.int (0 : Int32)), (.int (0 : Int32)), (.int (0 : Int32)), (.int (0 : Int32)), (.int (0 : Int32)), (.int (0 : Int32)), (.int (0 : Int32)), (.int (0 : Int32)), (.int (0 : Int32)), (.int (0 : Int32)), (.int (0 : Int32)), (.int (0 : Int32))] (.int (0 : Int32)) := Arv.set Ar30 q30 S30 M30 H30 G30 rfl W30 12 rfl (Nat.le_of_ble_eq_true rfl)
  have N30 := Fr.snoc X30 N28 g_b2
  have Z30 : n0 ≤ h30.size := Nat.le_trans Z27 (Keep.of_wr W30).1
  have pre30 : Steps p.tables e below _ (T30.setTop (mkF m 79 #[.val (.int p1), .val (.int p2), .val (.int p3), .unset, .unset] [(.ref b2)])) := pre29.trans (st30 _ (Steps.refl _))
  have pre31 : Steps p.tables e below _ (T30.setTop (mkF m 85 #[.val (.int p1), .val (.int p2), .val (.int p3), .unset, .unset] [(.int (216 : Int32)), (.int (13 : Int32)), (.ref b2), (.ref b2)])) := pre30.trans (by
    show Steps p.tables e below (T30.setTop (mkF m 79 #[.val (.int p1), .val (.int p2), .val (.int p3), .unset, .unset] [(.ref b2)])) _
    refine XS.dup X30.here hx rfl (hb hby at_79) rfl rfl ?_
    show Steps p.tables e below (T30.setTop (mkF m 80 #[.val (.int p1), .val (.int p2), .val (.int p3), .unset, .unset] [(.ref b2), (.ref b2)])) _
    refine XS.bipush X30.here hx rfl (hb hby at_80) ?_
    show Steps p.tables e below (T30.setTop (mkF m 82 #[.val (.int p1), .val (.int p2), .val (.int p3), .unset, .unset] [(.int (13 : Int32)), (.ref b2), (.ref b2)])) _
    refine XS.sipush X30.here hx rfl (hb hby at_82) ?_
    exact Steps.refl _)
  obtain ⟨cl32, Ar32, q32, S32, M32, H32, G32⟩ := V30
  have hin32 : ¬ ((13 : Int32) < 0 ∨ cl32.slots.size ≤ ((13 : Int32)).toNatClampNeg) := inb_of S32 ⟨by decide, by decide⟩
  obtain ⟨T32, h32, X32, e32, W32, st32⟩ := stI X30 hx hZ e30 Ar32 (j := (13 : Int32)) hin32 (g := (mkF m 85 #[.val (.int p1), .val (.int p2), .val (.int p3), .unset, .unset] [(.int (216 : Int32)), (.int (13 : Int32)), (.ref b2), (.ref b2)])) rfl rfl (hb hby at_85)
  have V32 : Arv Z h32 b2 k2 .int (42 : Int32) [(.int (45 : Int32)), (.int (46 : Int32)), (.int (48 : Int32)), (.int (57 : Int32)), (.int (58 : Int32)), (.int (65 : Int32)), (.int (90 : Int32)), (.int (95 : Int32)), (.int (97 : Int32)), (.int (122 : Int32)), (.int (183 : Int32)), (.int (192 : Int32)), (.int (214 : Int32)), (.int (216 : Int32)), (.int (0 : Int32)), (.int (0 : Int32)), (.int (0 : Int32)), (.int (0 : Int32)), (.int (0 : Int32)), (.int (0 : Int32)), (.int (0 : Int32)), (.int (0 : Int32)), (.int (0 : Int32)), (.int (0 : Int32)), (.int (0 : Int32)), (.int (0 : Int32)), (.int (0 : Int32)), (.int (0 : Int32)), (.int (0 : Int32)), (.int (0 : Int32)), (.int (0 : Int32)), (.int (0 : Int32)), (.int (0 : Int32)), (.int (0 : Int32)), (.int (0 : Int32)), (.int (0 : Int32)), (.int (0 : Int32)), (.int (0 : Int32)), (.int (0 : Int32)), (.int (0 : Int32)), (.int (0 : Int32)), (.int (0 : Int32))] (.int (0 : Int32)) := Arv.set Ar32 q32 S32 M32 H32 G32 rfl W32 13 rfl (Nat.le_of_ble_eq_true rfl)
  have N32 := Fr.snoc X32 N30 g_b2
  have Z32 : n0 ≤ h32.size := Nat.le_trans Z30 (Keep.of_wr W32).1
  have pre32 : Steps p.tables e below _ (T32.setTop (mkF m 86 #[.val (.int p1), .val (.int p2), .val (.int p3), .unset, .unset] [(.ref b2)])) := pre31.trans (st32 _ (Steps.refl _))
  have pre33 : Steps p.tables e below _ (T32.setTop (mkF m 92 #[.val (.int p1), .val (.int p2), .val (.int p3), .unset, .unset] [(.int (246 : Int32)), (.int (14 : Int32)), (.ref b2), (.ref b2)])) := pre32.trans (by
    show Steps p.tables e below (T32.setTop (mkF m 86 #[.val (.int p1), .val (.int p2), .val (.int p3), .unset, .unset] [(.ref b2)])) _
    refine XS.dup X32.here hx rfl (hb hby at_86) rfl rfl ?_
    show Steps p.tables e below (T32.setTop (mkF m 87 #[.val (.int p1), .val (.int p2), .val (.int p3), .unset, .unset] [(.ref b2), (.ref b2)])) _
    refine XS.bipush X32.here hx rfl (hb hby at_87) ?_
    show Steps p.tables e below (T32.setTop (mkF m 89 #[.val (.int p1), .val (.int p2), .val (.int p3), .unset, .unset] [(.int (14 : Int32)), (.ref b2), (.ref b2)])) _
    refine XS.sipush X32.here hx rfl (hb hby at_89) ?_
    exact Steps.refl _)
  obtain ⟨cl34, Ar34, q34, S34, M34, H34, G34⟩ := V32
  have hin34 : ¬ ((14 : Int32) < 0 ∨ cl34.slots.size ≤ ((14 : Int32)).toNatClampNeg) := inb_of S34 ⟨by decide, by decide⟩
  obtain ⟨T34, h34, X34, e34, W34, st34⟩ := stI X32 hx hZ e32 Ar34 (j := (14 : Int32)) hin34 (g := (mkF m 92 #[.val (.int p1), .val (.int p2), .val (.int p3), .unset, .unset] [(.int (246 : Int32)), (.int (14 : Int32)), (.ref b2), (.ref b2)])) rfl rfl (hb hby at_92)
  have V34 : Arv Z h34 b2 k2 .int (42 : Int32) [(.int (45 : Int32)), (.int (46 : Int32)), (.int (48 : Int32)), (.int (57 : Int32)), (.int (58 : Int32)), (.int (65 : Int32)), (.int (90 : Int32)), (.int (95 : Int32)), (.int (97 : Int32)), (.int (122 : Int32)), (.int (183 : Int32)), (.int (192 : Int32)), (.int (214 : Int32)), (.int (216 : Int32)), (.int (246 : Int32)), (.int (0 : Int32)), (.int (0 : Int32)), (.int (0 : Int32)), (.int (0 : Int32)), (.int (0 : Int32)), (.int (0 : Int32)), (.int (0 : Int32)), (.int (0 : Int32)), (.int (0 : Int32)), (.int (0 : Int32)), (.int (0 : Int32)), (.int (0 : Int32)), (.int (0 : Int32)), (.int (0 : Int32)), (.int (0 : Int32)), (.int (0 : Int32)), (.int (0 : Int32)), (.int (0 : Int32)), (.int (0 : Int32)), (.int (0 : Int32)), (.int (0 : Int32)), (.int (0 : Int32)), (.int (0 : Int32)), (.int (0 : Int32)), (.int (0 : Int32)), (.int (0 : Int32)), (.int (0 : Int32))] (.int (0 : Int32)) := Arv.set Ar34 q34 S34 M34 H34 G34 rfl W34 14 rfl (Nat.le_of_ble_eq_true rfl)
  have N34 := Fr.snoc X34 N32 g_b2
  have Z34 : n0 ≤ h34.size := Nat.le_trans Z32 (Keep.of_wr W34).1
  have pre34 : Steps p.tables e below _ (T34.setTop (mkF m 93 #[.val (.int p1), .val (.int p2), .val (.int p3), .unset, .unset] [(.ref b2)])) := pre33.trans (st34 _ (Steps.refl _))
  have pre35 : Steps p.tables e below _ (T34.setTop (mkF m 99 #[.val (.int p1), .val (.int p2), .val (.int p3), .unset, .unset] [(.int (248 : Int32)), (.int (15 : Int32)), (.ref b2), (.ref b2)])) := pre34.trans (by
    show Steps p.tables e below (T34.setTop (mkF m 93 #[.val (.int p1), .val (.int p2), .val (.int p3), .unset, .unset] [(.ref b2)])) _
    refine XS.dup X34.here hx rfl (hb hby at_93) rfl rfl ?_
    show Steps p.tables e below (T34.setTop (mkF m 94 #[.val (.int p1), .val (.int p2), .val (.int p3), .unset, .unset] [(.ref b2), (.ref b2)])) _
    refine XS.bipush X34.here hx rfl (hb hby at_94) ?_
    show Steps p.tables e below (T34.setTop (mkF m 96 #[.val (.int p1), .val (.int p2), .val (.int p3), .unset, .unset] [(.int (15 : Int32)), (.ref b2), (.ref b2)])) _
    refine XS.sipush X34.here hx rfl (hb hby at_96) ?_
    exact Steps.refl _)
  obtain ⟨cl36, Ar36, q36, S36, M36, H36, G36⟩ := V34
  have hin36 : ¬ ((15 : Int32) < 0 ∨ cl36.slots.size ≤ ((15 : Int32)).toNatClampNeg) := inb_of S36 ⟨by decide, by decide⟩
  obtain ⟨T36, h36, X36, e36, W36, st36⟩ := stI X34 hx hZ e34 Ar36 (j := (15 : Int32)) hin36 (g := (mkF m 99 #[.val (.int p1), .val (.int p2), .val (.int p3), .unset, .unset] [(.int (248 : Int32)), (.int (15 : Int32)), (.ref b2), (.ref b2)])) rfl rfl (hb hby at_99)
  have V36 : Arv Z h36 b2 k2 .int (42 : Int32) [(.int (45 : Int32)), (.int (46 : Int32)), (.int (48 : Int32)), (.int (57 : Int32)), (.int (58 : Int32)), (.int (65 : Int32)), (.int (90 : Int32)), (.int (95 : Int32)), (.int (97 : Int32)), (.int (122 : Int32)), (.int (183 : Int32)), (.int (192 : Int32)), (.int (214 : Int32)), (.int (216 : Int32)), (.int (246 : Int32)), (.int (248 : Int32)), (.int (0 : Int32)), (.int (0 : Int32)), (.int (0 : Int32)), (.int (0 : Int32)), (.int (0 : Int32)), (.int (0 : Int32)), (.int (0 : Int32)), (.int (0 : Int32)), (.int (0 : Int32)), (.int (0 : Int32)), (.int (0 : Int32)), (.int (0 : Int32)), (.int (0 : Int32)), (.int (0 : Int32)), (.int (0 : Int32)), (.int (0 : Int32)), (.int (0 : Int32)), (.int (0 : Int32)), (.int (0 : Int32)), (.int (0 : Int32)), (.int (0 : Int32)), (.int (0 : Int32)), (.int (0 : Int32)), (.int (0 : Int32)), (.int (0 : Int32)), (.int (0 : Int32))] (.int (0 : Int32)) := Arv.set Ar36 q36 S36 M36 H36 G36 rfl W36 15 rfl (Nat.le_of_ble_eq_true rfl)
  have N36 := Fr.snoc X36 N34 g_b2
  have Z36 : n0 ≤ h36.size := Nat.le_trans Z34 (Keep.of_wr W36).1
  have pre36 : Steps p.tables e below _ (T36.setTop (mkF m 100 #[.val (.int p1), .val (.int p2), .val (.int p3), .unset, .unset] [(.ref b2)])) := pre35.trans (st36 _ (Steps.refl _))
  have pre37 : Steps p.tables e below _ (T36.setTop (mkF m 106 #[.val (.int p1), .val (.int p2), .val (.int p3), .unset, .unset] [(.int (767 : Int32)), (.int (16 : Int32)), (.ref b2), (.ref b2)])) := pre36.trans (by
    show Steps p.tables e below (T36.setTop (mkF m 100 #[.val (.int p1), .val (.int p2), .val (.int p3), .unset, .unset] [(.ref b2)])) _
    refine XS.dup X36.here hx rfl (hb hby at_100) rfl rfl ?_
    show Steps p.tables e below (T36.setTop (mkF m 101 #[.val (.int p1), .val (.int p2), .val (.int p3), .unset, .unset] [(.ref b2), (.ref b2)])) _
    refine XS.bipush X36.here hx rfl (hb hby at_101) ?_
    show Steps p.tables e below (T36.setTop (mkF m 103 #[.val (.int p1), .val (.int p2), .val (.int p3), .unset, .unset] [(.int (16 : Int32)), (.ref b2), (.ref b2)])) _
    refine XS.sipush X36.here hx rfl (hb hby at_103) ?_
    exact Steps.refl _)
  obtain ⟨cl38, Ar38, q38, S38, M38, H38, G38⟩ := V36
  have hin38 : ¬ ((16 : Int32) < 0 ∨ cl38.slots.size ≤ ((16 : Int32)).toNatClampNeg) := inb_of S38 ⟨by decide, by decide⟩
  obtain ⟨T38, h38, X38, e38, W38, st38⟩ := stI X36 hx hZ e36 Ar38 (j := (16 : Int32)) hin38 (g := (mkF m 106 #[.val (.int p1), .val (.int p2), .val (.int p3), .unset, .unset] [(.int (767 : Int32)), (.int (16 : Int32)), (.ref b2), (.ref b2)])) rfl rfl (hb hby at_106)
  have V38 : Arv Z h38 b2 k2 .int (42 : Int32) [(.int (45 : Int32)), (.int (46 : Int32)), (.int (48 : Int32)), (.int (57 : Int32)), (.int (58 : Int32)), (.int (65 : Int32)), (.int (90 : Int32)), (.int (95 : Int32)), (.int (97 : Int32)), (.int (122 : Int32)), (.int (183 : Int32)), (.int (192 : Int32)), (.int (214 : Int32)), (.int (216 : Int32)), (.int (246 : Int32)), (.int (248 : Int32)), (.int (767 : Int32)), (.int (0 : Int32)), (.int (0 : Int32)), (.int (0 : Int32)), (.int (0 : Int32)), (.int (0 : Int32)), (.int (0 : Int32)), (.int (0 : Int32)), (.int (0 : Int32)), (.int (0 : Int32)), (.int (0 : Int32)), (.int (0 : Int32)), (.int (0 : Int32)), (.int (0 : Int32)), (.int (0 : Int32)), (.int (0 : Int32)), (.int (0 : Int32)), (.int (0 : Int32)), (.int (0 : Int32)), (.int (0 : Int32)), (.int (0 : Int32)), (.int (0 : Int32)), (.int (0 : Int32)), (.int (0 : Int32)), (.int (0 : Int32)), (.int (0 : Int32))] (.int (0 : Int32)) := Arv.set Ar38 q38 S38 M38 H38 G38 rfl W38 16 rfl (Nat.le_of_ble_eq_true rfl)
  have N38 := Fr.snoc X38 N36 g_b2
  have Z38 : n0 ≤ h38.size := Nat.le_trans Z36 (Keep.of_wr W38).1
  have pre38 : Steps p.tables e below _ (T38.setTop (mkF m 107 #[.val (.int p1), .val (.int p2), .val (.int p3), .unset, .unset] [(.ref b2)])) := pre37.trans (st38 _ (Steps.refl _))
  have pre39 : Steps p.tables e below _ (T38.setTop (mkF m 113 #[.val (.int p1), .val (.int p2), .val (.int p3), .unset, .unset] [(.int (768 : Int32)), (.int (17 : Int32)), (.ref b2), (.ref b2)])) := pre38.trans (by
    show Steps p.tables e below (T38.setTop (mkF m 107 #[.val (.int p1), .val (.int p2), .val (.int p3), .unset, .unset] [(.ref b2)])) _
    refine XS.dup X38.here hx rfl (hb hby at_107) rfl rfl ?_
    show Steps p.tables e below (T38.setTop (mkF m 108 #[.val (.int p1), .val (.int p2), .val (.int p3), .unset, .unset] [(.ref b2), (.ref b2)])) _
    refine XS.bipush X38.here hx rfl (hb hby at_108) ?_
    show Steps p.tables e below (T38.setTop (mkF m 110 #[.val (.int p1), .val (.int p2), .val (.int p3), .unset, .unset] [(.int (17 : Int32)), (.ref b2), (.ref b2)])) _
    refine XS.sipush X38.here hx rfl (hb hby at_110) ?_
    exact Steps.refl _)
  obtain ⟨cl40, Ar40, q40, S40, M40, H40, G40⟩ := V38
  have hin40 : ¬ ((17 : Int32) < 0 ∨ cl40.slots.size ≤ ((17 : Int32)).toNatClampNeg) := inb_of S40 ⟨by decide, by decide⟩
  obtain ⟨T40, h40, X40, e40, W40, st40⟩ := stI X38 hx hZ e38 Ar40 (j := (17 : Int32)) hin40 (g := (mkF m 113 #[.val (.int p1), .val (.int p2), .val (.int p3), .unset, .unset] [(.int (768 : Int32)), (.int (17 : Int32)), (.ref b2), (.ref b2)])) rfl rfl (hb hby at_113)
  have V40 : Arv Z h40 b2 k2 .int (42 : Int32) [(.int (45 : Int32)), (.int (46 : Int32)), (.int (48 : Int32)), (.int (57 : Int32)), (.int (58 : Int32)), (.int (65 : Int32)), (.int (90 : Int32)), (.int (95 : Int32)), (.int (97 : Int32)), (.int (122 : Int32)), (.int (183 : Int32)), (.int (192 : Int32)), (.int (214 : Int32)), (.int (216 : Int32)), (.int (246 : Int32)), (.int (248 : Int32)), (.int (767 : Int32)), (.int (768 : Int32)), (.int (0 : Int32)), (.int (0 : Int32)), (.int (0 : Int32)), (.int (0 : Int32)), (.int (0 : Int32)), (.int (0 : Int32)), (.int (0 : Int32)), (.int (0 : Int32)), (.int (0 : Int32)), (.int (0 : Int32)), (.int (0 : Int32)), (.int (0 : Int32)), (.int (0 : Int32)), (.int (0 : Int32)), (.int (0 : Int32)), (.int (0 : Int32)), (.int (0 : Int32)), (.int (0 : Int32)), (.int (0 : Int32)), (.int (0 : Int32)), (.int (0 : Int32)), (.int (0 : Int32)), (.int (0 : Int32)), (.int (0 : Int32))] (.int (0 : Int32)) := Arv.set Ar40 q40 S40 M40 H40 G40 rfl W40 17 rfl (Nat.le_of_ble_eq_true rfl)
  have N40 := Fr.snoc X40 N38 g_b2
  have Z40 : n0 ≤ h40.size := Nat.le_trans Z38 (Keep.of_wr W40).1
  have pre40 : Steps p.tables e below _ (T40.setTop (mkF m 114 #[.val (.int p1), .val (.int p2), .val (.int p3), .unset, .unset] [(.ref b2)])) := pre39.trans (st40 _ (Steps.refl _))
  obtain ⟨lc41, X41, N41⟩ : ∃ lc : List Loc, Stand p l e room_1 s m #[(.int p1), (.int p2), (.int p3)] below meth c T40 lc 1 42 ∧ Fr n0 lc := ⟨_, X40, N40⟩
  have pre42 : Steps p.tables e below _ (T40.setTop (mkF m 120 #[.val (.int p1), .val (.int p2), .val (.int p3), .unset, .unset] [(.int (879 : Int32)), (.int (18 : Int32)), (.ref b2), (.ref b2)])) := pre40.trans (by
    show Steps p.tables e below (T40.setTop (mkF m 114 #[.val (.int p1), .val (.int p2), .val (.int p3), .unset, .unset] [(.ref b2)])) _
    refine XS.dup X41.here hx rfl (hb hby at_114) rfl rfl ?_
    show Steps p.tables e below (T40.setTop (mkF m 115 #[.val (.int p1), .val (.int p2), .val (.int p3), .unset, .unset] [(.ref b2), (.ref b2)])) _
    refine XS.bipush X41.here hx rfl (hb hby at_115) ?_
    show Steps p.tables e below (T40.setTop (mkF m 117 #[.val (.int p1), .val (.int p2), .val (.int p3), .unset, .unset] [(.int (18 : Int32)), (.ref b2), (.ref b2)])) _
    refine XS.sipush X41.here hx rfl (hb hby at_117) ?_
    exact Steps.refl _)
  obtain ⟨cl43, Ar43, q43, S43, M43, H43, G43⟩ := V40
  have hin43 : ¬ ((18 : Int32) < 0 ∨ cl43.slots.size ≤ ((18 : Int32)).toNatClampNeg) := inb_of S43 ⟨by decide, by decide⟩
  obtain ⟨T43, h43, X43, e43, W43, st43⟩ := stI X41 hx hZ e40 Ar43 (j := (18 : Int32)) hin43 (g := (mkF m 120 #[.val (.int p1), .val (.int p2), .val (.int p3), .unset, .unset] [(.int (879 : Int32)), (.int (18 : Int32)), (.ref b2), (.ref b2)])) rfl rfl (hb hby at_120)
  have V43 : Arv Z h43 b2 k2 .int (42 : Int32) [(.int (45 : Int32)), (.int (46 : Int32)), (.int (48 : Int32)), (.int (57 : Int32)), (.int (58 : Int32)), (.int (65 : Int32)), (.int (90 : Int32)), (.int (95 : Int32)), (.int (97 : Int32)), (.int (122 : Int32)), (.int (183 : Int32)), (.int (192 : Int32)), (.int (214 : Int32)), (.int (216 : Int32)), (.int (246 : Int32)), (.int (248 : Int32)), (.int (767 : Int32)), (.int (768 : Int32)), (.int (879 : Int32)), (.int (0 : Int32)), (.int (0 : Int32)), (.int (0 : Int32)), (.int (0 : Int32)), (.int (0 : Int32)), (.int (0 : Int32)), (.int (0 : Int32)), (.int (0 : Int32)), (.int (0 : Int32)), (.int (0 : Int32)), (.int (0 : Int32)), (.int (0 : Int32)), (.int (0 : Int32)), (.int (0 : Int32)), (.int (0 : Int32)), (.int (0 : Int32)), (.int (0 : Int32)), (.int (0 : Int32)), (.int (0 : Int32)), (.int (0 : Int32)), (.int (0 : Int32)), (.int (0 : Int32)), (.int (0 : Int32))] (.int (0 : Int32)) := Arv.set Ar43 q43 S43 M43 H43 G43 rfl W43 18 rfl (Nat.le_of_ble_eq_true rfl)
  have N43 := Fr.snoc X43 N41 g_b2
  have Z43 : n0 ≤ h43.size := Nat.le_trans Z40 (Keep.of_wr W43).1
  have pre43 : Steps p.tables e below _ (T43.setTop (mkF m 121 #[.val (.int p1), .val (.int p2), .val (.int p3), .unset, .unset] [(.ref b2)])) := pre42.trans (st43 _ (Steps.refl _))
  have pre44 : Steps p.tables e below _ (T43.setTop (mkF m 127 #[.val (.int p1), .val (.int p2), .val (.int p3), .unset, .unset] [(.int (880 : Int32)), (.int (19 : Int32)), (.ref b2), (.ref b2)])) := pre43.trans (by
    show Steps p.tables e below (T43.setTop (mkF m 121 #[.val (.int p1), .val (.int p2), .val (.int p3), .unset, .unset] [(.ref b2)])) _
    refine XS.dup X43.here hx rfl (hb hby at_121) rfl rfl ?_
    show Steps p.tables e below (T43.setTop (mkF m 122 #[.val (.int p1), .val (.int p2), .val (.int p3), .unset, .unset] [(.ref b2), (.ref b2)])) _
    refine XS.bipush X43.here hx rfl (hb hby at_122) ?_
    show Steps p.tables e below (T43.setTop (mkF m 124 #[.val (.int p1), .val (.int p2), .val (.int p3), .unset, .unset] [(.int (19 : Int32)), (.ref b2), (.ref b2)])) _
    refine XS.sipush X43.here hx rfl (hb hby at_124) ?_
    exact Steps.refl _)
  obtain ⟨cl45, Ar45, q45, S45, M45, H45, G45⟩ := V43
  have hin45 : ¬ ((19 : Int32) < 0 ∨ cl45.slots.size ≤ ((19 : Int32)).toNatClampNeg) := inb_of S45 ⟨by decide, by decide⟩
  obtain ⟨T45, h45, X45, e45, W45, st45⟩ := stI X43 hx hZ e43 Ar45 (j := (19 : Int32)) hin45 (g := (mkF m 127 #[.val (.int p1), .val (.int p2), .val (.int p3), .unset, .unset] [(.int (880 : Int32)), (.int (19 : Int32)), (.ref b2), (.ref b2)])) rfl rfl (hb hby at_127)
  have V45 : Arv Z h45 b2 k2 .int (42 : Int32) [(.int (45 : Int32)), (.int (46 : Int32)), (.int (48 : Int32)), (.int (57 : Int32)), (.int (58 : Int32)), (.int (65 : Int32)), (.int (90 : Int32)), (.int (95 : Int32)), (.int (97 : Int32)), (.int (122 : Int32)), (.int (183 : Int32)), (.int (192 : Int32)), (.int (214 : Int32)), (.int (216 : Int32)), (.int (246 : Int32)), (.int (248 : Int32)), (.int (767 : Int32)), (.int (768 : Int32)), (.int (879 : Int32)), (.int (880 : Int32)), (.int (0 : Int32)), (.int (0 : Int32)), (.int (0 : Int32)), (.int (0 : Int32)), (.int (0 : Int32)), (.int (0 : Int32)), (.int (0 : Int32)), (.int (0 : Int32)), (.int (0 : Int32)), (.int (0 : Int32)), (.int (0 : Int32)), (.int (0 : Int32)), (.int (0 : Int32)), (.int (0 : Int32)), (.int (0 : Int32)), (.int (0 : Int32)), (.int (0 : Int32)), (.int (0 : Int32)), (.int (0 : Int32)), (.int (0 : Int32)), (.int (0 : Int32)), (.int (0 : Int32))] (.int (0 : Int32)) := Arv.set Ar45 q45 S45 M45 H45 G45 rfl W45 19 rfl (Nat.le_of_ble_eq_true rfl)
  have N45 := Fr.snoc X45 N43 g_b2
  have Z45 : n0 ≤ h45.size := Nat.le_trans Z43 (Keep.of_wr W45).1
  have pre45 : Steps p.tables e below _ (T45.setTop (mkF m 128 #[.val (.int p1), .val (.int p2), .val (.int p3), .unset, .unset] [(.ref b2)])) := pre44.trans (st45 _ (Steps.refl _))
  have pre46 : Steps p.tables e below _ (T45.setTop (mkF m 134 #[.val (.int p1), .val (.int p2), .val (.int p3), .unset, .unset] [(.int (893 : Int32)), (.int (20 : Int32)), (.ref b2), (.ref b2)])) := pre45.trans (by
    show Steps p.tables e below (T45.setTop (mkF m 128 #[.val (.int p1), .val (.int p2), .val (.int p3), .unset, .unset] [(.ref b2)])) _
    refine XS.dup X45.here hx rfl (hb hby at_128) rfl rfl ?_
    show Steps p.tables e below (T45.setTop (mkF m 129 #[.val (.int p1), .val (.int p2), .val (.int p3), .unset, .unset] [(.ref b2), (.ref b2)])) _
    refine XS.bipush X45.here hx rfl (hb hby at_129) ?_
    show Steps p.tables e below (T45.setTop (mkF m 131 #[.val (.int p1), .val (.int p2), .val (.int p3), .unset, .unset] [(.int (20 : Int32)), (.ref b2), (.ref b2)])) _
    refine XS.sipush X45.here hx rfl (hb hby at_131) ?_
    exact Steps.refl _)
  obtain ⟨cl47, Ar47, q47, S47, M47, H47, G47⟩ := V45
  have hin47 : ¬ ((20 : Int32) < 0 ∨ cl47.slots.size ≤ ((20 : Int32)).toNatClampNeg) := inb_of S47 ⟨by decide, by decide⟩
  obtain ⟨T47, h47, X47, e47, W47, st47⟩ := stI X45 hx hZ e45 Ar47 (j := (20 : Int32)) hin47 (g := (mkF m 134 #[.val (.int p1), .val (.int p2), .val (.int p3), .unset, .unset] [(.int (893 : Int32)), (.int (20 : Int32)), (.ref b2), (.ref b2)])) rfl rfl (hb hby at_134)
  have V47 : Arv Z h47 b2 k2 .int (42 : Int32) [(.int (45 : Int32)), (.int (46 : Int32)), (.int (48 : Int32)), (.int (57 : Int32)), (.int (58 : Int32)), (.int (65 : Int32)), (.int (90 : Int32)), (.int (95 : Int32)), (.int (97 : Int32)), (.int (122 : Int32)), (.int (183 : Int32)), (.int (192 : Int32)), (.int (214 : Int32)), (.int (216 : Int32)), (.int (246 : Int32)), (.int (248 : Int32)), (.int (767 : Int32)), (.int (768 : Int32)), (.int (879 : Int32)), (.int (880 : Int32)), (.int (893 : Int32)), (.int (0 : Int32)), (.int (0 : Int32)), (.int (0 : Int32)), (.int (0 : Int32)), (.int (0 : Int32)), (.int (0 : Int32)), (.int (0 : Int32)), (.int (0 : Int32)), (.int (0 : Int32)), (.int (0 : Int32)), (.int (0 : Int32)), (.int (0 : Int32)), (.int (0 : Int32)), (.int (0 : Int32)), (.int (0 : Int32)), (.int (0 : Int32)), (.int (0 : Int32)), (.int (0 : Int32)), (.int (0 : Int32)), (.int (0 : Int32)), (.int (0 : Int32))] (.int (0 : Int32)) := Arv.set Ar47 q47 S47 M47 H47 G47 rfl W47 20 rfl (Nat.le_of_ble_eq_true rfl)
  have N47 := Fr.snoc X47 N45 g_b2
  have Z47 : n0 ≤ h47.size := Nat.le_trans Z45 (Keep.of_wr W47).1
  have pre47 : Steps p.tables e below _ (T47.setTop (mkF m 135 #[.val (.int p1), .val (.int p2), .val (.int p3), .unset, .unset] [(.ref b2)])) := pre46.trans (st47 _ (Steps.refl _))
  have pre48 : Steps p.tables e below _ (T47.setTop (mkF m 141 #[.val (.int p1), .val (.int p2), .val (.int p3), .unset, .unset] [(.int (895 : Int32)), (.int (21 : Int32)), (.ref b2), (.ref b2)])) := pre47.trans (by
    show Steps p.tables e below (T47.setTop (mkF m 135 #[.val (.int p1), .val (.int p2), .val (.int p3), .unset, .unset] [(.ref b2)])) _
    refine XS.dup X47.here hx rfl (hb hby at_135) rfl rfl ?_
    show Steps p.tables e below (T47.setTop (mkF m 136 #[.val (.int p1), .val (.int p2), .val (.int p3), .unset, .unset] [(.ref b2), (.ref b2)])) _
    refine XS.bipush X47.here hx rfl (hb hby at_136) ?_
    show Steps p.tables e below (T47.setTop (mkF m 138 #[.val (.int p1), .val (.int p2), .val (.int p3), .unset, .unset] [(.int (21 : Int32)), (.ref b2), (.ref b2)])) _
    refine XS.sipush X47.here hx rfl (hb hby at_138) ?_
    exact Steps.refl _)
  obtain ⟨cl49, Ar49, q49, S49, M49, H49, G49⟩ := V47
  have hin49 : ¬ ((21 : Int32) < 0 ∨ cl49.slots.size ≤ ((21 : Int32)).toNatClampNeg) := inb_of S49 ⟨by decide, by decide⟩
  obtain ⟨T49, h49, X49, e49, W49, st49⟩ := stI X47 hx hZ e47 Ar49 (j := (21 : Int32)) hin49 (g := (mkF m 141 #[.val (.int p1), .val (.int p2), .val (.int p3), .unset, .unset] [(.int (895 : Int32)), (.int (21 : Int32)), (.ref b2), (.ref b2)])) rfl rfl (hb hby at_141)
  have V49 : Arv Z h49 b2 k2 .int (42 : Int32) [(.int (45 : Int32)), (.int (46 : Int32)), (.int (48 : Int32)), (.int (57 : Int32)), (.int (58 : Int32)), (.int (65 : Int32)), (.int (90 : Int32)), (.int (95 : Int32)), (.int (97 : Int32)), (.int (122 : Int32)), (.int (183 : Int32)), (.int (192 : Int32)), (.int (214 : Int32)), (.int (216 : Int32)), (.int (246 : Int32)), (.int (248 : Int32)), (.int (767 : Int32)), (.int (768 : Int32)), (.int (879 : Int32)), (.int (880 : Int32)), (.int (893 : Int32)), (.int (895 : Int32)), (.int (0 : Int32)), (.int (0 : Int32)), (.int (0 : Int32)), (.int (0 : Int32)), (.int (0 : Int32)), (.int (0 : Int32)), (.int (0 : Int32)), (.int (0 : Int32)), (.int (0 : Int32)), (.int (0 : Int32)), (.int (0 : Int32)), (.int (0 : Int32)), (.int (0 : Int32)), (.int (0 : Int32)), (.int (0 : Int32)), (.int (0 : Int32)), (.int (0 : Int32)), (.int (0 : Int32)), (.int (0 : Int32)), (.int (0 : Int32))] (.int (0 : Int32)) := Arv.set Ar49 q49 S49 M49 H49 G49 rfl W49 21 rfl (Nat.le_of_ble_eq_true rfl)
  have N49 := Fr.snoc X49 N47 g_b2
  have Z49 : n0 ≤ h49.size := Nat.le_trans Z47 (Keep.of_wr W49).1
  have pre49 : Steps p.tables e below _ (T49.setTop (mkF m 142 #[.val (.int p1), .val (.int p2), .val (.int p3), .unset, .unset] [(.ref b2)])) := pre48.trans (st49 _ (Steps.refl _))
  have pre50 : Steps p.tables e below _ (T49.setTop (mkF m 148 #[.val (.int p1), .val (.int p2), .val (.int p3), .unset, .unset] [(.int (8191 : Int32)), (.int (22 : Int32)), (.ref b2), (.ref b2)])) := pre49.trans (by
    show Steps p.tables e below (T49.setTop (mkF m 142 #[.val (.int p1), .val (.int p2), .val (.int p3), .unset, .unset] [(.ref b2)])) _
    refine XS.dup X49.here hx rfl (hb hby at_142) rfl rfl ?_
    show Steps p.tables e below (T49.setTop (mkF m 143 #[.val (.int p1), .val (.int p2), .val (.int p3), .unset, .unset] [(.ref b2), (.ref b2)])) _
    refine XS.bipush X49.here hx rfl (hb hby at_143) ?_
    show Steps p.tables e below (T49.setTop (mkF m 145 #[.val (.int p1), .val (.int p2), .val (.int p3), .unset, .unset] [(.int (22 : Int32)), (.ref b2), (.ref b2)])) _
    refine XS.sipush X49.here hx rfl (hb hby at_145) ?_
    exact Steps.refl _)
  obtain ⟨cl51, Ar51, q51, S51, M51, H51, G51⟩ := V49
  have hin51 : ¬ ((22 : Int32) < 0 ∨ cl51.slots.size ≤ ((22 : Int32)).toNatClampNeg) := inb_of S51 ⟨by decide, by decide⟩
  obtain ⟨T51, h51, X51, e51, W51, st51⟩ := stI X49 hx hZ e49 Ar51 (j := (22 : Int32)) hin51 (g := (mkF m 148 #[.val (.int p1), .val (.int p2), .val (.int p3), .unset, .unset] [(.int (8191 : Int32)), (.int (22 : Int32)), (.ref b2), (.ref b2)])) rfl rfl (hb hby at_148)
  have V51 : Arv Z h51 b2 k2 .int (42 : Int32) [(.int (45 : Int32)), (.int (46 : Int32)), (.int (48 : Int32)), (.int (57 : Int32)), (.int (58 : Int32)), (.int (65 : Int32)), (.int (90 : Int32)), (.int (95 : Int32)), (.int (97 : Int32)), (.int (122 : Int32)), (.int (183 : Int32)), (.int (192 : Int32)), (.int (214 : Int32)), (.int (216 : Int32)), (.int (246 : Int32)), (.int (248 : Int32)), (.int (767 : Int32)), (.int (768 : Int32)), (.int (879 : Int32)), (.int (880 : Int32)), (.int (893 : Int32)), (.int (895 : Int32)), (.int (8191 : Int32)), (.int (0 : Int32)), (.int (0 : Int32)), (.int (0 : Int32)), (.int (0 : Int32)), (.int (0 : Int32)), (.int (0 : Int32)), (.int (0 : Int32)), (.int (0 : Int32)), (.int (0 : Int32)), (.int (0 : Int32)), (.int (0 : Int32)), (.int (0 : Int32)), (.int (0 : Int32)), (.int (0 : Int32)), (.int (0 : Int32)), (.int (0 : Int32)), (.int (0 : Int32)), (.int (0 : Int32)), (.int (0 : Int32))] (.int (0 : Int32)) := Arv.set Ar51 q51 S51 M51 H51 G51 rfl W51 22 rfl (Nat.le_of_ble_eq_true rfl)
  have N51 := Fr.snoc X51 N49 g_b2
  have Z51 : n0 ≤ h51.size := Nat.le_trans Z49 (Keep.of_wr W51).1
  have pre51 : Steps p.tables e below _ (T51.setTop (mkF m 149 #[.val (.int p1), .val (.int p2), .val (.int p3), .unset, .unset] [(.ref b2)])) := pre50.trans (st51 _ (Steps.refl _))
  have pre52 : Steps p.tables e below _ (T51.setTop (mkF m 155 #[.val (.int p1), .val (.int p2), .val (.int p3), .unset, .unset] [(.int (8204 : Int32)), (.int (23 : Int32)), (.ref b2), (.ref b2)])) := pre51.trans (by
    show Steps p.tables e below (T51.setTop (mkF m 149 #[.val (.int p1), .val (.int p2), .val (.int p3), .unset, .unset] [(.ref b2)])) _
    refine XS.dup X51.here hx rfl (hb hby at_149) rfl rfl ?_
    show Steps p.tables e below (T51.setTop (mkF m 150 #[.val (.int p1), .val (.int p2), .val (.int p3), .unset, .unset] [(.ref b2), (.ref b2)])) _
    refine XS.bipush X51.here hx rfl (hb hby at_150) ?_
    show Steps p.tables e below (T51.setTop (mkF m 152 #[.val (.int p1), .val (.int p2), .val (.int p3), .unset, .unset] [(.int (23 : Int32)), (.ref b2), (.ref b2)])) _
    refine XS.sipush X51.here hx rfl (hb hby at_152) ?_
    exact Steps.refl _)
  obtain ⟨cl53, Ar53, q53, S53, M53, H53, G53⟩ := V51
  have hin53 : ¬ ((23 : Int32) < 0 ∨ cl53.slots.size ≤ ((23 : Int32)).toNatClampNeg) := inb_of S53 ⟨by decide, by decide⟩
  obtain ⟨T53, h53, X53, e53, W53, st53⟩ := stI X51 hx hZ e51 Ar53 (j := (23 : Int32)) hin53 (g := (mkF m 155 #[.val (.int p1), .val (.int p2), .val (.int p3), .unset, .unset] [(.int (8204 : Int32)), (.int (23 : Int32)), (.ref b2), (.ref b2)])) rfl rfl (hb hby at_155)
  have V53 : Arv Z h53 b2 k2 .int (42 : Int32) [(.int (45 : Int32)), (.int (46 : Int32)), (.int (48 : Int32)), (.int (57 : Int32)), (.int (58 : Int32)), (.int (65 : Int32)), (.int (90 : Int32)), (.int (95 : Int32)), (.int (97 : Int32)), (.int (122 : Int32)), (.int (183 : Int32)), (.int (192 : Int32)), (.int (214 : Int32)), (.int (216 : Int32)), (.int (246 : Int32)), (.int (248 : Int32)), (.int (767 : Int32)), (.int (768 : Int32)), (.int (879 : Int32)), (.int (880 : Int32)), (.int (893 : Int32)), (.int (895 : Int32)), (.int (8191 : Int32)), (.int (8204 : Int32)), (.int (0 : Int32)), (.int (0 : Int32)), (.int (0 : Int32)), (.int (0 : Int32)), (.int (0 : Int32)), (.int (0 : Int32)), (.int (0 : Int32)), (.int (0 : Int32)), (.int (0 : Int32)), (.int (0 : Int32)), (.int (0 : Int32)), (.int (0 : Int32)), (.int (0 : Int32)), (.int (0 : Int32)), (.int (0 : Int32)), (.int (0 : Int32)), (.int (0 : Int32)), (.int (0 : Int32))] (.int (0 : Int32)) := Arv.set Ar53 q53 S53 M53 H53 G53 rfl W53 23 rfl (Nat.le_of_ble_eq_true rfl)
  have N53 := Fr.snoc X53 N51 g_b2
  have Z53 : n0 ≤ h53.size := Nat.le_trans Z51 (Keep.of_wr W53).1
  have pre53 : Steps p.tables e below _ (T53.setTop (mkF m 156 #[.val (.int p1), .val (.int p2), .val (.int p3), .unset, .unset] [(.ref b2)])) := pre52.trans (st53 _ (Steps.refl _))
  obtain ⟨lc54, X54, N54⟩ : ∃ lc : List Loc, Stand p l e room_1 s m #[(.int p1), (.int p2), (.int p3)] below meth c T53 lc 1 42 ∧ Fr n0 lc := ⟨_, X53, N53⟩
  have pre55 : Steps p.tables e below _ (T53.setTop (mkF m 162 #[.val (.int p1), .val (.int p2), .val (.int p3), .unset, .unset] [(.int (8205 : Int32)), (.int (24 : Int32)), (.ref b2), (.ref b2)])) := pre53.trans (by
    show Steps p.tables e below (T53.setTop (mkF m 156 #[.val (.int p1), .val (.int p2), .val (.int p3), .unset, .unset] [(.ref b2)])) _
    refine XS.dup X54.here hx rfl (hb hby at_156) rfl rfl ?_
    show Steps p.tables e below (T53.setTop (mkF m 157 #[.val (.int p1), .val (.int p2), .val (.int p3), .unset, .unset] [(.ref b2), (.ref b2)])) _
    refine XS.bipush X54.here hx rfl (hb hby at_157) ?_
    show Steps p.tables e below (T53.setTop (mkF m 159 #[.val (.int p1), .val (.int p2), .val (.int p3), .unset, .unset] [(.int (24 : Int32)), (.ref b2), (.ref b2)])) _
    refine XS.sipush X54.here hx rfl (hb hby at_159) ?_
    exact Steps.refl _)
  obtain ⟨cl56, Ar56, q56, S56, M56, H56, G56⟩ := V53
  have hin56 : ¬ ((24 : Int32) < 0 ∨ cl56.slots.size ≤ ((24 : Int32)).toNatClampNeg) := inb_of S56 ⟨by decide, by decide⟩
  obtain ⟨T56, h56, X56, e56, W56, st56⟩ := stI X54 hx hZ e53 Ar56 (j := (24 : Int32)) hin56 (g := (mkF m 162 #[.val (.int p1), .val (.int p2), .val (.int p3), .unset, .unset] [(.int (8205 : Int32)), (.int (24 : Int32)), (.ref b2), (.ref b2)])) rfl rfl (hb hby at_162)
  have V56 : Arv Z h56 b2 k2 .int (42 : Int32) [(.int (45 : Int32)), (.int (46 : Int32)), (.int (48 : Int32)), (.int (57 : Int32)), (.int (58 : Int32)), (.int (65 : Int32)), (.int (90 : Int32)), (.int (95 : Int32)), (.int (97 : Int32)), (.int (122 : Int32)), (.int (183 : Int32)), (.int (192 : Int32)), (.int (214 : Int32)), (.int (216 : Int32)), (.int (246 : Int32)), (.int (248 : Int32)), (.int (767 : Int32)), (.int (768 : Int32)), (.int (879 : Int32)), (.int (880 : Int32)), (.int (893 : Int32)), (.int (895 : Int32)), (.int (8191 : Int32)), (.int (8204 : Int32)), (.int (8205 : Int32)), (.int (0 : Int32)), (.int (0 : Int32)), (.int (0 : Int32)), (.int (0 : Int32)), (.int (0 : Int32)), (.int (0 : Int32)), (.int (0 : Int32)), (.int (0 : Int32)), (.int (0 : Int32)), (.int (0 : Int32)), (.int (0 : Int32)), (.int (0 : Int32)), (.int (0 : Int32)), (.int (0 : Int32)), (.int (0 : Int32)), (.int (0 : Int32)), (.int (0 : Int32))] (.int (0 : Int32)) := Arv.set Ar56 q56 S56 M56 H56 G56 rfl W56 24 rfl (Nat.le_of_ble_eq_true rfl)
  have N56 := Fr.snoc X56 N54 g_b2
  have Z56 : n0 ≤ h56.size := Nat.le_trans Z53 (Keep.of_wr W56).1
  have pre56 : Steps p.tables e below _ (T56.setTop (mkF m 163 #[.val (.int p1), .val (.int p2), .val (.int p3), .unset, .unset] [(.ref b2)])) := pre55.trans (st56 _ (Steps.refl _))
  have pre57 : Steps p.tables e below _ (T56.setTop (mkF m 169 #[.val (.int p1), .val (.int p2), .val (.int p3), .unset, .unset] [(.int (8255 : Int32)), (.int (25 : Int32)), (.ref b2), (.ref b2)])) := pre56.trans (by
    show Steps p.tables e below (T56.setTop (mkF m 163 #[.val (.int p1), .val (.int p2), .val (.int p3), .unset, .unset] [(.ref b2)])) _
    refine XS.dup X56.here hx rfl (hb hby at_163) rfl rfl ?_
    show Steps p.tables e below (T56.setTop (mkF m 164 #[.val (.int p1), .val (.int p2), .val (.int p3), .unset, .unset] [(.ref b2), (.ref b2)])) _
    refine XS.bipush X56.here hx rfl (hb hby at_164) ?_
    show Steps p.tables e below (T56.setTop (mkF m 166 #[.val (.int p1), .val (.int p2), .val (.int p3), .unset, .unset] [(.int (25 : Int32)), (.ref b2), (.ref b2)])) _
    refine XS.sipush X56.here hx rfl (hb hby at_166) ?_
    exact Steps.refl _)
  obtain ⟨cl58, Ar58, q58, S58, M58, H58, G58⟩ := V56
  have hin58 : ¬ ((25 : Int32) < 0 ∨ cl58.slots.size ≤ ((25 : Int32)).toNatClampNeg) := inb_of S58 ⟨by decide, by decide⟩
  obtain ⟨T58, h58, X58, e58, W58, st58⟩ := stI X56 hx hZ e56 Ar58 (j := (25 : Int32)) hin58 (g := (mkF m 169 #[.val (.int p1), .val (.int p2), .val (.int p3), .unset, .unset] [(.int (8255 : Int32)), (.int (25 : Int32)), (.ref b2), (.ref b2)])) rfl rfl (hb hby at_169)
  have V58 : Arv Z h58 b2 k2 .int (42 : Int32) [(.int (45 : Int32)), (.int (46 : Int32)), (.int (48 : Int32)), (.int (57 : Int32)), (.int (58 : Int32)), (.int (65 : Int32)), (.int (90 : Int32)), (.int (95 : Int32)), (.int (97 : Int32)), (.int (122 : Int32)), (.int (183 : Int32)), (.int (192 : Int32)), (.int (214 : Int32)), (.int (216 : Int32)), (.int (246 : Int32)), (.int (248 : Int32)), (.int (767 : Int32)), (.int (768 : Int32)), (.int (879 : Int32)), (.int (880 : Int32)), (.int (893 : Int32)), (.int (895 : Int32)), (.int (8191 : Int32)), (.int (8204 : Int32)), (.int (8205 : Int32)), (.int (8255 : Int32)), (.int (0 : Int32)), (.int (0 : Int32)), (.int (0 : Int32)), (.int (0 : Int32)), (.int (0 : Int32)), (.int (0 : Int32)), (.int (0 : Int32)), (.int (0 : Int32)), (.int (0 : Int32)), (.int (0 : Int32)), (.int (0 : Int32)), (.int (0 : Int32)), (.int (0 : Int32)), (.int (0 : Int32)), (.int (0 : Int32)), (.int (0 : Int32))] (.int (0 : Int32)) := Arv.set Ar58 q58 S58 M58 H58 G58 rfl W58 25 rfl (Nat.le_of_ble_eq_true rfl)
  have N58 := Fr.snoc X58 N56 g_b2
  have Z58 : n0 ≤ h58.size := Nat.le_trans Z56 (Keep.of_wr W58).1
  have pre58 : Steps p.tables e below _ (T58.setTop (mkF m 170 #[.val (.int p1), .val (.int p2), .val (.int p3), .unset, .unset] [(.ref b2)])) := pre57.trans (st58 _ (Steps.refl _))
  have pre59 : Steps p.tables e below _ (T58.setTop (mkF m 176 #[.val (.int p1), .val (.int p2), .val (.int p3), .unset, .unset] [(.int (8256 : Int32)), (.int (26 : Int32)), (.ref b2), (.ref b2)])) := pre58.trans (by
    show Steps p.tables e below (T58.setTop (mkF m 170 #[.val (.int p1), .val (.int p2), .val (.int p3), .unset, .unset] [(.ref b2)])) _
    refine XS.dup X58.here hx rfl (hb hby at_170) rfl rfl ?_
    show Steps p.tables e below (T58.setTop (mkF m 171 #[.val (.int p1), .val (.int p2), .val (.int p3), .unset, .unset] [(.ref b2), (.ref b2)])) _
    refine XS.bipush X58.here hx rfl (hb hby at_171) ?_
    show Steps p.tables e below (T58.setTop (mkF m 173 #[.val (.int p1), .val (.int p2), .val (.int p3), .unset, .unset] [(.int (26 : Int32)), (.ref b2), (.ref b2)])) _
    refine XS.sipush X58.here hx rfl (hb hby at_173) ?_
    exact Steps.refl _)
  obtain ⟨cl60, Ar60, q60, S60, M60, H60, G60⟩ := V58
  have hin60 : ¬ ((26 : Int32) < 0 ∨ cl60.slots.size ≤ ((26 : Int32)).toNatClampNeg) := inb_of S60 ⟨by decide, by decide⟩
  obtain ⟨T60, h60, X60, e60, W60, st60⟩ := stI X58 hx hZ e58 Ar60 (j := (26 : Int32)) hin60 (g := (mkF m 176 #[.val (.int p1), .val (.int p2), .val (.int p3), .unset, .unset] [(.int (8256 : Int32)), (.int (26 : Int32)), (.ref b2), (.ref b2)])) rfl rfl (hb hby at_176)
  have V60 : Arv Z h60 b2 k2 .int (42 : Int32) [(.int (45 : Int32)), (.int (46 : Int32)), (.int (48 : Int32)), (.int (57 : Int32)), (.int (58 : Int32)), (.int (65 : Int32)), (.int (90 : Int32)), (.int (95 : Int32)), (.int (97 : Int32)), (.int (122 : Int32)), (.int (183 : Int32)), (.int (192 : Int32)), (.int (214 : Int32)), (.int (216 : Int32)), (.int (246 : Int32)), (.int (248 : Int32)), (.int (767 : Int32)), (.int (768 : Int32)), (.int (879 : Int32)), (.int (880 : Int32)), (.int (893 : Int32)), (.int (895 : Int32)), (.int (8191 : Int32)), (.int (8204 : Int32)), (.int (8205 : Int32)), (.int (8255 : Int32)), (.int (8256 : Int32)), (.int (0 : Int32)), (.int (0 : Int32)), (.int (0 : Int32)), (.int (0 : Int32)), (.int (0 : Int32)), (.int (0 : Int32)), (.int (0 : Int32)), (.int (0 : Int32)), (.int (0 : Int32)), (.int (0 : Int32)), (.int (0 : Int32)), (.int (0 : Int32)), (.int (0 : Int32)), (.int (0 : Int32)), (.int (0 : Int32))] (.int (0 : Int32)) := Arv.set Ar60 q60 S60 M60 H60 G60 rfl W60 26 rfl (Nat.le_of_ble_eq_true rfl)
  have N60 := Fr.snoc X60 N58 g_b2
  have Z60 : n0 ≤ h60.size := Nat.le_trans Z58 (Keep.of_wr W60).1
  have pre60 : Steps p.tables e below _ (T60.setTop (mkF m 177 #[.val (.int p1), .val (.int p2), .val (.int p3), .unset, .unset] [(.ref b2)])) := pre59.trans (st60 _ (Steps.refl _))
  have pre61 : Steps p.tables e below _ (T60.setTop (mkF m 183 #[.val (.int p1), .val (.int p2), .val (.int p3), .unset, .unset] [(.int (8304 : Int32)), (.int (27 : Int32)), (.ref b2), (.ref b2)])) := pre60.trans (by
    show Steps p.tables e below (T60.setTop (mkF m 177 #[.val (.int p1), .val (.int p2), .val (.int p3), .unset, .unset] [(.ref b2)])) _
    refine XS.dup X60.here hx rfl (hb hby at_177) rfl rfl ?_
    show Steps p.tables e below (T60.setTop (mkF m 178 #[.val (.int p1), .val (.int p2), .val (.int p3), .unset, .unset] [(.ref b2), (.ref b2)])) _
    refine XS.bipush X60.here hx rfl (hb hby at_178) ?_
    show Steps p.tables e below (T60.setTop (mkF m 180 #[.val (.int p1), .val (.int p2), .val (.int p3), .unset, .unset] [(.int (27 : Int32)), (.ref b2), (.ref b2)])) _
    refine XS.sipush X60.here hx rfl (hb hby at_180) ?_
    exact Steps.refl _)
  obtain ⟨cl62, Ar62, q62, S62, M62, H62, G62⟩ := V60
  have hin62 : ¬ ((27 : Int32) < 0 ∨ cl62.slots.size ≤ ((27 : Int32)).toNatClampNeg) := inb_of S62 ⟨by decide, by decide⟩
  obtain ⟨T62, h62, X62, e62, W62, st62⟩ := stI X60 hx hZ e60 Ar62 (j := (27 : Int32)) hin62 (g := (mkF m 183 #[.val (.int p1), .val (.int p2), .val (.int p3), .unset, .unset] [(.int (8304 : Int32)), (.int (27 : Int32)), (.ref b2), (.ref b2)])) rfl rfl (hb hby at_183)
  have V62 : Arv Z h62 b2 k2 .int (42 : Int32) [(.int (45 : Int32)), (.int (46 : Int32)), (.int (48 : Int32)), (.int (57 : Int32)), (.int (58 : Int32)), (.int (65 : Int32)), (.int (90 : Int32)), (.int (95 : Int32)), (.int (97 : Int32)), (.int (122 : Int32)), (.int (183 : Int32)), (.int (192 : Int32)), (.int (214 : Int32)), (.int (216 : Int32)), (.int (246 : Int32)), (.int (248 : Int32)), (.int (767 : Int32)), (.int (768 : Int32)), (.int (879 : Int32)), (.int (880 : Int32)), (.int (893 : Int32)), (.int (895 : Int32)), (.int (8191 : Int32)), (.int (8204 : Int32)), (.int (8205 : Int32)), (.int (8255 : Int32)), (.int (8256 : Int32)), (.int (8304 : Int32)), (.int (0 : Int32)), (.int (0 : Int32)), (.int (0 : Int32)), (.int (0 : Int32)), (.int (0 : Int32)), (.int (0 : Int32)), (.int (0 : Int32)), (.int (0 : Int32)), (.int (0 : Int32)), (.int (0 : Int32)), (.int (0 : Int32)), (.int (0 : Int32)), (.int (0 : Int32)), (.int (0 : Int32))] (.int (0 : Int32)) := Arv.set Ar62 q62 S62 M62 H62 G62 rfl W62 27 rfl (Nat.le_of_ble_eq_true rfl)
  have N62 := Fr.snoc X62 N60 g_b2
  have Z62 : n0 ≤ h62.size := Nat.le_trans Z60 (Keep.of_wr W62).1
  have pre62 : Steps p.tables e below _ (T62.setTop (mkF m 184 #[.val (.int p1), .val (.int p2), .val (.int p3), .unset, .unset] [(.ref b2)])) := pre61.trans (st62 _ (Steps.refl _))
  have pre63 : Steps p.tables e below _ (T62.setTop (mkF m 190 #[.val (.int p1), .val (.int p2), .val (.int p3), .unset, .unset] [(.int (8591 : Int32)), (.int (28 : Int32)), (.ref b2), (.ref b2)])) := pre62.trans (by
    show Steps p.tables e below (T62.setTop (mkF m 184 #[.val (.int p1), .val (.int p2), .val (.int p3), .unset, .unset] [(.ref b2)])) _
    refine XS.dup X62.here hx rfl (hb hby at_184) rfl rfl ?_
    show Steps p.tables e below (T62.setTop (mkF m 185 #[.val (.int p1), .val (.int p2), .val (.int p3), .unset, .unset] [(.ref b2), (.ref b2)])) _
    refine XS.bipush X62.here hx rfl (hb hby at_185) ?_
    show Steps p.tables e below (T62.setTop (mkF m 187 #[.val (.int p1), .val (.int p2), .val (.int p3), .unset, .unset] [(.int (28 : Int32)), (.ref b2), (.ref b2)])) _
    refine XS.sipush X62.here hx rfl (hb hby at_187) ?_
    exact Steps.refl _)
  obtain ⟨cl64, Ar64, q64, S64, M64, H64, G64⟩ := V62
  have hin64 : ¬ ((28 : Int32) < 0 ∨ cl64.slots.size ≤ ((28 : Int32)).toNatClampNeg) := inb_of S64 ⟨by decide, by decide⟩
  obtain ⟨T64, h64, X64, e64, W64, st64⟩ := stI X62 hx hZ e62 Ar64 (j := (28 : Int32)) hin64 (g := (mkF m 190 #[.val (.int p1), .val (.int p2), .val (.int p3), .unset, .unset] [(.int (8591 : Int32)), (.int (28 : Int32)), (.ref b2), (.ref b2)])) rfl rfl (hb hby at_190)
  have V64 : Arv Z h64 b2 k2 .int (42 : Int32) [(.int (45 : Int32)), (.int (46 : Int32)), (.int (48 : Int32)), (.int (57 : Int32)), (.int (58 : Int32)), (.int (65 : Int32)), (.int (90 : Int32)), (.int (95 : Int32)), (.int (97 : Int32)), (.int (122 : Int32)), (.int (183 : Int32)), (.int (192 : Int32)), (.int (214 : Int32)), (.int (216 : Int32)), (.int (246 : Int32)), (.int (248 : Int32)), (.int (767 : Int32)), (.int (768 : Int32)), (.int (879 : Int32)), (.int (880 : Int32)), (.int (893 : Int32)), (.int (895 : Int32)), (.int (8191 : Int32)), (.int (8204 : Int32)), (.int (8205 : Int32)), (.int (8255 : Int32)), (.int (8256 : Int32)), (.int (8304 : Int32)), (.int (8591 : Int32)), (.int (0 : Int32)), (.int (0 : Int32)), (.int (0 : Int32)), (.int (0 : Int32)), (.int (0 : Int32)), (.int (0 : Int32)), (.int (0 : Int32)), (.int (0 : Int32)), (.int (0 : Int32)), (.int (0 : Int32)), (.int (0 : Int32)), (.int (0 : Int32)), (.int (0 : Int32))] (.int (0 : Int32)) := Arv.set Ar64 q64 S64 M64 H64 G64 rfl W64 28 rfl (Nat.le_of_ble_eq_true rfl)
  have N64 := Fr.snoc X64 N62 g_b2
  have Z64 : n0 ≤ h64.size := Nat.le_trans Z62 (Keep.of_wr W64).1
  have pre64 : Steps p.tables e below _ (T64.setTop (mkF m 191 #[.val (.int p1), .val (.int p2), .val (.int p3), .unset, .unset] [(.ref b2)])) := pre63.trans (st64 _ (Steps.refl _))
  have pre65 : Steps p.tables e below _ (T64.setTop (mkF m 197 #[.val (.int p1), .val (.int p2), .val (.int p3), .unset, .unset] [(.int (11264 : Int32)), (.int (29 : Int32)), (.ref b2), (.ref b2)])) := pre64.trans (by
    show Steps p.tables e below (T64.setTop (mkF m 191 #[.val (.int p1), .val (.int p2), .val (.int p3), .unset, .unset] [(.ref b2)])) _
    refine XS.dup X64.here hx rfl (hb hby at_191) rfl rfl ?_
    show Steps p.tables e below (T64.setTop (mkF m 192 #[.val (.int p1), .val (.int p2), .val (.int p3), .unset, .unset] [(.ref b2), (.ref b2)])) _
    refine XS.bipush X64.here hx rfl (hb hby at_192) ?_
    show Steps p.tables e below (T64.setTop (mkF m 194 #[.val (.int p1), .val (.int p2), .val (.int p3), .unset, .unset] [(.int (29 : Int32)), (.ref b2), (.ref b2)])) _
    refine XS.sipush X64.here hx rfl (hb hby at_194) ?_
    exact Steps.refl _)
  obtain ⟨cl66, Ar66, q66, S66, M66, H66, G66⟩ := V64
  have hin66 : ¬ ((29 : Int32) < 0 ∨ cl66.slots.size ≤ ((29 : Int32)).toNatClampNeg) := inb_of S66 ⟨by decide, by decide⟩
  obtain ⟨T66, h66, X66, e66, W66, st66⟩ := stI X64 hx hZ e64 Ar66 (j := (29 : Int32)) hin66 (g := (mkF m 197 #[.val (.int p1), .val (.int p2), .val (.int p3), .unset, .unset] [(.int (11264 : Int32)), (.int (29 : Int32)), (.ref b2), (.ref b2)])) rfl rfl (hb hby at_197)
  have V66 : Arv Z h66 b2 k2 .int (42 : Int32) [(.int (45 : Int32)), (.int (46 : Int32)), (.int (48 : Int32)), (.int (57 : Int32)), (.int (58 : Int32)), (.int (65 : Int32)), (.int (90 : Int32)), (.int (95 : Int32)), (.int (97 : Int32)), (.int (122 : Int32)), (.int (183 : Int32)), (.int (192 : Int32)), (.int (214 : Int32)), (.int (216 : Int32)), (.int (246 : Int32)), (.int (248 : Int32)), (.int (767 : Int32)), (.int (768 : Int32)), (.int (879 : Int32)), (.int (880 : Int32)), (.int (893 : Int32)), (.int (895 : Int32)), (.int (8191 : Int32)), (.int (8204 : Int32)), (.int (8205 : Int32)), (.int (8255 : Int32)), (.int (8256 : Int32)), (.int (8304 : Int32)), (.int (8591 : Int32)), (.int (11264 : Int32)), (.int (0 : Int32)), (.int (0 : Int32)), (.int (0 : Int32)), (.int (0 : Int32)), (.int (0 : Int32)), (.int (0 : Int32)), (.int (0 : Int32)), (.int (0 : Int32)), (.int (0 : Int32)), (.int (0 : Int32)), (.int (0 : Int32)), (.int (0 : Int32))] (.int (0 : Int32)) := Arv.set Ar66 q66 S66 M66 H66 G66 rfl W66 29 rfl (Nat.le_of_ble_eq_true rfl)
  have N66 := Fr.snoc X66 N64 g_b2
  have Z66 : n0 ≤ h66.size := Nat.le_trans Z64 (Keep.of_wr W66).1
  have pre66 : Steps p.tables e below _ (T66.setTop (mkF m 198 #[.val (.int p1), .val (.int p2), .val (.int p3), .unset, .unset] [(.ref b2)])) := pre65.trans (st66 _ (Steps.refl _))
  obtain ⟨lc67, X67, N67⟩ : ∃ lc : List Loc, Stand p l e room_1 s m #[(.int p1), (.int p2), (.int p3)] below meth c T66 lc 1 42 ∧ Fr n0 lc := ⟨_, X66, N66⟩
  have pre68 : Steps p.tables e below _ (T66.setTop (mkF m 204 #[.val (.int p1), .val (.int p2), .val (.int p3), .unset, .unset] [(.int (12271 : Int32)), (.int (30 : Int32)), (.ref b2), (.ref b2)])) := pre66.trans (by
    show Steps p.tables e below (T66.setTop (mkF m 198 #[.val (.int p1), .val (.int p2), .val (.int p3), .unset, .unset] [(.ref b2)])) _
    refine XS.dup X67.here hx rfl (hb hby at_198) rfl rfl ?_
    show Steps p.tables e below (T66.setTop (mkF m 199 #[.val (.int p1), .val (.int p2), .val (.int p3), .unset, .unset] [(.ref b2), (.ref b2)])) _
    refine XS.bipush X67.here hx rfl (hb hby at_199) ?_
    show Steps p.tables e below (T66.setTop (mkF m 201 #[.val (.int p1), .val (.int p2), .val (.int p3), .unset, .unset] [(.int (30 : Int32)), (.ref b2), (.ref b2)])) _
    refine XS.sipush X67.here hx rfl (hb hby at_201) ?_
    exact Steps.refl _)
  obtain ⟨cl69, Ar69, q69, S69, M69, H69, G69⟩ := V66
  have hin69 : ¬ ((30 : Int32) < 0 ∨ cl69.slots.size ≤ ((30 : Int32)).toNatClampNeg) := inb_of S69 ⟨by decide, by decide⟩
  obtain ⟨T69, h69, X69, e69, W69, st69⟩ := stI X67 hx hZ e66 Ar69 (j := (30 : Int32)) hin69 (g := (mkF m 204 #[.val (.int p1), .val (.int p2), .val (.int p3), .unset, .unset] [(.int (12271 : Int32)), (.int (30 : Int32)), (.ref b2), (.ref b2)])) rfl rfl (hb hby at_204)
  have V69 : Arv Z h69 b2 k2 .int (42 : Int32) [(.int (45 : Int32)), (.int (46 : Int32)), (.int (48 : Int32)), (.int (57 : Int32)), (.int (58 : Int32)), (.int (65 : Int32)), (.int (90 : Int32)), (.int (95 : Int32)), (.int (97 : Int32)), (.int (122 : Int32)), (.int (183 : Int32)), (.int (192 : Int32)), (.int (214 : Int32)), (.int (216 : Int32)), (.int (246 : Int32)), (.int (248 : Int32)), (.int (767 : Int32)), (.int (768 : Int32)), (.int (879 : Int32)), (.int (880 : Int32)), (.int (893 : Int32)), (.int (895 : Int32)), (.int (8191 : Int32)), (.int (8204 : Int32)), (.int (8205 : Int32)), (.int (8255 : Int32)), (.int (8256 : Int32)), (.int (8304 : Int32)), (.int (8591 : Int32)), (.int (11264 : Int32)), (.int (12271 : Int32)), (.int (0 : Int32)), (.int (0 : Int32)), (.int (0 : Int32)), (.int (0 : Int32)), (.int (0 : Int32)), (.int (0 : Int32)), (.int (0 : Int32)), (.int (0 : Int32)), (.int (0 : Int32)), (.int (0 : Int32)), (.int (0 : Int32))] (.int (0 : Int32)) := Arv.set Ar69 q69 S69 M69 H69 G69 rfl W69 30 rfl (Nat.le_of_ble_eq_true rfl)
  have N69 := Fr.snoc X69 N67 g_b2
  have Z69 : n0 ≤ h69.size := Nat.le_trans Z66 (Keep.of_wr W69).1
  have pre69 : Steps p.tables e below _ (T69.setTop (mkF m 205 #[.val (.int p1), .val (.int p2), .val (.int p3), .unset, .unset] [(.ref b2)])) := pre68.trans (st69 _ (Steps.refl _))
  have pre70 : Steps p.tables e below _ (T69.setTop (mkF m 211 #[.val (.int p1), .val (.int p2), .val (.int p3), .unset, .unset] [(.int (12289 : Int32)), (.int (31 : Int32)), (.ref b2), (.ref b2)])) := pre69.trans (by
    show Steps p.tables e below (T69.setTop (mkF m 205 #[.val (.int p1), .val (.int p2), .val (.int p3), .unset, .unset] [(.ref b2)])) _
    refine XS.dup X69.here hx rfl (hb hby at_205) rfl rfl ?_
    show Steps p.tables e below (T69.setTop (mkF m 206 #[.val (.int p1), .val (.int p2), .val (.int p3), .unset, .unset] [(.ref b2), (.ref b2)])) _
    refine XS.bipush X69.here hx rfl (hb hby at_206) ?_
    show Steps p.tables e below (T69.setTop (mkF m 208 #[.val (.int p1), .val (.int p2), .val (.int p3), .unset, .unset] [(.int (31 : Int32)), (.ref b2), (.ref b2)])) _
    refine XS.sipush X69.here hx rfl (hb hby at_208) ?_
    exact Steps.refl _)
  obtain ⟨cl71, Ar71, q71, S71, M71, H71, G71⟩ := V69
  have hin71 : ¬ ((31 : Int32) < 0 ∨ cl71.slots.size ≤ ((31 : Int32)).toNatClampNeg) := inb_of S71 ⟨by decide, by decide⟩
  obtain ⟨T71, h71, X71, e71, W71, st71⟩ := stI X69 hx hZ e69 Ar71 (j := (31 : Int32)) hin71 (g := (mkF m 211 #[.val (.int p1), .val (.int p2), .val (.int p3), .unset, .unset] [(.int (12289 : Int32)), (.int (31 : Int32)), (.ref b2), (.ref b2)])) rfl rfl (hb hby at_211)
  have V71 : Arv Z h71 b2 k2 .int (42 : Int32) [(.int (45 : Int32)), (.int (46 : Int32)), (.int (48 : Int32)), (.int (57 : Int32)), (.int (58 : Int32)), (.int (65 : Int32)), (.int (90 : Int32)), (.int (95 : Int32)), (.int (97 : Int32)), (.int (122 : Int32)), (.int (183 : Int32)), (.int (192 : Int32)), (.int (214 : Int32)), (.int (216 : Int32)), (.int (246 : Int32)), (.int (248 : Int32)), (.int (767 : Int32)), (.int (768 : Int32)), (.int (879 : Int32)), (.int (880 : Int32)), (.int (893 : Int32)), (.int (895 : Int32)), (.int (8191 : Int32)), (.int (8204 : Int32)), (.int (8205 : Int32)), (.int (8255 : Int32)), (.int (8256 : Int32)), (.int (8304 : Int32)), (.int (8591 : Int32)), (.int (11264 : Int32)), (.int (12271 : Int32)), (.int (12289 : Int32)), (.int (0 : Int32)), (.int (0 : Int32)), (.int (0 : Int32)), (.int (0 : Int32)), (.int (0 : Int32)), (.int (0 : Int32)), (.int (0 : Int32)), (.int (0 : Int32)), (.int (0 : Int32)), (.int (0 : Int32))] (.int (0 : Int32)) := Arv.set Ar71 q71 S71 M71 H71 G71 rfl W71 31 rfl (Nat.le_of_ble_eq_true rfl)
  have N71 := Fr.snoc X71 N69 g_b2
  have Z71 : n0 ≤ h71.size := Nat.le_trans Z69 (Keep.of_wr W71).1
  have pre71 : Steps p.tables e below _ (T71.setTop (mkF m 212 #[.val (.int p1), .val (.int p2), .val (.int p3), .unset, .unset] [(.ref b2)])) := pre70.trans (st71 _ (Steps.refl _))
  have pre72 : Steps p.tables e below _ (T71.setTop (mkF m 217 #[.val (.int p1), .val (.int p2), .val (.int p3), .unset, .unset] [(.int (55295 : Int32)), (.int (32 : Int32)), (.ref b2), (.ref b2)])) := pre71.trans (by
    show Steps p.tables e below (T71.setTop (mkF m 212 #[.val (.int p1), .val (.int p2), .val (.int p3), .unset, .unset] [(.ref b2)])) _
    refine XS.dup X71.here hx rfl (hb hby at_212) rfl rfl ?_
    show Steps p.tables e below (T71.setTop (mkF m 213 #[.val (.int p1), .val (.int p2), .val (.int p3), .unset, .unset] [(.ref b2), (.ref b2)])) _
    refine XS.bipush X71.here hx rfl (hb hby at_213) ?_
    show Steps p.tables e below (T71.setTop (mkF m 215 #[.val (.int p1), .val (.int p2), .val (.int p3), .unset, .unset] [(.int (32 : Int32)), (.ref b2), (.ref b2)])) _
    refine X71.ldcInt hx hown (mvT hZ (hw _ (List.mem_of_getElem? (i := 1) rfl))) (g := (mkF m 215 #[.val (.int p1), .val (.int p2), .val (.int p3), .unset, .unset] [(.int (32 : Int32)), (.ref b2), (.ref b2)])) rfl (hb hby at_215) _ ?_
    exact Steps.refl _)
  obtain ⟨cl73, Ar73, q73, S73, M73, H73, G73⟩ := V71
  have hin73 : ¬ ((32 : Int32) < 0 ∨ cl73.slots.size ≤ ((32 : Int32)).toNatClampNeg) := inb_of S73 ⟨by decide, by decide⟩
  obtain ⟨T73, h73, X73, e73, W73, st73⟩ := stI X71 hx hZ e71 Ar73 (j := (32 : Int32)) hin73 (g := (mkF m 217 #[.val (.int p1), .val (.int p2), .val (.int p3), .unset, .unset] [(.int (55295 : Int32)), (.int (32 : Int32)), (.ref b2), (.ref b2)])) rfl rfl (hb hby at_217)
  have V73 : Arv Z h73 b2 k2 .int (42 : Int32) [(.int (45 : Int32)), (.int (46 : Int32)), (.int (48 : Int32)), (.int (57 : Int32)), (.int (58 : Int32)), (.int (65 : Int32)), (.int (90 : Int32)), (.int (95 : Int32)), (.int (97 : Int32)), (.int (122 : Int32)), (.int (183 : Int32)), (.int (192 : Int32)), (.int (214 : Int32)), (.int (216 : Int32)), (.int (246 : Int32)), (.int (248 : Int32)), (.int (767 : Int32)), (.int (768 : Int32)), (.int (879 : Int32)), (.int (880 : Int32)), (.int (893 : Int32)), (.int (895 : Int32)), (.int (8191 : Int32)), (.int (8204 : Int32)), (.int (8205 : Int32)), (.int (8255 : Int32)), (.int (8256 : Int32)), (.int (8304 : Int32)), (.int (8591 : Int32)), (.int (11264 : Int32)), (.int (12271 : Int32)), (.int (12289 : Int32)), (.int (55295 : Int32)), (.int (0 : Int32)), (.int (0 : Int32)), (.int (0 : Int32)), (.int (0 : Int32)), (.int (0 : Int32)), (.int (0 : Int32)), (.int (0 : Int32)), (.int (0 : Int32)), (.int (0 : Int32))] (.int (0 : Int32)) := Arv.set Ar73 q73 S73 M73 H73 G73 rfl W73 32 rfl (Nat.le_of_ble_eq_true rfl)
  have N73 := Fr.snoc X73 N71 g_b2
  have Z73 : n0 ≤ h73.size := Nat.le_trans Z71 (Keep.of_wr W73).1
  have pre73 : Steps p.tables e below _ (T73.setTop (mkF m 218 #[.val (.int p1), .val (.int p2), .val (.int p3), .unset, .unset] [(.ref b2)])) := pre72.trans (st73 _ (Steps.refl _))
  have pre74 : Steps p.tables e below _ (T73.setTop (mkF m 223 #[.val (.int p1), .val (.int p2), .val (.int p3), .unset, .unset] [(.int (63744 : Int32)), (.int (33 : Int32)), (.ref b2), (.ref b2)])) := pre73.trans (by
    show Steps p.tables e below (T73.setTop (mkF m 218 #[.val (.int p1), .val (.int p2), .val (.int p3), .unset, .unset] [(.ref b2)])) _
    refine XS.dup X73.here hx rfl (hb hby at_218) rfl rfl ?_
    show Steps p.tables e below (T73.setTop (mkF m 219 #[.val (.int p1), .val (.int p2), .val (.int p3), .unset, .unset] [(.ref b2), (.ref b2)])) _
    refine XS.bipush X73.here hx rfl (hb hby at_219) ?_
    show Steps p.tables e below (T73.setTop (mkF m 221 #[.val (.int p1), .val (.int p2), .val (.int p3), .unset, .unset] [(.int (33 : Int32)), (.ref b2), (.ref b2)])) _
    refine X73.ldcInt hx hown (mvT hZ (hw _ (List.mem_of_getElem? (i := 2) rfl))) (g := (mkF m 221 #[.val (.int p1), .val (.int p2), .val (.int p3), .unset, .unset] [(.int (33 : Int32)), (.ref b2), (.ref b2)])) rfl (hb hby at_221) _ ?_
    exact Steps.refl _)
  obtain ⟨cl75, Ar75, q75, S75, M75, H75, G75⟩ := V73
  have hin75 : ¬ ((33 : Int32) < 0 ∨ cl75.slots.size ≤ ((33 : Int32)).toNatClampNeg) := inb_of S75 ⟨by decide, by decide⟩
  obtain ⟨T75, h75, X75, e75, W75, st75⟩ := stI X73 hx hZ e73 Ar75 (j := (33 : Int32)) hin75 (g := (mkF m 223 #[.val (.int p1), .val (.int p2), .val (.int p3), .unset, .unset] [(.int (63744 : Int32)), (.int (33 : Int32)), (.ref b2), (.ref b2)])) rfl rfl (hb hby at_223)
  have V75 : Arv Z h75 b2 k2 .int (42 : Int32) [(.int (45 : Int32)), (.int (46 : Int32)), (.int (48 : Int32)), (.int (57 : Int32)), (.int (58 : Int32)), (.int (65 : Int32)), (.int (90 : Int32)), (.int (95 : Int32)), (.int (97 : Int32)), (.int (122 : Int32)), (.int (183 : Int32)), (.int (192 : Int32)), (.int (214 : Int32)), (.int (216 : Int32)), (.int (246 : Int32)), (.int (248 : Int32)), (.int (767 : Int32)), (.int (768 : Int32)), (.int (879 : Int32)), (.int (880 : Int32)), (.int (893 : Int32)), (.int (895 : Int32)), (.int (8191 : Int32)), (.int (8204 : Int32)), (.int (8205 : Int32)), (.int (8255 : Int32)), (.int (8256 : Int32)), (.int (8304 : Int32)), (.int (8591 : Int32)), (.int (11264 : Int32)), (.int (12271 : Int32)), (.int (12289 : Int32)), (.int (55295 : Int32)), (.int (63744 : Int32)), (.int (0 : Int32)), (.int (0 : Int32)), (.int (0 : Int32)), (.int (0 : Int32)), (.int (0 : Int32)), (.int (0 : Int32)), (.int (0 : Int32)), (.int (0 : Int32))] (.int (0 : Int32)) := Arv.set Ar75 q75 S75 M75 H75 G75 rfl W75 33 rfl (Nat.le_of_ble_eq_true rfl)
  have N75 := Fr.snoc X75 N73 g_b2
  have Z75 : n0 ≤ h75.size := Nat.le_trans Z73 (Keep.of_wr W75).1
  have pre75 : Steps p.tables e below _ (T75.setTop (mkF m 224 #[.val (.int p1), .val (.int p2), .val (.int p3), .unset, .unset] [(.ref b2)])) := pre74.trans (st75 _ (Steps.refl _))
  have pre76 : Steps p.tables e below _ (T75.setTop (mkF m 229 #[.val (.int p1), .val (.int p2), .val (.int p3), .unset, .unset] [(.int (64975 : Int32)), (.int (34 : Int32)), (.ref b2), (.ref b2)])) := pre75.trans (by
    show Steps p.tables e below (T75.setTop (mkF m 224 #[.val (.int p1), .val (.int p2), .val (.int p3), .unset, .unset] [(.ref b2)])) _
    refine XS.dup X75.here hx rfl (hb hby at_224) rfl rfl ?_
    show Steps p.tables e below (T75.setTop (mkF m 225 #[.val (.int p1), .val (.int p2), .val (.int p3), .unset, .unset] [(.ref b2), (.ref b2)])) _
    refine XS.bipush X75.here hx rfl (hb hby at_225) ?_
    show Steps p.tables e below (T75.setTop (mkF m 227 #[.val (.int p1), .val (.int p2), .val (.int p3), .unset, .unset] [(.int (34 : Int32)), (.ref b2), (.ref b2)])) _
    refine X75.ldcInt hx hown (mvT hZ (hw _ (List.mem_of_getElem? (i := 3) rfl))) (g := (mkF m 227 #[.val (.int p1), .val (.int p2), .val (.int p3), .unset, .unset] [(.int (34 : Int32)), (.ref b2), (.ref b2)])) rfl (hb hby at_227) _ ?_
    exact Steps.refl _)
  obtain ⟨cl77, Ar77, q77, S77, M77, H77, G77⟩ := V75
  have hin77 : ¬ ((34 : Int32) < 0 ∨ cl77.slots.size ≤ ((34 : Int32)).toNatClampNeg) := inb_of S77 ⟨by decide, by decide⟩
  obtain ⟨T77, h77, X77, e77, W77, st77⟩ := stI X75 hx hZ e75 Ar77 (j := (34 : Int32)) hin77 (g := (mkF m 229 #[.val (.int p1), .val (.int p2), .val (.int p3), .unset, .unset] [(.int (64975 : Int32)), (.int (34 : Int32)), (.ref b2), (.ref b2)])) rfl rfl (hb hby at_229)
  have V77 : Arv Z h77 b2 k2 .int (42 : Int32) [(.int (45 : Int32)), (.int (46 : Int32)), (.int (48 : Int32)), (.int (57 : Int32)), (.int (58 : Int32)), (.int (65 : Int32)), (.int (90 : Int32)), (.int (95 : Int32)), (.int (97 : Int32)), (.int (122 : Int32)), (.int (183 : Int32)), (.int (192 : Int32)), (.int (214 : Int32)), (.int (216 : Int32)), (.int (246 : Int32)), (.int (248 : Int32)), (.int (767 : Int32)), (.int (768 : Int32)), (.int (879 : Int32)), (.int (880 : Int32)), (.int (893 : Int32)), (.int (895 : Int32)), (.int (8191 : Int32)), (.int (8204 : Int32)), (.int (8205 : Int32)), (.int (8255 : Int32)), (.int (8256 : Int32)), (.int (8304 : Int32)), (.int (8591 : Int32)), (.int (11264 : Int32)), (.int (12271 : Int32)), (.int (12289 : Int32)), (.int (55295 : Int32)), (.int (63744 : Int32)), (.int (64975 : Int32)), (.int (0 : Int32)), (.int (0 : Int32)), (.int (0 : Int32)), (.int (0 : Int32)), (.int (0 : Int32)), (.int (0 : Int32)), (.int (0 : Int32))] (.int (0 : Int32)) := Arv.set Ar77 q77 S77 M77 H77 G77 rfl W77 34 rfl (Nat.le_of_ble_eq_true rfl)
  have N77 := Fr.snoc X77 N75 g_b2
  have Z77 : n0 ≤ h77.size := Nat.le_trans Z75 (Keep.of_wr W77).1
  have pre77 : Steps p.tables e below _ (T77.setTop (mkF m 230 #[.val (.int p1), .val (.int p2), .val (.int p3), .unset, .unset] [(.ref b2)])) := pre76.trans (st77 _ (Steps.refl _))
  have pre78 : Steps p.tables e below _ (T77.setTop (mkF m 235 #[.val (.int p1), .val (.int p2), .val (.int p3), .unset, .unset] [(.int (65008 : Int32)), (.int (35 : Int32)), (.ref b2), (.ref b2)])) := pre77.trans (by
    show Steps p.tables e below (T77.setTop (mkF m 230 #[.val (.int p1), .val (.int p2), .val (.int p3), .unset, .unset] [(.ref b2)])) _
    refine XS.dup X77.here hx rfl (hb hby at_230) rfl rfl ?_
    show Steps p.tables e below (T77.setTop (mkF m 231 #[.val (.int p1), .val (.int p2), .val (.int p3), .unset, .unset] [(.ref b2), (.ref b2)])) _
    refine XS.bipush X77.here hx rfl (hb hby at_231) ?_
    show Steps p.tables e below (T77.setTop (mkF m 233 #[.val (.int p1), .val (.int p2), .val (.int p3), .unset, .unset] [(.int (35 : Int32)), (.ref b2), (.ref b2)])) _
    refine X77.ldcInt hx hown (mvT hZ (hw _ (List.mem_of_getElem? (i := 4) rfl))) (g := (mkF m 233 #[.val (.int p1), .val (.int p2), .val (.int p3), .unset, .unset] [(.int (35 : Int32)), (.ref b2), (.ref b2)])) rfl (hb hby at_233) _ ?_
    exact Steps.refl _)
  obtain ⟨cl79, Ar79, q79, S79, M79, H79, G79⟩ := V77
  have hin79 : ¬ ((35 : Int32) < 0 ∨ cl79.slots.size ≤ ((35 : Int32)).toNatClampNeg) := inb_of S79 ⟨by decide, by decide⟩
  obtain ⟨T79, h79, X79, e79, W79, st79⟩ := stI X77 hx hZ e77 Ar79 (j := (35 : Int32)) hin79 (g := (mkF m 235 #[.val (.int p1), .val (.int p2), .val (.int p3), .unset, .unset] [(.int (65008 : Int32)), (.int (35 : Int32)), (.ref b2), (.ref b2)])) rfl rfl (hb hby at_235)
  have V79 : Arv Z h79 b2 k2 .int (42 : Int32) [(.int (45 : Int32)), (.int (46 : Int32)), (.int (48 : Int32)), (.int (57 : Int32)), (.int (58 : Int32)), (.int (65 : Int32)), (.int (90 : Int32)), (.int (95 : Int32)), (.int (97 : Int32)), (.int (122 : Int32)), (.int (183 : Int32)), (.int (192 : Int32)), (.int (214 : Int32)), (.int (216 : Int32)), (.int (246 : Int32)), (.int (248 : Int32)), (.int (767 : Int32)), (.int (768 : Int32)), (.int (879 : Int32)), (.int (880 : Int32)), (.int (893 : Int32)), (.int (895 : Int32)), (.int (8191 : Int32)), (.int (8204 : Int32)), (.int (8205 : Int32)), (.int (8255 : Int32)), (.int (8256 : Int32)), (.int (8304 : Int32)), (.int (8591 : Int32)), (.int (11264 : Int32)), (.int (12271 : Int32)), (.int (12289 : Int32)), (.int (55295 : Int32)), (.int (63744 : Int32)), (.int (64975 : Int32)), (.int (65008 : Int32)), (.int (0 : Int32)), (.int (0 : Int32)), (.int (0 : Int32)), (.int (0 : Int32)), (.int (0 : Int32)), (.int (0 : Int32))] (.int (0 : Int32)) := Arv.set Ar79 q79 S79 M79 H79 G79 rfl W79 35 rfl (Nat.le_of_ble_eq_true rfl)
  have N79 := Fr.snoc X79 N77 g_b2
  have Z79 : n0 ≤ h79.size := Nat.le_trans Z77 (Keep.of_wr W79).1
  have pre79 : Steps p.tables e below _ (T79.setTop (mkF m 236 #[.val (.int p1), .val (.int p2), .val (.int p3), .unset, .unset] [(.ref b2)])) := pre78.trans (st79 _ (Steps.refl _))
  obtain ⟨lc80, X80, N80⟩ : ∃ lc : List Loc, Stand p l e room_1 s m #[(.int p1), (.int p2), (.int p3)] below meth c T79 lc 1 42 ∧ Fr n0 lc := ⟨_, X79, N79⟩
  have pre81 : Steps p.tables e below _ (T79.setTop (mkF m 241 #[.val (.int p1), .val (.int p2), .val (.int p3), .unset, .unset] [(.int (65533 : Int32)), (.int (36 : Int32)), (.ref b2), (.ref b2)])) := pre79.trans (by
    show Steps p.tables e below (T79.setTop (mkF m 236 #[.val (.int p1), .val (.int p2), .val (.int p3), .unset, .unset] [(.ref b2)])) _
    refine XS.dup X80.here hx rfl (hb hby at_236) rfl rfl ?_
    show Steps p.tables e below (T79.setTop (mkF m 237 #[.val (.int p1), .val (.int p2), .val (.int p3), .unset, .unset] [(.ref b2), (.ref b2)])) _
    refine XS.bipush X80.here hx rfl (hb hby at_237) ?_
    show Steps p.tables e below (T79.setTop (mkF m 239 #[.val (.int p1), .val (.int p2), .val (.int p3), .unset, .unset] [(.int (36 : Int32)), (.ref b2), (.ref b2)])) _
    refine X80.ldcInt hx hown (mvT hZ (hw _ (List.mem_of_getElem? (i := 5) rfl))) (g := (mkF m 239 #[.val (.int p1), .val (.int p2), .val (.int p3), .unset, .unset] [(.int (36 : Int32)), (.ref b2), (.ref b2)])) rfl (hb hby at_239) _ ?_
    exact Steps.refl _)
  obtain ⟨cl82, Ar82, q82, S82, M82, H82, G82⟩ := V79
  have hin82 : ¬ ((36 : Int32) < 0 ∨ cl82.slots.size ≤ ((36 : Int32)).toNatClampNeg) := inb_of S82 ⟨by decide, by decide⟩
  obtain ⟨T82, h82, X82, e82, W82, st82⟩ := stI X80 hx hZ e79 Ar82 (j := (36 : Int32)) hin82 (g := (mkF m 241 #[.val (.int p1), .val (.int p2), .val (.int p3), .unset, .unset] [(.int (65533 : Int32)), (.int (36 : Int32)), (.ref b2), (.ref b2)])) rfl rfl (hb hby at_241)
  have V82 : Arv Z h82 b2 k2 .int (42 : Int32) [(.int (45 : Int32)), (.int (46 : Int32)), (.int (48 : Int32)), (.int (57 : Int32)), (.int (58 : Int32)), (.int (65 : Int32)), (.int (90 : Int32)), (.int (95 : Int32)), (.int (97 : Int32)), (.int (122 : Int32)), (.int (183 : Int32)), (.int (192 : Int32)), (.int (214 : Int32)), (.int (216 : Int32)), (.int (246 : Int32)), (.int (248 : Int32)), (.int (767 : Int32)), (.int (768 : Int32)), (.int (879 : Int32)), (.int (880 : Int32)), (.int (893 : Int32)), (.int (895 : Int32)), (.int (8191 : Int32)), (.int (8204 : Int32)), (.int (8205 : Int32)), (.int (8255 : Int32)), (.int (8256 : Int32)), (.int (8304 : Int32)), (.int (8591 : Int32)), (.int (11264 : Int32)), (.int (12271 : Int32)), (.int (12289 : Int32)), (.int (55295 : Int32)), (.int (63744 : Int32)), (.int (64975 : Int32)), (.int (65008 : Int32)), (.int (65533 : Int32)), (.int (0 : Int32)), (.int (0 : Int32)), (.int (0 : Int32)), (.int (0 : Int32)), (.int (0 : Int32))] (.int (0 : Int32)) := Arv.set Ar82 q82 S82 M82 H82 G82 rfl W82 36 rfl (Nat.le_of_ble_eq_true rfl)
  have N82 := Fr.snoc X82 N80 g_b2
  have Z82 : n0 ≤ h82.size := Nat.le_trans Z79 (Keep.of_wr W82).1
  have pre82 : Steps p.tables e below _ (T82.setTop (mkF m 242 #[.val (.int p1), .val (.int p2), .val (.int p3), .unset, .unset] [(.ref b2)])) := pre81.trans (st82 _ (Steps.refl _))
  have pre83 : Steps p.tables e below _ (T82.setTop (mkF m 247 #[.val (.int p1), .val (.int p2), .val (.int p3), .unset, .unset] [(.int (65536 : Int32)), (.int (37 : Int32)), (.ref b2), (.ref b2)])) := pre82.trans (by
    show Steps p.tables e below (T82.setTop (mkF m 242 #[.val (.int p1), .val (.int p2), .val (.int p3), .unset, .unset] [(.ref b2)])) _
    refine XS.dup X82.here hx rfl (hb hby at_242) rfl rfl ?_
    show Steps p.tables e below (T82.setTop (mkF m 243 #[.val (.int p1), .val (.int p2), .val (.int p3), .unset, .unset] [(.ref b2), (.ref b2)])) _
    refine XS.bipush X82.here hx rfl (hb hby at_243) ?_
    show Steps p.tables e below (T82.setTop (mkF m 245 #[.val (.int p1), .val (.int p2), .val (.int p3), .unset, .unset] [(.int (37 : Int32)), (.ref b2), (.ref b2)])) _
    refine X82.ldcInt hx hown (mvT hZ (hw _ (List.mem_of_getElem? (i := 6) rfl))) (g := (mkF m 245 #[.val (.int p1), .val (.int p2), .val (.int p3), .unset, .unset] [(.int (37 : Int32)), (.ref b2), (.ref b2)])) rfl (hb hby at_245) _ ?_
    exact Steps.refl _)
  obtain ⟨cl84, Ar84, q84, S84, M84, H84, G84⟩ := V82
  have hin84 : ¬ ((37 : Int32) < 0 ∨ cl84.slots.size ≤ ((37 : Int32)).toNatClampNeg) := inb_of S84 ⟨by decide, by decide⟩
  obtain ⟨T84, h84, X84, e84, W84, st84⟩ := stI X82 hx hZ e82 Ar84 (j := (37 : Int32)) hin84 (g := (mkF m 247 #[.val (.int p1), .val (.int p2), .val (.int p3), .unset, .unset] [(.int (65536 : Int32)), (.int (37 : Int32)), (.ref b2), (.ref b2)])) rfl rfl (hb hby at_247)
  have V84 : Arv Z h84 b2 k2 .int (42 : Int32) [(.int (45 : Int32)), (.int (46 : Int32)), (.int (48 : Int32)), (.int (57 : Int32)), (.int (58 : Int32)), (.int (65 : Int32)), (.int (90 : Int32)), (.int (95 : Int32)), (.int (97 : Int32)), (.int (122 : Int32)), (.int (183 : Int32)), (.int (192 : Int32)), (.int (214 : Int32)), (.int (216 : Int32)), (.int (246 : Int32)), (.int (248 : Int32)), (.int (767 : Int32)), (.int (768 : Int32)), (.int (879 : Int32)), (.int (880 : Int32)), (.int (893 : Int32)), (.int (895 : Int32)), (.int (8191 : Int32)), (.int (8204 : Int32)), (.int (8205 : Int32)), (.int (8255 : Int32)), (.int (8256 : Int32)), (.int (8304 : Int32)), (.int (8591 : Int32)), (.int (11264 : Int32)), (.int (12271 : Int32)), (.int (12289 : Int32)), (.int (55295 : Int32)), (.int (63744 : Int32)), (.int (64975 : Int32)), (.int (65008 : Int32)), (.int (65533 : Int32)), (.int (65536 : Int32)), (.int (0 : Int32)), (.int (0 : Int32)), (.int (0 : Int32)), (.int (0 : Int32))] (.int (0 : Int32)) := Arv.set Ar84 q84 S84 M84 H84 G84 rfl W84 37 rfl (Nat.le_of_ble_eq_true rfl)
  have N84 := Fr.snoc X84 N82 g_b2
  have Z84 : n0 ≤ h84.size := Nat.le_trans Z82 (Keep.of_wr W84).1
  have pre84 : Steps p.tables e below _ (T84.setTop (mkF m 248 #[.val (.int p1), .val (.int p2), .val (.int p3), .unset, .unset] [(.ref b2)])) := pre83.trans (st84 _ (Steps.refl _))
  have pre85 : Steps p.tables e below _ (T84.setTop (mkF m 253 #[.val (.int p1), .val (.int p2), .val (.int p3), .unset, .unset] [(.int (983039 : Int32)), (.int (38 : Int32)), (.ref b2), (.ref b2)])) := pre84.trans (by
    show Steps p.tables e below (T84.setTop (mkF m 248 #[.val (.int p1), .val (.int p2), .val (.int p3), .unset, .unset] [(.ref b2)])) _
    refine XS.dup X84.here hx rfl (hb hby at_248) rfl rfl ?_
    show Steps p.tables e below (T84.setTop (mkF m 249 #[.val (.int p1), .val (.int p2), .val (.int p3), .unset, .unset] [(.ref b2), (.ref b2)])) _
    refine XS.bipush X84.here hx rfl (hb hby at_249) ?_
    show Steps p.tables e below (T84.setTop (mkF m 251 #[.val (.int p1), .val (.int p2), .val (.int p3), .unset, .unset] [(.int (38 : Int32)), (.ref b2), (.ref b2)])) _
    refine X84.ldcInt hx hown (mvT hZ (hw _ (List.mem_of_getElem? (i := 7) rfl))) (g := (mkF m 251 #[.val (.int p1), .val (.int p2), .val (.int p3), .unset, .unset] [(.int (38 : Int32)), (.ref b2), (.ref b2)])) rfl (hb hby at_251) _ ?_
    exact Steps.refl _)
  obtain ⟨cl86, Ar86, q86, S86, M86, H86, G86⟩ := V84
  have hin86 : ¬ ((38 : Int32) < 0 ∨ cl86.slots.size ≤ ((38 : Int32)).toNatClampNeg) := inb_of S86 ⟨by decide, by decide⟩
  obtain ⟨T86, h86, X86, e86, W86, st86⟩ := stI X84 hx hZ e84 Ar86 (j := (38 : Int32)) hin86 (g := (mkF m 253 #[.val (.int p1), .val (.int p2), .val (.int p3), .unset, .unset] [(.int (983039 : Int32)), (.int (38 : Int32)), (.ref b2), (.ref b2)])) rfl rfl (hb hby at_253)
  have V86 : Arv Z h86 b2 k2 .int (42 : Int32) [(.int (45 : Int32)), (.int (46 : Int32)), (.int (48 : Int32)), (.int (57 : Int32)), (.int (58 : Int32)), (.int (65 : Int32)), (.int (90 : Int32)), (.int (95 : Int32)), (.int (97 : Int32)), (.int (122 : Int32)), (.int (183 : Int32)), (.int (192 : Int32)), (.int (214 : Int32)), (.int (216 : Int32)), (.int (246 : Int32)), (.int (248 : Int32)), (.int (767 : Int32)), (.int (768 : Int32)), (.int (879 : Int32)), (.int (880 : Int32)), (.int (893 : Int32)), (.int (895 : Int32)), (.int (8191 : Int32)), (.int (8204 : Int32)), (.int (8205 : Int32)), (.int (8255 : Int32)), (.int (8256 : Int32)), (.int (8304 : Int32)), (.int (8591 : Int32)), (.int (11264 : Int32)), (.int (12271 : Int32)), (.int (12289 : Int32)), (.int (55295 : Int32)), (.int (63744 : Int32)), (.int (64975 : Int32)), (.int (65008 : Int32)), (.int (65533 : Int32)), (.int (65536 : Int32)), (.int (983039 : Int32)), (.int (0 : Int32)), (.int (0 : Int32)), (.int (0 : Int32))] (.int (0 : Int32)) := Arv.set Ar86 q86 S86 M86 H86 G86 rfl W86 38 rfl (Nat.le_of_ble_eq_true rfl)
  have N86 := Fr.snoc X86 N84 g_b2
  have Z86 : n0 ≤ h86.size := Nat.le_trans Z84 (Keep.of_wr W86).1
  have pre86 : Steps p.tables e below _ (T86.setTop (mkF m 254 #[.val (.int p1), .val (.int p2), .val (.int p3), .unset, .unset] [(.ref b2)])) := pre85.trans (st86 _ (Steps.refl _))
  have pre87 : Steps p.tables e below _ (T86.setTop (mkF m 258 #[.val (.int p1), .val (.int p2), .val (.int p3), .unset, .unset] [(.int (0 : Int32)), (.int (39 : Int32)), (.ref b2), (.ref b2)])) := pre86.trans (by
    show Steps p.tables e below (T86.setTop (mkF m 254 #[.val (.int p1), .val (.int p2), .val (.int p3), .unset, .unset] [(.ref b2)])) _
    refine XS.dup X86.here hx rfl (hb hby at_254) rfl rfl ?_
    show Steps p.tables e below (T86.setTop (mkF m 255 #[.val (.int p1), .val (.int p2), .val (.int p3), .unset, .unset] [(.ref b2), (.ref b2)])) _
    refine XS.bipush X86.here hx rfl (hb hby at_255) ?_
    show Steps p.tables e below (T86.setTop (mkF m 257 #[.val (.int p1), .val (.int p2), .val (.int p3), .unset, .unset] [(.int (39 : Int32)), (.ref b2), (.ref b2)])) _
    refine XS.iconst X86.here hx rfl (hb hby at_257) ?_
    exact Steps.refl _)
  obtain ⟨cl88, Ar88, q88, S88, M88, H88, G88⟩ := V86
  have hin88 : ¬ ((39 : Int32) < 0 ∨ cl88.slots.size ≤ ((39 : Int32)).toNatClampNeg) := inb_of S88 ⟨by decide, by decide⟩
  obtain ⟨T88, h88, X88, e88, W88, st88⟩ := stI X86 hx hZ e86 Ar88 (j := (39 : Int32)) hin88 (g := (mkF m 258 #[.val (.int p1), .val (.int p2), .val (.int p3), .unset, .unset] [(.int (0 : Int32)), (.int (39 : Int32)), (.ref b2), (.ref b2)])) rfl rfl (hb hby at_258)
  have V88 : Arv Z h88 b2 k2 .int (42 : Int32) [(.int (45 : Int32)), (.int (46 : Int32)), (.int (48 : Int32)), (.int (57 : Int32)), (.int (58 : Int32)), (.int (65 : Int32)), (.int (90 : Int32)), (.int (95 : Int32)), (.int (97 : Int32)), (.int (122 : Int32)), (.int (183 : Int32)), (.int (192 : Int32)), (.int (214 : Int32)), (.int (216 : Int32)), (.int (246 : Int32)), (.int (248 : Int32)), (.int (767 : Int32)), (.int (768 : Int32)), (.int (879 : Int32)), (.int (880 : Int32)), (.int (893 : Int32)), (.int (895 : Int32)), (.int (8191 : Int32)), (.int (8204 : Int32)), (.int (8205 : Int32)), (.int (8255 : Int32)), (.int (8256 : Int32)), (.int (8304 : Int32)), (.int (8591 : Int32)), (.int (11264 : Int32)), (.int (12271 : Int32)), (.int (12289 : Int32)), (.int (55295 : Int32)), (.int (63744 : Int32)), (.int (64975 : Int32)), (.int (65008 : Int32)), (.int (65533 : Int32)), (.int (65536 : Int32)), (.int (983039 : Int32)), (.int (0 : Int32)), (.int (0 : Int32)), (.int (0 : Int32))] (.int (0 : Int32)) := Arv.set Ar88 q88 S88 M88 H88 G88 rfl W88 39 rfl (Nat.le_of_ble_eq_true rfl)
  have N88 := Fr.snoc X88 N86 g_b2
  have Z88 : n0 ≤ h88.size := Nat.le_trans Z86 (Keep.of_wr W88).1
  have pre88 : Steps p.tables e below _ (T88.setTop (mkF m 259 #[.val (.int p1), .val (.int p2), .val (.int p3), .unset, .unset] [(.ref b2)])) := pre87.trans (st88 _ (Steps.refl _))
  have pre89 : Steps p.tables e below _ (T88.setTop (mkF m 264 #[.val (.int p1), .val (.int p2), .val (.int p3), .unset, .unset] [(.int (-2147483648 : Int32)), (.int (40 : Int32)), (.ref b2), (.ref b2)])) := pre88.trans (by
    show Steps p.tables e below (T88.setTop (mkF m 259 #[.val (.int p1), .val (.int p2), .val (.int p3), .unset, .unset] [(.ref b2)])) _
    refine XS.dup X88.here hx rfl (hb hby at_259) rfl rfl ?_
    show Steps p.tables e below (T88.setTop (mkF m 260 #[.val (.int p1), .val (.int p2), .val (.int p3), .unset, .unset] [(.ref b2), (.ref b2)])) _
    refine XS.bipush X88.here hx rfl (hb hby at_260) ?_
    show Steps p.tables e below (T88.setTop (mkF m 262 #[.val (.int p1), .val (.int p2), .val (.int p3), .unset, .unset] [(.int (40 : Int32)), (.ref b2), (.ref b2)])) _
    refine X88.ldcInt hx hown (mvT hZ (hw _ (List.mem_of_getElem? (i := 8) rfl))) (g := (mkF m 262 #[.val (.int p1), .val (.int p2), .val (.int p3), .unset, .unset] [(.int (40 : Int32)), (.ref b2), (.ref b2)])) rfl (hb hby at_262) _ ?_
    exact Steps.refl _)
  obtain ⟨cl90, Ar90, q90, S90, M90, H90, G90⟩ := V88
  have hin90 : ¬ ((40 : Int32) < 0 ∨ cl90.slots.size ≤ ((40 : Int32)).toNatClampNeg) := inb_of S90 ⟨by decide, by decide⟩
  obtain ⟨T90, h90, X90, e90, W90, st90⟩ := stI X88 hx hZ e88 Ar90 (j := (40 : Int32)) hin90 (g := (mkF m 264 #[.val (.int p1), .val (.int p2), .val (.int p3), .unset, .unset] [(.int (-2147483648 : Int32)), (.int (40 : Int32)), (.ref b2), (.ref b2)])) rfl rfl (hb hby at_264)
  have V90 : Arv Z h90 b2 k2 .int (42 : Int32) [(.int (45 : Int32)), (.int (46 : Int32)), (.int (48 : Int32)), (.int (57 : Int32)), (.int (58 : Int32)), (.int (65 : Int32)), (.int (90 : Int32)), (.int (95 : Int32)), (.int (97 : Int32)), (.int (122 : Int32)), (.int (183 : Int32)), (.int (192 : Int32)), (.int (214 : Int32)), (.int (216 : Int32)), (.int (246 : Int32)), (.int (248 : Int32)), (.int (767 : Int32)), (.int (768 : Int32)), (.int (879 : Int32)), (.int (880 : Int32)), (.int (893 : Int32)), (.int (895 : Int32)), (.int (8191 : Int32)), (.int (8204 : Int32)), (.int (8205 : Int32)), (.int (8255 : Int32)), (.int (8256 : Int32)), (.int (8304 : Int32)), (.int (8591 : Int32)), (.int (11264 : Int32)), (.int (12271 : Int32)), (.int (12289 : Int32)), (.int (55295 : Int32)), (.int (63744 : Int32)), (.int (64975 : Int32)), (.int (65008 : Int32)), (.int (65533 : Int32)), (.int (65536 : Int32)), (.int (983039 : Int32)), (.int (0 : Int32)), (.int (-2147483648 : Int32)), (.int (0 : Int32))] (.int (0 : Int32)) := Arv.set Ar90 q90 S90 M90 H90 G90 rfl W90 40 rfl (Nat.le_of_ble_eq_true rfl)
  have N90 := Fr.snoc X90 N88 g_b2
  have Z90 : n0 ≤ h90.size := Nat.le_trans Z88 (Keep.of_wr W90).1
  have pre90 : Steps p.tables e below _ (T90.setTop (mkF m 265 #[.val (.int p1), .val (.int p2), .val (.int p3), .unset, .unset] [(.ref b2)])) := pre89.trans (st90 _ (Steps.refl _))
  have pre91 : Steps p.tables e below _ (T90.setTop (mkF m 270 #[.val (.int p1), .val (.int p2), .val (.int p3), .unset, .unset] [(.int (2147483647 : Int32)), (.int (41 : Int32)), (.ref b2), (.ref b2)])) := pre90.trans (by
    show Steps p.tables e below (T90.setTop (mkF m 265 #[.val (.int p1), .val (.int p2), .val (.int p3), .unset, .unset] [(.ref b2)])) _
    refine XS.dup X90.here hx rfl (hb hby at_265) rfl rfl ?_
    show Steps p.tables e below (T90.setTop (mkF m 266 #[.val (.int p1), .val (.int p2), .val (.int p3), .unset, .unset] [(.ref b2), (.ref b2)])) _
    refine XS.bipush X90.here hx rfl (hb hby at_266) ?_
    show Steps p.tables e below (T90.setTop (mkF m 268 #[.val (.int p1), .val (.int p2), .val (.int p3), .unset, .unset] [(.int (41 : Int32)), (.ref b2), (.ref b2)])) _
    refine X90.ldcInt hx hown (mvT hZ (hw _ (List.mem_of_getElem? (i := 9) rfl))) (g := (mkF m 268 #[.val (.int p1), .val (.int p2), .val (.int p3), .unset, .unset] [(.int (41 : Int32)), (.ref b2), (.ref b2)])) rfl (hb hby at_268) _ ?_
    exact Steps.refl _)
  obtain ⟨cl92, Ar92, q92, S92, M92, H92, G92⟩ := V90
  have hin92 : ¬ ((41 : Int32) < 0 ∨ cl92.slots.size ≤ ((41 : Int32)).toNatClampNeg) := inb_of S92 ⟨by decide, by decide⟩
  obtain ⟨T92, h92, X92, e92, W92, st92⟩ := stI X90 hx hZ e90 Ar92 (j := (41 : Int32)) hin92 (g := (mkF m 270 #[.val (.int p1), .val (.int p2), .val (.int p3), .unset, .unset] [(.int (2147483647 : Int32)), (.int (41 : Int32)), (.ref b2), (.ref b2)])) rfl rfl (hb hby at_270)
  have V92 : Arv Z h92 b2 k2 .int (42 : Int32) [(.int (45 : Int32)), (.int (46 : Int32)), (.int (48 : Int32)), (.int (57 : Int32)), (.int (58 : Int32)), (.int (65 : Int32)), (.int (90 : Int32)), (.int (95 : Int32)), (.int (97 : Int32)), (.int (122 : Int32)), (.int (183 : Int32)), (.int (192 : Int32)), (.int (214 : Int32)), (.int (216 : Int32)), (.int (246 : Int32)), (.int (248 : Int32)), (.int (767 : Int32)), (.int (768 : Int32)), (.int (879 : Int32)), (.int (880 : Int32)), (.int (893 : Int32)), (.int (895 : Int32)), (.int (8191 : Int32)), (.int (8204 : Int32)), (.int (8205 : Int32)), (.int (8255 : Int32)), (.int (8256 : Int32)), (.int (8304 : Int32)), (.int (8591 : Int32)), (.int (11264 : Int32)), (.int (12271 : Int32)), (.int (12289 : Int32)), (.int (55295 : Int32)), (.int (63744 : Int32)), (.int (64975 : Int32)), (.int (65008 : Int32)), (.int (65533 : Int32)), (.int (65536 : Int32)), (.int (983039 : Int32)), (.int (0 : Int32)), (.int (-2147483648 : Int32)), (.int (2147483647 : Int32))] (.int (0 : Int32)) := Arv.set Ar92 q92 S92 M92 H92 G92 rfl W92 41 rfl (Nat.le_of_ble_eq_true rfl)
  have N92 := Fr.snoc X92 N90 g_b2
  have Z92 : n0 ≤ h92.size := Nat.le_trans Z90 (Keep.of_wr W92).1
  have pre92 : Steps p.tables e below _ (T92.setTop (mkF m 271 #[.val (.int p1), .val (.int p2), .val (.int p3), .unset, .unset] [(.ref b2)])) := pre91.trans (st92 _ (Steps.refl _))
  obtain ⟨lc93, X93, N93⟩ : ∃ lc : List Loc, Stand p l e room_1 s m #[(.int p1), (.int p2), (.int p3)] below meth c T92 lc 1 42 ∧ Fr n0 lc := ⟨_, X92, N92⟩
  obtain ⟨lc94, X94, N94⟩ : ∃ lc : List Loc, Stand p l e room_1 s m #[(.int p1), (.int p2), (.int p3)] below meth c T92 lc 1 42 ∧ Fr n0 lc := ⟨_, X93, N93⟩
  have pre95 : Steps p.tables e below _ (T92.setTop (mkF m 275 #[.val (.int p1), .val (.int p2), .val (.int p3), .val (.ref b2), .unset] [(.int (p2 &&& (1 : Int32)))])) := pre92.trans (by
    show Steps p.tables e below (T92.setTop (mkF m 271 #[.val (.int p1), .val (.int p2), .val (.int p3), .unset, .unset] [(.ref b2)])) _
    refine XS.astoreN X94.here hx rfl (hb hby at_271) rfl rfl (l' := #[.val (.int p1), .val (.int p2), .val (.int p3), .val (.ref b2), .unset]) rfl ?_
    show Steps p.tables e below (T92.setTop (mkF m 272 #[.val (.int p1), .val (.int p2), .val (.int p3), .val (.ref b2), .unset] [])) _
    refine XS.iloadN X94.here hx rfl (hb hby at_272) rfl ?_
    show Steps p.tables e below (T92.setTop (mkF m 273 #[.val (.int p1), .val (.int p2), .val (.int p3), .val (.ref b2), .unset] [(.int p2)])) _
    refine XS.iconst X94.here hx rfl (hb hby at_273) ?_
    show Steps p.tables e below (T92.setTop (mkF m 274 #[.val (.int p1), .val (.int p2), .val (.int p3), .val (.ref b2), .unset] [(.int (1 : Int32)), (.int p2)])) _
    refine XS.iand X94.here hx rfl (hb hby at_274) rfl ?_
    exact Steps.refl _)
  obtain ⟨xv, preM⟩ : ∃ xv : Int32, Steps p.tables e below (s₁.setTop (entryFrame m #[(.int p1), (.int p2), (.int p3)] maxLocals)) (T92.setTop (mkF m 303 #[.val (.int p1), .val (.int p2), .val (.int p3), .val (.ref b2), .val (.int xv)] [])) := by
    rcases Decidable.em ((p2 &&& (1 : Int32)) = (0 : Int32)) with h | h
    · have h275 := h
      have pre96 : Steps p.tables e below _ (T92.setTop (mkF m 303 #[.val (.int p1), .val (.int p2), .val (.int p3), .val (.ref b2), .val (.int p1)] [])) := pre95.trans (by
        show Steps p.tables e below (T92.setTop (mkF m 275 #[.val (.int p1), .val (.int p2), .val (.int p3), .val (.ref b2), .unset] [(.int (p2 &&& (1 : Int32)))])) _
        refine XS.ifNo X94.here hx rfl (hb hby at_275) rfl ((if0 _ _).trans (teq h275).2) ?_
        show Steps p.tables e below (T92.setTop (mkF m 278 #[.val (.int p1), .val (.int p2), .val (.int p3), .val (.ref b2), .unset] [])) _
        refine XS.iloadN X94.here hx rfl (hb hby at_278) rfl ?_
        show Steps p.tables e below (T92.setTop (mkF m 279 #[.val (.int p1), .val (.int p2), .val (.int p3), .val (.ref b2), .unset] [(.int p1)])) _
        refine XS.istore X94.here hx rfl (hb hby at_279) rfl (l' := #[.val (.int p1), .val (.int p2), .val (.int p3), .val (.ref b2), .val (.int p1)]) rfl ?_
        show Steps p.tables e below (T92.setTop (mkF m 281 #[.val (.int p1), .val (.int p2), .val (.int p3), .val (.ref b2), .val (.int p1)] [])) _
        refine XS.goto X94.here hx rfl (pc0 := 281) (pc' := 303) rfl (hb hby at_281) (by decide) (by decide) ?_
        exact Steps.refl _)
      exact ⟨_, pre96⟩
    · have h275 := h
      have pre97 : Steps p.tables e below _ (T92.setTop (mkF m 284 #[.val (.int p1), .val (.int p2), .val (.int p3), .val (.ref b2), .unset] [])) := pre95.trans (by
        show Steps p.tables e below (T92.setTop (mkF m 275 #[.val (.int p1), .val (.int p2), .val (.int p3), .val (.ref b2), .unset] [(.int (p2 &&& (1 : Int32)))])) _
        refine XS.ifYes X94.here hx rfl (pc0 := 275) (pc' := 284) rfl (hb hby at_275) rfl ((if0 _ _).trans (feq h275).2) (by decide) (by decide) ?_
        exact Steps.refl _)
      obtain ⟨cl_t, Ar_t, q_t, S_t, M_t, H_t, G_t⟩ := id V92
      have pre98 : Steps p.tables e below _ (T92.setTop (mkF m 290 #[.val (.int p1), .val (.int p2), .val (.int p3), .val (.ref b2), .unset] [(.int (42 : Int32)), (.int ((p2.toUInt32 >>> ((1 : Int32) &&& 31).toUInt32).toInt32)), (.ref b2)])) := pre97.trans (by
        show Steps p.tables e below (T92.setTop (mkF m 284 #[.val (.int p1), .val (.int p2), .val (.int p3), .val (.ref b2), .unset] [])) _
        refine XS.aloadN X94.here hx rfl (hb hby at_284) rfl rfl ?_
        show Steps p.tables e below (T92.setTop (mkF m 285 #[.val (.int p1), .val (.int p2), .val (.int p3), .val (.ref b2), .unset] [(.ref b2)])) _
        refine XS.iloadN X94.here hx rfl (hb hby at_285) rfl ?_
        show Steps p.tables e below (T92.setTop (mkF m 286 #[.val (.int p1), .val (.int p2), .val (.int p3), .val (.ref b2), .unset] [(.int p2), (.ref b2)])) _
        refine XS.iconst X94.here hx rfl (hb hby at_286) ?_
        show Steps p.tables e below (T92.setTop (mkF m 287 #[.val (.int p1), .val (.int p2), .val (.int p3), .val (.ref b2), .unset] [(.int (1 : Int32)), (.int p2), (.ref b2)])) _
        refine XS.iushr X94.here hx rfl (hb hby at_287) rfl ?_
        show Steps p.tables e below (T92.setTop (mkF m 288 #[.val (.int p1), .val (.int p2), .val (.int p3), .val (.ref b2), .unset] [(.int ((p2.toUInt32 >>> ((1 : Int32) &&& 31).toUInt32).toInt32)), (.ref b2)])) _
        refine XS.aloadN X94.here hx rfl (hb hby at_288) rfl rfl ?_
        show Steps p.tables e below (T92.setTop (mkF m 289 #[.val (.int p1), .val (.int p2), .val (.int p3), .val (.ref b2), .unset] [(.ref b2), (.int ((p2.toUInt32 >>> ((1 : Int32) &&& 31).toUInt32).toInt32)), (.ref b2)])) _
        refine X94.arraylength hx (by rw [e92]; exact Ar_t.1) (State.isArrayOf_alike hZ.alike Ar_t.2.1) (g := (mkF m 289 #[.val (.int p1), .val (.int p2), .val (.int p3), .val (.ref b2), .unset] [(.ref b2), (.int ((p2.toUInt32 >>> ((1 : Int32) &&& 31).toUInt32).toInt32)), (.ref b2)])) rfl rfl (hb hby at_289) _ ?_
        rw [len_of S_t M_t]
        exact Steps.refl _)
      have pre99 : Steps p.tables e below _ (T92.setTop (mkF m 291 #[.val (.int p1), .val (.int p2), .val (.int p3), .val (.ref b2), .unset] [(.int (((p2.toUInt32 >>> ((1 : Int32) &&& 31).toUInt32).toInt32) % (42 : Int32))), (.ref b2)])) := pre98.trans (by
        show Steps p.tables e below (T92.setTop (mkF m 290 #[.val (.int p1), .val (.int p2), .val (.int p3), .val (.ref b2), .unset] [(.int (42 : Int32)), (.int ((p2.toUInt32 >>> ((1 : Int32) &&& 31).toUInt32).toInt32)), (.ref b2)])) _
        refine iremM X94 hx rfl (hb hby at_290) rfl (by decide) ?_
        exact Steps.refl _)
      obtain ⟨ix, h_ix⟩ : ∃ z, z = (((p2.toUInt32 >>> ((1 : Int32) &&& 31).toUInt32).toInt32) % (42 : Int32)) := ⟨_, rfl⟩
      rw [← h_ix] at pre99
      have bx : 0 ≤ ix.toInt ∧ ix.toInt < 42 := by have q : ((p2.toUInt32 >>> ((1 : Int32) &&& 31).toUInt32).toInt32).toInt = (p2.toInt % 4294967296) / 2 := c_iushr p2 1 1 (by decide) (by decide); have q2 := rng32 p2; have r := (c_irem ((p2.toUInt32 >>> ((1 : Int32) &&& 31).toUInt32).toInt32) 42 42 (by decide)).1 (by omega); rw [← h_ix] at r; omega
      have bx1 : ¬ ix < (0 : Int32) := by simp only [Int32.lt_iff_toInt_lt, Int32.reduceToInt]; omega
      have bx2 : ix < (42 : Int32) := by simp only [Int32.lt_iff_toInt_lt, Int32.reduceToInt]; omega
      have hin : ¬ (ix < 0 ∨ cl_t.slots.size ≤ ix.toNatClampNeg) := inb_of S_t ⟨bx1, bx2⟩
      obtain ⟨wv, hat⟩ : ∃ wv, cl_t.slots[ix.toNatClampNeg]? = some (.int wv) := ⟨_, Has.at H_t hin (own_getD own_tab _)⟩
      have pre100 : Steps p.tables e below _ (T92.setTop (mkF m 303 #[.val (.int p1), .val (.int p2), .val (.int p3), .val (.ref b2), .val (.int ((wv + ((p3 &&& (2147483647 : Int32)) % (3 : Int32))) - (1 : Int32)))] [])) := pre99.trans (by
        show Steps p.tables e below (T92.setTop (mkF m 291 #[.val (.int p1), .val (.int p2), .val (.int p3), .val (.ref b2), .unset] [(.int ix), (.ref b2)])) _
        refine X94.iaload hx (j := ix) (v := (.int wv)) (by rw [e92]; exact Ar_t.1) (State.isArrayOf_alike hZ.alike Ar_t.2.1) Ar_t.2.2 hin hat (g := (mkF m 291 #[.val (.int p1), .val (.int p2), .val (.int p3), .val (.ref b2), .unset] [(.int ix), (.ref b2)])) rfl rfl (hb hby at_291) _ ?_
        show Steps p.tables e below (T92.setTop (mkF m 292 #[.val (.int p1), .val (.int p2), .val (.int p3), .val (.ref b2), .unset] [(.int wv)])) _
        refine XS.iloadN X94.here hx rfl (hb hby at_292) rfl ?_
        show Steps p.tables e below (T92.setTop (mkF m 293 #[.val (.int p1), .val (.int p2), .val (.int p3), .val (.ref b2), .unset] [(.int p3), (.int wv)])) _
        refine X94.ldcInt hx hown (mvT hZ (hw _ (List.mem_of_getElem? (i := 9) rfl))) (g := (mkF m 293 #[.val (.int p1), .val (.int p2), .val (.int p3), .val (.ref b2), .unset] [(.int p3), (.int wv)])) rfl (hb hby at_293) _ ?_
        show Steps p.tables e below (T92.setTop (mkF m 295 #[.val (.int p1), .val (.int p2), .val (.int p3), .val (.ref b2), .unset] [(.int (2147483647 : Int32)), (.int p3), (.int wv)])) _
        refine XS.iand X94.here hx rfl (hb hby at_295) rfl ?_
        show Steps p.tables e below (T92.setTop (mkF m 296 #[.val (.int p1), .val (.int p2), .val (.int p3), .val (.ref b2), .unset] [(.int (p3 &&& (2147483647 : Int32))), (.int wv)])) _
        refine XS.iconst X94.here hx rfl (hb hby at_296) ?_
        show Steps p.tables e below (T92.setTop (mkF m 297 #[.val (.int p1), .val (.int p2), .val (.int p3), .val (.ref b2), .unset] [(.int (3 : Int32)), (.int (p3 &&& (2147483647 : Int32))), (.int wv)])) _
        refine iremM X94 hx rfl (hb hby at_297) rfl (by decide) ?_
        show Steps p.tables e below (T92.setTop (mkF m 298 #[.val (.int p1), .val (.int p2), .val (.int p3), .val (.ref b2), .unset] [(.int ((p3 &&& (2147483647 : Int32)) % (3 : Int32))), (.int wv)])) _
        refine XS.iadd X94.here hx rfl (hb hby at_298) rfl ?_
        show Steps p.tables e below (T92.setTop (mkF m 299 #[.val (.int p1), .val (.int p2), .val (.int p3), .val (.ref b2), .unset] [(.int (wv + ((p3 &&& (2147483647 : Int32)) % (3 : Int32))))])) _
        refine XS.iconst X94.here hx rfl (hb hby at_299) ?_
        show Steps p.tables e below (T92.setTop (mkF m 300 #[.val (.int p1), .val (.int p2), .val (.int p3), .val (.ref b2), .unset] [(.int (1 : Int32)), (.int (wv + ((p3 &&& (2147483647 : Int32)) % (3 : Int32))))])) _
        refine XS.isub X94.here hx rfl (hb hby at_300) rfl ?_
        show Steps p.tables e below (T92.setTop (mkF m 301 #[.val (.int p1), .val (.int p2), .val (.int p3), .val (.ref b2), .unset] [(.int ((wv + ((p3 &&& (2147483647 : Int32)) % (3 : Int32))) - (1 : Int32)))])) _
        refine XS.istore X94.here hx rfl (hb hby at_301) rfl (l' := #[.val (.int p1), .val (.int p2), .val (.int p3), .val (.ref b2), .val (.int ((wv + ((p3 &&& (2147483647 : Int32)) % (3 : Int32))) - (1 : Int32)))]) rfl ?_
        exact Steps.refl _)
      exact ⟨_, pre100⟩
  have pre101 : Steps p.tables e below _ (T92.setTop (mkF m 305 #[.val (.int p1), .val (.int p2), .val (.int p3), .val (.ref b2), .val (.int xv)] [(.int xv)])) := preM.trans (by
    show Steps p.tables e below (T92.setTop (mkF m 303 #[.val (.int p1), .val (.int p2), .val (.int p3), .val (.ref b2), .val (.int xv)] [])) _
    refine XS.iload X94.here hx rfl (hb hby at_303) rfl ?_
    exact Steps.refl _)
  obtain ⟨_, _, ⟨T102, L102, k102, n102⟩, -, X102, ⟨Lc102, hQ102, l102, y102, z102⟩, st102⟩ := Jvm.LawKit.callS X94 hx (y := (⟨"com/example/summarium/summarium/cda/XmlNames", "isNameChar", "(I)Z"⟩ : MethodName)) hown (mvT hZ (hw _ (List.mem_of_getElem? (i := 10) rfl))) (mvT hZ (hw _ (List.mem_of_getElem? (i := 11) rfl))) (mvT hZ (hw _ (List.mem_of_getElem? (i := 12) rfl))) (mvT hZ (hw _ (List.mem_of_getElem? (i := 13) rfl))) (by decide) (backOf (W := 0) (rmC l Z a0 hw [] xv h92 n0 Z92) hZ (hw _ (List.mem_of_getElem? (i := 13) rfl)) (hw _ (List.mem_of_getElem? (i := 12) rfl)) (by decide) (by decide)) (g := (mkF m 305 #[.val (.int p1), .val (.int p2), .val (.int p3), .val (.ref b2), .val (.int xv)] [(.int xv)])) rfl (by rw [hml]; rfl) (argsL := [(.int xv)]) (rest := []) (lenOf pd_rm0_0 rfl) rfl (by show 2 * 0 + _ ≤ _; exact Nat.le_of_eq rfl) (hb hby at_305) (fun _ _ => ⟨rfl, e92, (by decide : 1 + 0 ≤ _), (by decide : 42 + 0 ≤ _)⟩)
  dsimp only [Pt.U, Pt.locs, Pt.cells, Pt.slots] at X102 l102 y102 z102 st102 hQ102
  subst l102 y102 z102
  obtain ⟨rfl, N102q, hh102⟩ := hQ102
  have N102 := Fr.app N94 N102q
  have pre102 : Steps p.tables e below _ (T102.setTop (mkF m 308 #[.val (.int p1), .val (.int p2), .val (.int p3), .val (.ref b2), .val (.int xv)] [(.int (own_nc_0_12 xv))])) := pre101.trans (st102 _ (Steps.refl _))
  have pre103 : Steps p.tables e below _ (T102.setTop (mkF m 310 #[.val (.int p1), .val (.int p2), .val (.int p3), .val (.ref b2), .val (.int xv)] [(.int xv), (.int (own_nc_0_12 xv))])) := pre102.trans (by
    show Steps p.tables e below (T102.setTop (mkF m 308 #[.val (.int p1), .val (.int p2), .val (.int p3), .val (.ref b2), .val (.int xv)] [(.int (own_nc_0_12 xv))])) _
    refine XS.iload X102.here hx rfl (hb hby at_308) rfl ?_
    exact Steps.refl _)
  obtain ⟨_, _, ⟨T104, L104, k104, n104⟩, -, X104, ⟨Lc104, hQ104, l104, y104, z104⟩, st104⟩ := Jvm.LawKit.callS X102 hx (y := (⟨"com/example/summarium/summarium/cda/XmlNamesIsNameCharPinLaw", "reference", "(I)Z"⟩ : MethodName)) hown (mvT hZ (hw _ (List.mem_of_getElem? (i := 20) rfl))) (mvT hZ (hw _ (List.mem_of_getElem? (i := 21) rfl))) (mvT hZ (hw _ (List.mem_of_getElem? (i := 22) rfl))) (mvT hZ (hw _ (List.mem_of_getElem? (i := 23) rfl))) (by decide) (backOf (W := 1) (rmR l Z a0 hw [] xv h92 n0 Z92) hZ (hw _ (List.mem_of_getElem? (i := 23) rfl)) (hw _ (List.mem_of_getElem? (i := 22) rfl)) (by decide) (by decide)) (g := (mkF m 310 #[.val (.int p1), .val (.int p2), .val (.int p3), .val (.ref b2), .val (.int xv)] [(.int xv), (.int (own_nc_0_12 xv))])) rfl (by rw [hml]; rfl) (argsL := [(.int xv)]) (rest := [(.int (own_nc_0_12 xv))]) (lenOf pd_rm0_0 rfl) rfl (by show 2 * 0 + _ ≤ _; exact Nat.le_of_eq rfl) (hb hby at_310) (fun _ _ => ⟨rfl, hh102, (by decide : 1 + 0 ≤ _), (by decide : 42 + 0 ≤ _)⟩)
  dsimp only [Pt.U, Pt.locs, Pt.cells, Pt.slots] at X104 l104 y104 z104 st104 hQ104
  subst l104 y104 z104
  obtain ⟨rfl, N104q, hh104⟩ := hQ104
  have N104 := Fr.app N102 N104q
  have pre104 : Steps p.tables e below _ (T104.setTop (mkF m 313 #[.val (.int p1), .val (.int p2), .val (.int p3), .val (.ref b2), .val (.int xv)] [(.int (own_ref_0 xv)), (.int (own_nc_0_12 xv))])) := pre103.trans (st104 _ (Steps.refl _))
  have hres : own_nc_0_12 xv = own_ref_0 xv := own_ok xv
  have pre105 : Steps p.tables e below _ (T104.setTop (mkF m 321 #[.val (.int p1), .val (.int p2), .val (.int p3), .val (.ref b2), .val (.int xv)] [(.int (1 : Int32))])) := pre104.trans (by
    show Steps p.tables e below (T104.setTop (mkF m 313 #[.val (.int p1), .val (.int p2), .val (.int p3), .val (.ref b2), .val (.int xv)] [(.int (own_ref_0 xv)), (.int (own_nc_0_12 xv))])) _
    refine XS.icmpNo X104.here hx rfl (hb hby at_313) rfl (teq (hres)).2 ?_
    show Steps p.tables e below (T104.setTop (mkF m 316 #[.val (.int p1), .val (.int p2), .val (.int p3), .val (.ref b2), .val (.int xv)] [])) _
    refine XS.iconst X104.here hx rfl (hb hby at_316) ?_
    show Steps p.tables e below (T104.setTop (mkF m 317 #[.val (.int p1), .val (.int p2), .val (.int p3), .val (.ref b2), .val (.int xv)] [(.int (1 : Int32))])) _
    refine XS.goto X104.here hx rfl (pc0 := 317) (pc' := 321) rfl (hb hby at_317) (by decide) (by decide) ?_
    exact Steps.refl _)
  obtain ⟨fs, hr, hrun, hended, hW, hsame⟩ := X104.leave (v := some (.int (1 : Int32))) (fun h => by rw [Bd.returns] at h; cases h)
  refine ⟨_, _, pre105.trans ?_, hrun, hended, _, _, rfl, ?_, ⟨_, rfl⟩, hW, hsame.mono (by decide) (by decide)⟩
  · exact retN X104 hx (t := .boolean) Bd.returns (by simp) (hb hby at_321) hr
  · exact ⟨rfl, N104⟩
set_option maxRecDepth 65536 in
set_option maxHeartbeats 40000000 in
theorem comes_1 {Post : Tables → Env → Array Value → State → Outcome → State → Prop} (hpost : ∀ tb e args s v u, (limb_1_1.after args s (.returned v) u = true ∧ limb_1_2.after args s (.returned v) u = true ∧ True) → FrameEnd s (.returned v) u (Jvm.fieldLocs frame_1_writes args s ++ Jvm.arrayLocs frame_1_arrays args s ++ Jvm.staticLocs frame_1_statics s) 16 192 → Post tb e args s (.returned v) u) :
    ArmFor flags0 classFile x code maxLocals ret World_1 tables_1 room_1 Calls_1 rest_1 Pre_1 Post := by
  intro l hfl _ _ p e ha hc hk s m args below hf hA hF happ hP
  obtain ⟨hcalls, hrest, hpre⟩ := hP
  obtain ⟨-, -, -, hnamed, -, -, -, hat⟩ := (Spec.applies_iff hf).mp happ
  obtain ⟨hg, hn⟩ := and_e (Cond.before_iff.mp (show (Jvm.Cond.and given_1 narrow_1).before args s = true from hpre))
  obtain ⟨g0, r0⟩ := and_e hg
  obtain ⟨w0, w1, w2, rfl⟩ : ∃ w0 w1 w2 : Value, args = #[w0, w1, w2] := by
    have hs : args.size = 3 := by simpa [Cond.value, given_1] using g0
    obtain ⟨L⟩ := args
    match L, hs with
    | [w0, w1, w2], _ => exact ⟨w0, w1, w2, rfl⟩
  have hw := fun d (hd : d ∈ tables_1) => atoms_spec (ws := Jvm.Cond.code x code maxLocals ret :: tables_1) hat d (List.mem_cons_of_mem _ hd)
  have hfit : Fit s := fun {y c} hc i hi => by
    obtain ⟨ha, rfl⟩ := Array.getElem?_eq_some_iff.mp hc
    have q := List.all_eq_true.mp ((Array.all_eq_true_iff_forall_mem.mp hF) _ (Array.getElem_mem ha)) i (List.mem_range.mpr hi)
    simpa [Array.getElem?_eq_getElem hi] using q
  obtain ⟨g1, r1⟩ := and_e r0
  obtain ⟨i0, ei0⟩ := is_v g1
  obtain rfl : w0 = (.int i0) := Option.some.inj ei0
  obtain ⟨g2, r2⟩ := and_e r1
  obtain ⟨i1, ei1⟩ := is_v g2
  obtain rfl : w1 = (.int i1) := Option.some.inj ei1
  obtain ⟨i2, ei2⟩ := is_v r2
  obtain rfl : w2 = (.int i2) := Option.some.inj ei2
  obtain ⟨n, o, h1, h2, h3, _, L, rfl, ⟨rfl, N⟩, hq⟩ := rm0 l s _ hw tables_1 i0 i1 i2 s.heap s.heap.size (Nat.le_refl _)  p e ha hc hk s m _ below hf ((Spec.applies_iff_loose hf).mp happ).1 ⟨rfl, State.Warmed39.refl s, rfl⟩ trivial
  refine ⟨n, _, h1, h2, h3, hpost _ _ _ _ _ _ ⟨Cond.after_iff.mpr rfl, Cond.after_iff.mpr (eq_i res_at (Term.int_eval (1)) rfl), trivial⟩ ⟨hq.1, hq.2.1, (hq.2.2.sift fun y hy => Or.inr (N y hy)).mono (by decide) (by decide)⟩⟩
theorem main_1_1 : Claimed_1_1 := comes_1 fun _ _ _ _ _ _ h hF => ⟨h.1, hF⟩
theorem main_1_2 : Claimed_1_2 := comes_1 fun _ _ _ _ _ _ h hF => ⟨h.2.1, hF⟩
end Jvm.Pilot.@@N@@
namespace Jvm.Pilot.@@N@@
open Jvm Jvm.ClassFile Sem Op Lib Jvm.Free Jvm.Stand Jvm.Pilot.@@N@@.Jvm.D
/-! MADE BY PROGRAM (witnessworld.py) out of the Statement's table words and the real class files: 9 classes; the members and pool entries that the words name. The judged class is class 1, her method 3. -/
namespace start1
open Jvm.ClassFile
def u (s : String) : CpInfo := .utf8 (stringToUtf16 s)
/-- a pool by its gaps: so many unusable entries, then the entry; so many at the end -/
def gap : Nat → List CpInfo → List CpInfo
  | 0, r => r
  | n + 1, r => .unusable :: gap n r
def poolList (es : List (Nat × CpInfo)) (last : Nat) : List CpInfo := es.foldr (fun e r => gap e.1 (e.2 :: r)) (gap last [])
def pool (es : List (Nat × CpInfo)) (last : Nat) : Array CpInfo := ⟨poolList es last⟩
def fileOf (pool : Array CpInfo) (this : Nat) (attrs : Array Attribute := #[]) (ms : Array MethodInfo := #[]) (fl : Nat := 33) (sup : Nat := 0) (ifs : Array Nat := #[]) (fds : Array FieldInfo := #[]) : ClassFile where
  minorVersion := 0
  majorVersion := 65
  constantPool := pool
  accessFlags := fl
  thisClass := this
  superClass := sup
  interfaces := ifs
  fields := fds
  methods := ms
  attributes := attrs
def plain (name : String) (sup : Option ClassId) : Class where
  name := name
  kind := .ordinary
  loader := none
  accessFlags := 33
  super := sup
  interfaces := #[]
  cf := none
  fields := #[]
  methods := #[]
  instanceTypes := #[]
  staticTypes := #[]
  resolved := #[]
  callSites := []
  init := .initialized
  statics := none
  mirror := none

def pool0 : Array CpInfo := pool [(5, u "<init>"), (0, u "()V"), (1, .class_ 10), (1, u "java/lang/Object")] 113

def k0m0 : Method := { name := "<init>", desc := "()V", sig := { parameters := [], returnType := none }, accessFlags := 1, code := none }
/-- java/lang/Object -/
def k0 : Class := { plain "java/lang/Object" none with
  accessFlags := 33
  interfaces := #[]
  cf := some (fileOf pool0 8 #[] #[{ accessFlags := 1, nameIndex := 5, descriptorIndex := 6, attributes := #[] }] 33 0 #[] #[])
  fields := #[]
  methods := #[k0m0]
  instanceTypes := #[]
  staticTypes := #[]
  resolved := Array.replicate 124 none
  statics := none }

def pool1 : Array CpInfo := pool [(2, .class_ 4), (1, u "java/lang/Object"), (0, u "<init>"), (0, u "()V"), (0, .methodref 8 9), (0, .class_ 10), (0, .nameAndType 11 12), (0, u "com/example/summarium/summarium/cda/XmlNamesIsNameCharPinLaw"), (0, u "in"), (0, u "(III)Z"), (0, .integer 55295), (0, .integer 63744), (0, .integer 64975), (0, .integer 65008), (0, .integer 65533), (0, .integer 65536), (0, .integer 983039), (2, .integer 2147483648), (0, .integer 2147483647), (0, .methodref 25 26), (0, .class_ 27), (0, .nameAndType 28 29), (0, u "com/example/summarium/summarium/cda/XmlNames"), (0, u "isNameChar"), (0, u "(I)Z"), (0, .methodref 8 31), (0, .nameAndType 32 29), (0, u "reference"), (3, u "law")] 4

def k1m0 : Method := { name := "<init>", desc := "()V", sig := { parameters := [], returnType := none }, accessFlags := 2, code := none }
def k1c1 : Code := { maxStack := 2, maxLocals := 3, code := method_2_code, exceptionTable := #[], attributes := #[] }
def k1m1 : Method := { name := "in", desc := "(III)Z", sig := { parameters := [.int, .int, .int], returnType := some .boolean }, accessFlags := 10, code := some k1c1 }
def k1c2 : Code := { maxStack := 3, maxLocals := 1, code := method_3_code, exceptionTable := #[], attributes := #[] }
def k1m2 : Method := { name := "reference", desc := "(I)Z", sig := { parameters := [.int], returnType := some .boolean }, accessFlags := 10, code := some k1c2 }
def k1c3 : Code := { maxStack := 4, maxLocals := 5, code := code, exceptionTable := #[], attributes := #[] }
def k1m3 : Method := { name := "law", desc := "(III)Z", sig := { parameters := [.int, .int, .int], returnType := some .boolean }, accessFlags := 9, code := some k1c3 }
/-- com/example/summarium/summarium/cda/XmlNamesIsNameCharPinLaw -/
def k1 : Class := { plain "com/example/summarium/summarium/cda/XmlNamesIsNameCharPinLaw" (some 0) with
  accessFlags := 49
  interfaces := #[]
  cf := some (fileOf pool1 8 #[] #[{ accessFlags := 2, nameIndex := 5, descriptorIndex := 6, attributes := #[] }, { accessFlags := 10, nameIndex := 11, descriptorIndex := 12, attributes := #[] }, { accessFlags := 10, nameIndex := 32, descriptorIndex := 29, attributes := #[] }, { accessFlags := 9, nameIndex := 36, descriptorIndex := 12, attributes := #[] }] 49 2 #[] #[])
  fields := #[]
  methods := #[k1m0, k1m1, k1m2, k1m3]
  instanceTypes := #[]
  staticTypes := #[]
  resolved := Array.replicate 41 none
  statics := none }

def pool2 : Array CpInfo := pool [(2, .class_ 4), (1, u "java/lang/Object"), (0, u "<init>"), (0, u "()V"), (0, .integer 55295), (0, .integer 63744), (0, .integer 64975), (0, .integer 65008), (0, .integer 65533), (0, .integer 65536), (0, .integer 983039), (0, .methodref 15 16), (0, .class_ 17), (0, .nameAndType 18 19), (0, u "com/example/summarium/summarium/cda/XmlNames"), (0, u "isNameStart"), (0, u "(I)Z"), (2, u "isNameChar"), (4, .class_ 29), (1, u "com/example/summarium/summarium/cda/XmlNames$SchemaNameChars"), (27, .class_ 58), (0, u "com/example/summarium/summarium/cda/XmlNames$SchemaNameChars$1")] 2

def k2m0 : Method := { name := "<init>", desc := "()V", sig := { parameters := [], returnType := none }, accessFlags := 2, code := none }
def k2c1 : Code := { maxStack := 2, maxLocals := 1, code := prog_60_method_2_code, exceptionTable := #[], attributes := #[] }
def k2m1 : Method := { name := "isNameStart", desc := "(I)Z", sig := { parameters := [.int], returnType := some .boolean }, accessFlags := 8, code := some k2c1 }
def k2c2 : Code := { maxStack := 2, maxLocals := 1, code := prog_60_method_3_code, exceptionTable := #[], attributes := #[] }
def k2m2 : Method := { name := "isNameChar", desc := "(I)Z", sig := { parameters := [.int], returnType := some .boolean }, accessFlags := 8, code := some k2c2 }
/-- com/example/summarium/summarium/cda/XmlNames -/
def k2 : Class := { plain "com/example/summarium/summarium/cda/XmlNames" (some 0) with
  accessFlags := 49
  interfaces := #[]
  cf := some (fileOf pool2 15 #[.nestMembers #[27, 57]] #[{ accessFlags := 2, nameIndex := 5, descriptorIndex := 6, attributes := #[] }, { accessFlags := 8, nameIndex := 18, descriptorIndex := 19, attributes := #[] }, { accessFlags := 8, nameIndex := 22, descriptorIndex := 19, attributes := #[] }] 49 2 #[] #[])
  fields := #[]
  methods := #[k2m0, k2m1, k2m2]
  instanceTypes := #[]
  staticTypes := #[]
  resolved := Array.replicate 61 none
  statics := none }

def pool3 : Array CpInfo := pool [(1, u "java/lang/Cloneable"), (0, .class_ 1), (0, u "java/lang/Object"), (0, .class_ 3)] 3

/-- java/lang/Cloneable -/
def k3 : Class := { plain "java/lang/Cloneable" (some 0) with
  accessFlags := 1537
  interfaces := #[]
  cf := some (fileOf pool3 2 #[] #[] 1537 4 #[] #[])
  fields := #[]
  methods := #[]
  instanceTypes := #[]
  staticTypes := #[]
  resolved := Array.replicate 8 none
  statics := none }

def pool4 : Array CpInfo := pool [(1, u "java/io/Serializable"), (0, .class_ 1), (0, u "java/lang/Object"), (0, .class_ 3)] 3

/-- java/io/Serializable -/
def k4 : Class := { plain "java/io/Serializable" (some 0) with
  accessFlags := 1537
  interfaces := #[]
  cf := some (fileOf pool4 2 #[] #[] 1537 4 #[] #[])
  fields := #[]
  methods := #[]
  instanceTypes := #[]
  staticTypes := #[]
  resolved := Array.replicate 8 none
  statics := none }

/-- the primitive byte -/
def k5 : Class := { plain "byte" none with kind := .primitive 'B', accessFlags := 0x411 }
/-- [B -/
def k6 : Class := { plain "[B" (some 0) with kind := .array 5 .byte, interfaces := #[3, 4], accessFlags := 1041 }

/-- the primitive int -/
def k7 : Class := { plain "int" none with kind := .primitive 'I', accessFlags := 0x411 }
/-- [I -/
def k8 : Class := { plain "[I" (some 0) with kind := .array 7 .int, interfaces := #[3, 4], accessFlags := 1041 }

def heap : Heap := #[]
def classes : Array Class := #[k0, k1, k2, k3, k4, k5, k6, k7, k8]
def interned : List (Array UInt16 × Addr) := []
def slotsUsed : Nat := 0
def theMethod : MethodId := ⟨1, 3⟩
def args0 : Array Value := #[.int 97, .int 3, .int 2]
def aboutOver (below : List Frame) : State where
  vm := { classes := classes, interned := interned.toArray }
  heap := heap
  slotsUsed := slotsUsed
  threads := #[{ frames := .invoking theMethod args0 :: below }]
def below0 : List Frame := [.native { method := ⟨0, 0⟩, args := #[] }]
def about1 : State := aboutOver below0
def p0 : Program := .bare "" "" ""
def e0 : Env := launch0.env 0 0 0
theorem w_frames : about1.frames = Frame.invoking theMethod args0 :: below0 := rfl
set_option maxRecDepth 65536 in
theorem w_args : argsFit about1.vm theMethod args0 = true := by decide +kernel
set_option maxRecDepth 65536 in
theorem w_heap : heapFits about1 = true := by decide +kernel
set_option maxRecDepth 65536 in
theorem w_runnable : about1.curStatus? = some .runnable := by decide +kernel
set_option maxRecDepth 65536 in
theorem w_alone : about1.alone = true := by decide +kernel
set_option maxRecDepth 65536 in
theorem w_named : about1.methodNamed? x = some theMethod := by decide +kernel
set_option maxRecDepth 65536 in
theorem w_hears : about1.hears theMethod below0 = true := by decide +kernel
set_option maxRecDepth 65536 in
theorem w_ripe : about1.ripe theMethod args0 below0 = true := by decide +kernel
theorem w_running : about1.status = .running := rfl
set_option maxRecDepth 65536 in
theorem w_room : about1.hasRoom e0.platform room_1 = true :=
  launch0.hasRoom_least _ room_1 (by decide +kernel) (by decide +kernel) (by decide +kernel) (by decide +kernel) (by decide +kernel) (by decide +kernel)
theorem allAtoms_all (ts : List Jvm.Cond) (a : Array Jvm.Value) (st : Jvm.State) : (allAtoms ts).before a st = ts.all (fun c => c.before a st) := by
  induction ts with
  | nil => rfl
  | cons c t ih =>
    show (Jvm.Cond.and c (allAtoms t)).before a st = _
    rw [Jvm.Cond.before_and, ih, List.all_cons]
def words1 : List Jvm.Cond := Jvm.Cond.code x code maxLocals ret :: tables_1
/-- a 'code' word, met by the world's own term for the bytes: nothing is compared byte by byte -/
theorem code_word {y : MethodName} {bytes : ByteArray} {mx : Nat} {rt : Option FieldType} {a : Array Value} {s : State} {m : MethodId} {meth : Method} {c : Code} (h1 : s.methodNamed? y = some m) (h2 : s.vm.method? m = some meth) (h3 : meth.code = some c) (h4 : c.code = bytes)
    (h5 : (c.maxLocals == mx && c.exceptionTable.isEmpty && decide (c.maxStack ≤ mostOperands) && decide (meth.sig.returnType = rt) && !meth.locks && decide (parseMethodDescriptor y.desc = some meth.sig)) = true) : (Jvm.Cond.code y bytes mx rt).before a s = true := by
  simp only [Bool.and_eq_true, beq_iff_eq, Bool.not_eq_true', decide_eq_true_eq] at h5
  obtain ⟨⟨⟨⟨⟨g1, g2⟩, g3⟩, g4⟩, g5⟩, g6⟩ := h5
  simp [Cond.before, Cond.holds, Cond.value, h1, h2, h3, h4, g1, g2, g3, g4, g5, g6]
def isCode : Jvm.Cond → Bool
  | .code _ _ _ _ => true
  | _ => false
theorem all_split {L : List Jvm.Cond} {P : Jvm.Cond → Bool} (h1 : L.all (fun c => isCode c || P c) = true) (h2 : ∀ c ∈ L.filter isCode, P c = true) : L.all P = true := by
  refine List.all_eq_true.mpr fun c hc => ?_
  have h := List.all_eq_true.mp h1 c hc
  rcases Bool.eq_false_or_eq_true (isCode c) with hi | hi
  · exact h2 c (List.mem_filter.mpr ⟨hc, hi⟩)
  · simpa [hi] using h
set_option maxRecDepth 65536 in
theorem w_c0 : (Jvm.Cond.code x code maxLocals ret).before args0 about1 = true := code_word (m := ⟨1, 3⟩) (meth := k1m3) (c := k1c3) (by decide +kernel) rfl rfl rfl (by decide +kernel)
set_option maxRecDepth 65536 in
theorem w_c1 : (Jvm.Cond.code ({ cls := "com/example/summarium/summarium/cda/XmlNames", name := "isNameChar", desc := "(I)Z" } : Jvm.MethodName) prog_60_method_3_code (1 : Nat) (Option.some Jvm.ClassFile.FieldType.boolean)).before args0 about1 = true := code_word (m := ⟨2, 2⟩) (meth := k2m2) (c := k2c2) (by decide +kernel) rfl rfl rfl (by decide +kernel)
set_option maxRecDepth 65536 in
theorem w_c2 : (Jvm.Cond.code ({ cls := "com/example/summarium/summarium/cda/XmlNames", name := "isNameStart", desc := "(I)Z" } : Jvm.MethodName) prog_60_method_2_code (1 : Nat) (Option.some Jvm.ClassFile.FieldType.boolean)).before args0 about1 = true := code_word (m := ⟨2, 1⟩) (meth := k2m1) (c := k2c1) (by decide +kernel) rfl rfl rfl (by decide +kernel)
set_option maxRecDepth 65536 in
theorem w_c3 : (Jvm.Cond.code ({ cls := "com/example/summarium/summarium/cda/XmlNamesIsNameCharPinLaw", name := "reference", desc := "(I)Z" } : Jvm.MethodName) method_3_code (1 : Nat) (Option.some Jvm.ClassFile.FieldType.boolean)).before args0 about1 = true := code_word (m := ⟨1, 2⟩) (meth := k1m2) (c := k1c2) (by decide +kernel) rfl rfl rfl (by decide +kernel)
set_option maxRecDepth 65536 in
theorem w_c4 : (Jvm.Cond.code ({ cls := "com/example/summarium/summarium/cda/XmlNamesIsNameCharPinLaw", name := "in", desc := "(III)Z" } : Jvm.MethodName) method_2_code (3 : Nat) (Option.some Jvm.ClassFile.FieldType.boolean)).before args0 about1 = true := code_word (m := ⟨1, 1⟩) (meth := k1m1) (c := k1c1) (by decide +kernel) rfl rfl rfl (by decide +kernel)
def codes1 : List Jvm.Cond := [Jvm.Cond.code x code maxLocals ret, Jvm.Cond.code ({ cls := "com/example/summarium/summarium/cda/XmlNames", name := "isNameChar", desc := "(I)Z" } : Jvm.MethodName) prog_60_method_3_code (1 : Nat) (Option.some Jvm.ClassFile.FieldType.boolean), Jvm.Cond.code ({ cls := "com/example/summarium/summarium/cda/XmlNames", name := "isNameStart", desc := "(I)Z" } : Jvm.MethodName) prog_60_method_2_code (1 : Nat) (Option.some Jvm.ClassFile.FieldType.boolean), Jvm.Cond.code ({ cls := "com/example/summarium/summarium/cda/XmlNamesIsNameCharPinLaw", name := "reference", desc := "(I)Z" } : Jvm.MethodName) method_3_code (1 : Nat) (Option.some Jvm.ClassFile.FieldType.boolean), Jvm.Cond.code ({ cls := "com/example/summarium/summarium/cda/XmlNamesIsNameCharPinLaw", name := "in", desc := "(III)Z" } : Jvm.MethodName) method_2_code (3 : Nat) (Option.some Jvm.ClassFile.FieldType.boolean)]
set_option maxRecDepth 65536 in
theorem codes_eq : words1.filter isCode = codes1 := rfl
theorem w_codes : ∀ c ∈ words1.filter isCode, c.before args0 about1 = true := by
  rw [codes_eq]
  intro c hc
  simp only [codes1, List.mem_cons, List.not_mem_nil, or_false] at hc
  rcases hc with rfl | rfl | rfl | rfl | rfl
  · exact w_c0
  · exact w_c1
  · exact w_c2
  · exact w_c3
  · exact w_c4
set_option maxRecDepth 65536 in
theorem w_t1 : (words1.take 24).all (fun c => isCode c || c.before args0 about1) = true := by decide +kernel
set_option maxRecDepth 65536 in
theorem w_t2 : (words1.drop 24).all (fun c => isCode c || c.before args0 about1) = true := by decide +kernel
theorem w_tables : (allAtoms (Jvm.Cond.code x code maxLocals ret :: tables_1)).before args0 about1 = true := by
  rw [allAtoms_all]
  show words1.all (fun c => c.before args0 about1) = true
  refine all_split ?_ w_codes
  rw [← List.take_append_drop 24 words1, List.all_append, w_t1, w_t2]
  rfl
set_option maxRecDepth 65536 in
theorem w_case : (Jvm.Cond.and given_1 narrow_1).before args0 about1 = true := by decide +kernel
theorem w_applies : (headSpec (Jvm.Cond.code x code maxLocals ret :: tables_1) room_1).applies x e0.platform about1 = true :=
  (Spec.applies_iff w_frames).mpr ⟨w_running, w_runnable, w_alone, w_named, w_hears, w_ripe, w_room, w_tables⟩
theorem atStart : AtStart classFile x code maxLocals ret World_1 tables_1 room_1 Calls_1 rest_1 Pre_1 launch0 p0 e0 about1 theMethod args0 below0 :=
  ⟨lists_1, trivial, launch0.admits_env _ _ _, launch0.least_env, fairChoices_fair.cas, fairChoices_fair.clock, w_frames, w_args, w_heap, w_applies, trivial, trivial, w_case⟩
end start1
theorem witness_1 : WitnessClaimed_1 := ⟨start1.p0, start1.e0, start1.about1, start1.theMethod, start1.args0, start1.below0, start1.atStart⟩
end Jvm.Pilot.@@N@@
