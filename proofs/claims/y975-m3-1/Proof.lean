import JvmDerived
import JvmDerived.Pilot.@@N@@Statement
import JvmDerived.Pilot.@@N@@Code
set_option linter.unusedVariables false
set_option linter.unusedSimpArgs false
namespace Jvm.Pilot.@@N@@
open Jvm Jvm.ClassFile Sem Op Lib Jvm.Free Jvm.Stand Jvm.LawKit Jvm.RoadKit Bundle Jvm.Pilot.@@N@@.Jvm.D
theorem d1_0 : decode prog_23_method_9_code 0 = .ok (.iload_n 0, 1) := by decide +kernel
theorem d1_1 : decode prog_23_method_9_code 1 = .ok (.bipush 97, 2) := by decide +kernel
theorem d1_3 : decode prog_23_method_9_code 3 = .ok (.if_icmp .lt 9, 3) := by decide +kernel
theorem d1_6 : decode prog_23_method_9_code 6 = .ok (.iload_n 0, 1) := by decide +kernel
theorem d1_7 : decode prog_23_method_9_code 7 = .ok (.bipush 122, 2) := by decide +kernel
theorem d1_9 : decode prog_23_method_9_code 9 = .ok (.if_icmp .le 21, 3) := by decide +kernel
theorem d1_12 : decode prog_23_method_9_code 12 = .ok (.iload_n 0, 1) := by decide +kernel
theorem d1_13 : decode prog_23_method_9_code 13 = .ok (.bipush 65, 2) := by decide +kernel
theorem d1_15 : decode prog_23_method_9_code 15 = .ok (.if_icmp .lt 9, 3) := by decide +kernel
theorem d1_18 : decode prog_23_method_9_code 18 = .ok (.iload_n 0, 1) := by decide +kernel
theorem d1_19 : decode prog_23_method_9_code 19 = .ok (.bipush 90, 2) := by decide +kernel
theorem d1_21 : decode prog_23_method_9_code 21 = .ok (.if_icmp .le 9, 3) := by decide +kernel
theorem d1_24 : decode prog_23_method_9_code 24 = .ok (.iload_n 0, 1) := by decide +kernel
theorem d1_25 : decode prog_23_method_9_code 25 = .ok (.bipush 95, 2) := by decide +kernel
theorem d1_27 : decode prog_23_method_9_code 27 = .ok (.if_icmp .ne 7, 3) := by decide +kernel
theorem d1_30 : decode prog_23_method_9_code 30 = .ok (.iconst 1, 1) := by decide +kernel
theorem d1_31 : decode prog_23_method_9_code 31 = .ok (.goto 4, 3) := by decide +kernel
theorem d1_34 : decode prog_23_method_9_code 34 = .ok (.iconst 0, 1) := by decide +kernel
theorem d1_35 : decode prog_23_method_9_code 35 = .ok (.ireturn, 1) := by decide +kernel
theorem pn_rm1 : plainName "com/example/sound_schema/soundschema/Lexer" = true := by first | (simp [plainName, overriddenIn]; done) | decide +kernel
theorem ef_rm1 (m : MethodId) (p1 : Int32) : entryFrame m #[(.int p1)] 1 = (mkF m 0 #[.val (.int p1)] []) := by first | (simp [entryFrame, mkF, argsToLocals, Value.category]; done) | rfl
def own_st_0_1 (p1 : Int32) : Int32 := (0 : Int32)
def own_st_0_2 (p1 : Int32) : Int32 := (1 : Int32)
def own_st_0_3 (p1 : Int32) : Int32 := if p1 = (95 : Int32) then own_st_0_2 p1 else own_st_0_1 p1
def own_st_0_4 (p1 : Int32) : Int32 := if (90 : Int32) < p1 then own_st_0_3 p1 else own_st_0_2 p1
def own_st_0_5 (p1 : Int32) : Int32 := if p1 < (65 : Int32) then own_st_0_3 p1 else own_st_0_4 p1
def own_st_0_6 (p1 : Int32) : Int32 := if (122 : Int32) < p1 then own_st_0_5 p1 else own_st_0_2 p1
def own_st_0_7 (p1 : Int32) : Int32 := if p1 < (97 : Int32) then own_st_0_5 p1 else own_st_0_6 p1
def Q_rm1 (Z : State) (p1 : Int32)  (h0 : Heap) (n0 : Nat) (v : Option Value) (h : Heap) (L : List Loc) : Prop := v = some (.int (own_st_0_7 p1)) ∧ Fr n0 L ∧ h = h0
set_option maxRecDepth 65536 in
set_option maxHeartbeats 40000000 in
theorem rm1 (l : Launch) (Z : State) (a0 : Array Value) (hw : ∀ d ∈ tables_1, d.before a0 Z = true) (ws : List Jvm.Cond) (p1 : Int32)  (h0 : Heap) (n0 : Nat) (Z0 : n0 ≤ h0.size)  :
    MetFree l (⟨"com/example/sound_schema/soundschema/Lexer", "isWordStart", "(C)Z"⟩ : MethodName) (head1 (Jvm.Cond.code (⟨"com/example/sound_schema/soundschema/Lexer", "isWordStart", "(C)Z"⟩ : MethodName) prog_23_method_9_code 1 (some .boolean) :: ws) ({ frames := 0, cells := 0, slots := 0, locals := 0 } : Room)) (fun a U => a = #[(.int p1)] ∧ Z.Warmed39 U.vm ∧ U.heap = h0) (fun _ _ _ _ _ => True) (fun _ U o U' => ∃ v L, o = .returned v ∧ Q_rm1 Z p1 h0 n0 v U'.heap L ∧ FrameEnd U o U' L ({ frames := 0, cells := 0, slots := 0, locals := 0 } : Room).cells ({ frames := 0, cells := 0, slots := 0, locals := 0 } : Room).slots) := by
  refine MetFree.of_bodySF (plainFor_of_name pn_rm1) hisR ?_
  intro p e s m args below meth c s₁ Bd hml0 hP hK
  obtain ⟨rfl, hZ, hh⟩ := hP
  have hx := Bd.exec
  have hby := Bd.bytes
  have hml : c.maxLocals = 1 := hml0
  have hown : s.vm.findClass "com/example/sound_schema/soundschema/Lexer" = some m.cls := findClass_of_methodNamed Bd.named
  have hnm := (name_of_methodNamed Bd.named Bd.method).1
  have X0 : Stand p l e ({ frames := 0, cells := 0, slots := 0, locals := 0 } : Room) s m #[(.int p1)] below meth c s₁ [] 0 0 := Stand.of_body Bd
  have e0 : s₁.heap = h0 := by rw [← hh, Bd.state]; rfl
  have N0 := Fr.nil n0
  have pre0 : Steps p.tables e below (s₁.setTop (entryFrame m #[(.int p1)] 1)) (s₁.setTop (mkF m 0 #[.val (.int p1)] [])) := castTop (ef_rm1 m p1) (Steps.refl _)
  obtain ⟨v_st_0, h_v_st_0⟩ : ∃ z, z = own_st_0_7 p1 := ⟨_, rfl⟩
  obtain ⟨fs, hr, hrun, hended, hW, hsame⟩ := X0.leave (v := some (.int v_st_0)) (fun h => by rw [Bd.returns] at h; cases h)
  have Bst_1 (hv0 : v_st_0 = own_st_0_1 p1) : Steps p.tables e below (s₁.setTop (mkF m 34 #[.val (.int p1)] [])) (s₁.setFrames fs) := by
    have hw0 : v_st_0 = (0 : Int32) := hv0
    rw [hw0] at hr
    show Steps p.tables e below (s₁.setTop (mkF m 34 #[.val (.int p1)] [])) _
    refine XS.iconst X0.here hx rfl (hb hby d1_34) ?_
    show Steps p.tables e below (s₁.setTop (mkF m 35 #[.val (.int p1)] [(.int (0 : Int32))])) _
    exact retN X0 hx (t := .boolean) Bd.returns (by simp) (hb hby d1_35) hr
  have Bst_2 (hv0 : v_st_0 = own_st_0_2 p1) : Steps p.tables e below (s₁.setTop (mkF m 30 #[.val (.int p1)] [])) (s₁.setFrames fs) := by
    have hw0 : v_st_0 = (1 : Int32) := hv0
    rw [hw0] at hr
    show Steps p.tables e below (s₁.setTop (mkF m 30 #[.val (.int p1)] [])) _
    refine XS.iconst X0.here hx rfl (hb hby d1_30) ?_
    show Steps p.tables e below (s₁.setTop (mkF m 31 #[.val (.int p1)] [(.int (1 : Int32))])) _
    refine XS.goto X0.here hx rfl (pc0 := 31) (pc' := 35) rfl (hb hby d1_31) (by decide) (by decide) ?_
    show Steps p.tables e below (s₁.setTop (mkF m 35 #[.val (.int p1)] [(.int (1 : Int32))])) _
    exact retN X0 hx (t := .boolean) Bd.returns (by simp) (hb hby d1_35) hr
  have Bst_3 (hv0 : v_st_0 = own_st_0_3 p1) : Steps p.tables e below (s₁.setTop (mkF m 24 #[.val (.int p1)] [])) (s₁.setFrames fs) := by
    show Steps p.tables e below (s₁.setTop (mkF m 24 #[.val (.int p1)] [])) _
    refine XS.iloadN X0.here hx rfl (hb hby d1_24) rfl ?_
    show Steps p.tables e below (s₁.setTop (mkF m 25 #[.val (.int p1)] [(.int p1)])) _
    refine XS.bipush X0.here hx rfl (hb hby d1_25) ?_
    show Steps p.tables e below (s₁.setTop (mkF m 27 #[.val (.int p1)] [(.int (95 : Int32)), (.int p1)])) _
    by_cases h27 : p1 = (95 : Int32)
    · refine XS.icmpNo X0.here hx rfl (hb hby d1_27) rfl (teq h27).2 ?_
      exact Bst_2 (hv0.trans (if_pos h27))
    · refine XS.icmpYes X0.here hx rfl (pc0 := 27) (pc' := 34) rfl (hb hby d1_27) rfl (feq h27).2 (by decide) (by decide) ?_
      exact Bst_1 (hv0.trans (if_neg h27))
  have Bst_4 (hv0 : v_st_0 = own_st_0_4 p1) : Steps p.tables e below (s₁.setTop (mkF m 18 #[.val (.int p1)] [])) (s₁.setFrames fs) := by
    show Steps p.tables e below (s₁.setTop (mkF m 18 #[.val (.int p1)] [])) _
    refine XS.iloadN X0.here hx rfl (hb hby d1_18) rfl ?_
    show Steps p.tables e below (s₁.setTop (mkF m 19 #[.val (.int p1)] [(.int p1)])) _
    refine XS.bipush X0.here hx rfl (hb hby d1_19) ?_
    show Steps p.tables e below (s₁.setTop (mkF m 21 #[.val (.int p1)] [(.int (90 : Int32)), (.int p1)])) _
    by_cases h21 : (90 : Int32) < p1
    · refine XS.icmpNo X0.here hx rfl (hb hby d1_21) rfl (tlt h21).2.2.2 ?_
      exact Bst_3 (hv0.trans (if_pos h21))
    · refine XS.icmpYes X0.here hx rfl (pc0 := 21) (pc' := 30) rfl (hb hby d1_21) rfl (flt h21).2.2.2 (by decide) (by decide) ?_
      exact Bst_2 (hv0.trans (if_neg h21))
  have Bst_5 (hv0 : v_st_0 = own_st_0_5 p1) : Steps p.tables e below (s₁.setTop (mkF m 12 #[.val (.int p1)] [])) (s₁.setFrames fs) := by
    show Steps p.tables e below (s₁.setTop (mkF m 12 #[.val (.int p1)] [])) _
    refine XS.iloadN X0.here hx rfl (hb hby d1_12) rfl ?_
    show Steps p.tables e below (s₁.setTop (mkF m 13 #[.val (.int p1)] [(.int p1)])) _
    refine XS.bipush X0.here hx rfl (hb hby d1_13) ?_
    show Steps p.tables e below (s₁.setTop (mkF m 15 #[.val (.int p1)] [(.int (65 : Int32)), (.int p1)])) _
    by_cases h15 : p1 < (65 : Int32)
    · refine XS.icmpYes X0.here hx rfl (pc0 := 15) (pc' := 24) rfl (hb hby d1_15) rfl (tlt h15).1 (by decide) (by decide) ?_
      exact Bst_3 (hv0.trans (if_pos h15))
    · refine XS.icmpNo X0.here hx rfl (hb hby d1_15) rfl (flt h15).1 ?_
      exact Bst_4 (hv0.trans (if_neg h15))
  have Bst_6 (hv0 : v_st_0 = own_st_0_6 p1) : Steps p.tables e below (s₁.setTop (mkF m 6 #[.val (.int p1)] [])) (s₁.setFrames fs) := by
    show Steps p.tables e below (s₁.setTop (mkF m 6 #[.val (.int p1)] [])) _
    refine XS.iloadN X0.here hx rfl (hb hby d1_6) rfl ?_
    show Steps p.tables e below (s₁.setTop (mkF m 7 #[.val (.int p1)] [(.int p1)])) _
    refine XS.bipush X0.here hx rfl (hb hby d1_7) ?_
    show Steps p.tables e below (s₁.setTop (mkF m 9 #[.val (.int p1)] [(.int (122 : Int32)), (.int p1)])) _
    by_cases h9 : (122 : Int32) < p1
    · refine XS.icmpNo X0.here hx rfl (hb hby d1_9) rfl (tlt h9).2.2.2 ?_
      exact Bst_5 (hv0.trans (if_pos h9))
    · refine XS.icmpYes X0.here hx rfl (pc0 := 9) (pc' := 30) rfl (hb hby d1_9) rfl (flt h9).2.2.2 (by decide) (by decide) ?_
      exact Bst_2 (hv0.trans (if_neg h9))
  have Bst_7 (hv0 : v_st_0 = own_st_0_7 p1) : Steps p.tables e below (s₁.setTop (mkF m 0 #[.val (.int p1)] [])) (s₁.setFrames fs) := by
    show Steps p.tables e below (s₁.setTop (mkF m 0 #[.val (.int p1)] [])) _
    refine XS.iloadN X0.here hx rfl (hb hby d1_0) rfl ?_
    show Steps p.tables e below (s₁.setTop (mkF m 1 #[.val (.int p1)] [(.int p1)])) _
    refine XS.bipush X0.here hx rfl (hb hby d1_1) ?_
    show Steps p.tables e below (s₁.setTop (mkF m 3 #[.val (.int p1)] [(.int (97 : Int32)), (.int p1)])) _
    by_cases h3 : p1 < (97 : Int32)
    · refine XS.icmpYes X0.here hx rfl (pc0 := 3) (pc' := 12) rfl (hb hby d1_3) rfl (tlt h3).1 (by decide) (by decide) ?_
      exact Bst_5 (hv0.trans (if_pos h3))
    · refine XS.icmpNo X0.here hx rfl (hb hby d1_3) rfl (flt h3).1 ?_
      exact Bst_6 (hv0.trans (if_neg h3))
  have pre1 : Steps p.tables e below _ (s₁.setFrames fs) := pre0.trans (Bst_7 h_v_st_0)
  refine ⟨_, _, pre1, hrun, hended, _, _, rfl, ?_, ⟨_, rfl⟩, hW, hsame.mono (by decide) (by decide)⟩
  exact ⟨by rw [h_v_st_0], N0, e0⟩
theorem d2_0 : decode method_2_code 0 = .ok (.iload_n 0, 1) := by decide +kernel
theorem d2_1 : decode method_2_code 1 = .ok (.bipush 32, 2) := by decide +kernel
theorem d2_3 : decode method_2_code 3 = .ok (.ior, 1) := by decide +kernel
theorem d2_4 : decode method_2_code 4 = .ok (.istore_n 1, 1) := by decide +kernel
theorem d2_5 : decode method_2_code 5 = .ok (.iload_n 1, 1) := by decide +kernel
theorem d2_6 : decode method_2_code 6 = .ok (.bipush 97, 2) := by decide +kernel
theorem d2_8 : decode method_2_code 8 = .ok (.if_icmp .lt 13, 3) := by decide +kernel
theorem d2_11 : decode method_2_code 11 = .ok (.iload_n 1, 1) := by decide +kernel
theorem d2_12 : decode method_2_code 12 = .ok (.bipush 122, 2) := by decide +kernel
theorem d2_14 : decode method_2_code 14 = .ok (.if_icmp .gt 7, 3) := by decide +kernel
theorem d2_17 : decode method_2_code 17 = .ok (.iconst 1, 1) := by decide +kernel
theorem d2_18 : decode method_2_code 18 = .ok (.goto 4, 3) := by decide +kernel
theorem d2_21 : decode method_2_code 21 = .ok (.iconst 0, 1) := by decide +kernel
theorem d2_22 : decode method_2_code 22 = .ok (.istore_n 2, 1) := by decide +kernel
theorem d2_23 : decode method_2_code 23 = .ok (.iload_n 2, 1) := by decide +kernel
theorem d2_24 : decode method_2_code 24 = .ok (.ifCond .ne 9, 3) := by decide +kernel
theorem d2_27 : decode method_2_code 27 = .ok (.iload_n 0, 1) := by decide +kernel
theorem d2_28 : decode method_2_code 28 = .ok (.bipush 95, 2) := by decide +kernel
theorem d2_30 : decode method_2_code 30 = .ok (.if_icmp .ne 7, 3) := by decide +kernel
theorem d2_33 : decode method_2_code 33 = .ok (.iconst 1, 1) := by decide +kernel
theorem d2_34 : decode method_2_code 34 = .ok (.goto 4, 3) := by decide +kernel
theorem d2_37 : decode method_2_code 37 = .ok (.iconst 0, 1) := by decide +kernel
theorem d2_38 : decode method_2_code 38 = .ok (.ireturn, 1) := by decide +kernel
theorem pn_rm2 : plainName "com/example/sound_schema/soundschema/LexerIsWordStartPinLaw" = true := by first | (simp [plainName, overriddenIn]; done) | decide +kernel
theorem ef_rm2 (m : MethodId) (p1 : Int32) : entryFrame m #[(.int p1)] 3 = (mkF m 0 #[.val (.int p1), .unset, .unset] []) := by first | (simp [entryFrame, mkF, argsToLocals, Value.category]; done) | rfl
def own_rf_0_1 (p1 : Int32) : Int32 := (1 : Int32)
def own_rf_0_2 (p1 : Int32) : Int32 := (0 : Int32)
def own_rf_0_3 (p1 : Int32) : Int32 := if p1 = (95 : Int32) then own_rf_0_1 p1 else own_rf_0_2 p1
def own_rf_0_4 (p1 : Int32) : Int32 := if (0 : Int32) = (0 : Int32) then own_rf_0_3 p1 else own_rf_0_1 p1
def own_rf_0_5 (p1 : Int32) : Int32 := (1 : Int32)
def own_rf_0_6 (p1 : Int32) : Int32 := (0 : Int32)
def own_rf_0_7 (p1 : Int32) : Int32 := if p1 = (95 : Int32) then own_rf_0_5 p1 else own_rf_0_6 p1
def own_rf_0_8 (p1 : Int32) : Int32 := if (1 : Int32) = (0 : Int32) then own_rf_0_7 p1 else own_rf_0_5 p1
def own_rf_0_9 (p1 : Int32) : Int32 := if (122 : Int32) < (p1 ||| (32 : Int32)) then own_rf_0_4 p1 else own_rf_0_8 p1
def own_rf_0_10 (p1 : Int32) : Int32 := if (p1 ||| (32 : Int32)) < (97 : Int32) then own_rf_0_4 p1 else own_rf_0_9 p1
def Q_rm2 (Z : State) (p1 : Int32)  (h0 : Heap) (n0 : Nat) (v : Option Value) (h : Heap) (L : List Loc) : Prop := v = some (.int (own_rf_0_10 p1)) ∧ Fr n0 L ∧ h = h0
set_option maxRecDepth 65536 in
set_option maxHeartbeats 40000000 in
theorem rm2 (l : Launch) (Z : State) (a0 : Array Value) (hw : ∀ d ∈ tables_1, d.before a0 Z = true) (ws : List Jvm.Cond) (p1 : Int32)  (h0 : Heap) (n0 : Nat) (Z0 : n0 ≤ h0.size)  :
    MetFree l (⟨"com/example/sound_schema/soundschema/LexerIsWordStartPinLaw", "reference", "(I)Z"⟩ : MethodName) (head1 (Jvm.Cond.code (⟨"com/example/sound_schema/soundschema/LexerIsWordStartPinLaw", "reference", "(I)Z"⟩ : MethodName) method_2_code 3 (some .boolean) :: ws) ({ frames := 0, cells := 0, slots := 0, locals := 0 } : Room)) (fun a U => a = #[(.int p1)] ∧ Z.Warmed39 U.vm ∧ U.heap = h0) (fun _ _ _ _ _ => True) (fun _ U o U' => ∃ v L, o = .returned v ∧ Q_rm2 Z p1 h0 n0 v U'.heap L ∧ FrameEnd U o U' L ({ frames := 0, cells := 0, slots := 0, locals := 0 } : Room).cells ({ frames := 0, cells := 0, slots := 0, locals := 0 } : Room).slots) := by
  refine MetFree.of_bodySF (plainFor_of_name pn_rm2) hisR ?_
  intro p e s m args below meth c s₁ Bd hml0 hP hK
  obtain ⟨rfl, hZ, hh⟩ := hP
  have hx := Bd.exec
  have hby := Bd.bytes
  have hml : c.maxLocals = 3 := hml0
  have hown : s.vm.findClass "com/example/sound_schema/soundschema/LexerIsWordStartPinLaw" = some m.cls := findClass_of_methodNamed Bd.named
  have hnm := (name_of_methodNamed Bd.named Bd.method).1
  have X0 : Stand p l e ({ frames := 0, cells := 0, slots := 0, locals := 0 } : Room) s m #[(.int p1)] below meth c s₁ [] 0 0 := Stand.of_body Bd
  have e0 : s₁.heap = h0 := by rw [← hh, Bd.state]; rfl
  have N0 := Fr.nil n0
  have pre0 : Steps p.tables e below (s₁.setTop (entryFrame m #[(.int p1)] 3)) (s₁.setTop (mkF m 0 #[.val (.int p1), .unset, .unset] [])) := castTop (ef_rm2 m p1) (Steps.refl _)
  obtain ⟨v_rf_0, h_v_rf_0⟩ : ∃ z, z = own_rf_0_10 p1 := ⟨_, rfl⟩
  obtain ⟨fs, hr, hrun, hended, hW, hsame⟩ := X0.leave (v := some (.int v_rf_0)) (fun h => by rw [Bd.returns] at h; cases h)
  have Brf_1 (hv0 : v_rf_0 = own_rf_0_1 p1) : Steps p.tables e below (s₁.setTop (mkF m 33 #[.val (.int p1), .val (.int (p1 ||| (32 : Int32))), .val (.int (0 : Int32))] [])) (s₁.setFrames fs) := by
    have hw0 : v_rf_0 = (1 : Int32) := hv0
    rw [hw0] at hr
    show Steps p.tables e below (s₁.setTop (mkF m 33 #[.val (.int p1), .val (.int (p1 ||| (32 : Int32))), .val (.int (0 : Int32))] [])) _
    refine XS.iconst X0.here hx rfl (hb hby d2_33) ?_
    show Steps p.tables e below (s₁.setTop (mkF m 34 #[.val (.int p1), .val (.int (p1 ||| (32 : Int32))), .val (.int (0 : Int32))] [(.int (1 : Int32))])) _
    refine XS.goto X0.here hx rfl (pc0 := 34) (pc' := 38) rfl (hb hby d2_34) (by decide) (by decide) ?_
    show Steps p.tables e below (s₁.setTop (mkF m 38 #[.val (.int p1), .val (.int (p1 ||| (32 : Int32))), .val (.int (0 : Int32))] [(.int (1 : Int32))])) _
    exact retN X0 hx (t := .boolean) Bd.returns (by simp) (hb hby d2_38) hr
  have Brf_2 (hv0 : v_rf_0 = own_rf_0_2 p1) : Steps p.tables e below (s₁.setTop (mkF m 37 #[.val (.int p1), .val (.int (p1 ||| (32 : Int32))), .val (.int (0 : Int32))] [])) (s₁.setFrames fs) := by
    have hw0 : v_rf_0 = (0 : Int32) := hv0
    rw [hw0] at hr
    show Steps p.tables e below (s₁.setTop (mkF m 37 #[.val (.int p1), .val (.int (p1 ||| (32 : Int32))), .val (.int (0 : Int32))] [])) _
    refine XS.iconst X0.here hx rfl (hb hby d2_37) ?_
    show Steps p.tables e below (s₁.setTop (mkF m 38 #[.val (.int p1), .val (.int (p1 ||| (32 : Int32))), .val (.int (0 : Int32))] [(.int (0 : Int32))])) _
    exact retN X0 hx (t := .boolean) Bd.returns (by simp) (hb hby d2_38) hr
  have Brf_3 (hv0 : v_rf_0 = own_rf_0_3 p1) : Steps p.tables e below (s₁.setTop (mkF m 27 #[.val (.int p1), .val (.int (p1 ||| (32 : Int32))), .val (.int (0 : Int32))] [])) (s₁.setFrames fs) := by
    show Steps p.tables e below (s₁.setTop (mkF m 27 #[.val (.int p1), .val (.int (p1 ||| (32 : Int32))), .val (.int (0 : Int32))] [])) _
    refine XS.iloadN X0.here hx rfl (hb hby d2_27) rfl ?_
    show Steps p.tables e below (s₁.setTop (mkF m 28 #[.val (.int p1), .val (.int (p1 ||| (32 : Int32))), .val (.int (0 : Int32))] [(.int p1)])) _
    refine XS.bipush X0.here hx rfl (hb hby d2_28) ?_
    show Steps p.tables e below (s₁.setTop (mkF m 30 #[.val (.int p1), .val (.int (p1 ||| (32 : Int32))), .val (.int (0 : Int32))] [(.int (95 : Int32)), (.int p1)])) _
    by_cases h30 : p1 = (95 : Int32)
    · refine XS.icmpNo X0.here hx rfl (hb hby d2_30) rfl (teq h30).2 ?_
      exact Brf_1 (hv0.trans (if_pos h30))
    · refine XS.icmpYes X0.here hx rfl (pc0 := 30) (pc' := 37) rfl (hb hby d2_30) rfl (feq h30).2 (by decide) (by decide) ?_
      exact Brf_2 (hv0.trans (if_neg h30))
  have Brf_4 (hv0 : v_rf_0 = own_rf_0_4 p1) : Steps p.tables e below (s₁.setTop (mkF m 21 #[.val (.int p1), .val (.int (p1 ||| (32 : Int32))), .unset] [])) (s₁.setFrames fs) := by
    show Steps p.tables e below (s₁.setTop (mkF m 21 #[.val (.int p1), .val (.int (p1 ||| (32 : Int32))), .unset] [])) _
    refine XS.iconst X0.here hx rfl (hb hby d2_21) ?_
    show Steps p.tables e below (s₁.setTop (mkF m 22 #[.val (.int p1), .val (.int (p1 ||| (32 : Int32))), .unset] [(.int (0 : Int32))])) _
    refine XS.istoreN X0.here hx rfl (hb hby d2_22) rfl (l' := #[.val (.int p1), .val (.int (p1 ||| (32 : Int32))), .val (.int (0 : Int32))]) rfl ?_
    show Steps p.tables e below (s₁.setTop (mkF m 23 #[.val (.int p1), .val (.int (p1 ||| (32 : Int32))), .val (.int (0 : Int32))] [])) _
    refine XS.iloadN X0.here hx rfl (hb hby d2_23) rfl ?_
    show Steps p.tables e below (s₁.setTop (mkF m 24 #[.val (.int p1), .val (.int (p1 ||| (32 : Int32))), .val (.int (0 : Int32))] [(.int (0 : Int32))])) _
    by_cases h24 : (0 : Int32) = (0 : Int32)
    · refine XS.ifNo X0.here hx rfl (hb hby d2_24) rfl ((if0 _ _).trans (teq h24).2) ?_
      exact Brf_3 (hv0.trans (if_pos h24))
    · refine XS.ifYes X0.here hx rfl (pc0 := 24) (pc' := 33) rfl (hb hby d2_24) rfl ((if0 _ _).trans (feq h24).2) (by decide) (by decide) ?_
      exact Brf_1 (hv0.trans (if_neg h24))
  have Brf_5 (hv0 : v_rf_0 = own_rf_0_5 p1) : Steps p.tables e below (s₁.setTop (mkF m 33 #[.val (.int p1), .val (.int (p1 ||| (32 : Int32))), .val (.int (1 : Int32))] [])) (s₁.setFrames fs) := by
    have hw0 : v_rf_0 = (1 : Int32) := hv0
    rw [hw0] at hr
    show Steps p.tables e below (s₁.setTop (mkF m 33 #[.val (.int p1), .val (.int (p1 ||| (32 : Int32))), .val (.int (1 : Int32))] [])) _
    refine XS.iconst X0.here hx rfl (hb hby d2_33) ?_
    show Steps p.tables e below (s₁.setTop (mkF m 34 #[.val (.int p1), .val (.int (p1 ||| (32 : Int32))), .val (.int (1 : Int32))] [(.int (1 : Int32))])) _
    refine XS.goto X0.here hx rfl (pc0 := 34) (pc' := 38) rfl (hb hby d2_34) (by decide) (by decide) ?_
    show Steps p.tables e below (s₁.setTop (mkF m 38 #[.val (.int p1), .val (.int (p1 ||| (32 : Int32))), .val (.int (1 : Int32))] [(.int (1 : Int32))])) _
    exact retN X0 hx (t := .boolean) Bd.returns (by simp) (hb hby d2_38) hr
  have Brf_6 (hv0 : v_rf_0 = own_rf_0_6 p1) : Steps p.tables e below (s₁.setTop (mkF m 37 #[.val (.int p1), .val (.int (p1 ||| (32 : Int32))), .val (.int (1 : Int32))] [])) (s₁.setFrames fs) := by
    have hw0 : v_rf_0 = (0 : Int32) := hv0
    rw [hw0] at hr
    show Steps p.tables e below (s₁.setTop (mkF m 37 #[.val (.int p1), .val (.int (p1 ||| (32 : Int32))), .val (.int (1 : Int32))] [])) _
    refine XS.iconst X0.here hx rfl (hb hby d2_37) ?_
    show Steps p.tables e below (s₁.setTop (mkF m 38 #[.val (.int p1), .val (.int (p1 ||| (32 : Int32))), .val (.int (1 : Int32))] [(.int (0 : Int32))])) _
    exact retN X0 hx (t := .boolean) Bd.returns (by simp) (hb hby d2_38) hr
  have Brf_7 (hv0 : v_rf_0 = own_rf_0_7 p1) : Steps p.tables e below (s₁.setTop (mkF m 27 #[.val (.int p1), .val (.int (p1 ||| (32 : Int32))), .val (.int (1 : Int32))] [])) (s₁.setFrames fs) := by
    show Steps p.tables e below (s₁.setTop (mkF m 27 #[.val (.int p1), .val (.int (p1 ||| (32 : Int32))), .val (.int (1 : Int32))] [])) _
    refine XS.iloadN X0.here hx rfl (hb hby d2_27) rfl ?_
    show Steps p.tables e below (s₁.setTop (mkF m 28 #[.val (.int p1), .val (.int (p1 ||| (32 : Int32))), .val (.int (1 : Int32))] [(.int p1)])) _
    refine XS.bipush X0.here hx rfl (hb hby d2_28) ?_
    show Steps p.tables e below (s₁.setTop (mkF m 30 #[.val (.int p1), .val (.int (p1 ||| (32 : Int32))), .val (.int (1 : Int32))] [(.int (95 : Int32)), (.int p1)])) _
    by_cases h30 : p1 = (95 : Int32)
    · refine XS.icmpNo X0.here hx rfl (hb hby d2_30) rfl (teq h30).2 ?_
      exact Brf_5 (hv0.trans (if_pos h30))
    · refine XS.icmpYes X0.here hx rfl (pc0 := 30) (pc' := 37) rfl (hb hby d2_30) rfl (feq h30).2 (by decide) (by decide) ?_
      exact Brf_6 (hv0.trans (if_neg h30))
  have Brf_8 (hv0 : v_rf_0 = own_rf_0_8 p1) : Steps p.tables e below (s₁.setTop (mkF m 17 #[.val (.int p1), .val (.int (p1 ||| (32 : Int32))), .unset] [])) (s₁.setFrames fs) := by
    show Steps p.tables e below (s₁.setTop (mkF m 17 #[.val (.int p1), .val (.int (p1 ||| (32 : Int32))), .unset] [])) _
    refine XS.iconst X0.here hx rfl (hb hby d2_17) ?_
    show Steps p.tables e below (s₁.setTop (mkF m 18 #[.val (.int p1), .val (.int (p1 ||| (32 : Int32))), .unset] [(.int (1 : Int32))])) _
    refine XS.goto X0.here hx rfl (pc0 := 18) (pc' := 22) rfl (hb hby d2_18) (by decide) (by decide) ?_
    show Steps p.tables e below (s₁.setTop (mkF m 22 #[.val (.int p1), .val (.int (p1 ||| (32 : Int32))), .unset] [(.int (1 : Int32))])) _
    refine XS.istoreN X0.here hx rfl (hb hby d2_22) rfl (l' := #[.val (.int p1), .val (.int (p1 ||| (32 : Int32))), .val (.int (1 : Int32))]) rfl ?_
    show Steps p.tables e below (s₁.setTop (mkF m 23 #[.val (.int p1), .val (.int (p1 ||| (32 : Int32))), .val (.int (1 : Int32))] [])) _
    refine XS.iloadN X0.here hx rfl (hb hby d2_23) rfl ?_
    show Steps p.tables e below (s₁.setTop (mkF m 24 #[.val (.int p1), .val (.int (p1 ||| (32 : Int32))), .val (.int (1 : Int32))] [(.int (1 : Int32))])) _
    by_cases h24 : (1 : Int32) = (0 : Int32)
    · refine XS.ifNo X0.here hx rfl (hb hby d2_24) rfl ((if0 _ _).trans (teq h24).2) ?_
      exact Brf_7 (hv0.trans (if_pos h24))
    · refine XS.ifYes X0.here hx rfl (pc0 := 24) (pc' := 33) rfl (hb hby d2_24) rfl ((if0 _ _).trans (feq h24).2) (by decide) (by decide) ?_
      exact Brf_5 (hv0.trans (if_neg h24))
  have Brf_9 (hv0 : v_rf_0 = own_rf_0_9 p1) : Steps p.tables e below (s₁.setTop (mkF m 11 #[.val (.int p1), .val (.int (p1 ||| (32 : Int32))), .unset] [])) (s₁.setFrames fs) := by
    show Steps p.tables e below (s₁.setTop (mkF m 11 #[.val (.int p1), .val (.int (p1 ||| (32 : Int32))), .unset] [])) _
    refine XS.iloadN X0.here hx rfl (hb hby d2_11) rfl ?_
    show Steps p.tables e below (s₁.setTop (mkF m 12 #[.val (.int p1), .val (.int (p1 ||| (32 : Int32))), .unset] [(.int (p1 ||| (32 : Int32)))])) _
    refine XS.bipush X0.here hx rfl (hb hby d2_12) ?_
    show Steps p.tables e below (s₁.setTop (mkF m 14 #[.val (.int p1), .val (.int (p1 ||| (32 : Int32))), .unset] [(.int (122 : Int32)), (.int (p1 ||| (32 : Int32)))])) _
    by_cases h14 : (122 : Int32) < (p1 ||| (32 : Int32))
    · refine XS.icmpYes X0.here hx rfl (pc0 := 14) (pc' := 21) rfl (hb hby d2_14) rfl (tlt h14).2.2.1 (by decide) (by decide) ?_
      exact Brf_4 (hv0.trans (if_pos h14))
    · refine XS.icmpNo X0.here hx rfl (hb hby d2_14) rfl (flt h14).2.2.1 ?_
      exact Brf_8 (hv0.trans (if_neg h14))
  have Brf_10 (hv0 : v_rf_0 = own_rf_0_10 p1) : Steps p.tables e below (s₁.setTop (mkF m 0 #[.val (.int p1), .unset, .unset] [])) (s₁.setFrames fs) := by
    show Steps p.tables e below (s₁.setTop (mkF m 0 #[.val (.int p1), .unset, .unset] [])) _
    refine XS.iloadN X0.here hx rfl (hb hby d2_0) rfl ?_
    show Steps p.tables e below (s₁.setTop (mkF m 1 #[.val (.int p1), .unset, .unset] [(.int p1)])) _
    refine XS.bipush X0.here hx rfl (hb hby d2_1) ?_
    show Steps p.tables e below (s₁.setTop (mkF m 3 #[.val (.int p1), .unset, .unset] [(.int (32 : Int32)), (.int p1)])) _
    refine XS.ior X0.here hx rfl (hb hby d2_3) rfl ?_
    show Steps p.tables e below (s₁.setTop (mkF m 4 #[.val (.int p1), .unset, .unset] [(.int (p1 ||| (32 : Int32)))])) _
    refine XS.istoreN X0.here hx rfl (hb hby d2_4) rfl (l' := #[.val (.int p1), .val (.int (p1 ||| (32 : Int32))), .unset]) rfl ?_
    show Steps p.tables e below (s₁.setTop (mkF m 5 #[.val (.int p1), .val (.int (p1 ||| (32 : Int32))), .unset] [])) _
    refine XS.iloadN X0.here hx rfl (hb hby d2_5) rfl ?_
    show Steps p.tables e below (s₁.setTop (mkF m 6 #[.val (.int p1), .val (.int (p1 ||| (32 : Int32))), .unset] [(.int (p1 ||| (32 : Int32)))])) _
    refine XS.bipush X0.here hx rfl (hb hby d2_6) ?_
    show Steps p.tables e below (s₁.setTop (mkF m 8 #[.val (.int p1), .val (.int (p1 ||| (32 : Int32))), .unset] [(.int (97 : Int32)), (.int (p1 ||| (32 : Int32)))])) _
    by_cases h8 : (p1 ||| (32 : Int32)) < (97 : Int32)
    · refine XS.icmpYes X0.here hx rfl (pc0 := 8) (pc' := 21) rfl (hb hby d2_8) rfl (tlt h8).1 (by decide) (by decide) ?_
      exact Brf_4 (hv0.trans (if_pos h8))
    · refine XS.icmpNo X0.here hx rfl (hb hby d2_8) rfl (flt h8).1 ?_
      exact Brf_9 (hv0.trans (if_neg h8))
  have pre1 : Steps p.tables e below _ (s₁.setFrames fs) := pre0.trans (Brf_10 h_v_rf_0)
  refine ⟨_, _, pre1, hrun, hended, _, _, rfl, ?_, ⟨_, rfl⟩, hW, hsame.mono (by decide) (by decide)⟩
  exact ⟨by rw [h_v_rf_0], N0, e0⟩
theorem own_ifc {P Q : Prop} [Decidable P] [Decidable Q] (h : P ↔ Q) : (if P then (1 : Int32) else 0) = if Q then 1 else 0 := by
  by_cases p : P
  · rw [if_pos p, if_pos (h.mp p)]
  · rw [if_neg p, if_neg (fun q => p (h.mpr q))]
theorem own_small (c : Int32) (h0 : 0 ≤ c.toInt) (n : Nat) (P : Int32 → Prop) (h : ∀ k : Fin n, P (Int32.ofInt (k.1 : Int))) (hn : c.toInt < n) : P c := by
  have q := h ⟨c.toInt.toNat, by omega⟩
  simp only [Int.toNat_of_nonneg h0, Int32.ofInt_toInt] at q
  exact q
theorem own_eq_iff (c k : Int32) : c = k ↔ c.toInt = k.toInt := Int32.toInt_inj.symm
theorem sp_own_st_0_1 (c : Int32) : own_st_0_1 c = if False then 1 else 0 := rfl
theorem sp_own_st_0_2 (c : Int32) : own_st_0_2 c = if True then 1 else 0 := rfl
theorem sp_own_st_0_3 (c : Int32) : own_st_0_3 c = if c.toInt = 95 then 1 else 0 := by
  have hz : (c = (95 : Int32)) ↔ c.toInt = 95 := by rw [own_eq_iff]; simp only [Int32.reduceToInt]
  show (if c = (95 : Int32) then own_st_0_2 c else own_st_0_1 c) = _
  rw [sp_own_st_0_2, sp_own_st_0_1]
  by_cases h : c = (95 : Int32)
  · rw [if_pos h]; rw [hz] at h; exact (if_pos trivial).trans (if_pos (by omega)).symm
  · rw [if_neg h]; rw [hz] at h; exact (if_neg (fun q => q)).trans (if_neg (by omega)).symm
theorem sp_own_st_0_4 (c : Int32) : own_st_0_4 c = if c.toInt ≤ 90 ∨ c.toInt = 95 then 1 else 0 := by
  have hz : ((90 : Int32) < c) ↔ 90 < c.toInt := by simp only [Int32.lt_iff_toInt_lt, Int32.reduceToInt]
  show (if (90 : Int32) < c then own_st_0_3 c else own_st_0_2 c) = _
  rw [sp_own_st_0_3, sp_own_st_0_2]
  by_cases h : (90 : Int32) < c
  · rw [if_pos h]; rw [hz] at h; exact own_ifc (by omega)
  · rw [if_neg h]; rw [hz] at h; exact (if_pos trivial).trans (if_pos (by omega)).symm
theorem sp_own_st_0_5 (c : Int32) : own_st_0_5 c = if (65 ≤ c.toInt ∧ c.toInt ≤ 90) ∨ c.toInt = 95 then 1 else 0 := by
  have hz : (c < (65 : Int32)) ↔ c.toInt < 65 := by simp only [Int32.lt_iff_toInt_lt, Int32.reduceToInt]
  show (if c < (65 : Int32) then own_st_0_3 c else own_st_0_4 c) = _
  rw [sp_own_st_0_3, sp_own_st_0_4]
  by_cases h : c < (65 : Int32)
  · rw [if_pos h]; rw [hz] at h; exact own_ifc (by omega)
  · rw [if_neg h]; rw [hz] at h; exact own_ifc (by omega)
theorem sp_own_st_0_6 (c : Int32) : own_st_0_6 c = if c.toInt ≤ 122 then 1 else 0 := by
  have hz : ((122 : Int32) < c) ↔ 122 < c.toInt := by simp only [Int32.lt_iff_toInt_lt, Int32.reduceToInt]
  show (if (122 : Int32) < c then own_st_0_5 c else own_st_0_2 c) = _
  rw [sp_own_st_0_5, sp_own_st_0_2]
  by_cases h : (122 : Int32) < c
  · rw [if_pos h]; rw [hz] at h; exact own_ifc (by omega)
  · rw [if_neg h]; rw [hz] at h; exact (if_pos trivial).trans (if_pos (by omega)).symm
theorem sp_own_st_0_7 (c : Int32) : own_st_0_7 c = if (65 ≤ c.toInt ∧ c.toInt ≤ 90) ∨ c.toInt = 95 ∨ (97 ≤ c.toInt ∧ c.toInt ≤ 122) then 1 else 0 := by
  have hz : (c < (97 : Int32)) ↔ c.toInt < 97 := by simp only [Int32.lt_iff_toInt_lt, Int32.reduceToInt]
  show (if c < (97 : Int32) then own_st_0_5 c else own_st_0_6 c) = _
  rw [sp_own_st_0_5, sp_own_st_0_6]
  by_cases h : c < (97 : Int32)
  · rw [if_pos h]; rw [hz] at h; exact own_ifc (by omega)
  · rw [if_neg h]; rw [hz] at h; exact own_ifc (by omega)
theorem own_i2c (c : Int32) (h0 : 0 ≤ c.toInt) (h1 : c.toInt < 65536) : c.toUInt32.toUInt16.toUInt32.toInt32 = c := by
  have q := c_i2c c
  exact Int32.toInt_inj.mp (by omega)
theorem own_ok (c : Int32) (h0 : 0 ≤ c.toInt) : own_st_0_7 c = own_rf_0_10 c := by
  by_cases h : c.toInt < 128
  · exact own_small c h0 128 (fun c => own_st_0_7 c = own_rf_0_10 c) (by decide +kernel) h
  · rw [sp_own_st_0_7, if_neg (by omega)]
    have q := (c_or0 c 32 h0 (by decide)).1
    have n1 : (122 : Int32) < (c ||| 32) := by simp only [Int32.lt_iff_toInt_lt, Int32.reduceToInt]; omega
    have n2 : ¬ c = 95 := by rw [own_eq_iff]; simp only [Int32.reduceToInt]; omega
    have n3 : ¬ (c ||| 32) < (97 : Int32) := by simp only [Int32.lt_iff_toInt_lt, Int32.reduceToInt]; omega
    simp only [own_rf_0_1, own_rf_0_2, own_rf_0_3, own_rf_0_4, own_rf_0_5, own_rf_0_6, own_rf_0_7, own_rf_0_8, own_rf_0_9, own_rf_0_10, if_neg n3, if_pos n1, if_neg n2, if_true, if_false]
    try decide
theorem pn_rm0 : plainName "com/example/sound_schema/soundschema/LexerIsWordStartPinLaw" = true := by first | (simp [plainName, overriddenIn]; done) | decide +kernel
theorem pd_rm0_0 : parseMethodDescriptor "(C)Z" = some ⟨[.char], some .boolean⟩ := by decide +kernel
theorem pd_rm0_1 : parseMethodDescriptor "(I)Z" = some ⟨[.int], some .boolean⟩ := by decide +kernel
theorem ef_rm0 (m : MethodId) (p1 : Int32) (p2 : Int32) : entryFrame m #[(.int p1), (.int p2)] maxLocals = (mkF m 0 #[.val (.int p1), .val (.int p2), .unset, .unset, .unset, .unset] []) := by first | (simp [entryFrame, mkF, argsToLocals, Value.category, maxLocals]; done) | rfl
def Q_rm0 (Z : State) (p1 : Int32) (p2 : Int32)  (h0 : Heap) (n0 : Nat) (v : Option Value) (h : Heap) (L : List Loc) : Prop := v = some (.int (1 : Int32)) ∧ Fr n0 L
set_option maxRecDepth 65536 in
set_option maxHeartbeats 40000000 in
theorem rm0 (l : Launch) (Z : State) (a0 : Array Value) (hw : ∀ d ∈ tables_1, d.before a0 Z = true) (ws : List Jvm.Cond) (p1 : Int32) (p2 : Int32)  (h0 : Heap) (n0 : Nat) (Z0 : n0 ≤ h0.size)  :
    MetFree l x (head1 (Jvm.Cond.code x code maxLocals ret :: ws) room_1) (fun a U => a = #[(.int p1), (.int p2)] ∧ Z.Warmed39 U.vm ∧ U.heap = h0) (fun _ _ _ _ _ => True) (fun _ U o U' => ∃ v L, o = .returned v ∧ Q_rm0 Z p1 p2 h0 n0 v U'.heap L ∧ FrameEnd U o U' L 0 0) := by
  refine MetFree.of_bodySF (plainFor_of_name pn_rm0) hisR ?_
  intro p e s m args below meth c s₁ Bd hml0 hP hK
  obtain ⟨rfl, hZ, hh⟩ := hP
  have hx := Bd.exec
  have hby := Bd.bytes
  have hml : c.maxLocals = 6 := hml0
  have hown : s.vm.findClass "com/example/sound_schema/soundschema/LexerIsWordStartPinLaw" = some m.cls := findClass_of_methodNamed Bd.named
  have hnm := (name_of_methodNamed Bd.named Bd.method).1
  have X0 : Stand p l e room_1 s m #[(.int p1), (.int p2)] below meth c s₁ [] 0 0 := Stand.of_body Bd
  have e0 : s₁.heap = h0 := by rw [← hh, Bd.state]; rfl
  have N0 := Fr.nil n0
  have pre0 : Steps p.tables e below (s₁.setTop (entryFrame m #[(.int p1), (.int p2)] maxLocals)) (s₁.setTop (mkF m 0 #[.val (.int p1), .val (.int p2), .unset, .unset, .unset, .unset] [])) := castTop (ef_rm0 m p1 p2) (Steps.refl _)
  have pre1 : Steps p.tables e below _ (s₁.setTop (mkF m 13 #[.val (.int p1), .val (.int p2), .val (.int (p1 &&& (65535 : Int32))), .val (.int ((64 : Int32) + (p2 &&& (63 : Int32)))), .unset, .unset] [])) := pre0.trans (by
    show Steps p.tables e below (s₁.setTop (mkF m 0 #[.val (.int p1), .val (.int p2), .unset, .unset, .unset, .unset] [])) _
    refine XS.iloadN X0.here hx rfl (hb hby at_0) rfl ?_
    show Steps p.tables e below (s₁.setTop (mkF m 1 #[.val (.int p1), .val (.int p2), .unset, .unset, .unset, .unset] [(.int p1)])) _
    refine X0.ldcInt hx hown (mvT hZ (hw _ (List.mem_of_getElem? (i := 0) rfl))) (g := (mkF m 1 #[.val (.int p1), .val (.int p2), .unset, .unset, .unset, .unset] [(.int p1)])) rfl (hb hby at_1) _ ?_
    show Steps p.tables e below (s₁.setTop (mkF m 3 #[.val (.int p1), .val (.int p2), .unset, .unset, .unset, .unset] [(.int (65535 : Int32)), (.int p1)])) _
    refine XS.iand X0.here hx rfl (hb hby at_3) rfl ?_
    show Steps p.tables e below (s₁.setTop (mkF m 4 #[.val (.int p1), .val (.int p2), .unset, .unset, .unset, .unset] [(.int (p1 &&& (65535 : Int32)))])) _
    refine XS.istoreN X0.here hx rfl (hb hby at_4) rfl (l' := #[.val (.int p1), .val (.int p2), .val (.int (p1 &&& (65535 : Int32))), .unset, .unset, .unset]) rfl ?_
    show Steps p.tables e below (s₁.setTop (mkF m 5 #[.val (.int p1), .val (.int p2), .val (.int (p1 &&& (65535 : Int32))), .unset, .unset, .unset] [])) _
    refine XS.bipush X0.here hx rfl (hb hby at_5) ?_
    show Steps p.tables e below (s₁.setTop (mkF m 7 #[.val (.int p1), .val (.int p2), .val (.int (p1 &&& (65535 : Int32))), .unset, .unset, .unset] [(.int (64 : Int32))])) _
    refine XS.iloadN X0.here hx rfl (hb hby at_7) rfl ?_
    show Steps p.tables e below (s₁.setTop (mkF m 8 #[.val (.int p1), .val (.int p2), .val (.int (p1 &&& (65535 : Int32))), .unset, .unset, .unset] [(.int p2), (.int (64 : Int32))])) _
    refine XS.bipush X0.here hx rfl (hb hby at_8) ?_
    show Steps p.tables e below (s₁.setTop (mkF m 10 #[.val (.int p1), .val (.int p2), .val (.int (p1 &&& (65535 : Int32))), .unset, .unset, .unset] [(.int (63 : Int32)), (.int p2), (.int (64 : Int32))])) _
    refine XS.iand X0.here hx rfl (hb hby at_10) rfl ?_
    show Steps p.tables e below (s₁.setTop (mkF m 11 #[.val (.int p1), .val (.int p2), .val (.int (p1 &&& (65535 : Int32))), .unset, .unset, .unset] [(.int (p2 &&& (63 : Int32))), (.int (64 : Int32))])) _
    refine XS.iadd X0.here hx rfl (hb hby at_11) rfl ?_
    show Steps p.tables e below (s₁.setTop (mkF m 12 #[.val (.int p1), .val (.int p2), .val (.int (p1 &&& (65535 : Int32))), .unset, .unset, .unset] [(.int ((64 : Int32) + (p2 &&& (63 : Int32))))])) _
    refine XS.istoreN X0.here hx rfl (hb hby at_12) rfl (l' := #[.val (.int p1), .val (.int p2), .val (.int (p1 &&& (65535 : Int32))), .val (.int ((64 : Int32) + (p2 &&& (63 : Int32)))), .unset, .unset]) rfl ?_
    exact Steps.refl _)
  obtain ⟨c1, h_c1⟩ : ∃ z, z = (p1 &&& (65535 : Int32)) := ⟨_, rfl⟩
  rw [← h_c1] at pre1
  obtain ⟨c2, h_c2⟩ : ∃ z, z = ((64 : Int32) + (p2 &&& (63 : Int32))) := ⟨_, rfl⟩
  rw [← h_c2] at pre1
  have b1 : 0 ≤ c1.toInt ∧ c1.toInt < 65536 := by have q : (p1 &&& (65535 : Int32)).toInt = p1.toInt % 65536 := c_mask p1 65535 16 (by decide) (by decide); rw [← h_c1] at q; omega
  have b2 : 0 ≤ c2.toInt ∧ c2.toInt < 65536 := by have q : (p2 &&& (63 : Int32)).toInt = p2.toInt % 64 := c_mask p2 63 6 (by decide) (by decide); have r := c_iadd (64 : Int32) (p2 &&& 63); rw [← h_c2] at r; simp only [Int32.reduceToInt] at r; have := rng32 c2; omega
  have i1 : c1.toUInt32.toUInt16.toUInt32.toInt32 = c1 := own_i2c c1 b1.1 b1.2
  have i2 : c2.toUInt32.toUInt16.toUInt32.toInt32 = c2 := own_i2c c2 b2.1 b2.2
  have pre2 : Steps p.tables e below _ (s₁.setTop (mkF m 15 #[.val (.int p1), .val (.int p2), .val (.int c1), .val (.int c2), .unset, .unset] [(.int (c1.toUInt32.toUInt16.toUInt32.toInt32))])) := pre1.trans (by
    show Steps p.tables e below (s₁.setTop (mkF m 13 #[.val (.int p1), .val (.int p2), .val (.int c1), .val (.int c2), .unset, .unset] [])) _
    refine XS.iloadN X0.here hx rfl (hb hby at_13) rfl ?_
    show Steps p.tables e below (s₁.setTop (mkF m 14 #[.val (.int p1), .val (.int p2), .val (.int c1), .val (.int c2), .unset, .unset] [(.int c1)])) _
    refine XS.i2c X0.here hx rfl (hb hby at_14) rfl ?_
    exact Steps.refl _)
  rw [i1] at pre2
  obtain ⟨_, _, ⟨T3, L3, k3, n3⟩, -, X3, ⟨Lc3, hQ3, l3, y3, z3⟩, st3⟩ := Jvm.LawKit.callS X0 hx (y := (⟨"com/example/sound_schema/soundschema/Lexer", "isWordStart", "(C)Z"⟩ : MethodName)) hown (mvT hZ (hw _ (List.mem_of_getElem? (i := 1) rfl))) (mvT hZ (hw _ (List.mem_of_getElem? (i := 2) rfl))) (mvT hZ (hw _ (List.mem_of_getElem? (i := 3) rfl))) (mvT hZ (hw _ (List.mem_of_getElem? (i := 4) rfl))) (by decide) (backOf (W := 0) (rm1 l Z a0 hw [] c1 h0 n0 Z0) hZ (hw _ (List.mem_of_getElem? (i := 4) rfl)) (hw _ (List.mem_of_getElem? (i := 3) rfl)) (by decide) (by decide)) (g := (mkF m 15 #[.val (.int p1), .val (.int p2), .val (.int c1), .val (.int c2), .unset, .unset] [(.int c1)])) rfl (by rw [hml]; rfl) (argsL := [(.int c1)]) (rest := []) (lenOf pd_rm0_0 rfl) rfl (by show 2 * 0 + _ ≤ _; exact Nat.le_of_eq rfl) (hb hby at_15) (fun _ _ => ⟨rfl, e0, (by decide : 0 + 0 ≤ _), (by decide : 0 + 0 ≤ _)⟩)
  dsimp only [Pt.U, Pt.locs, Pt.cells, Pt.slots] at X3 l3 y3 z3 st3 hQ3
  subst l3 y3 z3
  obtain ⟨rfl, N3q, hh3⟩ := hQ3
  have N3 := Fr.app N0 N3q
  have pre3 : Steps p.tables e below _ (T3.setTop (mkF m 18 #[.val (.int p1), .val (.int p2), .val (.int c1), .val (.int c2), .unset, .unset] [(.int (own_st_0_7 c1))])) := pre2.trans (st3 _ (Steps.refl _))
  have pre4 : Steps p.tables e below _ (T3.setTop (mkF m 19 #[.val (.int p1), .val (.int p2), .val (.int c1), .val (.int c2), .unset, .unset] [(.int c1), (.int (own_st_0_7 c1))])) := pre3.trans (by
    show Steps p.tables e below (T3.setTop (mkF m 18 #[.val (.int p1), .val (.int p2), .val (.int c1), .val (.int c2), .unset, .unset] [(.int (own_st_0_7 c1))])) _
    refine XS.iloadN X3.here hx rfl (hb hby at_18) rfl ?_
    exact Steps.refl _)
  obtain ⟨_, _, ⟨T5, L5, k5, n5⟩, -, X5, ⟨Lc5, hQ5, l5, y5, z5⟩, st5⟩ := Jvm.LawKit.callS X3 hx (y := (⟨"com/example/sound_schema/soundschema/LexerIsWordStartPinLaw", "reference", "(I)Z"⟩ : MethodName)) hown (mvT hZ (hw _ (List.mem_of_getElem? (i := 5) rfl))) (mvT hZ (hw _ (List.mem_of_getElem? (i := 6) rfl))) (mvT hZ (hw _ (List.mem_of_getElem? (i := 7) rfl))) (mvT hZ (hw _ (List.mem_of_getElem? (i := 8) rfl))) (by decide) (backOf (W := 1) (rm2 l Z a0 hw [] c1 h0 n0 Z0) hZ (hw _ (List.mem_of_getElem? (i := 8) rfl)) (hw _ (List.mem_of_getElem? (i := 7) rfl)) (by decide) (by decide)) (g := (mkF m 19 #[.val (.int p1), .val (.int p2), .val (.int c1), .val (.int c2), .unset, .unset] [(.int c1), (.int (own_st_0_7 c1))])) rfl (by rw [hml]; rfl) (argsL := [(.int c1)]) (rest := [(.int (own_st_0_7 c1))]) (lenOf pd_rm0_1 rfl) rfl (by show 2 * 0 + _ ≤ _; exact Nat.le_of_eq rfl) (hb hby at_19) (fun _ _ => ⟨rfl, hh3, (by decide : 0 + 0 ≤ _), (by decide : 0 + 0 ≤ _)⟩)
  dsimp only [Pt.U, Pt.locs, Pt.cells, Pt.slots] at X5 l5 y5 z5 st5 hQ5
  subst l5 y5 z5
  obtain ⟨rfl, N5q, hh5⟩ := hQ5
  have N5 := Fr.app N3 N5q
  have pre5 : Steps p.tables e below _ (T5.setTop (mkF m 22 #[.val (.int p1), .val (.int p2), .val (.int c1), .val (.int c2), .unset, .unset] [(.int (own_rf_0_10 c1)), (.int (own_st_0_7 c1))])) := pre4.trans (st5 _ (Steps.refl _))
  have hresc1 : own_st_0_7 c1 = own_rf_0_10 c1 := own_ok c1 b1.1
  have pre6 : Steps p.tables e below _ (T5.setTop (mkF m 34 #[.val (.int p1), .val (.int p2), .val (.int c1), .val (.int c2), .val (.int (1 : Int32)), .unset] [(.int (c2.toUInt32.toUInt16.toUInt32.toInt32))])) := pre5.trans (by
    show Steps p.tables e below (T5.setTop (mkF m 22 #[.val (.int p1), .val (.int p2), .val (.int c1), .val (.int c2), .unset, .unset] [(.int (own_rf_0_10 c1)), (.int (own_st_0_7 c1))])) _
    refine XS.icmpNo X5.here hx rfl (hb hby at_22) rfl (teq (hresc1)).2 ?_
    show Steps p.tables e below (T5.setTop (mkF m 25 #[.val (.int p1), .val (.int p2), .val (.int c1), .val (.int c2), .unset, .unset] [])) _
    refine XS.iconst X5.here hx rfl (hb hby at_25) ?_
    show Steps p.tables e below (T5.setTop (mkF m 26 #[.val (.int p1), .val (.int p2), .val (.int c1), .val (.int c2), .unset, .unset] [(.int (1 : Int32))])) _
    refine XS.goto X5.here hx rfl (pc0 := 26) (pc' := 30) rfl (hb hby at_26) (by decide) (by decide) ?_
    show Steps p.tables e below (T5.setTop (mkF m 30 #[.val (.int p1), .val (.int p2), .val (.int c1), .val (.int c2), .unset, .unset] [(.int (1 : Int32))])) _
    refine XS.istore X5.here hx rfl (hb hby at_30) rfl (l' := #[.val (.int p1), .val (.int p2), .val (.int c1), .val (.int c2), .val (.int (1 : Int32)), .unset]) rfl ?_
    show Steps p.tables e below (T5.setTop (mkF m 32 #[.val (.int p1), .val (.int p2), .val (.int c1), .val (.int c2), .val (.int (1 : Int32)), .unset] [])) _
    refine XS.iloadN X5.here hx rfl (hb hby at_32) rfl ?_
    show Steps p.tables e below (T5.setTop (mkF m 33 #[.val (.int p1), .val (.int p2), .val (.int c1), .val (.int c2), .val (.int (1 : Int32)), .unset] [(.int c2)])) _
    refine XS.i2c X5.here hx rfl (hb hby at_33) rfl ?_
    exact Steps.refl _)
  rw [i2] at pre6
  obtain ⟨_, _, ⟨T7, L7, k7, n7⟩, -, X7, ⟨Lc7, hQ7, l7, y7, z7⟩, st7⟩ := Jvm.LawKit.callS X5 hx (y := (⟨"com/example/sound_schema/soundschema/Lexer", "isWordStart", "(C)Z"⟩ : MethodName)) hown (mvT hZ (hw _ (List.mem_of_getElem? (i := 1) rfl))) (mvT hZ (hw _ (List.mem_of_getElem? (i := 2) rfl))) (mvT hZ (hw _ (List.mem_of_getElem? (i := 3) rfl))) (mvT hZ (hw _ (List.mem_of_getElem? (i := 4) rfl))) (by decide) (backOf (W := 0) (rm1 l Z a0 hw [] c2 h0 n0 Z0) hZ (hw _ (List.mem_of_getElem? (i := 4) rfl)) (hw _ (List.mem_of_getElem? (i := 3) rfl)) (by decide) (by decide)) (g := (mkF m 34 #[.val (.int p1), .val (.int p2), .val (.int c1), .val (.int c2), .val (.int (1 : Int32)), .unset] [(.int c2)])) rfl (by rw [hml]; rfl) (argsL := [(.int c2)]) (rest := []) (lenOf pd_rm0_0 rfl) rfl (by show 2 * 0 + _ ≤ _; exact Nat.le_of_eq rfl) (hb hby at_34) (fun _ _ => ⟨rfl, hh5, (by decide : 0 + 0 ≤ _), (by decide : 0 + 0 ≤ _)⟩)
  dsimp only [Pt.U, Pt.locs, Pt.cells, Pt.slots] at X7 l7 y7 z7 st7 hQ7
  subst l7 y7 z7
  obtain ⟨rfl, N7q, hh7⟩ := hQ7
  have N7 := Fr.app N5 N7q
  have pre7 : Steps p.tables e below _ (T7.setTop (mkF m 37 #[.val (.int p1), .val (.int p2), .val (.int c1), .val (.int c2), .val (.int (1 : Int32)), .unset] [(.int (own_st_0_7 c2))])) := pre6.trans (st7 _ (Steps.refl _))
  have pre8 : Steps p.tables e below _ (T7.setTop (mkF m 38 #[.val (.int p1), .val (.int p2), .val (.int c1), .val (.int c2), .val (.int (1 : Int32)), .unset] [(.int c2), (.int (own_st_0_7 c2))])) := pre7.trans (by
    show Steps p.tables e below (T7.setTop (mkF m 37 #[.val (.int p1), .val (.int p2), .val (.int c1), .val (.int c2), .val (.int (1 : Int32)), .unset] [(.int (own_st_0_7 c2))])) _
    refine XS.iloadN X7.here hx rfl (hb hby at_37) rfl ?_
    exact Steps.refl _)
  obtain ⟨_, _, ⟨T9, L9, k9, n9⟩, -, X9, ⟨Lc9, hQ9, l9, y9, z9⟩, st9⟩ := Jvm.LawKit.callS X7 hx (y := (⟨"com/example/sound_schema/soundschema/LexerIsWordStartPinLaw", "reference", "(I)Z"⟩ : MethodName)) hown (mvT hZ (hw _ (List.mem_of_getElem? (i := 5) rfl))) (mvT hZ (hw _ (List.mem_of_getElem? (i := 6) rfl))) (mvT hZ (hw _ (List.mem_of_getElem? (i := 7) rfl))) (mvT hZ (hw _ (List.mem_of_getElem? (i := 8) rfl))) (by decide) (backOf (W := 1) (rm2 l Z a0 hw [] c2 h0 n0 Z0) hZ (hw _ (List.mem_of_getElem? (i := 8) rfl)) (hw _ (List.mem_of_getElem? (i := 7) rfl)) (by decide) (by decide)) (g := (mkF m 38 #[.val (.int p1), .val (.int p2), .val (.int c1), .val (.int c2), .val (.int (1 : Int32)), .unset] [(.int c2), (.int (own_st_0_7 c2))])) rfl (by rw [hml]; rfl) (argsL := [(.int c2)]) (rest := [(.int (own_st_0_7 c2))]) (lenOf pd_rm0_1 rfl) rfl (by show 2 * 0 + _ ≤ _; exact Nat.le_of_eq rfl) (hb hby at_38) (fun _ _ => ⟨rfl, hh7, (by decide : 0 + 0 ≤ _), (by decide : 0 + 0 ≤ _)⟩)
  dsimp only [Pt.U, Pt.locs, Pt.cells, Pt.slots] at X9 l9 y9 z9 st9 hQ9
  subst l9 y9 z9
  obtain ⟨rfl, N9q, hh9⟩ := hQ9
  have N9 := Fr.app N7 N9q
  have pre9 : Steps p.tables e below _ (T9.setTop (mkF m 41 #[.val (.int p1), .val (.int p2), .val (.int c1), .val (.int c2), .val (.int (1 : Int32)), .unset] [(.int (own_rf_0_10 c2)), (.int (own_st_0_7 c2))])) := pre8.trans (st9 _ (Steps.refl _))
  have hresc2 : own_st_0_7 c2 = own_rf_0_10 c2 := own_ok c2 b2.1
  have pre10 : Steps p.tables e below _ (T9.setTop (mkF m 66 #[.val (.int p1), .val (.int p2), .val (.int c1), .val (.int c2), .val (.int (1 : Int32)), .val (.int (1 : Int32))] [(.int (1 : Int32))])) := pre9.trans (by
    show Steps p.tables e below (T9.setTop (mkF m 41 #[.val (.int p1), .val (.int p2), .val (.int c1), .val (.int c2), .val (.int (1 : Int32)), .unset] [(.int (own_rf_0_10 c2)), (.int (own_st_0_7 c2))])) _
    refine XS.icmpNo X9.here hx rfl (hb hby at_41) rfl (teq (hresc2)).2 ?_
    show Steps p.tables e below (T9.setTop (mkF m 44 #[.val (.int p1), .val (.int p2), .val (.int c1), .val (.int c2), .val (.int (1 : Int32)), .unset] [])) _
    refine XS.iconst X9.here hx rfl (hb hby at_44) ?_
    show Steps p.tables e below (T9.setTop (mkF m 45 #[.val (.int p1), .val (.int p2), .val (.int c1), .val (.int c2), .val (.int (1 : Int32)), .unset] [(.int (1 : Int32))])) _
    refine XS.goto X9.here hx rfl (pc0 := 45) (pc' := 49) rfl (hb hby at_45) (by decide) (by decide) ?_
    show Steps p.tables e below (T9.setTop (mkF m 49 #[.val (.int p1), .val (.int p2), .val (.int c1), .val (.int c2), .val (.int (1 : Int32)), .unset] [(.int (1 : Int32))])) _
    refine XS.istore X9.here hx rfl (hb hby at_49) rfl (l' := #[.val (.int p1), .val (.int p2), .val (.int c1), .val (.int c2), .val (.int (1 : Int32)), .val (.int (1 : Int32))]) rfl ?_
    show Steps p.tables e below (T9.setTop (mkF m 51 #[.val (.int p1), .val (.int p2), .val (.int c1), .val (.int c2), .val (.int (1 : Int32)), .val (.int (1 : Int32))] [])) _
    refine XS.iload X9.here hx rfl (hb hby at_51) rfl ?_
    show Steps p.tables e below (T9.setTop (mkF m 53 #[.val (.int p1), .val (.int p2), .val (.int c1), .val (.int c2), .val (.int (1 : Int32)), .val (.int (1 : Int32))] [(.int (1 : Int32))])) _
    refine XS.ifNo X9.here hx rfl (hb hby at_53) rfl ((if0 _ _).trans (feq (by decide : ¬ (1 : Int32) = 0)).1) ?_
    show Steps p.tables e below (T9.setTop (mkF m 56 #[.val (.int p1), .val (.int p2), .val (.int c1), .val (.int c2), .val (.int (1 : Int32)), .val (.int (1 : Int32))] [])) _
    refine XS.iload X9.here hx rfl (hb hby at_56) rfl ?_
    show Steps p.tables e below (T9.setTop (mkF m 58 #[.val (.int p1), .val (.int p2), .val (.int c1), .val (.int c2), .val (.int (1 : Int32)), .val (.int (1 : Int32))] [(.int (1 : Int32))])) _
    refine XS.ifNo X9.here hx rfl (hb hby at_58) rfl ((if0 _ _).trans (feq (by decide : ¬ (1 : Int32) = 0)).1) ?_
    show Steps p.tables e below (T9.setTop (mkF m 61 #[.val (.int p1), .val (.int p2), .val (.int c1), .val (.int c2), .val (.int (1 : Int32)), .val (.int (1 : Int32))] [])) _
    refine XS.iconst X9.here hx rfl (hb hby at_61) ?_
    show Steps p.tables e below (T9.setTop (mkF m 62 #[.val (.int p1), .val (.int p2), .val (.int c1), .val (.int c2), .val (.int (1 : Int32)), .val (.int (1 : Int32))] [(.int (1 : Int32))])) _
    refine XS.goto X9.here hx rfl (pc0 := 62) (pc' := 66) rfl (hb hby at_62) (by decide) (by decide) ?_
    exact Steps.refl _)
  obtain ⟨fs, hr, hrun, hended, hW, hsame⟩ := X9.leave (v := some (.int (1 : Int32))) (fun h => by rw [Bd.returns] at h; cases h)
  refine ⟨_, _, pre10.trans ?_, hrun, hended, _, _, rfl, ?_, ⟨_, rfl⟩, hW, hsame.mono (by decide) (by decide)⟩
  · exact retN X9 hx (t := .boolean) Bd.returns (by simp) (hb hby at_66) hr
  · exact ⟨rfl, N9⟩
set_option maxRecDepth 65536 in
set_option maxHeartbeats 40000000 in
theorem comes_1 {Post : Tables → Env → Array Value → State → Outcome → State → Prop} (hpost : ∀ tb e args s v u, (limb_1_1.after args s (.returned v) u = true ∧ limb_1_2.after args s (.returned v) u = true ∧ True) → FrameEnd s (.returned v) u (Jvm.fieldLocs frame_1_writes args s ++ Jvm.arrayLocs frame_1_arrays args s ++ Jvm.staticLocs frame_1_statics s) 0 0 → Post tb e args s (.returned v) u) :
    ArmFor flags0 classFile x code maxLocals ret World_1 tables_1 room_1 Calls_1 rest_1 Pre_1 Post := by
  intro l hfl _ _ p e ha hc hk s m args below hf hA hF happ hP
  obtain ⟨hcalls, hrest, hpre⟩ := hP
  obtain ⟨-, -, -, hnamed, -, -, -, hat⟩ := (Spec.applies_iff hf).mp happ
  obtain ⟨hg, hn⟩ := and_e (Cond.before_iff.mp (show (Jvm.Cond.and given_1 narrow_1).before args s = true from hpre))
  obtain ⟨g0, r0⟩ := and_e hg
  obtain ⟨w0, w1, rfl⟩ : ∃ w0 w1 : Value, args = #[w0, w1] := by
    have hs : args.size = 2 := by simpa [Cond.value, given_1] using g0
    obtain ⟨L⟩ := args
    match L, hs with
    | [w0, w1], _ => exact ⟨w0, w1, rfl⟩
  have hw := fun d (hd : d ∈ tables_1) => atoms_spec (ws := Jvm.Cond.code x code maxLocals ret :: tables_1) hat d (List.mem_cons_of_mem _ hd)
  have hfit : Fit s := fun {y c} hc i hi => by
    obtain ⟨ha, rfl⟩ := Array.getElem?_eq_some_iff.mp hc
    have q := List.all_eq_true.mp ((Array.all_eq_true_iff_forall_mem.mp hF) _ (Array.getElem_mem ha)) i (List.mem_range.mpr hi)
    simpa [Array.getElem?_eq_getElem hi] using q
  obtain ⟨g1, r1⟩ := and_e r0
  obtain ⟨i0, ei0⟩ := is_v g1
  obtain rfl : w0 = (.int i0) := Option.some.inj ei0
  obtain ⟨i1, ei1⟩ := is_v r1
  obtain rfl : w1 = (.int i1) := Option.some.inj ei1
  obtain ⟨n, o, h1, h2, h3, _, L, rfl, ⟨rfl, N⟩, hq⟩ := rm0 l s _ hw tables_1 i0 i1 s.heap s.heap.size (Nat.le_refl _)  p e ha hc hk s m _ below hf ((Spec.applies_iff_loose hf).mp happ).1 ⟨rfl, State.Warmed39.refl s, rfl⟩ trivial
  refine ⟨n, _, h1, h2, h3, hpost _ _ _ _ _ _ ⟨Cond.after_iff.mpr rfl, Cond.after_iff.mpr (eq_i res_at (Term.int_eval (1)) rfl), trivial⟩ ⟨hq.1, hq.2.1, (hq.2.2.sift fun y hy => Or.inr (N y hy)).mono (by decide) (by decide)⟩⟩
theorem main_1_1 : Claimed_1_1 := comes_1 fun _ _ _ _ _ _ h hF => ⟨h.1, hF⟩
theorem main_1_2 : Claimed_1_2 := comes_1 fun _ _ _ _ _ _ h hF => ⟨h.2.1, hF⟩
end Jvm.Pilot.@@N@@
namespace Jvm.Pilot.@@N@@
open Jvm Jvm.ClassFile Sem Op Lib Jvm.Free Jvm.Stand Jvm.Pilot.@@N@@.Jvm.D
/-! MADE BY PROGRAM (witnessworld.py) out of the Statement's table words and the real class files: 9 classes; the members and pool entries that the words name. The judged class is class 1, her method 2. -/
namespace start1
open Jvm.ClassFile
def u (s : String) : CpInfo := .utf8 (stringToUtf16 s)
/-- a pool by its gaps: so many unusable entries, then the entry; so many at the end -/
def gap : Nat → List CpInfo → List CpInfo
  | 0, r => r
  | n + 1, r => .unusable :: gap n r
def poolList (es : List (Nat × CpInfo)) (last : Nat) : List CpInfo := es.foldr (fun e r => gap e.1 (e.2 :: r)) (gap last [])
def pool (es : List (Nat × CpInfo)) (last : Nat) : Array CpInfo := ⟨poolList es last⟩
def fileOf (pool : Array CpInfo) (this : Nat) (attrs : Array Attribute := #[]) (ms : Array MethodInfo := #[]) (fl : Nat := 33) (sup : Nat := 0) (ifs : Array Nat := #[]) (fds : Array FieldInfo := #[]) : ClassFile where
  minorVersion := 0
  majorVersion := 65
  constantPool := pool
  accessFlags := fl
  thisClass := this
  superClass := sup
  interfaces := ifs
  fields := fds
  methods := ms
  attributes := attrs
def plain (name : String) (sup : Option ClassId) : Class where
  name := name
  kind := .ordinary
  loader := none
  accessFlags := 33
  super := sup
  interfaces := #[]
  cf := none
  fields := #[]
  methods := #[]
  instanceTypes := #[]
  staticTypes := #[]
  resolved := #[]
  callSites := []
  init := .initialized
  statics := none
  mirror := none

def pool0 : Array CpInfo := pool [(5, u "<init>"), (0, u "()V"), (1, .class_ 10), (1, u "java/lang/Object")] 113

def k0m0 : Method := { name := "<init>", desc := "()V", sig := { parameters := [], returnType := none }, accessFlags := 1, code := none }
/-- java/lang/Object -/
def k0 : Class := { plain "java/lang/Object" none with
  accessFlags := 33
  interfaces := #[]
  cf := some (fileOf pool0 8 #[] #[{ accessFlags := 1, nameIndex := 5, descriptorIndex := 6, attributes := #[] }] 33 0 #[] #[])
  fields := #[]
  methods := #[k0m0]
  instanceTypes := #[]
  staticTypes := #[]
  resolved := Array.replicate 124 none
  statics := none }

def pool1 : Array CpInfo := pool [(2, .class_ 4), (1, u "java/lang/Object"), (0, u "<init>"), (0, u "()V"), (0, .integer 65535), (0, .methodref 9 10), (0, .class_ 11), (0, .nameAndType 12 13), (0, u "com/example/sound_schema/soundschema/Lexer"), (0, u "isWordStart"), (0, u "(C)Z"), (0, .methodref 15 16), (0, .class_ 17), (0, .nameAndType 18 19), (0, u "com/example/sound_schema/soundschema/LexerIsWordStartPinLaw"), (0, u "reference"), (0, u "(I)Z"), (3, u "law"), (0, u "(II)Z")] 2

def k1m0 : Method := { name := "<init>", desc := "()V", sig := { parameters := [], returnType := none }, accessFlags := 2, code := none }
def k1c1 : Code := { maxStack := 2, maxLocals := 3, code := method_2_code, exceptionTable := #[], attributes := #[] }
def k1m1 : Method := { name := "reference", desc := "(I)Z", sig := { parameters := [.int], returnType := some .boolean }, accessFlags := 10, code := some k1c1 }
def k1c2 : Code := { maxStack := 3, maxLocals := 6, code := code, exceptionTable := #[], attributes := #[] }
def k1m2 : Method := { name := "law", desc := "(II)Z", sig := { parameters := [.int, .int], returnType := some .boolean }, accessFlags := 9, code := some k1c2 }
/-- com/example/sound_schema/soundschema/LexerIsWordStartPinLaw -/
def k1 : Class := { plain "com/example/sound_schema/soundschema/LexerIsWordStartPinLaw" (some 0) with
  accessFlags := 49
  interfaces := #[]
  cf := some (fileOf pool1 15 #[] #[{ accessFlags := 2, nameIndex := 5, descriptorIndex := 6, attributes := #[] }, { accessFlags := 10, nameIndex := 18, descriptorIndex := 19, attributes := #[] }, { accessFlags := 9, nameIndex := 23, descriptorIndex := 24, attributes := #[] }] 49 2 #[] #[])
  fields := #[]
  methods := #[k1m0, k1m1, k1m2]
  instanceTypes := #[]
  staticTypes := #[]
  resolved := Array.replicate 27 none
  statics := none }

def pool2 : Array CpInfo := pool [(2, .class_ 4), (1, u "java/lang/Object"), (3, .class_ 10), (1, u "com/example/sound_schema/soundschema/Lexer"), (0, u "line"), (0, u "I"), (2, u "source"), (0, u "Ljava/lang/String;"), (2, u "text"), (9, u "at"), (5, .class_ 36), (0, u "com/example/sound_schema/soundschema/Lexer$Token"), (1, .class_ 40), (1, u "com/example/sound_schema/soundschema/Lexer$Kind"), (19, u "PUNCTUATION"), (13, u "isWordStart"), (0, u "(C)Z"), (62, u "lineStart")] 35

def k2c0 : Code := { maxStack := 2, maxLocals := 1, code := prog_23_method_9_code, exceptionTable := #[], attributes := #[] }
def k2m0 : Method := { name := "isWordStart", desc := "(C)Z", sig := { parameters := [.char], returnType := some .boolean }, accessFlags := 8, code := some k2c0 }
/-- com/example/sound_schema/soundschema/Lexer -/
def k2 : Class := { plain "com/example/sound_schema/soundschema/Lexer" (some 0) with
  accessFlags := 48
  interfaces := #[]
  cf := some (fileOf pool2 8 #[.nestMembers #[35, 38]] #[{ accessFlags := 8, nameIndex := 74, descriptorIndex := 75, attributes := #[] }] 48 2 #[] #[{ accessFlags := 26, nameIndex := 60, descriptorIndex := 16, attributes := #[] }, { accessFlags := 18, nameIndex := 15, descriptorIndex := 16, attributes := #[] }, { accessFlags := 18, nameIndex := 19, descriptorIndex := 16, attributes := #[] }, { accessFlags := 2, nameIndex := 29, descriptorIndex := 12, attributes := #[] }, { accessFlags := 2, nameIndex := 11, descriptorIndex := 12, attributes := #[] }, { accessFlags := 2, nameIndex := 138, descriptorIndex := 12, attributes := #[] }])
  fields := #[{ name := "PUNCTUATION", type := (.object "java/lang/String"), accessFlags := 26, slot := 0, constantValue := 0 }, { name := "source", type := (.object "java/lang/String"), accessFlags := 18, slot := 0, constantValue := 0 }, { name := "text", type := (.object "java/lang/String"), accessFlags := 18, slot := 1, constantValue := 0 }, { name := "at", type := .int, accessFlags := 2, slot := 2, constantValue := 0 }, { name := "line", type := .int, accessFlags := 2, slot := 3, constantValue := 0 }, { name := "lineStart", type := .int, accessFlags := 2, slot := 4, constantValue := 0 }]
  methods := #[k2m0]
  instanceTypes := #[(.object "java/lang/String"), (.object "java/lang/String"), .int, .int, .int]
  staticTypes := #[(.object "java/lang/String")]
  resolved := Array.replicate 174 none
  statics := none }

def pool3 : Array CpInfo := pool [(1, u "java/lang/Cloneable"), (0, .class_ 1), (0, u "java/lang/Object"), (0, .class_ 3)] 3

/-- java/lang/Cloneable -/
def k3 : Class := { plain "java/lang/Cloneable" (some 0) with
  accessFlags := 1537
  interfaces := #[]
  cf := some (fileOf pool3 2 #[] #[] 1537 4 #[] #[])
  fields := #[]
  methods := #[]
  instanceTypes := #[]
  staticTypes := #[]
  resolved := Array.replicate 8 none
  statics := none }

def pool4 : Array CpInfo := pool [(1, u "java/io/Serializable"), (0, .class_ 1), (0, u "java/lang/Object"), (0, .class_ 3)] 3

/-- java/io/Serializable -/
def k4 : Class := { plain "java/io/Serializable" (some 0) with
  accessFlags := 1537
  interfaces := #[]
  cf := some (fileOf pool4 2 #[] #[] 1537 4 #[] #[])
  fields := #[]
  methods := #[]
  instanceTypes := #[]
  staticTypes := #[]
  resolved := Array.replicate 8 none
  statics := none }

/-- the primitive byte -/
def k5 : Class := { plain "byte" none with kind := .primitive 'B', accessFlags := 0x411 }
/-- [B -/
def k6 : Class := { plain "[B" (some 0) with kind := .array 5 .byte, interfaces := #[3, 4], accessFlags := 1041 }

/-- the primitive int -/
def k7 : Class := { plain "int" none with kind := .primitive 'I', accessFlags := 0x411 }
/-- [I -/
def k8 : Class := { plain "[I" (some 0) with kind := .array 7 .int, interfaces := #[3, 4], accessFlags := 1041 }

def heap : Heap := #[]
def classes : Array Class := #[k0, k1, k2, k3, k4, k5, k6, k7, k8]
def interned : List (Array UInt16 × Addr) := []
def slotsUsed : Nat := 0
def theMethod : MethodId := ⟨1, 2⟩
def args0 : Array Value := #[.int 97, .int 3]
def aboutOver (below : List Frame) : State where
  vm := { classes := classes, interned := interned.toArray }
  heap := heap
  slotsUsed := slotsUsed
  threads := #[{ frames := .invoking theMethod args0 :: below }]
def below0 : List Frame := [.native { method := ⟨0, 0⟩, args := #[] }]
def about1 : State := aboutOver below0
def p0 : Program := .bare "" "" ""
def e0 : Env := launch0.env 0 0 0
theorem w_frames : about1.frames = Frame.invoking theMethod args0 :: below0 := rfl
set_option maxRecDepth 65536 in
theorem w_args : argsFit about1.vm theMethod args0 = true := by decide +kernel
set_option maxRecDepth 65536 in
theorem w_heap : heapFits about1 = true := by decide +kernel
set_option maxRecDepth 65536 in
theorem w_runnable : about1.curStatus? = some .runnable := by decide +kernel
set_option maxRecDepth 65536 in
theorem w_alone : about1.alone = true := by decide +kernel
set_option maxRecDepth 65536 in
theorem w_named : about1.methodNamed? x = some theMethod := by decide +kernel
set_option maxRecDepth 65536 in
theorem w_hears : about1.hears theMethod below0 = true := by decide +kernel
set_option maxRecDepth 65536 in
theorem w_ripe : about1.ripe theMethod args0 below0 = true := by decide +kernel
theorem w_running : about1.status = .running := rfl
set_option maxRecDepth 65536 in
theorem w_room : about1.hasRoom e0.platform room_1 = true :=
  launch0.hasRoom_least _ room_1 (by decide +kernel) (by decide +kernel) (by decide +kernel) (by decide +kernel) (by decide +kernel) (by decide +kernel)
theorem allAtoms_all (ts : List Jvm.Cond) (a : Array Jvm.Value) (st : Jvm.State) : (allAtoms ts).before a st = ts.all (fun c => c.before a st) := by
  induction ts with
  | nil => rfl
  | cons c t ih =>
    show (Jvm.Cond.and c (allAtoms t)).before a st = _
    rw [Jvm.Cond.before_and, ih, List.all_cons]
def words1 : List Jvm.Cond := Jvm.Cond.code x code maxLocals ret :: tables_1
/-- a 'code' word, met by the world's own term for the bytes: nothing is compared byte by byte -/
theorem code_word {y : MethodName} {bytes : ByteArray} {mx : Nat} {rt : Option FieldType} {a : Array Value} {s : State} {m : MethodId} {meth : Method} {c : Code} (h1 : s.methodNamed? y = some m) (h2 : s.vm.method? m = some meth) (h3 : meth.code = some c) (h4 : c.code = bytes)
    (h5 : (c.maxLocals == mx && c.exceptionTable.isEmpty && decide (c.maxStack ≤ mostOperands) && decide (meth.sig.returnType = rt) && !meth.locks && decide (parseMethodDescriptor y.desc = some meth.sig)) = true) : (Jvm.Cond.code y bytes mx rt).before a s = true := by
  simp only [Bool.and_eq_true, beq_iff_eq, Bool.not_eq_true', decide_eq_true_eq] at h5
  obtain ⟨⟨⟨⟨⟨g1, g2⟩, g3⟩, g4⟩, g5⟩, g6⟩ := h5
  simp [Cond.before, Cond.holds, Cond.value, h1, h2, h3, h4, g1, g2, g3, g4, g5, g6]
def isCode : Jvm.Cond → Bool
  | .code _ _ _ _ => true
  | _ => false
theorem all_split {L : List Jvm.Cond} {P : Jvm.Cond → Bool} (h1 : L.all (fun c => isCode c || P c) = true) (h2 : ∀ c ∈ L.filter isCode, P c = true) : L.all P = true := by
  refine List.all_eq_true.mpr fun c hc => ?_
  have h := List.all_eq_true.mp h1 c hc
  rcases Bool.eq_false_or_eq_true (isCode c) with hi | hi
  · exact h2 c (List.mem_filter.mpr ⟨hc, hi⟩)
  · simpa [hi] using h
set_option maxRecDepth 65536 in
theorem w_c0 : (Jvm.Cond.code x code maxLocals ret).before args0 about1 = true := code_word (m := ⟨1, 2⟩) (meth := k1m2) (c := k1c2) (by decide +kernel) rfl rfl rfl (by decide +kernel)
set_option maxRecDepth 65536 in
theorem w_c1 : (Jvm.Cond.code ({ cls := "com/example/sound_schema/soundschema/Lexer", name := "isWordStart", desc := "(C)Z" } : Jvm.MethodName) prog_23_method_9_code (1 : Nat) (Option.some Jvm.ClassFile.FieldType.boolean)).before args0 about1 = true := code_word (m := ⟨2, 0⟩) (meth := k2m0) (c := k2c0) (by decide +kernel) rfl rfl rfl (by decide +kernel)
set_option maxRecDepth 65536 in
theorem w_c2 : (Jvm.Cond.code ({ cls := "com/example/sound_schema/soundschema/LexerIsWordStartPinLaw", name := "reference", desc := "(I)Z" } : Jvm.MethodName) method_2_code (3 : Nat) (Option.some Jvm.ClassFile.FieldType.boolean)).before args0 about1 = true := code_word (m := ⟨1, 1⟩) (meth := k1m1) (c := k1c1) (by decide +kernel) rfl rfl rfl (by decide +kernel)
def codes1 : List Jvm.Cond := [Jvm.Cond.code x code maxLocals ret, Jvm.Cond.code ({ cls := "com/example/sound_schema/soundschema/Lexer", name := "isWordStart", desc := "(C)Z" } : Jvm.MethodName) prog_23_method_9_code (1 : Nat) (Option.some Jvm.ClassFile.FieldType.boolean), Jvm.Cond.code ({ cls := "com/example/sound_schema/soundschema/LexerIsWordStartPinLaw", name := "reference", desc := "(I)Z" } : Jvm.MethodName) method_2_code (3 : Nat) (Option.some Jvm.ClassFile.FieldType.boolean)]
set_option maxRecDepth 65536 in
theorem codes_eq : words1.filter isCode = codes1 := rfl
theorem w_codes : ∀ c ∈ words1.filter isCode, c.before args0 about1 = true := by
  rw [codes_eq]
  intro c hc
  simp only [codes1, List.mem_cons, List.not_mem_nil, or_false] at hc
  rcases hc with rfl | rfl | rfl
  · exact w_c0
  · exact w_c1
  · exact w_c2
set_option maxRecDepth 65536 in
theorem w_t1 : words1.all (fun c => isCode c || c.before args0 about1) = true := by decide +kernel
theorem w_tables : (allAtoms (Jvm.Cond.code x code maxLocals ret :: tables_1)).before args0 about1 = true := by
  rw [allAtoms_all]
  show words1.all (fun c => c.before args0 about1) = true
  refine all_split ?_ w_codes
  rw [w_t1]
set_option maxRecDepth 65536 in
theorem w_case : (Jvm.Cond.and given_1 narrow_1).before args0 about1 = true := by decide +kernel
theorem w_applies : (headSpec (Jvm.Cond.code x code maxLocals ret :: tables_1) room_1).applies x e0.platform about1 = true :=
  (Spec.applies_iff w_frames).mpr ⟨w_running, w_runnable, w_alone, w_named, w_hears, w_ripe, w_room, w_tables⟩
theorem atStart : AtStart classFile x code maxLocals ret World_1 tables_1 room_1 Calls_1 rest_1 Pre_1 launch0 p0 e0 about1 theMethod args0 below0 :=
  ⟨lists_1, trivial, launch0.admits_env _ _ _, launch0.least_env, fairChoices_fair.cas, fairChoices_fair.clock, w_frames, w_args, w_heap, w_applies, trivial, trivial, w_case⟩
end start1
theorem witness_1 : WitnessClaimed_1 := ⟨start1.p0, start1.e0, start1.about1, start1.theMethod, start1.args0, start1.below0, start1.atStart⟩
end Jvm.Pilot.@@N@@
