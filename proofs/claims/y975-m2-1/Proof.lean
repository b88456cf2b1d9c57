import JvmDerived
import JvmDerived.Pilot.@@N@@Statement
import JvmDerived.Pilot.@@N@@Code
set_option linter.unusedVariables false
set_option linter.unusedSimpArgs false
namespace Jvm.Pilot.@@N@@
open Jvm Jvm.ClassFile Sem Op Lib Jvm.Free Jvm.Stand Jvm.LawKit Jvm.RoadKit Bundle Jvm.Pilot.@@N@@.Jvm.D
theorem d1_0 : decode prog_23_method_8_code 0 = .ok (.iload_n 0, 1) := by decide +kernel
theorem d1_1 : decode prog_23_method_8_code 1 = .ok (.bipush 32, 2) := by decide +kernel
theorem d1_3 : decode prog_23_method_8_code 3 = .ok (.if_icmp .eq 27, 3) := by decide +kernel
theorem d1_6 : decode prog_23_method_8_code 6 = .ok (.iload_n 0, 1) := by decide +kernel
theorem d1_7 : decode prog_23_method_8_code 7 = .ok (.bipush 9, 2) := by decide +kernel
theorem d1_9 : decode prog_23_method_8_code 9 = .ok (.if_icmp .eq 21, 3) := by decide +kernel
theorem d1_12 : decode prog_23_method_8_code 12 = .ok (.iload_n 0, 1) := by decide +kernel
theorem d1_13 : decode prog_23_method_8_code 13 = .ok (.bipush 10, 2) := by decide +kernel
theorem d1_15 : decode prog_23_method_8_code 15 = .ok (.if_icmp .eq 15, 3) := by decide +kernel
theorem d1_18 : decode prog_23_method_8_code 18 = .ok (.iload_n 0, 1) := by decide +kernel
theorem d1_19 : decode prog_23_method_8_code 19 = .ok (.bipush 13, 2) := by decide +kernel
theorem d1_21 : decode prog_23_method_8_code 21 = .ok (.if_icmp .eq 9, 3) := by decide +kernel
theorem d1_24 : decode prog_23_method_8_code 24 = .ok (.iload_n 0, 1) := by decide +kernel
theorem d1_25 : decode prog_23_method_8_code 25 = .ok (.bipush 12, 2) := by decide +kernel
theorem d1_27 : decode prog_23_method_8_code 27 = .ok (.if_icmp .ne 7, 3) := by decide +kernel
theorem d1_30 : decode prog_23_method_8_code 30 = .ok (.iconst 1, 1) := by decide +kernel
theorem d1_31 : decode prog_23_method_8_code 31 = .ok (.goto 4, 3) := by decide +kernel
theorem d1_34 : decode prog_23_method_8_code 34 = .ok (.iconst 0, 1) := by decide +kernel
theorem d1_35 : decode prog_23_method_8_code 35 = .ok (.ireturn, 1) := by decide +kernel
theorem pn_rm1 : plainName "com/example/sound_schema/soundschema/Lexer" = true := by first | (simp [plainName, overriddenIn]; done) | decide +kernel
theorem ef_rm1 (m : MethodId) (p1 : Int32) : entryFrame m #[(.int p1)] 1 = (mkF m 0 #[.val (.int p1)] []) := by first | (simp [entryFrame, mkF, argsToLocals, Value.category]; done) | rfl
def own_ws_0_1 (p1 : Int32) : Int32 := (1 : Int32)
def own_ws_0_2 (p1 : Int32) : Int32 := (0 : Int32)
def own_ws_0_3 (p1 : Int32) : Int32 := if p1 = (12 : Int32) then own_ws_0_1 p1 else own_ws_0_2 p1
def own_ws_0_4 (p1 : Int32) : Int32 := if p1 = (13 : Int32) then own_ws_0_1 p1 else own_ws_0_3 p1
def own_ws_0_5 (p1 : Int32) : Int32 := if p1 = (10 : Int32) then own_ws_0_1 p1 else own_ws_0_4 p1
def own_ws_0_6 (p1 : Int32) : Int32 := if p1 = (9 : Int32) then own_ws_0_1 p1 else own_ws_0_5 p1
def own_ws_0_7 (p1 : Int32) : Int32 := if p1 = (32 : Int32) then own_ws_0_1 p1 else own_ws_0_6 p1
def Q_rm1 (Z : State) (p1 : Int32)  (h0 : Heap) (n0 : Nat) (v : Option Value) (h : Heap) (L : List Loc) : Prop := v = some (.int (own_ws_0_7 p1)) ∧ Fr n0 L ∧ h = h0
set_option maxRecDepth 65536 in
set_option maxHeartbeats 40000000 in
theorem rm1 (l : Launch) (Z : State) (a0 : Array Value) (hw : ∀ d ∈ tables_1, d.before a0 Z = true) (ws : List Jvm.Cond) (p1 : Int32)  (h0 : Heap) (n0 : Nat) (Z0 : n0 ≤ h0.size)  :
    MetFree l (⟨"com/example/sound_schema/soundschema/Lexer", "isWhitespace", "(C)Z"⟩ : MethodName) (head1 (Jvm.Cond.code (⟨"com/example/sound_schema/soundschema/Lexer", "isWhitespace", "(C)Z"⟩ : MethodName) prog_23_method_8_code 1 (some .boolean) :: ws) ({ frames := 0, cells := 0, slots := 0, locals := 0 } : Room)) (fun a U => a = #[(.int p1)] ∧ Z.Warmed39 U.vm ∧ U.heap = h0) (fun _ _ _ _ _ => True) (fun _ U o U' => ∃ v L, o = .returned v ∧ Q_rm1 Z p1 h0 n0 v U'.heap L ∧ FrameEnd U o U' L ({ frames := 0, cells := 0, slots := 0, locals := 0 } : Room).cells ({ frames := 0, cells := 0, slots := 0, locals := 0 } : Room).slots) := by
  refine MetFree.of_bodySF (plainFor_of_name pn_rm1) hisR ?_
  intro p e s m args below meth c s₁ Bd hml0 hP hK
  obtain ⟨rfl, hZ, hh⟩ := hP
  have hx := Bd.exec
  have hby := Bd.bytes
  have hml : c.maxLocals = 1 := hml0
  have hown : s.vm.findClass "com/example/sound_schema/soundschema/Lexer" = some m.cls := findClass_of_methodNamed Bd.named
  have hnm := (name_of_methodNamed Bd.named Bd.method).1
  have X0 : Stand p l e ({ frames := 0, cells := 0, slots := 0, locals := 0 } : Room) s m #[(.int p1)] below meth c s₁ [] 0 0 := Stand.of_body Bd
  have e0 : s₁.heap = h0 := by rw [← hh, Bd.state]; rfl
  have N0 := Fr.nil n0
  have pre0 : Steps p.tables e below (s₁.setTop (entryFrame m #[(.int p1)] 1)) (s₁.setTop (mkF m 0 #[.val (.int p1)] [])) := castTop (ef_rm1 m p1) (Steps.refl _)
  obtain ⟨v_ws_0, h_v_ws_0⟩ : ∃ z, z = own_ws_0_7 p1 := ⟨_, rfl⟩
  obtain ⟨fs, hr, hrun, hended, hW, hsame⟩ := X0.leave (v := some (.int v_ws_0)) (fun h => by rw [Bd.returns] at h; cases h)
  have Bws_1 (hv0 : v_ws_0 = own_ws_0_1 p1) : Steps p.tables e below (s₁.setTop (mkF m 30 #[.val (.int p1)] [])) (s₁.setFrames fs) := by
    have hw0 : v_ws_0 = (1 : Int32) := hv0
    rw [hw0] at hr
    show Steps p.tables e below (s₁.setTop (mkF m 30 #[.val (.int p1)] [])) _
    refine XS.iconst X0.here hx rfl (hb hby d1_30) ?_
    show Steps p.tables e below (s₁.setTop (mkF m 31 #[.val (.int p1)] [(.int (1 : Int32))])) _
    refine XS.goto X0.here hx rfl (pc0 := 31) (pc' := 35) rfl (hb hby d1_31) (by decide) (by decide) ?_
    show Steps p.tables e below (s₁.setTop (mkF m 35 #[.val (.int p1)] [(.int (1 : Int32))])) _
    exact retN X0 hx (t := .boolean) Bd.returns (by simp) (hb hby d1_35) hr
  have Bws_2 (hv0 : v_ws_0 = own_ws_0_2 p1) : Steps p.tables e below (s₁.setTop (mkF m 34 #[.val (.int p1)] [])) (s₁.setFrames fs) := by
    have hw0 : v_ws_0 = (0 : Int32) := hv0
    rw [hw0] at hr
    show Steps p.tables e below (s₁.setTop (mkF m 34 #[.val (.int p1)] [])) _
    refine XS.iconst X0.here hx rfl (hb hby d1_34) ?_
    show Steps p.tables e below (s₁.setTop (mkF m 35 #[.val (.int p1)] [(.int (0 : Int32))])) _
    exact retN X0 hx (t := .boolean) Bd.returns (by simp) (hb hby d1_35) hr
  have Bws_3 (hv0 : v_ws_0 = own_ws_0_3 p1) : Steps p.tables e below (s₁.setTop (mkF m 24 #[.val (.int p1)] [])) (s₁.setFrames fs) := by
    show Steps p.tables e below (s₁.setTop (mkF m 24 #[.val (.int p1)] [])) _
    refine XS.iloadN X0.here hx rfl (hb hby d1_24) rfl ?_
    show Steps p.tables e below (s₁.setTop (mkF m 25 #[.val (.int p1)] [(.int p1)])) _
    refine XS.bipush X0.here hx rfl (hb hby d1_25) ?_
    show Steps p.tables e below (s₁.setTop (mkF m 27 #[.val (.int p1)] [(.int (12 : Int32)), (.int p1)])) _
    by_cases h27 : p1 = (12 : Int32)
    · refine XS.icmpNo X0.here hx rfl (hb hby d1_27) rfl (teq h27).2 ?_
      exact Bws_1 (hv0.trans (if_pos h27))
    · refine XS.icmpYes X0.here hx rfl (pc0 := 27) (pc' := 34) rfl (hb hby d1_27) rfl (feq h27).2 (by decide) (by decide) ?_
      exact Bws_2 (hv0.trans (if_neg h27))
  have Bws_4 (hv0 : v_ws_0 = own_ws_0_4 p1) : Steps p.tables e below (s₁.setTop (mkF m 18 #[.val (.int p1)] [])) (s₁.setFrames fs) := by
    show Steps p.tables e below (s₁.setTop (mkF m 18 #[.val (.int p1)] [])) _
    refine XS.iloadN X0.here hx rfl (hb hby d1_18) rfl ?_
    show Steps p.tables e below (s₁.setTop (mkF m 19 #[.val (.int p1)] [(.int p1)])) _
    refine XS.bipush X0.here hx rfl (hb hby d1_19) ?_
    show Steps p.tables e below (s₁.setTop (mkF m 21 #[.val (.int p1)] [(.int (13 : Int32)), (.int p1)])) _
    by_cases h21 : p1 = (13 : Int32)
    · refine XS.icmpYes X0.here hx rfl (pc0 := 21) (pc' := 30) rfl (hb hby d1_21) rfl (teq h21).1 (by decide) (by decide) ?_
      exact Bws_1 (hv0.trans (if_pos h21))
    · refine XS.icmpNo X0.here hx rfl (hb hby d1_21) rfl (feq h21).1 ?_
      exact Bws_3 (hv0.trans (if_neg h21))
  have Bws_5 (hv0 : v_ws_0 = own_ws_0_5 p1) : Steps p.tables e below (s₁.setTop (mkF m 12 #[.val (.int p1)] [])) (s₁.setFrames fs) := by
    show Steps p.tables e below (s₁.setTop (mkF m 12 #[.val (.int p1)] [])) _
    refine XS.iloadN X0.here hx rfl (hb hby d1_12) rfl ?_
    show Steps p.tables e below (s₁.setTop (mkF m 13 #[.val (.int p1)] [(.int p1)])) _
    refine XS.bipush X0.here hx rfl (hb hby d1_13) ?_
    show Steps p.tables e below (s₁.setTop (mkF m 15 #[.val (.int p1)] [(.int (10 : Int32)), (.int p1)])) _
    by_cases h15 : p1 = (10 : Int32)
    · refine XS.icmpYes X0.here hx rfl (pc0 := 15) (pc' := 30) rfl (hb hby d1_15) rfl (teq h15).1 (by decide) (by decide) ?_
      exact Bws_1 (hv0.trans (if_pos h15))
    · refine XS.icmpNo X0.here hx rfl (hb hby d1_15) rfl (feq h15).1 ?_
      exact Bws_4 (hv0.trans (if_neg h15))
  have Bws_6 (hv0 : v_ws_0 = own_ws_0_6 p1) : Steps p.tables e below (s₁.setTop (mkF m 6 #[.val (.int p1)] [])) (s₁.setFrames fs) := by
    show Steps p.tables e below (s₁.setTop (mkF m 6 #[.val (.int p1)] [])) _
    refine XS.iloadN X0.here hx rfl (hb hby d1_6) rfl ?_
    show Steps p.tables e below (s₁.setTop (mkF m 7 #[.val (.int p1)] [(.int p1)])) _
    refine XS.bipush X0.here hx rfl (hb hby d1_7) ?_
    show Steps p.tables e below (s₁.setTop (mkF m 9 #[.val (.int p1)] [(.int (9 : Int32)), (.int p1)])) _
    by_cases h9 : p1 = (9 : Int32)
    · refine XS.icmpYes X0.here hx rfl (pc0 := 9) (pc' := 30) rfl (hb hby d1_9) rfl (teq h9).1 (by decide) (by decide) ?_
      exact Bws_1 (hv0.trans (if_pos h9))
    · refine XS.icmpNo X0.here hx rfl (hb hby d1_9) rfl (feq h9).1 ?_
      exact Bws_5 (hv0.trans (if_neg h9))
  have Bws_7 (hv0 : v_ws_0 = own_ws_0_7 p1) : Steps p.tables e below (s₁.setTop (mkF m 0 #[.val (.int p1)] [])) (s₁.setFrames fs) := by
    show Steps p.tables e below (s₁.setTop (mkF m 0 #[.val (.int p1)] [])) _
    refine XS.iloadN X0.here hx rfl (hb hby d1_0) rfl ?_
    show Steps p.tables e below (s₁.setTop (mkF m 1 #[.val (.int p1)] [(.int p1)])) _
    refine XS.bipush X0.here hx rfl (hb hby d1_1) ?_
    show Steps p.tables e below (s₁.setTop (mkF m 3 #[.val (.int p1)] [(.int (32 : Int32)), (.int p1)])) _
    by_cases h3 : p1 = (32 : Int32)
    · refine XS.icmpYes X0.here hx rfl (pc0 := 3) (pc' := 30) rfl (hb hby d1_3) rfl (teq h3).1 (by decide) (by decide) ?_
      exact Bws_1 (hv0.trans (if_pos h3))
    · refine XS.icmpNo X0.here hx rfl (hb hby d1_3) rfl (feq h3).1 ?_
      exact Bws_6 (hv0.trans (if_neg h3))
  have pre1 : Steps p.tables e below _ (s₁.setFrames fs) := pre0.trans (Bws_7 h_v_ws_0)
  refine ⟨_, _, pre1, hrun, hended, _, _, rfl, ?_, ⟨_, rfl⟩, hW, hsame.mono (by decide) (by decide)⟩
  exact ⟨by rw [h_v_ws_0], N0, e0⟩
def own_ex_0_1 (c1 : Int32) : Int32 := (1 : Int32)
def own_ex_0_2 (c1 : Int32) : Int32 := (0 : Int32)
def own_ex_0_3 (c1 : Int32) : Int32 := if c1 = (11 : Int32) then own_ex_0_2 c1 else own_ex_0_1 c1
def own_ex_0_4 (c1 : Int32) : Int32 := if (13 : Int32) < c1 then own_ex_0_2 c1 else own_ex_0_3 c1
def own_ex_0_5 (c1 : Int32) : Int32 := if c1 < (9 : Int32) then own_ex_0_2 c1 else own_ex_0_4 c1
def own_ex_0_6 (c1 : Int32) : Int32 := if c1 = (32 : Int32) then own_ex_0_1 c1 else own_ex_0_5 c1
theorem own_ifc {P Q : Prop} [Decidable P] [Decidable Q] (h : P ↔ Q) : (if P then (1 : Int32) else 0) = if Q then 1 else 0 := by
  by_cases p : P
  · rw [if_pos p, if_pos (h.mp p)]
  · rw [if_neg p, if_neg (fun q => p (h.mpr q))]
theorem own_small (c : Int32) (h0 : 0 ≤ c.toInt) (n : Nat) (P : Int32 → Prop) (h : ∀ k : Fin n, P (Int32.ofInt (k.1 : Int))) (hn : c.toInt < n) : P c := by
  have q := h ⟨c.toInt.toNat, by omega⟩
  simp only [Int.toNat_of_nonneg h0, Int32.ofInt_toInt] at q
  exact q
theorem own_eq_iff (c k : Int32) : c = k ↔ c.toInt = k.toInt := Int32.toInt_inj.symm
theorem sp_own_ws_0_1 (c : Int32) : own_ws_0_1 c = if True then 1 else 0 := rfl
theorem sp_own_ws_0_2 (c : Int32) : own_ws_0_2 c = if False then 1 else 0 := rfl
theorem sp_own_ws_0_3 (c : Int32) : own_ws_0_3 c = if c.toInt = 12 then 1 else 0 := by
  have hz : (c = (12 : Int32)) ↔ c.toInt = 12 := by rw [own_eq_iff]; simp only [Int32.reduceToInt]
  show (if c = (12 : Int32) then own_ws_0_1 c else own_ws_0_2 c) = _
  rw [sp_own_ws_0_1, sp_own_ws_0_2]
  by_cases h : c = (12 : Int32)
  · rw [if_pos h]; rw [hz] at h; exact (if_pos trivial).trans (if_pos (by omega)).symm
  · rw [if_neg h]; rw [hz] at h; exact (if_neg (fun q => q)).trans (if_neg (by omega)).symm
theorem sp_own_ws_0_4 (c : Int32) : own_ws_0_4 c = if (12 ≤ c.toInt ∧ c.toInt ≤ 13) then 1 else 0 := by
  have hz : (c = (13 : Int32)) ↔ c.toInt = 13 := by rw [own_eq_iff]; simp only [Int32.reduceToInt]
  show (if c = (13 : Int32) then own_ws_0_1 c else own_ws_0_3 c) = _
  rw [sp_own_ws_0_1, sp_own_ws_0_3]
  by_cases h : c = (13 : Int32)
  · rw [if_pos h]; rw [hz] at h; exact (if_pos trivial).trans (if_pos (by omega)).symm
  · rw [if_neg h]; rw [hz] at h; exact own_ifc (by omega)
theorem sp_own_ws_0_5 (c : Int32) : own_ws_0_5 c = if c.toInt = 10 ∨ (12 ≤ c.toInt ∧ c.toInt ≤ 13) then 1 else 0 := by
  have hz : (c = (10 : Int32)) ↔ c.toInt = 10 := by rw [own_eq_iff]; simp only [Int32.reduceToInt]
  show (if c = (10 : Int32) then own_ws_0_1 c else own_ws_0_4 c) = _
  rw [sp_own_ws_0_1, sp_own_ws_0_4]
  by_cases h : c = (10 : Int32)
  · rw [if_pos h]; rw [hz] at h; exact (if_pos trivial).trans (if_pos (by omega)).symm
  · rw [if_neg h]; rw [hz] at h; exact own_ifc (by omega)
theorem sp_own_ws_0_6 (c : Int32) : own_ws_0_6 c = if (9 ≤ c.toInt ∧ c.toInt ≤ 10) ∨ (12 ≤ c.toInt ∧ c.toInt ≤ 13) then 1 else 0 := by
  have hz : (c = (9 : Int32)) ↔ c.toInt = 9 := by rw [own_eq_iff]; simp only [Int32.reduceToInt]
  show (if c = (9 : Int32) then own_ws_0_1 c else own_ws_0_5 c) = _
  rw [sp_own_ws_0_1, sp_own_ws_0_5]
  by_cases h : c = (9 : Int32)
  · rw [if_pos h]; rw [hz] at h; exact (if_pos trivial).trans (if_pos (by omega)).symm
  · rw [if_neg h]; rw [hz] at h; exact own_ifc (by omega)
theorem sp_own_ws_0_7 (c : Int32) : own_ws_0_7 c = if (9 ≤ c.toInt ∧ c.toInt ≤ 10) ∨ (12 ≤ c.toInt ∧ c.toInt ≤ 13) ∨ c.toInt = 32 then 1 else 0 := by
  have hz : (c = (32 : Int32)) ↔ c.toInt = 32 := by rw [own_eq_iff]; simp only [Int32.reduceToInt]
  show (if c = (32 : Int32) then own_ws_0_1 c else own_ws_0_6 c) = _
  rw [sp_own_ws_0_1, sp_own_ws_0_6]
  by_cases h : c = (32 : Int32)
  · rw [if_pos h]; rw [hz] at h; exact (if_pos trivial).trans (if_pos (by omega)).symm
  · rw [if_neg h]; rw [hz] at h; exact own_ifc (by omega)
theorem sp_own_ex_0_1 (c : Int32) : own_ex_0_1 c = if True then 1 else 0 := rfl
theorem sp_own_ex_0_2 (c : Int32) : own_ex_0_2 c = if False then 1 else 0 := rfl
theorem sp_own_ex_0_3 (c : Int32) : own_ex_0_3 c = if c.toInt ≤ 10 ∨ 12 ≤ c.toInt then 1 else 0 := by
  have hz : (c = (11 : Int32)) ↔ c.toInt = 11 := by rw [own_eq_iff]; simp only [Int32.reduceToInt]
  show (if c = (11 : Int32) then own_ex_0_2 c else own_ex_0_1 c) = _
  rw [sp_own_ex_0_2, sp_own_ex_0_1]
  by_cases h : c = (11 : Int32)
  · rw [if_pos h]; rw [hz] at h; exact (if_neg (fun q => q)).trans (if_neg (by omega)).symm
  · rw [if_neg h]; rw [hz] at h; exact (if_pos trivial).trans (if_pos (by omega)).symm
theorem sp_own_ex_0_4 (c : Int32) : own_ex_0_4 c = if c.toInt ≤ 10 ∨ (12 ≤ c.toInt ∧ c.toInt ≤ 13) then 1 else 0 := by
  have hz : ((13 : Int32) < c) ↔ 13 < c.toInt := by simp only [Int32.lt_iff_toInt_lt, Int32.reduceToInt]
  show (if (13 : Int32) < c then own_ex_0_2 c else own_ex_0_3 c) = _
  rw [sp_own_ex_0_2, sp_own_ex_0_3]
  by_cases h : (13 : Int32) < c
  · rw [if_pos h]; rw [hz] at h; exact (if_neg (fun q => q)).trans (if_neg (by omega)).symm
  · rw [if_neg h]; rw [hz] at h; exact own_ifc (by omega)
theorem sp_own_ex_0_5 (c : Int32) : own_ex_0_5 c = if (9 ≤ c.toInt ∧ c.toInt ≤ 10) ∨ (12 ≤ c.toInt ∧ c.toInt ≤ 13) then 1 else 0 := by
  have hz : (c < (9 : Int32)) ↔ c.toInt < 9 := by simp only [Int32.lt_iff_toInt_lt, Int32.reduceToInt]
  show (if c < (9 : Int32) then own_ex_0_2 c else own_ex_0_4 c) = _
  rw [sp_own_ex_0_2, sp_own_ex_0_4]
  by_cases h : c < (9 : Int32)
  · rw [if_pos h]; rw [hz] at h; exact (if_neg (fun q => q)).trans (if_neg (by omega)).symm
  · rw [if_neg h]; rw [hz] at h; exact own_ifc (by omega)
theorem sp_own_ex_0_6 (c : Int32) : own_ex_0_6 c = if (9 ≤ c.toInt ∧ c.toInt ≤ 10) ∨ (12 ≤ c.toInt ∧ c.toInt ≤ 13) ∨ c.toInt = 32 then 1 else 0 := by
  have hz : (c = (32 : Int32)) ↔ c.toInt = 32 := by rw [own_eq_iff]; simp only [Int32.reduceToInt]
  show (if c = (32 : Int32) then own_ex_0_1 c else own_ex_0_5 c) = _
  rw [sp_own_ex_0_1, sp_own_ex_0_5]
  by_cases h : c = (32 : Int32)
  · rw [if_pos h]; rw [hz] at h; exact (if_pos trivial).trans (if_pos (by omega)).symm
  · rw [if_neg h]; rw [hz] at h; exact own_ifc (by omega)
theorem own_ok (c : Int32) : own_ws_0_7 c = own_ex_0_6 c := by rw [sp_own_ws_0_7, sp_own_ex_0_6]
theorem pn_rm0 : plainName "com/example/sound_schema/soundschema/LexerIsWhitespacePinLaw" = true := by first | (simp [plainName, overriddenIn]; done) | decide +kernel
theorem pd_rm0_0 : parseMethodDescriptor "(C)Z" = some ⟨[.char], some .boolean⟩ := by decide +kernel
theorem ef_rm0 (m : MethodId) (p1 : Int32) : entryFrame m #[(.int p1)] maxLocals = (mkF m 0 #[.val (.int p1), .unset, .unset, .unset] []) := by first | (simp [entryFrame, mkF, argsToLocals, Value.category, maxLocals]; done) | rfl
def Q_rm0 (Z : State) (p1 : Int32)  (h0 : Heap) (n0 : Nat) (v : Option Value) (h : Heap) (L : List Loc) : Prop := v = some (.int (1 : Int32)) ∧ Fr n0 L
set_option maxRecDepth 65536 in
set_option maxHeartbeats 40000000 in
theorem rm0 (l : Launch) (Z : State) (a0 : Array Value) (hw : ∀ d ∈ tables_1, d.before a0 Z = true) (ws : List Jvm.Cond) (p1 : Int32)  (h0 : Heap) (n0 : Nat) (Z0 : n0 ≤ h0.size)  :
    MetFree l x (head1 (Jvm.Cond.code x code maxLocals ret :: ws) room_1) (fun a U => a = #[(.int p1)] ∧ Z.Warmed39 U.vm ∧ U.heap = h0) (fun _ _ _ _ _ => True) (fun _ U o U' => ∃ v L, o = .returned v ∧ Q_rm0 Z p1 h0 n0 v U'.heap L ∧ FrameEnd U o U' L 0 0) := by
  refine MetFree.of_bodySF (plainFor_of_name pn_rm0) hisR ?_
  intro p e s m args below meth c s₁ Bd hml0 hP hK
  obtain ⟨rfl, hZ, hh⟩ := hP
  have hx := Bd.exec
  have hby := Bd.bytes
  have hml : c.maxLocals = 4 := hml0
  have hown : s.vm.findClass "com/example/sound_schema/soundschema/LexerIsWhitespacePinLaw" = some m.cls := findClass_of_methodNamed Bd.named
  have hnm := (name_of_methodNamed Bd.named Bd.method).1
  have X0 : Stand p l e room_1 s m #[(.int p1)] below meth c s₁ [] 0 0 := Stand.of_body Bd
  have e0 : s₁.heap = h0 := by rw [← hh, Bd.state]; rfl
  have N0 := Fr.nil n0
  have pre0 : Steps p.tables e below (s₁.setTop (entryFrame m #[(.int p1)] maxLocals)) (s₁.setTop (mkF m 0 #[.val (.int p1), .unset, .unset, .unset] [])) := castTop (ef_rm0 m p1) (Steps.refl _)
  have pre1 : Steps p.tables e below _ (s₁.setTop (mkF m 8 #[.val (.int p1), .val (.int ((p1 &&& (65535 : Int32)).toUInt32.toUInt16.toUInt32.toInt32)), .val (.int ((p1 &&& (65535 : Int32)).toUInt32.toUInt16.toUInt32.toInt32)), .unset] [])) := pre0.trans (by
    show Steps p.tables e below (s₁.setTop (mkF m 0 #[.val (.int p1), .unset, .unset, .unset] [])) _
    refine XS.iloadN X0.here hx rfl (hb hby at_0) rfl ?_
    show Steps p.tables e below (s₁.setTop (mkF m 1 #[.val (.int p1), .unset, .unset, .unset] [(.int p1)])) _
    refine X0.ldcInt hx hown (mvT hZ (hw _ (List.mem_of_getElem? (i := 0) rfl))) (g := (mkF m 1 #[.val (.int p1), .unset, .unset, .unset] [(.int p1)])) rfl (hb hby at_1) _ ?_
    show Steps p.tables e below (s₁.setTop (mkF m 3 #[.val (.int p1), .unset, .unset, .unset] [(.int (65535 : Int32)), (.int p1)])) _
    refine XS.iand X0.here hx rfl (hb hby at_3) rfl ?_
    show Steps p.tables e below (s₁.setTop (mkF m 4 #[.val (.int p1), .unset, .unset, .unset] [(.int (p1 &&& (65535 : Int32)))])) _
    refine XS.i2c X0.here hx rfl (hb hby at_4) rfl ?_
    show Steps p.tables e below (s₁.setTop (mkF m 5 #[.val (.int p1), .unset, .unset, .unset] [(.int ((p1 &&& (65535 : Int32)).toUInt32.toUInt16.toUInt32.toInt32))])) _
    refine XS.istoreN X0.here hx rfl (hb hby at_5) rfl (l' := #[.val (.int p1), .val (.int ((p1 &&& (65535 : Int32)).toUInt32.toUInt16.toUInt32.toInt32)), .unset, .unset]) rfl ?_
    show Steps p.tables e below (s₁.setTop (mkF m 6 #[.val (.int p1), .val (.int ((p1 &&& (65535 : Int32)).toUInt32.toUInt16.toUInt32.toInt32)), .unset, .unset] [])) _
    refine XS.iloadN X0.here hx rfl (hb hby at_6) rfl ?_
    show Steps p.tables e below (s₁.setTop (mkF m 7 #[.val (.int p1), .val (.int ((p1 &&& (65535 : Int32)).toUInt32.toUInt16.toUInt32.toInt32)), .unset, .unset] [(.int ((p1 &&& (65535 : Int32)).toUInt32.toUInt16.toUInt32.toInt32))])) _
    refine XS.istoreN X0.here hx rfl (hb hby at_7) rfl (l' := #[.val (.int p1), .val (.int ((p1 &&& (65535 : Int32)).toUInt32.toUInt16.toUInt32.toInt32)), .val (.int ((p1 &&& (65535 : Int32)).toUInt32.toUInt16.toUInt32.toInt32)), .unset]) rfl ?_
    exact Steps.refl _)
  obtain ⟨c1, h_c1⟩ : ∃ z, z = ((p1 &&& (65535 : Int32)).toUInt32.toUInt16.toUInt32.toInt32) := ⟨_, rfl⟩
  rw [← h_c1] at pre1
  obtain ⟨v1, h_v1⟩ : ∃ z, z = own_ex_0_6 c1 := ⟨_, rfl⟩
  have Bex_1 (hv0 : v1 = own_ex_0_1 c1) : Steps p.tables e below (s₁.setTop (mkF m 32 #[.val (.int p1), .val (.int c1), .val (.int c1), .unset] [])) (s₁.setTop (mkF m 37 #[.val (.int p1), .val (.int c1), .val (.int c1), .unset] [(.int v1)])) := by
    have hw0 : v1 = (1 : Int32) := hv0
    rw [hw0]
    show Steps p.tables e below (s₁.setTop (mkF m 32 #[.val (.int p1), .val (.int c1), .val (.int c1), .unset] [])) _
    refine XS.iconst X0.here hx rfl (hb hby at_32) ?_
    show Steps p.tables e below (s₁.setTop (mkF m 33 #[.val (.int p1), .val (.int c1), .val (.int c1), .unset] [(.int (1 : Int32))])) _
    refine XS.goto X0.here hx rfl (pc0 := 33) (pc' := 37) rfl (hb hby at_33) (by decide) (by decide) ?_
    exact Steps.refl _
  have Bex_2 (hv0 : v1 = own_ex_0_2 c1) : Steps p.tables e below (s₁.setTop (mkF m 36 #[.val (.int p1), .val (.int c1), .val (.int c1), .unset] [])) (s₁.setTop (mkF m 37 #[.val (.int p1), .val (.int c1), .val (.int c1), .unset] [(.int v1)])) := by
    have hw0 : v1 = (0 : Int32) := hv0
    rw [hw0]
    show Steps p.tables e below (s₁.setTop (mkF m 36 #[.val (.int p1), .val (.int c1), .val (.int c1), .unset] [])) _
    refine XS.iconst X0.here hx rfl (hb hby at_36) ?_
    exact Steps.refl _
  have Bex_3 (hv0 : v1 = own_ex_0_3 c1) : Steps p.tables e below (s₁.setTop (mkF m 26 #[.val (.int p1), .val (.int c1), .val (.int c1), .unset] [])) (s₁.setTop (mkF m 37 #[.val (.int p1), .val (.int c1), .val (.int c1), .unset] [(.int v1)])) := by
    show Steps p.tables e below (s₁.setTop (mkF m 26 #[.val (.int p1), .val (.int c1), .val (.int c1), .unset] [])) _
    refine XS.iloadN X0.here hx rfl (hb hby at_26) rfl ?_
    show Steps p.tables e below (s₁.setTop (mkF m 27 #[.val (.int p1), .val (.int c1), .val (.int c1), .unset] [(.int c1)])) _
    refine XS.bipush X0.here hx rfl (hb hby at_27) ?_
    show Steps p.tables e below (s₁.setTop (mkF m 29 #[.val (.int p1), .val (.int c1), .val (.int c1), .unset] [(.int (11 : Int32)), (.int c1)])) _
    by_cases h29 : c1 = (11 : Int32)
    · refine XS.icmpYes X0.here hx rfl (pc0 := 29) (pc' := 36) rfl (hb hby at_29) rfl (teq h29).1 (by decide) (by decide) ?_
      exact Bex_2 (hv0.trans (if_pos h29))
    · refine XS.icmpNo X0.here hx rfl (hb hby at_29) rfl (feq h29).1 ?_
      exact Bex_1 (hv0.trans (if_neg h29))
  have Bex_4 (hv0 : v1 = own_ex_0_4 c1) : Steps p.tables e below (s₁.setTop (mkF m 20 #[.val (.int p1), .val (.int c1), .val (.int c1), .unset] [])) (s₁.setTop (mkF m 37 #[.val (.int p1), .val (.int c1), .val (.int c1), .unset] [(.int v1)])) := by
    show Steps p.tables e below (s₁.setTop (mkF m 20 #[.val (.int p1), .val (.int c1), .val (.int c1), .unset] [])) _
    refine XS.iloadN X0.here hx rfl (hb hby at_20) rfl ?_
    show Steps p.tables e below (s₁.setTop (mkF m 21 #[.val (.int p1), .val (.int c1), .val (.int c1), .unset] [(.int c1)])) _
    refine XS.bipush X0.here hx rfl (hb hby at_21) ?_
    show Steps p.tables e below (s₁.setTop (mkF m 23 #[.val (.int p1), .val (.int c1), .val (.int c1), .unset] [(.int (13 : Int32)), (.int c1)])) _
    by_cases h23 : (13 : Int32) < c1
    · refine XS.icmpYes X0.here hx rfl (pc0 := 23) (pc' := 36) rfl (hb hby at_23) rfl (tlt h23).2.2.1 (by decide) (by decide) ?_
      exact Bex_2 (hv0.trans (if_pos h23))
    · refine XS.icmpNo X0.here hx rfl (hb hby at_23) rfl (flt h23).2.2.1 ?_
      exact Bex_3 (hv0.trans (if_neg h23))
  have Bex_5 (hv0 : v1 = own_ex_0_5 c1) : Steps p.tables e below (s₁.setTop (mkF m 14 #[.val (.int p1), .val (.int c1), .val (.int c1), .unset] [])) (s₁.setTop (mkF m 37 #[.val (.int p1), .val (.int c1), .val (.int c1), .unset] [(.int v1)])) := by
    show Steps p.tables e below (s₁.setTop (mkF m 14 #[.val (.int p1), .val (.int c1), .val (.int c1), .unset] [])) _
    refine XS.iloadN X0.here hx rfl (hb hby at_14) rfl ?_
    show Steps p.tables e below (s₁.setTop (mkF m 15 #[.val (.int p1), .val (.int c1), .val (.int c1), .unset] [(.int c1)])) _
    refine XS.bipush X0.here hx rfl (hb hby at_15) ?_
    show Steps p.tables e below (s₁.setTop (mkF m 17 #[.val (.int p1), .val (.int c1), .val (.int c1), .unset] [(.int (9 : Int32)), (.int c1)])) _
    by_cases h17 : c1 < (9 : Int32)
    · refine XS.icmpYes X0.here hx rfl (pc0 := 17) (pc' := 36) rfl (hb hby at_17) rfl (tlt h17).1 (by decide) (by decide) ?_
      exact Bex_2 (hv0.trans (if_pos h17))
    · refine XS.icmpNo X0.here hx rfl (hb hby at_17) rfl (flt h17).1 ?_
      exact Bex_4 (hv0.trans (if_neg h17))
  have Bex_6 (hv0 : v1 = own_ex_0_6 c1) : Steps p.tables e below (s₁.setTop (mkF m 8 #[.val (.int p1), .val (.int c1), .val (.int c1), .unset] [])) (s₁.setTop (mkF m 37 #[.val (.int p1), .val (.int c1), .val (.int c1), .unset] [(.int v1)])) := by
    show Steps p.tables e below (s₁.setTop (mkF m 8 #[.val (.int p1), .val (.int c1), .val (.int c1), .unset] [])) _
    refine XS.iloadN X0.here hx rfl (hb hby at_8) rfl ?_
    show Steps p.tables e below (s₁.setTop (mkF m 9 #[.val (.int p1), .val (.int c1), .val (.int c1), .unset] [(.int c1)])) _
    refine XS.bipush X0.here hx rfl (hb hby at_9) ?_
    show Steps p.tables e below (s₁.setTop (mkF m 11 #[.val (.int p1), .val (.int c1), .val (.int c1), .unset] [(.int (32 : Int32)), (.int c1)])) _
    by_cases h11 : c1 = (32 : Int32)
    · refine XS.icmpYes X0.here hx rfl (pc0 := 11) (pc' := 32) rfl (hb hby at_11) rfl (teq h11).1 (by decide) (by decide) ?_
      exact Bex_1 (hv0.trans (if_pos h11))
    · refine XS.icmpNo X0.here hx rfl (hb hby at_11) rfl (feq h11).1 ?_
      exact Bex_5 (hv0.trans (if_neg h11))
  have pre2 : Steps p.tables e below _ (s₁.setTop (mkF m 37 #[.val (.int p1), .val (.int c1), .val (.int c1), .unset] [(.int v1)])) := pre1.trans (Bex_6 h_v1)
  have pre3 : Steps p.tables e below _ (s₁.setTop (mkF m 39 #[.val (.int p1), .val (.int c1), .val (.int c1), .val (.int v1)] [(.int c1)])) := pre2.trans (by
    show Steps p.tables e below (s₁.setTop (mkF m 37 #[.val (.int p1), .val (.int c1), .val (.int c1), .unset] [(.int v1)])) _
    refine XS.istoreN X0.here hx rfl (hb hby at_37) rfl (l' := #[.val (.int p1), .val (.int c1), .val (.int c1), .val (.int v1)]) rfl ?_
    show Steps p.tables e below (s₁.setTop (mkF m 38 #[.val (.int p1), .val (.int c1), .val (.int c1), .val (.int v1)] [])) _
    refine XS.iloadN X0.here hx rfl (hb hby at_38) rfl ?_
    exact Steps.refl _)
  obtain ⟨_, _, ⟨T4, L4, k4, n4⟩, -, X4, ⟨Lc4, hQ4, l4, y4, z4⟩, st4⟩ := Jvm.LawKit.callS X0 hx (y := (⟨"com/example/sound_schema/soundschema/Lexer", "isWhitespace", "(C)Z"⟩ : MethodName)) hown (mvT hZ (hw _ (List.mem_of_getElem? (i := 1) rfl))) (mvT hZ (hw _ (List.mem_of_getElem? (i := 2) rfl))) (mvT hZ (hw _ (List.mem_of_getElem? (i := 3) rfl))) (mvT hZ (hw _ (List.mem_of_getElem? (i := 4) rfl))) (by decide) (backOf (W := 0) (rm1 l Z a0 hw [] c1 h0 n0 Z0) hZ (hw _ (List.mem_of_getElem? (i := 4) rfl)) (hw _ (List.mem_of_getElem? (i := 3) rfl)) (by decide) (by decide)) (g := (mkF m 39 #[.val (.int p1), .val (.int c1), .val (.int c1), .val (.int v1)] [(.int c1)])) rfl (by rw [hml]; rfl) (argsL := [(.int c1)]) (rest := []) (lenOf pd_rm0_0 rfl) rfl (by show 2 * 0 + _ ≤ _; exact Nat.le_of_eq rfl) (hb hby at_39) (fun _ _ => ⟨rfl, e0, (by decide : 0 + 0 ≤ _), (by decide : 0 + 0 ≤ _)⟩)
  dsimp only [Pt.U, Pt.locs, Pt.cells, Pt.slots] at X4 l4 y4 z4 st4 hQ4
  subst l4 y4 z4
  obtain ⟨rfl, N4q, hh4⟩ := hQ4
  have N4 := Fr.app N0 N4q
  have pre4 : Steps p.tables e below _ (T4.setTop (mkF m 42 #[.val (.int p1), .val (.int c1), .val (.int c1), .val (.int v1)] [(.int (own_ws_0_7 c1))])) := pre3.trans (st4 _ (Steps.refl _))
  have hres : own_ws_0_7 c1 = v1 := by rw [h_v1]; exact own_ok _
  have pre5 : Steps p.tables e below _ (T4.setTop (mkF m 51 #[.val (.int p1), .val (.int c1), .val (.int c1), .val (.int v1)] [(.int (1 : Int32))])) := pre4.trans (by
    show Steps p.tables e below (T4.setTop (mkF m 42 #[.val (.int p1), .val (.int c1), .val (.int c1), .val (.int v1)] [(.int (own_ws_0_7 c1))])) _
    refine XS.iloadN X4.here hx rfl (hb hby at_42) rfl ?_
    show Steps p.tables e below (T4.setTop (mkF m 43 #[.val (.int p1), .val (.int c1), .val (.int c1), .val (.int v1)] [(.int v1), (.int (own_ws_0_7 c1))])) _
    refine XS.icmpNo X4.here hx rfl (hb hby at_43) rfl (teq (hres)).2 ?_
    show Steps p.tables e below (T4.setTop (mkF m 46 #[.val (.int p1), .val (.int c1), .val (.int c1), .val (.int v1)] [])) _
    refine XS.iconst X4.here hx rfl (hb hby at_46) ?_
    show Steps p.tables e below (T4.setTop (mkF m 47 #[.val (.int p1), .val (.int c1), .val (.int c1), .val (.int v1)] [(.int (1 : Int32))])) _
    refine XS.goto X4.here hx rfl (pc0 := 47) (pc' := 51) rfl (hb hby at_47) (by decide) (by decide) ?_
    exact Steps.refl _)
  obtain ⟨fs, hr, hrun, hended, hW, hsame⟩ := X4.leave (v := some (.int (1 : Int32))) (fun h => by rw [Bd.returns] at h; cases h)
  refine ⟨_, _, pre5.trans ?_, hrun, hended, _, _, rfl, ?_, ⟨_, rfl⟩, hW, hsame.mono (by decide) (by decide)⟩
  · exact retN X4 hx (t := .boolean) Bd.returns (by simp) (hb hby at_51) hr
  · exact ⟨rfl, N4⟩
set_option maxRecDepth 65536 in
set_option maxHeartbeats 40000000 in
theorem comes_1 {Post : Tables → Env → Array Value → State → Outcome → State → Prop} (hpost : ∀ tb e args s v u, (limb_1_1.after args s (.returned v) u = true ∧ limb_1_2.after args s (.returned v) u = true ∧ True) → FrameEnd s (.returned v) u (Jvm.fieldLocs frame_1_writes args s ++ Jvm.arrayLocs frame_1_arrays args s ++ Jvm.staticLocs frame_1_statics s) 0 0 → Post tb e args s (.returned v) u) :
    ArmFor flags0 classFile x code maxLocals ret World_1 tables_1 room_1 Calls_1 rest_1 Pre_1 Post := by
  intro l hfl _ _ p e ha hc hk s m args below hf hA hF happ hP
  obtain ⟨hcalls, hrest, hpre⟩ := hP
  obtain ⟨-, -, -, hnamed, -, -, -, hat⟩ := (Spec.applies_iff hf).mp happ
  obtain ⟨hg, hn⟩ := and_e (Cond.before_iff.mp (show (Jvm.Cond.and given_1 narrow_1).before args s = true from hpre))
  obtain ⟨g0, r0⟩ := and_e hg
  obtain ⟨w0, rfl⟩ : ∃ w0 : Value, args = #[w0] := by
    have hs : args.size = 1 := by simpa [Cond.value, given_1] using g0
    obtain ⟨L⟩ := args
    match L, hs with
    | [w0], _ => exact ⟨w0, rfl⟩
  have hw := fun d (hd : d ∈ tables_1) => atoms_spec (ws := Jvm.Cond.code x code maxLocals ret :: tables_1) hat d (List.mem_cons_of_mem _ hd)
  have hfit : Fit s := fun {y c} hc i hi => by
    obtain ⟨ha, rfl⟩ := Array.getElem?_eq_some_iff.mp hc
    have q := List.all_eq_true.mp ((Array.all_eq_true_iff_forall_mem.mp hF) _ (Array.getElem_mem ha)) i (List.mem_range.mpr hi)
    simpa [Array.getElem?_eq_getElem hi] using q
  obtain ⟨i0, ei0⟩ := is_v r0
  obtain rfl : w0 = (.int i0) := Option.some.inj ei0
  obtain ⟨n, o, h1, h2, h3, _, L, rfl, ⟨rfl, N⟩, hq⟩ := rm0 l s _ hw tables_1 i0 s.heap s.heap.size (Nat.le_refl _)  p e ha hc hk s m _ below hf ((Spec.applies_iff_loose hf).mp happ).1 ⟨rfl, State.Warmed39.refl s, rfl⟩ trivial
  refine ⟨n, _, h1, h2, h3, hpost _ _ _ _ _ _ ⟨Cond.after_iff.mpr rfl, Cond.after_iff.mpr (eq_i res_at (Term.int_eval (1)) rfl), trivial⟩ ⟨hq.1, hq.2.1, (hq.2.2.sift fun y hy => Or.inr (N y hy)).mono (by decide) (by decide)⟩⟩
theorem main_1_1 : Claimed_1_1 := comes_1 fun _ _ _ _ _ _ h hF => ⟨h.1, hF⟩
theorem main_1_2 : Claimed_1_2 := comes_1 fun _ _ _ _ _ _ h hF => ⟨h.2.1, hF⟩
end Jvm.Pilot.@@N@@
namespace Jvm.Pilot.@@N@@
open Jvm Jvm.ClassFile Sem Op Lib Jvm.Free Jvm.Stand Jvm.Pilot.@@N@@.Jvm.D
/-! MADE BY PROGRAM (witnessworld.py) out of the Statement's table words and the real class files: 9 classes; the members and pool entries that the words name. The judged class is class 1, her method 1. -/
namespace start1
open Jvm.ClassFile
def u (s : String) : CpInfo := .utf8 (stringToUtf16 s)
/-- a pool by its gaps: so many unusable entries, then the entry; so many at the end -/
def gap : Nat → List CpInfo → List CpInfo
  | 0, r => r
  | n + 1, r => .unusable :: gap n r
def poolList (es : List (Nat × CpInfo)) (last : Nat) : List CpInfo := es.foldr (fun e r => gap e.1 (e.2 :: r)) (gap last [])
def pool (es : List (Nat × CpInfo)) (last : Nat) : Array CpInfo := ⟨poolList es last⟩
def fileOf (pool : Array CpInfo) (this : Nat) (attrs : Array Attribute := #[]) (ms : Array MethodInfo := #[]) (fl : Nat := 33) (sup : Nat := 0) (ifs : Array Nat := #[]) (fds : Array FieldInfo := #[]) : ClassFile where
  minorVersion := 0
  majorVersion := 65
  constantPool := pool
  accessFlags := fl
  thisClass := this
  superClass := sup
  interfaces := ifs
  fields := fds
  methods := ms
  attributes := attrs
def plain (name : String) (sup : Option ClassId) : Class where
  name := name
  kind := .ordinary
  loader := none
  accessFlags := 33
  super := sup
  interfaces := #[]
  cf := none
  fields := #[]
  methods := #[]
  instanceTypes := #[]
  staticTypes := #[]
  resolved := #[]
  callSites := []
  init := .initialized
  statics := none
  mirror := none

def pool0 : Array CpInfo := pool [(5, u "<init>"), (0, u "()V"), (1, .class_ 10), (1, u "java/lang/Object")] 113

def k0m0 : Method := { name := "<init>", desc := "()V", sig := { parameters := [], returnType := none }, accessFlags := 1, code := none }
/-- java/lang/Object -/
def k0 : Class := { plain "java/lang/Object" none with
  accessFlags := 33
  interfaces := #[]
  cf := some (fileOf pool0 8 #[] #[{ accessFlags := 1, nameIndex := 5, descriptorIndex := 6, attributes := #[] }] 33 0 #[] #[])
  fields := #[]
  methods := #[k0m0]
  instanceTypes := #[]
  staticTypes := #[]
  resolved := Array.replicate 124 none
  statics := none }

def pool1 : Array CpInfo := pool [(2, .class_ 4), (1, u "java/lang/Object"), (0, u "<init>"), (0, u "()V"), (0, .integer 65535), (0, .methodref 9 10), (0, .class_ 11), (0, .nameAndType 12 13), (0, u "com/example/sound_schema/soundschema/Lexer"), (0, u "isWhitespace"), (0, u "(C)Z"), (0, .class_ 15), (0, u "com/example/sound_schema/soundschema/LexerIsWhitespacePinLaw"), (2, u "law"), (0, u "(I)Z")] 3

def k1m0 : Method := { name := "<init>", desc := "()V", sig := { parameters := [], returnType := none }, accessFlags := 2, code := none }
def k1c1 : Code := { maxStack := 2, maxLocals := 4, code := code, exceptionTable := #[], attributes := #[] }
def k1m1 : Method := { name := "law", desc := "(I)Z", sig := { parameters := [.int], returnType := some .boolean }, accessFlags := 9, code := some k1c1 }
/-- com/example/sound_schema/soundschema/LexerIsWhitespacePinLaw -/
def k1 : Class := { plain "com/example/sound_schema/soundschema/LexerIsWhitespacePinLaw" (some 0) with
  accessFlags := 49
  interfaces := #[]
  cf := some (fileOf pool1 14 #[] #[{ accessFlags := 2, nameIndex := 5, descriptorIndex := 6, attributes := #[] }, { accessFlags := 9, nameIndex := 18, descriptorIndex := 19, attributes := #[] }] 49 2 #[] #[])
  fields := #[]
  methods := #[k1m0, k1m1]
  instanceTypes := #[]
  staticTypes := #[]
  resolved := Array.replicate 23 none
  statics := none }

def pool2 : Array CpInfo := pool [(2, .class_ 4), (1, u "java/lang/Object"), (3, .class_ 10), (1, u "com/example/sound_schema/soundschema/Lexer"), (0, u "line"), (0, u "I"), (2, u "source"), (0, u "Ljava/lang/String;"), (2, u "text"), (9, u "at"), (5, .class_ 36), (0, u "com/example/sound_schema/soundschema/Lexer$Token"), (1, .class_ 40), (1, u "com/example/sound_schema/soundschema/Lexer$Kind"), (19, u "PUNCTUATION"), (14, u "(C)Z"), (59, u "isWhitespace"), (2, u "lineStart")] 35

def k2c0 : Code := { maxStack := 2, maxLocals := 1, code := prog_23_method_8_code, exceptionTable := #[], attributes := #[] }
def k2m0 : Method := { name := "isWhitespace", desc := "(C)Z", sig := { parameters := [.char], returnType := some .boolean }, accessFlags := 8, code := some k2c0 }
/-- com/example/sound_schema/soundschema/Lexer -/
def k2 : Class := { plain "com/example/sound_schema/soundschema/Lexer" (some 0) with
  accessFlags := 48
  interfaces := #[]
  cf := some (fileOf pool2 8 #[.nestMembers #[35, 38]] #[{ accessFlags := 8, nameIndex := 135, descriptorIndex := 75, attributes := #[] }] 48 2 #[] #[{ accessFlags := 26, nameIndex := 60, descriptorIndex := 16, attributes := #[] }, { accessFlags := 18, nameIndex := 15, descriptorIndex := 16, attributes := #[] }, { accessFlags := 18, nameIndex := 19, descriptorIndex := 16, attributes := #[] }, { accessFlags := 2, nameIndex := 29, descriptorIndex := 12, attributes := #[] }, { accessFlags := 2, nameIndex := 11, descriptorIndex := 12, attributes := #[] }, { accessFlags := 2, nameIndex := 138, descriptorIndex := 12, attributes := #[] }])
  fields := #[{ name := "PUNCTUATION", type := (.object "java/lang/String"), accessFlags := 26, slot := 0, constantValue := 0 }, { name := "source", type := (.object "java/lang/String"), accessFlags := 18, slot := 0, constantValue := 0 }, { name := "text", type := (.object "java/lang/String"), accessFlags := 18, slot := 1, constantValue := 0 }, { name := "at", type := .int, accessFlags := 2, slot := 2, constantValue := 0 }, { name := "line", type := .int, accessFlags := 2, slot := 3, constantValue := 0 }, { name := "lineStart", type := .int, accessFlags := 2, slot := 4, constantValue := 0 }]
  methods := #[k2m0]
  instanceTypes := #[(.object "java/lang/String"), (.object "java/lang/String"), .int, .int, .int]
  staticTypes := #[(.object "java/lang/String")]
  resolved := Array.replicate 174 none
  statics := none }

def pool3 : Array CpInfo := pool [(1, u "java/lang/Cloneable"), (0, .class_ 1), (0, u "java/lang/Object"), (0, .class_ 3)] 3

/-- java/lang/Cloneable -/
def k3 : Class := { plain "java/lang/Cloneable" (some 0) with
  accessFlags := 1537
  interfaces := #[]
  cf := some (fileOf pool3 2 #[] #[] 1537 4 #[] #[])
  fields := #[]
  methods := #[]
  instanceTypes := #[]
  staticTypes := #[]
  resolved := Array.replicate 8 none
  statics := none }

def pool4 : Array CpInfo := pool [(1, u "java/io/Serializable"), (0, .class_ 1), (0, u "java/lang/Object"), (0, .class_ 3)] 3

/-- java/io/Serializable -/
def k4 : Class := { plain "java/io/Serializable" (some 0) with
  accessFlags := 1537
  interfaces := #[]
  cf := some (fileOf pool4 2 #[] #[] 1537 4 #[] #[])
  fields := #[]
  methods := #[]
  instanceTypes := #[]
  staticTypes := #[]
  resolved := Array.replicate 8 none
  statics := none }

/-- the primitive byte -/
def k5 : Class := { plain "byte" none with kind := .primitive 'B', accessFlags := 0x411 }
/-- [B -/
def k6 : Class := { plain "[B" (some 0) with kind := .array 5 .byte, interfaces := #[3, 4], accessFlags := 1041 }

/-- the primitive int -/
def k7 : Class := { plain "int" none with kind := .primitive 'I', accessFlags := 0x411 }
/-- [I -/
def k8 : Class := { plain "[I" (some 0) with kind := .array 7 .int, interfaces := #[3, 4], accessFlags := 1041 }

def heap : Heap := #[]
def classes : Array Class := #[k0, k1, k2, k3, k4, k5, k6, k7, k8]
def interned : List (Array UInt16 × Addr) := []
def slotsUsed : Nat := 0
def theMethod : MethodId := ⟨1, 1⟩
def args0 : Array Value := #[.int 9]
def aboutOver (below : List Frame) : State where
  vm := { classes := classes, interned := interned.toArray }
  heap := heap
  slotsUsed := slotsUsed
  threads := #[{ frames := .invoking theMethod args0 :: below }]
def below0 : List Frame := [.native { method := ⟨0, 0⟩, args := #[] }]
def about1 : State := aboutOver below0
def p0 : Program := .bare "" "" ""
def e0 : Env := launch0.env 0 0 0
theorem w_frames : about1.frames = Frame.invoking theMethod args0 :: below0 := rfl
set_option maxRecDepth 65536 in
theorem w_args : argsFit about1.vm theMethod args0 = true := by decide +kernel
set_option maxRecDepth 65536 in
theorem w_heap : heapFits about1 = true := by decide +kernel
set_option maxRecDepth 65536 in
theorem w_runnable : about1.curStatus? = some .runnable := by decide +kernel
set_option maxRecDepth 65536 in
theorem w_alone : about1.alone = true := by decide +kernel
set_option maxRecDepth 65536 in
theorem w_named : about1.methodNamed? x = some theMethod := by decide +kernel
set_option maxRecDepth 65536 in
theorem w_hears : about1.hears theMethod below0 = true := by decide +kernel
set_option maxRecDepth 65536 in
theorem w_ripe : about1.ripe theMethod args0 below0 = true := by decide +kernel
theorem w_running : about1.status = .running := rfl
set_option maxRecDepth 65536 in
theorem w_room : about1.hasRoom e0.platform room_1 = true :=
  launch0.hasRoom_least _ room_1 (by decide +kernel) (by decide +kernel) (by decide +kernel) (by decide +kernel) (by decide +kernel) (by decide +kernel)
theorem allAtoms_all (ts : List Jvm.Cond) (a : Array Jvm.Value) (st : Jvm.State) : (allAtoms ts).before a st = ts.all (fun c => c.before a st) := by
  induction ts with
  | nil => rfl
  | cons c t ih =>
    show (Jvm.Cond.and c (allAtoms t)).before a st = _
    rw [Jvm.Cond.before_and, ih, List.all_cons]
def words1 : List Jvm.Cond := Jvm.Cond.code x code maxLocals ret :: tables_1
/-- a 'code' word, met by the world's own term for the bytes: nothing is compared byte by byte -/
theorem code_word {y : MethodName} {bytes : ByteArray} {mx : Nat} {rt : Option FieldType} {a : Array Value} {s : State} {m : MethodId} {meth : Method} {c : Code} (h1 : s.methodNamed? y = some m) (h2 : s.vm.method? m = some meth) (h3 : meth.code = some c) (h4 : c.code = bytes)
    (h5 : (c.maxLocals == mx && c.exceptionTable.isEmpty && decide (c.maxStack ≤ mostOperands) && decide (meth.sig.returnType = rt) && !meth.locks && decide (parseMethodDescriptor y.desc = some meth.sig)) = true) : (Jvm.Cond.code y bytes mx rt).before a s = true := by
  simp only [Bool.and_eq_true, beq_iff_eq, Bool.not_eq_true', decide_eq_true_eq] at h5
  obtain ⟨⟨⟨⟨⟨g1, g2⟩, g3⟩, g4⟩, g5⟩, g6⟩ := h5
  simp [Cond.before, Cond.holds, Cond.value, h1, h2, h3, h4, g1, g2, g3, g4, g5, g6]
def isCode : Jvm.Cond → Bool
  | .code _ _ _ _ => true
  | _ => false
theorem all_split {L : List Jvm.Cond} {P : Jvm.Cond → Bool} (h1 : L.all (fun c => isCode c || P c) = true) (h2 : ∀ c ∈ L.filter isCode, P c = true) : L.all P = true := by
  refine List.all_eq_true.mpr fun c hc => ?_
  have h := List.all_eq_true.mp h1 c hc
  rcases Bool.eq_false_or_eq_true (isCode c) with hi | hi
  · exact h2 c (List.mem_filter.mpr ⟨hc, hi⟩)
  · simpa [hi] using h
set_option maxRecDepth 65536 in
theorem w_c0 : (Jvm.Cond.code x code maxLocals ret).before args0 about1 = true := code_word (m := ⟨1, 1⟩) (meth := k1m1) (c := k1c1) (by decide +kernel) rfl rfl rfl (by decide +kernel)
set_option maxRecDepth 65536 in
theorem w_c1 : (Jvm.Cond.code ({ cls := "com/example/sound_schema/soundschema/Lexer", name := "isWhitespace", desc := "(C)Z" } : Jvm.MethodName) prog_23_method_8_code (1 : Nat) (Option.some Jvm.ClassFile.FieldType.boolean)).before args0 about1 = true := code_word (m := ⟨2, 0⟩) (meth := k2m0) (c := k2c0) (by decide +kernel) rfl rfl rfl (by decide +kernel)
def codes1 : List Jvm.Cond := [Jvm.Cond.code x code maxLocals ret, Jvm.Cond.code ({ cls := "com/example/sound_schema/soundschema/Lexer", name := "isWhitespace", desc := "(C)Z" } : Jvm.MethodName) prog_23_method_8_code (1 : Nat) (Option.some Jvm.ClassFile.FieldType.boolean)]
set_option maxRecDepth 65536 in
theorem codes_eq : words1.filter isCode = codes1 := rfl
theorem w_codes : ∀ c ∈ words1.filter isCode, c.before args0 about1 = true := by
  rw [codes_eq]
  intro c hc
  simp only [codes1, List.mem_cons, List.not_mem_nil, or_false] at hc
  rcases hc with rfl | rfl
  · exact w_c0
  · exact w_c1
set_option maxRecDepth 65536 in
theorem w_t1 : words1.all (fun c => isCode c || c.before args0 about1) = true := by decide +kernel
theorem w_tables : (allAtoms (Jvm.Cond.code x code maxLocals ret :: tables_1)).before args0 about1 = true := by
  rw [allAtoms_all]
  show words1.all (fun c => c.before args0 about1) = true
  refine all_split ?_ w_codes
  rw [w_t1]
set_option maxRecDepth 65536 in
theorem w_case : (Jvm.Cond.and given_1 narrow_1).before args0 about1 = true := by decide +kernel
theorem w_applies : (headSpec (Jvm.Cond.code x code maxLocals ret :: tables_1) room_1).applies x e0.platform about1 = true :=
  (Spec.applies_iff w_frames).mpr ⟨w_running, w_runnable, w_alone, w_named, w_hears, w_ripe, w_room, w_tables⟩
theorem atStart : AtStart classFile x code maxLocals ret World_1 tables_1 room_1 Calls_1 rest_1 Pre_1 launch0 p0 e0 about1 theMethod args0 below0 :=
  ⟨lists_1, trivial, launch0.admits_env _ _ _, launch0.least_env, fairChoices_fair.cas, fairChoices_fair.clock, w_frames, w_args, w_heap, w_applies, trivial, trivial, w_case⟩
end start1
theorem witness_1 : WitnessClaimed_1 := ⟨start1.p0, start1.e0, start1.about1, start1.theMethod, start1.args0, start1.below0, start1.atStart⟩
end Jvm.Pilot.@@N@@
